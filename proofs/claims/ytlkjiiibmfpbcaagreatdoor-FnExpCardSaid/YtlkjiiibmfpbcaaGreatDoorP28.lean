/- The end of Montgomery's exponentiation: the product with one, and the remainder. Conditions: an odd modulus of fewer than 40 words. -/
import Derived.ArgAppend
import Derived.Test.YtlkjiiibmfpbcaaGreatDoorP27
namespace Go.Proofs.YtlkjiiibmfpbcaaGreatDoor
open Go
theorem Bank.weak {w : World} {s : Sl} {V : Nat} {L : List Item} (h : Bank w (nmz s V :: L)) : Bank w (num s V :: L) :=
 ⟨fun a ha => by
  rcases List.mem_cons.1 ha with rfl | ha
  ·have h1 : Nz w s V := h.head
   exact h1.toNt
  ·exact h.all a (by simp [ha]), by
   have hd := h.dj
   simp only [List.pairwise_cons] at hd ⊢
   exact ⟨fun b hb => hd.1 b hb, hd.2⟩⟩
theorem Bank.weaken {w : World} {a a' : Item} {L : List Item} (h : Bank w (a :: L)) (hf : a'.fp = a.fp) (hP : a.P w → a'.P w) : Bank w (a' :: L) :=
 ⟨fun b hb => by
  rcases List.mem_cons.1 hb with rfl | hb
  ·exact hP h.head
  ·exact h.all b (by simp [hb]), by
   have hd := h.dj
   simp only [List.pairwise_cons] at hd ⊢
   exact ⟨fun b hb => by rw [hf]; exact hd.1 b hb, hd.2⟩⟩
theorem Bank.sub {w : World} {L L' : List Item} (h : Bank w L) (hs : L'.Sublist L) : Bank w L' := ⟨fun a ha => h.all a (hs.subset ha), h.dj.sublist hs⟩
theorem sub_mod {Z M : Nat} (h : M ≤ Z) : (Z - M) % M = Z % M := (Nat.mod_eq_sub_mod h).symm
theorem fin74 {w : World} {K : SK} {z zz one m : Sl} {A M X ex k n : Nat} {L : List Item} (h : Bank w (sto zz :: stk K :: L)) (hz : Has L z A) (ho : Has L one 1) (hm : nmz m M ∈ L) (lz : z.l = n) (lo : one.l = n) (lm : m.l = n) (hn0 : n ≠ 0) (hn : n < 40) (hM : M % 2 = 1)
  (hkB : k < 18446744073709551616) (hk : (k * M + 1) % BB = 0) (hA : Mg M (BB ^ n) X A ex) (hL : K.s.l ≤ 1099511627776) (hg : Glb w) (e : Env) (K0 : Kont) (hag : agree e (F74.l10 z.a z.l z.c K.a m.a m.l m.c n k zz.a zz.l zz.c one.a one.l one.c))
  (hK : ∀ (r : Sl) (K' : SK) (w' : World) (e' : Env), Bank w' (stk K' :: nmz r (X ^ ex % M) :: L) → K'.a = K.a → K'.s.l = K.s.l → Nxt w K K' → Sub w zz r → Chg w w' (un (fp zz) K.free) → e'.get 10 = r.v → e'.defers = e.defers → K0 .ret e' w') :
  W Tryz.prog 239 F74.p10 e w K0 := by
 have hzz : St w zz := h.head
 have hM0 : M ≠ 0 := by omega
 have hcop := odd_cop hM n
 have last : ∀ (s : Sl) (V : Nat) (K' : SK) (w' : World) (B : Nat → Value), V % M = X ^ ex % M → V < M → Bank w' (stk K' :: num s V :: L) → K'.a = K.a → K'.s.l = K.s.l → Nxt w K K' → Sub w zz s → Chg w w' (un (fp zz) K.free) →
   W Tryz.prog 239 F74.p13 (E [(17, s.v)] B e.defers) w' K0 := by
  intro s V K' w' B hV hlt hb h1 h2 h3 h4 h5
  have hs : Nt w' s V := hb.all (num s V) (by simp)
  have hVe : V = X ^ ex % M := by rw [← hV, Nat.mod_eq_of_lt hlt]
  subst hVe
  refine F74.t13 s.a s.l s.c ⟨rfl, trivial⟩ fun B1 => (c46 s _ w' hs (by have := hs.lc; have := hs.cm; omega)).mono ?_
  rintro e1 w1 ⟨_, rfl, kk, hkk, rfl, hw, hnz⟩
  have hw := hw.symm
  subst hw
  refine ⟨_, _, _, rfl, fun B2 => hK (s.to kk) K' _ _ ?_ h1 h2 h3 h4 h5 rfl rfl⟩
  exact ⟨fun a ha => by
   simp only [List.mem_cons] at ha
   rcases ha with rfl | rfl | ha
   ·exact hb.head
   ·exact hnz
   ·exact hb.all a (by simp [ha]), by
    have hd := hb.dj
    simp only [List.pairwise_cons] at hd ⊢
    exact ⟨fun b hb' => by
     rcases List.mem_cons.1 hb' with rfl | hb'
     ·exact hd.1 (num s (X ^ ex % M)) (by simp)
     ·exact hd.1 b (by simp [hb']), hd.2⟩⟩
 refine F74.t10 z.a z.l z.c K.a m.a m.l m.c n k zz.a zz.l zz.c one.a one.l one.c hag fun B => ?_
 refine mont_has h rfl hzz (hz.cons _) (ho.cons _) (.inr (List.mem_cons_of_mem _ hm)) lz lo lm hn0 (by omega) hkB hk fun r Z w1 hrl hZ hb1 hc1 hf1 => ⟨_, _, _, rfl, ?_⟩
 have hZe : Z % M = X ^ ex % M := Mg.back hcop hA hZ
 have hr1 : Nt w1 r Z := hb1.head
 have hm1 : Nz w1 m M := hb1.all (nmz m M) (by simp [hm])
 have hs1 : Sub w zz r := (Sub.self w zz).from_ hf1 (Nat.le_refl _)
 refine (c92g r m Z M w1 hr1 hm1.toNt (.inl (by omega))).mono ?_
 rintro e2 w2 ⟨_, rfl, rfl, hc2⟩
 refine ⟨_, rfl, ?_⟩
 have hb2 := hb1.none hc2
 have hc12 : Chg w w2 (un (fp zz) K.free) := (hc1.trans hc2 (fun _ _ _ h => h) fun _ _ _ h => h.elim).mono fun _ _ _ h => .inl h
 refine bc_intro (fun hb => ?_) (fun hb B2 => ?_)
 ·have hge : M ≤ Z := by
   have := dT hb
   unfold sgn at this
   rcases Nat.lt_or_ge Z M with h1 | h1
   ·rw [if_pos h1] at this; omega
   ·exact h1
  have hrz : Nz w2 r Z := nz_of_ge hb2.head (hb2.all (nmz m M) (by simp [hm])) (by omega) hge
  have hm2 : Nz w2 m M := hb2.all (nmz m M) (by simp [hm])
  have drm : Dj (fp r) (fp m) := hb2.hdj (b := nmz m M) (by simp [hm])
  refine ResE.pass (c52 r r m Z M w2 hrz.toSt hrz hm2 (.inr (.inr (.inr (.inr (.inr rfl))))) (drm.al hm2.toSt).sep (by unfold Len; omega) hge) fun r3 w3 h31 h32 h33 => ⟨_, _, _, rfl, ?_⟩
  have hb3 : Bank w3 (nmz r3 (Z - M) :: stk K :: L) := hb2.res rfl h32 h33 h31 rfl
  have hs3 : Sub w zz r3 := hs1.from_ h32 hc12.size
  have hc3 : Chg w w3 (un (fp zz) K.free) := hc12.trans h33 (fun _ _ _ h => h) fun b i hb hm => .inl (hs1 b i hb hm)
  have hm3 : Nz w3 m M := hb3.all (nmz m M) (by simp [hm])
  refine (c92 r3 m (Z - M) M w3 h31 hm3).mono ?_
  rintro e4 w4 ⟨_, rfl, rfl, hc4⟩
  refine ⟨_, rfl, ?_⟩
  have hb4 := hb3.none hc4
  have hc34 : Chg w w4 (un (fp zz) K.free) := hc3.trans hc4 (fun _ _ _ h => h) fun _ _ _ h => h.elim
  have hmod : (Z - M) % M = X ^ ex % M := by rw [sub_mod hge, hZe]
  refine bc_intro (fun hb => ?_) (fun hb B2 => ?_)
  ·have hg4 : Glb w4 := hc34.glb hg
   have n0 : Nz w4 (nilS w4) 0 := nz_zero (nilSt w4 hg4.gb)
   have hb5 : Bank w4 (stk K :: nmz (nilS w4) 0 :: nmz (nilS w4) 0 :: nmz r3 (Z - M) :: L) := ((hb4.addNil w4 hg4.gb n0).addNil w4 hg4.gb n0).perm (by
    have q1 : ([nmz (nilS w4) 0, nmz (nilS w4) 0, nmz r3 (Z - M)] ++ (stk K :: L)).Perm (stk K :: ([nmz (nilS w4) 0, nmz (nilS w4) 0, nmz r3 (Z - M)] ++ L)) := List.perm_middle
    exact q1)
   have hr4 : Nz w4 r3 (Z - M) := hb4.head
   have hlr : r3.l ≤ n := hr4.nm _ (by have := hr1.lt; rw [hrl] at this; omega)
   refine div_bank hb5 rfl rfl (nilSt w4 hg4.gb) (nilSt w4 hg4.gb) (List.mem_cons_self ..) (List.mem_cons_of_mem _ hm) hM0 (by omega) (by omega) hL hg4 fun c r6 K6 w6 hb6 ka6 kl6 kn6 hf6 hf6' hc6 => ⟨_, _, _, trivial, _, _, _, trivial, rfl, fun B6 => ?_⟩
   have hb7 : Bank w6 (stk K6 :: nmz r6 ((Z - M) % M) :: L) := hb6.sub (.cons_cons _ (.cons _ (.cons_cons _ (.cons _ (List.Sublist.refl _)))))
   have hb8 : Bank w6 (stk K6 :: num r6 ((Z - M) % M) :: L) := (hb7.perm (List.Perm.swap _ _ _)).weak.perm (List.Perm.swap _ _ _)
   refine last r6 ((Z - M) % M) K6 w6 B6 (by rw [Nat.mod_mod]; exact hmod) (Nat.mod_lt _ (by omega)) hb8 ka6 kl6 (kn6.mono hc34.size) ?_ ?_
   ·exact Sub.from_ (fun b i _ hm' => (nil_dj w4 (fun _ _ => True) b i trivial hm').elim) hf6' hc34.size
   ·exact hc34.trans hc6 (fun _ _ _ h => h) fun b i _ hm' => hm'.elim (fun hm' => hm'.elim (fun hm' => (nil_dj w4 (fun _ _ => True) b i trivial hm').elim) fun hm' => (nil_dj w4 (fun _ _ => True) b i trivial hm').elim) .inr
  ·refine last r3 (Z - M) K w4 B2 hmod ?_ ?_ rfl rfl (Nxt.refl _ _) hs3 hc34
   ·have := dF hb
    unfold sgn at this
    rcases Nat.lt_or_ge (Z - M) M with h1 | h1
    ·exact h1
    ·rw [if_neg (by omega)] at this
     split at this <;> omega
   ·exact hb4.weak.perm (List.Perm.swap _ _ _)
 ·refine last r Z K w2 B2 hZe ?_ (hb2.perm (List.Perm.swap _ _ _)) rfl rfl (Nxt.refl _ _) hs1 hc12
  have := dF hb
  unfold sgn at this
  rcases Nat.lt_or_ge Z M with h1 | h1
  ·exact h1
  ·rw [if_neg (by omega)] at this
   split at this <;> omega
end Go.Proofs.YtlkjiiibmfpbcaaGreatDoor
namespace Go.Proofs.YtlkjiiibmfpbcaaGreatDoor
open Go
def nthL : List Item → Nat → List Item
 | a :: _, 0 => [a]
 | _ :: L, i + 1 => nthL L i
 | [], _ => []
def pk (L : List Item) : List Nat → List Item
 | [] => []
 | i :: r => nthL L i ++ pk L r
def dropL : Nat → List Item → List Item
 | 0, L => L
 | _ + 1, [] => []
 | n + 1, _ :: L => dropL n L
theorem nthL_mem : ∀ {L : List Item} {i : Nat} {a : Item}, a ∈ nthL L i → ∃ h : i < L.length, L[i] = a
 | [], i, a, h => by simp [nthL] at h
 | b :: L, 0, a, h => by simp [nthL] at h; exact ⟨by simp, h.symm⟩
 | b :: L, i + 1, a, h => by
  obtain ⟨h1, h2⟩ := nthL_mem (L := L) (i := i) h
  exact ⟨by simp; omega, by simpa using h2⟩
theorem nthL_one : ∀ (L : List Item) (i : Nat), nthL L i = [] ∨ ∃ a, nthL L i = [a]
 | [], i => .inl rfl
 | b :: L, 0 => .inr ⟨b, rfl⟩
 | b :: L, i + 1 => nthL_one L i
theorem pk_mem {L : List Item} : ∀ {is : List Nat} {a : Item}, a ∈ pk L is → ∃ i ∈ is, ∃ h : i < L.length, L[i] = a
 | [], a, h => by simp [pk] at h
 | i :: r, a, h => by
  rcases List.mem_append.1 h with h | h
  ·exact ⟨i, by simp, nthL_mem h⟩
  ·obtain ⟨j, hj, h2⟩ := pk_mem h
   exact ⟨j, by simp [hj], h2⟩
theorem dropL_mem : ∀ {n : Nat} {L : List Item} {a : Item}, a ∈ dropL n L → ∃ i, n ≤ i ∧ ∃ h : i < L.length, L[i] = a
 | 0, L, a, h => by
  obtain ⟨i, hi, e⟩ := List.getElem_of_mem (show a ∈ L from h)
  exact ⟨i, Nat.zero_le _, hi, e⟩
 | n + 1, [], a, h => by simp [dropL] at h
 | n + 1, b :: L, a, h => by
  obtain ⟨i, h1, h2, h3⟩ := dropL_mem (n := n) (L := L) h
  exact ⟨i + 1, by omega, by simp; omega, by simpa using h3⟩
theorem dropL_sub : ∀ (n : Nat) (L : List Item), (dropL n L).Sublist L
 | 0, L => List.Sublist.refl _
 | n + 1, [] => List.Sublist.refl _
 | n + 1, b :: L => (dropL_sub n L).cons b
def okP (n : Nat) : List Nat → Bool
 | [] => true
 | i :: r => Nat.blt i n && !(r.elem i) && okP n r
theorem okP_lt {n : Nat} : ∀ {is : List Nat}, okP n is = true → ∀ i ∈ is, i < n
 | [], _, i, h => by simp at h
 | j :: r, h, i, hi => by
  simp only [okP, Bool.and_eq_true] at h
  rcases List.mem_cons.1 hi with rfl | hi
  ·exact Nat.le_of_ble_eq_true h.1.1
  ·exact okP_lt h.2 i hi
theorem Bank.at_dj {w : World} {L : List Item} (h : Bank w L) {i j : Nat} (hi : i < L.length) (hj : j < L.length) (hij : i ≠ j) : Dj L[i].fp L[j].fp := by
 have hd := List.pairwise_iff_getElem.1 h.dj
 rcases Nat.lt_or_ge i j with h1 | h1
 ·exact hd i j hi hj h1
 ·exact (hd j i hj hi (by omega)).symm
theorem Bank.pk_dj {w : World} {L : List Item} (h : Bank w L) {n : Nat} : ∀ {is : List Nat}, okP n is = true → (pk L is).Pairwise fun a b => Dj a.fp b.fp
 | [], _ => .nil
 | i :: r, hk => by
  simp only [okP, Bool.and_eq_true] at hk
  refine List.pairwise_append.2 ⟨?_, Bank.pk_dj h hk.2, fun a ha b hb => ?_⟩
  ·rcases nthL_one L i with e | ⟨a, e⟩ <;> rw [e] <;> simp
  ·obtain ⟨h1, rfl⟩ := nthL_mem ha
   obtain ⟨j, hj, h2, rfl⟩ := pk_mem hb
   refine h.at_dj h1 h2 fun e => ?_
   subst e
   simp [hj] at hk
theorem Bank.pick {w : World} {L : List Item} (h : Bank w L) (n : Nat) (is : List Nat) (hk : okP n is = true) : Bank w (pk L is ++ dropL n L) := by
 refine ⟨fun a ha => ?_, List.pairwise_append.2 ⟨h.pk_dj hk, h.dj.sublist (dropL_sub n L), fun a ha b hb => ?_⟩⟩
 ·rcases List.mem_append.1 ha with ha | ha
  ·obtain ⟨i, _, h2, rfl⟩ := pk_mem ha
   exact h.all _ (List.getElem_mem h2)
  ·exact h.all a ((dropL_sub n L).subset ha)
 ·obtain ⟨i, h1, h2, rfl⟩ := pk_mem ha
  obtain ⟨j, h3, h4, rfl⟩ := dropL_mem hb
  have := okP_lt hk i h1
  exact h.at_dj h2 h4 (by omega)
end Go.Proofs.YtlkjiiibmfpbcaaGreatDoor
namespace Go.Proofs.YtlkjiiibmfpbcaaGreatDoor
open Go
theorem Bank.mid {w : World} {A C : List Item} {b : Item} (h : Bank w (A ++ b :: C)) : Bank w (b :: (A ++ C)) := h.perm List.perm_middle
theorem mk_bank {w : World} {z : Sl} {n : Nat} {a : Item} {L : List Item} (h : Bank w (a :: L)) (ha : a.fp = fp z) (hz : St w z) (hn : n ≤ 8796093022208) {Q : Ending → World → Prop}
  (q : ∀ (r : Sl) w', r.l = n → Bank w' (sto r :: L) → From w z r → Chg w w' none2 → Q (.returned r.v) w') : Calls Tryz.prog 73 #[z.v, .int .i64 (n : Int)] w Q := by
 refine (c73 z n w hz hn).mono ?_
 rintro e w' ⟨_, rfl, r, rfl, hl, hr, hf, hc⟩
 exact q r w' hl (h.res ha hf (hc.none _) hr rfl) hf hc
theorem c73k (z : Sl) (n : Nat) (w : World) (hn : n ≤ z.c) (hc : z.c ≤ 9223372036854775807) {Q : Ending → World → Prop} (q : Q (.returned (z.to n).v) w) :
  Calls Tryz.prog 73 #[z.v, .int .i64 (n : Int)] w Q := by
 refine (F73.call z.a z.l z.c n w (fun v w' => v = (z.to n).v ∧ w' = w) fun B => bc_true (decT (by omega)) ⟨n, rfl, hn, fun B2 => ret1 rfl rfl ⟨rfl, rfl⟩⟩).mono ?_
 rintro e w' ⟨_, rfl, rfl, rfl⟩
 exact q
theorem alloc_nt (w : World) (hg : GB ≤ w.heap.size) (n : Nat) (hc : n ≤ 281474976710656) :
  Nt (w.alloc (.cells (madeCells #[(Value.int IntKind.u64 0)] n) 61)) ⟨some ⟨w.heap.size, 0, none⟩, n, n, w.heap.size, 0⟩ 0 := by
 refine { alloc_st w hg n n (Nat.le_refl _) hc with sg := fun i hi => ?_, lt := BBpow_pos _ }
 have hi : i < n := hi
 have hh : (w.alloc (.cells (madeCells #[(Value.int IntKind.u64 0)] n) 61)).heap[w.heap.size]? = some (.cells (madeCells #[(Value.int IntKind.u64 0)] n) 61 (0, 0)) := heap_alloc_new ..
 rw [cell_eq]
 show (match (w.alloc (.cells (madeCells #[(Value.int IntKind.u64 0)] n) 61)).heap[w.heap.size]? with
  | some (.cells c _ _) => c[0 + i]?
  | _ => none) = _
 rw [hh, dg_zero]
 simp [madeCells, hi, Nat.mod_one]
theorem Bank.alloc {w : World} {L : List Item} (h : Bank w L) (hg : GB ≤ w.heap.size) (n : Nat) (hc : n ≤ 281474976710656) :
  Bank (w.alloc (.cells (madeCells #[(Value.int IntKind.u64 0)] n) 61)) (num ⟨some ⟨w.heap.size, 0, Option.none⟩, n, n, w.heap.size, 0⟩ 0 :: L) :=
 h.new (Chg.alloc _ _ (alloc_froz w _) _) (alloc_nt w hg n hc) fun _ _ hm => Nat.le_of_eq hm.1.symm
theorem pow_split (B : Nat) {k n : Nat} (h : k ≤ n) : B ^ n = B ^ k * B ^ (n - k) := by rw [← Nat.pow_add, Nat.add_sub_cancel' h]
theorem cp_bank {w : World} {z x : Sl} {V X : Nat} {L : List Item} (h : Bank w (num z V :: L)) (hx : Has L x X) (hl : x.l ≤ z.l) :
  ∃ w', Sem.run Tryz.prog (builtin .copy #[45, 45] 3 #[false, false] #[z.v, x.v]) w = .ok (.value (.int .i64 (x.l : Int))) w' ∧ Bank w' (num z (X + BB ^ x.l * (V / BB ^ x.l)) :: L) ∧ Chg w w' (fp z) := by
 have hz : Nt w z V := h.head
 have hX := hx.nt h.tail
 obtain ⟨w', r1, r2, r3⟩ := copyT 45 Tryz.underlying45 z x x.l (by omega) X w (hz.to_wt x.l (by have := hz.lc; omega)) ⟨hX.rd.at_, hX.sg, hX.lt⟩
 have hc : Chg w w' (fp z) := r3.mono fun b i _ hm => ⟨hm.1, hm.2.1, by have := hm.2.2; have := hz.lc; omega⟩
 refine ⟨w', r1, h.upd hc (fun _ _ _ hm => hm) ?_ fun _ _ _ hm => hm, hc⟩
 have h2 : Sg w' z.b (z.o + x.l) (z.l - x.l) (V / BB ^ x.l) := r3.sg (hz.sg.hi x.l (z.l - x.l) (by omega)) fun i hi hm => by have := hm.2.2; omega
 have h3 := r2.join h2 hX.lt
 rw [show x.l + (z.l - x.l) = z.l by omega] at h3
 refine { r3.st hz.toSt with sg := h3, lt := ?_ }
 have h4 : V / BB ^ x.l < BB ^ (z.l - x.l) := by rw [Nat.div_lt_iff_lt_mul (BBpow_pos _), ← Nat.pow_add, Nat.sub_add_cancel hl]; exact hz.lt
 have h5 := pow_split BB hl
 rw [h5]
 have h6 : BB ^ x.l * (V / BB ^ x.l) + BB ^ x.l ≤ BB ^ x.l * BB ^ (z.l - x.l) := by rw [← Nat.mul_succ]; exact Nat.mul_le_mul_left _ h4
 have := hX.lt
 omega
theorem cp_sto {w : World} {z x : Sl} {X : Nat} {L : List Item} (h : Bank w (sto z :: L)) (hx : Has L x X) (hl : x.l = z.l) :
  ∃ w', Sem.run Tryz.prog (builtin .copy #[45, 45] 3 #[false, false] #[z.v, x.v]) w = .ok (.value (.int .i64 (x.l : Int))) w' ∧ Bank w' (num z X :: L) ∧ Chg w w' (fp z) := by
 have hz : St w z := h.head
 have hX := hx.nt h.tail
 obtain ⟨w', r1, r2, r3⟩ := copyT 45 Tryz.underlying45 z x x.l (by omega) X w (hz.to_wt x.l (by have := hz.lc; omega)) ⟨hX.rd.at_, hX.sg, hX.lt⟩
 have hc : Chg w w' (fp z) := r3.mono fun b i _ hm => ⟨hm.1, hm.2.1, by have := hm.2.2; have := hz.lc; omega⟩
 exact ⟨w', r1, h.upd hc (fun _ _ _ hm => hm) { r3.st hz with sg := by rw [← hl]; exact r2, lt := by rw [← hl]; exact hX.lt } fun _ _ _ hm => hm, hc⟩
end Go.Proofs.YtlkjiiibmfpbcaaGreatDoor
namespace Go.Proofs.YtlkjiiibmfpbcaaGreatDoor
open Go
def Cell1 (t e : TypeId) (z : Value) : Prop := Tryz.prog.underlying t = some (.slice e) ∧ (∃ ie, Tryz.prog.info? e = some ie ∧ ie.size = 1 ∧ ie.bytes ≤ 8 ∧ ie.zero = some z) ∧ z.cells = #[z]
def Cs (w : World) (b o n : Nat) (f : Nat → Value) : Prop := ∀ i, i < n → w.cell? ⟨b, o + i, none⟩ = some (f i)
theorem row_st (w : World) (hg : GB ≤ w.heap.size) (C : Array Value) (e n : Nat) (hn : n ≤ C.size) (hc : C.size ≤ 9223372036854775807) :
  St (w.alloc (.cells C e)) ⟨some ⟨w.heap.size, 0, none⟩, n, C.size, w.heap.size, 0⟩ := by
 have hh : (w.alloc (.cells C e)).heap[w.heap.size]? = some (.cells C e (0, 0)) := heap_alloc_new ..
 refine ⟨hn, fun _ => rfl, fun i hi => ⟨?_, ?_⟩, fun _ => ⟨hg, _, _, hh⟩, hc, by simp; omega⟩
 ·have hi' : i < C.size := hi
  refine ⟨C[i], ?_⟩
  rw [cell_eq, hh]
  simp [hi']
 ·rw [frozen_eq, hh]; simp
theorem app1 {t e : TypeId} {z : Value} (ht : Cell1 t e z) (s : Sl) (v : Value) (w : World) (hs : St w s) (src : Addr) (c0 : Nat) (hsrc : w.cell? src = some v) (h1 : v.oneCell' = true) (hl : s.l ≤ 1099511627776) (f : Nat → Value) (hf : Cs w s.b s.o s.l f) :
  ∃ (r : Sl) (w' : World), Sem.run Tryz.prog (builtin .append #[t, t] t #[false, false] #[s.v, .slice (some src) 1 c0]) w = .ok (.value r.v) w' ∧ r.l = s.l + 1 ∧ St w' r ∧ Cs w' r.b r.o (s.l + 1) (setF f s.l v) ∧ From w s r ∧ (w.heap.size ≤ r.b ∨ r.c = s.c) ∧
   Chg w w' (fp s) := by
 obtain ⟨hu, ⟨ie, hi, hsz, hby, hzz⟩, hzc⟩ := ht
 have hlc := hs.lc
 have hcm := hs.cm
 have key : ∀ (r : Sl) (w' : World), (Builtin.append_ #[t, t] t #[s.v, .slice (some src) 1 c0]).run Tryz.prog w = .ok r.v w' → Sem.run Tryz.prog (builtin .append #[t, t] t #[false, false] #[s.v, .slice (some src) 1 c0]) w = .ok (.value r.v) w' := fun r w' h => by
  rw [BigFrame.builtin_append]
  simp only [Sem.run_bind, h]
  rfl
 have hnews : ∀ j u, ([v] : List Value)[j]? = some u → w.cell? (src.add j) = some u := fun j u hj => by
  cases j with
  | zero =>
   simp at hj; subst hj
   rw [show src.add 0 = src by unfold Addr.add; split <;> simp_all]; exact hsrc
  | succ j => simp at hj
 by_cases hroom : s.l + 1 ≤ s.c
 ·have ha := hs.at_ (by omega)
  obtain ⟨⟨u, hu1⟩, hu2⟩ := hs.wr s.l (by omega)
  have hr := run_append_room_cells (P := Tryz.prog) w t t e ie hu hi s.b s.o s.l s.c src 1 c0 [v] (by simp [hsz]) hnews (by simp [h1]) hroom
   (fun j hj => by
    have : j = 0 := by simpa using hj
    subst this
    rw [hsz, Nat.mul_one, Nat.add_zero, hu1]; rfl)
   (fun j hj => by
    have : j = 0 := by simpa using hj
    subst this
    rw [hsz, Nat.mul_one, Nat.add_zero]; exact hu2)
  rw [hsz, Nat.mul_one] at hr
  have hc : Chg w (w.setCell ⟨s.b, s.o + s.l, none⟩ v) (inR s.b (s.o + s.l) (s.o + s.l + 1)) := Chg.setCell (hs.pl (by omega)) _ ⟨rfl, Nat.le_refl _, by omega⟩
  have hrv : (s.to (s.l + 1)).v = .slice (some ⟨s.b, s.o, none⟩) (s.l + 1) s.c := by rw [← ha]; rfl
  refine ⟨s.to (s.l + 1), w.setCell ⟨s.b, s.o + s.l, none⟩ v, key _ _ ?_, rfl, (hc.st hs).to_st _ hroom, fun i hi => ?_, From.self _ _ _, .inr rfl, hc.mono fun b i _ hm => ⟨hm.1, by have := hm.2.1; omega, by have := hm.2.2; omega⟩⟩
  ·rw [hrv]
   unfold Sl.v
   rw [ha]; exact hr
  ·show (w.setCell ⟨s.b, s.o + s.l, none⟩ v).cell? ⟨s.b, s.o + i, none⟩ = _
   by_cases h : i = s.l
   ·subst h
    rw [setF_self]
    exact World.cell?_setCell_same _ _ _ hu1
   ·rw [setF_ne _ _ h, hc.cell (lt_of_cell (hf i (by omega))) (fun hm => by have := hm.2.1; omega)]
    exact hf i (by omega)
 ·have hlc' : s.l = s.c := by omega
  obtain ⟨olds, hol, hold⟩ := exists_cells (w := w) (b := s.b) s.l s.o (fun i hi => ⟨_, hf i hi⟩)
  have holds : ∀ i, i < s.l → olds[i]? = some (f i) := fun i hi => by
   have h1 : olds[i]? = some (olds[i]'(by omega)) := List.getElem?_eq_getElem (by omega)
   have h2 := hold i _ h1
   rw [hf i hi] at h2
   rw [h1, ← h2]
  have fin : ∀ cap, s.l + 1 ≤ cap → cap ≤ maxLen → (Builtin.append_ #[t, t] t #[s.v, .slice (some src) 1 c0]).run Tryz.prog w = .ok (.slice (some ⟨w.heap.size, 0, none⟩) (s.l + 1) cap) (w.drew.alloc (.cells (olds.toArray ++ #[v] ++ Builtin.zeroCells z.cells (cap - (s.l + 1))) e)) → _ := fun cap hc1 hc2 hr => by
   unfold maxLen at hc2
   have hsize : (olds.toArray ++ #[v] ++ Builtin.zeroCells z.cells (cap - (s.l + 1))).size = cap := by
    rw [hzc]; simp [Builtin.zeroCells, hol]; omega
   have hst := row_st w.drew hs.gb (olds.toArray ++ #[v] ++ Builtin.zeroCells z.cells (cap - (s.l + 1))) e (s.l + 1) (by rw [hsize]; exact hc1) (by rw [hsize]; omega)
   rw [hsize] at hst
   have hh : (w.drew.alloc (.cells (olds.toArray ++ #[v] ++ Builtin.zeroCells z.cells (cap - (s.l + 1))) e)).heap[w.heap.size]? = some (.cells (olds.toArray ++ #[v] ++ Builtin.zeroCells z.cells (cap - (s.l + 1))) e (0, 0)) := heap_alloc_new w.drew _
   exact (⟨⟨some ⟨w.heap.size, 0, none⟩, s.l + 1, cap, w.heap.size, 0⟩, _, key ⟨some ⟨w.heap.size, 0, none⟩, s.l + 1, cap, w.heap.size, 0⟩ _ hr, rfl, hst, fun i hi => by
    show (w.drew.alloc _).cell? ⟨w.heap.size, 0 + i, none⟩ = _
    rw [cell_eq, hh, Nat.zero_add]
    show (olds.toArray ++ #[v] ++ _)[i]? = _
    rw [Array.getElem?_append_left (by simp [hol]; omega)]
    by_cases h : i = s.l
    ·subst h
     rw [setF_self, Array.getElem?_append_right (by simp [hol])]
     simp [hol]
    ·rw [setF_ne _ _ h, Array.getElem?_append_left (by simp [hol]; omega)]
     simpa using holds i (by omega), .inr (Nat.le_refl _), .inl (Nat.le_refl _), (Chg.drew0 w _).trans' (Chg.alloc w.drew _ (fun a => RowKit.frozen?_alloc_cells w.drew _ _ a) _)⟩ :
    ∃ (r : Sl) (w' : World), Sem.run Tryz.prog (builtin .append #[t, t] t #[false, false] #[s.v, .slice (some src) 1 c0]) w = .ok (.value r.v) w' ∧ r.l = s.l + 1 ∧ St w' r ∧ Cs w' r.b r.o (s.l + 1) (setF f s.l v) ∧ From w s r ∧ (w.heap.size ≤ r.b ∨ r.c = s.c) ∧
     Chg w w' (fp s))
  cases hsa : s.a with
  | none =>
   have h0 : s.c = 0 := by
    rcases Nat.eq_zero_or_pos s.c with h | h
    ·exact h
    ·have := hs.at_ (by omega); rw [hsa] at this; cases this
   have h0l : s.l = 0 := by omega
   obtain rfl : olds = [] := List.length_eq_zero_iff.1 (by omega)
   have hr := run_append_nil (P := Tryz.prog) w t t e ie z hu hi hzz src 1 c0 [v] (by simp [hsz]) hnews (by omega) (by omega) (by omega)
   refine fin (grownCap w 1 0 e) (by have := grownCap_ge w 1 0 e; omega) (grownCap_le_maxLen w 1 0 e (by decide)) ?_
   unfold Sl.v
   rw [hsa, h0l, h0]
   simpa using hr
  | some b =>
   have hb : s.c ≠ 0 → b = ⟨s.b, s.o, none⟩ := fun h => by have := hs.at_ h; rw [hsa] at this; exact Option.some.inj this
   have hr := run_append_grow (P := Tryz.prog) w t t e ie z hu hi hzz b s.l s.c olds (by rw [hsz, hol, Nat.mul_one]) (fun j u hj => by
    have hj' : j < olds.length := (List.getElem?_eq_some_iff.1 hj).1
    rw [hb (by omega), addr_add]
    exact hold j u hj) src 1 c0 [v] (by simp [hsz]) hnews (by omega) (by omega) (growslice_fits (by omega) (Nat.le_trans (Nat.mul_le_mul_left _ hby) (by omega)))
   refine fin (grownCap w (s.l + 1) s.c e) (grownCap_ge w (s.l + 1) s.c e) (grownCap_le_maxLen w (s.l + 1) s.c e (by unfold maxLen; omega)) ?_
   unfold Sl.v
   rw [hsa]
   simpa using hr
end Go.Proofs.YtlkjiiibmfpbcaaGreatDoor
namespace Go.Proofs.YtlkjiiibmfpbcaaGreatDoor
open Go
theorem bits4 {v j : Nat} (hj : j + 4 ≤ 64) :
  (v * 2 ^ j % 18446744073709551616) / 2 ^ 60 = v / 2 ^ (64 - (j + 4)) % 16 ∧ v * 2 ^ j % 18446744073709551616 * 2 ^ 4 % 18446744073709551616 = v * 2 ^ (j + 4) % 18446744073709551616 ∧
  v / 2 ^ (64 - (j + 4)) = 16 * (v / 2 ^ (64 - j)) + v / 2 ^ (64 - (j + 4)) % 16 := by
 refine ⟨?_, ?_, ?_⟩
 ·refine Nat.eq_of_testBit_eq fun i => ?_
  rw [show (18446744073709551616 : Nat) = 2 ^ 64 from rfl, Nat.testBit_div_two_pow, Nat.testBit_mod_two_pow, Nat.testBit_mul_two_pow]
  rw [show v / 2 ^ (64 - (j + 4)) % 16 = v / 2 ^ (64 - (j + 4)) % 2 ^ 4 from rfl, Nat.testBit_mod_two_pow, Nat.testBit_div_two_pow]
  by_cases hi : i < 4
  ·have e1 : i + 60 < 64 := by omega
   have e2 : j ≤ i + 60 := by omega
   have e3 : i + 60 - j = i + (64 - (j + 4)) := by omega
   simp [hi, e1, e2, e3]
  ·have e1 : ¬ (i + 60 < 64) := by omega
   simp [hi, e1]
 ·rw [Nat.pow_add, ← Nat.mul_assoc]
  exact Nat.mod_mul_mod _ _ _
 ·have h1 : v / 2 ^ (64 - j) = v / 2 ^ (64 - (j + 4)) / 16 := by
   rw [Nat.div_div_eq_div_mul, show (16 : Nat) = 2 ^ 4 from rfl, ← Nat.pow_add, show 64 - (j + 4) + 4 = 64 - j by omega]
  rw [h1]; omega
structure MC (R : List Item) (one m : Sl) (pw : Nat → Sl) (P : Nat → Nat) (pb M X k n : Nat) : Prop where
 n0 : n ≠ 0
 n40 : n < 40
 odd : M % 2 = 1
 kB : k < 18446744073709551616
 km : (k * M + 1) % BB = 0
 hone : Has R one 1
 lo : one.l = n
 hm : nmz m M ∈ R
 lm : m.l = n
 hrow : row pb 16 (fun i => (pw i).v) ∈ R
 hpw : ∀ i, i < 16 → Has R (pw i) (P i) ∧ (pw i).l = n ∧ Mg M (BB ^ n) X (P i) i
structure Mw (w0 w : World) (S : Set2) (z0 z zz : Sl) (A M X n e : Nat) (R : List Item) : Prop where
 bank : Bank w (num z A :: sto zz :: R)
 ch : Chg w0 w S
 sS : ∀ b i, b < w0.heap.size → fp z0 b i → S b i
 sz : Sub w0 z0 z
 szz : Sub w0 z0 zz
 lz : z.l = n
 lzz : zz.l = n
 mg : Mg M (BB ^ n) X A e
variable {w0 w : World} {S : Set2} {z0 z zz one m : Sl} {A M X n k pb e H : Nat} {R : List Item} {pw : Nat → Sl} {P : Nat → Nat}
theorem Mw.step (h : Mw w0 w S z0 z zz A M X n e R) (c : MC R one m pw P pb M X k n) {v : Sl} {V d : Nat} (hv : v = z ∧ V = A ∧ d = e ∨ Has R v V) (lv : v.l = n) (hV : Mg M (BB ^ n) X V d) {Q : Ending → World → Prop}
  (q : ∀ (r : Sl) (Z : Nat) w', Mw w0 w' S z0 r z Z M X n (e + d) R → Q (.returned r.v) w') :
  Calls Tryz.prog 106 #[zz.v, z.v, v.v, m.v, .int .u64 (k : Int), .int .i64 (n : Int)] w Q := by
 have hb := h.bank
 have hb1 := hb.perm (List.Perm.swap _ _ _)
 have hzz : St w zz := hb1.head
 have hv' : Has (num z A :: R) v V := by
  rcases hv with ⟨rfl, rfl, _⟩ | hv
  ·exact Has.num _ _ _
  ·exact hv.cons _
 refine mont_has hb1 rfl hzz (Has.num _ _ _) hv' (.inr (List.mem_cons_of_mem _ c.hm)) h.lz lv c.lm c.n0 (by have := c.n40; omega) c.kB c.km fun r Z w' hl hZ hb' hc hf => q r Z w' ⟨((hb'.perm (List.Perm.swap _ _ _)).weaken (a' := sto z) rfl fun h => h.toSt).perm (List.Perm.swap _ _ _), ?_, h.sS, h.szz.from_ hf h.ch.size, h.sz, hl, h.lz, Mg.mul (odd_cop c.odd n) h.mg hV hZ⟩
 exact h.ch.trans hc (fun _ _ _ h => h) fun b i hb hm => h.sS b i hb (h.szz b i hb hm)
def win (z zz one m y : Sl) (stk : Option Addr) (pb n k : Nat) (i yi j : Int) : List (Nat × Value) :=
 [(0, z.v), (1, .pointer stk), (3, y.v), (4, m.v), (11, .int .i64 (n : Int)), (13, .int .u64 (k : Int)), (17, zz.v), (18, one.v), (19, .pointer (some ⟨pb, 0, none⟩)), (21, .int .i64 i), (22, .int .u64 yi), (23, .int .i64 j)]
theorem word74 (h : Mw w0 w S z0 z zz A M X n H R) (c : MC R one m pw P pb M X k n) {y : Sl} {stk : Option Addr} {i D : Nat} (hD : D < 18446744073709551616) (hi : i < y.l) (hfst : i + 1 = y.l → H = 0) (hyl : y.l ≤ 1000000) (e : Env) (K : Kont)
  (hag : agree e (win z zz one m y stk pb n k (i : Int) (D : Int) 0))
  (hK : ∀ (z' zz' : Sl) (A' : Nat) (w' : World) (e' : Env) (yi' j' : Int), Mw w0 w' S z0 z' zz' A' M X n (H * 18446744073709551616 + D) R → agree e' (win z' zz' one m y stk pb n k (i : Int) yi' j') → e'.defers = e.defers → K .normal e' w') :
  W Tryz.prog 239 F74.p18 e w K := by
 rw [F74.q18]
 refine W_for' (σ := Nat × Sl × Sl) (fun s => win s.2.1 s.2.2 one m y stk pb n k (i : Int) ((D * 2 ^ s.1 % 18446744073709551616 : Nat) : Int) (s.1 : Int))
  (fun s w' => s.1 % 4 = 0 ∧ s.1 ≤ 64 ∧ ∃ A', Mw w0 w' S z0 s.2.1 s.2.2 A' M X n (H * 2 ^ s.1 + D / 2 ^ (64 - s.1)) R) (fun s => 64 - s.1) (0, z, zz) ?_ ⟨rfl, Nat.zero_le _, A, ?_⟩ ?_
 ·rw [Nat.pow_zero, Nat.mul_one, Nat.mod_eq_of_lt hD]; exact hag
 ·exact { h with mg := h.mg.congr (by rw [Nat.pow_zero, Nat.mul_one, Nat.sub_zero, Nat.div_eq_of_lt hD]; rfl) }
 rintro ⟨j, z1, zz1⟩ B wr K2 ⟨hj4, hj, A1, hw⟩ hKn hKe _
 simp only at hj4 hj hw
 obtain ⟨yi, hyi⟩ : ∃ yi, yi = D * 2 ^ j % 18446744073709551616 := ⟨_, rfl⟩
 rw [← hyi]
 refine F74.t17 z1.a z1.l z1.c stk y.a y.l y.c m.a m.l m.c n k zz1.a zz1.l zz1.c one.a one.l one.c pb 0 i yi j ⟨rfl, rfl, rfl, rfl, rfl, rfl, rfl, rfl, rfl, rfl, rfl, rfl, trivial⟩ fun B3 => bc_intro (fun hb => ⟨by unfold inI64; omega, ?_⟩) (fun hb B4 => ?_)
 ·have hj60 : j + 4 ≤ 64 := by have := dT hb; omega
  obtain ⟨b1, b2, b3⟩ := bits4 (v := D) hj60
  rw [← hyi] at b1 b2
  have tail : ∀ (z2 zz2 : Sl) (A2 : Nat) (w2 : World) (B : Nat → Value), Mw w0 w2 S z0 z2 zz2 A2 M X n (16 * (H * 2 ^ j + D / 2 ^ (64 - j))) R →
    W Tryz.prog 239 F74.p20 (E (win z2 zz2 one m y stk pb n k (i : Int) (yi : Int) (j : Int)) B e.defers) w2 (blockK 7 (thenW Tryz.prog 239 F74.p19 K2)) := by
   intro z2 zz2 A2 w2 B h2
   have hbank := h2.bank
   have hrow : RowAt w2 pb 16 (fun i => (pw i).v) := hbank.all _ (List.mem_cons_of_mem _ (List.mem_cons_of_mem _ c.hrow))
   have hd16 : D / 2 ^ (64 - (j + 4)) % 16 < 16 := Nat.mod_lt _ (by omega)
   obtain ⟨hp1, hp2, hp3⟩ := c.hpw _ hd16
   have es : iShr .u64 (yi : Int) 60 = ((D / 2 ^ (64 - (j + 4)) % 16 : Nat) : Int) := (shr64 yi 60 (by omega)).trans (by rw [b1])
   refine F74.t20 z2.a z2.l z2.c stk y.a y.l y.c m.a m.l m.c n k zz2.a zz2.l zz2.c one.a one.l one.c pb 0 i yi j ⟨rfl, rfl, rfl, rfl, rfl, rfl, rfl, rfl, rfl, rfl, rfl, rfl, trivial⟩ fun B4 => ⟨by omega, _, es, hd16, _, _, _, by rw [Nat.zero_add]; exact hrow.cell _ hd16, ?_⟩
   refine h2.step c (.inr hp1) hp2 hp3 fun r Z w3 h3 => ⟨_, _, _, rfl, by omega, fun B5 => ?_⟩
   refine F74.t19 r.a r.l r.c stk y.a y.l y.c m.a m.l m.c n k z2.a z2.l z2.c one.a one.l one.c pb 0 i (iShl .u64 yi 4) j ⟨rfl, rfl, rfl, rfl, rfl, rfl, rfl, rfl, rfl, rfl, rfl, rfl, trivial⟩ fun B6 => ⟨by unfold inI64; omega, fun B7 => hKn _ _ (j + 4, r, z2) ⟨rfl, rfl, rfl, rfl, rfl, rfl, rfl, rfl, rfl, rfl, intv ?_, intv (by omega), trivial⟩ rfl ⟨by show (j + 4) % 4 = 0; omega, hj60, Z, ?_⟩ (by show 64 - (j + 4) < 64 - j; omega)⟩
   ·exact (shl64 yi 4 (by omega)).trans (by rw [b2])
   ·refine { h3 with mg := h3.mg.congr ?_ }
    show _ = H * 2 ^ (j + 4) + D / 2 ^ (64 - (j + 4))
    rw [Nat.pow_add, ← Nat.mul_assoc]
    omega
  refine bc_intro (fun hb => ?_) (fun hb => bc_intro (fun hb' => ?_) (fun hb' B4 => ?_))
  ·refine hw.step c (.inl ⟨rfl, rfl, rfl⟩) hw.lz hw.mg fun r1 Z1 w1 h1 => ⟨_, _, _, rfl, ?_⟩
   refine h1.step c (.inl ⟨rfl, rfl, rfl⟩) h1.lz h1.mg fun r2 Z2 w2 h2 => ⟨_, _, _, rfl, ?_⟩
   refine h2.step c (.inl ⟨rfl, rfl, rfl⟩) h2.lz h2.mg fun r3 Z3 w3 h3 => ⟨_, _, _, rfl, ?_⟩
   refine h3.step c (.inl ⟨rfl, rfl, rfl⟩) h3.lz h3.mg fun r4 Z4 w4 h4 => ⟨_, _, _, rfl, fun B5 => tail r4 r3 Z4 w4 B5 { h4 with mg := h4.mg.congr (by omega) }⟩
  ·refine hw.step c (.inl ⟨rfl, rfl, rfl⟩) hw.lz hw.mg fun r1 Z1 w1 h1 => ⟨_, _, _, rfl, ?_⟩
   refine h1.step c (.inl ⟨rfl, rfl, rfl⟩) h1.lz h1.mg fun r2 Z2 w2 h2 => ⟨_, _, _, rfl, ?_⟩
   refine h2.step c (.inl ⟨rfl, rfl, rfl⟩) h2.lz h2.mg fun r3 Z3 w3 h3 => ⟨_, _, _, rfl, ?_⟩
   refine h3.step c (.inl ⟨rfl, rfl, rfl⟩) h3.lz h3.mg fun r4 Z4 w4 h4 => ⟨_, _, _, rfl, fun B5 => tail r4 r3 Z4 w4 B5 { h4 with mg := h4.mg.congr (by omega) }⟩
  ·have h1 : i + 1 = y.l := by have := neE hb; omega
   have h2 : j = 0 := by have := neE hb'; omega
   subst h2
   refine tail z1 zz1 A1 wr B4 { hw with mg := hw.mg.congr ?_ }
   rw [hfst h1, Nat.sub_zero, Nat.div_eq_of_lt hD]
 ·have hj64 : j = 64 := by have := dF hb; omega
  subst hj64
  exact hKe _ _ (hK z1 zz1 A1 _ _ _ _ { hw with mg := hw.mg.congr (by rw [Nat.sub_self, Nat.pow_zero, Nat.div_one]) } ⟨rfl, rfl, rfl, rfl, rfl, rfl, rfl, rfl, rfl, rfl, rfl, rfl, trivial⟩ rfl)
end Go.Proofs.YtlkjiiibmfpbcaaGreatDoor
namespace Go.Proofs.YtlkjiiibmfpbcaaGreatDoor
open Go
def wrd (z zz one m y : Sl) (stk : Option Addr) (pb n k : Nat) (i : Int) : List (Nat × Value) :=
 [(0, z.v), (1, .pointer stk), (3, y.v), (4, m.v), (11, .int .i64 (n : Int)), (13, .int .u64 (k : Int)), (17, zz.v), (18, one.v), (19, .pointer (some ⟨pb, 0, none⟩)), (21, .int .i64 i)]
variable {w0 w : World} {S : Set2} {z0 z zz one m : Sl} {A M X n k pb : Nat} {R : List Item} {pw : Nat → Sl} {P : Nat → Nat}
theorem words74 (h : Mw w0 w S z0 z zz A M X n 0 R) (c : MC R one m pw P pb M X k n) {y : Sl} {Y : Nat} {stk : Option Addr} (hy : nmz y Y ∈ R) (hyl : y.l ≤ 1000000) (e : Env) (K : Kont)
  (hag : agree e (wrd z zz one m y stk pb n k ((y.l : Int) - 1)))
  (hK : ∀ (z' zz' : Sl) (A' : Nat) (w' : World) (e' : Env), Mw w0 w' S z0 z' zz' A' M X n Y R → agree e' (F74.l10 z'.a z'.l z'.c stk m.a m.l m.c n k zz'.a zz'.l zz'.c one.a one.l one.c) → e'.defers = e.defers → K .normal e' w') :
  W Tryz.prog 239 F74.p12 e w K := by
 rw [F74.q12]
 refine W_for' (σ := Nat × Sl × Sl) (fun s => wrd s.2.1 s.2.2 one m y stk pb n k ((s.1 : Int) - 1)) (fun s w' => s.1 ≤ y.l ∧ ∃ A', Mw w0 w' S z0 s.2.1 s.2.2 A' M X n (Y / BB ^ s.1) R) (fun s => s.1) (y.l, z, zz) hag ⟨Nat.le_refl _, A, ?_⟩ ?_
 ·have hb := h.bank
  have hyP : Nz w y Y := hb.all (nmz y Y) (by simp [hy])
  exact { h with mg := h.mg.congr (by rw [Nat.div_eq_of_lt hyP.lt]) }
 rintro ⟨i, z1, zz1⟩ B wr K2 ⟨hi, A1, hw⟩ hKn hKe _
 simp only at hi hw
 have hb := hw.bank
 have hyP : Nz wr y Y := hb.all (nmz y Y) (by simp [hy])
 refine F74.t11 z1.a z1.l z1.c stk y.a y.l y.c m.a m.l m.c n k zz1.a zz1.l zz1.c one.a one.l one.c pb 0 ((i : Int) - 1) ⟨rfl, rfl, rfl, rfl, rfl, rfl, rfl, rfl, rfl, rfl, trivial⟩ fun B3 => bc_intro (fun hb B4 => ?_) (fun hb B4 => ?_)
 ·obtain ⟨i', rfl⟩ : ∃ i', i = i' + 1 := ⟨i - 1, by have := dT hb; omega⟩
  rw [F74.q16]
  refine W_block ?_
  refine F74.t15 z1.a z1.l z1.c stk y.a y.l y.c m.a m.l m.c n k zz1.a zz1.l zz1.c one.a one.l one.c pb 0 (((i' + 1 : Nat) : Int) - 1) ⟨rfl, rfl, rfl, rfl, rfl, rfl, rfl, rfl, rfl, rfl, trivial⟩ fun B5 => ?_
  refine rdC (k := i') (hyP.at_ (by have := hyP.lc; omega)) (by omega) (by omega) (hyP.sg i' (by omega)) fun B6 => ?_
  refine word74 hw c (D := dg Y i') (y := y) (i := i') (stk := stk) (dg_lt' Y i') (by omega) (fun h => ?_) hyl _ _ ⟨rfl, rfl, rfl, rfl, rfl, rfl, rfl, rfl, rfl, intv (by omega), rfl, rfl, trivial⟩ fun z2 zz2 A2 w2 e2 yi j h2 ha hd => ?_
  ·rw [h]; exact Nat.div_eq_of_lt hyP.lt
  ·obtain ⟨a0, a1, a3, a4, a11, a13, a17, a18, a19, a21, _⟩ := ha
   show W Tryz.prog 239 F74.p14 e2 w2 K2
   refine F74.t14 z2.a z2.l z2.c stk y.a y.l y.c m.a m.l m.c n k zz2.a zz2.l zz2.c one.a one.l one.c pb 0 (i' : Int) ⟨a0, a1, a3, a4, a11, a13, a17, a18, a19, a21, trivial⟩ fun B7 => ⟨by unfold inI64; omega, fun B8 => hKn _ _ (i', z2, zz2) ⟨rfl, rfl, rfl, rfl, rfl, rfl, rfl, rfl, rfl, rfl, trivial⟩ hd ⟨by show i' ≤ y.l; omega, A2, ?_⟩ (by show i' < i' + 1; omega)⟩
   refine { h2 with mg := h2.mg.congr ?_ }
   show _ = Y / BB ^ i'
   have := div_split Y i'
   rw [this, Nat.add_comm, Nat.mul_comm]
   rfl
 ·have h0 : i = 0 := by have := dF hb; omega
  subst h0
  exact hKe _ _ (hK z1 zz1 A1 _ _ { hw with mg := hw.mg.congr (by rw [Nat.pow_zero, Nat.div_one]) } ⟨rfl, rfl, rfl, rfl, rfl, rfl, rfl, trivial⟩ rfl)
end Go.Proofs.YtlkjiiibmfpbcaaGreatDoor
