/- Montgomery's exponentiation: one, and the powers 0 and 1. Conditions: an odd modulus of fewer than 40 words. -/
import Derived.Test.YtlkjiiibmfpbcaaGreatDoorP29
namespace Go.Proofs.YtlkjiiibmfpbcaaGreatDoor
open Go
theorem set0_bank {w : World} {s : Sl} {V d : Nat} {L : List Item} (h : Bank w (num s V :: L)) (hl : s.l ≠ 0) (hd : d < BB) :
  Bank (w.setCell ⟨s.b, s.o + 0, none⟩ (.int .u64 (d : Int))) (num s (d + BB ^ 1 * (V / BB ^ 1)) :: L) ∧ Chg w (w.setCell ⟨s.b, s.o + 0, none⟩ (.int .u64 (d : Int))) (fp s) := by
 have hs : Nt w s V := h.head
 have hlc := hs.lc
 have hp := hs.pl (by omega)
 have hc : Chg w (w.setCell ⟨s.b, s.o + 0, none⟩ (.int .u64 (d : Int))) (inR s.b (s.o + 0) (s.o + 0 + 1)) := Chg.setCell hp _ ⟨rfl, by omega, by omega⟩
 have hc' : Chg w (w.setCell ⟨s.b, s.o + 0, none⟩ (.int .u64 (d : Int))) (fp s) := hc.mono fun b i _ hm => ⟨hm.1, by have := hm.2.1; omega, by have := hm.2.2; omega⟩
 refine ⟨h.upd hc' (fun _ _ _ hm => hm) ?_ fun _ _ _ hm => hm, hc'⟩
 have h1 : Sg (w.setCell ⟨s.b, s.o + 0, none⟩ (.int .u64 (d : Int))) s.b s.o 1 d := fun i hi => by
  obtain rfl : i = 0 := by omega
  rw [dg_self d hd]
  exact World.cell?_setCell_same _ _ _ (hs.sg 0 (by omega))
 have h2 : Sg (w.setCell ⟨s.b, s.o + 0, none⟩ (.int .u64 (d : Int))) s.b (s.o + 1) (s.l - 1) (V / BB ^ 1) := hc.sg (hs.sg.hi 1 (s.l - 1) (by omega)) fun i _ hm => by have := hm.2.2; omega
 have h3 := h1.join h2 (by rw [Nat.pow_one]; exact hd)
 rw [show 1 + (s.l - 1) = s.l by omega] at h3
 refine { hc.st hs.toSt with sg := h3, lt := ?_ }
 have h4 : V / BB ^ 1 < BB ^ (s.l - 1) := by rw [Nat.div_lt_iff_lt_mul (BBpow_pos _), ← Nat.pow_add, Nat.sub_add_cancel (by omega)]; exact hs.lt
 have h5 := pow_split BB (show 1 ≤ s.l by omega)
 rw [h5]
 have h6 : BB ^ 1 * (V / BB ^ 1) + BB ^ 1 ≤ BB ^ 1 * BB ^ (s.l - 1) := by rw [← Nat.mul_succ]; exact Nat.mul_le_mul_left _ h4
 have h7 : BB ^ 1 = BB := Nat.pow_one _
 rw [h7] at h6 ⊢
 omega
theorem row16 (i : Nat) (h : i < 16) : (#[(Value.slice none 0 0), (Value.slice none 0 0), (Value.slice none 0 0), (Value.slice none 0 0), (Value.slice none 0 0), (Value.slice none 0 0), (Value.slice none 0 0), (Value.slice none 0 0), (Value.slice none 0 0), (Value.slice none 0 0), (Value.slice none 0 0), (Value.slice none 0 0), (Value.slice none 0 0), (Value.slice none 0 0), (Value.slice none 0 0), (Value.slice none 0 0)] : Array Value)[i]? = some (.slice none 0 0) := by
 show (Array.replicate 16 (Value.slice none 0 0))[i]? = _
 simp [h]
theorem Bank.allocRow {w : World} {L : List Item} (h : Bank w L) (hg : GB ≤ w.heap.size) (C : Array Value) (t n : Nat) (f : Nat → Value) (hC : ∀ i, i < n → C[i]? = some (f i)) :
  Bank (w.alloc (.cells C t)) (row w.heap.size n f :: L) ∧ Chg w (w.alloc (.cells C t)) none2 := by
 have hh : (w.alloc (.cells C t)).heap[w.heap.size]? = some (.cells C t (0, 0)) := heap_alloc_new ..
 have hc : Chg w (w.alloc (.cells C t)) none2 := Chg.alloc _ _ (fun a => RowKit.frozen?_alloc_cells _ _ _ _) _
 refine ⟨h.new hc ⟨⟨hg, _, _, hh⟩, fun i hi => ?_, fun i hi => ?_⟩ fun _ _ hm => Nat.le_of_eq (Eq.symm hm), hc⟩
 ·rw [cell_eq, hh]; exact hC i hi
 ·rw [frozen_eq, hh]; simp
theorem p6_74 {w0 w : World} {K0 K : SK} {z zz RR x m y : Sl} {Lx L : List Item} {a : Item} {n k M X Y Xp V rv : Nat}
  (hb : Bank w (stk K :: a :: num zz V :: (Lx ++ L))) (hR : Has (num zz V :: (Lx ++ L)) RR rv) (hRl : RR.l = n) (hrv : rv % M = BB ^ n * BB ^ n % M) (hx : Has (Lx ++ L) x Xp) (hXp : Xp % M = X % M) (hxl : x.l = n)
  (hm : nmz m M ∈ L) (hy : nmz y Y ∈ L) (ha : a.fp = fp z) (hz : a.P w → ∀ w', a.P w' → St w' z) (lm : m.l = n) (hn0 : n ≠ 0) (hn : n < 40) (hM : M % 2 = 1) (hyl : y.l ≤ 1000000)
  (hkB : k < 18446744073709551616) (hk : (k * M + 1) % BB = 0) (ch : Chg w0 w (un (fp z) K0.free)) (kn : Nxt w0 K0 K) (ka : K.a = K0.a) (kl : K.s.l = K0.s.l) (szz : Sub w0 z zz) (hL : K0.s.l ≤ 1099511627776) (hg : Glb w0) (e : Env) (Kt : Kont)
  (hag : agree e (F74.l6 z.a z.l z.c K0.a x.a x.l x.c y.a y.l y.c m.a m.l m.c n k RR.a RR.l RR.c zz.a zz.l zz.c))
  (hK : ∀ (r : Sl) (K' : SK) (w' : World) (e' : Env), Bank w' (stk K' :: nmz r (X ^ Y % M) :: L) → K'.a = K0.a → K'.s.l = K0.s.l → Nxt w0 K0 K' → Sub w0 z r → Chg w0 w' (un (fp z) K0.free) → e'.get 10 = r.v → e'.defers = e.defers → Kt .ret e' w') :
  W Tryz.prog 239 F74.p6 e w Kt := by
 have hg1 : Glb w := ch.glb hg
 have hz' : ∀ w', a.P w' → St w' z := hz (hb.all a (by simp))
 refine F74.t6 z.a z.l z.c K0.a x.a x.l x.c y.a y.l y.c m.a m.l m.c n k RR.a RR.l RR.c zz.a zz.l zz.c hag fun B => ⟨n, n, rfl, rfl, Nat.le_refl _, by omega, by omega, w.heap.size, 0, rfl, 0, rfl, by omega, ?_⟩
 have b1 := hb.alloc hg1.gb n (by omega)
 have c1 : Chg w (w.alloc (.cells (madeCells #[(Value.int IntKind.u64 0)] n) 61)) none2 := Chg.alloc _ _ (alloc_froz w _) _
 obtain ⟨one, hone⟩ : ∃ one : Sl, one = ⟨some ⟨w.heap.size, 0, none⟩, n, n, w.heap.size, 0⟩ := ⟨_, rfl⟩
 have o1 : one.a = some ⟨w.heap.size, 0, none⟩ := by rw [hone]
 have o2 : one.l = n := by rw [hone]
 have o3 : one.c = n := by rw [hone]
 have o4 : one.b = w.heap.size := by rw [hone]
 have o5 : one.o = 0 := by rw [hone]
 rw [← hone] at b1
 obtain ⟨wa, hwa⟩ : ∃ wa, wa = w.alloc (.cells (madeCells #[(Value.int IntKind.u64 0)] n) 61) := ⟨_, rfl⟩
 rw [← hwa] at b1 c1 ⊢
 have hone1 : Nt wa one 0 := b1.head
 refine ⟨by have := (hone1.wr 0 (by omega)).1; rw [o4, o5] at this; exact this, by have := (hone1.wr 0 (by omega)).2; rw [o4, o5] at this; exact this, ?_⟩
 obtain ⟨b2, c2⟩ := set0_bank b1 (d := 1) (by omega) (by decide)
 rw [o4, o5] at b2 c2
 obtain ⟨wb, hwb⟩ : ∃ wb, wb = wa.setCell ⟨w.heap.size, 0 + 0, none⟩ (.int .u64 1) := ⟨_, rfl⟩
 have b2 : Bank wb (num one 1 :: stk K :: a :: num zz V :: (Lx ++ L)) := by rw [hwb]; simpa using b2
 have c2 : Chg wa wb (fp one) := by rw [hwb]; exact c2
 rw [← hwb]
 have hgb : GB ≤ wb.heap.size := Nat.le_trans hg1.gb (Nat.le_trans c1.size c2.size)
 obtain ⟨b3, c3⟩ := b2.allocRow hgb _ 143 16 (fun _ => .slice none 0 0) row16
 obtain ⟨wc, hwc⟩ : ∃ wc, wc = wb.alloc (.cells #[(Value.slice none 0 0), (Value.slice none 0 0), (Value.slice none 0 0), (Value.slice none 0 0), (Value.slice none 0 0), (Value.slice none 0 0), (Value.slice none 0 0), (Value.slice none 0 0), (Value.slice none 0 0), (Value.slice none 0 0), (Value.slice none 0 0), (Value.slice none 0 0), (Value.slice none 0 0), (Value.slice none 0 0), (Value.slice none 0 0), (Value.slice none 0 0)] 143) := ⟨_, rfl⟩
 rw [← hwc] at b3 c3 ⊢
 obtain ⟨pb, hpb⟩ : ∃ pb, pb = wb.heap.size := ⟨_, rfl⟩
 rw [← hpb] at b3 ⊢
 have hz0 : ∀ j : Nat, (⟨pb, 0 + j, none⟩ : Addr) = ⟨pb, j, none⟩ := fun j => by rw [Nat.zero_add]
 simp only [hz0]
 have hrow : RowAt wc pb 16 (fun _ => .slice none 0 0) := b3.head
 have hgc : GB ≤ wc.heap.size := Nat.le_trans hgb c3.size
 refine ⟨0, rfl, by omega, none, 0, 0, hrow.cell 0 (by omega), ?_⟩
 have hov : Value.slice (some ⟨w.heap.size, 0, none⟩) n n = one.v := by rw [hone]
 rw [hov]
 have hRc : Has (row pb 16 (fun _ => .slice none 0 0) :: num one 1 :: stk K :: a :: num zz V :: (Lx ++ L)) RR rv := (((hR.cons a).cons (stk K)).cons (num one 1)).cons _
 refine mont_has (x := one) (y := RR) (X := 1) (Y := rv) (b3.nilF hgc) rfl (nilSt _ hgc) (.inl (by simp)) hRc (.inr (by simp [hm])) o2 hRl lm hn0 (by omega) hkB hk fun r0 P0 w3 hl0 hP0 b4 c4 f4 => ⟨_, _, _, rfl, ?_⟩
 have b5 := b4.perm (List.Perm.swap _ _ _)
 have hrow5 : RowAt w3 pb 16 (fun _ => .slice none 0 0) := b5.head
 refine ⟨0, rfl, by omega, ⟨_, hrow5.cell 0 (by omega)⟩, hrow5.fr 0 (by omega), 1, rfl, by omega, none, 0, 0, ?_⟩
 have b6 := setRow b5 (i := 0) (by omega) r0.v
 have c6 := (RowAt.set hrow5 (i := 0) (by omega) r0.v).2
 obtain ⟨w4, hw4⟩ : ∃ w4, w4 = w3.setCell ⟨pb, 0, none⟩ r0.v := ⟨_, rfl⟩
 rw [← hw4] at b6 c6
 have hrow6 : RowAt w4 pb 16 (setF (fun _ => .slice none 0 0) 0 r0.v) := b6.head
 show World.cell? (w3.setCell ⟨pb, 0, none⟩ r0.v) _ = _ ∧ _
 rw [← hw4]
 refine ⟨(hrow6.cell 1 (by omega)).trans (by rw [setF_ne _ _ (by omega)]), ?_⟩
 have hg4 : GB ≤ w4.heap.size := Nat.le_trans hgc (Nat.le_trans c4.size c6.size)
 have hR6 : Has (row pb 16 (setF (fun _ => .slice none 0 0) 0 r0.v) :: num r0 P0 :: num one 1 :: stk K :: a :: num zz V :: (Lx ++ L)) RR rv := ((((hR.cons a).cons (stk K)).cons (num one 1)).cons _).cons _
 have hx6 : Has (row pb 16 (setF (fun _ => .slice none 0 0) 0 r0.v) :: num r0 P0 :: num one 1 :: stk K :: a :: num zz V :: (Lx ++ L)) x Xp := (((((hx.cons (num zz V)).cons a).cons (stk K)).cons (num one 1)).cons _).cons _
 refine mont_has (x := x) (y := RR) (X := Xp) (Y := rv) (b6.nilF hg4) rfl (nilSt _ hg4) hx6 hR6 (.inr (by simp [hm])) hxl hRl lm hn0 (by omega) hkB hk fun r1 P1 w5 hl1 hP1 b7 c7 f7 => ⟨_, _, _, rfl, ?_⟩
 have b8 := b7.perm (List.Perm.swap _ _ _)
 have hrow8 : RowAt w5 pb 16 (setF (fun _ => .slice none 0 0) 0 r0.v) := b8.head
 refine ⟨1, rfl, by omega, ⟨_, hrow8.cell 1 (by omega)⟩, hrow8.fr 1 (by omega), fun B2 => ?_⟩
 have b9 := setRow b8 (i := 1) (by omega) r1.v
 have c9 := (RowAt.set hrow8 (i := 1) (by omega) r1.v).2
 obtain ⟨w6, hw6⟩ : ∃ w6, w6 = w5.setCell ⟨pb, 1, none⟩ r1.v := ⟨_, rfl⟩
 rw [← hw6] at b9 c9
 show W Tryz.prog 239 F74.p9 _ (w5.setCell ⟨pb, 1, none⟩ r1.v) _
 rw [← hw6]
 have hcop := odd_cop hM n
 have hg6 : GB ≤ w6.heap.size := Nat.le_trans hg4 (Nat.le_trans c7.size c9.size)
 have hpbw : w.heap.size ≤ pb := by rw [hpb]; exact Nat.le_trans c1.size c2.size
 have b10 : Bank w6 (row pb 16 (setF (setF (fun _ => .slice none 0 0) 0 r0.v) 1 r1.v) :: ([num r1 P1, num r0 P0] ++ (stk K :: a :: sto zz :: num one 1 :: (Lx ++ L)))) := by
  have h1 : Bank w6 (num zz V :: row pb 16 (setF (setF (fun _ => .slice none 0 0) 0 r0.v) 1 r1.v) :: num r1 P1 :: num r0 P0 :: stk K :: a :: num one 1 :: (Lx ++ L)) := b9.pick 7 [6, 0, 1, 2, 4, 5, 3] rfl
  exact (h1.weaken (a' := sto zz) rfl fun h => h.toSt).pick 7 [1, 2, 3, 4, 5, 0, 6] rfl
 have c06 : Chg w0 w6 (un (fp z) K0.free) := by
  have d1 : Chg w w3 none2 := by
   refine ((c1.trans c2 (fun _ _ _ h => h) fun b i hb hm => ?_).trans' c3).trans' (c4.nil _)
   have := hm.1; omega
  have d2 : Chg w w5 none2 := d1.trans (c6.trans' (c7.nil _)) (fun _ _ _ h => h) fun b i hb hm => (by have hm : b = pb := hm; omega)
  exact (ch.trans' (d2.none _)).trans c9 (fun _ _ _ h => h) fun b i hb hm => (by have hm : b = pb := hm; have := ch.size; omega)
 refine pows74 (X := X) (stk := K0.a) (y := y) (zz := zz) (one := one) (z := z) b10 (m := m) (by simp [hm]) lm hn0 hn hM hkB hk hg6 (fun i hi => ?_) (fun i h1 h2 => ?_) _ _ ⟨rfl, rfl, rfl, rfl, rfl, rfl, rfl, (by first | rfl | exact hov), rfl, rfl, trivial⟩ fun f' Lp' w7 e7 b11 hp c11 a11 d11 => ?_
 ·rcases (show i = 0 ∨ i = 1 by omega) with rfl | rfl
  ·exact ⟨r0, P0, by rw [setF_ne _ _ (by omega), setF_self], by simp, hl0, Mg.one hcop hrv hP0⟩
  ·exact ⟨r1, P1, by rw [setF_self], by simp, hl1, Mg.base hcop hXp hrv hP1⟩
 ·rw [setF_ne _ _ (by omega), setF_ne _ _ (by omega)]
 ·show W Tryz.prog 239 F74.p7 e7 w7 Kt
  have c07 : Chg w0 w7 (un (fp z) K0.free) := c06.trans c11 (fun _ _ _ h => h) fun b i hb hm => (by have hm : b = pb := hm; have := ch.size; omega)
  refine p7_74 b11 hm hy ha (hz' _ (b11.all a (by simp))) ?_ lm o2 hn0 hn hM hyl hkB hk hp c07 kn ka kl szz hL hg e7 Kt a11 fun r K' w' e' h1 h2 h3 h4 h5 h6 h7 h8 => hK r K' w' e' h1 h2 h3 h4 h5 h6 h7 (h8.trans d11)
  have : St w7 zz := b11.all (sto zz) (by simp)
  exact this.cm
end Go.Proofs.YtlkjiiibmfpbcaaGreatDoor
namespace Go.Proofs.YtlkjiiibmfpbcaaGreatDoor
open Go
structure C74 (w0 w : World) (K0 K : SK) (z m y : Sl) (a : Item) (L : List Item) (n M Y : Nat) : Prop where
 hm : nmz m M ∈ L
 hy : nmz y Y ∈ L
 ha : a.fp = fp z
 hz : ∀ w', a.P w' → St w' z
 lm : m.l = n
 hn0 : n ≠ 0
 hn : n < 40
 hM : M % 2 = 1
 hyl : y.l ≤ 1000000
 ch : Chg w0 w (un (fp z) K0.free)
 kn : Nxt w0 K0 K
 ka : K.a = K0.a
 kl : K.s.l = K0.s.l
 hL : K0.s.l ≤ 1099511627776
 hg : Glb w0
def Fin74 (w0 : World) (K0 : SK) (z : Sl) (L : List Item) (V : Nat) (ds : List Deferred) (Kt : Kont) : Prop :=
 ∀ (r : Sl) (K' : SK) (w' : World) (e' : Env), Bank w' (stk K' :: nmz r V :: L) → K'.a = K0.a → K'.s.l = K0.s.l → Nxt w0 K0 K' → Sub w0 z r → Chg w0 w' (un (fp z) K0.free) → e'.get 10 = r.v → e'.defers = ds → Kt .ret e' w'
theorem C74.next {w0 w w' : World} {K0 K K' : SK} {z m y : Sl} {a : Item} {L : List Item} {n M Y : Nat} (c : C74 w0 w K0 K z m y a L n M Y) (hc : Chg w w' K.free) (kn : Nxt w K K') (ka : K'.a = K.a) (kl : K'.s.l = K.s.l) : C74 w0 w' K0 K' z m y a L n M Y :=
 { c with ch := c.ch.trans hc (fun _ _ _ h => h) fun b i hb hm => .inr (c.kn.free hb hm), kn := c.kn.trans kn c.ch.size, ka := ka.trans c.ka, kl := kl.trans c.kl }
theorem nt_lo {w : World} {s : Sl} {V n : Nat} (h : Nt w s V) (hn : n ≤ s.l) : Nt w (s.to n) (V % BB ^ n) :=
 { h.to_st n (Nat.le_trans hn h.lc) with sg := (h.sg.le hn).mod, lt := Nat.mod_lt _ (BBpow_pos n) }
theorem neg_inv {k m0 : Nat} (hk : k < 18446744073709551616) (h : k * m0 % 18446744073709551616 = 1) : ((18446744073709551616 - k) % 18446744073709551616 * m0 + 1) % 18446744073709551616 = 0 := by
 have h1 : ((18446744073709551616 - k) % 18446744073709551616 * m0 + 1) % 18446744073709551616 = ((18446744073709551616 - k) * m0 + 1) % 18446744073709551616 := by
  rw [Nat.add_mod, Nat.mod_mul_mod, ← Nat.add_mod]
 rw [h1]
 have h2 : (18446744073709551616 - k) * m0 + k * m0 = 18446744073709551616 * m0 := by rw [← Nat.add_mul]; congr 1; omega
 have h3 := Nat.div_add_mod (k * m0) 18446744073709551616
 rw [h] at h3
 obtain ⟨p, hp⟩ : ∃ p, p = (18446744073709551616 - k) * m0 := ⟨_, rfl⟩
 obtain ⟨q, hq⟩ : ∃ q, q = k * m0 := ⟨_, rfl⟩
 rw [← hp] at h2 ⊢
 rw [← hq] at h2 h3
 omega
theorem mul_mod_lo (k M B : Nat) : (k * M + 1) % B = (k * (M % B) + 1) % B := by
 rw [Nat.add_mod, Nat.mul_mod, Nat.add_mod (k * (M % B)), Nat.mul_mod k (M % B), Nat.mod_mod]
theorem pow128 (n : Nat) : 2 ^ (128 * n) = BB ^ n * BB ^ n := by
 rw [← Nat.pow_add, BB2, ← Nat.mul_two]
 congr 1; omega
theorem p3_74 {w0 w : World} {K0 K : SK} {z x m y : Sl} {Lx L : List Item} {a : Item} {n k0 M X Y Xp : Nat} (c : C74 w0 w K0 K z m y a L n M Y)
  (hb : Bank w (stk K :: a :: (Lx ++ L))) (hx : Has (Lx ++ L) x Xp) (hXp : Xp % M = X % M) (hxl : x.l = n) (hkB : k0 < 18446744073709551616) (hk : k0 * dg M 0 % 18446744073709551616 = 1) (e : Env) (Kt : Kont)
  (hag : agree e (F74.l3 z.a z.l z.c K0.a x.a x.l x.c y.a y.l y.c m.a m.l m.c n k0)) (hK : Fin74 w0 K0 z L (X ^ Y % M) e.defers Kt) : W Tryz.prog 239 F74.p3 e w Kt := by
 have hn := c.hn
 have hn0 := c.hn0
 have hM0 : M ≠ 0 := by have := c.hM; omega
 have hg : Glb w := c.ch.glb c.hg
 refine F74.t3 z.a z.l z.c K0.a x.a x.l x.c y.a y.l y.c m.a m.l m.c n k0 hag fun B => ResE.pass (c71 (nilS w) 1 w (nilSt w hg.gb) (by omega)) fun r1 w1 h1 f1 c1 => ⟨_, _, _, rfl, by unfold inI64; omega, by unfold inI64; omega, ?_⟩
 have b1 := (hb.nilF hg.gb).res rfl f1 c1 (a' := nmz r1 1) h1 rfl
 have hg1 : Glb w1 := c1.glb hg
 rw [show (2 * (n : Int) * 64) = ((128 * n : Nat) : Int) by omega, wrapN _ (by omega)]
 refine ResE.pass (c105 (nilS w1) r1 1 (128 * n) w1 (nilSt w1 hg1.gb) h1 (.inl rfl) (by have := h1.nm 1 (by decide); unfold Len; omega) (by omega)) fun zz w2 h2 f2 c2 => ⟨_, _, _, rfl, ?_⟩
 rw [Nat.one_mul, pow128] at h2
 have b2 := (b1.nilF hg1.gb).res rfl f2 c2 (a' := nmz zz (BB ^ n * BB ^ n)) h2 rfl
 have hg2 : Glb w2 := c2.glb hg1
 have b3 : Bank w2 (stk K :: nmz (nilS w2) 0 :: nmz r1 1 :: nmz zz (BB ^ n * BB ^ n) :: a :: (Lx ++ L)) := (b2.nilF hg2.gb).pick 4 [3, 0, 2, 1] rfl
 have hzl : zz.l ≤ 2 * n + 1 := h2.nm _ (by rw [← Nat.pow_add, ← Nat.two_mul]; exact Nat.pow_lt_pow_right (by decide) (by omega))
 have hzl2 : 2 * n < zz.l := by
  have := h2.lt
  rw [← Nat.pow_add, ← Nat.two_mul] at this
  exact (Nat.pow_lt_pow_iff_right (by decide)).1 this
 rw [← c.ka]
 refine div_bank (x := zz) (y := m) (U := BB ^ n * BB ^ n) (V := M) b3 rfl rfl (nilSt w2 hg2.gb) b3.tail.tail.head.toSt (by simp) (by simp [c.hm]) hM0 (by have := c.lm; omega) (by omega) (by have := c.kl; have := c.hL; omega) hg2 fun q r K' w3 b4 ka kl kn fq fr hc3 => ⟨_, _, _, trivial, _, _, _, trivial, rfl, ?_⟩
 obtain ⟨rv, hrv⟩ : ∃ rv, rv = BB ^ n * BB ^ n % M := ⟨_, rfl⟩
 rw [← hrv] at b4
 have hrvM : rv % M = BB ^ n * BB ^ n % M := by rw [hrv, Nat.mod_mod]
 have hr : Nz w3 r rv := b4.all (nmz r rv) (by simp)
 have hm3 : Nz w3 m M := b4.all (nmz m M) (by simp [c.hm])
 have hMn : M < BB ^ n := by have := hm3.lt; rw [c.lm] at this; exact this
 have hrl : r.l ≤ n := hr.nm _ (Nat.lt_trans (by rw [hrv]; exact Nat.mod_lt _ (by omega)) hMn)
 have c12 : Chg w w2 none2 := (c1.nil _).trans' (c2.nil _)
 have c13 : Chg w w3 K.free := (c12.none K.free).trans hc3 (fun _ _ _ h => h) fun b i hb hm => by
  rcases hm with (hm | hm) | hm
  ·exact (nil_dj w2 (fun _ _ => True) b i trivial hm).elim
  ·have := f1.nil (by have := hm.2.1; have := hm.2.2; omega)
   have := hm.1; omega
  ·exact hm
 have cc := c.next (K' := K') c13 (kn.mono c12.size) ka kl
 have szz : Sub w0 z zz := fun b i hb hm => by
  have := f2.nil (by have := hm.2.1; have := hm.2.2; omega)
  have := hm.1
  have := c.ch.size
  have := c1.size
  omega
 have ek : IntKind.wrap .u64 (0 - (k0 : Int)) = (((18446744073709551616 - k0) % 18446744073709551616 : Nat) : Int) := by rw [wrapE]; omega
 rw [ek]
 have hkk : ((18446744073709551616 - k0) % 18446744073709551616 * M + 1) % BB = 0 := by
  rw [mul_mod_lo]
  have := neg_inv hkB hk
  have e0 : dg M 0 = M % BB := by simp [dg]
  rw [e0] at this
  exact this
 refine bc_intro (fun hb => ?_) (fun hb B2 => ?_)
 ·have hzz3 : Nz w3 zz (BB ^ n * BB ^ n) := b4.all (nmz zz (BB ^ n * BB ^ n)) (by simp)
  have hzc := hzz3.lc
  refine c73k zz n w3 (by omega) hzz3.cm ⟨_, _, _, rfl, ?_⟩
  have b5 : Bank w3 (nmz zz (BB ^ n * BB ^ n) :: nmz r rv :: stk K' :: a :: (Lx ++ L)) := b4.pick 5 [3, 2, 0, 4] rfl
  have b6 : Bank w3 (num (zz.to n) 0 :: nmz r rv :: stk K' :: a :: (Lx ++ L)) := b5.weaken (a' := num (zz.to n) 0) rfl fun h => by
   have h0 : Nz w3 zz (BB ^ n * BB ^ n) := h
   have h1 := nt_lo h0.toNt (show n ≤ zz.l by omega)
   rw [Nat.mul_mod_right] at h1
   exact h1
  obtain ⟨w4, r4, b7, c4⟩ := cp_bank b6 (x := r) (X := rv) (.inr (by simp)) hrl
  rw [Nat.zero_div, Nat.mul_zero, Nat.add_zero] at b7
  refine ⟨w4, _, r4, fun B3 => ?_⟩
  have b8 : Bank w4 (stk K' :: a :: num (zz.to n) rv :: ((nmz r rv :: Lx) ++ L)) := b7.pick 4 [2, 3, 0, 1] rfl
  have cc4 : Chg w0 w4 (un (fp z) K0.free) := cc.ch.trans c4 (fun _ _ _ h => h) fun b i hb hm => .inl (szz b i hb hm)
  refine p6_74 (w0 := w0) (K0 := K0) (z := z) (zz := zz.to n) (RR := zz.to n) (x := x) (m := m) (y := y) (X := X) (Xp := Xp) (n := n) b8 (Has.num _ _ _) rfl hrvM (hx.cons _) hXp hxl c.hm c.hy c.ha (fun _ => c.hz) c.lm hn0 hn c.hM c.hyl (Nat.mod_lt _ (by omega)) hkk cc4 cc.kn cc.ka cc.kl szz c.hL c.hg _ Kt ?_ hK
  rw [c.ka]
  exact ⟨rfl, rfl, rfl, rfl, rfl, rfl, rfl, rfl, rfl, trivial⟩
 ·have hrn : r.l = n := by have := dF hb; omega
  have b8 : Bank w3 (stk K' :: a :: num zz (BB ^ n * BB ^ n) :: ((nmz r rv :: Lx) ++ L)) := by
   have b5 : Bank w3 (nmz zz (BB ^ n * BB ^ n) :: nmz r rv :: stk K' :: a :: (Lx ++ L)) := b4.pick 5 [3, 2, 0, 4] rfl
   exact b5.weak.pick 4 [2, 3, 0, 1] rfl
  refine p6_74 (w0 := w0) (K0 := K0) (z := z) (zz := zz) (RR := r) (x := x) (m := m) (y := y) (X := X) (Xp := Xp) (n := n) b8 (.inr (by simp)) hrn hrvM (hx.cons _) hXp hxl c.hm c.hy c.ha (fun _ => c.hz) c.lm hn0 hn c.hM c.hyl (Nat.mod_lt _ (by omega)) hkk cc.ch cc.kn cc.ka cc.kl szz c.hL c.hg _ Kt ?_ hK
  rw [c.ka]
  exact ⟨rfl, rfl, rfl, rfl, rfl, rfl, rfl, rfl, rfl, trivial⟩
theorem p2_74 {w0 w : World} {K0 K : SK} {z x m y : Sl} {Lx L : List Item} {a : Item} {n M X Y Xp : Nat} (c : C74 w0 w K0 K z m y a L n M Y)
  (hb : Bank w (stk K :: a :: (Lx ++ L))) (hx : Has (Lx ++ L) x Xp) (hXp : Xp % M = X % M) (hxl : x.l = n) (e : Env) (Kt : Kont)
  (hag : agree e (F74.l2 z.a z.l z.c K0.a x.a x.l x.c y.a y.l y.c m.a m.l m.c n)) (hK : Fin74 w0 K0 z L (X ^ Y % M) e.defers Kt) : W Tryz.prog 239 F74.p2 e w Kt := by
 have hm : Nz w m M := hb.all (nmz m M) (by simp [c.hm])
 have hml := c.lm
 have hn0 := c.hn0
 have hlc := hm.lc
 have hodd : dg M 0 % 2 = 1 := by
  have e0 : dg M 0 = M % BB := by simp [dg]
  rw [e0, BB_eq]
  have := c.hM; omega
 refine F74.t2 z.a z.l z.c K0.a x.a x.l x.c y.a y.l y.c m.a m.l m.c n hag fun B => rdC (k := 0) (hm.at_ (by omega)) rfl (by omega) (hm.sg 0 (by omega)) (rdC (k := 0) (hm.at_ (by omega)) rfl (by omega) (hm.sg 0 (by omega)) fun B2 => ?_)
 refine k0loop z x y m K0.a n (dg M 0) hodd (dg_lt' M 0) _ w _ ⟨rfl, rfl, rfl, rfl, rfl, rfl, rfl, rfl, rfl, trivial⟩ fun k0 e' h1 h2 h3 h4 => ?_
 show W Tryz.prog 239 F74.p3 e' w Kt
 exact p3_74 c hb hx hXp hxl h1 h2 e' Kt h3 (by rw [h4]; exact hK)
theorem p1_74 {w0 w : World} {K0 K : SK} {z x m y : Sl} {Lx L : List Item} {a : Item} {n M X Y Xp : Nat} (c : C74 w0 w K0 K z m y a L n M Y)
  (hb : Bank w (stk K :: a :: (Lx ++ L))) (hx : Has (Lx ++ L) x Xp) (hXp : Xp % M = X % M) (hxl : x.l ≤ n) (e : Env) (Kt : Kont)
  (hag : agree e (F74.l1 z.a z.l z.c K0.a x.a x.l x.c y.a y.l y.c m.a m.l m.c n)) (hK : Fin74 w0 K0 z L (X ^ Y % M) e.defers Kt) : W Tryz.prog 239 F74.p1 e w Kt := by
 have hn := c.hn
 have hg : Glb w := c.ch.glb c.hg
 refine F74.t1 z.a z.l z.c K0.a x.a x.l x.c y.a y.l y.c m.a m.l m.c n hag fun B => bc_intro (fun hbb => ?_) (fun hbb B2 => p2_74 c hb hx hXp (by have := dF hbb; omega) _ Kt ⟨rfl, rfl, rfl, rfl, rfl, rfl, trivial⟩ hK)
 have b1 := hb.alloc hg.gb n (by omega)
 have c1 : Chg w (w.alloc (.cells (madeCells #[(Value.int IntKind.u64 0)] n) 61)) none2 := Chg.alloc _ _ (alloc_froz w _) _
 obtain ⟨s, hs⟩ : ∃ s : Sl, s = ⟨some ⟨w.heap.size, 0, none⟩, n, n, w.heap.size, 0⟩ := ⟨_, rfl⟩
 rw [← hs] at b1
 have hsl : s.l = n := by rw [hs]
 obtain ⟨w2, r2, b2, c2⟩ := cp_bank b1 (x := x) (X := Xp) ((hx.cons a).cons (stk K)) (by omega)
 rw [Nat.zero_div, Nat.mul_zero, Nat.add_zero] at b2
 refine ⟨n, n, rfl, rfl, Nat.le_refl _, by omega, by omega, w2, (x.l : Int), ?_, fun B2 => ?_⟩
 ·rw [hs] at r2; exact r2
 ·have c02 : Chg w w2 none2 := c1.trans c2 (fun _ _ _ h => h) fun b i hb hm => by have := hm.1; rw [hs] at this; have : b = w.heap.size := this; omega
  have b3 : Bank w2 (stk K :: a :: ((num s Xp :: Lx) ++ L)) := b2.pick 3 [1, 2, 0] rfl
  refine p2_74 (x := s) (c.next (c02.none _) (Nxt.refl _ _) rfl rfl) b3 (Has.num _ _ _) hXp hsl _ Kt ?_ hK
  rw [show s.a = some ⟨w.heap.size, 0, none⟩ by rw [hs], hsl, show s.c = n by rw [hs]]
  exact ⟨rfl, rfl, rfl, rfl, rfl, rfl, trivial⟩
theorem c74 {w : World} {K : SK} {z x y m : Sl} {X Y M : Nat} {a : Item} {L : List Item} (h : Bank w (stk K :: a :: L)) (ha : a.fp = fp z) (hz : ∀ w', a.P w' → St w' z) (hx : nmz x X ∈ L) (hy : nmz y Y ∈ L) (hm : nmz m M ∈ L) (hM : M % 2 = 1) (lm : m.l < 40) (lx : x.l ≤ 1000000) (ly : y.l ≤ 1000000) (hL : K.s.l ≤ 1099511627776) (hg : Glb w) {Q : Ending → World → Prop}
  (q : ∀ (r : Sl) (K' : SK) w', Bank w' (stk K' :: nmz r (X ^ Y % M) :: L) → K'.a = K.a → K'.s.l = K.s.l → Nxt w K K' → Sub w z r → Chg w w' (un (fp z) K.free) → Q (.returned r.v) w') :
  Calls Tryz.prog 74 #[z.v, .pointer K.a, x.v, y.v, m.v] w Q := by
 have hmP : Nz w m M := h.all (nmz m M) (by simp [hm])
 have hm0 : m.l ≠ 0 := fun h0 => by have := Nz.zero hmP.toNt h0; omega
 have hM0 : M ≠ 0 := by omega
 have c : C74 w w K K z m y a L m.l M Y := ⟨hm, hy, ha, hz, rfl, hm0, lm, hM, ly, Chg.refl _ _, Nxt.refl _ _, rfl, rfl, hL, hg⟩
 refine (F74.call z.a z.l z.c K.a x.a x.l x.c y.a y.l y.c m.a m.l m.c w (fun v w' => Q (.returned v) w') fun B => ?_).mono fun e w' ⟨v, h1, h2⟩ => by rw [h1]; exact h2
 have hf : Fin74 w K z L (X ^ Y % M) [] (retK Tryz.prog [.tmp 10] fun v w' => Q (.returned v) w') := fun r K' w' e' h1 h2 h3 h4 h5 h6 h7 h8 => ret1 h8 h7 (q r K' w' h1 h2 h3 h4 h5 h6)
 refine bc_intro (fun hb => ?_) (fun hb B2 => p1_74 (Lx := []) c h (.inr hx) rfl (by have := dF hb; omega) _ _ ⟨rfl, rfl, rfl, rfl, rfl, rfl, trivial⟩ hf)
 have b1 : Bank w (stk K :: nmz (nilS w) 0 :: nmz (nilS w) 0 :: a :: L) := ((h.nilF hg.gb).nilF hg.gb).pick 4 [2, 0, 1, 3] rfl
 refine div_bank (x := x) (y := m) (U := X) (V := M) b1 rfl rfl (nilSt w hg.gb) (nilSt w hg.gb) (by simp [hx]) (by simp [hm]) hM0 lm (by omega) hL hg fun q' r K' w3 b4 ka kl kn fq fr hc3 => ⟨_, _, _, trivial, _, _, _, trivial, rfl, fun B2 => ?_⟩
 have hr : Nz w3 r (X % M) := b4.all (nmz r (X % M)) (by simp)
 have hm3 : Nz w3 m M := b4.all (nmz m M) (by simp [hm])
 have c13 : Chg w w3 K.free := hc3.mono fun b i hb hm => by
  rcases hm with (hm | hm) | hm
  ·exact (nil_dj w (fun _ _ => True) b i trivial hm).elim
  ·exact (nil_dj w (fun _ _ => True) b i trivial hm).elim
  ·exact hm
 have b5 : Bank w3 (stk K' :: a :: ([nmz r (X % M)] ++ L)) := b4.pick 4 [0, 3, 2] rfl
 refine p1_74 (Lx := [nmz r (X % M)]) (x := r) (c.next c13 kn ka kl) b5 (.inr (by simp)) (Nat.mod_mod _ _) (hr.nm _ (Nat.lt_trans (Nat.mod_lt _ (by omega)) hm3.lt)) _ _ ⟨rfl, rfl, rfl, rfl, rfl, rfl, trivial⟩ hf
end Go.Proofs.YtlkjiiibmfpbcaaGreatDoor
