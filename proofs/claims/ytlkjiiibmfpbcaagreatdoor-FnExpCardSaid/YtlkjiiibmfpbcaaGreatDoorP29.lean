/- Montgomery's exponentiation: the powers 0 to 15 of the base. Conditions: an odd modulus of fewer than 40 words. -/
import Derived.Test.YtlkjiiibmfpbcaaGreatDoorP28
namespace Go.Proofs.YtlkjiiibmfpbcaaGreatDoor
open Go
theorem Chg.nil {w w' w0 : World} (h : Chg w w' (fp (nilS w0))) (S : Set2) : Chg w w' S :=
 h.mono fun b i _ hm => (nil_dj w0 (fun _ _ => True) b i trivial hm).elim
theorem Bank.nilF {w : World} {L : List Item} (h : Bank w L) (hg : GB ≤ w.heap.size) : Bank w (nmz (nilS w) 0 :: L) := h.addNil w hg (nz_zero (nilSt w hg))
def Pw (f : Nat → Value) (L : List Item) (M X n i : Nat) : Prop := ∃ s P, f i = s.v ∧ num s P ∈ L ∧ s.l = n ∧ Mg M (BB ^ n) X P i
theorem Pw.cons {f : Nat → Value} {L : List Item} {M X n i j : Nat} (h : Pw f L M X n i) (a : Item) (v : Value) (hij : i ≠ j) : Pw (setF f j v) (a :: L) M X n i := by
 obtain ⟨s, P, h1, h2, h3, h4⟩ := h
 exact ⟨s, P, by rw [setF_ne _ _ hij]; exact h1, List.mem_cons_of_mem _ h2, h3, h4⟩
theorem pows74 {w : World} {f : Nat → Value} {Lp L0 : List Item} {z y m zz one : Sl} {stk : Option Addr} {pb n k M X : Nat} (hb : Bank w (row pb 16 f :: (Lp ++ L0))) (hm : nmz m M ∈ L0) (lm : m.l = n) (hn0 : n ≠ 0) (hn : n < 40) (hM : M % 2 = 1)
  (hkB : k < 18446744073709551616) (hk : (k * M + 1) % BB = 0) (hg : GB ≤ w.heap.size) (hf : ∀ i, i < 2 → Pw f Lp M X n i) (hf' : ∀ i, 2 ≤ i → i < 16 → f i = .slice none 0 0) (e : Env) (K : Kont)
  (hag : agree e (F74.l8 z.a z.l z.c stk y.a y.l y.c m.a m.l m.c n k zz.a zz.l zz.c one.a one.l one.c pb 0 2))
  (hK : ∀ (f' : Nat → Value) (Lp' : List Item) (w' : World) (e' : Env), Bank w' (row pb 16 f' :: (Lp' ++ L0)) → (∀ i, i < 16 → Pw f' Lp' M X n i) → Chg w w' (fun b _ => b = pb) →
   agree e' (F74.l7 z.a z.l z.c stk y.a y.l y.c m.a m.l m.c n k zz.a zz.l zz.c one.a one.l one.c pb 0) → e'.defers = e.defers → K .normal e' w') :
  W Tryz.prog 239 F74.p9 e w K := by
 rw [F74.q9]
 refine W_for' (σ := Nat) (fun s => F74.l8 z.a z.l z.c stk y.a y.l y.c m.a m.l m.c n k zz.a zz.l zz.c one.a one.l one.c pb 0 (s : Int))
  (fun s w' => 2 ≤ s ∧ s ≤ 16 ∧ ∃ f' Lp', Bank w' (row pb 16 f' :: (Lp' ++ L0)) ∧ (∀ i, i < s → Pw f' Lp' M X n i) ∧ (∀ i, s ≤ i → i < 16 → f' i = .slice none 0 0) ∧ Chg w w' (fun b _ => b = pb)) (fun s => 16 - s) 2 hag
  ⟨Nat.le_refl _, by omega, f, Lp, hb, hf, hf', Chg.refl _ _⟩ ?_
 rintro s B wr K2 ⟨h2, h16, f1, L1, hb1, hp, hnl, hc⟩ hKn hKe _
 refine F74.t8 z.a z.l z.c stk y.a y.l y.c m.a m.l m.c n k zz.a zz.l zz.c one.a one.l one.c pb 0 (s : Int) ⟨rfl, rfl, rfl, rfl, rfl, rfl, rfl, rfl, rfl, rfl, trivial⟩ fun B1 => bc_intro (fun hb => ?_) (fun hb B2 => ?_)
 ·have hs : s < 16 := by have := dT hb; omega
  obtain ⟨s1, P1, e1, m1, l1, g1⟩ := hp (s - 1) (by omega)
  obtain ⟨s2, P2, e2, m2, l2, g2⟩ := hp 1 (by omega)
  have hz : ∀ j : Nat, (⟨pb, 0 + j, none⟩ : Addr) = ⟨pb, j, none⟩ := fun j => by rw [Nat.zero_add]
  have hd : Bank wr.drew (row pb 16 f1 :: (L1 ++ L0)) := hb1.none (Chg.drew0 _ _)
  have hrow : RowAt wr.drew pb 16 f1 := hd.head
  have hgd : GB ≤ wr.drew.heap.size := Nat.le_trans hg hc.size
  have hdn := hd.nilF hgd
  refine ⟨s, rfl, hs, none, 0, 0, by rw [hz, hrow.cell s hs, hnl s (Nat.le_refl _) hs], by unfold inI64; omega, s - 1, by omega, by omega, s1.a, s1.l, s1.c, by rw [hz, hrow.cell _ (by omega), e1], 1, rfl, by omega, s2.a, s2.l, s2.c, by rw [hz, hrow.cell _ (by omega), e2], ?_⟩
  refine mont_has (x := s1) (y := s2) (X := P1) (Y := P2) hdn rfl (nilSt _ hgd) (.inl (by simp [m1])) (.inl (by simp [m2])) (.inr (by simp [hm])) l1 l2 lm hn0 (by omega) hkB hk fun r Z w3 hrl hZ hb3 hc3 hf3 => ?_
  have hb4 := hb3.perm (List.Perm.swap _ _ _)
  have hrow3 : RowAt w3 pb 16 f1 := hb4.head
  refine ⟨_, _, _, rfl, s, rfl, hs, by rw [hz]; exact ⟨_, hrow3.cell s hs⟩, by rw [hz]; exact hrow3.fr s hs, by unfold inI64; omega, fun B4 => hKn _ _ (s + 1) ⟨rfl, rfl, rfl, rfl, rfl, rfl, rfl, rfl, rfl, intv (by omega), trivial⟩ rfl ⟨by omega, hs, setF f1 s r.v, num r Z :: L1, ?_, fun i hi => ?_, fun i h1 h2 => ?_, ?_⟩ (by show 16 - (s + 1) < 16 - s; omega)⟩
  ·rw [hz]; exact setRow hb4 hs r.v
  ·by_cases his : i = s
   ·subst his
    refine ⟨r, Z, setF_self _ _ _, by simp, hrl, ?_⟩
    have := Mg.mul (odd_cop hM n) g1 g2 hZ
    exact this.congr (by omega)
   ·exact (hp i (by omega)).cons _ _ his
  ·rw [setF_ne _ _ (by omega)]; exact hnl i (by omega) h2
  ·rw [hz]
   exact hc.trans' (((Chg.drew0 wr _).trans' (hc3.nil _)).trans' (RowAt.set hrow3 hs r.v).2)
 ·have : s = 16 := by have := dF hb; omega
  subst this
  exact hKe _ _ (hK f1 L1 _ _ hb1 hp hc ⟨rfl, rfl, rfl, rfl, rfl, rfl, rfl, rfl, rfl, trivial⟩ rfl)
end Go.Proofs.YtlkjiiibmfpbcaaGreatDoor
namespace Go.Proofs.YtlkjiiibmfpbcaaGreatDoor
open Go
theorem cell45 : Cell1 45 61 (.int .u64 0) := by
 refine ⟨Tryz.underlying45, ?_, rfl⟩
 have h : (Tryz.prog.info? 61).map (fun i => (i.size, i.bytes, i.zero)) = some (1, 8, some (.int .u64 0)) := by kernel_rfl
 cases hi : Tryz.prog.info? 61 with
 | none => rw [hi] at h; simp at h
 | some ie =>
  rw [hi] at h
  simp only [Option.map_some, Option.some.injEq, Prod.mk.injEq] at h
  exact ⟨ie, rfl, h.1, by omega, h.2.2⟩
def setD (V k d : Nat) : Nat := V % BB ^ k + BB ^ k * (d + BB ^ 1 * (V / BB ^ (k + 1)))
theorem setD_lo (V k d : Nat) (hd : d < BB) : setD V k d % BB ^ (k + 1) = V % BB ^ k + BB ^ k * d := by
 unfold setD
 have h1 := Nat.mod_lt V (BBpow_pos k)
 rw [Nat.mul_add, ← Nat.mul_assoc, ← Nat.pow_add, ← Nat.add_assoc, Nat.add_mul_mod_self_left]
 refine Nat.mod_eq_of_lt ?_
 have : BB ^ k * d + BB ^ k ≤ BB ^ (k + 1) := by rw [BBpow_succ, ← Nat.mul_succ]; exact Nat.mul_le_mul_left _ hd
 omega
theorem setD_hi (V k d : Nat) (hd : d < BB) : setD V k d / BB ^ (k + 1) = V / BB ^ (k + 1) := by
 unfold setD
 have h1 := Nat.mod_lt V (BBpow_pos k)
 rw [Nat.mul_add, ← Nat.mul_assoc, ← Nat.pow_add, ← Nat.add_assoc, Nat.add_mul_div_left _ _ (BBpow_pos _)]
 have : BB ^ k * d + BB ^ k ≤ BB ^ (k + 1) := by rw [BBpow_succ, ← Nat.mul_succ]; exact Nat.mul_le_mul_left _ hd
 rw [Nat.div_eq_of_lt (by omega), Nat.zero_add]
theorem setD_bank {w : World} {s : Sl} {V k d : Nat} {L : List Item} (h : Bank w (num s V :: L)) (hk : k < s.l) (hd : d < BB) :
  Bank (w.setCell ⟨s.b, s.o + k, none⟩ (.int .u64 (d : Int))) (num s (setD V k d) :: L) ∧ Chg w (w.setCell ⟨s.b, s.o + k, none⟩ (.int .u64 (d : Int))) (fp s) := by
 have hs : Nt w s V := h.head
 have hlc := hs.lc
 have hp := hs.pl (by omega)
 have hc : Chg w (w.setCell ⟨s.b, s.o + k, none⟩ (.int .u64 (d : Int))) (inR s.b (s.o + k) (s.o + k + 1)) := Chg.setCell hp _ ⟨rfl, by omega, by omega⟩
 have hc' : Chg w (w.setCell ⟨s.b, s.o + k, none⟩ (.int .u64 (d : Int))) (fp s) := hc.mono fun b i _ hm => ⟨hm.1, by have := hm.2.1; omega, by have := hm.2.2; omega⟩
 refine ⟨h.upd hc' (fun _ _ _ hm => hm) ?_ fun _ _ _ hm => hm, hc'⟩
 have h0 : Sg (w.setCell ⟨s.b, s.o + k, none⟩ (.int .u64 (d : Int))) s.b s.o k (V % BB ^ k) := hc.sg ((hs.sg.le (by omega)).mod) fun i hi hm => by have := hm.2.1; omega
 have h1 : Sg (w.setCell ⟨s.b, s.o + k, none⟩ (.int .u64 (d : Int))) s.b (s.o + k) 1 d := fun i hi => by
  obtain rfl : i = 0 := by omega
  rw [dg_self d hd]
  exact World.cell?_setCell_same _ _ _ (hs.sg k hk)
 have h2 : Sg (w.setCell ⟨s.b, s.o + k, none⟩ (.int .u64 (d : Int))) s.b (s.o + k + 1) (s.l - (k + 1)) (V / BB ^ (k + 1)) := by
  have := hs.sg.hi (k + 1) (s.l - (k + 1)) (by omega)
  rw [← Nat.add_assoc] at this
  exact hc.sg this fun i _ hm => by have := hm.2.2; omega
 have h3 := h1.join h2 (by rw [Nat.pow_one]; exact hd)
 have h4 := h0.join h3 (Nat.mod_lt _ (BBpow_pos k))
 rw [show k + (1 + (s.l - (k + 1))) = s.l by omega] at h4
 refine { hc.st hs.toSt with sg := h4, lt := ?_ }
 have h5 : V / BB ^ (k + 1) < BB ^ (s.l - (k + 1)) := by rw [Nat.div_lt_iff_lt_mul (BBpow_pos _), ← Nat.pow_add, Nat.sub_add_cancel (by omega)]; exact hs.lt
 have h6 := pow_split BB (show k + 1 ≤ s.l by omega)
 have h7 := Nat.mod_add_div (setD V k d) (BB ^ (k + 1))
 rw [setD_hi V k d hd] at h7
 have h8 := Nat.mod_lt (setD V k d) (BBpow_pos (k + 1))
 rw [h6]
 have h9 : BB ^ (k + 1) * (V / BB ^ (k + 1)) + BB ^ (k + 1) ≤ BB ^ (k + 1) * BB ^ (s.l - (k + 1)) := by rw [← Nat.mul_succ]; exact Nat.mul_le_mul_left _ h5
 omega
theorem app_bank {w : World} {s : Sl} {V d b c0 : Nat} {L : List Item} (h : Bank w (num s V :: L)) (hsrc : w.cell? ⟨b, 0, none⟩ = some (.int .u64 (d : Int))) (hd : d < BB) (hl : s.l ≤ 1099511627776) :
  ∃ (r : Sl) (w' : World), Sem.run Tryz.prog (builtin .append #[45, 45] 45 #[false, false] #[s.v, .slice (some ⟨b, 0, none⟩) 1 c0]) w = .ok (.value r.v) w' ∧ r.l = s.l + 1 ∧ Bank w' (num r (V + BB ^ s.l * d) :: L) ∧ From w s r ∧ Chg w w' (fp s) := by
 have hs : Nt w s V := h.head
 obtain ⟨r, w', r1, r2, r3, r4, r5, _, r7⟩ := app1 cell45 s (.int .u64 (d : Int)) w hs.toSt ⟨b, 0, none⟩ c0 hsrc rfl hl (fun i => .int .u64 (dg V i : Int)) hs.sg
 refine ⟨r, w', r1, r2, h.res (a' := num r (V + BB ^ s.l * d)) rfl r5 r7 ?_ rfl, r5, r7⟩
 refine { r3 with sg := fun i hi => ?_, lt := ?_ }
 ·rw [r4 i (by omega)]
  by_cases hi' : i = s.l
  ·subst hi'
   rw [setF_self, show dg (V + BB ^ s.l * d) s.l = d by have := dg_add_hi V d s.l 0 hs.lt; rw [Nat.add_zero] at this; rw [this, dg_self d hd]]
  ·rw [setF_ne _ _ hi', dg_add_lo _ _ _ _ (by omega)]
 ·rw [r2]
  exact dlt hs.lt hd
theorem build0 (w : World) : Sem.run Tryz.prog (Instr.buildSlice 45 1 #[(0, .int .u64 0)]) w = .ok (.slice (some ⟨w.heap.size, 0, none⟩) 1 1) (w.alloc (.cells #[.int .u64 0] 61)) :=
 run_build61 w 45 Tryz.underlying45 1 #[(0, .int .u64 0)] #[.int .u64 0] (by decide) (by decide) (by kernel_rfl)
theorem p3_110 {w0 w : World} {z0 z : Sl} {D n : Nat} {L : List Item} (h : Bank w (num z D :: L)) (hD : D < 2 ^ n) (hz : Sub w0 z0 z) (hc : Chg w0 w (fp z0)) (hn : n ≤ 1000000) (hzl : z.l ≤ 2000000) (hg : Glb w0) (e : Env) (he : e.defers = []) (R : Value → World → Prop)
  (hR : ∀ (r : Sl) w', Bank w' (nmz r (2 ^ n - D) :: L) → Sub w0 z0 r → Chg w0 w' (fp z0) → R r.v w') (hag : agree e (F110.l4 z.a z.l z.c n)) : W Tryz.prog 83 F110.p5 e w (thenW Tryz.prog 83 F110.p3 (retK Tryz.prog [.tmp 8] R)) := by
 rw [F110.q5]
 refine W_for' (σ := Sl) (fun s => F110.l4 s.a s.l s.c n) (fun s w' => Bank w' (num s D :: L) ∧ Sub w0 z0 s ∧ Chg w0 w' (fp z0) ∧ s.l ≤ 2000000) (fun s => n - 64 * s.l) z hag ⟨h, hz, hc, hzl⟩ ?_
 rintro s B wr K2 ⟨hb, hs, hc1, hsl⟩ hKn hKe _
 have es : IntKind.wrap .u64 (IntKind.wrap .u64 ((s.l : Nat) : Int) * 64) = ((64 * s.l : Nat) : Int) := by rw [wrapN _ (by omega), show ((s.l : Int) * 64) = ((64 * s.l : Nat) : Int) by omega, wrapN _ (by omega)]
 refine F110.t4 s.a s.l s.c n ⟨rfl, rfl, trivial⟩ fun B1 => ?_
 unfold F110.v4
 rw [es]
 refine bc_intro (fun hb' => ?_) (fun hb' B2 => ?_)
 ·have hlt : 64 * s.l < n := by have := dT hb'; omega
  have hh : (wr.alloc (.cells #[.int .u64 0] 61)).heap[wr.heap.size]? = some (.cells #[.int .u64 0] 61 (0, 0)) := heap_alloc_new ..
  have c1 : Chg wr (wr.alloc (.cells #[(Value.int .u64 0)] 61)) none2 := Chg.alloc _ _ (fun a => RowKit.frozen?_alloc_cells _ _ _ _) _
  have b1 := hb.none c1
  have hg1 := (hc1.trans' (c1.none _)).glb hg
  obtain ⟨r, w', r1, r2, r3, r4, r5⟩ := app_bank (d := 0) (b := wr.heap.size) (c0 := 1) b1 (by rw [cell_eq, hh]; rfl) BB_pos (by omega)
  refine ⟨_, ⟨_, _, _, build0 wr, w', r.a, r.l, r.c, r1, fun B2 => hKn _ _ r ⟨rfl, rfl, trivial⟩ rfl ⟨?_, ?_, ?_, by omega⟩ (by show n - 64 * r.l < n - 64 * s.l; omega)⟩⟩
  ·rw [Nat.mul_zero, Nat.add_zero] at r3; exact r3
  ·exact hs.from_ r4 (hc1.trans' (c1.none _)).size
  ·exact (hc1.trans' (c1.none _)).trans r5 (fun _ _ _ h => h) fun b i hb hm => hs b i hb hm
 ·have hge : n ≤ 64 * s.l := by have := dF hb'; omega
  refine hKe _ _ ?_
  show W Tryz.prog 83 F110.p3 _ wr _
  refine F110.t3 s.a s.l s.c n ⟨rfl, rfl, trivial⟩ fun B3 B4 => ?_
  rw [F110.q8]
  refine W_for' (σ := Nat) (fun i => F110.l7 s.a s.l s.c n s.l i) (fun i w' => i ≤ s.l ∧ Chg w0 w' (fp z0) ∧ ∃ V, Bank w' (num s V :: L) ∧ V % BB ^ i + D % BB ^ i + 1 = BB ^ i ∧ V / BB ^ i = D / BB ^ i) (fun i => s.l - i) 0 ⟨rfl, rfl, rfl, rfl, trivial⟩ ⟨Nat.zero_le _, hc1, D, hb, by simp [Nat.mod_one], rfl⟩ ?_
  rintro i B wi K3 ⟨hi, hci, V, hbi, hV1, hV2⟩ hKn3 hKe3 _
  have hsP : Nt wi s V := hbi.head
  have hlc := hsP.lc
  refine F110.t7 s.a s.l s.c n s.l i ⟨rfl, rfl, rfl, rfl, trivial⟩ fun B5 => bc_intro (fun hb2 => ?_) (fun hb2 B6 => ?_)
  ·have hlt : i < s.l := by have := dT hb2; omega
   refine rdC (k := i) (hsP.at_ (by omega)) rfl hlt (hsP.sg i hlt) (wtC (k := i) hsP.wt rfl hlt ⟨by unfold inI64; omega, fun B6 => ?_⟩)
   have hd := dg_lt' V i
   have hdd : 18446744073709551615 - dg V i < BB := by rw [BB_eq]; omega
   rw [iNotN _ hd]
   obtain ⟨b2, c2⟩ := setD_bank hbi hlt hdd
   have hdg : dg V i = dg D i := by unfold dg; rw [hV2]
   refine hKn3 _ _ (i + 1) ⟨rfl, rfl, rfl, intv (by omega), trivial⟩ rfl ⟨hlt, hci.trans c2 (fun _ _ _ h => h) fun b i hb hm => hs b i hb hm, _, b2, ?_, ?_⟩ (by show s.l - (i + 1) < s.l - i; omega)
   ·rw [setD_lo _ _ _ hdd, mod_succ D i, ← hdg]
    have h1 : BB ^ (i + 1) = BB ^ i * (18446744073709551615 - dg V i) + BB ^ i * dg V i + BB ^ i := by
     rw [← Nat.mul_add, ← Nat.mul_succ, BBpow_succ]
     congr 1
     rw [BB_eq]; omega
    rw [h1]
    omega
   ·rw [setD_hi _ _ _ hdd]
    have e1 : ∀ A : Nat, A / BB ^ (i + 1) = A / BB ^ i / BB := fun A => by rw [BBpow_succ, Nat.div_div_eq_div_mul]
    rw [e1, e1, hV2]
  ·have hil : i = s.l := by have := dF hb2; omega
   subst hil
   refine hKe3 _ _ ?_
   show W Tryz.prog 83 F110.p6 _ wi _
   have hDl : D < BB ^ s.l := Nat.lt_of_lt_of_le hD (by rw [BB2]; exact Nat.pow_le_pow_right (by omega) hge)
   rw [Nat.mod_eq_of_lt hsP.lt, Nat.mod_eq_of_lt hDl] at hV1
   have hVn : V % 2 ^ n = 2 ^ n - 1 - D := by
    have e1 : BB ^ s.l = 2 ^ n * 2 ^ (64 * s.l - n) := by rw [BB2]; exact pow_split 2 hge
    have hq := Nat.two_pow_pos (64 * s.l - n)
    obtain ⟨q, hq⟩ : ∃ q, 2 ^ (64 * s.l - n) = q + 1 := ⟨_, (Nat.sub_add_cancel hq).symm⟩
    have e2 : V = 2 ^ n * q + (2 ^ n - 1 - D) := by rw [e1, hq, Nat.mul_succ] at hV1; omega
    rw [e2, Nat.mul_add_mod]
    exact Nat.mod_eq_of_lt (by omega)
   refine F110.t6 s.a s.l s.c n ⟨rfl, rfl, trivial⟩ fun B7 => ResE.pass (c107g s s V n wi hsP.toSt hsP (fun hh => by omega) (by unfold Len; omega) (by omega)) fun r1 w1 h1 f1 c1 => ⟨_, _, _, rfl, ?_⟩
   rw [hVn] at h1
   have b1 := hbi.res (a' := nmz r1 (2 ^ n - 1 - D)) rfl f1 c1 h1 rfl
   have s1 : Sub w0 z0 r1 := hs.from_ f1 hci.size
   have cc1 : Chg w0 w1 (fp z0) := hci.trans c1 (fun _ _ _ h => h) fun b i hb hm => hs b i hb hm
   refine (c100 w1 (cc1.glb hg).gb).mono ?_
   rintro e2 w2 ⟨_, rfl, one, rfl, hone, hnew, hc2⟩
   have b2 := b1.none hc2
   have hr1 : Nz w2 r1 (2 ^ n - 1 - D) := b2.head
   have hr1w : Nz w1 r1 (2 ^ n - 1 - D) := h1
   have lr1 : Len r1 := by
    have := h1.nm s.l (Nat.lt_of_lt_of_le (show 2 ^ n - 1 - D < 2 ^ n by have := Nat.two_pow_pos n; omega) (by rw [BB2]; exact Nat.pow_le_pow_right (by omega) hge))
    unfold Len; omega
   refine ⟨_, _, _, rfl, ResE.pass (c101 r1 r1 one (2 ^ n - 1 - D) 1 w2 hr1.toSt hr1 hone (.inr (.inr (.inr (.inr (.inr rfl))))) ?_ lr1 (by have := hone.nm 1 (by decide); unfold Len; omega)) fun r3 w3 h3 f3 c3 => ⟨_, _, _, rfl, fun B8 => ret1 he rfl ?_⟩⟩
   ·by_cases h0 : r1.c = 0
    ·exact .inl h0
    ·refine .inr (.inr (.inl fun e1 => ?_))
     have := hr1w.toSt.blk h0; omega
   ·rw [show 2 ^ n - 1 - D + 1 = 2 ^ n - D by omega] at h3
    exact hR r3 w3 (b2.res (a' := nmz r3 (2 ^ n - D)) rfl f3 c3 h3 rfl) (s1.from_ f3 (Nat.le_trans cc1.size hc2.size)) ((cc1.trans' (hc2.none _)).trans c3 (fun _ _ _ h => h) fun b i hb hm => s1 b i hb hm)
theorem p2_110 {w0 w : World} {z0 x y : Sl} {X Y n : Nat} {L L' : List Item} (h : Bank w (nmz x X :: L')) (hs : L.Sublist L') (hy : nmz y Y ∈ L') (hX : X < 2 ^ n) (hY : Y < 2 ^ n) (hz : Sub w0 z0 x) (hc : Chg w0 w (fp z0)) (hn : n ≤ 1000000) (lx : x.l ≤ 1000000) (ly : y.l ≤ 1000000) (hg : Glb w0) (e : Env) (he : e.defers = []) (R : Value → World → Prop)
  (hR : ∀ (r : Sl) w', Bank w' (nmz r ((X + 2 ^ n - Y) % 2 ^ n) :: L) → Sub w0 z0 r → Chg w0 w' (fp z0) → R r.v w') (hag : agree e (F110.l2 x.a x.l x.c x.a x.l x.c y.a y.l y.c n)) : W Tryz.prog 83 F110.p2 e w (retK Tryz.prog [.tmp 8] R) := by
 have hxP : Nz w x X := h.head
 have hyP : Nz w y Y := h.all (nmz y Y) (by simp [hy])
 refine F110.t2 x.a x.l x.c x.a x.l x.c y.a y.l y.c n hag fun B => (c92 x y X Y w hxP hyP).mono ?_
 rintro e1 w1 ⟨_, rfl, rfl, hc1⟩
 have b1 := h.none hc1
 have hx1 : Nz w1 x X := b1.head
 have hy1 : Nz w1 y Y := b1.all (nmz y Y) (by simp [hy])
 have dxy : Dj (fp x) (fp y) := b1.hdj (b := nmz y Y) (by simp [hy])
 have c01 : Chg w0 w1 (fp z0) := hc.trans' (hc1.none _)
 refine ⟨_, rfl, bc_intro (fun hb => ?_) (fun hb => ?_)⟩
 ·have hge : Y ≤ X := by
   have := dT hb
   unfold sgn at this
   rcases Nat.lt_or_ge X Y with h1 | h1
   ·rw [if_pos h1] at this; omega
   ·exact h1
  refine ResE.pass (c52 x x y X Y w1 hx1.toSt hx1 hy1 (.inr (.inr (.inr (.inr (.inr rfl))))) (dxy.al hy1.toSt).sep (by unfold Len; omega) hge) fun r w2 h2 f2 c2 => ⟨_, _, _, rfl, fun B2 => ret1 he rfl ?_⟩
  have b2 := b1.res (a' := nmz r (X - Y)) rfl f2 c2 h2 rfl
  refine hR r w2 ?_ (hz.from_ f2 c01.size) (c01.trans c2 (fun _ _ _ h => h) fun b i hb hm => hz b i hb hm)
  rw [show X + 2 ^ n - Y = X - Y + 2 ^ n by omega, Nat.add_mod_right, Nat.mod_eq_of_lt (by omega)]
  exact b2.sub (hs.cons_cons _)
 ·have hlt : X < Y := by
   have := dF hb
   unfold sgn at this
   rcases Nat.lt_or_ge X Y with h1 | h1
   ·exact h1
   ·rw [if_neg (by omega)] at this
    split at this <;> omega
  refine ResE.pass (c52 x y x Y X w1 hx1.toSt hy1 hx1 (dxy.al hy1.toSt).sep (.inr (.inr (.inr (.inr (.inr rfl))))) (by unfold Len; omega) (by omega)) fun r w2 h2 f2 c2 => ⟨_, _, _, rfl, fun B2 => ?_⟩
  have b2 := b1.res (a' := nmz r (Y - X)) rfl f2 c2 h2 rfl
  have hrl : r.l ≤ 2000000 := Nat.le_trans (h2.nm y.l (Nat.lt_of_le_of_lt (Nat.sub_le _ _) hy1.lt)) (by omega)
  refine p3_110 (b2.weak.sub (hs.cons_cons _)) (by omega) (hz.from_ f2 c01.size) (c01.trans c2 (fun _ _ _ h => h) fun b i hb hm => hz b i hb hm) hn hrl hg _ (by exact he) R (fun r w' b3 s3 c3 => hR r w' ?_ s3 c3) ⟨rfl, rfl, trivial⟩
  have : (X + 2 ^ n - Y) % 2 ^ n = 2 ^ n - (Y - X) := by rw [Nat.mod_eq_of_lt (by omega)]; omega
  rw [this]; exact b3
theorem c110 {w : World} {x y : Sl} {X Y n : Nat} {L : List Item} (h : Bank w (nmz x X :: L)) (hy : nmz y Y ∈ L) (hX : X < 2 ^ n) (hn : n ≤ 1000000) (lx : x.l ≤ 1000000) (ly : y.l ≤ 1000000) (hg : Glb w) {Q : Ending → World → Prop}
  (q : ∀ (r : Sl) w', Bank w' (nmz r ((X + 2 ^ n - Y % 2 ^ n) % 2 ^ n) :: L) → Sub w x r → Chg w w' (fp x) → Q (.returned r.v) w') :
  Calls Tryz.prog 110 #[x.v, x.v, y.v, .int .u64 (n : Int)] w Q := by
 have hxP : Nz w x X := h.head
 refine (F110.call x.a x.l x.c x.a x.l x.c y.a y.l y.c n w (fun v w' => Q (.returned v) w') fun B => ?_).mono fun e w' ⟨v, h1, h2⟩ => by rw [h1]; exact h2
 refine (c53 x X w hxP (by unfold Len; omega)).mono ?_
 rintro e w1 ⟨_, rfl, rfl, hw⟩
 have hw := hw.symm
 subst hw
 have hbx := blen_le_of_lt hX
 refine ⟨_, rfl, ?_⟩
 rw [wrapN _ (by omega)]
 refine bc_false (decF (by omega)) fun B1 => F110.t1 x.a x.l x.c x.a x.l x.c y.a y.l y.c n ⟨rfl, rfl, rfl, rfl, trivial⟩ fun B2 => ?_
 have hyP : Nz w y Y := h.all (nmz y Y) (by simp [hy])
 refine (c53 y Y w hyP (by unfold Len; omega)).mono ?_
 rintro e w1 ⟨_, rfl, rfl, hw⟩
 have hw := hw.symm
 subst hw
 have hby : blen Y ≤ 64 * y.l := blen_le_of_lt (by have := hyP.lt; rw [BB2] at this; exact this)
 refine ⟨_, rfl, ?_⟩
 rw [wrapN _ (by omega)]
 refine bc_intro (fun hb => ?_) (fun hb B3 => ?_)
 ·refine (c49 x y w hxP.toSt.pc hyP.toSt.pc hxP.cm hyP.cm).mono ?_
  rintro e w1 ⟨_, rfl, qq, rfl, hw, hq⟩
  have hw := hw.symm
  subst hw
  have hqf : qq = false := by
   cases qq with
   | false => rfl
   | true =>
    obtain ⟨h1, h2, h3, h4⟩ := hq.1 rfl
    have dxy : Dj (fp x) (fp y) := h.hdj (b := nmz y Y) (by simp [hy])
    exact (dxy x.b (x.o + x.c - 1) ⟨rfl, by omega, by omega⟩ ⟨h3, by omega, by omega⟩).elim
  subst hqf
  have cd : Chg w w.drew none2 := Chg.drew0 w _
  have bd := h.none cd
  have hgd := (cd.glb hg).gb
  refine ⟨_, rfl, bc_false rfl (ResE.pass (c107 (nilS w.drew) y Y n w.drew (nilSt _ hgd) (bd.all (nmz y Y) (by simp [hy])) (by unfold Len; omega) (by omega)) fun r w2 h2 f2 c2 => ⟨_, _, _, rfl, fun B3 => ?_⟩)⟩
  have b2 : Bank w2 (nmz x X :: nmz r (Y % 2 ^ n) :: L) := ((bd.nilF hgd).res (a' := nmz r (Y % 2 ^ n)) rfl f2 c2 h2 rfl).perm (List.Perm.swap _ _ _)
  have hrl : r.l ≤ y.l := h2.nm _ (Nat.lt_of_le_of_lt (Nat.mod_le _ _) hyP.lt)
  exact p2_110 (w0 := w) (z0 := x) (Y := Y % 2 ^ n) b2 (List.sublist_cons_self _ _) (by simp) hX (Nat.mod_lt _ (Nat.two_pow_pos n)) (Sub.self _ _) ((cd.none _).trans' (c2.nil _)) hn lx (by omega) hg _ rfl _ q ⟨rfl, rfl, rfl, rfl, trivial⟩
 ·have hYn : Y < 2 ^ n := Nat.lt_of_lt_of_le (blen_lt Y) (Nat.pow_le_pow_right (by omega) (by have := dF hb; omega))
  rw [Nat.mod_eq_of_lt hYn] at q
  exact p2_110 (w0 := w) (z0 := x) h (List.Sublist.refl _) hy hX hYn (Sub.self _ _) (Chg.refl _ _) hn lx ly hg _ rfl _ q ⟨rfl, rfl, rfl, rfl, trivial⟩
end Go.Proofs.YtlkjiiibmfpbcaaGreatDoor
namespace Go.Proofs.YtlkjiiibmfpbcaaGreatDoor
open Go
theorem p7_74 {w0 w : World} {K0 K : SK} {z zz one m y : Sl} {f : Nat → Value} {Lp Lx L : List Item} {a : Item} {pb n k M X Y : Nat}
  (hb : Bank w (row pb 16 f :: (Lp ++ (stk K :: a :: sto zz :: num one 1 :: (Lx ++ L))))) (hm : nmz m M ∈ L) (hy : nmz y Y ∈ L) (ha : a.fp = fp z) (hz : St w z) (hzz : zz.c ≤ 9223372036854775807) (lm : m.l = n) (lo : one.l = n) (hn0 : n ≠ 0) (hn : n < 40) (hM : M % 2 = 1) (hyl : y.l ≤ 1000000)
  (hkB : k < 18446744073709551616) (hk : (k * M + 1) % BB = 0) (hf : ∀ i, i < 16 → Pw f Lp M X n i) (ch : Chg w0 w (un (fp z) K0.free)) (kn : Nxt w0 K0 K) (ka : K.a = K0.a) (kl : K.s.l = K0.s.l) (szz : Sub w0 z zz) (hL : K0.s.l ≤ 1099511627776) (hg : Glb w0) (e : Env) (Kt : Kont)
  (hag : agree e (F74.l7 z.a z.l z.c K0.a y.a y.l y.c m.a m.l m.c n k zz.a zz.l zz.c one.a one.l one.c pb 0))
  (hK : ∀ (r : Sl) (K' : SK) (w' : World) (e' : Env), Bank w' (stk K' :: nmz r (X ^ Y % M) :: L) → K'.a = K0.a → K'.s.l = K0.s.l → Nxt w0 K0 K' → Sub w0 z r → Chg w0 w' (un (fp z) K0.free) → e'.get 10 = r.v → e'.defers = e.defers → Kt .ret e' w') :
  W Tryz.prog 239 F74.p7 e w Kt := by
 have hg1 : Glb w := ch.glb hg
 have b1 : Bank w (a :: sto zz :: stk K :: row pb 16 f :: (Lp ++ (num one 1 :: (Lx ++ L)))) := by
  have h1 := Bank.mid (A := row pb 16 f :: Lp) hb
  have h2 := Bank.mid (A := stk K :: row pb 16 f :: Lp) h1
  have h3 := Bank.mid (A := a :: stk K :: row pb 16 f :: Lp) h2
  exact h3.pick 3 [1, 0, 2] rfl
 refine F74.t7 z.a z.l z.c K0.a y.a y.l y.c m.a m.l m.c n k zz.a zz.l zz.c one.a one.l one.c pb 0 hag fun B => mk_bank b1 ha hz (by omega) fun z1 w1 hl1 b2 hf1 hc1 => ⟨_, _, _, rfl, ?_⟩
 obtain ⟨s0, P0, e0, m0, l0, g0⟩ := hf 0 (by omega)
 have hrow : RowAt w1 pb 16 f := b2.all (row pb 16 f) (by simp)
 obtain ⟨w2, r2, b3, hc2⟩ := cp_sto (x := s0) (X := P0) b2 (.inl (by simp [m0])) (by omega)
 refine ⟨0, rfl, by omega, s0.a, s0.l, s0.c, by rw [Nat.zero_add, hrow.cell 0 (by omega), e0], w2, _, r2, ?_⟩
 have b4 : Bank w2 (sto zz :: num z1 P0 :: stk K :: row pb 16 f :: (Lp ++ (num one 1 :: (Lx ++ L)))) := b3.pick 2 [1, 0] rfl
 refine mk_bank b4 rfl b4.head (by omega) fun zz1 w3 hl3 b5 hf3 hc3 => ⟨_, _, _, rfl, by unfold inI64; omega, fun B2 => ?_⟩
 have sz1 : Sub w0 z z1 := (Sub.self w0 z).from_ hf1 ch.size
 have c2 : Chg w0 w2 (un (fp z) K0.free) := (ch.trans' (hc1.none _)).trans hc2 (fun _ _ _ h => h) fun b i hb hm => .inl (sz1 b i hb hm)
 have ch3 : Chg w0 w3 (un (fp z) K0.free) := c2.trans' (hc3.none _)
 have szz1 : Sub w0 z zz1 := szz.from_ hf3 (Nat.le_trans ch.size (Nat.le_trans hc1.size hc2.size))
 have b6 : Bank w3 (num z1 P0 :: sto zz1 :: (row pb 16 f :: stk K :: (Lp ++ (num one 1 :: (Lx ++ L))))) := b5.pick 4 [1, 0, 3, 2] rfl
 have hpw : ∃ (pw : Nat → Sl) (P : Nat → Nat), ∀ i, i < 16 → f i = (pw i).v ∧ num (pw i) (P i) ∈ Lp ∧ (pw i).l = n ∧ Mg M (BB ^ n) X (P i) i := by
  have h1 : ∀ i, ∃ sp : Sl × Nat, i < 16 → f i = sp.1.v ∧ num sp.1 sp.2 ∈ Lp ∧ sp.1.l = n ∧ Mg M (BB ^ n) X sp.2 i := fun i => by
   by_cases hi : i < 16
   ·obtain ⟨s, p, h1, h2, h3, h4⟩ := hf i hi
    exact ⟨(s, p), fun _ => ⟨h1, h2, h3, h4⟩⟩
   ·exact ⟨(z, 0), fun h => absurd h hi⟩
  obtain ⟨g, hg⟩ := Classical.axiomOfChoice h1
  exact ⟨fun i => (g i).1, fun i => (g i).2, hg⟩
 obtain ⟨pw, P, hpw⟩ := hpw
 have hrow' : Bank w3 (num z1 P0 :: sto zz1 :: (row pb 16 (fun i => (pw i).v) :: stk K :: (Lp ++ (num one 1 :: (Lx ++ L))))) := by
  have h1 : Bank w3 (row pb 16 f :: num z1 P0 :: sto zz1 :: stk K :: (Lp ++ (num one 1 :: (Lx ++ L)))) := b6.pick 4 [2, 0, 1, 3] rfl
  have h2 : Bank w3 (row pb 16 (fun i => (pw i).v) :: num z1 P0 :: sto zz1 :: stk K :: (Lp ++ (num one 1 :: (Lx ++ L)))) :=
   h1.weaken (a' := row pb 16 (fun i => (pw i).v)) rfl fun h => ⟨h.own, fun i hi => by rw [h.cell i hi, (hpw i hi).1], h.fr⟩
  exact h2.pick 4 [1, 2, 0, 3] rfl
 have mc : MC (row pb 16 (fun i => (pw i).v) :: stk K :: (Lp ++ (num one 1 :: (Lx ++ L)))) one m pw P pb M X k n :=
  ⟨hn0, hn, hM, hkB, hk, .inl (by simp), lo, by simp [hm], lm, by simp, fun i hi => ⟨.inl (by simp [(hpw i hi).2.1]), (hpw i hi).2.2⟩⟩
 have mw : Mw w0 w3 (un (fp z) K0.free) z z1 zz1 P0 M X n 0 (row pb 16 (fun i => (pw i).v) :: stk K :: (Lp ++ (num one 1 :: (Lx ++ L)))) :=
  ⟨hrow', ch3, fun _ _ _ h => .inl h, sz1, szz1, hl1, hl3, g0⟩
 refine words74 (y := y) (Y := Y) (stk := K0.a) mw mc (by simp [hy]) hyl _ _ ⟨rfl, rfl, rfl, rfl, rfl, rfl, rfl, rfl, rfl, rfl, trivial⟩ fun z' zz' A' w4 e4 h4 a4 d4 => ?_
 have b7 : Bank w4 (sto zz' :: stk K :: num z' A' :: row pb 16 (fun i => (pw i).v) :: (Lp ++ (num one 1 :: (Lx ++ L)))) := h4.bank.pick 4 [1, 3, 0, 2] rfl
 show W Tryz.prog 239 F74.p10 e4 w4 Kt
 rw [← ka] at a4
 refine fin74 b7 (.inl (by simp)) (.inl (by simp)) (by simp [hm]) h4.lz lo lm hn0 hn hM hkB hk h4.mg (by rw [kl]; exact hL) (h4.ch.glb hg) e4 Kt a4 fun r K' w5 e5 b8 k1 k2 k3 s5 c5 g5 d5 => hK r K' w5 e5 ?_ (k1.trans ka) (k2.trans kl) (kn.trans k3 h4.ch.size) ?_ ?_ g5 (d5.trans d4)
 ·exact b8.sub ((((List.Sublist.refl L).trans ((List.sublist_append_right Lx L).trans ((List.sublist_cons_self (num one 1) _).trans (List.sublist_append_right Lp _)))).trans ((List.sublist_cons_self _ _).trans (List.sublist_cons_self _ _))).cons_cons _ |>.cons_cons _)
 ·exact fun b i hb hm => h4.szz b i hb (s5 b i (Nat.lt_of_lt_of_le hb h4.ch.size) hm)
 ·refine h4.ch.trans c5 (fun _ _ _ h => h) fun b i hb hm => ?_
  rcases hm with hm | hm
  ·exact .inl (h4.szz b i hb hm)
  ·exact .inr (kn.free hb hm)
end Go.Proofs.YtlkjiiibmfpbcaaGreatDoor
