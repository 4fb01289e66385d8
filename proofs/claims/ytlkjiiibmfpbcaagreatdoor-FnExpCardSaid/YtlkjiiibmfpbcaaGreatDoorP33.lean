/- The windowed exponentiation: storage from the stack for sixteen powers, and the powers. Conditions: exponents of two up to 39 words. -/
import Derived.Test.YtlkjiiibmfpbcaaGreatDoorP31
import Derived.Test.YtlkjiiibmfpbcaaGreatDoorP32
namespace Go.Proofs.YtlkjiiibmfpbcaaGreatDoor
open Go
def fs (ps : List Sl) : Nat → Value := fun j => match ps[j]? with
 | some s => s.v
 | none => .slice none 0 0
theorem fs_snoc (ps : List Sl) (x : Sl) : setF (fs ps) ps.length x.v = fs (ps ++ [x]) := by
 funext j
 unfold setF fs
 by_cases h : j = ps.length
 ·subst h; simp
 ·rw [if_neg h]
  rcases Nat.lt_or_ge j ps.length with h1 | h1
  ·rw [List.getElem?_append_left h1]
  ·rw [List.getElem?_eq_none (by omega), List.getElem?_eq_none (by simp; omega)]
theorem hz0 (pb j : Nat) : (⟨pb, 0 + j, none⟩ : Addr) = ⟨pb, j, none⟩ := by rw [Nat.zero_add]
theorem KS.row {w0 w w' : World} {z0 : Sl} {K0 K : SK} {top pb : Nat} (h : KS w0 w z0 K0 K top) (hc : Chg w w' (fun b _ => b = pb)) (hp : w0.heap.size ≤ pb) : KS w0 w' z0 K0 K top :=
 ⟨h.ch.trans hc (fun _ _ _ h => h) fun b i hb hm => (by have hm : b = pb := hm; omega), h.kn, h.ka, h.top, h.hg⟩
theorem KS.none {w0 w w' : World} {z0 : Sl} {K0 K : SK} {top : Nat} (h : KS w0 w z0 K0 K top) (hc : Chg w w' none2) : KS w0 w' z0 K0 K top := ⟨h.ch.trans' (hc.none _), h.kn, h.ka, h.top, h.hg⟩
theorem KS.up {w0 w : World} {z0 : Sl} {K0 K : SK} {top top' : Nat} (h : KS w0 w z0 K0 K top) (ht : top ≤ top') : KS w0 w z0 K0 K top' := { h with top := Nat.le_trans h.top ht }
variable {w0 w : World} {K0 K : SK} {z0 z zz x y : Sl} {X k pb nw top : Nat} {L1 : List Item} {ps : List Sl}
theorem take76 (hb : Bank w (stk K :: row pb 16 (fs []) :: L1)) (ks : KS w0 w z0 K0 K top) (hpb : w0.heap.size ≤ pb) (hnw : nw ≤ 1000000) (ht : top + 16 * (nw + 4) ≤ 2199023255552) (e : Env) (Kt : Kont)
  (hag : agree e (F76.l3 z.a z.l z.c K0.a x.a x.l x.c y.a y.l y.c k nw zz.a zz.l zz.c pb 0 0))
  (hK : ∀ (K' : SK) (ps : List Sl) (w' : World) (e' : Env), Bank w' (stk K' :: row pb 16 (fs ps) :: (ps.map sto ++ L1)) → ps.length = 16 → (∀ s ∈ ps, In2 w0 (un (fp z0) K0.free) s) → KS w0 w' z0 K0 K' (top + 16 * (nw + 4)) →
   agree e' (F76.l2 z.a z.l z.c K0.a x.a x.l x.c y.a y.l y.c k zz.a zz.l zz.c pb 0) → e'.defers = e.defers → Kt .normal e' w') :
  W Tryz.prog 223 F76.p4 e w Kt := by
 rw [F76.q4]
 refine W_for' (σ := Nat) (fun s => F76.l3 z.a z.l z.c K0.a x.a x.l x.c y.a y.l y.c k nw zz.a zz.l zz.c pb 0 (s : Int))
  (fun s w' => s ≤ 16 ∧ ∃ K' ps, Bank w' (stk K' :: row pb 16 (fs ps) :: (ps.map sto ++ L1)) ∧ ps.length = s ∧ (∀ s ∈ ps, In2 w0 (un (fp z0) K0.free) s) ∧ KS w0 w' z0 K0 K' (top + s * (nw + 4))) (fun s => 16 - s) 0 hag
  ⟨Nat.zero_le _, K, [], hb, rfl, by simp, ks.up (by omega)⟩ ?_
 rintro t B wr K2 ⟨ht16, K1, ps, hb1, hlen, hin, ks1⟩ hKn hKe _
 refine F76.t3 z.a z.l z.c K0.a x.a x.l x.c y.a y.l y.c k nw zz.a zz.l zz.c pb 0 t ⟨rfl, rfl, rfl, rfl, rfl, rfl, rfl, rfl, rfl, trivial⟩ fun B1 => bc_intro (fun hb => ?_) (fun hb B2 => ?_)
 ·have h16 : t < 16 := by have := dT hb; omega
  have htm : t * (nw + 4) ≤ 15 * (nw + 4) := Nat.mul_le_mul_right _ (by omega)
  have htop := ks1.top
  rw [← ks1.ka]
  refine take_bank hb1 (by omega) (by omega) fun s K' w1 b1 ka kl1 kl2 kn hs hc => ⟨_, _, _, rfl, t, rfl, h16, ?_⟩
  have b2 : Bank w1 (row pb 16 (fs ps) :: stk K' :: sto s :: (ps.map sto ++ L1)) := b1.pick 3 [2, 0, 1] rfl
  have hrow : RowAt w1 pb 16 (fs ps) := b2.head
  simp only [hz0]
  refine ⟨⟨_, hrow.cell t h16⟩, hrow.fr t h16, by unfold inI64; omega, fun B2 => ?_⟩
  have b3 := setRow b2 h16 s.v
  have c3 := (RowAt.set hrow h16 s.v).2
  rw [← hlen, fs_snoc] at b3
  have isn : In2 w0 (un (fp z0) K0.free) s := fun b i hb hm => ks1.free hb (hs b i (Nat.lt_of_lt_of_le hb ks1.ch.size) hm)
  have ksn : KS w0 w1 z0 K0 K' (top + (t + 1) * (nw + 4)) := by
   refine (ks1.up (top' := top + (t + 1) * (nw + 4)) (by rw [Nat.add_mul]; omega)).step (s := s) isn (hc.r _) kn ka ?_
   rw [Nat.add_mul, Nat.one_mul]; omega
  refine hKn _ _ (t + 1) ⟨rfl, congrArg Value.pointer ks1.ka, rfl, rfl, rfl, rfl, rfl, rfl, intv (by omega), trivial⟩ rfl ⟨h16, K', ps ++ [s], ?_, by simp [hlen], fun s' hs' => ?_, ksn.row (pb := pb) (by rw [← hlen] at c3; rw [← hlen]; exact c3) hpb⟩ (by show 16 - (t + 1) < 16 - t; omega)
  ·rw [← hlen]
   have b4 : Bank (w1.setCell ⟨pb, ps.length, none⟩ s.v) (stk K' :: row pb 16 (fs (ps ++ [s])) :: sto s :: (ps.map sto ++ L1)) := b3.pick 3 [1, 0, 2] rfl
   refine b4.perm ?_
   rw [List.map_append, List.append_assoc]
   exact ((List.perm_middle (l₁ := ps.map sto) (l₂ := L1) (a := sto s)).symm.cons _).cons _
  ·rcases List.mem_append.1 hs' with h | h
   ·exact hin s' h
   ·rw [List.mem_singleton.1 h]; exact isn
 ·have h16 : t = 16 := by have := dF hb; omega
  subst h16
  exact hKe _ _ (hK K1 ps _ _ hb1 hlen hin ks1 ⟨rfl, rfl, rfl, rfl, rfl, rfl, rfl, trivial⟩ rfl)
def Pq (g : Nat → Value) (D : List Item) (X k j : Nat) : Prop := ∃ s P, g j = s.v ∧ nmz s P ∈ D ∧ P = X ^ j % 2 ^ k
theorem Pq.set {g : Nat → Value} {D : List Item} {X k i j : Nat} (h : Pq g D X k i) (v : Value) (hij : i ≠ j) : Pq (setF g j v) D X k i := by
 obtain ⟨s, P, h1, h2, h3⟩ := h
 exact ⟨s, P, by rw [setF_ne _ _ hij]; exact h1, h2, h3⟩
theorem Pq.cons {g : Nat → Value} {D : List Item} {X k i : Nat} (h : Pq g D X k i) (a : Item) : Pq g (a :: D) X k i := by
 obtain ⟨s, P, h1, h2, h3⟩ := h
 exact ⟨s, P, h1, List.mem_cons_of_mem _ h2, h3⟩
theorem iQuo2 (i : Nat) (h : i ≤ 100) : iQuo .i64 (i : Int) 2 = ((i / 2 : Nat) : Int) := by
 show IntKind.wrap .i64 (Int.tdiv (i : Int) 2) = _
 rw [show Int.tdiv (i : Int) 2 = ((i / 2 : Nat) : Int) from rfl, wrapIN _ (by omega)]
theorem pows76 {D : List Item} {ts : List Sl} {g : Nat → Value} {X : Nat} (hb : Bank w (stk K :: row pb 16 g :: (D ++ (ts.map sto ++ L1)))) (hlen : ts.length = 14) (hg : ∀ j (h : j < ts.length), g (2 + j) = (ts[j]).v) (hts : ∀ s ∈ ts, In2 w0 (un (fp z0) K0.free) s) (hD : ∀ j, j < 2 → Pq g D X k j)
  (ks : KS w0 w z0 K0 K top) (hpb : w0.heap.size ≤ pb) (hx : nmz x X ∈ L1) (hxl : x.l ≤ 1000000) (hk : k ≤ 2496) (ht : top ≤ 2199023255552) (e : Env) (Kt : Kont)
  (hag : agree e (F76.l8 z.a z.l z.c K0.a x.a x.l x.c y.a y.l y.c k zz.a zz.l zz.c pb 0 2))
  (hK : ∀ (K' : SK) (D' : List Item) (g' : Nat → Value) (w' : World) (e' : Env), Bank w' (stk K' :: row pb 16 g' :: (D' ++ L1)) → (∀ j, j < 16 → Pq g' D' X k j) → KS w0 w' z0 K0 K' top →
   agree e' (F76.l7 z.a z.l z.c K0.a y.a y.l y.c k zz.a zz.l zz.c pb 0) → e'.defers = e.defers → Kt .normal e' w') :
  W Tryz.prog 223 F76.p9 e w Kt := by
 rw [F76.q9]
 refine W_for' (σ := Nat) (fun s => F76.l8 z.a z.l z.c K0.a x.a x.l x.c y.a y.l y.c k zz.a zz.l zz.c pb 0 (s : Int))
  (fun s w' => s ≤ 16 ∧ 2 ≤ s ∧ s % 2 = 0 ∧ ∃ (K' : SK) (D : List Item) (ts : List Sl) (g : Nat → Value), Bank w' (stk K' :: row pb 16 g :: (D ++ (ts.map sto ++ L1))) ∧ ts.length + s = 16 ∧ (∀ j (h : j < ts.length), g (s + j) = (ts[j]).v) ∧ (∀ s ∈ ts, In2 w0 (un (fp z0) K0.free) s) ∧ (∀ j, j < s → Pq g D X k j) ∧ KS w0 w' z0 K0 K' top) (fun s => 16 - s) 2 hag
  ⟨by omega, Nat.le_refl _, rfl, K, D, ts, g, hb, by omega, hg, hts, hD, ks⟩ ?_
 rintro i B wr K2 ⟨hi16, hi2, hie, K1, D, ts, g, hb1, hlen, hgt, hts, hD, ks1⟩ hKn hKe _
 refine F76.t8 z.a z.l z.c K0.a x.a x.l x.c y.a y.l y.c k zz.a zz.l zz.c pb 0 i ⟨rfl, rfl, rfl, rfl, rfl, rfl, rfl, rfl, trivial⟩ fun B1 => bc_intro (fun hb => ?_) (fun hb B2 => ?_)
 ·have h14 : i < 15 := by have := dT hb; omega
  obtain ⟨s0, s1, rest, rfl⟩ : ∃ s0 s1 rest, ts = s0 :: s1 :: rest := by
   cases ts with
   | nil => simp at hlen; omega
   | cons s0 r => cases r with
    | nil => simp at hlen; omega
    | cons s1 rest => exact ⟨s0, s1, rest, rfl⟩
  have hg0 : g i = s0.v := by have := hgt 0 (by simp); simpa using this
  have hg1 : g (i + 1) = s1.v := by have := hgt 1 (by simp); simpa using this
  have i0 : In2 w0 (un (fp z0) K0.free) s0 := hts s0 (by simp)
  have i1 : In2 w0 (un (fp z0) K0.free) s1 := hts s1 (by simp)
  obtain ⟨sh, Ph, e1, m1, v1⟩ := hD (i / 2) (by omega)
  have dd : Chg wr wr.drew.drew none2 := (Chg.drew0 wr _).trans' (Chg.drew0 wr.drew _)
  obtain ⟨wd, hwd⟩ : ∃ wd, wd = wr.drew.drew := ⟨_, rfl⟩
  rw [← hwd] at dd
  have b1 : Bank wd (stk K1 :: sto s0 :: sto s1 :: row pb 16 g :: (D ++ (rest.map sto ++ L1))) := by
   have h1 := hb1.none dd
   have h2 := Bank.mid (A := stk K1 :: row pb 16 g :: D) (b := sto s0) (C := sto s1 :: (rest.map sto ++ L1)) h1
   have h3 := Bank.mid (A := sto s0 :: stk K1 :: row pb 16 g :: D) (b := sto s1) (C := rest.map sto ++ L1) h2
   exact h3.pick 4 [2, 1, 0, 3] rfl
  have ksd := ks1.none dd
  have hrowd : RowAt wd pb 16 g := b1.all (row pb 16 g) (by simp)
  have eq2 : iQuo .i64 (i : Int) 2 = ((i / 2 : Nat) : Int) := iQuo2 i (by omega)
  refine ⟨by omega, i / 2, eq2, by omega, i, rfl, by omega, by unfold inI64; omega, i + 1, by omega, by omega, ?_⟩
  simp only [hz0]
  rw [← hwd]
  refine ⟨pb, i, rfl, s0.a, s0.l, s0.c, by rw [hrowd.cell i (by omega), hg0], pb, i / 2, rfl, sh.a, sh.l, sh.c, by rw [hrowd.cell (i / 2) (by omega), e1], ?_⟩
  rw [← ks1.ka]
  have lsh : sh.l ≤ 39 := lenP (b1.all (nmz sh Ph) (by simp [m1]) : Nz wd sh Ph) (by rw [v1]; exact Nat.mod_lt _ (Nat.pow_pos (by omega))) hk
  refine sqrC (z := s0) (x := sh) (X := Ph) b1 rfl b1.tail.head (by simp [m1]) (by omega) (by have := ks1.top; omega) (ksd.ch.glb ksd.hg) fun r1 K2 w2 b2 ka2 kl2 kn2 hf2 hnb2 hc2 => ⟨_, _, _, rfl, ?_⟩
  have ks2 : KS w0 w2 z0 K0 K2 top := ksd.step i0 hc2 kn2 ka2 (by rw [kl2]; exact ks1.top)
  have ir1 := i0.from_ hf2 ksd.ch.size
  have b3 : Bank w2 (row pb 16 g :: nmz r1 (Ph * Ph) :: stk K2 :: sto s1 :: (D ++ (rest.map sto ++ L1))) := b2.pick 4 [3, 1, 0, 2] rfl
  have hrow2 : RowAt w2 pb 16 g := b3.head
  refine ⟨pb, i, rfl, ⟨_, hrow2.cell i (by omega)⟩, hrow2.fr i (by omega), ?_⟩
  have b4 := setRow b3 (i := i) (by omega) r1.v
  have c4 := (RowAt.set hrow2 (i := i) (by omega) r1.v).2
  obtain ⟨w3, hw3⟩ : ∃ w3, w3 = w2.setCell ⟨pb, i, none⟩ r1.v := ⟨_, rfl⟩
  rw [← hw3] at b4 c4
  rw [show w2.setCell ⟨pb, i, none⟩ (.slice r1.a r1.l r1.c) = w3 from hw3.symm]
  have b5 := b4.none (Chg.drew0 w3 _)
  have ks3 := (ks2.row c4 hpb).none (Chg.drew0 w3 _)
  have hrow3 : RowAt w3.drew pb 16 (setF g i r1.v) := b5.head
  refine ⟨pb, i, rfl, r1.a, r1.l, r1.c, by rw [hrow3.cell i (by omega), setF_self], pb, i, rfl, r1.a, r1.l, r1.c, by rw [hrow3.cell i (by omega), setF_self], ?_⟩
  have b6 : Bank w3.drew (nmz r1 (Ph * Ph) :: row pb 16 (setF g i r1.v) :: stk K2 :: sto s1 :: (D ++ (rest.map sto ++ L1))) := b5.perm (List.Perm.swap _ _ _)
  have lr1 : r1.l ≤ 78 := (b6.head : Nz _ r1 (Ph * Ph)).nm _ (by
   have hsh : Nz wd sh Ph := b1.all (nmz sh Ph) (by simp [m1])
   have := prod_lt hsh.lt hsh.lt
   exact Nat.lt_of_lt_of_le this (Nat.pow_le_pow_right BB_pos (by omega)))
  refine trunc_bank (z := r1) (x := r1) (X := Ph * Ph) b6 rfl (b6.head : Nz _ r1 (Ph * Ph)).toSt (by simp) (by unfold Len; omega) (by omega) fun r2 w4 b7 hf4 hc7 => ⟨_, _, _, rfl, ?_⟩
  have ks4 := ks3.one ir1 hc7
  have ir2 := ir1.from_ hf4 ks3.ch.size
  obtain ⟨P2, hP2⟩ : ∃ P2, P2 = Ph * Ph % 2 ^ k := ⟨_, rfl⟩
  rw [← hP2] at b7
  have hP2e : P2 = X ^ i % 2 ^ k := by
   rw [hP2, v1, ← Nat.mul_mod, ← Nat.pow_add]
   congr 2; omega
  have b8 := b7.perm (List.Perm.swap _ _ _)
  have hrow4 : RowAt w4 pb 16 (setF g i r1.v) := b8.head
  refine ⟨pb, i, rfl, ⟨_, hrow4.cell i (by omega)⟩, hrow4.fr i (by omega), ?_⟩
  have b9 := setRow b8 (i := i) (by omega) r2.v
  have c9 := (RowAt.set hrow4 (i := i) (by omega) r2.v).2
  obtain ⟨w5, hw5⟩ : ∃ w5, w5 = w4.setCell ⟨pb, i, none⟩ r2.v := ⟨_, rfl⟩
  rw [← hw5] at b9 c9
  rw [show w4.setCell ⟨pb, i, none⟩ (.slice r2.a r2.l r2.c) = w5 from hw5.symm]
  have b10 := b9.none (Chg.drew0 w5 _)
  have ks5 := (ks4.row c9 hpb).none (Chg.drew0 w5 _)
  obtain ⟨g5, hg5⟩ : ∃ g5, g5 = setF (setF g i r1.v) i r2.v := ⟨_, rfl⟩
  rw [← hg5] at b10
  have g5i : g5 i = r2.v := by rw [hg5, setF_self]
  have g5n : ∀ j, j ≠ i → g5 j = g j := fun j hj => by rw [hg5, setF_ne _ _ hj, setF_ne _ _ hj]
  have hrow5 : RowAt w5.drew pb 16 g5 := b10.head
  refine ⟨pb, i + 1, rfl, s1.a, s1.l, s1.c, by rw [hrow5.cell (i + 1) (by omega), g5n _ (by omega), hg1], pb, i, rfl, r2.a, r2.l, r2.c, by rw [hrow5.cell i (by omega), g5i], ?_⟩
  have b11 : Bank w5.drew (sto s1 :: row pb 16 g5 :: nmz r2 P2 :: stk K2 :: (D ++ (rest.map sto ++ L1))) := b10.pick 4 [3, 0, 1, 2] rfl
  have lr2 : r2.l ≤ 39 := lenP (b11.all (nmz r2 P2) (by simp) : Nz _ r2 P2) (by rw [hP2e]; exact Nat.mod_lt _ (Nat.pow_pos (by omega))) hk
  refine mul_bank (z := s1) (x := r2) (y := x) (X := P2) (Y := X) b11 rfl b11.head (by simp) (by simp [hx]) (by unfold Len; omega) (by unfold Len; omega) (.inl (by omega)) (ks5.ch.glb ks5.hg) fun r3 w6 b12 hf6 hc12 => ⟨_, _, _, rfl, ?_⟩
  have ks6 := ks5.one i1 hc12
  have ir3 := i1.from_ hf6 ks5.ch.size
  have b13 := b12.perm (List.Perm.swap _ _ _)
  have hrow6 : RowAt w6 pb 16 g5 := b13.head
  refine ⟨pb, i + 1, rfl, ⟨_, hrow6.cell (i + 1) (by omega)⟩, hrow6.fr (i + 1) (by omega), ?_⟩
  have b14 := setRow b13 (i := i + 1) (by omega) r3.v
  have c14 := (RowAt.set hrow6 (i := i + 1) (by omega) r3.v).2
  obtain ⟨w7, hw7⟩ : ∃ w7, w7 = w6.setCell ⟨pb, i + 1, none⟩ r3.v := ⟨_, rfl⟩
  rw [← hw7] at b14 c14
  rw [show w6.setCell ⟨pb, i + 1, none⟩ (.slice r3.a r3.l r3.c) = w7 from hw7.symm]
  have b15 := b14.none (Chg.drew0 w7 _)
  have ks7 := (ks6.row c14 hpb).none (Chg.drew0 w7 _)
  have hrow7 : RowAt w7.drew pb 16 (setF g5 (i + 1) r3.v) := b15.head
  refine ⟨pb, i + 1, rfl, r3.a, r3.l, r3.c, by rw [hrow7.cell (i + 1) (by omega), setF_self], pb, i + 1, rfl, r3.a, r3.l, r3.c, by rw [hrow7.cell (i + 1) (by omega), setF_self], ?_⟩
  have b16 := b15.perm (List.Perm.swap _ _ _)
  have lr3 : r3.l ≤ 39 + x.l := (b16.head : Nz _ r3 (P2 * X)).nm _ (by
   have h2 : Nz w5.drew r2 P2 := b11.all (nmz r2 P2) (by simp)
   have hxx : Nz w5.drew x X := b11.all (nmz x X) (by simp [hx])
   have := prod_lt h2.lt hxx.lt
   exact Nat.lt_of_lt_of_le this (Nat.pow_le_pow_right BB_pos (by omega)))
  refine trunc_bank (z := r3) (x := r3) (X := P2 * X) b16 rfl (b16.head : Nz _ r3 (P2 * X)).toSt (by simp) (by unfold Len; omega) (by omega) fun r4 w8 b17 hf8 hc17 => ⟨_, _, _, rfl, ?_⟩
  have ks8 := ks7.one ir3 hc17
  have b18 := b17.perm (List.Perm.swap _ _ _)
  have hrow8 : RowAt w8 pb 16 (setF g5 (i + 1) r3.v) := b18.head
  refine ⟨pb, i + 1, rfl, ⟨_, hrow8.cell (i + 1) (by omega)⟩, hrow8.fr (i + 1) (by omega), by unfold inI64; omega, fun B3 => ?_⟩
  have b19 := setRow b18 (i := i + 1) (by omega) r4.v
  have c19 := (RowAt.set hrow8 (i := i + 1) (by omega) r4.v).2
  have ks9 := ks8.row c19 hpb
  have hP4e : P2 * X % 2 ^ k = X ^ (i + 1) % 2 ^ k := by rw [hP2e, Nat.mod_mul_mod, Nat.pow_succ]
  obtain ⟨g9, hg9⟩ : ∃ g9, g9 = setF (setF g5 (i + 1) r3.v) (i + 1) r4.v := ⟨_, rfl⟩
  rw [← hg9] at b19
  have g9n : ∀ j, j ≠ i + 1 → g9 j = g5 j := fun j hj => by rw [hg9, setF_ne _ _ hj, setF_ne _ _ hj]
  have b20 : Bank (w8.setCell ⟨pb, i + 1, none⟩ r4.v) (stk K2 :: row pb 16 g9 :: ((nmz r4 (P2 * X % 2 ^ k) :: nmz r2 P2 :: D) ++ (rest.map sto ++ L1))) := b19.pick 4 [3, 0, 1, 2] rfl
  refine hKn _ _ (i + 2) ⟨rfl, ?_, rfl, rfl, rfl, rfl, rfl, intv (by omega), trivial⟩ rfl ⟨by omega, by omega, by omega, K2, _, rest, g9, b20, by simp at hlen; omega, fun j hj => ?_, fun s hs => hts s (by simp [hs]), fun j hj => ?_, ks9⟩ (by show 16 - (i + 2) < 16 - i; omega)
  ·exact congrArg Value.pointer ks1.ka
  ·rw [g9n _ (by omega), g5n _ (by omega)]
   have := hgt (j + 2) (by simp; omega)
   rw [show i + (j + 2) = i + 2 + j by omega] at this
   simpa using this
  ·by_cases h1 : j = i + 1
   ·subst h1
    exact ⟨r4, _, by rw [hg9, setF_self], by simp, hP4e⟩
   ·by_cases h2 : j = i
    ·subst h2
     exact ⟨r2, P2, by rw [g9n _ (by omega), g5i], by simp, hP2e⟩
    ·obtain ⟨s, P, e1, e2, e3⟩ := hD j (by omega)
     exact ⟨s, P, by rw [g9n _ h1, g5n _ h2, e1], by simp [e2], e3⟩
 ·have h16 : i = 16 := by have := dF hb; omega
  subst h16
  obtain rfl : ts = [] := List.length_eq_zero_iff.1 (by omega)
  exact hKe _ _ (hK K1 D g _ _ hb1 hD ks1 ⟨rfl, rfl, rfl, rfl, rfl, rfl, trivial⟩ rfl)
end Go.Proofs.YtlkjiiibmfpbcaaGreatDoor
namespace Go.Proofs.YtlkjiiibmfpbcaaGreatDoor
open Go
theorem dg_cut_lo {Y m i : Nat} (h : 64 * (i + 1) ≤ m) : dg (Y % 2 ^ m) i = dg Y i := by
 have e : 2 ^ m = BB ^ i * 2 ^ (m - 64 * i) := by rw [BB2, ← Nat.pow_add]; congr 1; omega
 unfold dg
 rw [e, Nat.mod_mul_right_div_self]
 refine Nat.mod_mod_of_dvd _ ?_
 show 2 ^ 64 ∣ _
 exact Nat.pow_dvd_pow 2 (by omega)
theorem dg_cut_hi {Y i r : Nat} (h : r ≤ 64) : dg (Y % 2 ^ (64 * i + r)) i = dg Y i % 2 ^ r := by
 have e : 2 ^ (64 * i + r) = BB ^ i * 2 ^ r := by rw [BB2, ← Nat.pow_add]
 unfold dg
 rw [e, Nat.mod_mul_right_div_self]
 have hd : 2 ^ r ∣ BB := by show 2 ^ r ∣ 2 ^ 64; exact Nat.pow_dvd_pow 2 h
 rw [Nat.mod_mod_of_dvd _ hd]
 refine Nat.mod_eq_of_lt (Nat.lt_of_lt_of_le (Nat.mod_lt _ (Nat.pow_pos (by omega))) (Nat.le_of_dvd BB_pos hd))
variable {w0 w : World} {K0 K : SK} {z zz x y : Sl} {X Y k pb top : Nat} {L : List Item} {a : Item}
def Fin76 (w0 : World) (K0 : SK) (z : Sl) (L : List Item) (V : Nat) (Kt : Kont) : Prop :=
 ∀ (r : Sl) (K' : SK) (w' : World) (e' : Env), StkAt w' K' → K0.s.l ≤ K'.s.l → K'.a = K0.a → Nxt w0 K0 K' → Nz w' r V → AC w0 K0 z K' r → Chg w0 w' (un (fp z) K0.free) → e'.get 10 = r.v → e'.defers = [Dr K0.a (K0.s.l : Int)] → Kt .ret e' w'
theorem p11_76 {D : List Item} {g : Nat → Value} {zi : Item} {i0 mt Y' : Nat} {mmask : Int} (hb : Bank w (stk K :: row pb 16 g :: (D ++ (sto zz :: zi :: L)))) (hzi : zi.fp = fp z) (hz : ∀ w', zi.P w' → St w' z) (hz0 : St w0 z) (hac : AC w0 K0 z K0 z) (hD : ∀ j, j < 16 → Pq g D X k j)
  (ks : KS w0 w z K0 K top) (hy : nmz y Y ∈ L) (hyl : y.l ≤ 1000000) (hk1 : 1 ≤ k) (hk : k ≤ 2496) (ht : top ≤ 2199023255552) (izz : In2 w0 (un (fp z) K0.free) zz)
  (hi0 : i0 < y.l) (hY' : Y' < BB ^ (i0 + 1)) (hdig : ∀ i, i ≤ i0 → (if i = mt then iAnd .u64 (dg Y i : Int) mmask else (dg Y i : Int)) = (dg Y' i : Int)) (hV : X ^ Y' % 2 ^ k = X ^ Y % 2 ^ k) (e : Env) (hd : e.defers = [Dr K0.a (K0.s.l : Int)]) (Kt : Kont)
  (hag : agree e (F76.l11 z.a z.l z.c K0.a y.a y.l y.c k zz.a zz.l zz.c pb 0 (i0 : Int) (mt : Int) mmask)) (hK : Fin76 w0 K0 z L (X ^ Y % 2 ^ k) Kt) : W Tryz.prog 223 F76.p11 e w Kt := by
 have hzw : St w z := hz w (hb.all zi (by simp))
 refine F76.t11 z.a z.l z.c K0.a y.a y.l y.c k zz.a zz.l zz.c pb 0 i0 mt mmask hag fun B => ResE.pass (c71 z 1 w hzw (by omega)) fun r w1 h1 hf hc => ⟨_, _, _, rfl, fun B2 => ?_⟩
 have b1 : Bank w (sto zz :: stk K :: row pb 16 g :: (D ++ (zi :: L))) := Bank.mid (A := stk K :: row pb 16 g :: D) hb
 have b2 : Bank w (zi :: sto zz :: stk K :: row pb 16 g :: (D ++ L)) := Bank.mid (A := sto zz :: stk K :: row pb 16 g :: D) b1
 have b3 : Bank w1 (nmz r 1 :: sto zz :: stk K :: row pb 16 g :: (D ++ L)) := b2.res hzi hf hc h1 rfl
 have iz : In2 w0 (un (fp z) K0.free) z := fun _ _ _ h => .inl h
 have acz : AC w0 K0 z K z := hac.next hz0 ks.kn
 have acr : AC w0 K0 z K r := acz.from_ hzw (Nxt.refl _ _) hf (fun h _ => NoB.new hb.head h) ks.ch.size
 have z76 : Z76 w0 w1 K0 K z r zz 1 X k 0 top true (row pb 16 g :: (D ++ L)) := by
  refine ⟨b3.pick 3 [2, 0, 1] rfl, ks.one iz hc, iz.from_ hf ks.ch.size, izz, fun _ => acr, (fun h => by cases h), ?_⟩
  rw [Nat.pow_zero]
  exact (Nat.mod_eq_of_lt (Nat.one_lt_two_pow (by omega))).symm
 have c : C76 (row pb 16 g :: (D ++ L)) y pb X Y k top := ⟨hk, ht, by simp [hy], hyl, g, by simp, fun i hi => by
  obtain ⟨s, P, e1, e2, e3⟩ := hD i hi
  exact ⟨s, P, e1, by simp [e2], e3⟩⟩
 refine words76 z76 c hi0 hY' hdig _ _ ⟨rfl, rfl, rfl, rfl, rfl, rfl, rfl, rfl, rfl, rfl, trivial⟩ fun z' zz' K' Z' w2 e2 h2 a2 d2 => ?_
 show W Tryz.prog 223 F76.p12 e2 w2 Kt
 have hz2 : Nz w2 z' Z' := h2.bank.tail.head
 refine F76.t12 z'.a z'.l z'.c a2 fun B3 => (c46 z' Z' w2 hz2.toNt (by have := hz2.lc; have := hz2.cm; omega)).mono ?_
 rintro e3 w3 ⟨_, rfl, kk, hkk, rfl, hw, hnz⟩
 have hw := hw.symm
 subst hw
 have hZ := h2.hz
 rw [hV] at hZ
 subst hZ
 have hac' := h2.cz rfl
 exact ⟨_, _, _, rfl, fun B4 => hK (z'.to kk) K' _ _ h2.bank.head h2.ks.kn.l h2.ks.ka h2.ks.kn hnz ⟨hac'.off, hac'.sub⟩ h2.ks.ch rfl (d2.trans hd)⟩
theorem p7_76 {D : List Item} {g : Nat → Value} {zi : Item} (hb : Bank w (stk K :: row pb 16 g :: (D ++ (sto zz :: zi :: L)))) (hzi : zi.fp = fp z) (hz : ∀ w', zi.P w' → St w' z) (hz0 : St w0 z) (hac : AC w0 K0 z K0 z) (hD : ∀ j, j < 16 → Pq g D X k j)
  (ks : KS w0 w z K0 K top) (hy : nmz y Y ∈ L) (hyl : y.l ≤ 1000000) (hy1 : 1 < y.l) (hk2 : 2 ≤ k) (hk : k ≤ 2496) (ht : top ≤ 2199023255552) (izz : In2 w0 (un (fp z) K0.free) zz) (hX : X % 2 = 1) (e : Env) (hd : e.defers = [Dr K0.a (K0.s.l : Int)]) (Kt : Kont)
  (hag : agree e (F76.l7 z.a z.l z.c K0.a y.a y.l y.c k zz.a zz.l zz.c pb 0)) (hK : Fin76 w0 K0 z L (X ^ Y % 2 ^ k) Kt) : W Tryz.prog 223 F76.p7 e w Kt := by
 have hyP : Nz w y Y := hb.all (nmz y Y) (by simp [hy])
 obtain ⟨mt, hmt⟩ : ∃ mt, mt = (k - 2) / 64 := ⟨_, rfl⟩
 obtain ⟨r, hr⟩ : ∃ r, r = k - 1 - 64 * mt := ⟨_, rfl⟩
 have hr1 : 1 ≤ r ∧ r ≤ 64 ∧ k - 1 = 64 * mt + r := by omega
 have eV : X ^ (Y % 2 ^ (k - 1)) % 2 ^ k = X ^ Y % 2 ^ k := by
  have := odd_pow_mod hX (k - 1) Y
  rw [Nat.sub_add_cancel (by omega)] at this
  exact this.symm
 have ek1 : IntKind.wrap .u64 ((k : Int) - 1) = ((k - 1 : Nat) : Int) := by rw [show ((k : Int) - 1) = ((k - 1 : Nat) : Int) by omega, wrapN _ (by omega)]
 have ek2 : IntKind.wrap .u64 ((k : Int) - 2) = ((k - 2 : Nat) : Int) := by rw [show ((k : Int) - 2) = ((k - 2 : Nat) : Int) by omega, wrapN _ (by omega)]
 have emt : IntKind.wrap .i64 (iQuo .u64 (IntKind.wrap .u64 ((k : Int) - 2)) 64) = (mt : Int) := by rw [ek2, quo64 _ (by omega), ← hmt, wrapIN _ (by omega)]
 have ea : iAnd .u64 (IntKind.wrap .u64 ((k : Int) - 1)) 63 = (((k - 1) % 64 : Nat) : Int) := by
  rw [ek1]
  exact iAndMask (k - 1) 6 (by omega) (by omega)
 have go : ∀ (B : Nat → Value), W Tryz.prog 223 F76.p10 (E (F76.l10 z.a z.l z.c K0.a y.a y.l y.c k zz.a zz.l zz.c pb 0 ((y.l : Int) - 1) (mt : Int) ((2 ^ r - 1 : Nat) : Int)) B e.defers) w Kt := by
  intro B
  have hmk : ∀ i, i ≤ mt → (if i = mt then iAnd .u64 (dg Y i : Int) ((2 ^ r - 1 : Nat) : Int) else (dg Y i : Int)) = (dg (Y % 2 ^ (k - 1)) i : Int) := by
   intro i hi
   by_cases him : i = mt
   ·rw [if_pos him, iAndMask _ _ hr1.2.1 (dg_lt' Y i), hr1.2.2, him, dg_cut_hi hr1.2.1]
   ·rw [if_neg him, dg_cut_lo (by omega)]
  refine F76.t10 z.a z.l z.c K0.a y.a y.l y.c k zz.a zz.l zz.c pb 0 ((y.l : Int) - 1) mt _ ⟨rfl, rfl, rfl, rfl, rfl, rfl, rfl, rfl, rfl, trivial⟩ fun B1 => bc_intro (fun hb' B2 => ?_) (fun hb' B2 => ?_)
  ·have hlt : mt < y.l - 1 := by have := dT hb'; omega
   refine p11_76 (i0 := mt) (mt := mt) (Y' := Y % 2 ^ (k - 1)) hb hzi hz hz0 hac hD ks hy hyl (by omega) hk ht izz (by omega) ?_ (fun i hi => hmk i hi) eV _ (by exact hd) Kt ⟨rfl, rfl, rfl, rfl, rfl, rfl, rfl, rfl, rfl, trivial⟩ hK
   exact Nat.lt_of_lt_of_le (Nat.mod_lt _ (Nat.pow_pos (by omega))) (by rw [BB2]; exact Nat.pow_le_pow_right (by omega) (by omega))
  ·have hle : y.l - 1 ≤ mt := by have := dF hb'; omega
   have ey : (y.l : Int) - 1 = ((y.l - 1 : Nat) : Int) := by omega
   rw [ey]
   refine p11_76 (i0 := y.l - 1) (mt := mt) (Y' := Y % 2 ^ (k - 1)) hb hzi hz hz0 hac hD ks hy hyl (by omega) hk ht izz (by omega) ?_ (fun i hi => hmk i (by omega)) eV _ (by exact hd) Kt ⟨rfl, rfl, rfl, rfl, rfl, rfl, rfl, rfl, rfl, trivial⟩ hK
   rw [Nat.sub_add_cancel (by omega)]
   exact Nat.lt_of_le_of_lt (Nat.mod_le _ _) hyP.lt
 refine F76.t7 z.a z.l z.c K0.a y.a y.l y.c k zz.a zz.l zz.c pb 0 hag fun B => ⟨by unfold inI64; omega, by omega, ?_⟩
 rw [ea, emt]
 refine bc_intro (fun hb' => ⟨by omega, fun B2 => ?_⟩) (fun hb' B2 => ?_)
 ·have hne : (k - 1) % 64 ≠ 0 := by have := neN hb'; omega
  have hrr : (k - 1) % 64 = r := by omega
  have em : IntKind.wrap .u64 (iShl .u64 1 (((k - 1) % 64 : Nat) : Int) - 1) = ((2 ^ r - 1 : Nat) : Int) := by
   have h1 : iShl .u64 1 (((k - 1) % 64 : Nat) : Int) = ((1 * 2 ^ r % 18446744073709551616 : Nat) : Int) := by
    rw [hrr]; exact shl64 1 r (by omega)
   have h2 : 2 ^ r ≤ 2 ^ 63 := Nat.pow_le_pow_right (by omega) (by omega)
   have h3 := Nat.two_pow_pos r
   rw [h1, Nat.one_mul, Nat.mod_eq_of_lt (by omega), show (((2 ^ r : Nat) : Int) - 1) = ((2 ^ r - 1 : Nat) : Int) by omega, wrapN _ (by omega)]
  rw [em]
  exact go B2
 ·have hne : (k - 1) % 64 = 0 := by have := neE hb'; omega
  have hrr : r = 64 := by omega
  have := go B2
  rw [hrr] at this
  exact this
end Go.Proofs.YtlkjiiibmfpbcaaGreatDoor
