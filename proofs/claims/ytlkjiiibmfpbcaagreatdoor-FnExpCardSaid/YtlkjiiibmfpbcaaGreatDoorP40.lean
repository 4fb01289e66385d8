/- Contracts: the great common divisor with one factor; the inverse modulo a number. Conditions: numbers above nought, below 28 words. -/
import Derived.Test.YtlkjiiibmfpbcaaGreatDoorP39
namespace Go.Proofs.YtlkjiiibmfpbcaaGreatDoor
open Go
section
variable {w0 w : World} {M : List Item} {Z X Ja Jb : IR}
theorem IR.nonneg {X : IR} (h : X.ng = false) : X.v = (X.V : Int) := by unfold IR.v iv; rw [h]; simp
theorem c99 (g : G w0 w (Z.h :: Z.n :: X.h :: X.n :: Ja.h :: Ja.n :: Jb.h :: Jb.n :: M)) (nZ : New w0 Z) (nX : New w0 X) (hJ : Ja.ng = false) (ha0 : 0 < Ja.V) (hb0 : 0 < Jb.V) (ha : Ja.V < BB ^ 28) (hb : Jb.V < BB ^ 28) :
  Calls Tryz.prog 99 #[.pointer (ptr Z.p), .pointer (ptr X.p), .pointer none, .pointer (ptr Ja.p), .pointer (ptr Jb.p)] w fun e w' => e = .returned (.pointer (ptr Z.p)) ∧
   ∃ Z' X' : IR, Z'.p = Z.p ∧ X'.p = X.p ∧ G w0 w' (Z'.h :: Z'.n :: X'.h :: X'.n :: Ja.h :: Ja.n :: Jb.h :: Jb.n :: M) ∧ New w0 Z' ∧ New w0 X' ∧ Z'.ng = false ∧ LEnd Ja.V Jb.V Z'.V X'.v ∧ X'.V ≤ Jb.V := by
 refine (F99.call (ptr Z.p) (ptr X.p) none (ptr Ja.p) (ptr Jb.p) w (fun v w' => v = .pointer (ptr Z.p) ∧ ∃ Z' X' : IR, Z'.p = Z.p ∧ X'.p = X.p ∧ G w0 w' (Z'.h :: Z'.n :: X'.h :: X'.n :: Ja.h :: Ja.n :: Jb.h :: Jb.n :: M) ∧ New w0 Z' ∧ New w0 X' ∧ Z'.ng = false ∧ LEnd Ja.V Jb.V Z'.V X'.v ∧ X'.V ≤ Jb.V) fun B => ?_).mono fun e w' ⟨v, h1, h2, h3⟩ => ⟨by rw [h1, h2], h3⟩
 obtain ⟨g1, n1⟩ := newI g
 refine absI (X := ⟨w.heap.size, false, nilS w, 0⟩) (Y := Ja) g1 n1 (by simp) (by simp) (lt_pow_of_le ha (by omega)) fun A w2 pA g2 nA sA VA => ⟨_, rfl, ?_⟩
 obtain ⟨g3, n3⟩ := newI g2
 refine absI (X := ⟨w2.heap.size, false, nilS w2, 0⟩) (Y := Jb) g3 n3 (by simp) (by simp) (lt_pow_of_le hb (by omega)) fun B0 w4 pB g4 nB sB VB => ⟨_, rfl, false, rfl, bc_true rfl ?_⟩
 obtain ⟨g5, n5⟩ := newI g4
 refine oneI (X := ⟨w4.heap.size, false, nilS w4, 0⟩) g5 n5 fun U w6 pU g6 nU sU VU => ⟨_, rfl, fun B1 => ?_⟩
 obtain ⟨g7, n7⟩ := newI g6
 obtain ⟨Y, hY⟩ : ∃ Y : IR, Y = ⟨w6.heap.size, false, nilS w6, 0⟩ := ⟨_, rfl⟩
 rw [← hY] at g7 n7
 have hYp : Y.p = w6.heap.size := by rw [hY]
 have vU : U.v = 1 := by rw [IR.nonneg sU, VU]; rfl
 have vY : Y.v = 0 := by rw [hY]; rfl
 obtain ⟨w7, hw7⟩ : ∃ w7, w7 = w6.alloc (.cells #[Value.bool false, Value.slice none 0 0] 47) := ⟨_, rfl⟩
 rw [← hw7] at g7
 have pA' : A.p = w.heap.size := pA
 have pB' : B0.p = w2.heap.size := pB
 have pU' : U.p = w4.heap.size := pU
 show W Tryz.prog 265 F99.p1 _ (w6.alloc (.cells #[Value.bool false, Value.slice none 0 0] 47)) _
 rw [← hw7]
 refine F99.t1 (ptr Z.p) (ptr X.p) none (ptr Ja.p) (ptr Jb.p) (ptr A.p) (ptr B0.p) (ptr U.p) (ptr Y.p) true ⟨rfl, rfl, rfl, rfl, rfl, congrArg (fun p => Value.pointer (ptr p)) pA.symm, congrArg (fun p => Value.pointer (ptr p)) pB.symm, congrArg (fun p => Value.pointer (ptr p)) pU.symm, congrArg (fun p => Value.pointer (ptr p)) hYp.symm, rfl, trivial⟩ fun B2 => ?_
 obtain ⟨g8, n8⟩ := newI g7
 obtain ⟨q, hq⟩ : ∃ q : IR, q = ⟨w7.heap.size, false, nilS w7, 0⟩ := ⟨_, rfl⟩
 rw [← hq] at g8 n8
 obtain ⟨g9, n9⟩ := newI g8
 obtain ⟨w8, hw8⟩ : ∃ w8, w8 = w7.alloc (.cells #[Value.bool false, Value.slice none 0 0] 47) := ⟨_, rfl⟩
 rw [← hw8] at g8 g9 n9
 obtain ⟨r, hr⟩ : ∃ r : IR, r = ⟨w8.heap.size, false, nilS w8, 0⟩ := ⟨_, rfl⟩
 rw [← hr] at g9 n9
 obtain ⟨w9, hw9⟩ : ∃ w9, w9 = (w8.alloc (.cells #[Value.bool false, Value.slice none 0 0] 47)).drew := ⟨_, rfl⟩
 have cd : Chg (w8.alloc (.cells #[Value.bool false, Value.slice none 0 0] 47)) w9 none2 := by rw [hw9]; exact Chg.drew0 _ _
 have g10 : G w0 w9 (r.h :: r.n :: q.h :: q.n :: Y.h :: Y.n :: U.h :: U.n :: B0.h :: B0.n :: A.h :: A.n :: Z.h :: Z.n :: X.h :: X.n :: Ja.h :: Ja.n :: Jb.h :: Jb.n :: M) := ⟨g9.bank.none cd, g9.ch.trans' cd, g9.hg⟩
 have hqp : q.p = w7.heap.size := by rw [hq]
 have hrp : r.p = w8.heap.size := by rw [hr]
 show nc (ptr A.p) fun b_1 o_2 => ∃ x_3a, ∃ x_3l, ∃ x_3c, World.cell? ((w7.alloc (.cells #[Value.bool false, Value.slice none 0 0] 47)).alloc (.cells #[Value.bool false, Value.slice none 0 0] 47)).drew ⟨b_1, (o_2 + 1), none⟩ = some (.slice x_3a x_3l x_3c) ∧ _
 rw [← hw8, ← hw9]
 have HA : HdrAt w9 A.p A.ng A.s := g10.bank.all A.h (by simp)
 have HB : HdrAt w9 B0.p B0.ng B0.s := g10.bank.all B0.h (by simp)
 have zA : Nz w9 A.s A.V := g10.bank.all A.n (by simp)
 have zB : Nz w9 B0.s B0.V := g10.bank.all B0.n (by simp)
 refine ⟨A.p, 0, rfl, A.s.a, A.s.l, A.s.c, HA.c1, B0.p, 0, rfl, B0.s.a, B0.s.l, B0.s.c, HB.c1, (c92 A.s B0.s A.V B0.V w9 zA zB).mono ?_⟩
 rintro e1 w10 ⟨_, rfl, rfl, hc⟩
 have g11 : G w0 w10 (r.h :: r.n :: q.h :: q.n :: Y.h :: Y.n :: U.h :: U.n :: B0.h :: B0.n :: A.h :: A.n :: Z.h :: Z.n :: X.h :: X.n :: Ja.h :: Ja.n :: Jb.h :: Jb.n :: M) := ⟨g10.bank.none hc, g10.ch.trans' hc, g10.hg⟩
 have hQ : Fin99 w0 Ja.V Jb.V Z X Ja (Jb.h :: Jb.n :: M) (fun v w' => v = .pointer (ptr Z.p) ∧ ∃ Z' X' : IR, Z'.p = Z.p ∧ X'.p = X.p ∧ G w0 w' (Z'.h :: Z'.n :: X'.h :: X'.n :: Ja.h :: Ja.n :: Jb.h :: Jb.n :: M) ∧ New w0 Z' ∧ New w0 X' ∧ Z'.ng = false ∧ LEnd Ja.V Jb.V Z'.V X'.v ∧ X'.V ≤ Jb.V) :=
  fun Z' X' w' k1 k2 k3 k4 k5 k6 k7 k8 => ⟨rfl, Z', X', k1, k2, k3, k4, k5, k6, k7, k8⟩
 have go : ∀ (A1 B1 U1 Y1 : IR) (B4 : Nat → Value), L6 w0 w10 Ja.V Jb.V (Z.h :: Z.n :: X.h :: X.n :: Ja.h :: Ja.n :: Jb.h :: Jb.n :: M) A1 B1 U1 Y1 q r →
   W Tryz.prog 265 F99.p2 (E (F99.l2 (ptr Z.p) (ptr X.p) none (ptr Ja.p) (ptr Jb.p) (ptr A1.p) (ptr B1.p) (ptr U1.p) (ptr Y1.p) true (ptr q.p) (ptr r.p)) B4 []) w10 (retK Tryz.prog [.tmp 10] (fun v w' => v = .pointer (ptr Z.p) ∧ ∃ Z' X' : IR, Z'.p = Z.p ∧ X'.p = X.p ∧ G w0 w' (Z'.h :: Z'.n :: X'.h :: X'.n :: Ja.h :: Ja.n :: Jb.h :: Jb.n :: M) ∧ New w0 Z' ∧ New w0 X' ∧ Z'.ng = false ∧ LEnd Ja.V Jb.V Z'.V X'.v ∧ X'.V ≤ Jb.V)) := by
  intro A1 B1 U1 Y1 B4 h6
  refine F99.t2 (ptr Z.p) (ptr X.p) none (ptr Ja.p) (ptr Jb.p) (ptr A1.p) (ptr B1.p) (ptr U1.p) (ptr Y1.p) true (ptr q.p) (ptr r.p) ⟨rfl, rfl, rfl, rfl, rfl, rfl, rfl, rfl, rfl, rfl, rfl, rfl, trivial⟩ fun B5 B6 => ?_
  refine rounds99 (pa := Ja.p) (pb := Jb.p) (z := Z.p) (x := X.p) h6 hb _ _ ⟨rfl, rfl, rfl, rfl, rfl, rfl, rfl, rfl, rfl, rfl, rfl, rfl, trivial⟩ fun A2 B2 U2 Y2 q2 r2 w11 e11 h11 l11 a11 d11 => ?_
  exact p3_99 h11 l11 nZ nX hJ hb (pb := Jb.p) e11 _ d11 hQ a11
 have eA : A.p = w.heap.size := pA
 refine ⟨_, rfl, bc_intro (fun hb' B3 => ?_) (fun hb' B3 => ?_)⟩
 ·have hlt : A.V < B0.V := by
   have := dT hb'
   unfold sgn at this
   split at this
   ·assumption
   ·split at this <;> omega
  have h6 : L6 w0 w10 Ja.V Jb.V (Z.h :: Z.n :: X.h :: X.n :: Ja.h :: Ja.n :: Jb.h :: Jb.n :: M) B0 A Y U q r := by
   refine ⟨g11.pick 12 [8, 9, 10, 11, 4, 5, 6, 7, 2, 3, 0, 1] rfl, nB, nA, n7, nU, n8, n9, sB, sA, ?_, by rw [VB]; exact hb⟩
   rw [VA, VB] at hlt
   rw [VA, VB, vU, vY]
   exact LInv.start2 (Nat.le_of_lt hlt) hb0
  have := go B0 A Y U B3 h6
  rw [hqp, hrp] at this
  exact this
 ·have hge : B0.V ≤ A.V := by
   have := dF hb'
   unfold sgn at this
   rcases Nat.lt_or_ge A.V B0.V with h1 | h1
   ·rw [if_pos h1] at this; omega
   ·exact h1
  have h6 : L6 w0 w10 Ja.V Jb.V (Z.h :: Z.n :: X.h :: X.n :: Ja.h :: Ja.n :: Jb.h :: Jb.n :: M) A B0 U Y q r := by
   refine ⟨g11.pick 12 [10, 11, 8, 9, 6, 7, 4, 5, 2, 3, 0, 1] rfl, nA, nB, nU, n7, n8, n9, sA, sB, ?_, by rw [VA]; exact ha⟩
   rw [VA, VB] at hge
   rw [VA, VB, vU, vY]
   exact LInv.start1 hge hb0
  have := go A B0 U Y B3 h6
  rw [hqp, hrp] at this
  exact this
theorem c67 (g : G w0 w (Z.h :: Z.n :: X.h :: X.n :: Ja.h :: Ja.n :: Jb.h :: Jb.n :: M)) (nZ : New w0 Z) (nX : New w0 X) (hJ : Ja.ng = false) (ha0 : 0 < Ja.V) (hb0 : 0 < Jb.V) (ha : Ja.V < BB ^ 28) (hb : Jb.V < BB ^ 28) :
  Calls Tryz.prog 67 #[.pointer (ptr Z.p), .pointer (ptr X.p), .pointer none, .pointer (ptr Ja.p), .pointer (ptr Jb.p)] w fun e w' => e = .returned (.pointer (ptr Z.p)) ∧
   ∃ Z' X' : IR, Z'.p = Z.p ∧ X'.p = X.p ∧ G w0 w' (Z'.h :: Z'.n :: X'.h :: X'.n :: Ja.h :: Ja.n :: Jb.h :: Jb.n :: M) ∧ New w0 Z' ∧ New w0 X' ∧ Z'.ng = false ∧ LEnd Ja.V Jb.V Z'.V X'.v ∧ X'.V ≤ Jb.V := by
 refine (F67.call (ptr Z.p) (ptr X.p) none (ptr Ja.p) (ptr Jb.p) w (fun v w' => v = .pointer (ptr Z.p) ∧ ∃ Z' X' : IR, Z'.p = Z.p ∧ X'.p = X.p ∧ G w0 w' (Z'.h :: Z'.n :: X'.h :: X'.n :: Ja.h :: Ja.n :: Jb.h :: Jb.n :: M) ∧ New w0 Z' ∧ New w0 X' ∧ Z'.ng = false ∧ LEnd Ja.V Jb.V Z'.V X'.v ∧ X'.V ≤ Jb.V) fun B => ?_).mono fun e w' ⟨v, h1, h2, h3⟩ => ⟨by rw [h1, h2], h3⟩
 have Ha : HdrAt w Ja.p Ja.ng Ja.s := g.bank.all Ja.h (by simp)
 have Hb : HdrAt w Jb.p Jb.ng Jb.s := g.bank.all Jb.h (by simp)
 have za : Nz w Ja.s Ja.V := g.bank.all Ja.n (by simp)
 have zb : Nz w Jb.s Jb.V := g.bank.all Jb.n (by simp)
 have la : Ja.s.l ≠ 0 := fun h0 => by have := Nz.zero za.toNt h0; omega
 have lb : Jb.s.l ≠ 0 := fun h0 => by have := Nz.zero zb.toNt h0; omega
 refine ⟨Ja.p, 0, rfl, Ja.s.a, Ja.s.l, Ja.s.c, Ha.c1, bc_false (eqF (by omega)) ⟨Jb.p, 0, rfl, Jb.s.a, Jb.s.l, Jb.s.c, Hb.c1, bc_false (eqF (by omega)) fun B1 => ?_⟩⟩
 refine F67.t1 (ptr Z.p) (ptr X.p) none (ptr Ja.p) (ptr Jb.p) ⟨rfl, rfl, rfl, rfl, rfl, trivial⟩ fun B2 => (c99 g nZ nX hJ ha0 hb0 ha hb).mono ?_
 rintro e w2 ⟨rfl, h2⟩
 exact ⟨_, rfl, fun B3 => ret1 rfl rfl ⟨rfl, h2⟩⟩
theorem sgn_self (a : Nat) : sgn a a = 0 := by unfold sgn; simp
theorem c48 {Rz Jg Jn : IR} (g : G w0 w (Rz.h :: Rz.n :: Jg.h :: Jg.n :: Jn.h :: Jn.n :: M)) (nR : New w0 Rz) (hg : Jg.ng = false) (hn : Jn.ng = false) (hg0 : 0 < Jg.V) (hn0 : 0 < Jn.V) (hgb : Jg.V < BB ^ 28) (hnb : Jn.V < BB ^ 28) (hcop : Nat.gcd Jg.V Jn.V = 1) :
  Calls Tryz.prog 48 #[.pointer (ptr Rz.p), .pointer (ptr Jg.p), .pointer (ptr Jn.p)] w fun e w' => e = .returned (.pointer (ptr Rz.p)) ∧
   ∃ R : IR, R.p = Rz.p ∧ G w0 w' (R.h :: R.n :: Jg.h :: Jg.n :: Jn.h :: Jn.n :: M) ∧ R.V ≤ Jn.V ∧ (Jn.V : Int) ∣ (R.V : Int) * Jg.V - 1 := by
 refine (F48.call (ptr Rz.p) (ptr Jg.p) (ptr Jn.p) w (fun v w' => v = .pointer (ptr Rz.p) ∧ ∃ R : IR, R.p = Rz.p ∧ G w0 w' (R.h :: R.n :: Jg.h :: Jg.n :: Jn.h :: Jn.n :: M) ∧ R.V ≤ Jn.V ∧ (Jn.V : Int) ∣ (R.V : Int) * Jg.V - 1) fun B => ?_).mono fun e w' ⟨v, h1, h2, h3⟩ => ⟨by rw [h1, h2], h3⟩
 have Hg : HdrAt w Jg.p Jg.ng Jg.s := g.bank.all Jg.h (by simp)
 have Hn : HdrAt w Jn.p Jn.ng Jn.s := g.bank.all Jn.h (by simp)
 refine ⟨Jn.p, 0, rfl, Jn.ng, Hn.c0, ?_⟩
 rw [hn]
 refine bc_false rfl fun B1 => F48.t1 (ptr Rz.p) (ptr Jg.p) (ptr Jn.p) ⟨rfl, rfl, rfl, trivial⟩ fun B2 => ⟨Jg.p, 0, rfl, Jg.ng, Hg.c0, ?_⟩
 rw [hg]
 refine bc_false rfl fun B3 => F48.t2 (ptr Rz.p) (ptr Jg.p) (ptr Jn.p) ⟨rfl, rfl, rfl, trivial⟩ fun B4 => ?_
 obtain ⟨g1, n1⟩ := newI g
 obtain ⟨D, hD⟩ : ∃ D : IR, D = ⟨w.heap.size, false, nilS w, 0⟩ := ⟨_, rfl⟩
 rw [← hD] at g1 n1
 have pD : D.p = w.heap.size := by rw [hD]
 obtain ⟨w1, hw1⟩ : ∃ w1, w1 = w.alloc (.cells #[Value.bool false, Value.slice none 0 0] 47) := ⟨_, rfl⟩
 rw [← hw1] at g1
 obtain ⟨g2, n2⟩ := newI g1
 obtain ⟨X, hX⟩ : ∃ X : IR, X = ⟨w1.heap.size, false, nilS w1, 0⟩ := ⟨_, rfl⟩
 rw [← hX] at g2 n2
 have pX : X.p = w1.heap.size := by rw [hX]
 obtain ⟨w2, hw2⟩ : ∃ w2, w2 = w1.alloc (.cells #[Value.bool false, Value.slice none 0 0] 47) := ⟨_, rfl⟩
 rw [← hw2] at g2
 have g3 : G w0 w2 (D.h :: D.n :: X.h :: X.n :: Jg.h :: Jg.n :: Jn.h :: Jn.n :: Rz.h :: Rz.n :: M) := g2.pick 10 [2, 3, 0, 1, 6, 7, 8, 9, 4, 5] rfl
 unfold F48.v2
 rw [← hw1, ← hw2, ← pD, ← pX]
 refine (c67 g3 n1 n2 hg hg0 hn0 hgb hnb).mono ?_
 rintro e1 w3 ⟨rfl, D', X', p1, p2, g4, nD', nX', hD', hend, hXb⟩
 refine ⟨_, rfl, (c69 g4.bank (g4.ch.glb g4.hg).gb).mono ?_⟩
 rintro e2 w4 ⟨q1, r1, rfl, b5, c5⟩
 have hDV : D'.V = 1 := by have := hend.g; rw [hcop] at this; exact this
 have hDh : hdr D'.p false D'.s ∈ (hdr q1 false r1 :: nmz r1 1 :: D'.h :: D'.n :: X'.h :: X'.n :: Jg.h :: Jg.n :: Jn.h :: Jn.n :: Rz.h :: Rz.n :: M) := by rw [← hD']; simp
 have hDn : nmz D'.s 1 ∈ (hdr q1 false r1 :: nmz r1 1 :: D'.h :: D'.n :: X'.h :: X'.n :: Jg.h :: Jg.n :: Jn.h :: Jn.n :: Rz.h :: Rz.n :: M) := by rw [← hDV]; simp
 have hne : D'.p ≠ q1 := fun e => by
  have := HdrAt.ne (nq := D'.ng) (t := D'.s) b5 (q := D'.p) (by simp)
  exact this e.symm
 refine ⟨_, rfl, ?_⟩
 rw [← p1]
 refine (c68 (sy := r1) (Y := 1) b5 hDh hDn (by simp) (by simp) hne).mono ?_
 rintro e3 w5 ⟨rfl, c6⟩
 rw [sgn_self]
 have g6 : G w0 w5 (hdr q1 false r1 :: nmz r1 1 :: D'.h :: D'.n :: X'.h :: X'.n :: Jg.h :: Jg.n :: Jn.h :: Jn.n :: Rz.h :: Rz.n :: M) := ⟨b5.none c6, (g4.ch.trans' c5).trans' c6, g4.hg⟩
 have HX : HdrAt w5 X'.p X'.ng X'.s := g6.bank.all X'.h (by simp)
 refine ⟨_, rfl, bc_false rfl ⟨X'.ng, by rw [← p2]; exact HX.c0, ?_⟩⟩
 rw [← p2]
 have g7 : G w0 w5 (Rz.h :: Rz.n :: X'.h :: X'.n :: Jg.h :: Jg.n :: Jn.h :: Jn.n :: M) := g6.pick 12 [10, 11, 4, 5, 6, 7, 8, 9] rfl
 obtain ⟨cc, hcc⟩ := hend.c
 rw [hDV] at hcc
 have hlo := hend.lo
 refine bc_intro (fun hb => ?_) (fun hb => ?_)
 ·refine addI g7 nR (Y := X') (Z := Jn) (.inr ⟨by simp, by simp⟩) (.inr ⟨by simp, by simp⟩) (lt_pow_of_le (Nat.lt_of_le_of_lt hXb hnb) (by omega)) (lt_pow_of_le hnb (by omega)) fun R w6 p3 g8 nR' vR cR => ⟨_, rfl, fun B5 => F48.t3 (ptr Rz.p) ⟨rfl, trivial⟩ fun B6 B7 => ret1 rfl rfl ⟨rfl, R, p3, g8.pick 8 [0, 1, 4, 5, 6, 7] rfl, ?_, ?_⟩⟩
  ·have hx : X'.v = -(X'.V : Int) := by unfold IR.v iv; rw [hb]; simp
   rw [IR.nonneg hn] at vR
   have := R.abs
   omega
  ·rw [IR.nonneg hn] at vR
   have h0 : 0 ≤ R.v := by omega
   have h1 : R.v = (R.V : Int) := by have := R.abs; omega
   rw [← h1, vR]
   exact ⟨cc + Jg.V, by grind⟩
 ·refine setI (Y := X') g7 nR (by simp) (by simp) (lt_pow_of_le (Nat.lt_of_le_of_lt hXb hnb) (by omega)) fun R w6 p3 g8 nR' sR VR => ⟨_, rfl, fun B5 => F48.t3 (ptr Rz.p) ⟨rfl, trivial⟩ fun B6 B7 => ret1 rfl rfl ⟨rfl, R, p3, g8.pick 8 [0, 1, 4, 5, 6, 7] rfl, by omega, ?_⟩⟩
  have hx : X'.v = (X'.V : Int) := IR.nonneg hb
  rw [VR, ← hx]
  exact ⟨cc, hcc⟩
theorem c111 {sg sn : Sl} {Gv Nv : Nat} {L : List Item} (h : Bank w (nmz sg Gv :: nmz sn Nv :: L)) (hg0 : 0 < Gv) (hn0 : 0 < Nv) (hgb : Gv < BB ^ 28) (hnb : Nv < BB ^ 28) (hcop : Nat.gcd Gv Nv = 1) (hg : Glb w) {Q : Ending → World → Prop}
  (q : ∀ (r : Sl) (V : Nat) w', Bank w' (nmz r V :: nmz sg Gv :: nmz sn Nv :: L) → V ≤ Nv → (Nv : Int) ∣ (V : Int) * Gv - 1 → Chg w w' none2 → Q (.returned r.v) w') :
  Calls Tryz.prog 111 #[.slice none 0 0, sg.v, sn.v] w Q := by
 refine (F111.call none 0 0 sg.a sg.l sg.c sn.a sn.l sn.c w (fun v w' => Q (.returned v) w') fun B => ?_).mono fun e w' ⟨v, h1, h2⟩ => by rw [h1]; exact h2
 have g0 : G w w (nmz sg Gv :: nmz sn Nv :: L) := ⟨h, Chg.refl _ _, hg⟩
 obtain ⟨g1, n1⟩ := newI g0
 obtain ⟨Z, hZ⟩ : ∃ Z : IR, Z = ⟨w.heap.size, false, nilS w, 0⟩ := ⟨_, rfl⟩
 rw [← hZ] at g1 n1
 have pZ : Z.p = w.heap.size := by rw [hZ]
 obtain ⟨w1, hw1⟩ : ∃ w1, w1 = w.alloc (.cells #[Value.bool false, Value.slice none 0 0] 47) := ⟨_, rfl⟩
 rw [← hw1] at g1
 obtain ⟨b2, c2⟩ := newInt g1.bank (g1.ch.glb hg).gb false sg
 obtain ⟨w2, hw2⟩ : ∃ w2, w2 = w1.alloc (.cells #[Value.bool false, sg.v] 47) := ⟨_, rfl⟩
 rw [← hw2] at b2 c2
 have hc2 : Chg w w2 none2 := g1.ch.trans' c2
 obtain ⟨b3, c3⟩ := newInt b2 (hc2.glb hg).gb false sn
 obtain ⟨w3, hw3⟩ : ∃ w3, w3 = w2.alloc (.cells #[Value.bool false, sn.v] 47) := ⟨_, rfl⟩
 rw [← hw3] at b3 c3
 obtain ⟨Jg, hJg⟩ : ∃ Jg : IR, Jg = ⟨w1.heap.size, false, sg, Gv⟩ := ⟨_, rfl⟩
 obtain ⟨Jn, hJn⟩ : ∃ Jn : IR, Jn = ⟨w2.heap.size, false, sn, Nv⟩ := ⟨_, rfl⟩
 have b4 : Bank w3 (Jn.h :: Jg.h :: Z.h :: Z.n :: Jg.n :: Jn.n :: L) := by rw [hJg, hJn]; exact b3
 have g4 : G w w3 (Z.h :: Z.n :: Jg.h :: Jg.n :: Jn.h :: Jn.n :: L) := ⟨b4.pick 6 [2, 3, 1, 4, 0, 5] rfl, hc2.trans' c3, hg⟩
 have pg : Jg.p = w1.heap.size := by rw [hJg]
 have pn : Jn.p = w2.heap.size := by rw [hJn]
 have Vg : Jg.V = Gv := by rw [hJg]
 have Vn : Jn.V = Nv := by rw [hJn]
 unfold F111.v0
 rw [show (Value.slice sg.a sg.l sg.c) = sg.v from rfl, show (Value.slice sn.a sn.l sn.c) = sn.v from rfl, ← hw1, ← hw2, ← hw3, ← pZ, ← pg, ← pn]
 refine (c48 g4 n1 (by rw [hJg]) (by rw [hJn]) (by rw [Vg]; exact hg0) (by rw [Vn]; exact hn0) (by rw [Vg]; exact hgb) (by rw [Vn]; exact hnb) (by rw [Vg, Vn]; exact hcop)).mono ?_
 rintro e1 w4 ⟨rfl, R, p1, g5, hR1, hR2⟩
 have HR : HdrAt w4 R.p R.ng R.s := g5.bank.head
 refine ⟨_, rfl, R.p, 0, by rw [p1]; rfl, R.s.a, R.s.l, R.s.c, HR.c1, fun B5 => ret1 rfl rfl ?_⟩
 rw [Vn] at hR1 hR2
 rw [Vg] at hR2
 refine q R.s R.V w4 ?_ hR1 hR2 g5.ch
 have : G w w4 (R.n :: Jg.n :: Jn.n :: L) := g5.pick 6 [1, 3, 5] rfl
 have b := this.bank
 rw [hJg, hJn] at b
 exact b
end
end Go.Proofs.YtlkjiiibmfpbcaaGreatDoor
namespace Go.Proofs.YtlkjiiibmfpbcaaGreatDoor
open Go
def Fin51 (w : World) (K : SK) (z : Sl) (L : List Item) (V : Nat) (ds : List Deferred) (R : Value → World → Prop) : Prop :=
 ∀ (r : Sl) (K' : SK) w', Bank w' (stk K' :: nmz r V :: L) → K'.a = K.a → K'.s.l = K.s.l → Nxt w K K' → Sub w z r → Chg w w' (un (fp z) K.free) → runD Tryz.prog ds w' fun w'' => R r.v w''
def C77 (M : Nat) : Prop := ∀ (w : World) (K : SK) (z x y m : Sl) (X Y : Nat) (a : Item) (L : List Item), Bank w (stk K :: a :: L) → a.fp = fp z → (∀ w', a.P w' → St w' z) → nmz x X ∈ L → nmz y Y ∈ L → nmz m M ∈ L → X ≠ 0 → 1 < y.l → m.l < 28 → x.l < 40 → y.l ≤ 1000000 →
 K.s.l ≤ 549755813888 → Glb w → ∀ (Q : Ending → World → Prop), (∀ (r : Sl) (K' : SK) w', Bank w' (stk K' :: nmz r (X ^ Y % M) :: L) → K'.a = K.a → K'.s.l = K.s.l → Nxt w K K' → Sub w z r → Chg w w' (un (fp z) K.free) → Q (.returned r.v) w') →
 Calls Tryz.prog 77 #[z.v, .pointer K.a, x.v, y.v, m.v] w Q
section
variable {w : World} {K : SK} {z x y m : Sl} {X Y M : Nat} {a : Item} {L : List Item}
theorem rem_bank (h : Bank w (stk K :: a :: L)) (ha : a.fp = fp z) (hz : St w z) (hx : nmz x X ∈ L) (hy : nmz y Y ∈ L) (hY : Y ≠ 0) (ly : y.l < 40) (lx : x.l ≤ 1000000000) (hL : K.s.l ≤ 549755813888) (hg : Glb w) {Q : Ending → World → Prop}
  (q : ∀ (r : Sl) (K' : SK) w', Bank w' (stk K' :: nmz r (X % Y) :: L) → K'.a = K.a → K'.s.l = K.s.l → Nxt w K K' → From w z r → Chg w w' (un (fp z) K.free) → Q (.returned r.v) w') :
  Calls Tryz.prog 72 #[z.v, .pointer K.a, x.v, y.v] w Q := by
 have hxP : Nz w x X := h.all (nmz x X) (by simp [hx])
 have hyP : Nz w y Y := h.all (nmz y Y) (by simp [hy])
 have dz : Dj K.free (fp z) := by have := h.hdj (b := a) (by simp); rw [ha] at this; exact this
 have dx : Dj K.free (fp x) := h.hdj (b := nmz x X) (by simp [hx])
 have dy : Dj K.free (fp y) := h.hdj (b := nmz y Y) (by simp [hy])
 have dzx : Dj (fp z) (fp x) := by have := h.tail.hdj (b := nmz x X) hx; rw [ha] at this; exact this
 refine ResKE.pass (c72 K z x y X Y w h.head hz hxP hyP hY ly lx (dzx.al hxP.toSt) dz.off (dx.offl hxP.toSt) (dy.offl hyP.toSt) hL hg) fun r K' w' h1 h2 h3 h4 h5 h6 _ h7 => q r K' w' ?_ (by unfold SK.a; rw [h4.p]) h5 h4 h2 h7
 exact fin_bank h ha h7 h3 h4 h1 ((Sub.self w z).from_ h2 (Nat.le_refl _)) h6
theorem p2_51 (h : Bank w (stk K :: a :: L)) (ha : a.fp = fp z) (hz : ∀ w', a.P w' → St w' z) (hx : nmz x X ∈ L) (hy : nmz y Y ∈ L) (hm : nmz m M ∈ L) (hM0 : M ≠ 0) (hX0 : X ≠ 0) (hY0 : Y ≠ 0) (h77 : (∃ k u, M = 2 ^ k * (2 * u + 1) ∧ u ≠ 0) → M % 2 = 0 → C77 M)
  (lm : m.l < 28) (lx : x.l < 40) (ly : y.l ≤ 1000000) (hL : K.s.l ≤ 549755813888) (hg : Glb w) (e : Env) (R : Value → World → Prop) (hR : Fin51 w K z L (X ^ Y % M) e.defers R)
  (hag : agree e (F51.l2 z.a z.l z.c K.a x.a x.l x.c y.a y.l y.c m.a m.l m.c false)) : W Tryz.prog 250 F51.p2 e w (retK Tryz.prog [.tmp 12] R) := by
 have hxP : Nz w x X := h.all (nmz x X) (by simp [hx])
 have hyP : Nz w y Y := h.all (nmz y Y) (by simp [hy])
 have hmP : Nz w m M := h.all (nmz m M) (by simp [hm])
 have hzP : St w z := hz w (h.all a (by simp))
 have hyl0 : y.l ≠ 0 := fun h0 => hY0 (Nz.zero hyP.toNt h0)
 have hml0 : m.l ≠ 0 := fun h0 => hM0 (Nz.zero hmP.toNt h0)
 have hyc := hyP.lc
 have hmc := hmP.lc
 have b0 : Bank w (a :: stk K :: L) := h.perm (List.Perm.swap _ _ _)
 have slow : y.l = 1 → 2 ≤ Y → Calls Tryz.prog 73 #[z.v, .int .i64 (m.l : Int)] w fun r_9 w_10 => (∃ x_11a, ∃ x_11l, ∃ x_11c, r_9 = .returned (.slice x_11a x_11l x_11c) ∧ ∀ B_33, W Tryz.prog 250 F51.p3 (E [(0, (.slice x_11a x_11l x_11c)), (1, (.pointer K.a)), (2, x.v), (3, y.v), (4, m.v)] B_33 e.defers) w_10 (retK Tryz.prog [.tmp 12] R)) := by
  intro h1 h2
  refine mk_bank b0 ha hzP (by omega) fun z1 w1 l1 b1 f1 c1 => ⟨_, _, _, rfl, fun B3 => ?_⟩
  have b2 : Bank w1 (stk K :: sto z1 :: L) := b1.perm (List.Perm.swap _ _ _)
  refine slow51 b2 rfl b2.tail.head hx hy hm hM0 lx (by omega) h1 h2 (by omega) (c1.glb hg) _ R (fun r K' w' k1 k2 k3 k4 k5 k6 => ?_) ⟨rfl, rfl, rfl, rfl, rfl, trivial⟩
  refine hR r K' w' k1 k2 k3 (k4.mono c1.size) ?_ ?_
  ·exact fun b i hb hm => from_sub f1 b i hb (k5 b i (Nat.lt_of_lt_of_le hb c1.size) hm)
  ·refine (c1.none _).trans k6 (fun _ _ _ h => h) fun b i hb hm => ?_
   rcases hm with hm | hm
   ·exact .inl (from_sub f1 b i hb hm)
   ·exact .inr hm
 refine F51.t2 z.a z.l z.c K.a x.a x.l x.c y.a y.l y.c m.a m.l m.c false hag fun B => bc_intro (fun hb => ?_) (fun hb => ?_)
 ·have hy1 : y.l = 1 := by have := eqE hb; omega
  have hYB : Y < 18446744073709551616 := by have := hyP.lt; rw [hy1, Nat.pow_one] at this; exact this
  have hcell := hyP.sg 0 (by omega)
  rw [dg_self Y hYB] at hcell
  refine rdC (k := 0) (hyP.at_ (by omega)) rfl (by omega) hcell (bc_intro (fun hb1 => ?_) (fun hb1 => ?_))
  ·have hY1 : Y = 1 := by have := eqE hb1; omega
   subst hY1
   refine rem_bank h ha hzP hx hm hM0 (by omega) (by omega) hL hg fun r K' w' k1 k2 k3 k4 k5 k6 => ⟨_, _, _, rfl, fun B3 => ?_⟩
   rw [Nat.pow_one] at hR
   exact hR r K' w' k1 k2 k3 k4 ((Sub.self w z).from_ k5 (Nat.le_refl _)) k6
  ·have hY2 : 2 ≤ Y := by have := eqN hb1; omega
   refine bc_true (neT (by omega)) ((slow hy1 hY2).mono ?_)
   rintro e1 w1 ⟨_, _, _, rfl, k1⟩
   exact ⟨_, _, _, rfl, bc_false (decF (by omega)) k1⟩
 ·have hy2 : 1 < y.l := by have := eqN hb; omega
  refine bc_true (neT (by omega)) (mk_bank b0 ha hzP (by omega) fun z1 w1 l1 b1 f1 c1 => ⟨_, _, _, rfl, bc_true (decT (by omega)) (bc_true rfl ?_)⟩)
  have hg1 := c1.glb hg
  have b2 : Bank w1 (stk K :: sto z1 :: L) := b1.perm (List.Perm.swap _ _ _)
  have hm1 : Nz w1 m M := b2.all (nmz m M) (by simp [hm])
  have hR1 : ∀ (wm : World), Chg w wm none2 → Fin51 wm K z1 L (X ^ Y % M) e.defers R := fun wm cm r K' w' k1 k2 k3 k4 k5 k6 => by
   refine hR r K' w' k1 k2 k3 (k4.mono cm.size) ?_ ?_
   ·exact fun b i hb hm => from_sub f1 b i hb (k5 b i (Nat.lt_of_lt_of_le hb cm.size) hm)
   ·refine (cm.none _).trans k6 (fun _ _ _ h => h) fun b i hb hm => ?_
    rcases hm with hm | hm
    ·exact .inl (from_sub f1 b i hb hm)
    ·exact .inr hm
  have e0 : iAnd .u64 (dg M 0 : Int) 1 = ((M % 2 : Nat) : Int) := by
   rw [show iAnd .u64 (dg M 0 : Int) 1 = ((dg M 0 % 2 ^ 1 : Nat) : Int) from iAndMask (dg M 0) 1 (by omega) (dg_lt' M 0)]
   have : dg M 0 = M % BB := by simp [dg]
   rw [this, BB_eq]
   congr 1; omega
  refine rdC (k := 0) (hm1.at_ (by omega)) rfl (by omega) (hm1.sg 0 (by omega)) ?_
  rw [e0]
  refine bc_intro (fun hb1 => ?_) (fun hb1 => ?_)
  ·have hodd : M % 2 = 1 := by have := eqE hb1; omega
   refine c74 (z := z1) b2 rfl (fun _ h => h) hx hy hm hodd (by omega) (by omega) ly (by omega) hg1 fun r K' w' k1 k2 k3 k4 k5 k6 => ⟨_, _, _, rfl, fun B3 => hR1 w1 c1 r K' w' k1 k2 k3 k4 k5 k6⟩
  ·have hev : M % 2 = 0 := by have := eqN hb1; omega
   refine (c75 m M w1 hm1 (by unfold Len; omega) hg1.tabs hM0).mono ?_
   rintro e1 w2 ⟨_, rfl, k, qq, rfl, hq1, hq2, hw⟩
   have c2 : Chg w1 w2 none2 := by rw [hw]; exact Chg.drew0 _ _
   have b3 := b2.none c2
   have c12 := c1.trans' c2
   refine ⟨_, trivial, _, trivial, rfl, bc_intro (fun hb2 => ?_) (fun hb2 => ?_)⟩
   ·obtain ⟨hMk, hkl⟩ := hq1 hb2
    subst hMk
    have hk1 : 1 ≤ k := by
     rcases Nat.eq_zero_or_pos k with h0 | h0
     ·subst h0; simp at hev
     ·exact h0
    refine c76 (z := z1) b3 rfl (fun _ h => h) hx hy hX0 hk1 (by omega) (by omega) ly hy2 (by omega) (c2.glb hg1) fun r K' w' k1 k2 k3 k4 k5 k6 => ⟨_, _, _, rfl, fun B3 => hR1 w2 c12 r K' w' k1 k2 k3 k4 k5 k6⟩
   ·refine h77 (hq2 hb2) hev w2 K z1 x y m X Y (sto z1) L b3 rfl (fun _ h => h) hx hy hm hX0 hy2 lm lx ly hL (c2.glb hg1) _ fun r K' w' k1 k2 k3 k4 k5 k6 => ⟨_, _, _, rfl, fun B3 => hR1 w2 c12 r K' w' k1 k2 k3 k4 k5 k6⟩
theorem p1_51 {st : Option Addr} (hzP : St w z) (hxP : Nz w x X) (hyP : Nz w y Y) (hmP : Nz w m M) (hM0 : M ≠ 0) (e : Env) (R : Value → World → Prop)
  (word : ∀ (V : Nat), V = X ^ Y % M → V < 18446744073709551616 → Calls Tryz.prog 71 #[z.v, .int .u64 (V : Int)] w fun r_5 w_6 => ∃ x_7a, ∃ x_7l, ∃ x_7c, r_5 = .returned (.slice x_7a x_7l x_7c) ∧ ∀ B_8, retK Tryz.prog [.tmp 12] R .ret (E [(12, (.slice x_7a x_7l x_7c))] B_8 e.defers) w_6)
  (hS : M ≠ 1 → X ≠ 0 → Y ≠ 0 → ∃ q_59, ptrEq w st none q_59 ∧ (bc q_59 (Calls Tryz.prog 56 #[] w fun r_60 w_61 => (∃ x_62, r_60 = .returned (.pointer x_62) ∧ (∀ B_63, W Tryz.prog 250 F51.p2 (E [(0, z.v), (1, (.pointer x_62)), (2, x.v), (3, y.v), (4, m.v), (5, (.bool false))] B_63 (⟨.fn (.func 57) #[], #[(.pointer x_62)]⟩ :: e.defers)) w_61 (retK Tryz.prog [.tmp 12] R)))) (∀ B_64, W Tryz.prog 250 F51.p2 (E [(0, z.v), (1, (.pointer st)), (2, x.v), (3, y.v), (4, m.v), (5, (.bool false))] B_64 e.defers) w (retK Tryz.prog [.tmp 12] R))))
  (hag : agree e (F51.l1 z.a z.l z.c st x.a x.l x.c y.a y.l y.c m.a m.l m.c false)) : W Tryz.prog 250 F51.p1 e w (retK Tryz.prog [.tmp 12] R) := by
 have hml0 : m.l ≠ 0 := fun h0 => hM0 (Nz.zero hmP.toNt h0)
 have hyc := hyP.lc
 have hmc := hmP.lc
 have hxc := hxP.lc
 refine F51.t1 z.a z.l z.c st x.a x.l x.c y.a y.l y.c m.a m.l m.c false hag fun B => bc_intro (fun hb => ?_) (fun hb => ?_)
 ·have hm1 : m.l = 1 := by have := eqE hb; omega
  have hMB : M < 18446744073709551616 := by have := hmP.lt; rw [hm1, Nat.pow_one] at this; exact this
  have hcell := hmP.sg 0 (by omega)
  rw [dg_self M hMB] at hcell
  refine rdC (k := 0) (hmP.at_ (by omega)) rfl (by omega) hcell (bc_intro (fun hb0 => ?_) (fun hb0 => ?_))
  ·have hMe : M = 1 := by have := eqE hb0; omega
   exact word 0 (by rw [hMe, Nat.mod_one]) (by omega)
  ·have hM1 : M ≠ 1 := by have := eqN hb0; omega
   refine bc_intro (fun hb1 => ?_) (fun hb1 => bc_intro (fun hb2 => ?_) (fun hb2 => bc_intro (fun hb3 => ?_) (fun hb3 => ?_)))
   ·have hYz : Y = 0 := Nz.zero hyP.toNt (by have := eqE hb1; omega)
    exact word 1 (by rw [hYz, Nat.pow_zero]; exact (Nat.mod_eq_of_lt (by omega)).symm) (by omega)
   ·have hYz : Y ≠ 0 := fun h0 => by have := eqN hb1; have := (Nm.zero_iff hyP.nm hyP.toNt).2 h0; omega
    have hXz : X = 0 := Nz.zero hxP.toNt (by have := eqE hb2; omega)
    exact word 0 (by rw [hXz, Nat.zero_pow (by omega)]; exact (Nat.zero_mod _).symm) (by omega)
   ·have hYz : Y ≠ 0 := fun h0 => by have := eqN hb1; have := (Nm.zero_iff hyP.nm hyP.toNt).2 h0; omega
    have hXz : X ≠ 0 := fun h0 => by have := eqN hb2; have := (Nm.zero_iff hxP.nm hxP.toNt).2 h0; omega
    have hx1 : x.l = 1 := by have := eqE hb3; omega
    have hXB : X < 18446744073709551616 := by have := hxP.lt; rw [hx1, Nat.pow_one] at this; exact this
    have hcell := hxP.sg 0 (by omega)
    rw [dg_self X hXB] at hcell
    refine rdC (k := 0) (hxP.at_ (by omega)) rfl (by omega) hcell (bc_intro (fun hb4 => ?_) (fun hb4 => ?_))
    ·have hX1 : X = 1 := by have := eqE hb4; omega
     exact word 1 (by rw [hX1, Nat.one_pow]; exact (Nat.mod_eq_of_lt (by omega)).symm) (by omega)
    ·refine bc_intro (fun hy1 => ?_) (fun _ => hS hM1 hXz hYz)
     have hy1 : y.l = 1 := by have := eqE hy1; omega
     refine rdC (k := 0) (hyP.at_ (by omega)) rfl (by omega) (hyP.sg 0 (by omega)) (bc_intro (fun _ => bc_false (eqF (by omega)) (hS hM1 hXz hYz)) fun _ => hS hM1 hXz hYz)
   ·have hYz : Y ≠ 0 := fun h0 => by have := eqN hb1; have := (Nm.zero_iff hyP.nm hyP.toNt).2 h0; omega
    have hXz : X ≠ 0 := fun h0 => by have := eqN hb2; have := (Nm.zero_iff hxP.nm hxP.toNt).2 h0; omega
    refine bc_intro (fun hy1 => ?_) (fun _ => hS hM1 hXz hYz)
    have hy1 : y.l = 1 := by have := eqE hy1; omega
    refine rdC (k := 0) (hyP.at_ (by omega)) rfl (by omega) (hyP.sg 0 (by omega)) (bc_intro (fun _ => bc_false (eqF (by omega)) (hS hM1 hXz hYz)) fun _ => hS hM1 hXz hYz)
 ·have hM1 : M ≠ 1 := by
   intro h1
   have := hmP.nm 1 (by rw [h1, Nat.pow_one]; decide)
   have := eqN hb; omega
  refine bc_intro (fun hb1 => ?_) (fun hb1 => bc_intro (fun hb2 => ?_) (fun hb2 => bc_intro (fun hb3 => ?_) (fun hb3 => ?_)))
  ·have hYz : Y = 0 := Nz.zero hyP.toNt (by have := eqE hb1; omega)
   exact word 1 (by rw [hYz, Nat.pow_zero]; exact (Nat.mod_eq_of_lt (by omega)).symm) (by omega)
  ·have hYz : Y ≠ 0 := fun h0 => by have := eqN hb1; have := (Nm.zero_iff hyP.nm hyP.toNt).2 h0; omega
   have hXz : X = 0 := Nz.zero hxP.toNt (by have := eqE hb2; omega)
   exact word 0 (by rw [hXz, Nat.zero_pow (by omega)]; exact (Nat.zero_mod _).symm) (by omega)
  ·have hYz : Y ≠ 0 := fun h0 => by have := eqN hb1; have := (Nm.zero_iff hyP.nm hyP.toNt).2 h0; omega
   have hXz : X ≠ 0 := fun h0 => by have := eqN hb2; have := (Nm.zero_iff hxP.nm hxP.toNt).2 h0; omega
   have hx1 : x.l = 1 := by have := eqE hb3; omega
   have hXB : X < 18446744073709551616 := by have := hxP.lt; rw [hx1, Nat.pow_one] at this; exact this
   have hcell := hxP.sg 0 (by omega)
   rw [dg_self X hXB] at hcell
   refine rdC (k := 0) (hxP.at_ (by omega)) rfl (by omega) hcell (bc_intro (fun hb4 => ?_) (fun hb4 => ?_))
   ·have hX1 : X = 1 := by have := eqE hb4; omega
    exact word 1 (by rw [hX1, Nat.one_pow]; exact (Nat.mod_eq_of_lt (by omega)).symm) (by omega)
   ·refine bc_intro (fun hy1 => ?_) (fun _ => hS hM1 hXz hYz)
    have hy1 : y.l = 1 := by have := eqE hy1; omega
    refine rdC (k := 0) (hyP.at_ (by omega)) rfl (by omega) (hyP.sg 0 (by omega)) (bc_intro (fun _ => bc_false (eqF (by omega)) (hS hM1 hXz hYz)) fun _ => hS hM1 hXz hYz)
  ·have hYz : Y ≠ 0 := fun h0 => by have := eqN hb1; have := (Nm.zero_iff hyP.nm hyP.toNt).2 h0; omega
   have hXz : X ≠ 0 := fun h0 => by have := eqN hb2; have := (Nm.zero_iff hxP.nm hxP.toNt).2 h0; omega
   refine bc_intro (fun hy1 => ?_) (fun _ => hS hM1 hXz hYz)
   have hy1 : y.l = 1 := by have := eqE hy1; omega
   refine rdC (k := 0) (hyP.at_ (by omega)) rfl (by omega) (hyP.sg 0 (by omega)) (bc_intro (fun _ => bc_false (eqF (by omega)) (hS hM1 hXz hYz)) fun _ => hS hM1 hXz hYz)
end
end Go.Proofs.YtlkjiiibmfpbcaaGreatDoor
