/- Contracts: the great common divisor by leading words, with one factor: its rounds. Conditions: two numbers above nought, below 28 words. -/
import Derived.Test.YtlkjiiibmfpbcaaGreatDoorP38
namespace Go.Proofs.YtlkjiiibmfpbcaaGreatDoor
open Go
theorem can_nat {X : IR} {n : Nat} (h : Can X) (hv : X.v = (n : Int)) : X.ng = false ∧ X.V = n := by
 obtain ⟨p, ng, s, V⟩ := X
 unfold IR.v iv at hv
 unfold Can at h
 simp only at h hv ⊢
 cases ng with
 | false => exact ⟨rfl, by simp at hv; omega⟩
 | true =>
  simp at hv
  have : V = 0 := by omega
  have := h this
  cases this
structure L6 (w0 w : World) (a b : Nat) (R : List Item) (A B U Y q r : IR) : Prop where
 g : G w0 w (A.h :: A.n :: B.h :: B.n :: U.h :: U.n :: Y.h :: Y.n :: q.h :: q.n :: r.h :: r.n :: R)
 nA : New w0 A
 nB : New w0 B
 nU : New w0 U
 nW : New w0 Y
 nq : New w0 q
 nr : New w0 r
 hA : A.ng = false
 hB : B.ng = false
 inv : LInv a b A.V B.V U.v Y.v
 bA : A.V < BB ^ 28
section
variable {w0 w : World} {a b : Nat} {A B U Y q r : IR} {R : List Item}
theorem L6.bU (h : L6 w0 w a b R A B U Y q r) (hb : b < BB ^ 28) : U.V < BB ^ 28 := by
 obtain ⟨σ, x, y, hσ, hU, hW, _, hx, hy⟩ := h.inv.co
 have := U.abs
 rw [hU] at this
 rcases hσ with rfl | rfl <;> simp at this <;> omega
theorem L6.bW (h : L6 w0 w a b R A B U Y q r) (hb : b < BB ^ 28) : Y.V < BB ^ 28 := by
 obtain ⟨σ, x, y, hσ, hU, hW, _, hx, hy⟩ := h.inv.co
 have := Y.abs
 rw [hW] at this
 rcases hσ with rfl | rfl <;> simp at this <;> omega
theorem L6.bB (h : L6 w0 w a b R A B U Y q r) : B.V < BB ^ 28 := Nat.lt_of_le_of_lt h.inv.le h.bA
theorem L6.euclid (h : L6 w0 w a b R A B U Y q r) (hb : b < BB ^ 28) (hB0 : B.V ≠ 0) {Q : Ending → World → Prop}
  (qq : ∀ (q' r' U' : IR) w', q'.p = q.p → r'.p = r.p → U'.p = U.p → L6 w0 w' a b R B r' Y U' q' A → r'.V < B.V → Q (.returned (.tuple #[.pointer (ptr B.p), .pointer (ptr r.p), .pointer (ptr A.p), .pointer (ptr Y.p), .pointer (ptr U.p)])) w') :
  Calls Tryz.prog 134 #[.pointer (ptr A.p), .pointer (ptr B.p), .pointer (ptr U.p), .pointer (ptr Y.p), .pointer (ptr q.p), .pointer (ptr r.p), .bool true] w Q := by
 have gg : G w0 w (q.h :: q.n :: r.h :: r.n :: U.h :: U.n :: A.h :: A.n :: B.h :: B.n :: Y.h :: Y.n :: R) := h.g.pick 12 [8, 9, 10, 11, 4, 5, 0, 1, 2, 3, 6, 7] rfl
 refine c134 gg h.nU h.nq h.nr h.hA h.hB hB0 (lt_pow_of_le h.bA (by omega)) (lt_pow_of_le h.bB (by omega)) (lt_pow_of_le (h.bU hb) (by omega)) (lt_pow_of_le (h.bW hb) (by omega)) fun q' r' U' w' p1 p2 p3 g' nq' nr' nU' hr' Vr' vU' cU' => ?_
 refine qq q' r' U' w' p1 p2 p3 ⟨g'.pick 12 [8, 9, 4, 5, 10, 11, 0, 1, 2, 3, 6, 7] rfl, h.nB, nr', h.nW, nU', nq', h.nA, h.hB, hr', ?_, h.bB⟩ (by rw [Vr']; exact Nat.mod_lt _ (by omega))
 rw [Vr', vU']
 exact h.inv.euclid (by omega)
theorem L6.sim (h : L6 w0 w a b R A B U Y q r) (hb : b < BB ^ 28) {u0 u1 v0 v1 : Nat} {ev : Bool} {A' B' : Nat} (s : SimOK A.V B.V u0 u1 v0 v1 ev A' B')
  (g0 : u0 < 18446744073709551616) (g1 : u1 < 18446744073709551616) (g2 : v0 < 18446744073709551616) (g3 : v1 < 18446744073709551616) {Q : Ending → World → Prop}
  (qq : ∀ (A' B' U' W' q' r' : IR) w', A'.p = A.p → B'.p = B.p → U'.p = U.p → W'.p = Y.p → q'.p = q.p → r'.p = r.p → L6 w0 w' a b R A' B' U' W' q' r' → B'.V < B.V → Q (.returned undef) w') :
  Calls Tryz.prog 133 #[.pointer (ptr A.p), .pointer (ptr B.p), .pointer (ptr q.p), .pointer (ptr r.p), .int .u64 (u0 : Int), .int .u64 (u1 : Int), .int .u64 (v0 : Int), .int .u64 (v1 : Int), .bool ev] w fun e1 w1 => e1 = .returned undef ∧
   Calls Tryz.prog 133 #[.pointer (ptr U.p), .pointer (ptr Y.p), .pointer (ptr q.p), .pointer (ptr r.p), .int .u64 (u0 : Int), .int .u64 (u1 : Int), .int .u64 (v0 : Int), .int .u64 (v1 : Int), .bool ev] w1 Q := by
 have gg : G w0 w (A.h :: A.n :: B.h :: B.n :: q.h :: q.n :: r.h :: r.n :: U.h :: U.n :: Y.h :: Y.n :: R) := h.g.pick 12 [0, 1, 2, 3, 8, 9, 10, 11, 4, 5, 6, 7] rfl
 refine c133 gg h.nA h.nB h.nq h.nr (lt_pow_of_le h.bA (by omega)) (lt_pow_of_le h.bB (by omega)) ev g0 g1 g2 g3 fun A1 B1 q1 r1 w1 p1 p2 p3 p4 ga nA1 nB1 nq1 nr1 vA1 vB1 cA1 cB1 => ⟨rfl, ?_⟩
 have gb : G w0 w1 (U.h :: U.n :: Y.h :: Y.n :: q1.h :: q1.n :: r1.h :: r1.n :: A1.h :: A1.n :: B1.h :: B1.n :: R) := ga.pick 12 [8, 9, 10, 11, 4, 5, 6, 7, 0, 1, 2, 3] rfl
 rw [← p3, ← p4]
 refine c133 gb h.nU h.nW nq1 nr1 (lt_pow_of_le (h.bU hb) (by omega)) (lt_pow_of_le (h.bW hb) (by omega)) ev g0 g1 g2 g3 fun U1 W1 q2 r2 w2 p5 p6 p7 p8 gc nU1 nW1 nq2 nr2 vU1 vW1 cU1 cW1 => ?_
 have eA : A.v = (A.V : Int) := by unfold IR.v iv; rw [h.hA]; simp
 have eB : B.v = (B.V : Int) := by unfold IR.v iv; rw [h.hB]; simp
 rw [eA, eB] at vA1 vB1
 obtain ⟨hA1, VA1⟩ := can_nat cA1 (vA1.trans s.a.symm)
 obtain ⟨hB1, VB1⟩ := can_nat cB1 (vB1.trans s.b.symm)
 refine qq A1 B1 U1 W1 q2 r2 w2 p1 p2 p5 p6 (p7.trans p3) (p8.trans p4) ⟨gc.pick 12 [8, 9, 10, 11, 0, 1, 2, 3, 4, 5, 6, 7] rfl, nA1, nB1, nU1, nW1, nq2, nr2, hA1, hB1, ?_, ?_⟩ (by rw [VB1]; exact s.dec)
 ·rw [VA1, VB1, vU1, vW1]
  exact h.inv.sim s
 ·rw [VA1]
  exact Nat.lt_of_le_of_lt s.aB h.bB
theorem rounds99 {z x : Nat} {pa pb : Nat} (h : L6 w0 w a b R A B U Y q r) (hb : b < BB ^ 28) (e : Env) (K : Kont)
  (hag : agree e (F99.l4 (ptr z) (ptr x) none (ptr pa) (ptr pb) (ptr A.p) (ptr B.p) (ptr U.p) (ptr Y.p) true (ptr q.p) (ptr r.p)))
  (hK : ∀ (A B U Y q r : IR) w' e', L6 w0 w' a b R A B U Y q r → B.s.l ≤ 1 → agree e' (F99.l3 (ptr z) (ptr x) none (ptr pa) (ptr pb) (ptr A.p) (ptr B.p) (ptr U.p) (ptr Y.p) true (ptr q.p) (ptr r.p)) → e'.defers = e.defers → K .normal e' w') :
  W Tryz.prog 265 F99.p5 e w K := by
 rw [F99.q5]
 refine W_for' (σ := IR × IR × IR × IR × IR × IR) (fun s => F99.l4 (ptr z) (ptr x) none (ptr pa) (ptr pb) (ptr s.1.p) (ptr s.2.1.p) (ptr s.2.2.1.p) (ptr s.2.2.2.1.p) true (ptr s.2.2.2.2.1.p) (ptr s.2.2.2.2.2.p))
  (fun s w' => L6 w0 w' a b R s.1 s.2.1 s.2.2.1 s.2.2.2.1 s.2.2.2.2.1 s.2.2.2.2.2) (fun s => s.2.1.V) (A, B, U, Y, q, r) hag h ?_
 rintro ⟨A, B, U, Y, q, r⟩ B0 wr K2 hs hKn hKe _
 simp only at hs
 have HB : HdrAt wr B.p B.ng B.s := hs.g.bank.all B.h (by simp)
 have nB : Nz wr B.s B.V := hs.g.bank.all B.n (by simp)
 have nA : Nz wr A.s A.V := hs.g.bank.all A.n (by simp)
 refine F99.t4 (ptr z) (ptr x) none (ptr pa) (ptr pb) (ptr A.p) (ptr B.p) (ptr U.p) (ptr Y.p) true (ptr q.p) (ptr r.p) ⟨rfl, rfl, rfl, rfl, rfl, rfl, rfl, rfl, rfl, rfl, rfl, rfl, trivial⟩ fun B1 => ⟨B.p, 0, rfl, B.s.a, B.s.l, B.s.c, HB.c1, bc_intro (fun hb' => ?_) (fun hb' B2 => ?_)⟩
 ·have hl2 : 2 ≤ B.s.l := by have := dT hb'; omega
  have hB0 : B.V ≠ 0 := fun h0 => by have := (Nm.zero_iff nB.nm nB.toNt).2 h0; omega
  have lA : A.s.l ≤ 28 := nA.nm 28 hs.bA
  have hAh : hdr A.p false A.s ∈ (A.h :: A.n :: B.h :: B.n :: U.h :: U.n :: Y.h :: Y.n :: q.h :: q.n :: r.h :: r.n :: R) := by rw [← hs.hA]; simp
  have hBh : hdr B.p false B.s ∈ (A.h :: A.n :: B.h :: B.n :: U.h :: U.n :: Y.h :: Y.n :: q.h :: q.n :: r.h :: r.n :: R) := by rw [← hs.hB]; simp
  refine (c132 (A := A.V) (B := B.V) hs.g.bank hAh (by simp) hBh (by simp) hs.inv.le hl2 (by omega)).mono ?_
  rintro e1 w1 ⟨_, rfl, u0, u1, v0, v1, ev, rfl, g0, g1, g2, g3, hok, hc1⟩
  have hs1 : L6 w0 w1 a b R A B U Y q r := { hs with g := ⟨hs.g.bank.none hc1, hs.g.ch.trans' hc1, hs.g.hg⟩ }
  refine ⟨_, trivial, _, trivial, _, trivial, _, trivial, _, trivial, rfl, bc_intro (fun hv => ?_) (fun hv => ?_)⟩
  ·obtain ⟨A', B', hsim⟩ := hok (by have := neN hv; omega)
   have key := hs1.sim hb hsim g0 g1 g2 g3 (Q := fun e2 w2 => e2 = .returned undef ∧ ∃ A2 B2 U2 Y2 q2 r2 : IR, A2.p = A.p ∧ B2.p = B.p ∧ U2.p = U.p ∧ Y2.p = Y.p ∧ q2.p = q.p ∧ r2.p = r.p ∧ L6 w0 w2 a b R A2 B2 U2 Y2 q2 r2 ∧ B2.V < B.V)
    fun A2 B2 U2 W2 q2 r2 w2 p1 p2 p3 p4 p5 p6 h2 hlt => ⟨rfl, A2, B2, U2, W2, q2, r2, p1, p2, p3, p4, p5, p6, h2, hlt⟩
   refine key.mono ?_
   ·rintro e2 w2 ⟨rfl, h2⟩
    refine ⟨rfl, bc_true rfl (h2.mono ?_)⟩
    rintro e3 w3 ⟨rfl, A2, B2, U2, W2, q2, r2, p1, p2, p3, p4, p5, p6, h3, hlt⟩
    refine ⟨rfl, fun B3 => hKn _ _ (A2, B2, U2, W2, q2, r2) ⟨rfl, rfl, rfl, rfl, rfl, ?_, ?_, ?_, ?_, rfl, ?_, ?_, trivial⟩ rfl h3 hlt⟩
    ·exact congrArg (fun p => Value.pointer (ptr p)) p1.symm
    ·exact congrArg (fun p => Value.pointer (ptr p)) p2.symm
    ·exact congrArg (fun p => Value.pointer (ptr p)) p3.symm
    ·exact congrArg (fun p => Value.pointer (ptr p)) p4.symm
    ·exact congrArg (fun p => Value.pointer (ptr p)) p5.symm
    ·exact congrArg (fun p => Value.pointer (ptr p)) p6.symm
  ·refine hs1.euclid hb hB0 fun q2 r2 U2 w2 p1 p2 p3 h2 hlt => ⟨_, trivial, _, trivial, _, trivial, _, trivial, _, trivial, rfl, fun B3 => hKn _ _ (B, r2, Y, U2, q2, A) ⟨rfl, rfl, rfl, rfl, rfl, rfl, ?_, rfl, ?_, rfl, ?_, rfl, trivial⟩ rfl h2 hlt⟩
   ·exact congrArg (fun p => Value.pointer (ptr p)) p2.symm
   ·exact congrArg (fun p => Value.pointer (ptr p)) p3.symm
   ·exact congrArg (fun p => Value.pointer (ptr p)) p1.symm
 ·exact hKe _ _ (hK A B U Y q r _ _ hs (by have := dF hb'; omega) ⟨rfl, rfl, rfl, rfl, rfl, rfl, rfl, rfl, rfl, rfl, rfl, rfl, trivial⟩ rfl)
end
end Go.Proofs.YtlkjiiibmfpbcaaGreatDoor
namespace Go.Proofs.YtlkjiiibmfpbcaaGreatDoor
open Go
section
variable {w0 w : World} {M R : List Item}
theorem setI {X Y : IR} (g : G w0 w (X.h :: X.n :: M)) (nX : New w0 X) (h1 : Y.h ∈ M) (h2 : Y.n ∈ M) (bY : Y.V < BB ^ 60) {Q : Ending → World → Prop}
  (q : ∀ (X' : IR) w', X'.p = X.p → G w0 w' (X'.h :: X'.n :: M) → New w0 X' → X'.ng = Y.ng → X'.V = Y.V → Q (.returned (.pointer (ptr X.p))) w') : Calls Tryz.prog 50 #[.pointer (ptr X.p), .pointer (ptr Y.p)] w Q := by
 have lY : Y.s.l ≤ 60 := (g.bank.all Y.n (by simp [h2]) : Nz w Y.s Y.V).nm 60 bY
 refine (c50 g.bank h1 h2 (by unfold Len; omega)).mono ?_
 rintro e w' ⟨rfl, r, h3, h4, h5⟩
 exact q ⟨X.p, Y.ng, r, Y.V⟩ w' rfl ⟨h3, nX.chg g.ch h5, g.hg⟩ (nX.next g.ch h4 _ _) rfl rfl
theorem absI {X Y : IR} (g : G w0 w (X.h :: X.n :: M)) (nX : New w0 X) (h1 : Y.h ∈ M) (h2 : Y.n ∈ M) (bY : Y.V < BB ^ 60) {Q : Ending → World → Prop}
  (q : ∀ (X' : IR) w', X'.p = X.p → G w0 w' (X'.h :: X'.n :: M) → New w0 X' → X'.ng = false → X'.V = Y.V → Q (.returned (.pointer (ptr X.p))) w') : Calls Tryz.prog 131 #[.pointer (ptr X.p), .pointer (ptr Y.p)] w Q := by
 have lY : Y.s.l ≤ 60 := (g.bank.all Y.n (by simp [h2]) : Nz w Y.s Y.V).nm 60 bY
 refine (c131 g.bank h1 h2 (by unfold Len; omega)).mono ?_
 rintro e w' ⟨rfl, r, h3, h4, h5⟩
 exact q ⟨X.p, false, r, Y.V⟩ w' rfl ⟨h3, nX.chg g.ch h5, g.hg⟩ (nX.next g.ch h4 _ _) rfl rfl
theorem oneI {X : IR} (g : G w0 w (X.h :: X.n :: M)) (nX : New w0 X) {Q : Ending → World → Prop}
  (q : ∀ (X' : IR) w', X'.p = X.p → G w0 w' (X'.h :: X'.n :: M) → New w0 X' → X'.ng = false → X'.V = 1 → Q (.returned (.pointer (ptr X.p))) w') : Calls Tryz.prog 47 #[.pointer (ptr X.p), .int .i64 1] w Q := by
 refine (c47 g.bank).mono ?_
 rintro e w' ⟨rfl, r, h3, h4, h5⟩
 exact q ⟨X.p, false, r, 1⟩ w' rfl ⟨h3, nX.chg g.ch h5, g.hg⟩ (nX.next g.ch h4 _ _) rfl rfl
theorem newI (g : G w0 w M) : G w0 (w.alloc (.cells #[Value.bool false, Value.slice none 0 0] 47)) (IR.h ⟨w.heap.size, false, nilS w, 0⟩ :: IR.n ⟨w.heap.size, false, nilS w, 0⟩ :: M) ∧ New w0 ⟨w.heap.size, false, nilS w, 0⟩ := by
 have hgw := g.ch.glb g.hg
 obtain ⟨b1, c1⟩ := newInt g.bank hgw.gb false (nilS w)
 have n0 : Nz (w.alloc (.cells #[Value.bool false, Value.slice none 0 0] 47)) (nilS w) 0 := nil_nz w hgw.gb _ c1
 exact ⟨⟨(b1.addNil w hgw.gb n0).perm (List.Perm.swap _ _ _), g.ch.trans' c1, g.hg⟩, ⟨g.ch.size, fun h => absurd rfl h⟩⟩
structure E6 (w0 w : World) (a b : Nat) (R : List Item) (A B U Y q r : IR) : Prop where
 g : G w0 w (A.h :: A.n :: B.h :: B.n :: U.h :: U.n :: Y.h :: Y.n :: q.h :: q.n :: r.h :: r.n :: R)
 hA : A.ng = false
 fin : LEnd a b A.V U.v
variable {a b : Nat} {A B U Y q r Z X Ja Jb : IR}
theorem E6.bU (h : E6 w0 w a b R A B U Y q r) : U.V ≤ b := by
 have := U.abs
 have := h.fin.lo
 have := h.fin.hi
 omega
def Fin99 (w0 : World) (a b : Nat) (Z X Ja : IR) (M : List Item) (Q : Value → World → Prop) : Prop :=
 ∀ (Z' X' : IR) w', Z'.p = Z.p → X'.p = X.p → G w0 w' (Z'.h :: Z'.n :: X'.h :: X'.n :: Ja.h :: Ja.n :: M) → New w0 Z' → New w0 X' → Z'.ng = false → LEnd a b Z'.V X'.v → X'.V ≤ b → Q (.pointer (ptr Z.p)) w'
theorem p6_99 (h : E6 w0 w a b (Z.h :: Z.n :: X.h :: X.n :: Ja.h :: Ja.n :: M) A B U Y q r) (nZ : New w0 Z) (nX : New w0 X) (hJ : Ja.ng = false) (hb : b < BB ^ 28) (hA60 : A.V < BB ^ 60) {pb : Nat} (e : Env) (Q : Value → World → Prop) (he : e.defers = []) (hQ : Fin99 w0 a b Z X Ja M Q)
  (hag : agree e (F99.l6 (ptr Z.p) (ptr X.p) none (ptr Ja.p) (ptr pb) (ptr A.p) (ptr B.p) (ptr U.p))) : W Tryz.prog 265 F99.p6 e w (retK Tryz.prog [.tmp 10] Q) := by
 have HJ : HdrAt w Ja.p Ja.ng Ja.s := h.g.bank.all Ja.h (by simp)
 have bU := h.bU
 refine F99.t6 (ptr Z.p) (ptr X.p) none (ptr Ja.p) (ptr pb) (ptr A.p) (ptr B.p) (ptr U.p) hag fun B1 => ⟨Ja.p, 0, rfl, Ja.ng, HJ.c0, true, rfl, bc_false rfl fun B2 => ?_⟩
 rw [hJ]
 refine F99.t8 (ptr Z.p) (ptr X.p) (ptr A.p) (ptr U.p) false ⟨rfl, rfl, rfl, rfl, rfl, trivial⟩ fun B3 => ⟨false, rfl, bc_true rfl ?_⟩
 have g1 : G w0 w (X.h :: X.n :: A.h :: A.n :: U.h :: U.n :: Z.h :: Z.n :: Ja.h :: Ja.n :: M) := h.g.pick 18 [14, 15, 0, 1, 4, 5, 12, 13, 16, 17] rfl
 refine setI (Y := U) g1 nX (by simp) (by simp) (lt_pow_of_le (Nat.lt_of_le_of_lt bU hb) (by omega)) fun X1 w1 p1 g2 nX1 sX1 VX1 => ⟨_, rfl, bc_false rfl fun B4 => ?_⟩
 have g3 : G w0 w1 (Z.h :: Z.n :: X1.h :: X1.n :: A.h :: A.n :: Ja.h :: Ja.n :: M) := g2.pick 10 [6, 7, 0, 1, 2, 3, 8, 9] rfl
 refine F99.t16 (ptr Z.p) (ptr A.p) ⟨rfl, rfl, trivial⟩ fun B5 => setI (Y := A) g3 nZ (by simp) (by simp) hA60 fun Z1 w2 p2 g4 nZ1 sZ1 VZ1 => ⟨_, rfl, fun B6 => ret1 he rfl ?_⟩
 have vX : X1.v = U.v := by unfold IR.v; rw [sX1, VX1]
 exact hQ Z1 X1 w2 p2 p1 (g4.pick 8 [0, 1, 2, 3, 6, 7] rfl) nZ1 nX1 (by rw [sZ1, h.hA]) (by rw [VZ1, vX]; exact h.fin) (by rw [VX1]; exact bU)
theorem word99 {z x : Nat} {pa pb : Nat} {A0 B0 : Nat} (hA : A0 < 18446744073709551616) (hle : B0 ≤ A0) (hA1 : 1 ≤ A0) (e : Env) (K : Kont)
  (hag : agree e (F99.l12 (ptr z) (ptr x) none (ptr pa) (ptr pb) (ptr A.p) (ptr B.p) (ptr U.p) (ptr Y.p) (A0 : Int) (B0 : Int) 1 0 0 1 true))
  (hK : ∀ (g ua ub va vb : Nat) (ev : Bool) w' e', SI A0 B0 g 0 ua ub va vb (!ev) → ua < 18446744073709551616 → va < 18446744073709551616 → g < 18446744073709551616 → 1 ≤ g → Chg w w' none2 → agree e' (F99.l10 (ptr z) (ptr x) none (ptr pa) (ptr pb) (ptr A.p) (ptr B.p) (ptr U.p) (ptr Y.p) (g : Int) (ua : Int) (va : Int) ev) → e'.defers = e.defers → K .normal e' w') :
  W Tryz.prog 265 F99.p13 e w K := by
 rw [F99.q13]
 refine W_for' (σ := Nat × Nat × Nat × Nat × Nat × Nat × Bool) (fun s => F99.l12 (ptr z) (ptr x) none (ptr pa) (ptr pb) (ptr A.p) (ptr B.p) (ptr U.p) (ptr Y.p) (s.1 : Int) (s.2.1 : Int) (s.2.2.1 : Int) (s.2.2.2.1 : Int) (s.2.2.2.2.1 : Int) (s.2.2.2.2.2.1 : Int) s.2.2.2.2.2.2)
  (fun s w' => SI A0 B0 s.1 s.2.1 s.2.2.1 s.2.2.2.1 s.2.2.2.2.1 s.2.2.2.2.2.1 (!s.2.2.2.2.2.2) ∧ 1 ≤ s.1 ∧ s.1 ≤ A0 ∧ Chg w w' none2) (fun s => s.2.1) (A0, B0, 1, 0, 0, 1, true) hag ⟨SI.start hle, hA1, Nat.le_refl _, Chg.refl _ _⟩ ?_
 rintro ⟨a1, a2, ua, ub, va, vb, ev⟩ B' wr K2 ⟨hs, h1, hac, hch⟩ hKn hKe _
 simp only at hs h1 hac
 have s1 := hs.s1
 have hvb : vb ≤ A0 := by
  have : 1 * vb ≤ a1 * vb := Nat.mul_le_mul_right _ h1
  omega
 have hva : va ≤ A0 := by
  by_cases h : va = 0
  ·omega
  ·have := (hs.mo h).2; omega
 have hub : ub ≤ A0 := Nat.le_trans hs.l2 hvb
 have hua : ua ≤ A0 := by
  by_cases h : va = 0
  ·subst h
   cases ev with
   | true =>
    have := (hs.f rfl).2.2
    rw [Nat.mul_zero] at this
    have : ua = 1 := Nat.eq_one_of_mul_eq_one_right (by omega)
    omega
   | false => have := (hs.t rfl).2.2; rw [Nat.mul_zero] at this; omega
  ·have := hs.l1 h; omega
 have hle2 := hs.le
 refine F99.t12 (ptr z) (ptr x) none (ptr pa) (ptr pb) (ptr A.p) (ptr B.p) (ptr U.p) (ptr Y.p) a1 a2 ua ub va vb ev ⟨rfl, rfl, rfl, rfl, rfl, rfl, rfl, rfl, rfl, rfl, rfl, rfl, rfl, rfl, rfl, rfl, trivial⟩ fun B1 => bc_intro (fun hb => ?_) (fun hb B2 => ?_)
 ·have h2 : a2 ≠ 0 := by have := neN hb; omega
  have hn := hs.next h2
  have hn1 := hn.s1
  have hvb' : va + a1 / a2 * vb ≤ A0 := by
   have : 1 * (va + a1 / a2 * vb) ≤ a2 * (va + a1 / a2 * vb) := Nat.mul_le_mul_right _ (by omega)
   omega
  have hub' : ua + a1 / a2 * ub ≤ A0 := Nat.le_trans hn.l2 hvb'
  have q1 : iQuo .u64 (a1 : Int) (a2 : Int) = ((a1 / a2 : Nat) : Int) := iQuoN a1 a2 (by omega)
  have q2 : iRem (a1 : Int) (a2 : Int) = ((a1 % a2 : Nat) : Int) := iRemN a1 a2
  have q3 : IntKind.wrap .u64 ((ua : Int) + IntKind.wrap .u64 (iQuo .u64 (a1 : Int) (a2 : Int) * (ub : Int))) = ((ua + a1 / a2 * ub : Nat) : Int) := by
   rw [q1, ← Int.natCast_mul, wrapN (a1 / a2 * ub) (by omega), ← Int.natCast_add, wrapN _ (by omega)]
  have q4 : IntKind.wrap .u64 ((va : Int) + IntKind.wrap .u64 (iQuo .u64 (a1 : Int) (a2 : Int) * (vb : Int))) = ((va + a1 / a2 * vb : Nat) : Int) := by
   rw [q1, ← Int.natCast_mul, wrapN (a1 / a2 * vb) (by omega), ← Int.natCast_add, wrapN _ (by omega)]
  refine ⟨by omega, by omega, fun B2 => hKn _ _ (a2, a1 % a2, ub, ua + a1 / a2 * ub, vb, va + a1 / a2 * vb, !ev) ⟨rfl, rfl, rfl, rfl, rfl, rfl, rfl, rfl, rfl, rfl, intv q2, rfl, intv q3, rfl, intv q4, rfl, trivial⟩ rfl ⟨hn, by show 1 ≤ a2; omega, by show a2 ≤ A0; omega, hch.trans' (Chg.drew0 wr _)⟩ (Nat.mod_lt _ (by omega))⟩
 ·have h2 : a2 = 0 := by have := neE hb; omega
  subst h2
  exact hKe _ _ (hK a1 ua ub va vb ev _ _ hs (by omega) (by omega) (by omega) h1 hch ⟨rfl, rfl, rfl, rfl, rfl, rfl, rfl, rfl, rfl, rfl, rfl, rfl, rfl, trivial⟩ rfl)
theorem p7_99 (h : L6 w0 w a b (Z.h :: Z.n :: X.h :: X.n :: Ja.h :: Ja.n :: M) A B U Y q r) (hAl : A.s.l ≤ 1) (nZ : New w0 Z) (nX : New w0 X) (hJ : Ja.ng = false) (hb : b < BB ^ 28) {pb : Nat} (e : Env) (Q : Value → World → Prop) (he : e.defers = []) (hQ : Fin99 w0 a b Z X Ja M Q)
  (hag : agree e (F99.l7 (ptr Z.p) (ptr X.p) none (ptr Ja.p) (ptr pb) (ptr A.p) (ptr B.p) (ptr U.p) (ptr Y.p) true)) : W Tryz.prog 265 F99.p7 e w (thenW Tryz.prog 265 F99.p6 (retK Tryz.prog [.tmp 10] Q)) := by
 have HB : HdrAt w B.p B.ng B.s := h.g.bank.all B.h (by simp)
 have nB : Nz w B.s B.V := h.g.bank.all B.n (by simp)
 have nA : Nz w A.s A.V := h.g.bank.all A.n (by simp)
 have hApos := h.inv.pos
 have hAl1 : A.s.l = 1 := by
  rcases Nat.eq_zero_or_pos A.s.l with h0 | h0
  ·have := Nz.zero nA.toNt h0; omega
  ·omega
 have hAlt : A.V < 18446744073709551616 := by have := nA.lt; rw [hAl1, Nat.pow_one] at this; exact this
 have hBlt : B.V < 18446744073709551616 := Nat.lt_of_le_of_lt h.inv.le hAlt
 have hAc := nA.lc
 have hBc := nB.lc
 refine F99.t7 (ptr Z.p) (ptr X.p) none (ptr Ja.p) (ptr pb) (ptr A.p) (ptr B.p) (ptr U.p) (ptr Y.p) true hag fun B1 => ⟨B.p, 0, rfl, B.s.a, B.s.l, B.s.c, HB.c1, bc_intro (fun hb' => ?_) (fun hb' B2 => ?_)⟩
 ·have hBl : B.s.l ≠ 0 := by have := dT hb'; omega
  have hB0 : B.V ≠ 0 := fun h0 => hBl ((Nm.zero_iff nB.nm nB.toNt).2 h0)
  have cd : Chg w w.drew none2 := Chg.drew0 w _
  have gd : G w0 w.drew _ := ⟨h.g.bank.none cd, h.g.ch.trans' cd, h.g.hg⟩
  have hd : L6 w0 w.drew a b (Z.h :: Z.n :: X.h :: X.n :: Ja.h :: Ja.n :: M) A B U Y q r := { h with g := gd }
  have HA1 : HdrAt w.drew A.p A.ng A.s := gd.bank.head
  have HB1 : HdrAt w.drew B.p B.ng B.s := gd.bank.all B.h (by simp)
  have nA1 : Nz w.drew A.s A.V := gd.bank.tail.head
  have nB1 : Nz w.drew B.s B.V := gd.bank.all B.n (by simp)
  have ca := nA1.sg 0 (by omega)
  have cb := nB1.sg 0 (by omega)
  rw [dg_self A.V hAlt] at ca
  rw [dg_self B.V hBlt] at cb
  refine ⟨A.p, 0, rfl, A.s.a, A.s.l, A.s.c, HA1.c1, A.s.b, A.s.o, nA.at_ (by omega), 0, rfl, by omega, _, ca, B.p, 0, rfl, B.s.a, B.s.l, B.s.c, HB1.c1, B.s.b, B.s.o, nB.at_ (by omega), 0, rfl, by omega, _, cb, bc_true rfl fun B2 => ?_⟩
  refine word99 (A := A) (B := B) (U := U) (Y := Y) hAlt h.inv.le (by omega) _ _ ⟨rfl, rfl, rfl, rfl, rfl, rfl, rfl, rfl, rfl, rfl, rfl, rfl, rfl, rfl, rfl, rfl, trivial⟩ fun G1 ua ub va vb ev w1 e1 hs h1 h2 h3 h4 hc1 a1 d1 => ?_
  have hend := hd.inv.word (by omega) hs
  have g1 : G w0 w1 _ := ⟨hd.g.bank.none hc1, hd.g.ch.trans' hc1, hd.g.hg⟩
  show W Tryz.prog 265 F99.p10 e1 w1 _
  have g2 : G w0 w1 (U.h :: U.n :: Y.h :: Y.n :: A.h :: A.n :: B.h :: B.n :: q.h :: q.n :: r.h :: r.n :: Z.h :: Z.n :: X.h :: X.n :: Ja.h :: Ja.n :: M) := g1.pick 12 [4, 5, 6, 7, 0, 1, 2, 3, 8, 9, 10, 11] rfl
  refine F99.t10 (ptr Z.p) (ptr X.p) none (ptr Ja.p) (ptr pb) (ptr A.p) (ptr B.p) (ptr U.p) (ptr Y.p) G1 ua va ev a1 fun B3 => mulWI g2 h.nU (Y := U) (.inl rfl) (lt_pow_of_le (h.bU hb) (by omega)) (!ev) h1 fun U1 w2 p1 g3 nU1 vU1 VU1 => ⟨rfl, ?_⟩
  have g4 : G w0 w2 (Y.h :: Y.n :: U1.h :: U1.n :: A.h :: A.n :: B.h :: B.n :: q.h :: q.n :: r.h :: r.n :: Z.h :: Z.n :: X.h :: X.n :: Ja.h :: Ja.n :: M) := g3.pick 4 [2, 3, 0, 1] rfl
  refine mulWI g4 h.nW (Y := Y) (.inl rfl) (lt_pow_of_le (h.bW hb) (by omega)) ev h2 fun Y1 w3 p2 g5 nY1 vY1 VY1 => ⟨rfl, ?_⟩
  have g6 : G w0 w3 (U1.h :: U1.n :: Y1.h :: Y1.n :: A.h :: A.n :: B.h :: B.n :: q.h :: q.n :: r.h :: r.n :: Z.h :: Z.n :: X.h :: X.n :: Ja.h :: Ja.n :: M) := g5.pick 4 [2, 3, 0, 1] rfl
  rw [← p1, ← p2]
  refine addI g6 nU1 (Y := U1) (Z := Y1) (.inl rfl) (.inr ⟨by simp, by simp⟩) (by rw [VU1]; exact lt_pow_of_le (mul_lt_word (h.bU hb) h1) (by omega)) (by rw [VY1]; exact lt_pow_of_le (mul_lt_word (h.bW hb) h2) (by omega)) fun U2 w4 p3 g7 nU2 vU2 cU2 => ⟨_, rfl, fun B4 => ?_⟩
  have vU : U2.v = if (!ev) then (va : Int) * Y.v - ua * U.v else (ua : Int) * U.v - va * Y.v := by
   rw [vU2, vU1, vY1]
   cases ev <;> simp <;> grind
  show W Tryz.prog 265 F99.p11 _ w4 _
  have g8 : G w0 w4 (A.h :: A.n :: B.h :: B.n :: U2.h :: U2.n :: Y1.h :: Y1.n :: q.h :: q.n :: r.h :: r.n :: Z.h :: Z.n :: X.h :: X.n :: Ja.h :: Ja.n :: M) := g7.pick 8 [4, 5, 6, 7, 0, 1, 2, 3] rfl
  have HA4 : HdrAt w4 A.p A.ng A.s := g8.bank.head
  have nA4 : Nz w4 A.s A.V := g8.bank.tail.head
  have b9 : Bank w4 (num A.s A.V :: A.h :: B.h :: B.n :: U2.h :: U2.n :: Y1.h :: Y1.n :: q.h :: q.n :: r.h :: r.n :: Z.h :: Z.n :: X.h :: X.n :: Ja.h :: Ja.n :: M) := (g8.bank.perm (List.Perm.swap _ _ _)).weak
  obtain ⟨b10, c10⟩ := setD_bank (k := 0) (d := G1) b9 (by omega) (by rw [BB_eq]; exact h3)
  have hset : setD A.V 0 G1 = G1 := by
   unfold setD
   rw [Nat.pow_zero, Nat.mod_one, Nat.zero_add, Nat.one_mul, Nat.zero_add, Nat.pow_one, Nat.div_eq_of_lt (show A.V < BB from hAlt), Nat.mul_zero, Nat.add_zero]
  rw [hset] at b10
  obtain ⟨A9, hA9⟩ : ∃ A9 : IR, A9 = ⟨A.p, A.ng, A.s, G1⟩ := ⟨_, rfl⟩
  have b11 : Bank (w4.setCell ⟨A.s.b, A.s.o + 0, none⟩ (.int .u64 (G1 : Int))) (A9.h :: A9.n :: B.h :: B.n :: U2.h :: U2.n :: Y1.h :: Y1.n :: q.h :: q.n :: r.h :: r.n :: Z.h :: Z.n :: X.h :: X.n :: Ja.h :: Ja.n :: M) := by
   rw [hA9]
   exact (b10.weaken (a' := nmz A.s G1) rfl fun hh => { hh with nm := Nm.top fun _ => by rw [hAl1, Nat.sub_self, Nat.pow_zero]; exact h4 }).perm (List.Perm.swap _ _ _)
  have c11 : Chg w0 (w4.setCell ⟨A.s.b, A.s.o + 0, none⟩ (.int .u64 (G1 : Int))) none2 := g8.ch.trans c10 (fun _ _ _ h => h) fun b' i hb hm => by
   have := h.nA.2 (by omega)
   have := hm.1; omega
  refine F99.t11 (ptr Z.p) (ptr X.p) none (ptr Ja.p) (ptr pb) (ptr A.p) (ptr B.p) (ptr U1.p) G1 ⟨rfl, rfl, rfl, rfl, rfl, rfl, rfl, rfl, rfl, trivial⟩ fun B5 => ⟨A.p, 0, rfl, A.s.a, A.s.l, A.s.c, HA4.c1, A.s.b, A.s.o, nA.at_ (by omega), 0, rfl, by omega, (nA4.wr 0 (by omega)).1, (nA4.wr 0 (by omega)).2, fun B6 => ?_⟩
  show W Tryz.prog 265 F99.p6 _ _ _
  have e6 : E6 w0 (w4.setCell ⟨A.s.b, A.s.o + 0, none⟩ (.int .u64 (G1 : Int))) a b (Z.h :: Z.n :: X.h :: X.n :: Ja.h :: Ja.n :: M) A9 B U2 Y1 q r := ⟨⟨b11, c11, g8.hg⟩, by rw [hA9]; exact h.hA, by rw [hA9, vU]; exact hend⟩
  have pA9 : A9.p = A.p := by rw [hA9]
  refine p6_99 e6 nZ nX hJ hb (by rw [hA9]; exact lt_pow_of_le (n := 1) (by rw [Nat.pow_one]; exact h3) (by omega)) (pb := pb) _ Q (d1.trans he) hQ ⟨rfl, rfl, rfl, rfl, rfl, ?_, rfl, ?_, trivial⟩
  ·exact congrArg (fun p => Value.pointer (ptr p)) pA9.symm
  ·exact congrArg (fun p => Value.pointer (ptr p)) p3.symm
 ·have hB0 : B.V = 0 := Nz.zero nB.toNt (by have := dF hb'; omega)
  have hinv := h.inv
  rw [hB0] at hinv
  show W Tryz.prog 265 F99.p6 _ _ _
  exact p6_99 ⟨h.g, h.hA, hinv.fin⟩ nZ nX hJ hb (lt_pow_of_le h.bA (by omega)) (pb := pb) _ Q he hQ ⟨rfl, rfl, rfl, rfl, rfl, rfl, rfl, rfl, trivial⟩
theorem p3_99 (h : L6 w0 w a b (Z.h :: Z.n :: X.h :: X.n :: Ja.h :: Ja.n :: M) A B U Y q r) (hBl : B.s.l ≤ 1) (nZ : New w0 Z) (nX : New w0 X) (hJ : Ja.ng = false) (hb : b < BB ^ 28) {pb : Nat} (e : Env) (Q : Value → World → Prop) (he : e.defers = []) (hQ : Fin99 w0 a b Z X Ja M Q)
  (hag : agree e (F99.l3 (ptr Z.p) (ptr X.p) none (ptr Ja.p) (ptr pb) (ptr A.p) (ptr B.p) (ptr U.p) (ptr Y.p) true (ptr q.p) (ptr r.p))) : W Tryz.prog 265 F99.p3 e w (retK Tryz.prog [.tmp 10] Q) := by
 have HB : HdrAt w B.p B.ng B.s := h.g.bank.all B.h (by simp)
 have HA : HdrAt w A.p A.ng A.s := h.g.bank.head
 have nB : Nz w B.s B.V := h.g.bank.all B.n (by simp)
 refine F99.t3 (ptr Z.p) (ptr X.p) none (ptr Ja.p) (ptr pb) (ptr A.p) (ptr B.p) (ptr U.p) (ptr Y.p) true (ptr q.p) (ptr r.p) hag fun B1 => ⟨B.p, 0, rfl, B.s.a, B.s.l, B.s.c, HB.c1, bc_intro (fun hb' => ⟨A.p, 0, rfl, A.s.a, A.s.l, A.s.c, HA.c1, bc_intro (fun hb2 => ?_) (fun hb2 B2 => ?_)⟩) (fun hb' B2 => ?_)⟩
 ·have hB0 : B.V ≠ 0 := fun h0 => by have := (Nm.zero_iff nB.nm nB.toNt).2 h0; have := dT hb'; omega
  refine h.euclid hb hB0 fun q' r' U' w' p1 p2 p3 h2 hlt => ⟨_, trivial, _, trivial, _, trivial, _, trivial, _, trivial, rfl, fun B3 => ?_⟩
  rw [← p2, ← p3]
  exact p7_99 h2 hBl nZ nX hJ hb (pb := pb) _ Q he hQ ⟨rfl, rfl, rfl, rfl, rfl, rfl, rfl, rfl, rfl, rfl, trivial⟩
 ·exact p7_99 h (by have := dF hb2; omega) nZ nX hJ hb (pb := pb) _ Q he hQ ⟨rfl, rfl, rfl, rfl, rfl, rfl, rfl, rfl, rfl, rfl, trivial⟩
 ·have hB0 : B.V = 0 := Nz.zero nB.toNt (by have := dF hb'; omega)
  have hinv := h.inv
  rw [hB0] at hinv
  exact p6_99 ⟨h.g, h.hA, hinv.fin⟩ nZ nX hJ hb (lt_pow_of_le h.bA (by omega)) (pb := pb) _ Q he hQ ⟨rfl, rfl, rfl, rfl, rfl, rfl, rfl, rfl, trivial⟩
end
end Go.Proofs.YtlkjiiibmfpbcaaGreatDoor
