/- Steps that read and write one word of a slice, and the builtin copy over words: what they ask and what they leave. -/
import Derived.Laws.IdiomCopy
import Derived.BigFrame
import Derived.Test.YtlkjiiibmfpbcaaGreatDoorR06
import Derived.Test.YtlkjiiibmfpbcaaGreatDoorR07
import Derived.Test.YtlkjiiibmfpbcaaGreatDoorR05
namespace Go.Proofs.YtlkjiiibmfpbcaaGreatDoor
open Go
theorem neF {a b : Int} (h : a = b) : (a != b) = false := by subst h; simp
theorem eqT {a b : Int} (h : a = b) : (a == b) = true := by subst h; simp
theorem neT {a b : Int} (h : a ≠ b) : (a != b) = true := by simpa using h
theorem eqF {a b : Int} (h : a ≠ b) : (a == b) = false := by simpa using h
theorem eqE {a b : Int} (h : (a == b) = true) : a = b := by simpa using h
theorem neE {a b : Int} (h : (a != b) = false) : a = b := by simpa using h
theorem eqN {a b : Int} (h : (a == b) = false) : a ≠ b := by simpa using h
theorem neN {a b : Int} (h : (a != b) = true) : a ≠ b := by simpa using h
theorem decT {p : Prop} [Decidable p] (h : p) : decide p = true := decide_eq_true h
theorem decF {p : Prop} [Decidable p] (h : ¬ p) : decide p = false := decide_eq_false h
theorem dlt {Z k d : Nat} (hZ : Z < BB ^ k) (hd : d < 18446744073709551616) : Z + BB ^ k * d < BB ^ (k + 1) := by
 have : BB ^ k * d + BB ^ k ≤ BB ^ (k + 1) := by rw [BBpow_succ, ← Nat.mul_succ]; exact Nat.mul_le_mul_left _ hd
 omega
theorem dsum (p s : Nat) : p * (s % 18446744073709551616) + p * BB * (s / 18446744073709551616) = p * s := by
 show p * (s % BB) + p * BB * (s / BB) = p * s
 rw [Nat.mul_assoc, ← Nat.mul_add, Nat.mod_add_div]
theorem rdC {w : World} {s : Sl} {i : Int} {k d : Nat} {Q : Nat → Nat → Nat → Int → Prop} (ha : s.a = some ⟨s.b, s.o, none⟩) (hi : i = (k : Int)) (hk : k < s.l) (hc : w.cell? ⟨s.b, s.o + k, none⟩ = some (.int .u64 (d : Int)))
  (q : Q s.b s.o k d) : nc s.a fun b o => ∃ k' : Nat, i = (k' : Int) ∧ k' < s.l ∧ ∃ x, w.cell? ⟨b, o + k', none⟩ = some (.int .u64 x) ∧ Q b o k' x :=
 ⟨s.b, s.o, ha, k, hi, hk, _, hc, q⟩
theorem wtC {w : World} {s : Sl} {i : Int} {k : Nat} {Q : Nat → Nat → Nat → Prop} (hs : Wt w s) (hi : i = (k : Int)) (hk : k < s.l)
  (q : Q s.b s.o k) : nc s.a fun b o => ∃ k' : Nat, i = (k' : Int) ∧ k' < s.l ∧ ((∃ u, w.cell? ⟨b, o + k', none⟩ = some u) ∧ w.frozen? ⟨b, o + k', none⟩ = false ∧ Q b o k') :=
 ⟨s.b, s.o, hs.at_ (by omega), k, hi, hk, (hs.wr k hk).1, (hs.wr k hk).2, q⟩
theorem chgAt {w wr : World} {S : Set2} {x : Sl} {X k : Nat} (h : Chg w wr S) (hx : Rd w x X) (hk : k < x.l) (hd : ¬ S x.b (x.o + k)) : wr.cell? ⟨x.b, x.o + k, none⟩ = some (.int .u64 (dg X k : Int)) := by
 have := hx.sg k hk
 rw [h.cell (lt_of_cell this) hd]; exact this
theorem Rd.at0 {w : World} {x : Sl} {X k : Nat} (hx : Rd w x X) (hk : k < x.l) : x.a = some ⟨x.b, x.o, none⟩ := hx.at_ (by omega)
def digs (v n : Nat) : List Value := (List.range n).map fun j => .int .u64 (dg v j : Int)
theorem digs_len (v n : Nat) : (digs v n).length = n := by simp [digs]
theorem digs_get (v n j : Nat) (h : j < n) : (digs v n)[j]? = some (.int .u64 (dg v j : Int)) := by simp [digs, h]
theorem Chg.setCells {b : Nat} (S : Set2) : ∀ (vs : List Value) (o : Nat) (w : World), Own w b → (∀ j, j < vs.length → S b (o + j)) → Chg w (w.setCells b o vs) S
 | [], _, w, _, _ => Chg.refl w S
 | v :: r, o, w, hp, h => by
  refine (Chg.setCell hp S (by simpa using h 0 (by simp))).trans' (Chg.setCells S r (o + 1) _ (own_setCell hp) fun j hj => ?_)
  have := h (j + 1) (by simp; omega)
  rwa [show o + (j + 1) = o + 1 + j by omega] at this
theorem info61 : (Tryz.prog.info? 61).map (·.size) = some 1 := by kernel_rfl
theorem addr_add (b o j : Nat) : (⟨b, o, none⟩ : Addr).add j = ⟨b, o + j, none⟩ := by unfold Addr.add; split <;> simp_all
theorem copyT (t : TypeId) (ht : Tryz.prog.underlying t = some (.slice 61)) (z x : Sl) (n : Nat) (hn : n = min x.l z.l) (X : Nat) (w : World) (hz : Wt w (z.to n)) (hx : Rd w (x.to n) X) :
  ∃ w', Sem.run Tryz.prog (builtin .copy #[t, t] 3 #[false, false] #[z.v, x.v]) w = .ok (.value (.int .i64 (n : Int))) w' ∧ Sg w' z.b z.o n X ∧ Chg w w' (inR z.b z.o (z.o + n)) := by
 by_cases h0 : n = 0
 ·subst h0
  have := run_copy_none (P := Tryz.prog) w t t 3 61 z.a x.a z.l z.c x.l x.c ht info61 hn.symm
  refine ⟨w, ?_, Sg.zero, Chg.refl _ _⟩
  rw [BigFrame.builtin_copy]
  simp only [Sem.run_bind, Sl.v, this]
  rfl
 ·have za : z.a = some ⟨z.b, z.o, none⟩ := hz.at_ h0
  have xa : x.a = some ⟨x.b, x.o, none⟩ := hx.at_ h0
  have hp : Own w z.b := hz.pl h0
  have hd := run_copy_cells (P := Tryz.prog) w t t 3 61 z.b z.o z.l z.c ⟨x.b, x.o, none⟩ x.l x.c (digs X n) ht info61 (by rw [digs_len]; exact hn)
   (fun j v hv => by
    by_cases hj : j < n
    ·have hv := Option.some.inj ((digs_get X n j hj).symm.trans hv); subst hv
     rw [addr_add]
     exact hx.sg j hj
    ·rw [List.getElem?_eq_none (by rw [digs_len]; omega)] at hv; exact absurd hv (by simp))
   (fun j hj => by rw [digs_len] at hj; obtain ⟨u, hu⟩ := (hz.wr j hj).1; exact Option.isSome_iff_exists.2 ⟨u, hu⟩)
   (fun j hj => by rw [digs_len] at hj; exact (hz.wr j hj).2)
   (fun v hv => by simp only [digs, List.mem_map] at hv; obtain ⟨j, _, rfl⟩ := hv; rfl)
  refine ⟨_, ?_, ?_, Chg.setCells _ (digs X n) z.o w hp fun j hj => by rw [digs_len] at hj; exact ⟨rfl, by omega, by omega⟩⟩
  ·rw [BigFrame.builtin_copy]
   simp only [Sem.run_bind, Sl.v, za, xa, hd]
   rw [digs_len]; rfl
  ·intro i hi
   have := World.cell?_setCells_in z.b (digs X n) z.o w (fun j hj => by rw [digs_len] at hj; obtain ⟨u, hu⟩ := (hz.wr j hj).1; exact Option.isSome_iff_exists.2 ⟨u, hu⟩) i (by rw [digs_len]; exact hi)
   rw [this]; simp [digs]
theorem copyW (z x : Sl) (n : Nat) (hn : n = min x.l z.l) (X : Nat) (w : World) (hz : Wt w (z.to n)) (hx : Rd w (x.to n) X) :
  ∃ w', Sem.run Tryz.prog (builtin .copy #[44, 44] 3 #[false, false] #[z.v, x.v]) w = .ok (.value (.int .i64 (n : Int))) w' ∧ Sg w' z.b z.o n X ∧ Chg w w' (inR z.b z.o (z.o + n)) := copyT 44 Tryz.underlying44 z x n hn X w hz hx
end Go.Proofs.YtlkjiiibmfpbcaaGreatDoor
namespace Go.Proofs.YtlkjiiibmfpbcaaGreatDoor
open Go
set_option maxRecDepth 100000
set_option linter.unusedVariables false
namespace F127
noncomputable def body : Code := bodyOf Tryz.f127
def kt : List (Nat × List Nat) := [(3,[0,1,2,3]),(5,[0,1,2,8,18,19]),(1000000,[8])]
noncomputable def p1 : Code := sb 2 3 body
noncomputable def p2 : Code := sb 4 15 body
noncomputable def p3 : Code := sb 7 116 body
noncomputable def p4 : Code := sb 5 29 body
theorem q4 : p4 = .block 0 (.loop p3) := by kernel_rfl
variable (A0 : Option Addr) (N0 C0 : Nat) (A1 : Option Addr) (N1 C1 : Nat) (I2 I3 I8 I18 I19 : Int)
abbrev l0 : List (Nat × Value) := [eS 0 A0 N0 C0,eS 1 A1 N1 C1,eU 2 I2,eU 3 I3]
def v0 : VP := fun B ds w K => bc ((N1:Int) != (N0:Int)) False (Wd 36 p1 [eS 0 A0 N0 C0,eS 1 A1 N1 C1,eU 2 I2,eU 3 I3] ds w K)
theorem t0 : VZ 36 body (l0 A0 N0 C0 A1 N1 C1 I2 I3) (v0 A0 N0 C0 A1 N1 C1 I2 I3) := tz kt [8] fun B ds w K => by kernel_rfl
theorem call : VCl 127 [.tmp 8] #[.slice A0 N0 C0, .slice A1 N1 C1, .int .u64 I2, .int .u64 I3] (v0 A0 N0 C0 A1 N1 C1 I2 I3) := cz Tryz.func127 (by kernel_rfl) Tryz.ntmps127 Tryz.results127 (by kernel_rfl) (t0 A0 N0 C0 A1 N1 C1 I2 I3)
abbrev l1 : List (Nat × Value) := [eS 0 A0 N0 C0,eS 1 A1 N1 C1,eU 2 I2,eU 3 I3]
def v1 : VP := fun B ds w K => Wd 36 p4 [eS 0 A0 N0 C0,eS 1 A1 N1 C1,eU 2 I2,eU 8 I3,eI 18 (N0:Int),eI 19 0] ds w (thenW Tryz.prog 36 p2 K)
theorem t1 : VT 36 p1 (l1 A0 N0 C0 A1 N1 C1 I2 I3) (v1 A0 N0 C0 A1 N1 C1 I2 I3) := tw kt [8] fun B ds w K => by kernel_rfl
abbrev l2 : List (Nat × Value) := [eU 8 I8]
def v2 : VP := fun B ds w K => Kd K .ret [eU 8 I8] ds w
theorem t2 : VT 36 p2 (l2 I8) (v2 I8) := tw kt [8] fun B ds w K => by kernel_rfl
abbrev l3 : List (Nat × Value) := [eS 0 A0 N0 C0,eS 1 A1 N1 C1,eU 2 I2,eU 8 I8,eI 18 I18,eI 19 I19]
def v3 : VP := fun B ds w K => bc (decide (I19 < (I18:Int))) (nc A1 fun b2 o3 => ∃ k1 : Nat,I19 = (k1:Int) ∧ k1 < N1 ∧ ∃ x4,w.cell? ⟨b2,o3 + k1,none⟩ = some (.int .u64 x4) ∧ Cl 158 #[(.int .u64 x4),(.int .u64 I2),(.int .u64 I8)] w fun r5 w6 => ∃ x7,True ∧ ∃ x8,True ∧ r5 = .returned (.tuple #[(.int .u64 x7),(.int .u64 x8)]) ∧ nc A0 fun b10 o11 => ∃ k9 : Nat,I19 = (k9:Int) ∧ k9 < N0 ∧ (∃ u12,w6.cell? ⟨b10,o11 + k9,none⟩ = some u12) ∧ w6.frozen? ⟨b10,o11 + k9,none⟩ = false ∧ inI64 (I19 + 1) ∧ Kd K .normal [eS 0 A0 N0 C0,eS 1 A1 N1 C1,eU 2 I2,eU 8 x7,eI 18 I18,eI 19 (I19 + 1)] ds (w6.setCell ⟨b10,o11 + k9,none⟩ (.int .u64 x8))) (Kd K (.exit 0) [eS 0 A0 N0 C0,eS 1 A1 N1 C1,eU 2 I2,eU 8 I8,eI 18 I18,eI 19 I19] ds w)
theorem t3 : VT 36 p3 (l3 A0 N0 C0 A1 N1 C1 I2 I8 I18 I19) (v3 A0 N0 C0 A1 N1 C1 I2 I8 I18 I19) := tw kt [0,1,2,8,18,19] fun B ds w K => by kernel_rfl
end F127
namespace F162
noncomputable def body : Code := bodyOf Tryz.f162
def kt : List (Nat × List Nat) := [(3,[0,1,2,6]),(4,[0,1,2,6,24,25]),(1000000,[6])]
noncomputable def p1 : Code := sb 2 3 body
noncomputable def p2 : Code := sb 3 7 body
noncomputable def p3 : Code := sb 6 52 body
noncomputable def p4 : Code := sb 4 13 body
theorem q4 : p4 = .block 0 (.loop p3) := by kernel_rfl
variable (A0 : Option Addr) (N0 C0 : Nat) (A1 : Option Addr) (N1 C1 : Nat) (A2 : Option Addr) (N2 C2 : Nat) (I6 I24 I25 : Int)
abbrev l0 : List (Nat × Value) := [eS 0 A0 N0 C0,eS 1 A1 N1 C1,eS 2 A2 N2 C2]
def v0 : VP := fun B ds w K => bc ((N1:Int) != (N0:Int)) False (bc ((N2:Int) != (N0:Int)) False (Wd 47 p1 [eS 0 A0 N0 C0,eS 1 A1 N1 C1,eS 2 A2 N2 C2,eU 6 0] ds w K))
theorem t0 : VZ 47 body (l0 A0 N0 C0 A1 N1 C1 A2 N2 C2) (v0 A0 N0 C0 A1 N1 C1 A2 N2 C2) := tz kt [6] fun B ds w K => by kernel_rfl
theorem call : VCl 162 [.tmp 6] #[.slice A0 N0 C0, .slice A1 N1 C1, .slice A2 N2 C2] (v0 A0 N0 C0 A1 N1 C1 A2 N2 C2) := cz Tryz.func162 (by kernel_rfl) Tryz.ntmps162 Tryz.results162 (by kernel_rfl) (t0 A0 N0 C0 A1 N1 C1 A2 N2 C2)
abbrev l1 : List (Nat × Value) := [eS 0 A0 N0 C0,eS 1 A1 N1 C1,eS 2 A2 N2 C2,eU 6 I6]
def v1 : VP := fun B ds w K => Wd 47 p4 [eS 0 A0 N0 C0,eS 1 A1 N1 C1,eS 2 A2 N2 C2,eU 6 I6,eI 24 (N0:Int),eI 25 0] ds w (thenW Tryz.prog 47 p2 K)
theorem t1 : VT 47 p1 (l1 A0 N0 C0 A1 N1 C1 A2 N2 C2 I6) (v1 A0 N0 C0 A1 N1 C1 A2 N2 C2 I6) := tw kt [6] fun B ds w K => by kernel_rfl
abbrev l2 : List (Nat × Value) := [eU 6 I6]
def v2 : VP := fun B ds w K => Kd K .ret [eU 6 I6] ds w
theorem t2 : VT 47 p2 (l2 I6) (v2 I6) := tw kt [6] fun B ds w K => by kernel_rfl
abbrev l3 : List (Nat × Value) := [eS 0 A0 N0 C0,eS 1 A1 N1 C1,eS 2 A2 N2 C2,eU 6 I6,eI 24 I24,eI 25 I25]
def v3 : VP := fun B ds w K => bc (decide (I25 < (I24:Int))) (nc A1 fun b2 o3 => ∃ k1 : Nat,I25 = (k1:Int) ∧ k1 < N1 ∧ ∃ x4,w.drew.cell? ⟨b2,o3 + k1,none⟩ = some (.int .u64 x4) ∧ nc A2 fun b6 o7 => ∃ k5 : Nat,I25 = (k5:Int) ∧ k5 < N2 ∧ ∃ x8,w.drew.cell? ⟨b6,o7 + k5,none⟩ = some (.int .u64 x8) ∧ Cl 163 #[(.int .u64 x4),(.int .u64 x8),(.int .u64 I6)] w.drew fun r9 w10 => ∃ x11,True ∧ ∃ x12,True ∧ r9 = .returned (.tuple #[(.int .u64 x11),(.int .u64 x12)]) ∧ nc A0 fun b14 o15 => ∃ k13 : Nat,I25 = (k13:Int) ∧ k13 < N0 ∧ (∃ u16,w10.cell? ⟨b14,o15 + k13,none⟩ = some u16) ∧ w10.frozen? ⟨b14,o15 + k13,none⟩ = false ∧ inI64 (I25 + 1) ∧ Kd K .normal [eS 0 A0 N0 C0,eS 1 A1 N1 C1,eS 2 A2 N2 C2,eU 6 x12,eI 24 I24,eI 25 (I25 + 1)] ds (w10.setCell ⟨b14,o15 + k13,none⟩ (.int .u64 x11))) (Kd K (.exit 0) [eS 0 A0 N0 C0,eS 1 A1 N1 C1,eS 2 A2 N2 C2,eU 6 I6,eI 24 I24,eI 25 I25] ds w)
theorem t3 : VT 47 p3 (l3 A0 N0 C0 A1 N1 C1 A2 N2 C2 I6 I24 I25) (v3 A0 N0 C0 A1 N1 C1 A2 N2 C2 I6 I24 I25) := tw kt [0,1,2,6,24,25] fun B ds w K => by kernel_rfl
end F162
namespace F121
noncomputable def body : Code := bodyOf Tryz.f121
def kt : List (Nat × List Nat) := [(3,[0,1,2,6]),(4,[0,1,2,6,24,25]),(1000000,[6])]
noncomputable def p1 : Code := sb 2 3 body
noncomputable def p2 : Code := sb 3 7 body
noncomputable def p3 : Code := sb 6 52 body
noncomputable def p4 : Code := sb 4 13 body
theorem q4 : p4 = .block 0 (.loop p3) := by kernel_rfl
variable (A0 : Option Addr) (N0 C0 : Nat) (A1 : Option Addr) (N1 C1 : Nat) (A2 : Option Addr) (N2 C2 : Nat) (I6 I24 I25 : Int)
abbrev l0 : List (Nat × Value) := [eS 0 A0 N0 C0,eS 1 A1 N1 C1,eS 2 A2 N2 C2]
def v0 : VP := fun B ds w K => bc ((N1:Int) != (N0:Int)) False (bc ((N2:Int) != (N0:Int)) False (Wd 47 p1 [eS 0 A0 N0 C0,eS 1 A1 N1 C1,eS 2 A2 N2 C2,eU 6 0] ds w K))
theorem t0 : VZ 47 body (l0 A0 N0 C0 A1 N1 C1 A2 N2 C2) (v0 A0 N0 C0 A1 N1 C1 A2 N2 C2) := tz kt [6] fun B ds w K => by kernel_rfl
theorem call : VCl 121 [.tmp 6] #[.slice A0 N0 C0, .slice A1 N1 C1, .slice A2 N2 C2] (v0 A0 N0 C0 A1 N1 C1 A2 N2 C2) := cz Tryz.func121 (by kernel_rfl) Tryz.ntmps121 Tryz.results121 (by kernel_rfl) (t0 A0 N0 C0 A1 N1 C1 A2 N2 C2)
abbrev l1 : List (Nat × Value) := [eS 0 A0 N0 C0,eS 1 A1 N1 C1,eS 2 A2 N2 C2,eU 6 I6]
def v1 : VP := fun B ds w K => Wd 47 p4 [eS 0 A0 N0 C0,eS 1 A1 N1 C1,eS 2 A2 N2 C2,eU 6 I6,eI 24 (N0:Int),eI 25 0] ds w (thenW Tryz.prog 47 p2 K)
theorem t1 : VT 47 p1 (l1 A0 N0 C0 A1 N1 C1 A2 N2 C2 I6) (v1 A0 N0 C0 A1 N1 C1 A2 N2 C2 I6) := tw kt [6] fun B ds w K => by kernel_rfl
abbrev l2 : List (Nat × Value) := [eU 6 I6]
def v2 : VP := fun B ds w K => Kd K .ret [eU 6 I6] ds w
theorem t2 : VT 47 p2 (l2 I6) (v2 I6) := tw kt [6] fun B ds w K => by kernel_rfl
abbrev l3 : List (Nat × Value) := [eS 0 A0 N0 C0,eS 1 A1 N1 C1,eS 2 A2 N2 C2,eU 6 I6,eI 24 I24,eI 25 I25]
def v3 : VP := fun B ds w K => bc (decide (I25 < (I24:Int))) (nc A1 fun b2 o3 => ∃ k1 : Nat,I25 = (k1:Int) ∧ k1 < N1 ∧ ∃ x4,w.drew.cell? ⟨b2,o3 + k1,none⟩ = some (.int .u64 x4) ∧ nc A2 fun b6 o7 => ∃ k5 : Nat,I25 = (k5:Int) ∧ k5 < N2 ∧ ∃ x8,w.drew.cell? ⟨b6,o7 + k5,none⟩ = some (.int .u64 x8) ∧ Cl 122 #[(.int .u64 x4),(.int .u64 x8),(.int .u64 I6)] w.drew fun r9 w10 => ∃ x11,True ∧ ∃ x12,True ∧ r9 = .returned (.tuple #[(.int .u64 x11),(.int .u64 x12)]) ∧ nc A0 fun b14 o15 => ∃ k13 : Nat,I25 = (k13:Int) ∧ k13 < N0 ∧ (∃ u16,w10.cell? ⟨b14,o15 + k13,none⟩ = some u16) ∧ w10.frozen? ⟨b14,o15 + k13,none⟩ = false ∧ inI64 (I25 + 1) ∧ Kd K .normal [eS 0 A0 N0 C0,eS 1 A1 N1 C1,eS 2 A2 N2 C2,eU 6 x12,eI 24 I24,eI 25 (I25 + 1)] ds (w10.setCell ⟨b14,o15 + k13,none⟩ (.int .u64 x11))) (Kd K (.exit 0) [eS 0 A0 N0 C0,eS 1 A1 N1 C1,eS 2 A2 N2 C2,eU 6 I6,eI 24 I24,eI 25 I25] ds w)
theorem t3 : VT 47 p3 (l3 A0 N0 C0 A1 N1 C1 A2 N2 C2 I6 I24 I25) (v3 A0 N0 C0 A1 N1 C1 A2 N2 C2 I6 I24 I25) := tw kt [0,1,2,6,24,25] fun B ds w K => by kernel_rfl
end F121
namespace F166
noncomputable def body : Code := bodyOf Tryz.f166
def kt : List (Nat × List Nat) := [(3,[0,1,2,3,4]),(5,[0,1,2,3,10,31,32]),(1000000,[10])]
noncomputable def p1 : Code := sb 2 3 body
noncomputable def p2 : Code := sb 4 15 body
noncomputable def p3 : Code := sb 7 116 body
noncomputable def p4 : Code := sb 5 29 body
theorem q4 : p4 = .block 0 (.loop p3) := by kernel_rfl
variable (A0 : Option Addr) (N0 C0 : Nat) (A1 : Option Addr) (N1 C1 : Nat) (A2 : Option Addr) (N2 C2 : Nat) (I3 I4 I10 I31 I32 : Int)
abbrev l0 : List (Nat × Value) := [eS 0 A0 N0 C0,eS 1 A1 N1 C1,eS 2 A2 N2 C2,eU 3 I3,eU 4 I4]
def v0 : VP := fun B ds w K => bc ((N1:Int) != (N0:Int)) False (bc ((N2:Int) != (N0:Int)) False (Wd 63 p1 [eS 0 A0 N0 C0,eS 1 A1 N1 C1,eS 2 A2 N2 C2,eU 3 I3,eU 4 I4] ds w K))
theorem t0 : VZ 63 body (l0 A0 N0 C0 A1 N1 C1 A2 N2 C2 I3 I4) (v0 A0 N0 C0 A1 N1 C1 A2 N2 C2 I3 I4) := tz kt [10] fun B ds w K => by kernel_rfl
theorem call : VCl 166 [.tmp 10] #[.slice A0 N0 C0, .slice A1 N1 C1, .slice A2 N2 C2, .int .u64 I3, .int .u64 I4] (v0 A0 N0 C0 A1 N1 C1 A2 N2 C2 I3 I4) := cz Tryz.func166 (by kernel_rfl) Tryz.ntmps166 Tryz.results166 (by kernel_rfl) (t0 A0 N0 C0 A1 N1 C1 A2 N2 C2 I3 I4)
abbrev l1 : List (Nat × Value) := [eS 0 A0 N0 C0,eS 1 A1 N1 C1,eS 2 A2 N2 C2,eU 3 I3,eU 4 I4]
def v1 : VP := fun B ds w K => Wd 63 p4 [eS 0 A0 N0 C0,eS 1 A1 N1 C1,eS 2 A2 N2 C2,eU 3 I3,eU 10 I4,eI 31 (N0:Int),eI 32 0] ds w (thenW Tryz.prog 63 p2 K)
theorem t1 : VT 63 p1 (l1 A0 N0 C0 A1 N1 C1 A2 N2 C2 I3 I4) (v1 A0 N0 C0 A1 N1 C1 A2 N2 C2 I3 I4) := tw kt [10] fun B ds w K => by kernel_rfl
abbrev l2 : List (Nat × Value) := [eU 10 I10]
def v2 : VP := fun B ds w K => Kd K .ret [eU 10 I10] ds w
theorem t2 : VT 63 p2 (l2 I10) (v2 I10) := tw kt [10] fun B ds w K => by kernel_rfl
abbrev l3 : List (Nat × Value) := [eS 0 A0 N0 C0,eS 1 A1 N1 C1,eS 2 A2 N2 C2,eU 3 I3,eU 10 I10,eI 31 I31,eI 32 I32]
def v3 : VP := fun B ds w K => bc (decide (I32 < (I31:Int))) (nc A2 fun b2 o3 => ∃ k1 : Nat,I32 = (k1:Int) ∧ k1 < N2 ∧ ∃ x4,w.drew.cell? ⟨b2,o3 + k1,none⟩ = some (.int .u64 x4) ∧ nc A1 fun b6 o7 => ∃ k5 : Nat,I32 = (k5:Int) ∧ k5 < N1 ∧ ∃ x8,w.drew.cell? ⟨b6,o7 + k5,none⟩ = some (.int .u64 x8) ∧ Cl 158 #[(.int .u64 x4),(.int .u64 I3),(.int .u64 x8)] w.drew fun r9 w10 => ∃ x11,True ∧ ∃ x12,True ∧ r9 = .returned (.tuple #[(.int .u64 x11),(.int .u64 x12)]) ∧ Cl 163 #[(.int .u64 x12),(.int .u64 I10),(.int .u64 0)] w10 fun r13 w14 => ∃ x15,True ∧ ∃ x16,True ∧ r13 = .returned (.tuple #[(.int .u64 x15),(.int .u64 x16)]) ∧ nc A0 fun b18 o19 => ∃ k17 : Nat,I32 = (k17:Int) ∧ k17 < N0 ∧ (∃ u20,w14.cell? ⟨b18,o19 + k17,none⟩ = some u20) ∧ w14.frozen? ⟨b18,o19 + k17,none⟩ = false ∧ inI64 (I32 + 1) ∧ Kd K .normal [eS 0 A0 N0 C0,eS 1 A1 N1 C1,eS 2 A2 N2 C2,eU 3 I3,eU 10 (IntKind.wrap .u64 (x16 + x11)),eI 31 I31,eI 32 (I32 + 1)] ds (w14.setCell ⟨b18,o19 + k17,none⟩ (.int .u64 x15))) (Kd K (.exit 0) [eS 0 A0 N0 C0,eS 1 A1 N1 C1,eS 2 A2 N2 C2,eU 3 I3,eU 10 I10,eI 31 I31,eI 32 I32] ds w)
theorem t3 : VT 63 p3 (l3 A0 N0 C0 A1 N1 C1 A2 N2 C2 I3 I10 I31 I32) (v3 A0 N0 C0 A1 N1 C1 A2 N2 C2 I3 I10 I31 I32) := tw kt [0,1,2,3,10,31,32] fun B ds w K => by kernel_rfl
end F166
namespace F165
noncomputable def body : Code := bodyOf Tryz.f165
def kt : List (Nat × List Nat) := [(3,[0,1,2,6]),(11,[0,1,2,6,7,8]),(14,[0,1,2,6])]
noncomputable def p1 : Code := sb 2 3 body
noncomputable def p2 : Code := sb 9 511 body
noncomputable def p3 : Code := sb 12 4084 body
noncomputable def p4 : Code := sb 10 1021 body
theorem q4 : p4 = .block 0 (.loop p3) := by kernel_rfl
variable (A0 : Option Addr) (N0 C0 : Nat) (A1 : Option Addr) (N1 C1 : Nat) (I2 I6 I7 I8 : Int)
abbrev l0 : List (Nat × Value) := [eS 0 A0 N0 C0,eS 1 A1 N1 C1,eU 2 I2]
def v0 : VP := fun B ds w K => bc ((N1:Int) != (N0:Int)) False (Wd 68 p1 [eS 0 A0 N0 C0,eS 1 A1 N1 C1,eU 2 I2,eU 6 0] ds w K)
theorem t0 : VZ 68 body (l0 A0 N0 C0 A1 N1 C1 I2) (v0 A0 N0 C0 A1 N1 C1 I2) := tz kt [6] fun B ds w K => by kernel_rfl
theorem call : VCl 165 [.tmp 6] #[.slice A0 N0 C0, .slice A1 N1 C1, .int .u64 I2] (v0 A0 N0 C0 A1 N1 C1 I2) := cz Tryz.func165 (by kernel_rfl) Tryz.ntmps165 Tryz.results165 (by kernel_rfl) (t0 A0 N0 C0 A1 N1 C1 I2)
abbrev l1 : List (Nat × Value) := [eS 0 A0 N0 C0,eS 1 A1 N1 C1,eU 2 I2,eU 6 I6]
def v1 : VP := fun B ds w K => bc (I2 == 0) (∃ w1,∃ x2,Sem.run Tryz.prog (builtin .copy #[44,44] 3 #[false,false] #[(.slice A0 N0 C0),(.slice A1 N1 C1)]) w = .ok (.value (.int .i64 x2)) w1 ∧ Kd K .ret [eU 6 I6] ds w1) (bc ((N0:Int) == 0) (Kd K .ret [eU 6 I6] ds w) (inI64 ((N0:Int) - 1) ∧ nc A1 fun b6 o7 => ∃ k5 : Nat,((N0:Int) - 1) = (k5:Int) ∧ k5 < N1 ∧ ∃ x8,w.cell? ⟨b6,o7 + k5,none⟩ = some (.int .u64 x8) ∧ (0:Int) ≤ (iAnd .u64 (IntKind.wrap .u64 (64 - (iAnd .u64 I2 63))) 63) ∧ inI64 ((N0:Int) - 1) ∧ Wd 68 p4 [eS 0 A0 N0 C0,eS 1 A1 N1 C1,eU 2 (iAnd .u64 I2 63),eU 6 (iShr .u64 x8 (iAnd .u64 (IntKind.wrap .u64 (64 - (iAnd .u64 I2 63))) 63)),eU 7 (iAnd .u64 (IntKind.wrap .u64 (64 - (iAnd .u64 I2 63))) 63),eI 8 ((N0:Int) - 1)] ds w (thenW Tryz.prog 68 p2 K)))
theorem t1 : VT 68 p1 (l1 A0 N0 C0 A1 N1 C1 I2 I6) (v1 A0 N0 C0 A1 N1 C1 I2 I6) := tw kt [6] fun B ds w K => by kernel_rfl
abbrev l2 : List (Nat × Value) := [eS 0 A0 N0 C0,eS 1 A1 N1 C1,eU 2 I2,eU 6 I6]
def v2 : VP := fun B ds w K => nc A1 fun b2 o3 => ∃ k1 : Nat,0 = (k1:Int) ∧ k1 < N1 ∧ ∃ x4,w.cell? ⟨b2,o3 + k1,none⟩ = some (.int .u64 x4) ∧ (0:Int) ≤ I2 ∧ nc A0 fun b6 o7 => ∃ k5 : Nat,0 = (k5:Int) ∧ k5 < N0 ∧ (∃ u8,w.cell? ⟨b6,o7 + k5,none⟩ = some u8) ∧ w.frozen? ⟨b6,o7 + k5,none⟩ = false ∧ Kd K .ret [eU 6 I6] ds (w.setCell ⟨b6,o7 + k5,none⟩ (.int .u64 (iShl .u64 x4 I2)))
theorem t2 : VT 68 p2 (l2 A0 N0 C0 A1 N1 C1 I2 I6) (v2 A0 N0 A1 N1 I2 I6) := tw kt [6] fun B ds w K => by kernel_rfl
abbrev l3 : List (Nat × Value) := [eS 0 A0 N0 C0,eS 1 A1 N1 C1,eU 2 I2,eU 6 I6,eU 7 I7,eI 8 I8]
def v3 : VP := fun B ds w K => bc (decide (I8 > (0:Int))) (nc A1 fun b2 o3 => ∃ k1 : Nat,I8 = (k1:Int) ∧ k1 < N1 ∧ ∃ x4,w.drew.cell? ⟨b2,o3 + k1,none⟩ = some (.int .u64 x4) ∧ (0:Int) ≤ I2 ∧ inI64 (I8 - 1) ∧ nc A1 fun b6 o7 => ∃ k5 : Nat,(I8 - 1) = (k5:Int) ∧ k5 < N1 ∧ ∃ x8,w.drew.cell? ⟨b6,o7 + k5,none⟩ = some (.int .u64 x8) ∧ (0:Int) ≤ I7 ∧ nc A0 fun b10 o11 => ∃ k9 : Nat,I8 = (k9:Int) ∧ k9 < N0 ∧ (∃ u12,w.drew.cell? ⟨b10,o11 + k9,none⟩ = some u12) ∧ w.drew.frozen? ⟨b10,o11 + k9,none⟩ = false ∧ inI64 (I8 - 1) ∧ Kd K .normal [eS 0 A0 N0 C0,eS 1 A1 N1 C1,eU 2 I2,eU 6 I6,eU 7 I7,eI 8 (I8 - 1)] ds (w.drew.setCell ⟨b10,o11 + k9,none⟩ (.int .u64 (iOr .u64 (iShl .u64 x4 I2) (iShr .u64 x8 I7))))) (Kd K (.exit 0) [eS 0 A0 N0 C0,eS 1 A1 N1 C1,eU 2 I2,eU 6 I6,eU 7 I7,eI 8 I8] ds w)
theorem t3 : VT 68 p3 (l3 A0 N0 C0 A1 N1 C1 I2 I6 I7 I8) (v3 A0 N0 C0 A1 N1 C1 I2 I6 I7 I8) := tw kt [0,1,2,6,7,8] fun B ds w K => by kernel_rfl
end F165
namespace F167
noncomputable def body : Code := bodyOf Tryz.f167
def kt : List (Nat × List Nat) := [(3,[0,1,2,6]),(11,[0,1,2,6,7,8]),(14,[0,1,2,6])]
noncomputable def p1 : Code := sb 2 3 body
noncomputable def p2 : Code := sb 9 511 body
noncomputable def p3 : Code := sb 12 4084 body
noncomputable def p4 : Code := sb 10 1021 body
theorem q4 : p4 = .block 0 (.loop p3) := by kernel_rfl
variable (A0 : Option Addr) (N0 C0 : Nat) (A1 : Option Addr) (N1 C1 : Nat) (I2 I6 I7 I8 : Int)
abbrev l0 : List (Nat × Value) := [eS 0 A0 N0 C0,eS 1 A1 N1 C1,eU 2 I2]
def v0 : VP := fun B ds w K => bc ((N1:Int) != (N0:Int)) False (Wd 71 p1 [eS 0 A0 N0 C0,eS 1 A1 N1 C1,eU 2 I2,eU 6 0] ds w K)
theorem t0 : VZ 71 body (l0 A0 N0 C0 A1 N1 C1 I2) (v0 A0 N0 C0 A1 N1 C1 I2) := tz kt [6] fun B ds w K => by kernel_rfl
theorem call : VCl 167 [.tmp 6] #[.slice A0 N0 C0, .slice A1 N1 C1, .int .u64 I2] (v0 A0 N0 C0 A1 N1 C1 I2) := cz Tryz.func167 (by kernel_rfl) Tryz.ntmps167 Tryz.results167 (by kernel_rfl) (t0 A0 N0 C0 A1 N1 C1 I2)
abbrev l1 : List (Nat × Value) := [eS 0 A0 N0 C0,eS 1 A1 N1 C1,eU 2 I2,eU 6 I6]
def v1 : VP := fun B ds w K => bc (I2 == 0) (∃ w1,∃ x2,Sem.run Tryz.prog (builtin .copy #[44,44] 3 #[false,false] #[(.slice A0 N0 C0),(.slice A1 N1 C1)]) w = .ok (.value (.int .i64 x2)) w1 ∧ Kd K .ret [eU 6 I6] ds w1) (bc ((N0:Int) == 0) (Kd K .ret [eU 6 I6] ds w) (nc A1 fun b6 o7 => ∃ k5 : Nat,0 = (k5:Int) ∧ k5 < N1 ∧ ∃ x8,w.cell? ⟨b6,o7 + k5,none⟩ = some (.int .u64 x8) ∧ (0:Int) ≤ (iAnd .u64 (IntKind.wrap .u64 (64 - (iAnd .u64 I2 63))) 63) ∧ Wd 71 p4 [eS 0 A0 N0 C0,eS 1 A1 N1 C1,eU 2 (iAnd .u64 I2 63),eU 6 (iShl .u64 x8 (iAnd .u64 (IntKind.wrap .u64 (64 - (iAnd .u64 I2 63))) 63)),eU 7 (iAnd .u64 (IntKind.wrap .u64 (64 - (iAnd .u64 I2 63))) 63),eI 8 1] ds w (thenW Tryz.prog 71 p2 K)))
theorem t1 : VT 71 p1 (l1 A0 N0 C0 A1 N1 C1 I2 I6) (v1 A0 N0 C0 A1 N1 C1 I2 I6) := tw kt [6] fun B ds w K => by kernel_rfl
abbrev l2 : List (Nat × Value) := [eS 0 A0 N0 C0,eS 1 A1 N1 C1,eU 2 I2,eU 6 I6]
def v2 : VP := fun B ds w K => inI64 ((N0:Int) - 1) ∧ inI64 ((N0:Int) - 1) ∧ nc A1 fun b2 o3 => ∃ k1 : Nat,((N0:Int) - 1) = (k1:Int) ∧ k1 < N1 ∧ ∃ x4,w.cell? ⟨b2,o3 + k1,none⟩ = some (.int .u64 x4) ∧ (0:Int) ≤ I2 ∧ nc A0 fun b6 o7 => ∃ k5 : Nat,((N0:Int) - 1) = (k5:Int) ∧ k5 < N0 ∧ (∃ u8,w.cell? ⟨b6,o7 + k5,none⟩ = some u8) ∧ w.frozen? ⟨b6,o7 + k5,none⟩ = false ∧ Kd K .ret [eU 6 I6] ds (w.setCell ⟨b6,o7 + k5,none⟩ (.int .u64 (iShr .u64 x4 I2)))
theorem t2 : VT 71 p2 (l2 A0 N0 C0 A1 N1 C1 I2 I6) (v2 A0 N0 A1 N1 I2 I6) := tw kt [6] fun B ds w K => by kernel_rfl
abbrev l3 : List (Nat × Value) := [eS 0 A0 N0 C0,eS 1 A1 N1 C1,eU 2 I2,eU 6 I6,eU 7 I7,eI 8 I8]
def v3 : VP := fun B ds w K => bc (decide (I8 < (N0:Int))) (inI64 (I8 - 1) ∧ inI64 (I8 - 1) ∧ nc A1 fun b2 o3 => ∃ k1 : Nat,(I8 - 1) = (k1:Int) ∧ k1 < N1 ∧ ∃ x4,w.drew.cell? ⟨b2,o3 + k1,none⟩ = some (.int .u64 x4) ∧ (0:Int) ≤ I2 ∧ nc A1 fun b6 o7 => ∃ k5 : Nat,I8 = (k5:Int) ∧ k5 < N1 ∧ ∃ x8,w.drew.cell? ⟨b6,o7 + k5,none⟩ = some (.int .u64 x8) ∧ (0:Int) ≤ I7 ∧ nc A0 fun b10 o11 => ∃ k9 : Nat,(I8 - 1) = (k9:Int) ∧ k9 < N0 ∧ (∃ u12,w.drew.cell? ⟨b10,o11 + k9,none⟩ = some u12) ∧ w.drew.frozen? ⟨b10,o11 + k9,none⟩ = false ∧ inI64 (I8 + 1) ∧ Kd K .normal [eS 0 A0 N0 C0,eS 1 A1 N1 C1,eU 2 I2,eU 6 I6,eU 7 I7,eI 8 (I8 + 1)] ds (w.drew.setCell ⟨b10,o11 + k9,none⟩ (.int .u64 (iOr .u64 (iShr .u64 x4 I2) (iShl .u64 x8 I7))))) (Kd K (.exit 0) [eS 0 A0 N0 C0,eS 1 A1 N1 C1,eU 2 I2,eU 6 I6,eU 7 I7,eI 8 I8] ds w)
theorem t3 : VT 71 p3 (l3 A0 N0 C0 A1 N1 C1 I2 I6 I7 I8) (v3 A0 N0 C0 A1 N1 C1 I2 I6 I7 I8) := tw kt [0,1,2,6,7,8] fun B ds w K => by kernel_rfl
end F167
end Go.Proofs.YtlkjiiibmfpbcaaGreatDoor
