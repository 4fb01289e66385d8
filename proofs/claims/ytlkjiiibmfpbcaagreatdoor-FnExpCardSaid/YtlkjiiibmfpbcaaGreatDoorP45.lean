/- Verification conditions, printed by wip/gen/gen.py and shrink.py; each is held against vc by the kernel. No condition. -/
import Derived.Test.YtlkjiiibmfpbcaaGreatDoorP05
namespace Go.Proofs.YtlkjiiibmfpbcaaGreatDoor
open Go
set_option maxRecDepth 100000
set_option linter.unusedVariables false
namespace F7
noncomputable def body : Code := bodyOf Tryz.f7
def kt : List (Nat × List Nat) := []
variable (A0 : Option Addr) (N0 C0 : Nat)
abbrev l0 : List (Nat × Value) := [eS 0 A0 N0 C0]
def v0 : VP := fun B ds w K => Cl 15 #[(.slice A0 N0 C0)] w fun r1 w2 => ∃ x3,r1 = .returned (.int .i64 x3) ∧ Kd K .ret [eI 2 x3] ds w2
theorem t0 : VZ 5 body (l0 A0 N0 C0) (v0 A0 N0 C0) := tz kt [2] fun B ds w K => by kernel_rfl
theorem call : VCl 7 [.tmp 2] #[.slice A0 N0 C0] (v0 A0 N0 C0) := cz Tryz.func7 (by kernel_rfl) Tryz.ntmps7 Tryz.results7 (by kernel_rfl) (t0 A0 N0 C0)
end F7
namespace F8
noncomputable def body : Code := bodyOf Tryz.f8
def kt : List (Nat × List Nat) := [(3,[3,8,9,10]),(4,[3,8,9,10]),(6,[3,5,6,8,9,10]),(9,[3,8,9,10]),(10,[3])]
noncomputable def p1 : Code := sb 3 7 body
noncomputable def p2 : Code := sb 6 52 body
noncomputable def p3 : Code := sb 4 13 body
noncomputable def p4 : Code := sb 9 423 body
noncomputable def p5 : Code := sb 10 844 body
noncomputable def p6 : Code := sb 9 422 body
noncomputable def p7 : Code := sb 14 13516 body
noncomputable def p8 : Code := sb 12 3379 body
theorem q3 : p3 = .block 0 (.loop p2) := by kernel_rfl
theorem q6 : p6 = .block 1 p5 := by kernel_rfl
theorem q8 : p8 = .block 2 (.loop p7) := by kernel_rfl
variable (A0 A3 : Option Addr) (N0 N3 C0 C3 : Nat) (I5 I6 : Int) (A8 : Option Addr) (N8 C8 : Nat) (I9 I10 : Int)
abbrev l0 : List (Nat × Value) := [eS 0 A0 N0 C0]
def v0 : VP := fun B ds w K => ∃ w1,∃ x2a,∃ x2l,∃ x2c,Sem.run Tryz.prog (Instr.buildSlice 26 0 #[]) w = .ok (.slice x2a x2l x2c) w1 ∧ Wd 30 p3 [eS 3 x2a x2l x2c,eS 8 A0 N0 C0,eI 9 (N0:Int),eI 10 0] ds w1 (thenW Tryz.prog 30 p1 K)
theorem t0 : VZ 30 body (l0 A0 N0 C0) (v0 A0 N0 C0) := tz kt [2] fun B ds w K => by kernel_rfl
theorem call : VCl 8 [.tmp 2] #[.slice A0 N0 C0] (v0 A0 N0 C0) := cz Tryz.func8 (by kernel_rfl) Tryz.ntmps8 Tryz.results8 (by kernel_rfl) (t0 A0 N0 C0)
abbrev l1 : List (Nat × Value) := [eS 3 A3 N3 C3]
def v1 : VP := fun B ds w K => Cl 16 #[(.slice A3 N3 C3)] w fun r1 w2 => ∃ x3a,∃ x3l,∃ x3c,r1 = .returned (.slice x3a x3l x3c) ∧ Kd K .ret [eS 2 x3a x3l x3c] ds w2
theorem t1 : VT 30 p1 (l1 A3 N3 C3) (v1 A3 N3 C3) := tw kt [2] fun B ds w K => by kernel_rfl
abbrev l2 : List (Nat × Value) := [eS 3 A3 N3 C3,eS 8 A8 N8 C8,eI 9 I9,eI 10 I10]
def v2 : VP := fun B ds w K => bc (decide (I10 < (I9:Int))) (Wd 30 p6 [eS 3 A3 N3 C3,eS 8 A8 N8 C8,eI 9 I9,eI 10 I10] ds w (thenW Tryz.prog 30 p4 K)) (Kd K (.exit 0) [eS 3 A3 N3 C3,eS 8 A8 N8 C8,eI 9 I9,eI 10 I10] ds w)
theorem t2 : VT 30 p2 (l2 A3 N3 C3 A8 N8 C8 I9 I10) (v2 A3 N3 C3 A8 N8 C8 I9 I10) := tw kt [3,8,9,10] fun B ds w K => by kernel_rfl
abbrev l4 : List (Nat × Value) := [eS 3 A3 N3 C3,eS 8 A8 N8 C8,eI 9 I9,eI 10 I10]
def v4 : VP := fun B ds w K => inI64 (I10 + 1) ∧ Kd K .normal [eS 3 A3 N3 C3,eS 8 A8 N8 C8,eI 9 I9,eI 10 (I10 + 1)] ds w
theorem t4 : VT 30 p4 (l4 A3 N3 C3 A8 N8 C8 I9 I10) (v4 A3 N3 C3 A8 N8 C8 I9 I10) := tw kt [3,8,9,10] fun B ds w K => by kernel_rfl
abbrev l5 : List (Nat × Value) := [eS 3 A3 N3 C3,eS 8 A8 N8 C8,eI 9 I9,eI 10 I10]
def v5 : VP := fun B ds w K => nc A8 fun b2 o3 => ∃ k1 : Nat,I10 = (k1:Int) ∧ k1 < N8 ∧ ∃ x4,w.cell? ⟨b2,o3 + k1,none⟩ = some (.int .u64 x4) ∧ Wd 30 p8 [eS 3 A3 N3 C3,eU 5 x4,eI 6 0,eS 8 A8 N8 C8,eI 9 I9,eI 10 I10] ds w K
theorem t5 : VT 30 p5 (l5 A3 N3 C3 A8 N8 C8 I9 I10) (v5 A3 N3 C3 A8 N8 C8 I9 I10) := tw kt [3,8,9,10] fun B ds w K => by kernel_rfl
abbrev l7 : List (Nat × Value) := [eS 3 A3 N3 C3,eU 5 I5,eI 6 I6,eS 8 A8 N8 C8,eI 9 I9,eI 10 I10]
def v7 : VP := fun B ds w K => bc (decide (I6 < (4:Int))) (inI64 (16 * I6) ∧ (0:Int) ≤ (16 * I6) ∧ ∃ w1,∃ x2a,∃ x2l,∃ x2c,Sem.run Tryz.prog (Instr.buildSlice 26 1 #[(0,(.int .i64 (IntKind.wrap .i64 (iAnd .u64 (iShr .u64 I5 (16 * I6)) 65535))))]) w = .ok (.slice x2a x2l x2c) w1 ∧ ∃ w3,∃ x4a,∃ x4l,∃ x4c,Sem.run Tryz.prog (builtin .append #[26,26] 26 #[false,false] #[(.slice A3 N3 C3),(.slice x2a x2l x2c)]) w1 = .ok (.value (.slice x4a x4l x4c)) w3 ∧ inI64 (I6 + 1) ∧ Kd K .normal [eS 3 x4a x4l x4c,eU 5 I5,eI 6 (I6 + 1),eS 8 A8 N8 C8,eI 9 I9,eI 10 I10] ds w3) (Kd K (.exit 2) [eS 3 A3 N3 C3,eU 5 I5,eI 6 I6,eS 8 A8 N8 C8,eI 9 I9,eI 10 I10] ds w)
theorem t7 : VT 30 p7 (l7 A3 N3 C3 I5 I6 A8 N8 C8 I9 I10) (v7 A3 N3 C3 I5 I6 A8 N8 C8 I9 I10) := tw kt [3,5,6,8,9,10] fun B ds w K => by kernel_rfl
end F8
namespace F11
noncomputable def body : Code := bodyOf Tryz.f11
def kt : List (Nat × List Nat) := [(3,[0,1,2,8,9]),(4,[0,1,2,8,9]),(8,[8])]
noncomputable def p1 : Code := sb 3 7 body
noncomputable def p2 : Code := sb 6 52 body
noncomputable def p3 : Code := sb 4 13 body
noncomputable def p4 : Code := sb 8 211 body
theorem q3 : p3 = .block 0 (.loop p2) := by kernel_rfl
variable (A0 : Option Addr) (N0 C0 : Nat) (A1 : Option Addr) (N1 C1 : Nat) (A2 : Option Addr) (N2 C2 : Nat) (A8 : Option Addr) (N8 C8 : Nat) (I9 : Int)
abbrev l0 : List (Nat × Value) := [eS 0 A0 N0 C0,eS 1 A1 N1 C1,eS 2 A2 N2 C2]
def v0 : VP := fun B ds w K => Cl 23 #[(.int .i64 1)] w fun r1 w2 => ∃ x3a,∃ x3l,∃ x3c,r1 = .returned (.slice x3a x3l x3c) ∧ Cl 22 #[(.slice x3a x3l x3c),(.slice A2 N2 C2)] w2 fun r4 w5 => ∃ x6a,∃ x6l,∃ x6c,True ∧ ∃ x7a,∃ x7l,∃ x7c,True ∧ r4 = .returned (.tuple #[(.slice x6a x6l x6c),(.slice x7a x7l x7c)]) ∧ Cl 15 #[(.slice A1 N1 C1)] w5 fun r8 w9 => ∃ x10,r8 = .returned (.int .i64 x10) ∧ inI64 (x10 - 1) ∧ Wd 43 p3 [eS 0 A0 N0 C0,eS 1 A1 N1 C1,eS 2 A2 N2 C2,eS 8 x7a x7l x7c,eI 9 (x10 - 1)] ds w9 (thenW Tryz.prog 43 p1 K)
theorem t0 : VZ 43 body (l0 A0 N0 C0 A1 N1 C1 A2 N2 C2) (v0 A0 N0 C0 A1 N1 C1 A2 N2 C2) := tz kt [6] fun B ds w K => by kernel_rfl
theorem call : VCl 11 [.tmp 6] #[.slice A0 N0 C0, .slice A1 N1 C1, .slice A2 N2 C2] (v0 A0 N0 C0 A1 N1 C1 A2 N2 C2) := cz Tryz.func11 (by kernel_rfl) Tryz.ntmps11 Tryz.results11 (by kernel_rfl) (t0 A0 N0 C0 A1 N1 C1 A2 N2 C2)
abbrev l1 : List (Nat × Value) := [eS 8 A8 N8 C8]
def v1 : VP := fun B ds w K => Kd K .ret [eS 6 A8 N8 C8] ds w
theorem t1 : VT 43 p1 (l1 A8 N8 C8) (v1 A8 N8 C8) := tw kt [6] fun B ds w K => by kernel_rfl
abbrev l2 : List (Nat × Value) := [eS 0 A0 N0 C0,eS 1 A1 N1 C1,eS 2 A2 N2 C2,eS 8 A8 N8 C8,eI 9 I9]
def v2 : VP := fun B ds w K => bc (decide (I9 ≥ (0:Int))) (Cl 24 #[(.slice A8 N8 C8),(.slice A8 N8 C8)] w fun r1 w2 => ∃ x3a,∃ x3l,∃ x3c,r1 = .returned (.slice x3a x3l x3c) ∧ Cl 22 #[(.slice x3a x3l x3c),(.slice A2 N2 C2)] w2 fun r4 w5 => ∃ x6a,∃ x6l,∃ x6c,True ∧ ∃ x7a,∃ x7l,∃ x7c,True ∧ r4 = .returned (.tuple #[(.slice x6a x6l x6c),(.slice x7a x7l x7c)]) ∧ Cl 25 #[(.slice A1 N1 C1),(.int .i64 I9)] w5 fun r8 w9 => ∃ x10,r8 = .returned (.bool x10) ∧ bc x10 (Cl 24 #[(.slice x7a x7l x7c),(.slice A0 N0 C0)] w9 fun r11 w12 => ∃ x13a,∃ x13l,∃ x13c,r11 = .returned (.slice x13a x13l x13c) ∧ Cl 22 #[(.slice x13a x13l x13c),(.slice A2 N2 C2)] w12 fun r14 w15 => ∃ x16a,∃ x16l,∃ x16c,True ∧ ∃ x17a,∃ x17l,∃ x17c,True ∧ r14 = .returned (.tuple #[(.slice x16a x16l x16c),(.slice x17a x17l x17c)]) ∧ Wd 43 p4 [eS 0 A0 N0 C0,eS 1 A1 N1 C1,eS 2 A2 N2 C2,eS 8 x17a x17l x17c,eI 9 I9] ds w15 K) (Wd 43 p4 [eS 0 A0 N0 C0,eS 1 A1 N1 C1,eS 2 A2 N2 C2,eS 8 x7a x7l x7c,eI 9 I9] ds w9 K)) (Kd K (.exit 0) [eS 0 A0 N0 C0,eS 1 A1 N1 C1,eS 2 A2 N2 C2,eS 8 A8 N8 C8,eI 9 I9] ds w)
theorem t2 : VT 43 p2 (l2 A0 N0 C0 A1 N1 C1 A2 N2 C2 A8 N8 C8 I9) (v2 A0 N0 C0 A1 N1 C1 A2 N2 C2 A8 N8 C8 I9) := tw kt [0,1,2,8,9] fun B ds w K => by kernel_rfl
abbrev l4 : List (Nat × Value) := [eS 0 A0 N0 C0,eS 1 A1 N1 C1,eS 2 A2 N2 C2,eS 8 A8 N8 C8,eI 9 I9]
def v4 : VP := fun B ds w K => inI64 (I9 - 1) ∧ Kd K .normal [eS 0 A0 N0 C0,eS 1 A1 N1 C1,eS 2 A2 N2 C2,eS 8 A8 N8 C8,eI 9 (I9 - 1)] ds w
theorem t4 : VT 43 p4 (l4 A0 N0 C0 A1 N1 C1 A2 N2 C2 A8 N8 C8 I9) (v4 A0 N0 C0 A1 N1 C1 A2 N2 C2 A8 N8 C8 I9) := tw kt [0,1,2,8,9] fun B ds w K => by kernel_rfl
end F11
namespace F15
noncomputable def body : Code := bodyOf Tryz.f15
def kt : List (Nat × List Nat) := [(5,[3,4]),(8,[3])]
noncomputable def p1 : Code := sb 4 15 body
noncomputable def p2 : Code := sb 7 116 body
noncomputable def p3 : Code := sb 5 29 body
theorem q3 : p3 = .block 0 (.loop p2) := by kernel_rfl
variable (A0 : Option Addr) (I3 : Int) (N0 : Nat) (I4 : Int) (C0 : Nat)
abbrev l0 : List (Nat × Value) := [eS 0 A0 N0 C0]
def v0 : VP := fun B ds w K => bc ((N0:Int) == 0) (Kd K .ret [eI 2 0] ds w) (inI64 ((N0:Int) - 1) ∧ inI64 (16 * ((N0:Int) - 1)) ∧ inI64 ((N0:Int) - 1) ∧ nc A0 fun b3 o4 => ∃ k2 : Nat,((N0:Int) - 1) = (k2:Int) ∧ k2 < N0 ∧ ∃ x5,w.cell? ⟨b3,o4 + k2,none⟩ = some (.int .i64 x5) ∧ Wd 25 p3 [eI 3 (16 * ((N0:Int) - 1)),eI 4 x5] ds w (thenW Tryz.prog 25 p1 K))
theorem t0 : VZ 25 body (l0 A0 N0 C0) (v0 A0 N0) := tz kt [2] fun B ds w K => by kernel_rfl
theorem call : VCl 15 [.tmp 2] #[.slice A0 N0 C0] (v0 A0 N0) := cz Tryz.func15 (by kernel_rfl) Tryz.ntmps15 Tryz.results15 (by kernel_rfl) (t0 A0 N0 C0)
abbrev l1 : List (Nat × Value) := [eI 3 I3]
def v1 : VP := fun B ds w K => Kd K .ret [eI 2 I3] ds w
theorem t1 : VT 25 p1 (l1 I3) (v1 I3) := tw kt [2] fun B ds w K => by kernel_rfl
abbrev l2 : List (Nat × Value) := [eI 3 I3,eI 4 I4]
def v2 : VP := fun B ds w K => bc (decide (I4 > (0:Int))) (inI64 (I3 + 1) ∧ 2 ≠ (0:Int) ∧ Kd K .normal [eI 3 (I3 + 1),eI 4 (iQuo .i64 I4 2)] ds w) (Kd K (.exit 0) [eI 3 I3,eI 4 I4] ds w)
theorem t2 : VT 25 p2 (l2 I3 I4) (v2 I3 I4) := tw kt [3,4] fun B ds w K => by kernel_rfl
end F15
namespace F16
noncomputable def body : Code := bodyOf Tryz.f16
def kt : List (Nat × List Nat) := [(1,[0]),(3,[0])]
noncomputable def p1 : Code := sb 2 3 body
noncomputable def p2 : Code := sb 4 8 body
noncomputable def p3 : Code := sb 2 2 body
theorem q3 : p3 = .block 0 (.loop p2) := by kernel_rfl
variable (A0 : Option Addr) (N0 C0 : Nat)
abbrev l0 : List (Nat × Value) := [eS 0 A0 N0 C0]
def v0 : VP := fun B ds w K => Wd 21 p3 [eS 0 A0 N0 C0] ds w (thenW Tryz.prog 21 p1 K)
theorem t0 : VZ 21 body (l0 A0 N0 C0) (v0 A0 N0 C0) := tz kt [2] fun B ds w K => by kernel_rfl
theorem call : VCl 16 [.tmp 2] #[.slice A0 N0 C0] (v0 A0 N0 C0) := cz Tryz.func16 (by kernel_rfl) Tryz.ntmps16 Tryz.results16 (by kernel_rfl) (t0 A0 N0 C0)
abbrev l1 : List (Nat × Value) := [eS 0 A0 N0 C0]
def v1 : VP := fun B ds w K => Kd K .ret [eS 2 A0 N0 C0] ds w
theorem t1 : VT 21 p1 (l1 A0 N0 C0) (v1 A0 N0 C0) := tw kt [2] fun B ds w K => by kernel_rfl
abbrev l2 : List (Nat × Value) := [eS 0 A0 N0 C0]
def v2 : VP := fun B ds w K => bc (decide ((N0:Int) > (0:Int))) (inI64 ((N0:Int) - 1) ∧ nc A0 fun b2 o3 => ∃ k1 : Nat,((N0:Int) - 1) = (k1:Int) ∧ k1 < N0 ∧ ∃ x4,w.cell? ⟨b2,o3 + k1,none⟩ = some (.int .i64 x4) ∧ bc (x4 == 0) (inI64 ((N0:Int) - 1) ∧ ∃ h6 : Nat,((N0:Int) - 1) = (h6:Int) ∧ h6 ≤ C0 ∧ Kd K .normal [eS 0 A0 h6 C0] ds w) (Kd K (.exit 0) [eS 0 A0 N0 C0] ds w)) (Kd K (.exit 0) [eS 0 A0 N0 C0] ds w)
theorem t2 : VT 21 p2 (l2 A0 N0 C0) (v2 A0 N0 C0) := tw kt [0] fun B ds w K => by kernel_rfl
end F16
namespace F21
noncomputable def body : Code := bodyOf Tryz.f21
def kt : List (Nat × List Nat) := [(5,[0,5,15,16]),(10,[])]
noncomputable def p1 : Code := sb 4 15 body
noncomputable def p2 : Code := sb 7 116 body
noncomputable def p3 : Code := sb 5 29 body
theorem q3 : p3 = .block 0 (.loop p2) := by kernel_rfl
variable (A0 : Option Addr) (N0 C0 : Nat) (A1 A5 : Option Addr) (N1 N5 C1 C5 : Nat) (I15 I16 : Int)
abbrev l0 : List (Nat × Value) := [eS 0 A0 N0 C0,eS 1 A1 N1 C1]
def v0 : VP := fun B ds w K => Cl 34 #[(.slice A1 N1 C1)] w fun r1 w2 => ∃ x3a,∃ x3l,∃ x3c,r1 = .returned (.slice x3a x3l x3c) ∧ bc ((N0:Int) != (x3l:Int)) (Kd K .ret [eB 4 false] ds w2) (Wd 29 p3 [eS 0 A0 N0 C0,eS 5 x3a x3l x3c,eI 15 (x3l:Int),eI 16 0] ds w2 (thenW Tryz.prog 29 p1 K))
theorem t0 : VZ 29 body (l0 A0 N0 C0 A1 N1 C1) (v0 A0 N0 C0 A1 N1 C1) := tz kt [4] fun B ds w K => by kernel_rfl
theorem call : VCl 21 [.tmp 4] #[.slice A0 N0 C0, .slice A1 N1 C1] (v0 A0 N0 C0 A1 N1 C1) := cz Tryz.func21 (by kernel_rfl) Tryz.ntmps21 Tryz.results21 (by kernel_rfl) (t0 A0 N0 C0 A1 N1 C1)
abbrev l1 : List (Nat × Value) := []
def v1 : VP := fun B ds w K => Kd K .ret [eB 4 true] ds w
theorem t1 : VT 29 p1 l1 v1 := tw kt [4] fun B ds w K => by kernel_rfl
abbrev l2 : List (Nat × Value) := [eS 0 A0 N0 C0,eS 5 A5 N5 C5,eI 15 I15,eI 16 I16]
def v2 : VP := fun B ds w K => bc (decide (I16 < (I15:Int))) (nc A0 fun b2 o3 => ∃ k1 : Nat,I16 = (k1:Int) ∧ k1 < N0 ∧ ∃ x4,w.drew.cell? ⟨b2,o3 + k1,none⟩ = some (.int .u64 x4) ∧ nc A5 fun b6 o7 => ∃ k5 : Nat,I16 = (k5:Int) ∧ k5 < N5 ∧ ∃ x8,w.drew.cell? ⟨b6,o7 + k5,none⟩ = some (.int .u64 x8) ∧ bc (x4 != (x8:Int)) (Kd K .ret [eS 0 A0 N0 C0,eB 4 false,eS 5 A5 N5 C5,eI 15 I15,eI 16 I16] ds w.drew) (inI64 (I16 + 1) ∧ Kd K .normal [eS 0 A0 N0 C0,(4,B 4),eS 5 A5 N5 C5,eI 15 I15,eI 16 (I16 + 1)] ds w.drew)) (Kd K (.exit 0) [eS 0 A0 N0 C0,(4,B 4),eS 5 A5 N5 C5,eI 15 I15,eI 16 I16] ds w)
theorem t2 : VT 29 p2 (l2 A0 N0 C0 A5 N5 C5 I15 I16) (v2 A0 N0 C0 A5 N5 C5 I15 I16) := tw kt [0,4,5,15,16] fun B ds w K => by kernel_rfl
end F21
namespace F22
noncomputable def body : Code := bodyOf Tryz.f22
def kt : List (Nat × List Nat) := [(6,[0,1,8,9]),(7,[0,1,8,9]),(12,[0,8])]
noncomputable def p1 : Code := sb 4 15 body
noncomputable def p2 : Code := sb 7 116 body
noncomputable def p3 : Code := sb 5 29 body
noncomputable def p4 : Code := sb 9 467 body
theorem q3 : p3 = .block 0 (.loop p2) := by kernel_rfl
variable (A0 : Option Addr) (N0 C0 : Nat) (A1 : Option Addr) (N1 C1 : Nat) (A8 : Option Addr) (N8 C8 : Nat) (I9 : Int)
abbrev l0 : List (Nat × Value) := [eS 0 A0 N0 C0,eS 1 A1 N1 C1]
def v0 : VP := fun B ds w K => bc ((N1:Int) == 1) (nc A1 fun b2 o3 => ∃ k1 : Nat,0 = (k1:Int) ∧ k1 < N1 ∧ ∃ x4,w.cell? ⟨b2,o3 + k1,none⟩ = some (.int .i64 x4) ∧ Cl 28 #[(.slice A0 N0 C0),(.int .i64 x4)] w fun r5 w6 => ∃ x7a,∃ x7l,∃ x7c,True ∧ ∃ x8,True ∧ r5 = .returned (.tuple #[(.slice x7a x7l x7c),(.int .i64 x8)]) ∧ Cl 23 #[(.int .i64 x8)] w6 fun r9 w10 => ∃ x11a,∃ x11l,∃ x11c,r9 = .returned (.slice x11a x11l x11c) ∧ Kd K .ret [eS 4 x7a x7l x7c,eS 5 x11a x11l x11c] ds w10) (∃ w13,∃ x14a,∃ x14l,∃ x14c,Sem.run Tryz.prog (Instr.buildSlice 26 0 #[]) w = .ok (.slice x14a x14l x14c) w13 ∧ Cl 15 #[(.slice A0 N0 C0)] w13 fun r15 w16 => ∃ x17,r15 = .returned (.int .i64 x17) ∧ Cl 15 #[(.slice A1 N1 C1)] w16 fun r18 w19 => ∃ x20,r18 = .returned (.int .i64 x20) ∧ inI64 (x17 - x20) ∧ Wd 51 p3 [eS 0 A0 N0 C0,eS 1 A1 N1 C1,eS 8 x14a x14l x14c,eI 9 (x17 - x20)] ds w19 (thenW Tryz.prog 51 p1 K))
theorem t0 : VZ 51 body (l0 A0 N0 C0 A1 N1 C1) (v0 A0 N0 C0 A1 N1 C1) := tz kt [4,5] fun B ds w K => by kernel_rfl
theorem call : VCl 22 [.tmp 4, .tmp 5] #[.slice A0 N0 C0, .slice A1 N1 C1] (v0 A0 N0 C0 A1 N1 C1) := cz Tryz.func22 (by kernel_rfl) Tryz.ntmps22 Tryz.results22 (by kernel_rfl) (t0 A0 N0 C0 A1 N1 C1)
abbrev l1 : List (Nat × Value) := [eS 0 A0 N0 C0,eS 8 A8 N8 C8]
def v1 : VP := fun B ds w K => Kd K .ret [eS 4 A8 N8 C8,eS 5 A0 N0 C0] ds w
theorem t1 : VT 51 p1 (l1 A0 N0 C0 A8 N8 C8) (v1 A0 N0 C0 A8 N8 C8) := tw kt [4,5] fun B ds w K => by kernel_rfl
abbrev l2 : List (Nat × Value) := [eS 0 A0 N0 C0,eS 1 A1 N1 C1,eS 8 A8 N8 C8,eI 9 I9]
def v2 : VP := fun B ds w K => bc (decide (I9 ≥ (0:Int))) (Cl 35 #[(.slice A1 N1 C1),(.int .i64 I9)] w fun r1 w2 => ∃ x3a,∃ x3l,∃ x3c,r1 = .returned (.slice x3a x3l x3c) ∧ Cl 36 #[(.slice x3a x3l x3c),(.slice A0 N0 C0)] w2 fun r4 w5 => ∃ x6,r4 = .returned (.int .i64 x6) ∧ bc (decide (x6 ≤ (0:Int))) (Cl 37 #[(.slice A0 N0 C0),(.slice x3a x3l x3c)] w5 fun r7 w8 => ∃ x9a,∃ x9l,∃ x9c,r7 = .returned (.slice x9a x9l x9c) ∧ Cl 39 #[(.int .i64 I9)] w8 fun r10 w11 => ∃ x12a,∃ x12l,∃ x12c,r10 = .returned (.slice x12a x12l x12c) ∧ Cl 38 #[(.slice A8 N8 C8),(.slice x12a x12l x12c)] w11 fun r13 w14 => ∃ x15a,∃ x15l,∃ x15c,r13 = .returned (.slice x15a x15l x15c) ∧ Wd 51 p4 [eS 0 x9a x9l x9c,eS 1 A1 N1 C1,eS 8 x15a x15l x15c,eI 9 I9] ds w14 K) (Wd 51 p4 [eS 0 A0 N0 C0,eS 1 A1 N1 C1,eS 8 A8 N8 C8,eI 9 I9] ds w5 K)) (Kd K (.exit 0) [eS 0 A0 N0 C0,eS 1 A1 N1 C1,eS 8 A8 N8 C8,eI 9 I9] ds w)
theorem t2 : VT 51 p2 (l2 A0 N0 C0 A1 N1 C1 A8 N8 C8 I9) (v2 A0 N0 C0 A1 N1 C1 A8 N8 C8 I9) := tw kt [0,1,8,9] fun B ds w K => by kernel_rfl
abbrev l4 : List (Nat × Value) := [eS 0 A0 N0 C0,eS 1 A1 N1 C1,eS 8 A8 N8 C8,eI 9 I9]
def v4 : VP := fun B ds w K => inI64 (I9 - 1) ∧ Kd K .normal [eS 0 A0 N0 C0,eS 1 A1 N1 C1,eS 8 A8 N8 C8,eI 9 (I9 - 1)] ds w
theorem t4 : VT 51 p4 (l4 A0 N0 C0 A1 N1 C1 A8 N8 C8 I9) (v4 A0 N0 C0 A1 N1 C1 A8 N8 C8 I9) := tw kt [0,1,8,9] fun B ds w K => by kernel_rfl
end F22
namespace F23
noncomputable def body : Code := bodyOf Tryz.f23
def kt : List (Nat × List Nat) := [(2,[0,3]),(5,[3])]
noncomputable def p1 : Code := sb 3 7 body
noncomputable def p2 : Code := sb 5 24 body
noncomputable def p3 : Code := sb 3 6 body
theorem q3 : p3 = .block 0 (.loop p2) := by kernel_rfl
variable (I0 : Int) (A3 : Option Addr) (N3 C3 : Nat)
abbrev l0 : List (Nat × Value) := [eI 0 I0]
def v0 : VP := fun B ds w K => ∃ w1,∃ x2a,∃ x2l,∃ x2c,Sem.run Tryz.prog (Instr.buildSlice 26 0 #[]) w = .ok (.slice x2a x2l x2c) w1 ∧ Wd 15 p3 [eI 0 I0,eS 3 x2a x2l x2c] ds w1 (thenW Tryz.prog 15 p1 K)
theorem t0 : VZ 15 body (l0 I0) (v0 I0) := tz kt [2] fun B ds w K => by kernel_rfl
theorem call : VCl 23 [.tmp 2] #[.int .i64 I0] (v0 I0) := cz Tryz.func23 (by kernel_rfl) Tryz.ntmps23 Tryz.results23 (by kernel_rfl) (t0 I0)
abbrev l1 : List (Nat × Value) := [eS 3 A3 N3 C3]
def v1 : VP := fun B ds w K => Kd K .ret [eS 2 A3 N3 C3] ds w
theorem t1 : VT 15 p1 (l1 A3 N3 C3) (v1 A3 N3 C3) := tw kt [2] fun B ds w K => by kernel_rfl
abbrev l2 : List (Nat × Value) := [eI 0 I0,eS 3 A3 N3 C3]
def v2 : VP := fun B ds w K => bc (decide (I0 > (0:Int))) (65536 ≠ (0:Int) ∧ ∃ w1,∃ x2a,∃ x2l,∃ x2c,Sem.run Tryz.prog (Instr.buildSlice 26 1 #[(0,(.int .i64 (iRem I0 65536)))]) w = .ok (.slice x2a x2l x2c) w1 ∧ ∃ w3,∃ x4a,∃ x4l,∃ x4c,Sem.run Tryz.prog (builtin .append #[26,26] 26 #[false,false] #[(.slice A3 N3 C3),(.slice x2a x2l x2c)]) w1 = .ok (.value (.slice x4a x4l x4c)) w3 ∧ 65536 ≠ (0:Int) ∧ Kd K .normal [eI 0 (iQuo .i64 I0 65536),eS 3 x4a x4l x4c] ds w3) (Kd K (.exit 0) [eI 0 I0,eS 3 A3 N3 C3] ds w)
theorem t2 : VT 15 p2 (l2 I0 A3 N3 C3) (v2 I0 A3 N3 C3) := tw kt [0,3] fun B ds w K => by kernel_rfl
end F23
namespace F24
noncomputable def body : Code := bodyOf Tryz.f24
def kt : List (Nat × List Nat) := [(3,[1,5,17,18,19]),(4,[1,5,17,18,19]),(7,[1,5,6,7,8,17,18,19,24,25,26]),(13,[1,5,6,8,17,18,19]),(14,[1,5,17,18,19]),(15,[5])]
noncomputable def p1 : Code := sb 3 7 body
noncomputable def p2 : Code := sb 6 52 body
noncomputable def p3 : Code := sb 4 13 body
noncomputable def p4 : Code := sb 9 423 body
noncomputable def p5 : Code := sb 10 844 body
noncomputable def p6 : Code := sb 9 422 body
noncomputable def p7 : Code := sb 13 6759 body
noncomputable def p8 : Code := sb 16 54068 body
noncomputable def p9 : Code := sb 14 13517 body
theorem q3 : p3 = .block 0 (.loop p2) := by kernel_rfl
theorem q6 : p6 = .block 1 p5 := by kernel_rfl
theorem q9 : p9 = .block 2 (.loop p8) := by kernel_rfl
variable (A0 : Option Addr) (N0 C0 : Nat) (A1 : Option Addr) (N1 C1 : Nat) (A5 : Option Addr) (N5 C5 : Nat) (I6 I7 I8 : Int) (A17 : Option Addr) (N17 C17 : Nat) (I18 I19 : Int) (A24 : Option Addr) (N24 C24 : Nat) (I25 I26 : Int)
abbrev l0 : List (Nat × Value) := [eS 0 A0 N0 C0,eS 1 A1 N1 C1]
def v0 : VP := fun B ds w K => inI64 ((N0:Int) + (N1:Int)) ∧ ∃ l1 c2 : Nat,((N0:Int) + (N1:Int)) = (l1:Int) ∧ ((N0:Int) + (N1:Int)) = (c2:Int) ∧ l1 ≤ c2 ∧ 8 * c2 ≤ 281474976710656 ∧ c2 ≤ 281474976710656 ∧ Wd 63 p3 [eS 1 A1 N1 C1,eS 5 (some ⟨(World.heap w).size,0,none⟩) l1 c2,eS 17 A0 N0 C0,eI 18 (N0:Int),eI 19 0] ds (World.alloc w (.cells (madeCells #[(Value.int IntKind.i64 0)] c2) 3)) (thenW Tryz.prog 63 p1 K)
theorem t0 : VZ 63 body (l0 A0 N0 C0 A1 N1 C1) (v0 A0 N0 C0 A1 N1 C1) := tz kt [4] fun B ds w K => by kernel_rfl
theorem call : VCl 24 [.tmp 4] #[.slice A0 N0 C0, .slice A1 N1 C1] (v0 A0 N0 C0 A1 N1 C1) := cz Tryz.func24 (by kernel_rfl) Tryz.ntmps24 Tryz.results24 (by kernel_rfl) (t0 A0 N0 C0 A1 N1 C1)
abbrev l1 : List (Nat × Value) := [eS 5 A5 N5 C5]
def v1 : VP := fun B ds w K => Cl 16 #[(.slice A5 N5 C5)] w fun r1 w2 => ∃ x3a,∃ x3l,∃ x3c,r1 = .returned (.slice x3a x3l x3c) ∧ Kd K .ret [eS 4 x3a x3l x3c] ds w2
theorem t1 : VT 63 p1 (l1 A5 N5 C5) (v1 A5 N5 C5) := tw kt [4] fun B ds w K => by kernel_rfl
abbrev l2 : List (Nat × Value) := [eS 1 A1 N1 C1,eS 5 A5 N5 C5,eS 17 A17 N17 C17,eI 18 I18,eI 19 I19]
def v2 : VP := fun B ds w K => bc (decide (I19 < (I18:Int))) (Wd 63 p6 [eS 1 A1 N1 C1,eS 5 A5 N5 C5,eS 17 A17 N17 C17,eI 18 I18,eI 19 I19] ds w (thenW Tryz.prog 63 p4 K)) (Kd K (.exit 0) [eS 1 A1 N1 C1,eS 5 A5 N5 C5,eS 17 A17 N17 C17,eI 18 I18,eI 19 I19] ds w)
theorem t2 : VT 63 p2 (l2 A1 N1 C1 A5 N5 C5 A17 N17 C17 I18 I19) (v2 A1 N1 C1 A5 N5 C5 A17 N17 C17 I18 I19) := tw kt [1,5,17,18,19] fun B ds w K => by kernel_rfl
abbrev l4 : List (Nat × Value) := [eS 1 A1 N1 C1,eS 5 A5 N5 C5,eS 17 A17 N17 C17,eI 18 I18,eI 19 I19]
def v4 : VP := fun B ds w K => inI64 (I19 + 1) ∧ Kd K .normal [eS 1 A1 N1 C1,eS 5 A5 N5 C5,eS 17 A17 N17 C17,eI 18 I18,eI 19 (I19 + 1)] ds w
theorem t4 : VT 63 p4 (l4 A1 N1 C1 A5 N5 C5 A17 N17 C17 I18 I19) (v4 A1 N1 C1 A5 N5 C5 A17 N17 C17 I18 I19) := tw kt [1,5,17,18,19] fun B ds w K => by kernel_rfl
abbrev l5 : List (Nat × Value) := [eS 1 A1 N1 C1,eS 5 A5 N5 C5,eS 17 A17 N17 C17,eI 18 I18,eI 19 I19]
def v5 : VP := fun B ds w K => nc A17 fun b2 o3 => ∃ k1 : Nat,I19 = (k1:Int) ∧ k1 < N17 ∧ ∃ x4,w.cell? ⟨b2,o3 + k1,none⟩ = some (.int .i64 x4) ∧ Wd 63 p9 [eS 1 A1 N1 C1,eS 5 A5 N5 C5,eI 6 I19,eI 7 x4,eI 8 0,eS 17 A17 N17 C17,eI 18 I18,eI 19 I19,eS 24 A1 N1 C1,eI 25 (N1:Int),eI 26 0] ds w (thenW Tryz.prog 63 p7 K)
theorem t5 : VT 63 p5 (l5 A1 N1 C1 A5 N5 C5 A17 N17 C17 I18 I19) (v5 A1 N1 C1 A5 N5 C5 A17 N17 C17 I18 I19) := tw kt [1,5,17,18,19] fun B ds w K => by kernel_rfl
abbrev l7 : List (Nat × Value) := [eS 1 A1 N1 C1,eS 5 A5 N5 C5,eI 6 I6,eI 8 I8,eS 17 A17 N17 C17,eI 18 I18,eI 19 I19]
def v7 : VP := fun B ds w K => inI64 (I6 + (N1:Int)) ∧ nc A5 fun b2 o3 => ∃ k1 : Nat,(I6 + (N1:Int)) = (k1:Int) ∧ k1 < N5 ∧ (∃ u4,w.cell? ⟨b2,o3 + k1,none⟩ = some u4) ∧ w.frozen? ⟨b2,o3 + k1,none⟩ = false ∧ Kd K .normal [eS 1 A1 N1 C1,eS 5 A5 N5 C5,eS 17 A17 N17 C17,eI 18 I18,eI 19 I19] ds (w.setCell ⟨b2,o3 + k1,none⟩ (.int .i64 I8))
theorem t7 : VT 63 p7 (l7 A1 N1 C1 A5 N5 C5 I6 I8 A17 N17 C17 I18 I19) (v7 A1 N1 C1 A5 N5 C5 I6 I8 A17 N17 C17 I18 I19) := tw kt [1,5,17,18,19] fun B ds w K => by kernel_rfl
abbrev l8 : List (Nat × Value) := [eS 1 A1 N1 C1,eS 5 A5 N5 C5,eI 6 I6,eI 7 I7,eI 8 I8,eS 17 A17 N17 C17,eI 18 I18,eI 19 I19,eS 24 A24 N24 C24,eI 25 I25,eI 26 I26]
def v8 : VP := fun B ds w K => bc (decide (I26 < (I25:Int))) (nc A24 fun b2 o3 => ∃ k1 : Nat,I26 = (k1:Int) ∧ k1 < N24 ∧ ∃ x4,w.cell? ⟨b2,o3 + k1,none⟩ = some (.int .i64 x4) ∧ inI64 (I6 + I26) ∧ nc A5 fun b6 o7 => ∃ k5 : Nat,(I6 + I26) = (k5:Int) ∧ k5 < N5 ∧ ∃ x8,w.cell? ⟨b6,o7 + k5,none⟩ = some (.int .i64 x8) ∧ inI64 (I7 * x4) ∧ inI64 (x8 + (I7 * x4)) ∧ inI64 (I8 + (x8 + (I7 * x4))) ∧ inI64 (I6 + I26) ∧ 65536 ≠ (0:Int) ∧ nc A5 fun b10 o11 => ∃ k9 : Nat,(I6 + I26) = (k9:Int) ∧ k9 < N5 ∧ (∃ u12,w.cell? ⟨b10,o11 + k9,none⟩ = some u12) ∧ w.frozen? ⟨b10,o11 + k9,none⟩ = false ∧ 65536 ≠ (0:Int) ∧ inI64 (I26 + 1) ∧ Kd K .normal [eS 1 A1 N1 C1,eS 5 A5 N5 C5,eI 6 I6,eI 7 I7,eI 8 (iQuo .i64 (I8 + (x8 + (I7 * x4))) 65536),eS 17 A17 N17 C17,eI 18 I18,eI 19 I19,eS 24 A24 N24 C24,eI 25 I25,eI 26 (I26 + 1)] ds (w.setCell ⟨b10,o11 + k9,none⟩ (.int .i64 (iRem (I8 + (x8 + (I7 * x4))) 65536)))) (Kd K (.exit 2) [eS 1 A1 N1 C1,eS 5 A5 N5 C5,eI 6 I6,eI 7 I7,eI 8 I8,eS 17 A17 N17 C17,eI 18 I18,eI 19 I19,eS 24 A24 N24 C24,eI 25 I25,eI 26 I26] ds w)
theorem t8 : VT 63 p8 (l8 A1 N1 C1 A5 N5 C5 I6 I7 I8 A17 N17 C17 I18 I19 A24 N24 C24 I25 I26) (v8 A1 N1 C1 A5 N5 C5 I6 I7 I8 A17 N17 C17 I18 I19 A24 N24 C24 I25 I26) := tw kt [1,5,6,7,8,17,18,19,24,25,26] fun B ds w K => by kernel_rfl
end F24
namespace F25
noncomputable def body : Code := bodyOf Tryz.f25
def kt : List (Nat × List Nat) := []
variable (A0 : Option Addr) (N0 C0 : Nat) (I1 : Int)
abbrev l0 : List (Nat × Value) := [eS 0 A0 N0 C0,eI 1 I1]
def v0 : VP := fun B ds w K => 16 ≠ (0:Int) ∧ bc (decide ((iQuo .i64 I1 16) < (N0:Int))) (16 ≠ (0:Int) ∧ nc A0 fun b2 o3 => ∃ k1 : Nat,(iQuo .i64 I1 16) = (k1:Int) ∧ k1 < N0 ∧ ∃ x4,w.cell? ⟨b2,o3 + k1,none⟩ = some (.int .i64 x4) ∧ 16 ≠ (0:Int) ∧ (0:Int) ≤ (iRem I1 16) ∧ Kd K .ret [eB 4 ((iAnd .i64 (iShr .i64 x4 (iRem I1 16)) 1) == 1)] ds w) (Kd K .ret [eB 4 false] ds w)
theorem t0 : VZ 22 body (l0 A0 N0 C0 I1) (v0 A0 N0 I1) := tz kt [4] fun B ds w K => by kernel_rfl
theorem call : VCl 25 [.tmp 4] #[.slice A0 N0 C0, .int .i64 I1] (v0 A0 N0 I1) := cz Tryz.func25 (by kernel_rfl) Tryz.ntmps25 Tryz.results25 (by kernel_rfl) (t0 A0 N0 C0 I1)
end F25
namespace F28
noncomputable def body : Code := bodyOf Tryz.f28
def kt : List (Nat × List Nat) := [(4,[0,1,6,7,8]),(9,[6,7])]
noncomputable def p1 : Code := sb 4 15 body
noncomputable def p2 : Code := sb 7 116 body
noncomputable def p3 : Code := sb 5 29 body
theorem q3 : p3 = .block 0 (.loop p2) := by kernel_rfl
variable (A0 : Option Addr) (N0 C0 : Nat) (I1 : Int) (A6 : Option Addr) (N6 C6 : Nat) (I7 I8 : Int)
abbrev l0 : List (Nat × Value) := [eS 0 A0 N0 C0,eI 1 I1]
def v0 : VP := fun B ds w K => ∃ l1 c2 : Nat,(N0:Int) = (l1:Int) ∧ (N0:Int) = (c2:Int) ∧ l1 ≤ c2 ∧ 8 * c2 ≤ 281474976710656 ∧ c2 ≤ 281474976710656 ∧ inI64 ((N0:Int) - 1) ∧ Wd 38 p3 [eS 0 A0 N0 C0,eI 1 I1,eS 6 (some ⟨(World.heap w).size,0,none⟩) l1 c2,eI 7 0,eI 8 ((N0:Int) - 1)] ds (World.alloc w (.cells (madeCells #[(Value.int IntKind.i64 0)] c2) 3)) (thenW Tryz.prog 38 p1 K)
theorem t0 : VZ 38 body (l0 A0 N0 C0 I1) (v0 A0 N0 C0 I1) := tz kt [4,5] fun B ds w K => by kernel_rfl
theorem call : VCl 28 [.tmp 4, .tmp 5] #[.slice A0 N0 C0, .int .i64 I1] (v0 A0 N0 C0 I1) := cz Tryz.func28 (by kernel_rfl) Tryz.ntmps28 Tryz.results28 (by kernel_rfl) (t0 A0 N0 C0 I1)
abbrev l1 : List (Nat × Value) := [eS 6 A6 N6 C6,eI 7 I7]
def v1 : VP := fun B ds w K => Cl 16 #[(.slice A6 N6 C6)] w fun r1 w2 => ∃ x3a,∃ x3l,∃ x3c,r1 = .returned (.slice x3a x3l x3c) ∧ Kd K .ret [eS 4 x3a x3l x3c,eI 5 I7] ds w2
theorem t1 : VT 38 p1 (l1 A6 N6 C6 I7) (v1 A6 N6 C6 I7) := tw kt [4,5] fun B ds w K => by kernel_rfl
abbrev l2 : List (Nat × Value) := [eS 0 A0 N0 C0,eI 1 I1,eS 6 A6 N6 C6,eI 7 I7,eI 8 I8]
def v2 : VP := fun B ds w K => bc (decide (I8 ≥ (0:Int))) (inI64 (I7 * 65536) ∧ nc A0 fun b2 o3 => ∃ k1 : Nat,I8 = (k1:Int) ∧ k1 < N0 ∧ ∃ x4,w.cell? ⟨b2,o3 + k1,none⟩ = some (.int .i64 x4) ∧ inI64 ((I7 * 65536) + x4) ∧ I1 ≠ (0:Int) ∧ nc A6 fun b6 o7 => ∃ k5 : Nat,I8 = (k5:Int) ∧ k5 < N6 ∧ (∃ u8,w.cell? ⟨b6,o7 + k5,none⟩ = some u8) ∧ w.frozen? ⟨b6,o7 + k5,none⟩ = false ∧ I1 ≠ (0:Int) ∧ inI64 (I8 - 1) ∧ Kd K .normal [eS 0 A0 N0 C0,eI 1 I1,eS 6 A6 N6 C6,eI 7 (iRem ((I7 * 65536) + x4) I1),eI 8 (I8 - 1)] ds (w.setCell ⟨b6,o7 + k5,none⟩ (.int .i64 (iQuo .i64 ((I7 * 65536) + x4) I1)))) (Kd K (.exit 0) [eS 0 A0 N0 C0,eI 1 I1,eS 6 A6 N6 C6,eI 7 I7,eI 8 I8] ds w)
theorem t2 : VT 38 p2 (l2 A0 N0 C0 I1 A6 N6 C6 I7 I8) (v2 A0 N0 C0 I1 A6 N6 C6 I7 I8) := tw kt [0,1,6,7,8] fun B ds w K => by kernel_rfl
end F28
namespace F35
noncomputable def body : Code := bodyOf Tryz.f35
def kt : List (Nat × List Nat) := [(5,[1,5,19,20,21]),(11,[5])]
noncomputable def p1 : Code := sb 4 15 body
noncomputable def p2 : Code := sb 7 116 body
noncomputable def p3 : Code := sb 5 29 body
theorem q3 : p3 = .block 0 (.loop p2) := by kernel_rfl
variable (A0 : Option Addr) (N0 C0 : Nat) (I1 : Int) (A5 : Option Addr) (N5 C5 : Nat) (A19 : Option Addr) (N19 C19 : Nat) (I20 I21 : Int)
abbrev l0 : List (Nat × Value) := [eS 0 A0 N0 C0,eI 1 I1]
def v0 : VP := fun B ds w K => bc ((N0:Int) == 0) (Kd K .ret [eS 4 A0 N0 C0] ds w) (16 ≠ (0:Int) ∧ inI64 ((iQuo .i64 I1 16) + (N0:Int)) ∧ inI64 (((iQuo .i64 I1 16) + (N0:Int)) + 1) ∧ ∃ l2 c3 : Nat,(((iQuo .i64 I1 16) + (N0:Int)) + 1) = (l2:Int) ∧ (((iQuo .i64 I1 16) + (N0:Int)) + 1) = (c3:Int) ∧ l2 ≤ c3 ∧ 8 * c3 ≤ 281474976710656 ∧ c3 ≤ 281474976710656 ∧ Wd 53 p3 [eI 1 I1,eS 5 (some ⟨(World.heap w).size,0,none⟩) l2 c3,eS 19 A0 N0 C0,eI 20 (N0:Int),eI 21 0] ds (World.alloc w (.cells (madeCells #[(Value.int IntKind.i64 0)] c3) 3)) (thenW Tryz.prog 53 p1 K))
theorem t0 : VZ 53 body (l0 A0 N0 C0 I1) (v0 A0 N0 C0 I1) := tz kt [4] fun B ds w K => by kernel_rfl
theorem call : VCl 35 [.tmp 4] #[.slice A0 N0 C0, .int .i64 I1] (v0 A0 N0 C0 I1) := cz Tryz.func35 (by kernel_rfl) Tryz.ntmps35 Tryz.results35 (by kernel_rfl) (t0 A0 N0 C0 I1)
abbrev l1 : List (Nat × Value) := [eS 5 A5 N5 C5]
def v1 : VP := fun B ds w K => Cl 16 #[(.slice A5 N5 C5)] w fun r1 w2 => ∃ x3a,∃ x3l,∃ x3c,r1 = .returned (.slice x3a x3l x3c) ∧ Kd K .ret [eS 4 x3a x3l x3c] ds w2
theorem t1 : VT 53 p1 (l1 A5 N5 C5) (v1 A5 N5 C5) := tw kt [4] fun B ds w K => by kernel_rfl
abbrev l2 : List (Nat × Value) := [eI 1 I1,eS 5 A5 N5 C5,eS 19 A19 N19 C19,eI 20 I20,eI 21 I21]
def v2 : VP := fun B ds w K => bc (decide (I21 < (I20:Int))) (nc A19 fun b2 o3 => ∃ k1 : Nat,I21 = (k1:Int) ∧ k1 < N19 ∧ ∃ x4,w.cell? ⟨b2,o3 + k1,none⟩ = some (.int .i64 x4) ∧ 16 ≠ (0:Int) ∧ (0:Int) ≤ (iRem I1 16) ∧ 16 ≠ (0:Int) ∧ inI64 ((iQuo .i64 I1 16) + I21) ∧ nc A5 fun b6 o7 => ∃ k5 : Nat,((iQuo .i64 I1 16) + I21) = (k5:Int) ∧ k5 < N5 ∧ ∃ x8,w.cell? ⟨b6,o7 + k5,none⟩ = some (.int .i64 x8) ∧ 65536 ≠ (0:Int) ∧ inI64 (x8 + (iRem (iShl .i64 x4 (iRem I1 16)) 65536)) ∧ nc A5 fun b10 o11 => ∃ k9 : Nat,((iQuo .i64 I1 16) + I21) = (k9:Int) ∧ k9 < N5 ∧ (∃ u12,w.cell? ⟨b10,o11 + k9,none⟩ = some u12) ∧ w.frozen? ⟨b10,o11 + k9,none⟩ = false ∧ 16 ≠ (0:Int) ∧ inI64 ((iQuo .i64 I1 16) + I21) ∧ inI64 (((iQuo .i64 I1 16) + I21) + 1) ∧ 65536 ≠ (0:Int) ∧ nc A5 fun b14 o15 => ∃ k13 : Nat,(((iQuo .i64 I1 16) + I21) + 1) = (k13:Int) ∧ k13 < N5 ∧ (∃ u16,World.cell? (w.setCell ⟨b10,o11 + k9,none⟩ (.int .i64 (x8 + (iRem (iShl .i64 x4 (iRem I1 16)) 65536)))) ⟨b14,o15 + k13,none⟩ = some u16) ∧ World.frozen? (w.setCell ⟨b10,o11 + k9,none⟩ (.int .i64 (x8 + (iRem (iShl .i64 x4 (iRem I1 16)) 65536)))) ⟨b14,o15 + k13,none⟩ = false ∧ inI64 (I21 + 1) ∧ Kd K .normal [eI 1 I1,eS 5 A5 N5 C5,eS 19 A19 N19 C19,eI 20 I20,eI 21 (I21 + 1)] ds (World.setCell (w.setCell ⟨b10,o11 + k9,none⟩ (.int .i64 (x8 + (iRem (iShl .i64 x4 (iRem I1 16)) 65536)))) ⟨b14,o15 + k13,none⟩ (.int .i64 (iQuo .i64 (iShl .i64 x4 (iRem I1 16)) 65536)))) (Kd K (.exit 0) [eI 1 I1,eS 5 A5 N5 C5,eS 19 A19 N19 C19,eI 20 I20,eI 21 I21] ds w)
theorem t2 : VT 53 p2 (l2 I1 A5 N5 C5 A19 N19 C19 I20 I21) (v2 I1 A5 N5 C5 A19 N19 C19 I20 I21) := tw kt [1,5,19,20,21] fun B ds w K => by kernel_rfl
end F35
namespace F36
noncomputable def body : Code := bodyOf Tryz.f36
def kt : List (Nat × List Nat) := [(6,[0,1,5]),(12,[])]
noncomputable def p1 : Code := sb 4 15 body
noncomputable def p2 : Code := sb 7 116 body
noncomputable def p3 : Code := sb 5 29 body
theorem q3 : p3 = .block 0 (.loop p2) := by kernel_rfl
variable (A0 : Option Addr) (N0 C0 : Nat) (A1 : Option Addr) (N1 C1 : Nat) (I5 : Int)
abbrev l0 : List (Nat × Value) := [eS 0 A0 N0 C0,eS 1 A1 N1 C1]
def v0 : VP := fun B ds w K => bc (decide ((N0:Int) < (N1:Int))) (Kd K .ret [eI 4 (-1)] ds w) (bc (decide ((N0:Int) > (N1:Int))) (Kd K .ret [eI 4 1] ds w) (inI64 ((N0:Int) - 1) ∧ Wd 41 p3 [eS 0 A0 N0 C0,eS 1 A1 N1 C1,eI 5 ((N0:Int) - 1)] ds w (thenW Tryz.prog 41 p1 K)))
theorem t0 : VZ 41 body (l0 A0 N0 C0 A1 N1 C1) (v0 A0 N0 C0 A1 N1 C1) := tz kt [4] fun B ds w K => by kernel_rfl
theorem call : VCl 36 [.tmp 4] #[.slice A0 N0 C0, .slice A1 N1 C1] (v0 A0 N0 C0 A1 N1 C1) := cz Tryz.func36 (by kernel_rfl) Tryz.ntmps36 Tryz.results36 (by kernel_rfl) (t0 A0 N0 C0 A1 N1 C1)
abbrev l1 : List (Nat × Value) := []
def v1 : VP := fun B ds w K => Kd K .ret [eI 4 0] ds w
theorem t1 : VT 41 p1 l1 v1 := tw kt [4] fun B ds w K => by kernel_rfl
abbrev l2 : List (Nat × Value) := [eS 0 A0 N0 C0,eS 1 A1 N1 C1,eI 5 I5]
def v2 : VP := fun B ds w K => bc (decide (I5 ≥ (0:Int))) (nc A0 fun b2 o3 => ∃ k1 : Nat,I5 = (k1:Int) ∧ k1 < N0 ∧ ∃ x4,w.drew.cell? ⟨b2,o3 + k1,none⟩ = some (.int .i64 x4) ∧ nc A1 fun b6 o7 => ∃ k5 : Nat,I5 = (k5:Int) ∧ k5 < N1 ∧ ∃ x8,w.drew.cell? ⟨b6,o7 + k5,none⟩ = some (.int .i64 x8) ∧ bc (decide (x4 < (x8:Int))) (Kd K .ret [eS 0 A0 N0 C0,eS 1 A1 N1 C1,eI 4 (-1),eI 5 I5] ds w.drew) (nc A0 fun b11 o12 => ∃ k10 : Nat,I5 = (k10:Int) ∧ k10 < N0 ∧ ∃ x13,w.drew.drew.cell? ⟨b11,o12 + k10,none⟩ = some (.int .i64 x13) ∧ nc A1 fun b15 o16 => ∃ k14 : Nat,I5 = (k14:Int) ∧ k14 < N1 ∧ ∃ x17,w.drew.drew.cell? ⟨b15,o16 + k14,none⟩ = some (.int .i64 x17) ∧ bc (decide (x13 > (x17:Int))) (Kd K .ret [eS 0 A0 N0 C0,eS 1 A1 N1 C1,eI 4 1,eI 5 I5] ds w.drew.drew) (inI64 (I5 - 1) ∧ Kd K .normal [eS 0 A0 N0 C0,eS 1 A1 N1 C1,(4,B 4),eI 5 (I5 - 1)] ds w.drew.drew))) (Kd K (.exit 0) [eS 0 A0 N0 C0,eS 1 A1 N1 C1,(4,B 4),eI 5 I5] ds w)
theorem t2 : VT 41 p2 (l2 A0 N0 C0 A1 N1 C1 I5) (v2 A0 N0 C0 A1 N1 C1 I5) := tw kt [0,1,4,5] fun B ds w K => by kernel_rfl
end F36
namespace F37
noncomputable def body : Code := bodyOf Tryz.f37
def kt : List (Nat × List Nat) := [(4,[1,5,6,10,11,12]),(9,[1,5,8,10,11,12]),(13,[1,5,6,8,10,11,12]),(14,[1,5,6,10,11,12]),(15,[5])]
noncomputable def p1 : Code := sb 4 15 body
noncomputable def p2 : Code := sb 7 116 body
noncomputable def p3 : Code := sb 5 29 body
noncomputable def p4 : Code := sb 10 935 body
noncomputable def p5 : Code := sb 14 14951 body
noncomputable def p6 : Code := sb 16 59807 body
theorem q3 : p3 = .block 0 (.loop p2) := by kernel_rfl
variable (A0 : Option Addr) (N0 C0 : Nat) (A1 : Option Addr) (N1 C1 : Nat) (A5 : Option Addr) (N5 C5 : Nat) (I6 I8 : Int) (A10 : Option Addr) (N10 C10 : Nat) (I11 I12 : Int)
abbrev l0 : List (Nat × Value) := [eS 0 A0 N0 C0,eS 1 A1 N1 C1]
def v0 : VP := fun B ds w K => ∃ w1,∃ x2a,∃ x2l,∃ x2c,Sem.run Tryz.prog (Instr.buildSlice 26 0 #[]) w = .ok (.slice x2a x2l x2c) w1 ∧ Wd 41 p3 [eS 1 A1 N1 C1,eS 5 x2a x2l x2c,eI 6 0,eS 10 A0 N0 C0,eI 11 (N0:Int),eI 12 0] ds w1 (thenW Tryz.prog 41 p1 K)
theorem t0 : VZ 41 body (l0 A0 N0 C0 A1 N1 C1) (v0 A0 N0 C0 A1 N1 C1) := tz kt [4] fun B ds w K => by kernel_rfl
theorem call : VCl 37 [.tmp 4] #[.slice A0 N0 C0, .slice A1 N1 C1] (v0 A0 N0 C0 A1 N1 C1) := cz Tryz.func37 (by kernel_rfl) Tryz.ntmps37 Tryz.results37 (by kernel_rfl) (t0 A0 N0 C0 A1 N1 C1)
abbrev l1 : List (Nat × Value) := [eS 5 A5 N5 C5]
def v1 : VP := fun B ds w K => Cl 16 #[(.slice A5 N5 C5)] w fun r1 w2 => ∃ x3a,∃ x3l,∃ x3c,r1 = .returned (.slice x3a x3l x3c) ∧ Kd K .ret [eS 4 x3a x3l x3c] ds w2
theorem t1 : VT 41 p1 (l1 A5 N5 C5) (v1 A5 N5 C5) := tw kt [4] fun B ds w K => by kernel_rfl
abbrev l2 : List (Nat × Value) := [eS 1 A1 N1 C1,eS 5 A5 N5 C5,eI 6 I6,eS 10 A10 N10 C10,eI 11 I11,eI 12 I12]
def v2 : VP := fun B ds w K => bc (decide (I12 < (I11:Int))) (nc A10 fun b2 o3 => ∃ k1 : Nat,I12 = (k1:Int) ∧ k1 < N10 ∧ ∃ x4,w.cell? ⟨b2,o3 + k1,none⟩ = some (.int .i64 x4) ∧ inI64 (x4 - I6) ∧ bc (decide (I12 < (N1:Int))) (nc A1 fun b6 o7 => ∃ k5 : Nat,I12 = (k5:Int) ∧ k5 < N1 ∧ ∃ x8,w.cell? ⟨b6,o7 + k5,none⟩ = some (.int .i64 x8) ∧ inI64 ((x4 - I6) - x8) ∧ Wd 41 p5 [eS 1 A1 N1 C1,eS 5 A5 N5 C5,eI 8 ((x4 - I6) - x8),eS 10 A10 N10 C10,eI 11 I11,eI 12 I12] ds w (blockK 1 (thenW Tryz.prog 41 p4 K))) (Wd 41 p5 [eS 1 A1 N1 C1,eS 5 A5 N5 C5,eI 8 (x4 - I6),eS 10 A10 N10 C10,eI 11 I11,eI 12 I12] ds w (blockK 1 (thenW Tryz.prog 41 p4 K)))) (Kd K (.exit 0) [eS 1 A1 N1 C1,eS 5 A5 N5 C5,eI 6 I6,eS 10 A10 N10 C10,eI 11 I11,eI 12 I12] ds w)
theorem t2 : VT 41 p2 (l2 A1 N1 C1 A5 N5 C5 I6 A10 N10 C10 I11 I12) (v2 A1 N1 C1 A5 N5 C5 I6 A10 N10 C10 I11 I12) := tw kt [1,5,6,10,11,12] fun B ds w K => by kernel_rfl
abbrev l4 : List (Nat × Value) := [eS 1 A1 N1 C1,eS 5 A5 N5 C5,eI 6 I6,eS 10 A10 N10 C10,eI 11 I11,eI 12 I12]
def v4 : VP := fun B ds w K => inI64 (I12 + 1) ∧ Kd K .normal [eS 1 A1 N1 C1,eS 5 A5 N5 C5,eI 6 I6,eS 10 A10 N10 C10,eI 11 I11,eI 12 (I12 + 1)] ds w
theorem t4 : VT 41 p4 (l4 A1 N1 C1 A5 N5 C5 I6 A10 N10 C10 I11 I12) (v4 A1 N1 C1 A5 N5 C5 I6 A10 N10 C10 I11 I12) := tw kt [1,5,6,10,11,12] fun B ds w K => by kernel_rfl
abbrev l5 : List (Nat × Value) := [eS 1 A1 N1 C1,eS 5 A5 N5 C5,eI 8 I8,eS 10 A10 N10 C10,eI 11 I11,eI 12 I12]
def v5 : VP := fun B ds w K => bc (decide (I8 < (0:Int))) (inI64 (I8 + 65536) ∧ Wd 41 p6 [eS 1 A1 N1 C1,eS 5 A5 N5 C5,eI 6 1,eI 8 (I8 + 65536),eS 10 A10 N10 C10,eI 11 I11,eI 12 I12] ds w K) (Wd 41 p6 [eS 1 A1 N1 C1,eS 5 A5 N5 C5,eI 6 0,eI 8 I8,eS 10 A10 N10 C10,eI 11 I11,eI 12 I12] ds w K)
theorem t5 : VT 41 p5 (l5 A1 N1 C1 A5 N5 C5 I8 A10 N10 C10 I11 I12) (v5 A1 N1 C1 A5 N5 C5 I8 A10 N10 C10 I11 I12) := tw kt [1,5,6,10,11,12] fun B ds w K => by kernel_rfl
abbrev l6 : List (Nat × Value) := [eS 1 A1 N1 C1,eS 5 A5 N5 C5,eI 6 I6,eI 8 I8,eS 10 A10 N10 C10,eI 11 I11,eI 12 I12]
def v6 : VP := fun B ds w K => ∃ w1,∃ x2a,∃ x2l,∃ x2c,Sem.run Tryz.prog (Instr.buildSlice 26 1 #[(0,(.int .i64 I8))]) w = .ok (.slice x2a x2l x2c) w1 ∧ ∃ w3,∃ x4a,∃ x4l,∃ x4c,Sem.run Tryz.prog (builtin .append #[26,26] 26 #[false,false] #[(.slice A5 N5 C5),(.slice x2a x2l x2c)]) w1 = .ok (.value (.slice x4a x4l x4c)) w3 ∧ Kd K .normal [eS 1 A1 N1 C1,eS 5 x4a x4l x4c,eI 6 I6,eS 10 A10 N10 C10,eI 11 I11,eI 12 I12] ds w3
theorem t6 : VT 41 p6 (l6 A1 N1 C1 A5 N5 C5 I6 I8 A10 N10 C10 I11 I12) (v6 A1 N1 C1 A5 N5 C5 I6 I8 A10 N10 C10 I11 I12) := tw kt [1,5,6,10,11,12] fun B ds w K => by kernel_rfl
end F37
namespace F38
noncomputable def body : Code := bodyOf Tryz.f38
def kt : List (Nat × List Nat) := [(4,[0,1,5,6,7]),(5,[0,1,5,6,7]),(8,[0,1,5,6,7]),(10,[0,1,5,6,7]),(12,[5,6])]
noncomputable def p1 : Code := sb 4 15 body
noncomputable def p2 : Code := sb 7 116 body
noncomputable def p3 : Code := sb 5 29 body
noncomputable def p4 : Code := sb 9 467 body
noncomputable def p5 : Code := sb 11 1865 body
noncomputable def p6 : Code := sb 12 3731 body
theorem q3 : p3 = .block 0 (.loop p2) := by kernel_rfl
variable (A0 : Option Addr) (N0 C0 : Nat) (A1 : Option Addr) (N1 C1 : Nat) (A5 : Option Addr) (N5 C5 : Nat) (I6 I7 : Int)
abbrev l0 : List (Nat × Value) := [eS 0 A0 N0 C0,eS 1 A1 N1 C1]
def v0 : VP := fun B ds w K => ∃ w1,∃ x2a,∃ x2l,∃ x2c,Sem.run Tryz.prog (Instr.buildSlice 26 0 #[]) w = .ok (.slice x2a x2l x2c) w1 ∧ Wd 53 p3 [eS 0 A0 N0 C0,eS 1 A1 N1 C1,eS 5 x2a x2l x2c,eI 6 0,eI 7 0] ds w1 (thenW Tryz.prog 53 p1 K)
theorem t0 : VZ 53 body (l0 A0 N0 C0 A1 N1 C1) (v0 A0 N0 C0 A1 N1 C1) := tz kt [4] fun B ds w K => by kernel_rfl
theorem call : VCl 38 [.tmp 4] #[.slice A0 N0 C0, .slice A1 N1 C1] (v0 A0 N0 C0 A1 N1 C1) := cz Tryz.func38 (by kernel_rfl) Tryz.ntmps38 Tryz.results38 (by kernel_rfl) (t0 A0 N0 C0 A1 N1 C1)
abbrev l1 : List (Nat × Value) := [eS 5 A5 N5 C5,eI 6 I6]
def v1 : VP := fun B ds w K => ∃ w1,∃ x2a,∃ x2l,∃ x2c,Sem.run Tryz.prog (Instr.buildSlice 26 1 #[(0,(.int .i64 I6))]) w = .ok (.slice x2a x2l x2c) w1 ∧ ∃ w3,∃ x4a,∃ x4l,∃ x4c,Sem.run Tryz.prog (builtin .append #[26,26] 26 #[false,false] #[(.slice A5 N5 C5),(.slice x2a x2l x2c)]) w1 = .ok (.value (.slice x4a x4l x4c)) w3 ∧ Cl 16 #[(.slice x4a x4l x4c)] w3 fun r5 w6 => ∃ x7a,∃ x7l,∃ x7c,r5 = .returned (.slice x7a x7l x7c) ∧ Kd K .ret [eS 4 x7a x7l x7c] ds w6
theorem t1 : VT 53 p1 (l1 A5 N5 C5 I6) (v1 A5 N5 C5 I6) := tw kt [4] fun B ds w K => by kernel_rfl
abbrev l2 : List (Nat × Value) := [eS 0 A0 N0 C0,eS 1 A1 N1 C1,eS 5 A5 N5 C5,eI 6 I6,eI 7 I7]
def v2 : VP := fun B ds w K => bc (decide (I7 < (N0:Int))) (bc (decide (I7 < (N0:Int))) (nc A0 fun b2 o3 => ∃ k1 : Nat,I7 = (k1:Int) ∧ k1 < N0 ∧ ∃ x4,w.cell? ⟨b2,o3 + k1,none⟩ = some (.int .i64 x4) ∧ inI64 (I6 + x4) ∧ Wd 53 p5 [eS 0 A0 N0 C0,eS 1 A1 N1 C1,eS 5 A5 N5 C5,eI 6 (I6 + x4),eI 7 I7] ds w (blockK 1 (thenW Tryz.prog 53 p4 K))) (Wd 53 p5 [eS 0 A0 N0 C0,eS 1 A1 N1 C1,eS 5 A5 N5 C5,eI 6 I6,eI 7 I7] ds w (blockK 1 (thenW Tryz.prog 53 p4 K)))) (bc (decide (I7 < (N1:Int))) (bc (decide (I7 < (N0:Int))) (nc A0 fun b8 o9 => ∃ k7 : Nat,I7 = (k7:Int) ∧ k7 < N0 ∧ ∃ x10,w.cell? ⟨b8,o9 + k7,none⟩ = some (.int .i64 x10) ∧ inI64 (I6 + x10) ∧ Wd 53 p5 [eS 0 A0 N0 C0,eS 1 A1 N1 C1,eS 5 A5 N5 C5,eI 6 (I6 + x10),eI 7 I7] ds w (blockK 1 (thenW Tryz.prog 53 p4 K))) (Wd 53 p5 [eS 0 A0 N0 C0,eS 1 A1 N1 C1,eS 5 A5 N5 C5,eI 6 I6,eI 7 I7] ds w (blockK 1 (thenW Tryz.prog 53 p4 K)))) (Kd K (.exit 0) [eS 0 A0 N0 C0,eS 1 A1 N1 C1,eS 5 A5 N5 C5,eI 6 I6,eI 7 I7] ds w))
theorem t2 : VT 53 p2 (l2 A0 N0 C0 A1 N1 C1 A5 N5 C5 I6 I7) (v2 A0 N0 C0 A1 N1 C1 A5 N5 C5 I6 I7) := tw kt [0,1,5,6,7] fun B ds w K => by kernel_rfl
abbrev l4 : List (Nat × Value) := [eS 0 A0 N0 C0,eS 1 A1 N1 C1,eS 5 A5 N5 C5,eI 6 I6,eI 7 I7]
def v4 : VP := fun B ds w K => inI64 (I7 + 1) ∧ Kd K .normal [eS 0 A0 N0 C0,eS 1 A1 N1 C1,eS 5 A5 N5 C5,eI 6 I6,eI 7 (I7 + 1)] ds w
theorem t4 : VT 53 p4 (l4 A0 N0 C0 A1 N1 C1 A5 N5 C5 I6 I7) (v4 A0 N0 C0 A1 N1 C1 A5 N5 C5 I6 I7) := tw kt [0,1,5,6,7] fun B ds w K => by kernel_rfl
abbrev l5 : List (Nat × Value) := [eS 0 A0 N0 C0,eS 1 A1 N1 C1,eS 5 A5 N5 C5,eI 6 I6,eI 7 I7]
def v5 : VP := fun B ds w K => bc (decide (I7 < (N1:Int))) (nc A1 fun b2 o3 => ∃ k1 : Nat,I7 = (k1:Int) ∧ k1 < N1 ∧ ∃ x4,w.cell? ⟨b2,o3 + k1,none⟩ = some (.int .i64 x4) ∧ inI64 (I6 + x4) ∧ Wd 53 p6 [eS 0 A0 N0 C0,eS 1 A1 N1 C1,eS 5 A5 N5 C5,eI 6 (I6 + x4),eI 7 I7] ds w K) (Wd 53 p6 [eS 0 A0 N0 C0,eS 1 A1 N1 C1,eS 5 A5 N5 C5,eI 6 I6,eI 7 I7] ds w K)
theorem t5 : VT 53 p5 (l5 A0 N0 C0 A1 N1 C1 A5 N5 C5 I6 I7) (v5 A0 N0 C0 A1 N1 C1 A5 N5 C5 I6 I7) := tw kt [0,1,5,6,7] fun B ds w K => by kernel_rfl
abbrev l6 : List (Nat × Value) := [eS 0 A0 N0 C0,eS 1 A1 N1 C1,eS 5 A5 N5 C5,eI 6 I6,eI 7 I7]
def v6 : VP := fun B ds w K => 65536 ≠ (0:Int) ∧ ∃ w1,∃ x2a,∃ x2l,∃ x2c,Sem.run Tryz.prog (Instr.buildSlice 26 1 #[(0,(.int .i64 (iRem I6 65536)))]) w = .ok (.slice x2a x2l x2c) w1 ∧ ∃ w3,∃ x4a,∃ x4l,∃ x4c,Sem.run Tryz.prog (builtin .append #[26,26] 26 #[false,false] #[(.slice A5 N5 C5),(.slice x2a x2l x2c)]) w1 = .ok (.value (.slice x4a x4l x4c)) w3 ∧ 65536 ≠ (0:Int) ∧ Kd K .normal [eS 0 A0 N0 C0,eS 1 A1 N1 C1,eS 5 x4a x4l x4c,eI 6 (iQuo .i64 I6 65536),eI 7 I7] ds w3
theorem t6 : VT 53 p6 (l6 A0 N0 C0 A1 N1 C1 A5 N5 C5 I6 I7) (v6 A0 N0 C0 A1 N1 C1 A5 N5 C5 I6 I7) := tw kt [0,1,5,6,7] fun B ds w K => by kernel_rfl
end F38
namespace F39
noncomputable def body : Code := bodyOf Tryz.f39
def kt : List (Nat × List Nat) := []
variable (I0 : Int)
abbrev l0 : List (Nat × Value) := [eI 0 I0]
def v0 : VP := fun B ds w K => 16 ≠ (0:Int) ∧ inI64 ((iQuo .i64 I0 16) + 1) ∧ ∃ l1 c2 : Nat,((iQuo .i64 I0 16) + 1) = (l1:Int) ∧ ((iQuo .i64 I0 16) + 1) = (c2:Int) ∧ l1 ≤ c2 ∧ 8 * c2 ≤ 281474976710656 ∧ c2 ≤ 281474976710656 ∧ 16 ≠ (0:Int) ∧ 16 ≠ (0:Int) ∧ (0:Int) ≤ (iRem I0 16) ∧ nc (some ⟨(World.heap w).size,0,none⟩) fun b4 o5 => ∃ k3 : Nat,(iQuo .i64 I0 16) = (k3:Int) ∧ k3 < l1 ∧ (∃ u6,World.cell? (World.alloc w (.cells (madeCells #[(Value.int IntKind.i64 0)] c2) 3)) ⟨b4,o5 + k3,none⟩ = some u6) ∧ World.frozen? (World.alloc w (.cells (madeCells #[(Value.int IntKind.i64 0)] c2) 3)) ⟨b4,o5 + k3,none⟩ = false ∧ Kd K .ret [eS 2 (some ⟨(World.heap w).size,0,none⟩) l1 c2] ds (World.setCell (World.alloc w (.cells (madeCells #[(Value.int IntKind.i64 0)] c2) 3)) ⟨b4,o5 + k3,none⟩ (.int .i64 (iShl .i64 1 (iRem I0 16))))
theorem t0 : VZ 16 body (l0 I0) (v0 I0) := tz kt [2] fun B ds w K => by kernel_rfl
theorem call : VCl 39 [.tmp 2] #[.int .i64 I0] (v0 I0) := cz Tryz.func39 (by kernel_rfl) Tryz.ntmps39 Tryz.results39 (by kernel_rfl) (t0 I0)
end F39
namespace F34
noncomputable def body : Code := bodyOf Tryz.f34
def kt : List (Nat × List Nat) := [(3,[3,7,8,9]),(7,[3,4,5,7,8,9]),(8,[3,7,8,9]),(9,[3])]
noncomputable def p1 : Code := sb 3 7 body
noncomputable def p2 : Code := sb 6 52 body
noncomputable def p3 : Code := sb 4 13 body
noncomputable def p4 : Code := sb 9 423 body
noncomputable def p5 : Code := sb 12 3379 body
theorem q3 : p3 = .block 0 (.loop p2) := by kernel_rfl
variable (A0 A3 : Option Addr) (N0 N3 C0 C3 : Nat) (I4 I5 : Int) (A7 : Option Addr) (N7 C7 : Nat) (I8 I9 : Int)
abbrev l0 : List (Nat × Value) := [eS 0 A0 N0 C0]
def v0 : VP := fun B ds w K => ∃ w1,∃ x2a,∃ x2l,∃ x2c,Sem.run Tryz.prog (Instr.buildSlice 22 0 #[]) w = .ok (.slice x2a x2l x2c) w1 ∧ Wd 35 p3 [eS 3 x2a x2l x2c,eS 7 A0 N0 C0,eI 8 (N0:Int),eI 9 0] ds w1 (thenW Tryz.prog 35 p1 K)
theorem t0 : VZ 35 body (l0 A0 N0 C0) (v0 A0 N0 C0) := tz kt [2] fun B ds w K => by kernel_rfl
theorem call : VCl 34 [.tmp 2] #[.slice A0 N0 C0] (v0 A0 N0 C0) := cz Tryz.func34 (by kernel_rfl) Tryz.ntmps34 Tryz.results34 (by kernel_rfl) (t0 A0 N0 C0)
abbrev l1 : List (Nat × Value) := [eS 3 A3 N3 C3]
def v1 : VP := fun B ds w K => Kd K .ret [eS 2 A3 N3 C3] ds w
theorem t1 : VT 35 p1 (l1 A3 N3 C3) (v1 A3 N3 C3) := tw kt [2] fun B ds w K => by kernel_rfl
abbrev l2 : List (Nat × Value) := [eS 3 A3 N3 C3,eS 7 A7 N7 C7,eI 8 I8,eI 9 I9]
def v2 : VP := fun B ds w K => bc (decide (I9 < (I8:Int))) (nc A7 fun b2 o3 => ∃ k1 : Nat,I9 = (k1:Int) ∧ k1 < N7 ∧ ∃ x4,w.cell? ⟨b2,o3 + k1,none⟩ = some (.int .i64 x4) ∧ 4 ≠ (0:Int) ∧ bc ((iRem I9 4) == 0) (∃ w5,∃ x6a,∃ x6l,∃ x6c,Sem.run Tryz.prog (Instr.buildSlice 22 1 #[(0,(.int .u64 0))]) w = .ok (.slice x6a x6l x6c) w5 ∧ ∃ w7,∃ x8a,∃ x8l,∃ x8c,Sem.run Tryz.prog (builtin .append #[22,22] 22 #[false,false] #[(.slice A3 N3 C3),(.slice x6a x6l x6c)]) w5 = .ok (.value (.slice x8a x8l x8c)) w7 ∧ Wd 35 p5 [eS 3 x8a x8l x8c,eI 4 I9,eI 5 x4,eS 7 A7 N7 C7,eI 8 I8,eI 9 I9] ds w7 (blockK 1 (thenW Tryz.prog 35 p4 K))) (Wd 35 p5 [eS 3 A3 N3 C3,eI 4 I9,eI 5 x4,eS 7 A7 N7 C7,eI 8 I8,eI 9 I9] ds w (blockK 1 (thenW Tryz.prog 35 p4 K)))) (Kd K (.exit 0) [eS 3 A3 N3 C3,eS 7 A7 N7 C7,eI 8 I8,eI 9 I9] ds w)
theorem t2 : VT 35 p2 (l2 A3 N3 C3 A7 N7 C7 I8 I9) (v2 A3 N3 C3 A7 N7 C7 I8 I9) := tw kt [3,7,8,9] fun B ds w K => by kernel_rfl
abbrev l4 : List (Nat × Value) := [eS 3 A3 N3 C3,eS 7 A7 N7 C7,eI 8 I8,eI 9 I9]
def v4 : VP := fun B ds w K => inI64 (I9 + 1) ∧ Kd K .normal [eS 3 A3 N3 C3,eS 7 A7 N7 C7,eI 8 I8,eI 9 (I9 + 1)] ds w
theorem t4 : VT 35 p4 (l4 A3 N3 C3 A7 N7 C7 I8 I9) (v4 A3 N3 C3 A7 N7 C7 I8 I9) := tw kt [3,7,8,9] fun B ds w K => by kernel_rfl
abbrev l5 : List (Nat × Value) := [eS 3 A3 N3 C3,eI 4 I4,eI 5 I5,eS 7 A7 N7 C7,eI 8 I8,eI 9 I9]
def v5 : VP := fun B ds w K => 4 ≠ (0:Int) ∧ nc A3 fun b2 o3 => ∃ k1 : Nat,(iQuo .i64 I4 4) = (k1:Int) ∧ k1 < N3 ∧ ∃ x4,w.drew.cell? ⟨b2,o3 + k1,none⟩ = some (.int .u64 x4) ∧ 4 ≠ (0:Int) ∧ inI64 (16 * (iRem I4 4)) ∧ (0:Int) ≤ (16 * (iRem I4 4)) ∧ nc A3 fun b6 o7 => ∃ k5 : Nat,(iQuo .i64 I4 4) = (k5:Int) ∧ k5 < N3 ∧ (∃ u8,w.drew.cell? ⟨b6,o7 + k5,none⟩ = some u8) ∧ w.drew.frozen? ⟨b6,o7 + k5,none⟩ = false ∧ Kd K .normal [eS 3 A3 N3 C3,eS 7 A7 N7 C7,eI 8 I8,eI 9 I9] ds (w.drew.setCell ⟨b6,o7 + k5,none⟩ (.int .u64 (iOr .u64 x4 (iShl .u64 (IntKind.wrap .u64 I5) (16 * (iRem I4 4))))))
theorem t5 : VT 35 p5 (l5 A3 N3 C3 I4 I5 A7 N7 C7 I8 I9) (v5 A3 N3 C3 I4 I5 A7 N7 C7 I8 I9) := tw kt [3,7,8,9] fun B ds w K => by kernel_rfl
end F34
end Go.Proofs.YtlkjiiibmfpbcaaGreatDoor
