/- Verification conditions, printed by wip/gen/gen.py and shrink.py; each is held against vc by the kernel. No condition. -/
import Derived.Test.YtlkjiiibmfpbcaaGreatDoorP05
namespace Go.Proofs.YtlkjiiibmfpbcaaGreatDoor
open Go
set_option maxRecDepth 100000
set_option linter.unusedVariables false
namespace F148
noncomputable def body : Code := bodyOf Tryz.f148
def kt : List (Nat × List Nat) := []
variable (I0 I1 : Int)
abbrev l0 : List (Nat × Value) := [eU 0 I0,eU 1 I1]
def v0 : VP := fun B ds w K => Cl 169 #[(.int .u64 I0),(.int .u64 I1)] w fun r1 w2 => ∃ x3,True ∧ ∃ x4,True ∧ r1 = .returned (.tuple #[(.int .u64 x3),(.int .u64 x4)]) ∧ Kd K .ret [eU 4 x3,eU 5 x4] ds w2
theorem t0 : VZ 30 body (l0 I0 I1) (v0 I0 I1) := tz kt [4,5] fun B ds w K => by kernel_rfl
theorem call : VCl 148 [.tmp 4, .tmp 5] #[.int .u64 I0, .int .u64 I1] (v0 I0 I1) := cz Tryz.func148 (by kernel_rfl) Tryz.ntmps148 Tryz.results148 (by kernel_rfl) (t0 I0 I1)
end F148
namespace F163
noncomputable def body : Code := bodyOf Tryz.f163
def kt : List (Nat × List Nat) := []
variable (I0 I1 I2 : Int)
abbrev l0 : List (Nat × Value) := [eU 0 I0,eU 1 I1,eU 2 I2]
def v0 : VP := fun B ds w K => ∃ w1,∃ x2,True ∧ ∃ x3,True ∧ Sem.run Tryz.prog (callFunc 181 #[(.int .u64 I0),(.int .u64 I1),(.int .u64 I2)]) w = .ok (.value (.tuple #[(.int .u64 x2),(.int .u64 x3)])) w1 ∧ Kd K .ret [eU 6 x2,eU 7 x3] ds w1
theorem t0 : VZ 35 body (l0 I0 I1 I2) (v0 I0 I1 I2) := tz kt [6,7] fun B ds w K => by kernel_rfl
theorem call : VCl 163 [.tmp 6, .tmp 7] #[.int .u64 I0, .int .u64 I1, .int .u64 I2] (v0 I0 I1 I2) := cz Tryz.func163 (by kernel_rfl) Tryz.ntmps163 Tryz.results163 (by kernel_rfl) (t0 I0 I1 I2)
end F163
namespace F122
noncomputable def body : Code := bodyOf Tryz.f122
def kt : List (Nat × List Nat) := []
variable (I0 I1 I2 : Int)
abbrev l0 : List (Nat × Value) := [eU 0 I0,eU 1 I1,eU 2 I2]
def v0 : VP := fun B ds w K => ∃ w1,∃ x2,True ∧ ∃ x3,True ∧ Sem.run Tryz.prog (callFunc 153 #[(.int .u64 I0),(.int .u64 I1),(.int .u64 I2)]) w = .ok (.value (.tuple #[(.int .u64 x2),(.int .u64 x3)])) w1 ∧ Kd K .ret [eU 6 x2,eU 7 x3] ds w1
theorem t0 : VZ 35 body (l0 I0 I1 I2) (v0 I0 I1 I2) := tz kt [6,7] fun B ds w K => by kernel_rfl
theorem call : VCl 122 [.tmp 6, .tmp 7] #[.int .u64 I0, .int .u64 I1, .int .u64 I2] (v0 I0 I1 I2) := cz Tryz.func122 (by kernel_rfl) Tryz.ntmps122 Tryz.results122 (by kernel_rfl) (t0 I0 I1 I2)
end F122
namespace F112
noncomputable def body : Code := bodyOf Tryz.f112
def kt : List (Nat × List Nat) := []
variable (I0 : Int)
abbrev l0 : List (Nat × Value) := [eU 0 I0]
def v0 : VP := fun B ds w K => Cl 84 #[(.int .u64 I0)] w fun r1 w2 => ∃ x3,r1 = .returned (.int .i64 x3) ∧ inI64 (64 - x3) ∧ Kd K .ret [eI 2 (64 - x3)] ds w2
theorem t0 : VZ 6 body (l0 I0) (v0 I0) := tz kt [2] fun B ds w K => by kernel_rfl
theorem call : VCl 112 [.tmp 2] #[.int .u64 I0] (v0 I0) := cz Tryz.func112 (by kernel_rfl) Tryz.ntmps112 Tryz.results112 (by kernel_rfl) (t0 I0)
end F112
namespace F78
noncomputable def body : Code := bodyOf Tryz.f78
def kt : List (Nat × List Nat) := []
variable (I0 : Int)
abbrev l0 : List (Nat × Value) := [eU 0 I0]
def v0 : VP := fun B ds w K => Cl 112 #[(.int .u64 I0)] w fun r1 w2 => ∃ x3,r1 = .returned (.int .i64 x3) ∧ Kd K .ret [eU 2 (IntKind.wrap .u64 x3)] ds w2
theorem t0 : VZ 6 body (l0 I0) (v0 I0) := tz kt [2] fun B ds w K => by kernel_rfl
theorem call : VCl 78 [.tmp 2] #[.int .u64 I0] (v0 I0) := cz Tryz.func78 (by kernel_rfl) Tryz.ntmps78 Tryz.results78 (by kernel_rfl) (t0 I0)
end F78
namespace F113
noncomputable def body : Code := bodyOf Tryz.f113
def kt : List (Nat × List Nat) := []
variable (I0 I1 : Int)
abbrev l0 : List (Nat × Value) := [eU 0 I0,eU 1 I1]
def v0 : VP := fun B ds w K => Cl 148 #[(.int .u64 I0),(.int .u64 I1)] w fun r1 w2 => ∃ x3,True ∧ ∃ x4,True ∧ r1 = .returned (.tuple #[(.int .u64 x3),(.int .u64 x4)]) ∧ Kd K .ret [eU 4 x3,eU 5 x4] ds w2
theorem t0 : VZ 16 body (l0 I0 I1) (v0 I0 I1) := tz kt [4,5] fun B ds w K => by kernel_rfl
theorem call : VCl 113 [.tmp 4, .tmp 5] #[.int .u64 I0, .int .u64 I1] (v0 I0 I1) := cz Tryz.func113 (by kernel_rfl) Tryz.ntmps113 Tryz.results113 (by kernel_rfl) (t0 I0 I1)
end F113
namespace F158
noncomputable def body : Code := bodyOf Tryz.f158
def kt : List (Nat × List Nat) := []
variable (I0 I1 I2 : Int)
abbrev l0 : List (Nat × Value) := [eU 0 I0,eU 1 I1,eU 2 I2]
def v0 : VP := fun B ds w K => Cl 148 #[(.int .u64 I0),(.int .u64 I1)] w fun r1 w2 => ∃ x3,True ∧ ∃ x4,True ∧ r1 = .returned (.tuple #[(.int .u64 x3),(.int .u64 x4)]) ∧ Cl 163 #[(.int .u64 x4),(.int .u64 I2),(.int .u64 0)] w2 fun r5 w6 => ∃ x7,True ∧ ∃ x8,True ∧ r5 = .returned (.tuple #[(.int .u64 x7),(.int .u64 x8)]) ∧ Kd K .ret [eU 6 (IntKind.wrap .u64 (x3 + x8)),eU 7 x7] ds w6
theorem t0 : VZ 27 body (l0 I0 I1 I2) (v0 I0 I1 I2) := tz kt [6,7] fun B ds w K => by kernel_rfl
theorem call : VCl 158 [.tmp 6, .tmp 7] #[.int .u64 I0, .int .u64 I1, .int .u64 I2] (v0 I0 I1 I2) := cz Tryz.func158 (by kernel_rfl) Tryz.ntmps158 Tryz.results158 (by kernel_rfl) (t0 I0 I1 I2)
end F158
namespace F91
noncomputable def body : Code := bodyOf Tryz.f91
def kt : List (Nat × List Nat) := []
variable (A0 : Option Addr) (N0 C0 : Nat) (A1 : Option Addr) (N1 C1 : Nat) (I2 I3 : Int)
abbrev l0 : List (Nat × Value) := [eS 0 A0 N0 C0,eS 1 A1 N1 C1,eU 2 I2,eU 3 I3]
def v0 : VP := fun B ds w K => Cl 127 #[(.slice A0 N0 C0),(.slice A1 N1 C1),(.int .u64 I2),(.int .u64 I3)] w fun r1 w2 => ∃ x3,r1 = .returned (.int .u64 x3) ∧ Kd K .ret [eU 8 x3] ds w2
theorem t0 : VZ 14 body (l0 A0 N0 C0 A1 N1 C1 I2 I3) (v0 A0 N0 C0 A1 N1 C1 I2 I3) := tz kt [8] fun B ds w K => by kernel_rfl
theorem call : VCl 91 [.tmp 8] #[.slice A0 N0 C0, .slice A1 N1 C1, .int .u64 I2, .int .u64 I3] (v0 A0 N0 C0 A1 N1 C1 I2 I3) := cz Tryz.func91 (by kernel_rfl) Tryz.ntmps91 Tryz.results91 (by kernel_rfl) (t0 A0 N0 C0 A1 N1 C1 I2 I3)
end F91
namespace F145
noncomputable def body : Code := bodyOf Tryz.f145
def kt : List (Nat × List Nat) := []
variable (A0 : Option Addr) (N0 C0 : Nat) (A1 : Option Addr) (N1 C1 : Nat) (I2 : Int)
abbrev l0 : List (Nat × Value) := [eS 0 A0 N0 C0,eS 1 A1 N1 C1,eU 2 I2]
def v0 : VP := fun B ds w K => Cl 165 #[(.slice A0 N0 C0),(.slice A1 N1 C1),(.int .u64 I2)] w fun r1 w2 => ∃ x3,r1 = .returned (.int .u64 x3) ∧ Kd K .ret [eU 6 x3] ds w2
theorem t0 : VZ 11 body (l0 A0 N0 C0 A1 N1 C1 I2) (v0 A0 N0 C0 A1 N1 C1 I2) := tz kt [6] fun B ds w K => by kernel_rfl
theorem call : VCl 145 [.tmp 6] #[.slice A0 N0 C0, .slice A1 N1 C1, .int .u64 I2] (v0 A0 N0 C0 A1 N1 C1 I2) := cz Tryz.func145 (by kernel_rfl) Tryz.ntmps145 Tryz.results145 (by kernel_rfl) (t0 A0 N0 C0 A1 N1 C1 I2)
end F145
namespace F147
noncomputable def body : Code := bodyOf Tryz.f147
def kt : List (Nat × List Nat) := []
variable (A0 : Option Addr) (N0 C0 : Nat) (A1 : Option Addr) (N1 C1 : Nat) (I2 : Int)
abbrev l0 : List (Nat × Value) := [eS 0 A0 N0 C0,eS 1 A1 N1 C1,eU 2 I2]
def v0 : VP := fun B ds w K => Cl 167 #[(.slice A0 N0 C0),(.slice A1 N1 C1),(.int .u64 I2)] w fun r1 w2 => ∃ x3,r1 = .returned (.int .u64 x3) ∧ Kd K .ret [eU 6 x3] ds w2
theorem t0 : VZ 11 body (l0 A0 N0 C0 A1 N1 C1 I2) (v0 A0 N0 C0 A1 N1 C1 I2) := tz kt [6] fun B ds w K => by kernel_rfl
theorem call : VCl 147 [.tmp 6] #[.slice A0 N0 C0, .slice A1 N1 C1, .int .u64 I2] (v0 A0 N0 C0 A1 N1 C1 I2) := cz Tryz.func147 (by kernel_rfl) Tryz.ntmps147 Tryz.results147 (by kernel_rfl) (t0 A0 N0 C0 A1 N1 C1 I2)
end F147
namespace F82
noncomputable def body : Code := bodyOf Tryz.f82
def kt : List (Nat × List Nat) := []
variable (A0 : Option Addr) (N0 C0 : Nat) (A1 : Option Addr) (N1 C1 : Nat) (A2 : Option Addr) (N2 C2 : Nat)
abbrev l0 : List (Nat × Value) := [eS 0 A0 N0 C0,eS 1 A1 N1 C1,eS 2 A2 N2 C2]
def v0 : VP := fun B ds w K => Cl 121 #[(.slice A0 N0 C0),(.slice A1 N1 C1),(.slice A2 N2 C2)] w fun r1 w2 => ∃ x3,r1 = .returned (.int .u64 x3) ∧ Kd K .ret [eU 6 x3] ds w2
theorem t0 : VZ 11 body (l0 A0 N0 C0 A1 N1 C1 A2 N2 C2) (v0 A0 N0 C0 A1 N1 C1 A2 N2 C2) := tz kt [6] fun B ds w K => by kernel_rfl
theorem call : VCl 82 [.tmp 6] #[.slice A0 N0 C0, .slice A1 N1 C1, .slice A2 N2 C2] (v0 A0 N0 C0 A1 N1 C1 A2 N2 C2) := cz Tryz.func82 (by kernel_rfl) Tryz.ntmps82 Tryz.results82 (by kernel_rfl) (t0 A0 N0 C0 A1 N1 C1 A2 N2 C2)
end F82
namespace F138
noncomputable def body : Code := bodyOf Tryz.f138
def kt : List (Nat × List Nat) := []
variable (A0 : Option Addr) (N0 C0 : Nat) (A1 : Option Addr) (N1 C1 : Nat) (A2 : Option Addr) (N2 C2 : Nat)
abbrev l0 : List (Nat × Value) := [eS 0 A0 N0 C0,eS 1 A1 N1 C1,eS 2 A2 N2 C2]
def v0 : VP := fun B ds w K => Cl 162 #[(.slice A0 N0 C0),(.slice A1 N1 C1),(.slice A2 N2 C2)] w fun r1 w2 => ∃ x3,r1 = .returned (.int .u64 x3) ∧ Kd K .ret [eU 6 x3] ds w2
theorem t0 : VZ 11 body (l0 A0 N0 C0 A1 N1 C1 A2 N2 C2) (v0 A0 N0 C0 A1 N1 C1 A2 N2 C2) := tz kt [6] fun B ds w K => by kernel_rfl
theorem call : VCl 138 [.tmp 6] #[.slice A0 N0 C0, .slice A1 N1 C1, .slice A2 N2 C2] (v0 A0 N0 C0 A1 N1 C1 A2 N2 C2) := cz Tryz.func138 (by kernel_rfl) Tryz.ntmps138 Tryz.results138 (by kernel_rfl) (t0 A0 N0 C0 A1 N1 C1 A2 N2 C2)
end F138
namespace F146
noncomputable def body : Code := bodyOf Tryz.f146
def kt : List (Nat × List Nat) := []
variable (A0 : Option Addr) (N0 C0 : Nat) (A1 : Option Addr) (N1 C1 : Nat) (A2 : Option Addr) (N2 C2 : Nat) (I3 I4 : Int)
abbrev l0 : List (Nat × Value) := [eS 0 A0 N0 C0,eS 1 A1 N1 C1,eS 2 A2 N2 C2,eU 3 I3,eU 4 I4]
def v0 : VP := fun B ds w K => Cl 166 #[(.slice A0 N0 C0),(.slice A1 N1 C1),(.slice A2 N2 C2),(.int .u64 I3),(.int .u64 I4)] w fun r1 w2 => ∃ x3,r1 = .returned (.int .u64 x3) ∧ Kd K .ret [eU 10 x3] ds w2
theorem t0 : VZ 17 body (l0 A0 N0 C0 A1 N1 C1 A2 N2 C2 I3 I4) (v0 A0 N0 C0 A1 N1 C1 A2 N2 C2 I3 I4) := tz kt [10] fun B ds w K => by kernel_rfl
theorem call : VCl 146 [.tmp 10] #[.slice A0 N0 C0, .slice A1 N1 C1, .slice A2 N2 C2, .int .u64 I3, .int .u64 I4] (v0 A0 N0 C0 A1 N1 C1 A2 N2 C2 I3 I4) := cz Tryz.func146 (by kernel_rfl) Tryz.ntmps146 Tryz.results146 (by kernel_rfl) (t0 A0 N0 C0 A1 N1 C1 A2 N2 C2 I3 I4)
end F146
namespace F84
noncomputable def body : Code := bodyOf Tryz.f84
def kt : List (Nat × List Nat) := []
variable (I0 : Int)
abbrev l0 : List (Nat × Value) := [eU 0 I0]
def v0 : VP := fun B ds w K => Cl 124 #[(.int .u64 I0)] w fun r1 w2 => ∃ x3,r1 = .returned (.int .i64 x3) ∧ Kd K .ret [eI 2 x3] ds w2
theorem t0 : VZ 8 body (l0 I0) (v0 I0) := tz kt [2] fun B ds w K => by kernel_rfl
theorem call : VCl 84 [.tmp 2] #[.int .u64 I0] (v0 I0) := cz Tryz.func84 (by kernel_rfl) Tryz.ntmps84 Tryz.results84 (by kernel_rfl) (t0 I0)
end F84
end Go.Proofs.YtlkjiiibmfpbcaaGreatDoor
namespace Go.Proofs.YtlkjiiibmfpbcaaGreatDoor
open Go
set_option maxRecDepth 100000
set_option linter.unusedVariables false
namespace F183
noncomputable def body : Code := bodyOf Tryz.f183
def kt : List (Nat × List Nat) := []
variable (I0 : Int)
abbrev l0 : List (Nat × Value) := [eU 0 I0]
def v0 : VP := fun B ds w K => Cl 124 #[(.int .u64 I0)] w fun r1 w2 => ∃ x3,r1 = .returned (.int .i64 x3) ∧ inI64 (64 - x3) ∧ Kd K .ret [eI 2 (64 - x3)] ds w2
theorem t0 : VZ 6 body (l0 I0) (v0 I0) := tz kt [2] fun B ds w K => by kernel_rfl
theorem call : VCl 183 [.tmp 2] #[.int .u64 I0] (v0 I0) := cz Tryz.func183 (by kernel_rfl) Tryz.ntmps183 Tryz.results183 (by kernel_rfl) (t0 I0)
end F183
namespace F169
noncomputable def body : Code := bodyOf Tryz.f169
def kt : List (Nat × List Nat) := []
variable (I0 I1 : Int)
abbrev l0 : List (Nat × Value) := [eU 0 I0,eU 1 I1]
def v0 : VP := fun B ds w K => (0:Int) ≤ 32 ∧ (0:Int) ≤ 32 ∧ (0:Int) ≤ 32 ∧ (0:Int) ≤ 32 ∧ (0:Int) ≤ 32 ∧ Kd K .ret [eU 4 (IntKind.wrap .u64 ((IntKind.wrap .u64 ((IntKind.wrap .u64 ((iShr .u64 I0 32) * (iShr .u64 I1 32))) + (iShr .u64 (IntKind.wrap .u64 ((IntKind.wrap .u64 ((iShr .u64 I0 32) * (iAnd .u64 I1 4294967295))) + (iShr .u64 (IntKind.wrap .u64 ((iAnd .u64 I0 4294967295) * (iAnd .u64 I1 4294967295))) 32))) 32))) + (iShr .u64 (IntKind.wrap .u64 ((iAnd .u64 (IntKind.wrap .u64 ((IntKind.wrap .u64 ((iShr .u64 I0 32) * (iAnd .u64 I1 4294967295))) + (iShr .u64 (IntKind.wrap .u64 ((iAnd .u64 I0 4294967295) * (iAnd .u64 I1 4294967295))) 32))) 4294967295) + (IntKind.wrap .u64 ((iAnd .u64 I0 4294967295) * (iShr .u64 I1 32))))) 32))),eU 5 (IntKind.wrap .u64 (I0 * I1))] ds w
theorem t0 : VZ 51 body (l0 I0 I1) (v0 I0 I1) := tz kt [4,5] fun B ds w K => by kernel_rfl
theorem call : VCl 169 [.tmp 4, .tmp 5] #[.int .u64 I0, .int .u64 I1] (v0 I0 I1) := cz Tryz.func169 (by kernel_rfl) Tryz.ntmps169 Tryz.results169 (by kernel_rfl) (t0 I0 I1)
end F169
namespace F124
noncomputable def body : Code := bodyOf Tryz.f124
def kt : List (Nat × List Nat) := [(4,[0,2]),(7,[0,2]),(10,[0,2])]
noncomputable def p1 : Code := sb 2 3 body
noncomputable def p2 : Code := sb 3 7 body
noncomputable def p3 : Code := sb 4 15 body
variable (I0 I2 : Int)
abbrev l0 : List (Nat × Value) := [eU 0 I0]
def v0 : VP := fun B ds w K => bc (decide (I0 ≥ (4294967296:Int))) ((0:Int) ≤ 32 ∧ Wd 25 p1 [eU 0 (iShr .u64 I0 32),eI 2 32] ds w K) (Wd 25 p1 [eU 0 I0,eI 2 0] ds w K)
theorem t0 : VZ 25 body (l0 I0) (v0 I0) := tz kt [2] fun B ds w K => by kernel_rfl
theorem call : VCl 124 [.tmp 2] #[.int .u64 I0] (v0 I0) := cz Tryz.func124 (by kernel_rfl) Tryz.ntmps124 Tryz.results124 (by kernel_rfl) (t0 I0)
abbrev l1 : List (Nat × Value) := [eU 0 I0,eI 2 I2]
def v1 : VP := fun B ds w K => bc (decide (I0 ≥ (65536:Int))) ((0:Int) ≤ 16 ∧ inI64 (I2 + 16) ∧ Wd 25 p2 [eU 0 (iShr .u64 I0 16),eI 2 (I2 + 16)] ds w K) (Wd 25 p2 [eU 0 I0,eI 2 I2] ds w K)
theorem t1 : VT 25 p1 (l1 I0 I2) (v1 I0 I2) := tw kt [2] fun B ds w K => by kernel_rfl
abbrev l2 : List (Nat × Value) := [eU 0 I0,eI 2 I2]
def v2 : VP := fun B ds w K => bc (decide (I0 ≥ (256:Int))) ((0:Int) ≤ 8 ∧ inI64 (I2 + 8) ∧ Wd 25 p3 [eU 0 (iShr .u64 I0 8),eI 2 (I2 + 8)] ds w K) (Wd 25 p3 [eU 0 I0,eI 2 I2] ds w K)
theorem t2 : VT 25 p2 (l2 I0 I2) (v2 I0 I2) := tw kt [2] fun B ds w K => by kernel_rfl
abbrev l3 : List (Nat × Value) := [eU 0 I0,eI 2 I2]
def v3 : VP := fun B ds w K => ∃ (k2 : Nat) (c1 : UInt8),(IntKind.wrap .u8 I0) = (k2:Int) ∧ (strK7)[k2]? = some c1 ∧ inI64 (I2 + (IntKind.wrap .i64 ((c1.toNat : Nat) : Int))) ∧ Kd K .ret [eI 2 (I2 + (IntKind.wrap .i64 ((c1.toNat : Nat) : Int)))] ds w
theorem t3 : VT 25 p3 (l3 I0 I2) (v3 I0 I2) := tw kt [2] fun B ds w K => by kernel_rfl
end F124
namespace F88
noncomputable def body : Code := bodyOf Tryz.f88
def kt : List (Nat × List Nat) := []
variable (I0 : Int)
abbrev l0 : List (Nat × Value) := [eU 0 I0]
def v0 : VP := fun B ds w K => bc (I0 == 0) (Kd K .ret [eI 2 64] ds w) ((0:Int) ≤ 58 ∧ ∃ k2 : Nat,(iShr .u64 (IntKind.wrap .u64 ((iAnd .u64 I0 (IntKind.wrap .u64 (0 - I0))) * 285870213051353865)) 58) = (k2:Int) ∧ k2 < 64 ∧ ∃ x3,w.cell? ⟨7,0 + k2,none⟩ = some (.int .u8 x3) ∧ Kd K .ret [eI 2 (IntKind.wrap .i64 x3)] ds w)
theorem t0 : VZ 14 body (l0 I0) (v0 I0) := tz kt [2] fun B ds w K => by kernel_rfl
theorem call : VCl 88 [.tmp 2] #[.int .u64 I0] (v0 I0) := cz Tryz.func88 (by kernel_rfl) Tryz.ntmps88 Tryz.results88 (by kernel_rfl) (t0 I0)
end F88
namespace F55
noncomputable def body : Code := bodyOf Tryz.f55
def kt : List (Nat × List Nat) := []
variable (I0 : Int)
abbrev l0 : List (Nat × Value) := [eU 0 I0]
def v0 : VP := fun B ds w K => Cl 88 #[(.int .u64 I0)] w fun r1 w2 => ∃ x3,r1 = .returned (.int .i64 x3) ∧ Kd K .ret [eI 2 x3] ds w2
theorem t0 : VZ 8 body (l0 I0) (v0 I0) := tz kt [2] fun B ds w K => by kernel_rfl
theorem call : VCl 55 [.tmp 2] #[.int .u64 I0] (v0 I0) := cz Tryz.func55 (by kernel_rfl) Tryz.ntmps55 Tryz.results55 (by kernel_rfl) (t0 I0)
end F55
namespace F179
noncomputable def body : Code := bodyOf Tryz.f179
def kt : List (Nat × List Nat) := [(3,[0,1,2]),(5,[0,1,2]),(17,[2,8,9,10,11,13,14,15,16]),(21,[2,8,9,10,11,13,14,15]),(24,[2,8,9,10,14,15,16,17,18]),(28,[2,8,14,15,17,18])]
noncomputable def p1 : Code := sb 2 3 body
noncomputable def p2 : Code := sb 3 7 body
noncomputable def p3 : Code := sb 15 32767 body
noncomputable def p4 : Code := sb 17 131064 body
noncomputable def p5 : Code := sb 15 32766 body
noncomputable def p6 : Code := sb 19 524287 body
noncomputable def p7 : Code := sb 21 2097144 body
noncomputable def p8 : Code := sb 19 524286 body
theorem q5 : p5 = .block 0 (.loop p4) := by kernel_rfl
theorem q8 : p8 = .block 2 (.loop p7) := by kernel_rfl
variable (I0 I1 I2 I8 I9 I10 I11 I13 I14 I15 I16 I17 I18 : Int)
abbrev l0 : List (Nat × Value) := [eU 0 I0,eU 1 I1,eU 2 I2]
def v0 : VP := fun B ds w K => bc (I2 == 0) False (Wd 135 p1 [eU 0 I0,eU 1 I1,eU 2 I2] ds w K)
theorem t0 : VZ 135 body (l0 I0 I1 I2) (v0 I0 I1 I2) := tz kt [6,7] fun B ds w K => by kernel_rfl
theorem call : VCl 179 [.tmp 6, .tmp 7] #[.int .u64 I0, .int .u64 I1, .int .u64 I2] (v0 I0 I1 I2) := cz Tryz.func179 (by kernel_rfl) Tryz.ntmps179 Tryz.results179 (by kernel_rfl) (t0 I0 I1 I2)
abbrev l1 : List (Nat × Value) := [eU 0 I0,eU 1 I1,eU 2 I2]
def v1 : VP := fun B ds w K => bc (decide (I2 ≤ (I0:Int))) False (Wd 135 p2 [eU 0 I0,eU 1 I1,eU 2 I2] ds w K)
theorem t1 : VT 135 p1 (l1 I0 I1 I2) (v1 I0 I1 I2) := tw kt [6,7] fun B ds w K => by kernel_rfl
abbrev l2 : List (Nat × Value) := [eU 0 I0,eU 1 I1,eU 2 I2]
def v2 : VP := fun B ds w K => bc (I0 == 0) (I2 ≠ (0:Int) ∧ I2 ≠ (0:Int) ∧ Kd K .ret [eU 6 (iQuo .u64 I1 I2),eU 7 (iRem I1 I2)] ds w.drew) (Cl 183 #[(.int .u64 I2)] w fun r2 w3 => ∃ x4,r2 = .returned (.int .i64 x4) ∧ (0:Int) ≤ (IntKind.wrap .u64 x4) ∧ (0:Int) ≤ 32 ∧ (0:Int) ≤ (IntKind.wrap .u64 x4) ∧ (0:Int) ≤ (IntKind.wrap .u64 (64 - (IntKind.wrap .u64 x4))) ∧ (0:Int) ≤ (IntKind.wrap .u64 x4) ∧ (0:Int) ≤ 32 ∧ (iShr .u64 (iShl .u64 I2 (IntKind.wrap .u64 x4)) 32) ≠ (0:Int) ∧ Wd 135 p5 [eU 2 (iShl .u64 I2 (IntKind.wrap .u64 x4)),eU 8 (IntKind.wrap .u64 x4),eU 9 (iShr .u64 (iShl .u64 I2 (IntKind.wrap .u64 x4)) 32),eU 10 (iAnd .u64 (iShl .u64 I2 (IntKind.wrap .u64 x4)) 4294967295),eU 11 (iOr .u64 (iShl .u64 I0 (IntKind.wrap .u64 x4)) (iShr .u64 I1 (IntKind.wrap .u64 (64 - (IntKind.wrap .u64 x4))))),eU 13 (iShr .u64 (iShl .u64 I1 (IntKind.wrap .u64 x4)) 32),eU 14 (iAnd .u64 (iShl .u64 I1 (IntKind.wrap .u64 x4)) 4294967295),eU 15 (iQuo .u64 (iOr .u64 (iShl .u64 I0 (IntKind.wrap .u64 x4)) (iShr .u64 I1 (IntKind.wrap .u64 (64 - (IntKind.wrap .u64 x4))))) (iShr .u64 (iShl .u64 I2 (IntKind.wrap .u64 x4)) 32)),eU 16 (IntKind.wrap .u64 ((iOr .u64 (iShl .u64 I0 (IntKind.wrap .u64 x4)) (iShr .u64 I1 (IntKind.wrap .u64 (64 - (IntKind.wrap .u64 x4))))) - (IntKind.wrap .u64 ((iQuo .u64 (iOr .u64 (iShl .u64 I0 (IntKind.wrap .u64 x4)) (iShr .u64 I1 (IntKind.wrap .u64 (64 - (IntKind.wrap .u64 x4))))) (iShr .u64 (iShl .u64 I2 (IntKind.wrap .u64 x4)) 32)) * (iShr .u64 (iShl .u64 I2 (IntKind.wrap .u64 x4)) 32)))))] ds w3 (thenW Tryz.prog 135 p3 K))
theorem t2 : VT 135 p2 (l2 I0 I1 I2) (v2 I0 I1 I2) := tw kt [6,7] fun B ds w K => by kernel_rfl
abbrev l3 : List (Nat × Value) := [eU 2 I2,eU 8 I8,eU 9 I9,eU 10 I10,eU 11 I11,eU 13 I13,eU 14 I14,eU 15 I15]
def v3 : VP := fun B ds w K => I9 ≠ (0:Int) ∧ Wd 135 p8 [eU 2 I2,eU 8 I8,eU 9 I9,eU 10 I10,eU 14 I14,eU 15 I15,eU 16 (IntKind.wrap .u64 ((IntKind.wrap .u64 ((IntKind.wrap .u64 ((IntKind.wrap .u64 (I11 * 4294967296)) + I13)) - (IntKind.wrap .u64 (I15 * I2)))) - (IntKind.wrap .u64 ((iQuo .u64 (IntKind.wrap .u64 ((IntKind.wrap .u64 ((IntKind.wrap .u64 (I11 * 4294967296)) + I13)) - (IntKind.wrap .u64 (I15 * I2)))) I9) * I9)))),eU 17 (IntKind.wrap .u64 ((IntKind.wrap .u64 ((IntKind.wrap .u64 (I11 * 4294967296)) + I13)) - (IntKind.wrap .u64 (I15 * I2)))),eU 18 (iQuo .u64 (IntKind.wrap .u64 ((IntKind.wrap .u64 ((IntKind.wrap .u64 (I11 * 4294967296)) + I13)) - (IntKind.wrap .u64 (I15 * I2)))) I9)] ds w (thenW Tryz.prog 135 p6 K)
theorem t3 : VT 135 p3 (l3 I2 I8 I9 I10 I11 I13 I14 I15) (v3 I2 I8 I9 I10 I11 I13 I14 I15) := tw kt [6,7] fun B ds w K => by kernel_rfl
abbrev l4 : List (Nat × Value) := [eU 2 I2,eU 8 I8,eU 9 I9,eU 10 I10,eU 11 I11,eU 13 I13,eU 14 I14,eU 15 I15,eU 16 I16]
def v4 : VP := fun B ds w K => bc (decide (I15 ≥ (4294967296:Int))) (bc (decide ((IntKind.wrap .u64 (I16 + I9)) ≥ (4294967296:Int))) (Kd K (.exit 0) [eU 2 I2,eU 8 I8,eU 9 I9,eU 10 I10,eU 11 I11,eU 13 I13,eU 14 I14,eU 15 (IntKind.wrap .u64 (I15 - 1)),eU 16 (IntKind.wrap .u64 (I16 + I9))] ds w) (Kd K .normal [eU 2 I2,eU 8 I8,eU 9 I9,eU 10 I10,eU 11 I11,eU 13 I13,eU 14 I14,eU 15 (IntKind.wrap .u64 (I15 - 1)),eU 16 (IntKind.wrap .u64 (I16 + I9))] ds w)) (bc (decide ((IntKind.wrap .u64 (I15 * I10)) > ((IntKind.wrap .u64 ((IntKind.wrap .u64 (4294967296 * I16)) + I13)) : Int))) (bc (decide ((IntKind.wrap .u64 (I16 + I9)) ≥ (4294967296:Int))) (Kd K (.exit 0) [eU 2 I2,eU 8 I8,eU 9 I9,eU 10 I10,eU 11 I11,eU 13 I13,eU 14 I14,eU 15 (IntKind.wrap .u64 (I15 - 1)),eU 16 (IntKind.wrap .u64 (I16 + I9))] ds w) (Kd K .normal [eU 2 I2,eU 8 I8,eU 9 I9,eU 10 I10,eU 11 I11,eU 13 I13,eU 14 I14,eU 15 (IntKind.wrap .u64 (I15 - 1)),eU 16 (IntKind.wrap .u64 (I16 + I9))] ds w)) (Kd K (.exit 0) [eU 2 I2,eU 8 I8,eU 9 I9,eU 10 I10,eU 11 I11,eU 13 I13,eU 14 I14,eU 15 I15,eU 16 I16] ds w))
theorem t4 : VT 135 p4 (l4 I2 I8 I9 I10 I11 I13 I14 I15 I16) (v4 I2 I8 I9 I10 I11 I13 I14 I15 I16) := tw kt [2,8,9,10,11,13,14,15,16] fun B ds w K => by kernel_rfl
abbrev l6 : List (Nat × Value) := [eU 2 I2,eU 8 I8,eU 14 I14,eU 15 I15,eU 17 I17,eU 18 I18]
def v6 : VP := fun B ds w K => (0:Int) ≤ I8 ∧ Kd K .ret [eU 6 (IntKind.wrap .u64 ((IntKind.wrap .u64 (I15 * 4294967296)) + I18)),eU 7 (iShr .u64 (IntKind.wrap .u64 ((IntKind.wrap .u64 ((IntKind.wrap .u64 (I17 * 4294967296)) + I14)) - (IntKind.wrap .u64 (I18 * I2)))) I8)] ds w
theorem t6 : VT 135 p6 (l6 I2 I8 I14 I15 I17 I18) (v6 I2 I8 I14 I15 I17 I18) := tw kt [6,7] fun B ds w K => by kernel_rfl
abbrev l7 : List (Nat × Value) := [eU 2 I2,eU 8 I8,eU 9 I9,eU 10 I10,eU 14 I14,eU 15 I15,eU 16 I16,eU 17 I17,eU 18 I18]
def v7 : VP := fun B ds w K => bc (decide (I18 ≥ (4294967296:Int))) (bc (decide ((IntKind.wrap .u64 (I16 + I9)) ≥ (4294967296:Int))) (Kd K (.exit 2) [eU 2 I2,eU 8 I8,eU 9 I9,eU 10 I10,eU 14 I14,eU 15 I15,eU 16 (IntKind.wrap .u64 (I16 + I9)),eU 17 I17,eU 18 (IntKind.wrap .u64 (I18 - 1))] ds w) (Kd K .normal [eU 2 I2,eU 8 I8,eU 9 I9,eU 10 I10,eU 14 I14,eU 15 I15,eU 16 (IntKind.wrap .u64 (I16 + I9)),eU 17 I17,eU 18 (IntKind.wrap .u64 (I18 - 1))] ds w)) (bc (decide ((IntKind.wrap .u64 (I18 * I10)) > ((IntKind.wrap .u64 ((IntKind.wrap .u64 (4294967296 * I16)) + I14)) : Int))) (bc (decide ((IntKind.wrap .u64 (I16 + I9)) ≥ (4294967296:Int))) (Kd K (.exit 2) [eU 2 I2,eU 8 I8,eU 9 I9,eU 10 I10,eU 14 I14,eU 15 I15,eU 16 (IntKind.wrap .u64 (I16 + I9)),eU 17 I17,eU 18 (IntKind.wrap .u64 (I18 - 1))] ds w) (Kd K .normal [eU 2 I2,eU 8 I8,eU 9 I9,eU 10 I10,eU 14 I14,eU 15 I15,eU 16 (IntKind.wrap .u64 (I16 + I9)),eU 17 I17,eU 18 (IntKind.wrap .u64 (I18 - 1))] ds w)) (Kd K (.exit 2) [eU 2 I2,eU 8 I8,eU 9 I9,eU 10 I10,eU 14 I14,eU 15 I15,eU 16 I16,eU 17 I17,eU 18 I18] ds w))
theorem t7 : VT 135 p7 (l7 I2 I8 I9 I10 I14 I15 I16 I17 I18) (v7 I2 I8 I9 I10 I14 I15 I16 I17 I18) := tw kt [2,8,9,10,14,15,16,17,18] fun B ds w K => by kernel_rfl
end F179
namespace F159
noncomputable def body : Code := bodyOf Tryz.f159
def kt : List (Nat × List Nat) := []
variable (I0 I1 I2 : Int)
abbrev l0 : List (Nat × Value) := [eU 0 I0,eU 1 I1,eU 2 I2]
def v0 : VP := fun B ds w K => Cl 179 #[(.int .u64 I0),(.int .u64 I1),(.int .u64 I2)] w fun r1 w2 => ∃ x3,True ∧ ∃ x4,True ∧ r1 = .returned (.tuple #[(.int .u64 x3),(.int .u64 x4)]) ∧ Kd K .ret [eU 6 x3,eU 7 x4] ds w2
theorem t0 : VZ 19 body (l0 I0 I1 I2) (v0 I0 I1 I2) := tz kt [6,7] fun B ds w K => by kernel_rfl
theorem call : VCl 159 [.tmp 6, .tmp 7] #[.int .u64 I0, .int .u64 I1, .int .u64 I2] (v0 I0 I1 I2) := cz Tryz.func159 (by kernel_rfl) Tryz.ntmps159 Tryz.results159 (by kernel_rfl) (t0 I0 I1 I2)
end F159
namespace F160
noncomputable def body : Code := bodyOf Tryz.f160
def kt : List (Nat × List Nat) := []
variable (I0 : Int)
abbrev l0 : List (Nat × Value) := [eU 0 I0]
def v0 : VP := fun B ds w K => Cl 78 #[(.int .u64 I0)] w fun r1 w2 => ∃ x3,r1 = .returned (.int .u64 x3) ∧ (0:Int) ≤ x3 ∧ Cl 159 #[(.int .u64 (iNot .u64 (iShl .u64 I0 x3))),(.int .u64 18446744073709551615),(.int .u64 (iShl .u64 I0 x3))] w2 fun r4 w5 => ∃ x6,True ∧ ∃ x7,True ∧ r4 = .returned (.tuple #[(.int .u64 x6),(.int .u64 x7)]) ∧ Kd K .ret [eU 2 x6] ds w5
theorem t0 : VZ 22 body (l0 I0) (v0 I0) := tz kt [2] fun B ds w K => by kernel_rfl
theorem call : VCl 160 [.tmp 2] #[.int .u64 I0] (v0 I0) := cz Tryz.func160 (by kernel_rfl) Tryz.ntmps160 Tryz.results160 (by kernel_rfl) (t0 I0)
end F160
namespace F161
noncomputable def body : Code := bodyOf Tryz.f161
def kt : List (Nat × List Nat) := [(6,[0,1,2,3,10]),(17,[10,11,16,19]),(20,[10,16,19])]
noncomputable def p1 : Code := sb 3 7 body
noncomputable def p2 : Code := sb 12 4095 body
noncomputable def p3 : Code := sb 13 8191 body
variable (I0 I1 I2 I3 I10 I11 I16 I19 : Int)
abbrev l0 : List (Nat × Value) := [eU 0 I0,eU 1 I1,eU 2 I2,eU 3 I3]
def v0 : VP := fun B ds w K => Cl 78 #[(.int .u64 I2)] w fun r1 w2 => ∃ x3,r1 = .returned (.int .u64 x3) ∧ bc (x3 != 0) ((0:Int) ≤ x3 ∧ (0:Int) ≤ (IntKind.wrap .u64 (64 - x3)) ∧ (0:Int) ≤ x3 ∧ (0:Int) ≤ x3 ∧ Wd 100 p1 [eU 0 (iOr .u64 (iShl .u64 I0 x3) (iShr .u64 I1 (IntKind.wrap .u64 (64 - x3)))),eU 1 (iShl .u64 I1 x3),eU 2 (iShl .u64 I2 x3),eU 3 I3,eU 10 x3] ds w2 K) (Wd 100 p1 [eU 0 I0,eU 1 I1,eU 2 I2,eU 3 I3,eU 10 x3] ds w2 K)
theorem t0 : VZ 100 body (l0 I0 I1 I2 I3) (v0 I0 I1 I2 I3) := tz kt [8,9] fun B ds w K => by kernel_rfl
theorem call : VCl 161 [.tmp 8, .tmp 9] #[.int .u64 I0, .int .u64 I1, .int .u64 I2, .int .u64 I3] (v0 I0 I1 I2 I3) := cz Tryz.func161 (by kernel_rfl) Tryz.ntmps161 Tryz.results161 (by kernel_rfl) (t0 I0 I1 I2 I3)
abbrev l1 : List (Nat × Value) := [eU 0 I0,eU 1 I1,eU 2 I2,eU 3 I3,eU 10 I10]
def v1 : VP := fun B ds w K => Cl 148 #[(.int .u64 I3),(.int .u64 I0)] w fun r1 w2 => ∃ x3,True ∧ ∃ x4,True ∧ r1 = .returned (.tuple #[(.int .u64 x3),(.int .u64 x4)]) ∧ Cl 163 #[(.int .u64 x4),(.int .u64 I1),(.int .u64 0)] w2 fun r5 w6 => ∃ x7,True ∧ ∃ x8,True ∧ r5 = .returned (.tuple #[(.int .u64 x7),(.int .u64 x8)]) ∧ Cl 163 #[(.int .u64 x3),(.int .u64 I0),(.int .u64 x8)] w6 fun r9 w10 => ∃ x11,True ∧ ∃ x12,True ∧ r9 = .returned (.tuple #[(.int .u64 x11),(.int .u64 x12)]) ∧ Cl 148 #[(.int .u64 I2),(.int .u64 x11)] w10 fun r13 w14 => ∃ x15,True ∧ ∃ x16,True ∧ r13 = .returned (.tuple #[(.int .u64 x15),(.int .u64 x16)]) ∧ Cl 122 #[(.int .u64 I1),(.int .u64 x16),(.int .u64 0)] w14 fun r17 w18 => ∃ x19,True ∧ ∃ x20,True ∧ r17 = .returned (.tuple #[(.int .u64 x19),(.int .u64 x20)]) ∧ Cl 122 #[(.int .u64 I0),(.int .u64 x15),(.int .u64 x20)] w18 fun r21 w22 => ∃ x23,True ∧ ∃ x24,True ∧ r21 = .returned (.tuple #[(.int .u64 x23),(.int .u64 x24)]) ∧ bc (x23 != 0) (Wd 100 p2 [eU 10 I10,eU 11 I2,eU 16 (IntKind.wrap .u64 (x11 + 1)),eU 19 (IntKind.wrap .u64 (x19 - I2))] ds w22 K) (Wd 100 p2 [eU 10 I10,eU 11 I2,eU 16 x11,eU 19 x19] ds w22 K)
theorem t1 : VT 100 p1 (l1 I0 I1 I2 I3 I10) (v1 I0 I1 I2 I3 I10) := tw kt [8,9] fun B ds w K => by kernel_rfl
abbrev l2 : List (Nat × Value) := [eU 10 I10,eU 11 I11,eU 16 I16,eU 19 I19]
def v2 : VP := fun B ds w K => bc (decide (I19 ≥ (I11:Int))) (Wd 100 p3 [eU 10 I10,eU 16 (IntKind.wrap .u64 (I16 + 1)),eU 19 (IntKind.wrap .u64 (I19 - I11))] ds w K) (Wd 100 p3 [eU 10 I10,eU 16 I16,eU 19 I19] ds w K)
theorem t2 : VT 100 p2 (l2 I10 I11 I16 I19) (v2 I10 I11 I16 I19) := tw kt [8,9] fun B ds w K => by kernel_rfl
abbrev l3 : List (Nat × Value) := [eU 10 I10,eU 16 I16,eU 19 I19]
def v3 : VP := fun B ds w K => (0:Int) ≤ I10 ∧ Kd K .ret [eU 8 I16,eU 9 (iShr .u64 I19 I10)] ds w
theorem t3 : VT 100 p3 (l3 I10 I16 I19) (v3 I10 I16 I19) := tw kt [8,9] fun B ds w K => by kernel_rfl
end F161
namespace F128
noncomputable def body : Code := bodyOf Tryz.f128
def kt : List (Nat × List Nat) := [(8,[0,2,3,8,11,12]),(11,[8])]
noncomputable def p1 : Code := sb 5 31 body
noncomputable def p2 : Code := sb 8 244 body
noncomputable def p3 : Code := sb 6 61 body
theorem q3 : p3 = .block 0 (.loop p2) := by kernel_rfl
variable (A0 : Option Addr) (N0 C0 : Nat) (I1 : Int) (A2 : Option Addr) (N2 C2 : Nat) (I3 I8 I11 I12 : Int)
abbrev l0 : List (Nat × Value) := [eS 0 A0 N0 C0,eU 1 I1,eS 2 A2 N2 C2,eU 3 I3]
def v0 : VP := fun B ds w K => bc ((N2:Int) == 1) (nc A2 fun b2 o3 => ∃ k1 : Nat,0 = (k1:Int) ∧ k1 < N2 ∧ ∃ x4,w.cell? ⟨b2,o3 + k1,none⟩ = some (.int .u64 x4) ∧ Cl 159 #[(.int .u64 I1),(.int .u64 x4),(.int .u64 I3)] w fun r5 w6 => ∃ x7,True ∧ ∃ x8,True ∧ r5 = .returned (.tuple #[(.int .u64 x7),(.int .u64 x8)]) ∧ nc A0 fun b10 o11 => ∃ k9 : Nat,0 = (k9:Int) ∧ k9 < N0 ∧ (∃ u12,w6.cell? ⟨b10,o11 + k9,none⟩ = some u12) ∧ w6.frozen? ⟨b10,o11 + k9,none⟩ = false ∧ Kd K .ret [eU 8 x8] ds (w6.setCell ⟨b10,o11 + k9,none⟩ (.int .u64 x7))) (Cl 160 #[(.int .u64 I3)] w fun r14 w15 => ∃ x16,r14 = .returned (.int .u64 x16) ∧ inI64 ((N0:Int) - 1) ∧ Wd 54 p3 [eS 0 A0 N0 C0,eS 2 A2 N2 C2,eU 3 I3,eU 8 I1,eU 11 x16,eI 12 ((N0:Int) - 1)] ds w15 (thenW Tryz.prog 54 p1 K))
theorem t0 : VZ 54 body (l0 A0 N0 C0 I1 A2 N2 C2 I3) (v0 A0 N0 C0 I1 A2 N2 C2 I3) := tz kt [8] fun B ds w K => by kernel_rfl
theorem call : VCl 128 [.tmp 8] #[.slice A0 N0 C0, .int .u64 I1, .slice A2 N2 C2, .int .u64 I3] (v0 A0 N0 C0 I1 A2 N2 C2 I3) := cz Tryz.func128 (by kernel_rfl) Tryz.ntmps128 Tryz.results128 (by kernel_rfl) (t0 A0 N0 C0 I1 A2 N2 C2 I3)
abbrev l1 : List (Nat × Value) := [eU 8 I8]
def v1 : VP := fun B ds w K => Kd K .ret [eU 8 I8] ds w
theorem t1 : VT 54 p1 (l1 I8) (v1 I8) := tw kt [8] fun B ds w K => by kernel_rfl
abbrev l2 : List (Nat × Value) := [eS 0 A0 N0 C0,eS 2 A2 N2 C2,eU 3 I3,eU 8 I8,eU 11 I11,eI 12 I12]
def v2 : VP := fun B ds w K => bc (decide (I12 ≥ (0:Int))) (nc A2 fun b2 o3 => ∃ k1 : Nat,I12 = (k1:Int) ∧ k1 < N2 ∧ ∃ x4,w.cell? ⟨b2,o3 + k1,none⟩ = some (.int .u64 x4) ∧ Cl 161 #[(.int .u64 I8),(.int .u64 x4),(.int .u64 I3),(.int .u64 I11)] w fun r5 w6 => ∃ x7,True ∧ ∃ x8,True ∧ r5 = .returned (.tuple #[(.int .u64 x7),(.int .u64 x8)]) ∧ nc A0 fun b10 o11 => ∃ k9 : Nat,I12 = (k9:Int) ∧ k9 < N0 ∧ (∃ u12,w6.cell? ⟨b10,o11 + k9,none⟩ = some u12) ∧ w6.frozen? ⟨b10,o11 + k9,none⟩ = false ∧ inI64 (I12 - 1) ∧ Kd K .normal [eS 0 A0 N0 C0,eS 2 A2 N2 C2,eU 3 I3,eU 8 x8,eU 11 I11,eI 12 (I12 - 1)] ds (w6.setCell ⟨b10,o11 + k9,none⟩ (.int .u64 x7))) (Kd K (.exit 0) [eS 0 A0 N0 C0,eS 2 A2 N2 C2,eU 3 I3,eU 8 I8,eU 11 I11,eI 12 I12] ds w)
theorem t2 : VT 54 p2 (l2 A0 N0 C0 A2 N2 C2 I3 I8 I11 I12) (v2 A0 N0 C0 A2 N2 C2 I3 I8 I11 I12) := tw kt [0,2,3,8,11,12] fun B ds w K => by kernel_rfl
end F128
namespace F93
noncomputable def body : Code := bodyOf Tryz.f93
def kt : List (Nat × List Nat) := [(8,[0,1,2,8])]
noncomputable def p1 : Code := sb 3 7 body
variable (A0 : Option Addr) (N0 C0 : Nat) (A1 : Option Addr) (N1 C1 : Nat) (I2 I8 : Int)
abbrev l0 : List (Nat × Value) := [eS 0 A0 N0 C0,eS 1 A1 N1 C1,eU 2 I2]
def v0 : VP := fun B ds w K => bc (I2 == 0) False (bc (I2 == 1) (Cl 60 #[(.slice A0 N0 C0),(.slice A1 N1 C1)] w fun r1 w2 => ∃ x3a,∃ x3l,∃ x3c,r1 = .returned (.slice x3a x3l x3c) ∧ Kd K .ret [eS 6 x3a x3l x3c,eU 7 0] ds w2) (bc ((N1:Int) == 0) (∃ h6 : Nat,0 = (h6:Int) ∧ h6 ≤ C0 ∧ Kd K .ret [eS 6 A0 h6 C0,eU 7 0] ds w) (Wd 35 p1 [eS 0 A0 N0 C0,eS 1 A1 N1 C1,eU 2 I2,eI 8 (N1:Int)] ds w K)))
theorem t0 : VZ 35 body (l0 A0 N0 C0 A1 N1 C1 I2) (v0 A0 N0 C0 A1 N1 C1 I2) := tz kt [6,7] fun B ds w K => by kernel_rfl
theorem call : VCl 93 [.tmp 6, .tmp 7] #[.slice A0 N0 C0, .slice A1 N1 C1, .int .u64 I2] (v0 A0 N0 C0 A1 N1 C1 I2) := cz Tryz.func93 (by kernel_rfl) Tryz.ntmps93 Tryz.results93 (by kernel_rfl) (t0 A0 N0 C0 A1 N1 C1 I2)
abbrev l1 : List (Nat × Value) := [eS 0 A0 N0 C0,eS 1 A1 N1 C1,eU 2 I2,eI 8 I8]
def v1 : VP := fun B ds w K => Cl 73 #[(.slice A0 N0 C0),(.int .i64 I8)] w fun r1 w2 => ∃ x3a,∃ x3l,∃ x3c,r1 = .returned (.slice x3a x3l x3c) ∧ Cl 128 #[(.slice x3a x3l x3c),(.int .u64 0),(.slice A1 N1 C1),(.int .u64 I2)] w2 fun r4 w5 => ∃ x6,r4 = .returned (.int .u64 x6) ∧ Cl 46 #[(.slice x3a x3l x3c)] w5 fun r7 w8 => ∃ x9a,∃ x9l,∃ x9c,r7 = .returned (.slice x9a x9l x9c) ∧ Kd K .ret [eS 6 x9a x9l x9c,eU 7 x6] ds w8
theorem t1 : VT 35 p1 (l1 A0 N0 C0 A1 N1 C1 I2 I8) (v1 A0 N0 C0 A1 N1 C1 I2 I8) := tw kt [6,7] fun B ds w K => by kernel_rfl
end F93
end Go.Proofs.YtlkjiiibmfpbcaaGreatDoor
