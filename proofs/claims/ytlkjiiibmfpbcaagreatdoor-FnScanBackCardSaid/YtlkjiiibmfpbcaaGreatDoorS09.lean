/- Verification conditions, printed by wip/gen/gen.py and shrink.py; each is held against vc by the kernel. No condition. -/
import Derived.Test.YtlkjiiibmfpbcaaGreatDoorS05
import Derived.Test.YtlkjiiibmfpbcaaGreatDoorS08
import Derived.Test.YtlkjiiibmfpbcaaGreatDoorS07
namespace Go.Proofs.YtlkjiiibmfpbcaaGreatDoor
open Go
set_option maxRecDepth 100000
set_option linter.unusedVariables false
namespace F127
noncomputable def body:Code:=bodyOf Tryz.f127
def kt:List (Nat × List Nat):=[(3,[0,1,2,3]),(5,[0,1,2,8,18,19]),(1000000,[8])]
noncomputable def p1:Code:=sb 2 3 body
noncomputable def p2:Code:=sb 4 15 body
noncomputable def p3:Code:=sb 7 116 body
noncomputable def p4:Code:=sb 5 29 body
theorem q4:p4=.block 0 (.loop p3):=by kernel_rfl
variable (A0:Option Addr) (N0 C0:Nat) (A1:Option Addr) (N1 C1:Nat) (I2 I3 I8 I18 I19:Int)
abbrev l0:List (Nat × Value):=[eS 0 A0 N0 C0,eS 1 A1 N1 C1,eU 2 I2,eU 3 I3]
def v0:VP:=fun B ds w K=>bc ((N1:Int) != (N0:Int)) False (Wd 36 p1 [eS 0 A0 N0 C0,eS 1 A1 N1 C1,eU 2 I2,eU 3 I3] ds w K)
theorem t0:VZ 36 body (l0 A0 N0 C0 A1 N1 C1 I2 I3) (v0 A0 N0 C0 A1 N1 C1 I2 I3):=tz kt [8] fun B ds w K=>by kernel_rfl
theorem call:VCl 127 [.tmp 8] #[.slice A0 N0 C0,.slice A1 N1 C1,.int .u64 I2,.int .u64 I3] (v0 A0 N0 C0 A1 N1 C1 I2 I3):=cz Tryz.func127 (by kernel_rfl) Tryz.ntmps127 Tryz.results127 (by kernel_rfl) (t0 A0 N0 C0 A1 N1 C1 I2 I3)
abbrev l1:List (Nat × Value):=[eS 0 A0 N0 C0,eS 1 A1 N1 C1,eU 2 I2,eU 3 I3]
def v1:VP:=fun B ds w K=>Wd 36 p4 [eS 0 A0 N0 C0,eS 1 A1 N1 C1,eU 2 I2,eU 8 I3,eI 18 (N0:Int),eI 19 0] ds w (thenW Tryz.prog 36 p2 K)
theorem t1:VT 36 p1 (l1 A0 N0 C0 A1 N1 C1 I2 I3) (v1 A0 N0 C0 A1 N1 C1 I2 I3):=tw kt [8] fun B ds w K=>by kernel_rfl
abbrev l2:List (Nat × Value):=[eU 8 I8]
def v2:VP:=fun B ds w K=>Kd K .ret [eU 8 I8] ds w
theorem t2:VT 36 p2 (l2 I8) (v2 I8):=tw kt [8] fun B ds w K=>by kernel_rfl
abbrev l3:List (Nat × Value):=[eS 0 A0 N0 C0,eS 1 A1 N1 C1,eU 2 I2,eU 8 I8,eI 18 I18,eI 19 I19]
def v3:VP:=fun B ds w K=>bc (decide (I19<(I18:Int))) (nc A1 fun b2 o3=>∃ k1:Nat,I19=(k1:Int)∧k1<N1∧∃ x4,w.cell? ⟨b2,o3+k1,none⟩=some (.int .u64 x4)∧Cl 158 #[(.int .u64 x4),(.int .u64 I2),(.int .u64 I8)] w fun r5 w6=>∃ x7,True∧∃ x8,True∧r5=.returned (.tuple #[(.int .u64 x7),(.int .u64 x8)])∧nc A0 fun b10 o11=>∃ k9:Nat,I19=(k9:Int)∧k9<N0∧(∃ u12,w6.cell? ⟨b10,o11+k9,none⟩=some u12)∧w6.frozen? ⟨b10,o11+k9,none⟩=false∧inI64 (I19+1)∧Kd K .normal [eS 0 A0 N0 C0,eS 1 A1 N1 C1,eU 2 I2,eU 8 x7,eI 18 I18,eI 19 (I19+1)] ds (w6.setCell ⟨b10,o11+k9,none⟩ (.int .u64 x8))) (Kd K (.exit 0) [eS 0 A0 N0 C0,eS 1 A1 N1 C1,eU 2 I2,eU 8 I8,eI 18 I18,eI 19 I19] ds w)
theorem t3:VT 36 p3 (l3 A0 N0 C0 A1 N1 C1 I2 I8 I18 I19) (v3 A0 N0 C0 A1 N1 C1 I2 I8 I18 I19):=tw kt [0,1,2,8,18,19] fun B ds w K=>by kernel_rfl
end F127
namespace F162
noncomputable def body:Code:=bodyOf Tryz.f162
def kt:List (Nat × List Nat):=[(3,[0,1,2,6]),(4,[0,1,2,6,24,25]),(1000000,[6])]
noncomputable def p1:Code:=sb 2 3 body
noncomputable def p2:Code:=sb 3 7 body
noncomputable def p3:Code:=sb 6 52 body
noncomputable def p4:Code:=sb 4 13 body
theorem q4:p4=.block 0 (.loop p3):=by kernel_rfl
variable (A0:Option Addr) (N0 C0:Nat) (A1:Option Addr) (N1 C1:Nat) (A2:Option Addr) (N2 C2:Nat) (I6 I24 I25:Int)
abbrev l0:List (Nat × Value):=[eS 0 A0 N0 C0,eS 1 A1 N1 C1,eS 2 A2 N2 C2]
def v0:VP:=fun B ds w K=>bc ((N1:Int) != (N0:Int)) False (bc ((N2:Int) != (N0:Int)) False (Wd 47 p1 [eS 0 A0 N0 C0,eS 1 A1 N1 C1,eS 2 A2 N2 C2,eU 6 0] ds w K))
theorem t0:VZ 47 body (l0 A0 N0 C0 A1 N1 C1 A2 N2 C2) (v0 A0 N0 C0 A1 N1 C1 A2 N2 C2):=tz kt [6] fun B ds w K=>by kernel_rfl
theorem call:VCl 162 [.tmp 6] #[.slice A0 N0 C0,.slice A1 N1 C1,.slice A2 N2 C2] (v0 A0 N0 C0 A1 N1 C1 A2 N2 C2):=cz Tryz.func162 (by kernel_rfl) Tryz.ntmps162 Tryz.results162 (by kernel_rfl) (t0 A0 N0 C0 A1 N1 C1 A2 N2 C2)
abbrev l1:List (Nat × Value):=[eS 0 A0 N0 C0,eS 1 A1 N1 C1,eS 2 A2 N2 C2,eU 6 I6]
def v1:VP:=fun B ds w K=>Wd 47 p4 [eS 0 A0 N0 C0,eS 1 A1 N1 C1,eS 2 A2 N2 C2,eU 6 I6,eI 24 (N0:Int),eI 25 0] ds w (thenW Tryz.prog 47 p2 K)
theorem t1:VT 47 p1 (l1 A0 N0 C0 A1 N1 C1 A2 N2 C2 I6) (v1 A0 N0 C0 A1 N1 C1 A2 N2 C2 I6):=tw kt [6] fun B ds w K=>by kernel_rfl
abbrev l2:List (Nat × Value):=[eU 6 I6]
def v2:VP:=fun B ds w K=>Kd K .ret [eU 6 I6] ds w
theorem t2:VT 47 p2 (l2 I6) (v2 I6):=tw kt [6] fun B ds w K=>by kernel_rfl
abbrev l3:List (Nat × Value):=[eS 0 A0 N0 C0,eS 1 A1 N1 C1,eS 2 A2 N2 C2,eU 6 I6,eI 24 I24,eI 25 I25]
def v3:VP:=fun B ds w K=>bc (decide (I25<(I24:Int))) (nc A1 fun b2 o3=>∃ k1:Nat,I25=(k1:Int)∧k1<N1∧∃ x4,w.drew.cell? ⟨b2,o3+k1,none⟩=some (.int .u64 x4)∧nc A2 fun b6 o7=>∃ k5:Nat,I25=(k5:Int)∧k5<N2∧∃ x8,w.drew.cell? ⟨b6,o7+k5,none⟩=some (.int .u64 x8)∧Cl 163 #[(.int .u64 x4),(.int .u64 x8),(.int .u64 I6)] w.drew fun r9 w10=>∃ x11,True∧∃ x12,True∧r9=.returned (.tuple #[(.int .u64 x11),(.int .u64 x12)])∧nc A0 fun b14 o15=>∃ k13:Nat,I25=(k13:Int)∧k13<N0∧(∃ u16,w10.cell? ⟨b14,o15+k13,none⟩=some u16)∧w10.frozen? ⟨b14,o15+k13,none⟩=false∧inI64 (I25+1)∧Kd K .normal [eS 0 A0 N0 C0,eS 1 A1 N1 C1,eS 2 A2 N2 C2,eU 6 x12,eI 24 I24,eI 25 (I25+1)] ds (w10.setCell ⟨b14,o15+k13,none⟩ (.int .u64 x11))) (Kd K (.exit 0) [eS 0 A0 N0 C0,eS 1 A1 N1 C1,eS 2 A2 N2 C2,eU 6 I6,eI 24 I24,eI 25 I25] ds w)
theorem t3:VT 47 p3 (l3 A0 N0 C0 A1 N1 C1 A2 N2 C2 I6 I24 I25) (v3 A0 N0 C0 A1 N1 C1 A2 N2 C2 I6 I24 I25):=tw kt [0,1,2,6,24,25] fun B ds w K=>by kernel_rfl
end F162
namespace F121
noncomputable def body:Code:=bodyOf Tryz.f121
def kt:List (Nat × List Nat):=[(3,[0,1,2,6]),(4,[0,1,2,6,24,25]),(1000000,[6])]
noncomputable def p1:Code:=sb 2 3 body
noncomputable def p2:Code:=sb 3 7 body
noncomputable def p3:Code:=sb 6 52 body
noncomputable def p4:Code:=sb 4 13 body
theorem q4:p4=.block 0 (.loop p3):=by kernel_rfl
variable (A0:Option Addr) (N0 C0:Nat) (A1:Option Addr) (N1 C1:Nat) (A2:Option Addr) (N2 C2:Nat) (I6 I24 I25:Int)
abbrev l0:List (Nat × Value):=[eS 0 A0 N0 C0,eS 1 A1 N1 C1,eS 2 A2 N2 C2]
def v0:VP:=fun B ds w K=>bc ((N1:Int) != (N0:Int)) False (bc ((N2:Int) != (N0:Int)) False (Wd 47 p1 [eS 0 A0 N0 C0,eS 1 A1 N1 C1,eS 2 A2 N2 C2,eU 6 0] ds w K))
theorem t0:VZ 47 body (l0 A0 N0 C0 A1 N1 C1 A2 N2 C2) (v0 A0 N0 C0 A1 N1 C1 A2 N2 C2):=tz kt [6] fun B ds w K=>by kernel_rfl
theorem call:VCl 121 [.tmp 6] #[.slice A0 N0 C0,.slice A1 N1 C1,.slice A2 N2 C2] (v0 A0 N0 C0 A1 N1 C1 A2 N2 C2):=cz Tryz.func121 (by kernel_rfl) Tryz.ntmps121 Tryz.results121 (by kernel_rfl) (t0 A0 N0 C0 A1 N1 C1 A2 N2 C2)
abbrev l1:List (Nat × Value):=[eS 0 A0 N0 C0,eS 1 A1 N1 C1,eS 2 A2 N2 C2,eU 6 I6]
def v1:VP:=fun B ds w K=>Wd 47 p4 [eS 0 A0 N0 C0,eS 1 A1 N1 C1,eS 2 A2 N2 C2,eU 6 I6,eI 24 (N0:Int),eI 25 0] ds w (thenW Tryz.prog 47 p2 K)
theorem t1:VT 47 p1 (l1 A0 N0 C0 A1 N1 C1 A2 N2 C2 I6) (v1 A0 N0 C0 A1 N1 C1 A2 N2 C2 I6):=tw kt [6] fun B ds w K=>by kernel_rfl
abbrev l2:List (Nat × Value):=[eU 6 I6]
def v2:VP:=fun B ds w K=>Kd K .ret [eU 6 I6] ds w
theorem t2:VT 47 p2 (l2 I6) (v2 I6):=tw kt [6] fun B ds w K=>by kernel_rfl
abbrev l3:List (Nat × Value):=[eS 0 A0 N0 C0,eS 1 A1 N1 C1,eS 2 A2 N2 C2,eU 6 I6,eI 24 I24,eI 25 I25]
def v3:VP:=fun B ds w K=>bc (decide (I25<(I24:Int))) (nc A1 fun b2 o3=>∃ k1:Nat,I25=(k1:Int)∧k1<N1∧∃ x4,w.drew.cell? ⟨b2,o3+k1,none⟩=some (.int .u64 x4)∧nc A2 fun b6 o7=>∃ k5:Nat,I25=(k5:Int)∧k5<N2∧∃ x8,w.drew.cell? ⟨b6,o7+k5,none⟩=some (.int .u64 x8)∧Cl 122 #[(.int .u64 x4),(.int .u64 x8),(.int .u64 I6)] w.drew fun r9 w10=>∃ x11,True∧∃ x12,True∧r9=.returned (.tuple #[(.int .u64 x11),(.int .u64 x12)])∧nc A0 fun b14 o15=>∃ k13:Nat,I25=(k13:Int)∧k13<N0∧(∃ u16,w10.cell? ⟨b14,o15+k13,none⟩=some u16)∧w10.frozen? ⟨b14,o15+k13,none⟩=false∧inI64 (I25+1)∧Kd K .normal [eS 0 A0 N0 C0,eS 1 A1 N1 C1,eS 2 A2 N2 C2,eU 6 x12,eI 24 I24,eI 25 (I25+1)] ds (w10.setCell ⟨b14,o15+k13,none⟩ (.int .u64 x11))) (Kd K (.exit 0) [eS 0 A0 N0 C0,eS 1 A1 N1 C1,eS 2 A2 N2 C2,eU 6 I6,eI 24 I24,eI 25 I25] ds w)
theorem t3:VT 47 p3 (l3 A0 N0 C0 A1 N1 C1 A2 N2 C2 I6 I24 I25) (v3 A0 N0 C0 A1 N1 C1 A2 N2 C2 I6 I24 I25):=tw kt [0,1,2,6,24,25] fun B ds w K=>by kernel_rfl
end F121
namespace F166
noncomputable def body:Code:=bodyOf Tryz.f166
def kt:List (Nat × List Nat):=[(3,[0,1,2,3,4]),(5,[0,1,2,3,10,31,32]),(1000000,[10])]
noncomputable def p1:Code:=sb 2 3 body
noncomputable def p2:Code:=sb 4 15 body
noncomputable def p3:Code:=sb 7 116 body
noncomputable def p4:Code:=sb 5 29 body
theorem q4:p4=.block 0 (.loop p3):=by kernel_rfl
variable (A0:Option Addr) (N0 C0:Nat) (A1:Option Addr) (N1 C1:Nat) (A2:Option Addr) (N2 C2:Nat) (I3 I4 I10 I31 I32:Int)
abbrev l0:List (Nat × Value):=[eS 0 A0 N0 C0,eS 1 A1 N1 C1,eS 2 A2 N2 C2,eU 3 I3,eU 4 I4]
def v0:VP:=fun B ds w K=>bc ((N1:Int) != (N0:Int)) False (bc ((N2:Int) != (N0:Int)) False (Wd 63 p1 [eS 0 A0 N0 C0,eS 1 A1 N1 C1,eS 2 A2 N2 C2,eU 3 I3,eU 4 I4] ds w K))
theorem t0:VZ 63 body (l0 A0 N0 C0 A1 N1 C1 A2 N2 C2 I3 I4) (v0 A0 N0 C0 A1 N1 C1 A2 N2 C2 I3 I4):=tz kt [10] fun B ds w K=>by kernel_rfl
theorem call:VCl 166 [.tmp 10] #[.slice A0 N0 C0,.slice A1 N1 C1,.slice A2 N2 C2,.int .u64 I3,.int .u64 I4] (v0 A0 N0 C0 A1 N1 C1 A2 N2 C2 I3 I4):=cz Tryz.func166 (by kernel_rfl) Tryz.ntmps166 Tryz.results166 (by kernel_rfl) (t0 A0 N0 C0 A1 N1 C1 A2 N2 C2 I3 I4)
abbrev l1:List (Nat × Value):=[eS 0 A0 N0 C0,eS 1 A1 N1 C1,eS 2 A2 N2 C2,eU 3 I3,eU 4 I4]
def v1:VP:=fun B ds w K=>Wd 63 p4 [eS 0 A0 N0 C0,eS 1 A1 N1 C1,eS 2 A2 N2 C2,eU 3 I3,eU 10 I4,eI 31 (N0:Int),eI 32 0] ds w (thenW Tryz.prog 63 p2 K)
theorem t1:VT 63 p1 (l1 A0 N0 C0 A1 N1 C1 A2 N2 C2 I3 I4) (v1 A0 N0 C0 A1 N1 C1 A2 N2 C2 I3 I4):=tw kt [10] fun B ds w K=>by kernel_rfl
abbrev l2:List (Nat × Value):=[eU 10 I10]
def v2:VP:=fun B ds w K=>Kd K .ret [eU 10 I10] ds w
theorem t2:VT 63 p2 (l2 I10) (v2 I10):=tw kt [10] fun B ds w K=>by kernel_rfl
abbrev l3:List (Nat × Value):=[eS 0 A0 N0 C0,eS 1 A1 N1 C1,eS 2 A2 N2 C2,eU 3 I3,eU 10 I10,eI 31 I31,eI 32 I32]
def v3:VP:=fun B ds w K=>bc (decide (I32<(I31:Int))) (nc A2 fun b2 o3=>∃ k1:Nat,I32=(k1:Int)∧k1<N2∧∃ x4,w.drew.cell? ⟨b2,o3+k1,none⟩=some (.int .u64 x4)∧nc A1 fun b6 o7=>∃ k5:Nat,I32=(k5:Int)∧k5<N1∧∃ x8,w.drew.cell? ⟨b6,o7+k5,none⟩=some (.int .u64 x8)∧Cl 158 #[(.int .u64 x4),(.int .u64 I3),(.int .u64 x8)] w.drew fun r9 w10=>∃ x11,True∧∃ x12,True∧r9=.returned (.tuple #[(.int .u64 x11),(.int .u64 x12)])∧Cl 163 #[(.int .u64 x12),(.int .u64 I10),(.int .u64 0)] w10 fun r13 w14=>∃ x15,True∧∃ x16,True∧r13=.returned (.tuple #[(.int .u64 x15),(.int .u64 x16)])∧nc A0 fun b18 o19=>∃ k17:Nat,I32=(k17:Int)∧k17<N0∧(∃ u20,w14.cell? ⟨b18,o19+k17,none⟩=some u20)∧w14.frozen? ⟨b18,o19+k17,none⟩=false∧inI64 (I32+1)∧Kd K .normal [eS 0 A0 N0 C0,eS 1 A1 N1 C1,eS 2 A2 N2 C2,eU 3 I3,eU 10 (IntKind.wrap .u64 (x16+x11)),eI 31 I31,eI 32 (I32+1)] ds (w14.setCell ⟨b18,o19+k17,none⟩ (.int .u64 x15))) (Kd K (.exit 0) [eS 0 A0 N0 C0,eS 1 A1 N1 C1,eS 2 A2 N2 C2,eU 3 I3,eU 10 I10,eI 31 I31,eI 32 I32] ds w)
theorem t3:VT 63 p3 (l3 A0 N0 C0 A1 N1 C1 A2 N2 C2 I3 I10 I31 I32) (v3 A0 N0 C0 A1 N1 C1 A2 N2 C2 I3 I10 I31 I32):=tw kt [0,1,2,3,10,31,32] fun B ds w K=>by kernel_rfl
end F166
namespace F165
noncomputable def body:Code:=bodyOf Tryz.f165
def kt:List (Nat × List Nat):=[(3,[0,1,2,6]),(11,[0,1,2,6,7,8]),(14,[0,1,2,6])]
noncomputable def p1:Code:=sb 2 3 body
noncomputable def p2:Code:=sb 9 511 body
noncomputable def p3:Code:=sb 12 4084 body
noncomputable def p4:Code:=sb 10 1021 body
theorem q4:p4=.block 0 (.loop p3):=by kernel_rfl
variable (A0:Option Addr) (N0 C0:Nat) (A1:Option Addr) (N1 C1:Nat) (I2 I6 I7 I8:Int)
abbrev l0:List (Nat × Value):=[eS 0 A0 N0 C0,eS 1 A1 N1 C1,eU 2 I2]
def v0:VP:=fun B ds w K=>bc ((N1:Int) != (N0:Int)) False (Wd 68 p1 [eS 0 A0 N0 C0,eS 1 A1 N1 C1,eU 2 I2,eU 6 0] ds w K)
theorem t0:VZ 68 body (l0 A0 N0 C0 A1 N1 C1 I2) (v0 A0 N0 C0 A1 N1 C1 I2):=tz kt [6] fun B ds w K=>by kernel_rfl
theorem call:VCl 165 [.tmp 6] #[.slice A0 N0 C0,.slice A1 N1 C1,.int .u64 I2] (v0 A0 N0 C0 A1 N1 C1 I2):=cz Tryz.func165 (by kernel_rfl) Tryz.ntmps165 Tryz.results165 (by kernel_rfl) (t0 A0 N0 C0 A1 N1 C1 I2)
abbrev l1:List (Nat × Value):=[eS 0 A0 N0 C0,eS 1 A1 N1 C1,eU 2 I2,eU 6 I6]
def v1:VP:=fun B ds w K=>bc (I2==0) (∃ w1,∃ x2,Sem.run Tryz.prog (builtin .copy #[44,44] 3 #[false,false] #[(.slice A0 N0 C0),(.slice A1 N1 C1)]) w=.ok (.value (.int .i64 x2)) w1∧Kd K .ret [eU 6 I6] ds w1) (bc ((N0:Int)==0) (Kd K .ret [eU 6 I6] ds w) (inI64 ((N0:Int)-1)∧nc A1 fun b6 o7=>∃ k5:Nat,((N0:Int)-1)=(k5:Int)∧k5<N1∧∃ x8,w.cell? ⟨b6,o7+k5,none⟩=some (.int .u64 x8)∧(0:Int)≤(iAnd .u64 (IntKind.wrap .u64 (64-(iAnd .u64 I2 63))) 63)∧inI64 ((N0:Int)-1)∧Wd 68 p4 [eS 0 A0 N0 C0,eS 1 A1 N1 C1,eU 2 (iAnd .u64 I2 63),eU 6 (iShr .u64 x8 (iAnd .u64 (IntKind.wrap .u64 (64-(iAnd .u64 I2 63))) 63)),eU 7 (iAnd .u64 (IntKind.wrap .u64 (64-(iAnd .u64 I2 63))) 63),eI 8 ((N0:Int)-1)] ds w (thenW Tryz.prog 68 p2 K)))
theorem t1:VT 68 p1 (l1 A0 N0 C0 A1 N1 C1 I2 I6) (v1 A0 N0 C0 A1 N1 C1 I2 I6):=tw kt [6] fun B ds w K=>by kernel_rfl
abbrev l2:List (Nat × Value):=[eS 0 A0 N0 C0,eS 1 A1 N1 C1,eU 2 I2,eU 6 I6]
def v2:VP:=fun B ds w K=>nc A1 fun b2 o3=>∃ k1:Nat,0=(k1:Int)∧k1<N1∧∃ x4,w.cell? ⟨b2,o3+k1,none⟩=some (.int .u64 x4)∧(0:Int)≤I2∧nc A0 fun b6 o7=>∃ k5:Nat,0=(k5:Int)∧k5<N0∧(∃ u8,w.cell? ⟨b6,o7+k5,none⟩=some u8)∧w.frozen? ⟨b6,o7+k5,none⟩=false∧Kd K .ret [eU 6 I6] ds (w.setCell ⟨b6,o7+k5,none⟩ (.int .u64 (iShl .u64 x4 I2)))
theorem t2:VT 68 p2 (l2 A0 N0 C0 A1 N1 C1 I2 I6) (v2 A0 N0 A1 N1 I2 I6):=tw kt [6] fun B ds w K=>by kernel_rfl
abbrev l3:List (Nat × Value):=[eS 0 A0 N0 C0,eS 1 A1 N1 C1,eU 2 I2,eU 6 I6,eU 7 I7,eI 8 I8]
def v3:VP:=fun B ds w K=>bc (decide (I8>(0:Int))) (nc A1 fun b2 o3=>∃ k1:Nat,I8=(k1:Int)∧k1<N1∧∃ x4,w.drew.cell? ⟨b2,o3+k1,none⟩=some (.int .u64 x4)∧(0:Int)≤I2∧inI64 (I8-1)∧nc A1 fun b6 o7=>∃ k5:Nat,(I8-1)=(k5:Int)∧k5<N1∧∃ x8,w.drew.cell? ⟨b6,o7+k5,none⟩=some (.int .u64 x8)∧(0:Int)≤I7∧nc A0 fun b10 o11=>∃ k9:Nat,I8=(k9:Int)∧k9<N0∧(∃ u12,w.drew.cell? ⟨b10,o11+k9,none⟩=some u12)∧w.drew.frozen? ⟨b10,o11+k9,none⟩=false∧inI64 (I8-1)∧Kd K .normal [eS 0 A0 N0 C0,eS 1 A1 N1 C1,eU 2 I2,eU 6 I6,eU 7 I7,eI 8 (I8-1)] ds (w.drew.setCell ⟨b10,o11+k9,none⟩ (.int .u64 (iOr .u64 (iShl .u64 x4 I2) (iShr .u64 x8 I7))))) (Kd K (.exit 0) [eS 0 A0 N0 C0,eS 1 A1 N1 C1,eU 2 I2,eU 6 I6,eU 7 I7,eI 8 I8] ds w)
theorem t3:VT 68 p3 (l3 A0 N0 C0 A1 N1 C1 I2 I6 I7 I8) (v3 A0 N0 C0 A1 N1 C1 I2 I6 I7 I8):=tw kt [0,1,2,6,7,8] fun B ds w K=>by kernel_rfl
end F165
namespace F167
noncomputable def body:Code:=bodyOf Tryz.f167
def kt:List (Nat × List Nat):=[(3,[0,1,2,6]),(11,[0,1,2,6,7,8]),(14,[0,1,2,6])]
noncomputable def p1:Code:=sb 2 3 body
noncomputable def p2:Code:=sb 9 511 body
noncomputable def p3:Code:=sb 12 4084 body
noncomputable def p4:Code:=sb 10 1021 body
theorem q4:p4=.block 0 (.loop p3):=by kernel_rfl
variable (A0:Option Addr) (N0 C0:Nat) (A1:Option Addr) (N1 C1:Nat) (I2 I6 I7 I8:Int)
abbrev l0:List (Nat × Value):=[eS 0 A0 N0 C0,eS 1 A1 N1 C1,eU 2 I2]
def v0:VP:=fun B ds w K=>bc ((N1:Int) != (N0:Int)) False (Wd 71 p1 [eS 0 A0 N0 C0,eS 1 A1 N1 C1,eU 2 I2,eU 6 0] ds w K)
theorem t0:VZ 71 body (l0 A0 N0 C0 A1 N1 C1 I2) (v0 A0 N0 C0 A1 N1 C1 I2):=tz kt [6] fun B ds w K=>by kernel_rfl
theorem call:VCl 167 [.tmp 6] #[.slice A0 N0 C0,.slice A1 N1 C1,.int .u64 I2] (v0 A0 N0 C0 A1 N1 C1 I2):=cz Tryz.func167 (by kernel_rfl) Tryz.ntmps167 Tryz.results167 (by kernel_rfl) (t0 A0 N0 C0 A1 N1 C1 I2)
abbrev l1:List (Nat × Value):=[eS 0 A0 N0 C0,eS 1 A1 N1 C1,eU 2 I2,eU 6 I6]
def v1:VP:=fun B ds w K=>bc (I2==0) (∃ w1,∃ x2,Sem.run Tryz.prog (builtin .copy #[44,44] 3 #[false,false] #[(.slice A0 N0 C0),(.slice A1 N1 C1)]) w=.ok (.value (.int .i64 x2)) w1∧Kd K .ret [eU 6 I6] ds w1) (bc ((N0:Int)==0) (Kd K .ret [eU 6 I6] ds w) (nc A1 fun b6 o7=>∃ k5:Nat,0=(k5:Int)∧k5<N1∧∃ x8,w.cell? ⟨b6,o7+k5,none⟩=some (.int .u64 x8)∧(0:Int)≤(iAnd .u64 (IntKind.wrap .u64 (64-(iAnd .u64 I2 63))) 63)∧Wd 71 p4 [eS 0 A0 N0 C0,eS 1 A1 N1 C1,eU 2 (iAnd .u64 I2 63),eU 6 (iShl .u64 x8 (iAnd .u64 (IntKind.wrap .u64 (64-(iAnd .u64 I2 63))) 63)),eU 7 (iAnd .u64 (IntKind.wrap .u64 (64-(iAnd .u64 I2 63))) 63),eI 8 1] ds w (thenW Tryz.prog 71 p2 K)))
theorem t1:VT 71 p1 (l1 A0 N0 C0 A1 N1 C1 I2 I6) (v1 A0 N0 C0 A1 N1 C1 I2 I6):=tw kt [6] fun B ds w K=>by kernel_rfl
abbrev l2:List (Nat × Value):=[eS 0 A0 N0 C0,eS 1 A1 N1 C1,eU 2 I2,eU 6 I6]
def v2:VP:=fun B ds w K=>inI64 ((N0:Int)-1)∧inI64 ((N0:Int)-1)∧nc A1 fun b2 o3=>∃ k1:Nat,((N0:Int)-1)=(k1:Int)∧k1<N1∧∃ x4,w.cell? ⟨b2,o3+k1,none⟩=some (.int .u64 x4)∧(0:Int)≤I2∧nc A0 fun b6 o7=>∃ k5:Nat,((N0:Int)-1)=(k5:Int)∧k5<N0∧(∃ u8,w.cell? ⟨b6,o7+k5,none⟩=some u8)∧w.frozen? ⟨b6,o7+k5,none⟩=false∧Kd K .ret [eU 6 I6] ds (w.setCell ⟨b6,o7+k5,none⟩ (.int .u64 (iShr .u64 x4 I2)))
theorem t2:VT 71 p2 (l2 A0 N0 C0 A1 N1 C1 I2 I6) (v2 A0 N0 A1 N1 I2 I6):=tw kt [6] fun B ds w K=>by kernel_rfl
abbrev l3:List (Nat × Value):=[eS 0 A0 N0 C0,eS 1 A1 N1 C1,eU 2 I2,eU 6 I6,eU 7 I7,eI 8 I8]
def v3:VP:=fun B ds w K=>bc (decide (I8<(N0:Int))) (inI64 (I8-1)∧inI64 (I8-1)∧nc A1 fun b2 o3=>∃ k1:Nat,(I8-1)=(k1:Int)∧k1<N1∧∃ x4,w.drew.cell? ⟨b2,o3+k1,none⟩=some (.int .u64 x4)∧(0:Int)≤I2∧nc A1 fun b6 o7=>∃ k5:Nat,I8=(k5:Int)∧k5<N1∧∃ x8,w.drew.cell? ⟨b6,o7+k5,none⟩=some (.int .u64 x8)∧(0:Int)≤I7∧nc A0 fun b10 o11=>∃ k9:Nat,(I8-1)=(k9:Int)∧k9<N0∧(∃ u12,w.drew.cell? ⟨b10,o11+k9,none⟩=some u12)∧w.drew.frozen? ⟨b10,o11+k9,none⟩=false∧inI64 (I8+1)∧Kd K .normal [eS 0 A0 N0 C0,eS 1 A1 N1 C1,eU 2 I2,eU 6 I6,eU 7 I7,eI 8 (I8+1)] ds (w.drew.setCell ⟨b10,o11+k9,none⟩ (.int .u64 (iOr .u64 (iShr .u64 x4 I2) (iShl .u64 x8 I7))))) (Kd K (.exit 0) [eS 0 A0 N0 C0,eS 1 A1 N1 C1,eU 2 I2,eU 6 I6,eU 7 I7,eI 8 I8] ds w)
theorem t3:VT 71 p3 (l3 A0 N0 C0 A1 N1 C1 I2 I6 I7 I8) (v3 A0 N0 C0 A1 N1 C1 I2 I6 I7 I8):=tw kt [0,1,2,6,7,8] fun B ds w K=>by kernel_rfl
end F167
end Go.Proofs.YtlkjiiibmfpbcaaGreatDoor
namespace Go.Proofs.YtlkjiiibmfpbcaaGreatDoor
open Go
def VecR (w:World) (z:Sl) (T:Nat→Nat→Prop) (v:Value) (w':World):Prop :=
 ∃ c Z:Nat,v=.int .u64 (c:Int)∧T c Z∧Z<BB^z.l∧Sg w' z.b z.o z.l Z∧Chg w w' (inR z.b z.o (z.o+z.l))
abbrev Vec (w:World) (z:Sl) (T:Nat→Nat→Prop) (e:Ending) (w':World):Prop:=∃ v,e=.returned v∧VecR w z T v w'
theorem Vec.pass {f:FuncId} {args:Array Value} {w:World} {z:Sl} {T:Nat→Nat→Prop} {Q:Ending→World→Prop} (h:Calls Tryz.prog f args w (Vec w z T)) (q:∀ c Z w',T c Z→Z<BB^z.l→Sg w' z.b z.o z.l Z→Chg w w' (inR z.b z.o (z.o+z.l))→Q (.returned (.int .u64 (c:Nat))) w') :
  Calls Tryz.prog f args w Q:=h.mono fun e w' ⟨v,h1,c,Z,h2,h3,h4,h5,h6⟩=>by subst h1; subst h2; exact q c Z w' h3 h4 h5 h6
theorem c162 (z x y:Sl) (X Y:Nat) (w:World) (hz:Wt w z) (hx:Rd w x X) (hy:Rd w y Y) (lx:x.l=z.l) (ly:y.l=z.l) (ox:Ov z x) (oy:Ov z y) :
  Calls Tryz.prog 162 #[z.v,x.v,y.v] w (Vec w z fun c Z=>Z+BB^z.l*c=X+Y∧c≤1):=by
 have lm:=hz.lm
 refine F162.call z.a z.l z.c x.a x.l x.c y.a y.l y.c w _
  fun B=>bc_false (neF (by omega)) (bc_false (neF (by omega)) fun B1=>F162.t1 _ _ _ _ _ _ _ _ _ _ ⟨rfl,rfl,rfl,rfl,trivial⟩ fun B2 B3=>?_)
 rw [F162.q4]
 refine W_for (σ:=Nat × Nat × Nat)
  (fun s=>[(0,z.v),(1,x.v),(2,y.v),(6,.int .u64 (s.2.1:Int)),(24,.int .i64 (z.l:Int)),(25,.int .i64 (s.1:Int))])
  (fun s wr=>s.1≤z.l∧s.2.1≤1∧s.2.2<BB^s.1∧s.2.2+BB^s.1*s.2.1=X%BB^s.1+Y%BB^s.1∧Sg wr z.b z.o s.1 s.2.2∧Chg w wr (inR z.b z.o (z.o+s.1)))
  (fun s=>z.l-s.1) (0,0,0) ⟨rfl,rfl,rfl,rfl,rfl,rfl,trivial⟩
  ⟨Nat.zero_le _,Nat.zero_le _,by simp,by simp [Nat.mod_one],Sg.zero,Chg.refl _ _⟩ ?_
 rintro ⟨k,c,Z⟩ B wr ⟨hk,hc,hZ,hS,hsg,hch⟩
 simp only at hk hc hZ hS hsg hch
 refine F162.t3 z.a z.l z.c x.a x.l x.c y.a y.l y.c c z.l k ⟨rfl,rfl,rfl,rfl,rfl,rfl,trivial⟩ fun B1=>bc_intro (fun hb=>?_) (fun hb B2=>?_)
 ·have hlt:k<z.l:=by have:=dT hb; omega
  refine rdC (hx.at_ (by omega)) rfl (by omega) (chgAt hch.drew hx (by omega) (ox.not (Nat.le_refl k) (by omega))) ?_
  refine rdC (hy.at_ (by omega)) rfl (by omega) (chgAt hch.drew hy (by omega) (oy.not (Nat.le_refl k) (by omega))) ?_
  refine (c163 (dg X k) (dg Y k) c hc wr.drew).mono ?_
  rintro e w1 ⟨rfl,rfl⟩
  refine ⟨_,trivial,_,trivial,rfl,wtC (hch.drew.wt hz) rfl hlt ⟨by unfold inI64; omega,fun B3=>?_⟩⟩
  have hp:=hch.own (hz.pl (by omega))
  have hu:=(hch.wr hz.wr k hlt).1
  have dx:=dg_lt' X k
  have dy:=dg_lt' Y k
  refine ⟨(k+1,(dg X k+dg Y k+c)/18446744073709551616,Z+BB^k*((dg X k+dg Y k+c)%18446744073709551616)),⟨rfl,rfl,rfl,rfl,rfl,rfl,trivial⟩,rfl,⟨hlt,?_,dlt hZ (Nat.mod_lt _ (by omega)),?_,hsg.step hZ (Nat.mod_lt _ (by omega)) rfl hp hu,hch.step rfl hp⟩,?_⟩
  ·show (dg X k+dg Y k+c)/18446744073709551616≤1
   omega
  ·show Z+BB^k*((dg X k+dg Y k+c)%18446744073709551616)+BB^(k+1)*((dg X k+dg Y k+c)/18446744073709551616)=X%BB^(k+1)+Y%BB^(k+1)
   rw [mod_succ,mod_succ]
   have h6:=dsum (BB^k) (dg X k+dg Y k+c)
   rw [←BBpow_succ,Nat.mul_add,Nat.mul_add] at h6
   omega
  ·show z.l-(k+1)<z.l-k
   omega
 ·have hk':k=z.l:=by have:=dF hb; omega
  subst hk'
  refine F162.t2 _ ⟨rfl,trivial⟩ fun B3 B4=>ret1 rfl rfl ⟨c,Z,rfl,⟨?_,hc⟩,hZ,hsg,hch⟩
  rw [hS,Nat.mod_eq_of_lt (by rw [←lx]; exact hx.lt),Nat.mod_eq_of_lt (by rw [←ly]; exact hy.lt)]
theorem c138 (z x y:Sl) (X Y:Nat) (w:World) (hz:Wt w z) (hx:Rd w x X) (hy:Rd w y Y) (lx:x.l=z.l) (ly:y.l=z.l) (ox:Ov z x) (oy:Ov z y) :
  Calls Tryz.prog 138 #[z.v,x.v,y.v] w (Vec w z fun c Z=>Z+BB^z.l*c=X+Y∧c≤1) :=
 F138.call z.a z.l z.c x.a x.l x.c y.a y.l y.c w _ fun B=>Vec.pass (c162 z x y X Y w hz hx hy lx ly ox oy) fun c Z w' a1 a2 a3 a4=>⟨_,rfl,fun B=>ret1 rfl rfl ⟨c,Z,rfl,a1,a2,a3,a4⟩⟩
theorem c121 (z x y:Sl) (X Y:Nat) (w:World) (hz:Wt w z) (hx:Rd w x X) (hy:Rd w y Y) (lx:x.l=z.l) (ly:y.l=z.l) (ox:Ov z x) (oy:Ov z y) :
  Calls Tryz.prog 121 #[z.v,x.v,y.v] w (Vec w z fun c Z=>Z+Y=X+BB^z.l*c∧c≤1):=by
 have lm:=hz.lm
 refine F121.call z.a z.l z.c x.a x.l x.c y.a y.l y.c w _
  fun B=>bc_false (neF (by omega)) (bc_false (neF (by omega)) fun B1=>F121.t1 _ _ _ _ _ _ _ _ _ _ ⟨rfl,rfl,rfl,rfl,trivial⟩ fun B2 B3=>?_)
 rw [F121.q4]
 refine W_for (σ:=Nat × Nat × Nat)
  (fun s=>[(0,z.v),(1,x.v),(2,y.v),(6,.int .u64 (s.2.1:Int)),(24,.int .i64 (z.l:Int)),(25,.int .i64 (s.1:Int))])
  (fun s wr=>s.1≤z.l∧s.2.1≤1∧s.2.2<BB^s.1∧s.2.2+Y%BB^s.1=X%BB^s.1+BB^s.1*s.2.1∧Sg wr z.b z.o s.1 s.2.2∧Chg w wr (inR z.b z.o (z.o+s.1)))
  (fun s=>z.l-s.1) (0,0,0) ⟨rfl,rfl,rfl,rfl,rfl,rfl,trivial⟩
  ⟨Nat.zero_le _,Nat.zero_le _,by simp,by simp [Nat.mod_one],Sg.zero,Chg.refl _ _⟩ ?_
 rintro ⟨k,c,Z⟩ B wr ⟨hk,hc,hZ,hS,hsg,hch⟩
 simp only at hk hc hZ hS hsg hch
 refine F121.t3 z.a z.l z.c x.a x.l x.c y.a y.l y.c c z.l k ⟨rfl,rfl,rfl,rfl,rfl,rfl,trivial⟩ fun B1=>bc_intro (fun hb=>?_) (fun hb B2=>?_)
 ·have hlt:k<z.l:=by have:=dT hb; omega
  have dx:=dg_lt' X k
  have dy:=dg_lt' Y k
  refine rdC (hx.at_ (by omega)) rfl (by omega) (chgAt hch.drew hx (by omega) (ox.not (Nat.le_refl k) (by omega))) ?_
  refine rdC (hy.at_ (by omega)) rfl (by omega) (chgAt hch.drew hy (by omega) (oy.not (Nat.le_refl k) (by omega))) ?_
  refine (c122 (dg X k) (dg Y k) c hc dy wr.drew).mono ?_
  rintro e w1 ⟨rfl,rfl⟩
  refine ⟨_,trivial,_,trivial,rfl,wtC (hch.drew.wt hz) rfl hlt ⟨by unfold inI64; omega,fun B3=>?_⟩⟩
  have hp:=hch.own (hz.pl (by omega))
  have hu:=(hch.wr hz.wr k hlt).1
  have hD:(dg X k+18446744073709551616-(dg Y k+c))%18446744073709551616+(dg Y k+c)=dg X k+18446744073709551616*(if dg X k<dg Y k+c then 1 else 0):=by split <;> omega
  have hC:(if dg X k<dg Y k+c then 1 else 0)≤1:=by split <;> omega
  generalize hd:(dg X k+18446744073709551616-(dg Y k+c))%18446744073709551616=d at hD
  generalize (if dg X k<dg Y k+c then 1 else 0)=c' at hD hC
  have hdl:d<18446744073709551616:=by omega
  refine ⟨(k+1,c',Z+BB^k*d),⟨rfl,rfl,rfl,rfl,rfl,rfl,trivial⟩,rfl,⟨hlt,hC,dlt hZ hdl,?_,hsg.step hZ hdl rfl hp hu,hch.step rfl hp⟩,?_⟩
  ·show Z+BB^k*d+Y%BB^(k+1)=X%BB^(k+1)+BB^(k+1)*c'
   rw [mod_succ,mod_succ,BBpow_succ,Nat.mul_assoc]
   have h6:BB^k*(d+(dg Y k+c))=BB^k*(dg X k+BB*c'):=congrArg _ hD
   rw [Nat.mul_add,Nat.mul_add,Nat.mul_add] at h6
   omega
  ·show z.l-(k+1)<z.l-k
   omega
 ·have hk':k=z.l:=by have:=dF hb; omega
  subst hk'
  refine F121.t2 _ ⟨rfl,trivial⟩ fun B3 B4=>ret1 rfl rfl ⟨c,Z,rfl,⟨?_,hc⟩,hZ,hsg,hch⟩
  rw [Nat.mod_eq_of_lt (by rw [←ly]; exact hy.lt),Nat.mod_eq_of_lt (by rw [←lx]; exact hx.lt)] at hS
  exact hS
theorem c82 (z x y:Sl) (X Y:Nat) (w:World) (hz:Wt w z) (hx:Rd w x X) (hy:Rd w y Y) (lx:x.l=z.l) (ly:y.l=z.l) (ox:Ov z x) (oy:Ov z y) :
  Calls Tryz.prog 82 #[z.v,x.v,y.v] w (Vec w z fun c Z=>Z+Y=X+BB^z.l*c∧c≤1) :=
 F82.call z.a z.l z.c x.a x.l x.c y.a y.l y.c w _ fun B=>Vec.pass (c121 z x y X Y w hz hx hy lx ly ox oy) fun c Z w' a1 a2 a3 a4=>⟨_,rfl,fun B=>ret1 rfl rfl ⟨c,Z,rfl,a1,a2,a3,a4⟩⟩
theorem c127 (z x:Sl) (X m r:Nat) (w:World) (hz:Wt w z) (hx:Rd w x X) (lx:x.l=z.l) (ox:Ov z x) (hm:m<18446744073709551616) (hr:r<18446744073709551616) :
  Calls Tryz.prog 127 #[z.v,x.v,.int .u64 (m:Int),.int .u64 (r:Int)] w (Vec w z fun c Z=>Z+BB^z.l*c=X*m+r∧c<18446744073709551616):=by
 have lm:=hz.lm
 refine F127.call z.a z.l z.c x.a x.l x.c m r w _
  fun B=>bc_false (neF (by omega)) fun B1=>F127.t1 _ _ _ _ _ _ _ _ ⟨rfl,rfl,rfl,rfl,trivial⟩ fun B2 B3=>?_
 rw [F127.q4]
 refine W_for (σ:=Nat × Nat × Nat)
  (fun s=>[(0,z.v),(1,x.v),(2,.int .u64 (m:Int)),(8,.int .u64 (s.2.1:Int)),(18,.int .i64 (z.l:Int)),(19,.int .i64 (s.1:Int))])
  (fun s wr=>s.1≤z.l∧s.2.1<18446744073709551616∧s.2.2<BB^s.1∧s.2.2+BB^s.1*s.2.1=X%BB^s.1*m+r∧Sg wr z.b z.o s.1 s.2.2∧Chg w wr (inR z.b z.o (z.o+s.1)))
  (fun s=>z.l-s.1) (0,r,0) ⟨rfl,rfl,rfl,rfl,rfl,rfl,trivial⟩
  ⟨Nat.zero_le _,hr,by simp,by simp [Nat.mod_one],Sg.zero,Chg.refl _ _⟩ ?_
 rintro ⟨k,c,Z⟩ B wr ⟨hk,hc,hZ,hS,hsg,hch⟩
 simp only at hk hc hZ hS hsg hch
 refine F127.t3 z.a z.l z.c x.a x.l x.c m c z.l k ⟨rfl,rfl,rfl,rfl,rfl,rfl,trivial⟩ fun B1=>bc_intro (fun hb=>?_) (fun hb B2=>?_)
 ·have hlt:k<z.l:=by have:=dT hb; omega
  have dx:=dg_lt' X k
  refine rdC (hx.at_ (by omega)) rfl (by omega) (chgAt hch hx (by omega) (ox.not (Nat.le_refl k) (by omega))) ?_
  refine (c158 (dg X k) m c dx hm hc wr).mono ?_
  rintro e w1 ⟨rfl,rfl⟩
  refine ⟨_,trivial,_,trivial,rfl,wtC (hch.wt hz) rfl hlt ⟨by unfold inI64; omega,fun B3=>?_⟩⟩
  have hp:=hch.own (hz.pl (by omega))
  have hu:=(hch.wr hz.wr k hlt).1
  have hsq:=mul_lt_sq _ _ dx hm
  refine ⟨(k+1,(dg X k*m+c)/18446744073709551616,Z+BB^k*((dg X k*m+c)%18446744073709551616)),⟨rfl,rfl,rfl,rfl,rfl,rfl,trivial⟩,rfl,⟨hlt,?_,dlt hZ (Nat.mod_lt _ (by omega)),?_,hsg.step hZ (Nat.mod_lt _ (by omega)) rfl hp hu,hch.step rfl hp⟩,?_⟩
  ·show (dg X k*m+c)/18446744073709551616<18446744073709551616
   omega
  ·show Z+BB^k*((dg X k*m+c)%18446744073709551616)+BB^(k+1)*((dg X k*m+c)/18446744073709551616)=X%BB^(k+1)*m+r
   rw [mod_succ,Nat.add_mul,Nat.mul_assoc]
   have h6:=dsum (BB^k) (dg X k*m+c)
   rw [←BBpow_succ,Nat.mul_add] at h6
   omega
  ·show z.l-(k+1)<z.l-k
   omega
 ·have hk':k=z.l:=by have:=dF hb; omega
  subst hk'
  refine F127.t2 _ ⟨rfl,trivial⟩ fun B3 B4=>ret1 rfl rfl ⟨c,Z,rfl,⟨?_,hc⟩,hZ,hsg,hch⟩
  rw [hS,Nat.mod_eq_of_lt (by rw [←lx]; exact hx.lt)]
theorem c91 (z x:Sl) (X m r:Nat) (w:World) (hz:Wt w z) (hx:Rd w x X) (lx:x.l=z.l) (ox:Ov z x) (hm:m<18446744073709551616) (hr:r<18446744073709551616) :
  Calls Tryz.prog 91 #[z.v,x.v,.int .u64 (m:Int),.int .u64 (r:Int)] w (Vec w z fun c Z=>Z+BB^z.l*c=X*m+r∧c<18446744073709551616) :=
 F91.call z.a z.l z.c x.a x.l x.c m r w _ fun B=>Vec.pass (c127 z x X m r w hz hx lx ox hm hr) fun c Z w' a1 a2 a3 a4=>⟨_,rfl,fun B=>ret1 rfl rfl ⟨c,Z,rfl,a1,a2,a3,a4⟩⟩
theorem c166 (z x y:Sl) (X Y m r:Nat) (w:World) (hz:Wt w z) (hx:Rd w x X) (hy:Rd w y Y) (lx:x.l=z.l) (ly:y.l=z.l) (ox:Ov z x) (oy:Ov z y) (hm:m<18446744073709551616) (hr:r<18446744073709551616) :
  Calls Tryz.prog 166 #[z.v,x.v,y.v,.int .u64 (m:Int),.int .u64 (r:Int)] w (Vec w z fun c Z=>Z+BB^z.l*c=X+Y*m+r∧c<18446744073709551616):=by
 have lm:=hz.lm
 refine F166.call z.a z.l z.c x.a x.l x.c y.a y.l y.c m r w _
  fun B=>bc_false (neF (by omega)) (bc_false (neF (by omega)) fun B1=>F166.t1 _ _ _ _ _ _ _ _ _ _ _ ⟨rfl,rfl,rfl,rfl,rfl,trivial⟩ fun B2 B3=>?_)
 rw [F166.q4]
 refine W_for (σ:=Nat × Nat × Nat)
  (fun s=>[(0,z.v),(1,x.v),(2,y.v),(3,.int .u64 (m:Int)),(10,.int .u64 (s.2.1:Int)),(31,.int .i64 (z.l:Int)),(32,.int .i64 (s.1:Int))])
  (fun s wr=>s.1≤z.l∧s.2.1<18446744073709551616∧s.2.2<BB^s.1∧s.2.2+BB^s.1*s.2.1=X%BB^s.1+Y%BB^s.1*m+r∧Sg wr z.b z.o s.1 s.2.2∧Chg w wr (inR z.b z.o (z.o+s.1)))
  (fun s=>z.l-s.1) (0,r,0) ⟨rfl,rfl,rfl,rfl,rfl,rfl,rfl,trivial⟩
  ⟨Nat.zero_le _,hr,by simp,by simp [Nat.mod_one],Sg.zero,Chg.refl _ _⟩ ?_
 rintro ⟨k,c,Z⟩ B wr ⟨hk,hc,hZ,hS,hsg,hch⟩
 simp only at hk hc hZ hS hsg hch
 refine F166.t3 z.a z.l z.c x.a x.l x.c y.a y.l y.c m c z.l k ⟨rfl,rfl,rfl,rfl,rfl,rfl,rfl,trivial⟩ fun B1=>bc_intro (fun hb=>?_) (fun hb B2=>?_)
 ·have hlt:k<z.l:=by have:=dT hb; omega
  have dx:=dg_lt' X k
  have dy:=dg_lt' Y k
  refine rdC (hy.at_ (by omega)) rfl (by omega) (chgAt hch.drew hy (by omega) (oy.not (Nat.le_refl k) (by omega))) ?_
  refine rdC (hx.at_ (by omega)) rfl (by omega) (chgAt hch.drew hx (by omega) (ox.not (Nat.le_refl k) (by omega))) ?_
  refine (c158 (dg Y k) m (dg X k) dy hm dx wr.drew).mono ?_
  rintro e w1 ⟨rfl,rfl⟩
  refine ⟨_,trivial,_,trivial,rfl,(c163 ((dg Y k*m+dg X k)%18446744073709551616) c 0 (by omega) wr.drew).mono ?_⟩
  rintro e w1 ⟨rfl,rfl⟩
  refine ⟨_,trivial,_,trivial,rfl,wtC (hch.drew.wt hz) rfl hlt ⟨by unfold inI64; omega,fun B3=>?_⟩⟩
  have hp:=hch.own (hz.pl (by omega))
  have hu:=(hch.wr hz.wr k hlt).1
  have hsq:=mul_lt_sq _ _ dy hm
  have hA:((dg Y k*m+dg X k)%18446744073709551616+c+0)%18446744073709551616=(dg Y k*m+dg X k+c)%18446744073709551616:=by omega
  have hB:IntKind.wrap .u64 ((((((dg Y k*m+dg X k)%18446744073709551616+c+0)/18446744073709551616:Nat)):Int)+(((dg Y k*m+dg X k)/18446744073709551616:Nat):Int))=(((dg Y k*m+dg X k+c)/18446744073709551616:Nat):Int):=by
   rw [addN,wrapN _ (by omega)]; omega
  rw [hA]
  refine ⟨(k+1,(dg Y k*m+dg X k+c)/18446744073709551616,Z+BB^k*((dg Y k*m+dg X k+c)%18446744073709551616)),⟨rfl,rfl,rfl,rfl,intv hB,rfl,rfl,trivial⟩,rfl,⟨hlt,?_,dlt hZ (Nat.mod_lt _ (by omega)),?_,hsg.step hZ (Nat.mod_lt _ (by omega)) rfl hp hu,hch.step rfl hp⟩,?_⟩
  ·show (dg Y k*m+dg X k+c)/18446744073709551616<18446744073709551616
   omega
  ·show Z+BB^k*((dg Y k*m+dg X k+c)%18446744073709551616)+BB^(k+1)*((dg Y k*m+dg X k+c)/18446744073709551616)=X%BB^(k+1)+Y%BB^(k+1)*m+r
   rw [mod_succ,mod_succ,Nat.add_mul,Nat.mul_assoc]
   have h6:=dsum (BB^k) (dg Y k*m+dg X k+c)
   rw [←BBpow_succ,Nat.mul_add,Nat.mul_add] at h6
   omega
  ·show z.l-(k+1)<z.l-k
   omega
 ·have hk':k=z.l:=by have:=dF hb; omega
  subst hk'
  refine F166.t2 _ ⟨rfl,trivial⟩ fun B3 B4=>ret1 rfl rfl ⟨c,Z,rfl,⟨?_,hc⟩,hZ,hsg,hch⟩
  rw [hS,Nat.mod_eq_of_lt (by rw [←lx]; exact hx.lt),Nat.mod_eq_of_lt (by rw [←ly]; exact hy.lt)]
theorem c146 (z x y:Sl) (X Y m r:Nat) (w:World) (hz:Wt w z) (hx:Rd w x X) (hy:Rd w y Y) (lx:x.l=z.l) (ly:y.l=z.l) (ox:Ov z x) (oy:Ov z y) (hm:m<18446744073709551616) (hr:r<18446744073709551616) :
  Calls Tryz.prog 146 #[z.v,x.v,y.v,.int .u64 (m:Int),.int .u64 (r:Int)] w (Vec w z fun c Z=>Z+BB^z.l*c=X+Y*m+r∧c<18446744073709551616) :=
 F146.call z.a z.l z.c x.a x.l x.c y.a y.l y.c m r w _ fun B=>Vec.pass (c166 z x y X Y m r w hz hx hy lx ly ox oy hm hr) fun c Z w' a1 a2 a3 a4=>⟨_,rfl,fun B=>ret1 rfl rfl ⟨c,Z,rfl,a1,a2,a3,a4⟩⟩
end Go.Proofs.YtlkjiiibmfpbcaaGreatDoor
