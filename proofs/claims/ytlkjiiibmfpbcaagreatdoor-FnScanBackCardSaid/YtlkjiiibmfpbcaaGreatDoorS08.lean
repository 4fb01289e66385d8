/- Verification conditions, printed by wip/gen/gen.py and shrink.py; each is held against vc by the kernel. No condition. -/
import Derived.Laws.IdiomCopy
import Derived.BigFrame
import Derived.Test.YtlkjiiibmfpbcaaGreatDoorS05
import Derived.Test.YtlkjiiibmfpbcaaGreatDoorS06
import Derived.Test.YtlkjiiibmfpbcaaGreatDoorS07
namespace Go.Proofs.YtlkjiiibmfpbcaaGreatDoor
open Go
set_option maxRecDepth 100000
set_option linter.unusedVariables false
namespace F183
noncomputable def body:Code:=bodyOf Tryz.f183
def kt:List (Nat × List Nat):=[]
variable (I0:Int)
abbrev l0:List (Nat × Value):=[eU 0 I0]
def v0:VP:=fun B ds w K=>Cl 124 #[(.int .u64 I0)] w fun r1 w2=>∃ x3,r1=.returned (.int .i64 x3)∧inI64 (64-x3)∧Kd K .ret [eI 2 (64-x3)] ds w2
theorem t0:VZ 6 body (l0 I0) (v0 I0):=tz kt [2] fun B ds w K=>by kernel_rfl
theorem call:VCl 183 [.tmp 2] #[.int .u64 I0] (v0 I0):=cz Tryz.func183 (by kernel_rfl) Tryz.ntmps183 Tryz.results183 (by kernel_rfl) (t0 I0)
end F183
namespace F169
noncomputable def body:Code:=bodyOf Tryz.f169
def kt:List (Nat × List Nat):=[]
variable (I0 I1:Int)
abbrev l0:List (Nat × Value):=[eU 0 I0,eU 1 I1]
def v0:VP:=fun B ds w K=>(0:Int)≤32∧(0:Int)≤32∧(0:Int)≤32∧(0:Int)≤32∧(0:Int)≤32∧Kd K .ret [eU 4 (IntKind.wrap .u64 ((IntKind.wrap .u64 ((IntKind.wrap .u64 ((iShr .u64 I0 32)*(iShr .u64 I1 32)))+(iShr .u64 (IntKind.wrap .u64 ((IntKind.wrap .u64 ((iShr .u64 I0 32)*(iAnd .u64 I1 4294967295)))+(iShr .u64 (IntKind.wrap .u64 ((iAnd .u64 I0 4294967295)*(iAnd .u64 I1 4294967295))) 32))) 32)))+(iShr .u64 (IntKind.wrap .u64 ((iAnd .u64 (IntKind.wrap .u64 ((IntKind.wrap .u64 ((iShr .u64 I0 32)*(iAnd .u64 I1 4294967295)))+(iShr .u64 (IntKind.wrap .u64 ((iAnd .u64 I0 4294967295)*(iAnd .u64 I1 4294967295))) 32))) 4294967295)+(IntKind.wrap .u64 ((iAnd .u64 I0 4294967295)*(iShr .u64 I1 32))))) 32))),eU 5 (IntKind.wrap .u64 (I0*I1))] ds w
theorem t0:VZ 51 body (l0 I0 I1) (v0 I0 I1):=tz kt [4,5] fun B ds w K=>by kernel_rfl
theorem call:VCl 169 [.tmp 4,.tmp 5] #[.int .u64 I0,.int .u64 I1] (v0 I0 I1):=cz Tryz.func169 (by kernel_rfl) Tryz.ntmps169 Tryz.results169 (by kernel_rfl) (t0 I0 I1)
end F169
namespace F124
noncomputable def body:Code:=bodyOf Tryz.f124
def kt:List (Nat × List Nat):=[(4,[0,2]),(7,[0,2]),(10,[0,2])]
noncomputable def p1:Code:=sb 2 3 body
noncomputable def p2:Code:=sb 3 7 body
noncomputable def p3:Code:=sb 4 15 body
variable (I0 I2:Int)
abbrev l0:List (Nat × Value):=[eU 0 I0]
def v0:VP:=fun B ds w K=>bc (decide (I0≥(4294967296:Int))) ((0:Int)≤32∧Wd 25 p1 [eU 0 (iShr .u64 I0 32),eI 2 32] ds w K) (Wd 25 p1 [eU 0 I0,eI 2 0] ds w K)
theorem t0:VZ 25 body (l0 I0) (v0 I0):=tz kt [2] fun B ds w K=>by kernel_rfl
theorem call:VCl 124 [.tmp 2] #[.int .u64 I0] (v0 I0):=cz Tryz.func124 (by kernel_rfl) Tryz.ntmps124 Tryz.results124 (by kernel_rfl) (t0 I0)
abbrev l1:List (Nat × Value):=[eU 0 I0,eI 2 I2]
def v1:VP:=fun B ds w K=>bc (decide (I0≥(65536:Int))) ((0:Int)≤16∧inI64 (I2+16)∧Wd 25 p2 [eU 0 (iShr .u64 I0 16),eI 2 (I2+16)] ds w K) (Wd 25 p2 [eU 0 I0,eI 2 I2] ds w K)
theorem t1:VT 25 p1 (l1 I0 I2) (v1 I0 I2):=tw kt [2] fun B ds w K=>by kernel_rfl
abbrev l2:List (Nat × Value):=[eU 0 I0,eI 2 I2]
def v2:VP:=fun B ds w K=>bc (decide (I0≥(256:Int))) ((0:Int)≤8∧inI64 (I2+8)∧Wd 25 p3 [eU 0 (iShr .u64 I0 8),eI 2 (I2+8)] ds w K) (Wd 25 p3 [eU 0 I0,eI 2 I2] ds w K)
theorem t2:VT 25 p2 (l2 I0 I2) (v2 I0 I2):=tw kt [2] fun B ds w K=>by kernel_rfl
abbrev l3:List (Nat × Value):=[eU 0 I0,eI 2 I2]
def v3:VP:=fun B ds w K=>∃ (k2:Nat) (c1:UInt8),(IntKind.wrap .u8 I0)=(k2:Int)∧(strK7)[k2]?=some c1∧inI64 (I2+(IntKind.wrap .i64 ((c1.toNat:Nat):Int)))∧Kd K .ret [eI 2 (I2+(IntKind.wrap .i64 ((c1.toNat:Nat):Int)))] ds w
theorem t3:VT 25 p3 (l3 I0 I2) (v3 I0 I2):=tw kt [2] fun B ds w K=>by kernel_rfl
end F124
namespace F88
noncomputable def body:Code:=bodyOf Tryz.f88
def kt:List (Nat × List Nat):=[]
variable (I0:Int)
abbrev l0:List (Nat × Value):=[eU 0 I0]
def v0:VP:=fun B ds w K=>bc (I0==0) (Kd K .ret [eI 2 64] ds w) ((0:Int)≤58∧∃ k2:Nat,(iShr .u64 (IntKind.wrap .u64 ((iAnd .u64 I0 (IntKind.wrap .u64 (0-I0)))*285870213051353865)) 58)=(k2:Int)∧k2<64∧∃ x3,w.cell? ⟨7,0+k2,none⟩=some (.int .u8 x3)∧Kd K .ret [eI 2 (IntKind.wrap .i64 x3)] ds w)
theorem t0:VZ 14 body (l0 I0) (v0 I0):=tz kt [2] fun B ds w K=>by kernel_rfl
theorem call:VCl 88 [.tmp 2] #[.int .u64 I0] (v0 I0):=cz Tryz.func88 (by kernel_rfl) Tryz.ntmps88 Tryz.results88 (by kernel_rfl) (t0 I0)
end F88
namespace F55
noncomputable def body:Code:=bodyOf Tryz.f55
def kt:List (Nat × List Nat):=[]
variable (I0:Int)
abbrev l0:List (Nat × Value):=[eU 0 I0]
def v0:VP:=fun B ds w K=>Cl 88 #[(.int .u64 I0)] w fun r1 w2=>∃ x3,r1=.returned (.int .i64 x3)∧Kd K .ret [eI 2 x3] ds w2
theorem t0:VZ 8 body (l0 I0) (v0 I0):=tz kt [2] fun B ds w K=>by kernel_rfl
theorem call:VCl 55 [.tmp 2] #[.int .u64 I0] (v0 I0):=cz Tryz.func55 (by kernel_rfl) Tryz.ntmps55 Tryz.results55 (by kernel_rfl) (t0 I0)
end F55
namespace F179
noncomputable def body:Code:=bodyOf Tryz.f179
def kt:List (Nat × List Nat):=[(3,[0,1,2]),(5,[0,1,2]),(17,[2,8,9,10,11,13,14,15,16]),(21,[2,8,9,10,11,13,14,15]),(24,[2,8,9,10,14,15,16,17,18]),(28,[2,8,14,15,17,18])]
noncomputable def p1:Code:=sb 2 3 body
noncomputable def p2:Code:=sb 3 7 body
noncomputable def p3:Code:=sb 15 32767 body
noncomputable def p4:Code:=sb 17 131064 body
noncomputable def p5:Code:=sb 15 32766 body
noncomputable def p6:Code:=sb 19 524287 body
noncomputable def p7:Code:=sb 21 2097144 body
noncomputable def p8:Code:=sb 19 524286 body
theorem q5:p5=.block 0 (.loop p4):=by kernel_rfl
theorem q8:p8=.block 2 (.loop p7):=by kernel_rfl
variable (I0 I1 I2 I8 I9 I10 I11 I13 I14 I15 I16 I17 I18:Int)
abbrev l0:List (Nat × Value):=[eU 0 I0,eU 1 I1,eU 2 I2]
def v0:VP:=fun B ds w K=>bc (I2==0) False (Wd 135 p1 [eU 0 I0,eU 1 I1,eU 2 I2] ds w K)
theorem t0:VZ 135 body (l0 I0 I1 I2) (v0 I0 I1 I2):=tz kt [6,7] fun B ds w K=>by kernel_rfl
theorem call:VCl 179 [.tmp 6,.tmp 7] #[.int .u64 I0,.int .u64 I1,.int .u64 I2] (v0 I0 I1 I2):=cz Tryz.func179 (by kernel_rfl) Tryz.ntmps179 Tryz.results179 (by kernel_rfl) (t0 I0 I1 I2)
abbrev l1:List (Nat × Value):=[eU 0 I0,eU 1 I1,eU 2 I2]
def v1:VP:=fun B ds w K=>bc (decide (I2≤(I0:Int))) False (Wd 135 p2 [eU 0 I0,eU 1 I1,eU 2 I2] ds w K)
theorem t1:VT 135 p1 (l1 I0 I1 I2) (v1 I0 I1 I2):=tw kt [6,7] fun B ds w K=>by kernel_rfl
abbrev l2:List (Nat × Value):=[eU 0 I0,eU 1 I1,eU 2 I2]
def v2:VP:=fun B ds w K=>bc (I0==0) (I2≠(0:Int)∧I2≠(0:Int)∧Kd K .ret [eU 6 (iQuo .u64 I1 I2),eU 7 (iRem I1 I2)] ds w.drew) (Cl 183 #[(.int .u64 I2)] w fun r2 w3=>∃ x4,r2=.returned (.int .i64 x4)∧(0:Int)≤(IntKind.wrap .u64 x4)∧(0:Int)≤32∧(0:Int)≤(IntKind.wrap .u64 x4)∧(0:Int)≤(IntKind.wrap .u64 (64-(IntKind.wrap .u64 x4)))∧(0:Int)≤(IntKind.wrap .u64 x4)∧(0:Int)≤32∧(iShr .u64 (iShl .u64 I2 (IntKind.wrap .u64 x4)) 32)≠(0:Int)∧Wd 135 p5 [eU 2 (iShl .u64 I2 (IntKind.wrap .u64 x4)),eU 8 (IntKind.wrap .u64 x4),eU 9 (iShr .u64 (iShl .u64 I2 (IntKind.wrap .u64 x4)) 32),eU 10 (iAnd .u64 (iShl .u64 I2 (IntKind.wrap .u64 x4)) 4294967295),eU 11 (iOr .u64 (iShl .u64 I0 (IntKind.wrap .u64 x4)) (iShr .u64 I1 (IntKind.wrap .u64 (64-(IntKind.wrap .u64 x4))))),eU 13 (iShr .u64 (iShl .u64 I1 (IntKind.wrap .u64 x4)) 32),eU 14 (iAnd .u64 (iShl .u64 I1 (IntKind.wrap .u64 x4)) 4294967295),eU 15 (iQuo .u64 (iOr .u64 (iShl .u64 I0 (IntKind.wrap .u64 x4)) (iShr .u64 I1 (IntKind.wrap .u64 (64-(IntKind.wrap .u64 x4))))) (iShr .u64 (iShl .u64 I2 (IntKind.wrap .u64 x4)) 32)),eU 16 (IntKind.wrap .u64 ((iOr .u64 (iShl .u64 I0 (IntKind.wrap .u64 x4)) (iShr .u64 I1 (IntKind.wrap .u64 (64-(IntKind.wrap .u64 x4)))))-(IntKind.wrap .u64 ((iQuo .u64 (iOr .u64 (iShl .u64 I0 (IntKind.wrap .u64 x4)) (iShr .u64 I1 (IntKind.wrap .u64 (64-(IntKind.wrap .u64 x4))))) (iShr .u64 (iShl .u64 I2 (IntKind.wrap .u64 x4)) 32))*(iShr .u64 (iShl .u64 I2 (IntKind.wrap .u64 x4)) 32)))))] ds w3 (thenW Tryz.prog 135 p3 K))
theorem t2:VT 135 p2 (l2 I0 I1 I2) (v2 I0 I1 I2):=tw kt [6,7] fun B ds w K=>by kernel_rfl
abbrev l3:List (Nat × Value):=[eU 2 I2,eU 8 I8,eU 9 I9,eU 10 I10,eU 11 I11,eU 13 I13,eU 14 I14,eU 15 I15]
def v3:VP:=fun B ds w K=>I9≠(0:Int)∧Wd 135 p8 [eU 2 I2,eU 8 I8,eU 9 I9,eU 10 I10,eU 14 I14,eU 15 I15,eU 16 (IntKind.wrap .u64 ((IntKind.wrap .u64 ((IntKind.wrap .u64 ((IntKind.wrap .u64 (I11*4294967296))+I13))-(IntKind.wrap .u64 (I15*I2))))-(IntKind.wrap .u64 ((iQuo .u64 (IntKind.wrap .u64 ((IntKind.wrap .u64 ((IntKind.wrap .u64 (I11*4294967296))+I13))-(IntKind.wrap .u64 (I15*I2)))) I9)*I9)))),eU 17 (IntKind.wrap .u64 ((IntKind.wrap .u64 ((IntKind.wrap .u64 (I11*4294967296))+I13))-(IntKind.wrap .u64 (I15*I2)))),eU 18 (iQuo .u64 (IntKind.wrap .u64 ((IntKind.wrap .u64 ((IntKind.wrap .u64 (I11*4294967296))+I13))-(IntKind.wrap .u64 (I15*I2)))) I9)] ds w (thenW Tryz.prog 135 p6 K)
theorem t3:VT 135 p3 (l3 I2 I8 I9 I10 I11 I13 I14 I15) (v3 I2 I8 I9 I10 I11 I13 I14 I15):=tw kt [6,7] fun B ds w K=>by kernel_rfl
abbrev l4:List (Nat × Value):=[eU 2 I2,eU 8 I8,eU 9 I9,eU 10 I10,eU 11 I11,eU 13 I13,eU 14 I14,eU 15 I15,eU 16 I16]
def v4:VP:=fun B ds w K=>bc (decide (I15≥(4294967296:Int))) (bc (decide ((IntKind.wrap .u64 (I16+I9))≥(4294967296:Int))) (Kd K (.exit 0) [eU 2 I2,eU 8 I8,eU 9 I9,eU 10 I10,eU 11 I11,eU 13 I13,eU 14 I14,eU 15 (IntKind.wrap .u64 (I15-1)),eU 16 (IntKind.wrap .u64 (I16+I9))] ds w) (Kd K .normal [eU 2 I2,eU 8 I8,eU 9 I9,eU 10 I10,eU 11 I11,eU 13 I13,eU 14 I14,eU 15 (IntKind.wrap .u64 (I15-1)),eU 16 (IntKind.wrap .u64 (I16+I9))] ds w)) (bc (decide ((IntKind.wrap .u64 (I15*I10))>((IntKind.wrap .u64 ((IntKind.wrap .u64 (4294967296*I16))+I13)):Int))) (bc (decide ((IntKind.wrap .u64 (I16+I9))≥(4294967296:Int))) (Kd K (.exit 0) [eU 2 I2,eU 8 I8,eU 9 I9,eU 10 I10,eU 11 I11,eU 13 I13,eU 14 I14,eU 15 (IntKind.wrap .u64 (I15-1)),eU 16 (IntKind.wrap .u64 (I16+I9))] ds w) (Kd K .normal [eU 2 I2,eU 8 I8,eU 9 I9,eU 10 I10,eU 11 I11,eU 13 I13,eU 14 I14,eU 15 (IntKind.wrap .u64 (I15-1)),eU 16 (IntKind.wrap .u64 (I16+I9))] ds w)) (Kd K (.exit 0) [eU 2 I2,eU 8 I8,eU 9 I9,eU 10 I10,eU 11 I11,eU 13 I13,eU 14 I14,eU 15 I15,eU 16 I16] ds w))
theorem t4:VT 135 p4 (l4 I2 I8 I9 I10 I11 I13 I14 I15 I16) (v4 I2 I8 I9 I10 I11 I13 I14 I15 I16):=tw kt [2,8,9,10,11,13,14,15,16] fun B ds w K=>by kernel_rfl
abbrev l6:List (Nat × Value):=[eU 2 I2,eU 8 I8,eU 14 I14,eU 15 I15,eU 17 I17,eU 18 I18]
def v6:VP:=fun B ds w K=>(0:Int)≤I8∧Kd K .ret [eU 6 (IntKind.wrap .u64 ((IntKind.wrap .u64 (I15*4294967296))+I18)),eU 7 (iShr .u64 (IntKind.wrap .u64 ((IntKind.wrap .u64 ((IntKind.wrap .u64 (I17*4294967296))+I14))-(IntKind.wrap .u64 (I18*I2)))) I8)] ds w
theorem t6:VT 135 p6 (l6 I2 I8 I14 I15 I17 I18) (v6 I2 I8 I14 I15 I17 I18):=tw kt [6,7] fun B ds w K=>by kernel_rfl
abbrev l7:List (Nat × Value):=[eU 2 I2,eU 8 I8,eU 9 I9,eU 10 I10,eU 14 I14,eU 15 I15,eU 16 I16,eU 17 I17,eU 18 I18]
def v7:VP:=fun B ds w K=>bc (decide (I18≥(4294967296:Int))) (bc (decide ((IntKind.wrap .u64 (I16+I9))≥(4294967296:Int))) (Kd K (.exit 2) [eU 2 I2,eU 8 I8,eU 9 I9,eU 10 I10,eU 14 I14,eU 15 I15,eU 16 (IntKind.wrap .u64 (I16+I9)),eU 17 I17,eU 18 (IntKind.wrap .u64 (I18-1))] ds w) (Kd K .normal [eU 2 I2,eU 8 I8,eU 9 I9,eU 10 I10,eU 14 I14,eU 15 I15,eU 16 (IntKind.wrap .u64 (I16+I9)),eU 17 I17,eU 18 (IntKind.wrap .u64 (I18-1))] ds w)) (bc (decide ((IntKind.wrap .u64 (I18*I10))>((IntKind.wrap .u64 ((IntKind.wrap .u64 (4294967296*I16))+I14)):Int))) (bc (decide ((IntKind.wrap .u64 (I16+I9))≥(4294967296:Int))) (Kd K (.exit 2) [eU 2 I2,eU 8 I8,eU 9 I9,eU 10 I10,eU 14 I14,eU 15 I15,eU 16 (IntKind.wrap .u64 (I16+I9)),eU 17 I17,eU 18 (IntKind.wrap .u64 (I18-1))] ds w) (Kd K .normal [eU 2 I2,eU 8 I8,eU 9 I9,eU 10 I10,eU 14 I14,eU 15 I15,eU 16 (IntKind.wrap .u64 (I16+I9)),eU 17 I17,eU 18 (IntKind.wrap .u64 (I18-1))] ds w)) (Kd K (.exit 2) [eU 2 I2,eU 8 I8,eU 9 I9,eU 10 I10,eU 14 I14,eU 15 I15,eU 16 I16,eU 17 I17,eU 18 I18] ds w))
theorem t7:VT 135 p7 (l7 I2 I8 I9 I10 I14 I15 I16 I17 I18) (v7 I2 I8 I9 I10 I14 I15 I16 I17 I18):=tw kt [2,8,9,10,14,15,16,17,18] fun B ds w K=>by kernel_rfl
end F179
namespace F159
noncomputable def body:Code:=bodyOf Tryz.f159
def kt:List (Nat × List Nat):=[]
variable (I0 I1 I2:Int)
abbrev l0:List (Nat × Value):=[eU 0 I0,eU 1 I1,eU 2 I2]
def v0:VP:=fun B ds w K=>Cl 179 #[(.int .u64 I0),(.int .u64 I1),(.int .u64 I2)] w fun r1 w2=>∃ x3,True∧∃ x4,True∧r1=.returned (.tuple #[(.int .u64 x3),(.int .u64 x4)])∧Kd K .ret [eU 6 x3,eU 7 x4] ds w2
theorem t0:VZ 19 body (l0 I0 I1 I2) (v0 I0 I1 I2):=tz kt [6,7] fun B ds w K=>by kernel_rfl
theorem call:VCl 159 [.tmp 6,.tmp 7] #[.int .u64 I0,.int .u64 I1,.int .u64 I2] (v0 I0 I1 I2):=cz Tryz.func159 (by kernel_rfl) Tryz.ntmps159 Tryz.results159 (by kernel_rfl) (t0 I0 I1 I2)
end F159
namespace F160
noncomputable def body:Code:=bodyOf Tryz.f160
def kt:List (Nat × List Nat):=[]
variable (I0:Int)
abbrev l0:List (Nat × Value):=[eU 0 I0]
def v0:VP:=fun B ds w K=>Cl 78 #[(.int .u64 I0)] w fun r1 w2=>∃ x3,r1=.returned (.int .u64 x3)∧(0:Int)≤x3∧Cl 159 #[(.int .u64 (iNot .u64 (iShl .u64 I0 x3))),(.int .u64 18446744073709551615),(.int .u64 (iShl .u64 I0 x3))] w2 fun r4 w5=>∃ x6,True∧∃ x7,True∧r4=.returned (.tuple #[(.int .u64 x6),(.int .u64 x7)])∧Kd K .ret [eU 2 x6] ds w5
theorem t0:VZ 22 body (l0 I0) (v0 I0):=tz kt [2] fun B ds w K=>by kernel_rfl
theorem call:VCl 160 [.tmp 2] #[.int .u64 I0] (v0 I0):=cz Tryz.func160 (by kernel_rfl) Tryz.ntmps160 Tryz.results160 (by kernel_rfl) (t0 I0)
end F160
namespace F161
noncomputable def body:Code:=bodyOf Tryz.f161
def kt:List (Nat × List Nat):=[(6,[0,1,2,3,10]),(17,[10,11,16,19]),(20,[10,16,19])]
noncomputable def p1:Code:=sb 3 7 body
noncomputable def p2:Code:=sb 12 4095 body
noncomputable def p3:Code:=sb 13 8191 body
variable (I0 I1 I2 I3 I10 I11 I16 I19:Int)
abbrev l0:List (Nat × Value):=[eU 0 I0,eU 1 I1,eU 2 I2,eU 3 I3]
def v0:VP:=fun B ds w K=>Cl 78 #[(.int .u64 I2)] w fun r1 w2=>∃ x3,r1=.returned (.int .u64 x3)∧bc (x3 != 0) ((0:Int)≤x3∧(0:Int)≤(IntKind.wrap .u64 (64-x3))∧(0:Int)≤x3∧(0:Int)≤x3∧Wd 100 p1 [eU 0 (iOr .u64 (iShl .u64 I0 x3) (iShr .u64 I1 (IntKind.wrap .u64 (64-x3)))),eU 1 (iShl .u64 I1 x3),eU 2 (iShl .u64 I2 x3),eU 3 I3,eU 10 x3] ds w2 K) (Wd 100 p1 [eU 0 I0,eU 1 I1,eU 2 I2,eU 3 I3,eU 10 x3] ds w2 K)
theorem t0:VZ 100 body (l0 I0 I1 I2 I3) (v0 I0 I1 I2 I3):=tz kt [8,9] fun B ds w K=>by kernel_rfl
theorem call:VCl 161 [.tmp 8,.tmp 9] #[.int .u64 I0,.int .u64 I1,.int .u64 I2,.int .u64 I3] (v0 I0 I1 I2 I3):=cz Tryz.func161 (by kernel_rfl) Tryz.ntmps161 Tryz.results161 (by kernel_rfl) (t0 I0 I1 I2 I3)
abbrev l1:List (Nat × Value):=[eU 0 I0,eU 1 I1,eU 2 I2,eU 3 I3,eU 10 I10]
def v1:VP:=fun B ds w K=>Cl 148 #[(.int .u64 I3),(.int .u64 I0)] w fun r1 w2=>∃ x3,True∧∃ x4,True∧r1=.returned (.tuple #[(.int .u64 x3),(.int .u64 x4)])∧Cl 163 #[(.int .u64 x4),(.int .u64 I1),(.int .u64 0)] w2 fun r5 w6=>∃ x7,True∧∃ x8,True∧r5=.returned (.tuple #[(.int .u64 x7),(.int .u64 x8)])∧Cl 163 #[(.int .u64 x3),(.int .u64 I0),(.int .u64 x8)] w6 fun r9 w10=>∃ x11,True∧∃ x12,True∧r9=.returned (.tuple #[(.int .u64 x11),(.int .u64 x12)])∧Cl 148 #[(.int .u64 I2),(.int .u64 x11)] w10 fun r13 w14=>∃ x15,True∧∃ x16,True∧r13=.returned (.tuple #[(.int .u64 x15),(.int .u64 x16)])∧Cl 122 #[(.int .u64 I1),(.int .u64 x16),(.int .u64 0)] w14 fun r17 w18=>∃ x19,True∧∃ x20,True∧r17=.returned (.tuple #[(.int .u64 x19),(.int .u64 x20)])∧Cl 122 #[(.int .u64 I0),(.int .u64 x15),(.int .u64 x20)] w18 fun r21 w22=>∃ x23,True∧∃ x24,True∧r21=.returned (.tuple #[(.int .u64 x23),(.int .u64 x24)])∧bc (x23 != 0) (Wd 100 p2 [eU 10 I10,eU 11 I2,eU 16 (IntKind.wrap .u64 (x11+1)),eU 19 (IntKind.wrap .u64 (x19-I2))] ds w22 K) (Wd 100 p2 [eU 10 I10,eU 11 I2,eU 16 x11,eU 19 x19] ds w22 K)
theorem t1:VT 100 p1 (l1 I0 I1 I2 I3 I10) (v1 I0 I1 I2 I3 I10):=tw kt [8,9] fun B ds w K=>by kernel_rfl
abbrev l2:List (Nat × Value):=[eU 10 I10,eU 11 I11,eU 16 I16,eU 19 I19]
def v2:VP:=fun B ds w K=>bc (decide (I19≥(I11:Int))) (Wd 100 p3 [eU 10 I10,eU 16 (IntKind.wrap .u64 (I16+1)),eU 19 (IntKind.wrap .u64 (I19-I11))] ds w K) (Wd 100 p3 [eU 10 I10,eU 16 I16,eU 19 I19] ds w K)
theorem t2:VT 100 p2 (l2 I10 I11 I16 I19) (v2 I10 I11 I16 I19):=tw kt [8,9] fun B ds w K=>by kernel_rfl
abbrev l3:List (Nat × Value):=[eU 10 I10,eU 16 I16,eU 19 I19]
def v3:VP:=fun B ds w K=>(0:Int)≤I10∧Kd K .ret [eU 8 I16,eU 9 (iShr .u64 I19 I10)] ds w
theorem t3:VT 100 p3 (l3 I10 I16 I19) (v3 I10 I16 I19):=tw kt [8,9] fun B ds w K=>by kernel_rfl
end F161
namespace F128
noncomputable def body:Code:=bodyOf Tryz.f128
def kt:List (Nat × List Nat):=[(8,[0,2,3,8,11,12]),(11,[8])]
noncomputable def p1:Code:=sb 5 31 body
noncomputable def p2:Code:=sb 8 244 body
noncomputable def p3:Code:=sb 6 61 body
theorem q3:p3=.block 0 (.loop p2):=by kernel_rfl
variable (A0:Option Addr) (N0 C0:Nat) (I1:Int) (A2:Option Addr) (N2 C2:Nat) (I3 I8 I11 I12:Int)
abbrev l0:List (Nat × Value):=[eS 0 A0 N0 C0,eU 1 I1,eS 2 A2 N2 C2,eU 3 I3]
def v0:VP:=fun B ds w K=>bc ((N2:Int)==1) (nc A2 fun b2 o3=>∃ k1:Nat,0=(k1:Int)∧k1<N2∧∃ x4,w.cell? ⟨b2,o3+k1,none⟩=some (.int .u64 x4)∧Cl 159 #[(.int .u64 I1),(.int .u64 x4),(.int .u64 I3)] w fun r5 w6=>∃ x7,True∧∃ x8,True∧r5=.returned (.tuple #[(.int .u64 x7),(.int .u64 x8)])∧nc A0 fun b10 o11=>∃ k9:Nat,0=(k9:Int)∧k9<N0∧(∃ u12,w6.cell? ⟨b10,o11+k9,none⟩=some u12)∧w6.frozen? ⟨b10,o11+k9,none⟩=false∧Kd K .ret [eU 8 x8] ds (w6.setCell ⟨b10,o11+k9,none⟩ (.int .u64 x7))) (Cl 160 #[(.int .u64 I3)] w fun r14 w15=>∃ x16,r14=.returned (.int .u64 x16)∧inI64 ((N0:Int)-1)∧Wd 54 p3 [eS 0 A0 N0 C0,eS 2 A2 N2 C2,eU 3 I3,eU 8 I1,eU 11 x16,eI 12 ((N0:Int)-1)] ds w15 (thenW Tryz.prog 54 p1 K))
theorem t0:VZ 54 body (l0 A0 N0 C0 I1 A2 N2 C2 I3) (v0 A0 N0 C0 I1 A2 N2 C2 I3):=tz kt [8] fun B ds w K=>by kernel_rfl
theorem call:VCl 128 [.tmp 8] #[.slice A0 N0 C0,.int .u64 I1,.slice A2 N2 C2,.int .u64 I3] (v0 A0 N0 C0 I1 A2 N2 C2 I3):=cz Tryz.func128 (by kernel_rfl) Tryz.ntmps128 Tryz.results128 (by kernel_rfl) (t0 A0 N0 C0 I1 A2 N2 C2 I3)
abbrev l1:List (Nat × Value):=[eU 8 I8]
def v1:VP:=fun B ds w K=>Kd K .ret [eU 8 I8] ds w
theorem t1:VT 54 p1 (l1 I8) (v1 I8):=tw kt [8] fun B ds w K=>by kernel_rfl
abbrev l2:List (Nat × Value):=[eS 0 A0 N0 C0,eS 2 A2 N2 C2,eU 3 I3,eU 8 I8,eU 11 I11,eI 12 I12]
def v2:VP:=fun B ds w K=>bc (decide (I12≥(0:Int))) (nc A2 fun b2 o3=>∃ k1:Nat,I12=(k1:Int)∧k1<N2∧∃ x4,w.cell? ⟨b2,o3+k1,none⟩=some (.int .u64 x4)∧Cl 161 #[(.int .u64 I8),(.int .u64 x4),(.int .u64 I3),(.int .u64 I11)] w fun r5 w6=>∃ x7,True∧∃ x8,True∧r5=.returned (.tuple #[(.int .u64 x7),(.int .u64 x8)])∧nc A0 fun b10 o11=>∃ k9:Nat,I12=(k9:Int)∧k9<N0∧(∃ u12,w6.cell? ⟨b10,o11+k9,none⟩=some u12)∧w6.frozen? ⟨b10,o11+k9,none⟩=false∧inI64 (I12-1)∧Kd K .normal [eS 0 A0 N0 C0,eS 2 A2 N2 C2,eU 3 I3,eU 8 x8,eU 11 I11,eI 12 (I12-1)] ds (w6.setCell ⟨b10,o11+k9,none⟩ (.int .u64 x7))) (Kd K (.exit 0) [eS 0 A0 N0 C0,eS 2 A2 N2 C2,eU 3 I3,eU 8 I8,eU 11 I11,eI 12 I12] ds w)
theorem t2:VT 54 p2 (l2 A0 N0 C0 A2 N2 C2 I3 I8 I11 I12) (v2 A0 N0 C0 A2 N2 C2 I3 I8 I11 I12):=tw kt [0,2,3,8,11,12] fun B ds w K=>by kernel_rfl
end F128
namespace F93
noncomputable def body:Code:=bodyOf Tryz.f93
def kt:List (Nat × List Nat):=[(8,[0,1,2,8])]
noncomputable def p1:Code:=sb 3 7 body
variable (A0:Option Addr) (N0 C0:Nat) (A1:Option Addr) (N1 C1:Nat) (I2 I8:Int)
abbrev l0:List (Nat × Value):=[eS 0 A0 N0 C0,eS 1 A1 N1 C1,eU 2 I2]
def v0:VP:=fun B ds w K=>bc (I2==0) False (bc (I2==1) (Cl 60 #[(.slice A0 N0 C0),(.slice A1 N1 C1)] w fun r1 w2=>∃ x3a,∃ x3l,∃ x3c,r1=.returned (.slice x3a x3l x3c)∧Kd K .ret [eS 6 x3a x3l x3c,eU 7 0] ds w2) (bc ((N1:Int)==0) (∃ h6:Nat,0=(h6:Int)∧h6≤C0∧Kd K .ret [eS 6 A0 h6 C0,eU 7 0] ds w) (Wd 35 p1 [eS 0 A0 N0 C0,eS 1 A1 N1 C1,eU 2 I2,eI 8 (N1:Int)] ds w K)))
theorem t0:VZ 35 body (l0 A0 N0 C0 A1 N1 C1 I2) (v0 A0 N0 C0 A1 N1 C1 I2):=tz kt [6,7] fun B ds w K=>by kernel_rfl
theorem call:VCl 93 [.tmp 6,.tmp 7] #[.slice A0 N0 C0,.slice A1 N1 C1,.int .u64 I2] (v0 A0 N0 C0 A1 N1 C1 I2):=cz Tryz.func93 (by kernel_rfl) Tryz.ntmps93 Tryz.results93 (by kernel_rfl) (t0 A0 N0 C0 A1 N1 C1 I2)
abbrev l1:List (Nat × Value):=[eS 0 A0 N0 C0,eS 1 A1 N1 C1,eU 2 I2,eI 8 I8]
def v1:VP:=fun B ds w K=>Cl 73 #[(.slice A0 N0 C0),(.int .i64 I8)] w fun r1 w2=>∃ x3a,∃ x3l,∃ x3c,r1=.returned (.slice x3a x3l x3c)∧Cl 128 #[(.slice x3a x3l x3c),(.int .u64 0),(.slice A1 N1 C1),(.int .u64 I2)] w2 fun r4 w5=>∃ x6,r4=.returned (.int .u64 x6)∧Cl 46 #[(.slice x3a x3l x3c)] w5 fun r7 w8=>∃ x9a,∃ x9l,∃ x9c,r7=.returned (.slice x9a x9l x9c)∧Kd K .ret [eS 6 x9a x9l x9c,eU 7 x6] ds w8
theorem t1:VT 35 p1 (l1 A0 N0 C0 A1 N1 C1 I2 I8) (v1 A0 N0 C0 A1 N1 C1 I2 I8):=tw kt [6,7] fun B ds w K=>by kernel_rfl
end F93
end Go.Proofs.YtlkjiiibmfpbcaaGreatDoor
namespace Go.Proofs.YtlkjiiibmfpbcaaGreatDoor
open Go
theorem ret1 {t:Nat} {e:Env} {w:World} {R:Value→World→Prop} {v:Value} (hd:e.defers=[]) (hv:e.get t=v) (h:R v w):retK Tryz.prog [.tmp t] R .ret e w:=by
 simp only [retK,hd,runD,resOne,hv]; exact h
theorem ret2 {t u:Nat} {e:Env} {w:World} {R:Value→World→Prop} {v v':Value} (hd:e.defers=[]) (hv:e.get t=v) (hv':e.get u=v') (h:R (.tuple #[v,v']) w) :
  retK Tryz.prog [.tmp t,.tmp u] R .ret e w:=by
 simp only [retK,hd,runD,resOne,hv,hv']; exact h
theorem ret0 {e:Env} {w:World} {R:Value→World→Prop} (hd:e.defers=[]) (h:R (.tuple #[]) w):retK Tryz.prog [] R .normal e w:=by
 simp only [retK,hd,runD,resOne]; exact h
theorem ret0' {e:Env} {w:World} {R:Value→World→Prop} (hd:e.defers=[]) (h:R (.tuple #[]) w):retK Tryz.prog [] R .ret e w:=by
 simp only [retK,hd,runD,resOne]; exact h
theorem told {f:FuncId} {args:Array Value} {w:World} {v:Value} (h:Calls Tryz.prog f args w fun x w'=>∃ u,x=.returned u∧(u=v∧w'=w)) :
  Calls Tryz.prog f args w fun e w'=>e=.returned v∧w'=w :=
 h.mono fun _ _ ⟨_,hx,hu,hw⟩=>⟨by rw [hx,hu],hw⟩
theorem c163 (x y c:Nat) (hc:c≤1):Told 163 #[.int .u64 (x:Int),.int .u64 (y:Int),.int .u64 (c:Int)]
  (.tuple #[.int .u64 (((x+y+c)%18446744073709551616:Nat):Int),.int .u64 (((x+y+c)/18446744073709551616:Nat):Int)]):=fun w =>
 told <| F163.call _ _ _ w _ fun B=>⟨w,_,trivial,_,trivial,add64_run x y c hc w,fun _=>ret2 rfl rfl rfl ⟨rfl,rfl⟩⟩
theorem c122 (x y c:Nat) (hc:c≤1) (hy:y<18446744073709551616):Told 122 #[.int .u64 (x:Int),.int .u64 (y:Int),.int .u64 (c:Int)]
  (.tuple #[.int .u64 (((x+18446744073709551616-(y+c))%18446744073709551616:Nat):Int),.int .u64 ((if x<y+c then 1 else 0:Nat):Int)]):=fun w =>
 told <| F122.call _ _ _ w _ fun B=>⟨w,_,trivial,_,trivial,sub64_run x y c hc hy w,fun _=>ret2 rfl rfl rfl ⟨rfl,rfl⟩⟩
theorem dT {p:Prop} [Decidable p] (h:decide p=true):p:=of_decide_eq_true h
theorem dF {p:Prop} [Decidable p] (h:decide p=false):¬p:=of_decide_eq_false h
theorem mask32 (a:Nat) (ha:a<18446744073709551616):iAnd .u64 (a:Int) 4294967295=((a%4294967296:Nat):Int):=iAndMask a 32 (by omega) ha
theorem shr32 (a:Nat):iShr .u64 (a:Int) 32=((a/4294967296:Nat):Int):=iShrN a 32
theorem mulN (a b:Nat):(a:Int)*(b:Int)=((a*b:Nat):Int):=(Int.natCast_mul a b).symm
theorem addN (a b:Nat):(a:Int)+(b:Int)=((a+b:Nat):Int):=(Int.natCast_add a b).symm
theorem intv {k:IntKind} {a b:Int} (h:a=b):Value.int k a=.int k b:=by rw [h]
theorem c169 (x y:Nat) (hx:x<18446744073709551616) (hy:y<18446744073709551616):Told 169 #[.int .u64 (x:Int),.int .u64 (y:Int)]
  (.tuple #[.int .u64 ((x*y/18446744073709551616:Nat):Int),.int .u64 ((x*y%18446744073709551616:Nat):Int)]):=fun w =>
 told <| F169.call _ _ w _ fun B=>⟨by omega,by omega,by omega,by omega,by omega,fun _=>by
  obtain ⟨bd,bt,bw,hhi⟩:=Lib.mul64_hi x y hx hy
  have ba:=Lib.half_mul_le (a:=x/4294967296) (b:=y/4294967296) (by omega) (by omega)
  have bb:=Lib.half_mul_le (a:=x/4294967296) (b:=y%4294967296) (by omega) (by omega)
  have bc:=Lib.half_mul_le (a:=x%4294967296) (b:=y/4294967296) (by omega) (by omega)
  have ba':x/4294967296*(y/4294967296)<18446744073709551616:=by omega
  have bb':x/4294967296*(y%4294967296)<18446744073709551616:=by omega
  have bc':x%4294967296*(y/4294967296)<18446744073709551616:=by omega
  have bh1:x/4294967296*(y/4294967296)+(x/4294967296*(y%4294967296)+x%4294967296*(y%4294967296)/4294967296)/4294967296<18446744073709551616:=by omega
  have bh:x/4294967296*(y/4294967296)+(x/4294967296*(y%4294967296)+x%4294967296*(y%4294967296)/4294967296)/4294967296+((x/4294967296*(y%4294967296)+x%4294967296*(y%4294967296)/4294967296)%4294967296+x%4294967296*(y/4294967296))/4294967296<18446744073709551616:=by omega
  refine ret2 (v:=.int .u64 ((x*y/18446744073709551616:Nat):Int)) (v':=.int .u64 ((x*y%18446744073709551616:Nat):Int)) rfl (intv ?_) (intv ?_) ⟨rfl,rfl⟩
  ·simp only [mask32 x hx,mask32 y hy,shr32,mulN,addN,wrapN _ bd,wrapN _ bb',wrapN _ bt,mask32 _ bt,wrapN _ bc',wrapN _ bw,wrapN _ ba',wrapN _ bh1,wrapN _ bh]
   rw [hhi]
  ·rw [mulN,wrapM]⟩
theorem c148 (x y:Nat) (hx:x<18446744073709551616) (hy:y<18446744073709551616):Told 148 #[.int .u64 (x:Int),.int .u64 (y:Int)]
  (.tuple #[.int .u64 ((x*y/18446744073709551616:Nat):Int),.int .u64 ((x*y%18446744073709551616:Nat):Int)]):=fun w =>
 told <| F148.call _ _ w _ fun B=>(c169 x y hx hy w).mono fun _ _ ⟨h1,h2⟩=>⟨_,trivial,_,trivial,h1,fun _=>ret2 rfl rfl rfl ⟨rfl,h2⟩⟩
theorem c113 (x y:Nat) (hx:x<18446744073709551616) (hy:y<18446744073709551616):Told 113 #[.int .u64 (x:Int),.int .u64 (y:Int)]
  (.tuple #[.int .u64 ((x*y/18446744073709551616:Nat):Int),.int .u64 ((x*y%18446744073709551616:Nat):Int)]):=fun w =>
 told <| F113.call _ _ w _ fun B=>(c148 x y hx hy w).mono fun _ _ ⟨h1,h2⟩=>⟨_,trivial,_,trivial,h1,fun _=>ret2 rfl rfl rfl ⟨rfl,h2⟩⟩
theorem mul_lt_sq (x y:Nat) (hx:x<18446744073709551616) (hy:y<18446744073709551616):x*y≤18446744073709551615*18446744073709551615:=Nat.mul_le_mul (by omega) (by omega)
theorem c158 (x y c:Nat) (hx:x<18446744073709551616) (hy:y<18446744073709551616) (hc:c<18446744073709551616):Told 158 #[.int .u64 (x:Int),.int .u64 (y:Int),.int .u64 (c:Int)]
  (.tuple #[.int .u64 (((x*y+c)/18446744073709551616:Nat):Int),.int .u64 (((x*y+c)%18446744073709551616:Nat):Int)]):=fun w =>
 told <| F158.call _ _ _ w _ fun B=>(c148 x y hx hy w).mono fun _ w1 ⟨h1,h2⟩=>⟨_,trivial,_,trivial,h1,
  (c163 (x*y%18446744073709551616) c 0 (by omega) w1).mono fun _ w2 ⟨h3,h4⟩=>⟨_,trivial,_,trivial,h3,fun _=>by
   have:=mul_lt_sq x y hx hy
   refine ret2 rfl (intv ?_) (intv ?_) ⟨rfl,h4.trans h2⟩
   ·rw [addN,wrapN _ (by omega)]; omega
   ·omega⟩⟩
def blen (x:Nat):Nat:=if x=0 then 0 else x.log2+1
theorem blen_lt (x:Nat):x<2^blen x:=by
 unfold blen; split
 ·omega
 ·exact Nat.lt_log2_self
theorem blen_le (x:Nat) (h:x≠0):2^(blen x-1)≤x:=by
 unfold blen; rw [if_neg h]; exact Nat.log2_self_le h
theorem blen_eq {x n:Nat} (h1:x<2^n) (h2:x≠0→2^(n-1)≤x) (h3:x=0→n=0):blen x=n:=by
 by_cases h:x=0
 ·rw [h3 h]; simp [blen,h]
 ·have a:=blen_lt x
  have b:=blen_le x h
  have c:=h2 h
  have hb:blen x≠0:=by unfold blen; rw [if_neg h]; omega
  have hn:n≠0:=by intro e; subst e; omega
  have d1:2^(blen x-1)<2^n:=Nat.lt_of_le_of_lt b h1
  have d2:2^(n-1)<2^blen x:=Nat.lt_of_le_of_lt c a
  have e1:=(Nat.pow_lt_pow_iff_right (by omega:1<2)).1 d1
  have e2:=(Nat.pow_lt_pow_iff_right (by omega:1<2)).1 d2
  omega
theorem blen_zero:blen 0=0:=rfl
theorem blen_shift (x k:Nat) (h:2^k≤x):blen x=blen (x/2^k)+k:=by
 have hp:=Nat.two_pow_pos k
 have hq:x/2^k≠0:=by have:=Nat.div_pos h hp; omega
 have a:=blen_lt (x/2^k)
 have b:=blen_le (x/2^k) hq
 have hb:blen (x/2^k)≠0:=by unfold blen; rw [if_neg hq]; omega
 refine blen_eq ?_ (fun _=>?_) (fun h0=>by subst h0; omega)
 ·rw [Nat.pow_add]; exact (Nat.div_lt_iff_lt_mul hp).1 a
 ·rw [show blen (x/2^k)+k-1=(blen (x/2^k)-1)+k by omega,Nat.pow_add]
  exact (Nat.le_div_iff_mul_le hp).1 b
theorem blen_le_of_lt {x n:Nat} (h:x<2^n):blen x≤n:=by
 by_cases h0:x=0
 ·subst h0; simp [blen]
 ·have b:=blen_le x h0
  have:=(Nat.pow_lt_pow_iff_right (by omega:1<2)).1 (Nat.lt_of_le_of_lt b h)
  omega
abbrev len8:ByteArray:=strK7
def blen8 (x:Nat):Nat:=if x=0 then 0 else if x<2 then 1 else if x<4 then 2 else if x<8 then 3 else if x<16 then 4 else if x<32 then 5 else if x<64 then 6 else if x<128 then 7 else 8
theorem blen8_eq (x:Nat) (h:x<256):blen x=blen8 x:=by
 refine blen_eq ?_ (fun h0=>?_) (fun h0=>by subst h0; rfl) <;> unfold blen8 <;> repeat' split
 all_goals (first | omega | (simp only [Nat.reducePow,Nat.reduceSub]; omega))
set_option maxRecDepth 100000 in
theorem len8_all:(List.range 256).all (fun k=>match len8[k]? with
  | some c=>Nat.beq c.toNat (blen8 k)
  | none=>false)=true:=by kernel_rfl
theorem len8_at (k:Nat) (h:k<256):∃ c:UInt8,len8[k]?=some c∧c.toNat=blen k:=by
 have:=List.all_eq_true.1 len8_all k (List.mem_range.2 h)
 generalize len8[k]?=r at this ⊢
 cases r with
 | none=>cases this
 | some c=>exact ⟨c,rfl,by rw [blen8_eq k h]; exact Nat.eq_of_beq_eq_true this⟩
theorem wrapU8 (a:Nat) (h:a<256):IntKind.wrap .u8 (a:Int)=a:=IntWalk.u8_in _ (by omega)
set_option maxRecDepth 100000 in
theorem p124_3 (x n:Nat) (hx:x<256) (hn:n≤64) (e:Env) (w:World) (R:Value→World→Prop) (ha:agree e (F124.l3 x n)) (hd:e.defers=[]) (hR:R (.int .i64 ((n+blen x:Nat):Int)) w) :
  W Tryz.prog 25 F124.p3 e w (retK Tryz.prog [.tmp 2] R):=by
 obtain ⟨c,hc,hb⟩:=len8_at x hx
 have hb8:blen x≤8:=blen_le_of_lt (by omega)
 refine F124.t3 _ _ ha fun B=>⟨x,c,wrapU8 x hx,hc,?_,fun _=>ret1 hd rfl ?_⟩
 ·rw [hb,wrapIN _ (by omega)]; unfold inI64; omega
 ·rw [hb,wrapIN _ (by omega)]; exact hR
theorem c124 (x:Nat) (hx:x<18446744073709551616):Told 124 #[.int .u64 (x:Int)] (.int .i64 (blen x:Int)):=fun w =>
 told <| F124.call _ w _ fun B=>by
  have s2:∀ (x n m:Nat) (e:Env),x<65536→n≤48→n+blen x=m→agree e (F124.l2 x n)→e.defers=[] →
    W Tryz.prog 25 F124.p2 e w (retK Tryz.prog [.tmp 2] fun u w'=>u=Value.int .i64 (m:Int)∧w'=w):=by
   intro x n m e hx hn hm ha hd
   refine F124.t2 _ _ ha fun B=>bc_intro (fun hb=>⟨by omega,by unfold inI64; omega,fun B1=>?_⟩) (fun hb B1=>?_)
   ·have h1:256≤x:=by have:=dT hb; omega
    have hs:=blen_shift x 8 (by omega)
    refine p124_3 (x/256) (n+8) (by omega) (by omega) _ w _ ⟨intv (iShrN x 8),rfl,trivial⟩ hd ⟨intv ?_,rfl⟩
    rw [show x/256=x/2^8 from rfl]; omega
   ·have h1:x<256:=by have:=dF hb; omega
    exact p124_3 x n h1 (by omega) _ w _ ⟨rfl,rfl,trivial⟩ hd ⟨by rw [hm],rfl⟩
  have s1:∀ (x n m:Nat) (e:Env),x<4294967296→n≤32→n+blen x=m→agree e (F124.l1 x n)→e.defers=[] →
    W Tryz.prog 25 F124.p1 e w (retK Tryz.prog [.tmp 2] fun u w'=>u=Value.int .i64 (m:Int)∧w'=w):=by
   intro x n m e hx hn hm ha hd
   refine F124.t1 _ _ ha fun B=>bc_intro (fun hb=>⟨by omega,by unfold inI64; omega,fun B1=>?_⟩) (fun hb B1=>?_)
   ·have h1:65536≤x:=by have:=dT hb; omega
    have hs:=blen_shift x 16 (by omega)
    exact s2 (x/65536) (n+16) m _ (by omega) (by omega) (by rw [show x/65536=x/2^16 from rfl]; omega) ⟨intv (iShrN x 16),rfl,trivial⟩ hd
   ·have h1:x<65536:=by have:=dF hb; omega
    exact s2 x n m _ h1 (by omega) hm ⟨rfl,rfl,trivial⟩ hd
  refine bc_intro (fun hb=>⟨by omega,fun B1=>?_⟩) (fun hb B1=>?_)
  ·have h1:4294967296≤x:=by have:=dT hb; omega
   have hs:=blen_shift x 32 (by omega)
   exact s1 (x/4294967296) 32 _ _ (by omega) (by omega) (by rw [show x/4294967296=x/2^32 from rfl]; omega) ⟨intv (iShrN x 32),rfl,trivial⟩ rfl
  ·have h1:x<4294967296:=by have:=dF hb; omega
   exact s1 x 0 _ _ h1 (by omega) (by omega) ⟨rfl,rfl,trivial⟩ rfl
theorem c84 (x:Nat) (hx:x<18446744073709551616):Told 84 #[.int .u64 (x:Int)] (.int .i64 (blen x:Int)):=fun w =>
 told <| F84.call _ w _ fun B=>(c124 x hx w).mono fun _ _ ⟨h1,h2⟩=>⟨_,h1,fun _=>ret1 rfl rfl ⟨rfl,h2⟩⟩
theorem c112 (x:Nat) (hx:x<18446744073709551616):Told 112 #[.int .u64 (x:Int)] (.int .i64 ((64-blen x:Nat):Int)):=fun w =>
 have h:=blen_le_of_lt (show x<2^64 from hx)
 told <| F112.call _ w _ fun B=>(c84 x hx w).mono fun _ _ ⟨h1,h2⟩=>⟨_,h1,by unfold inI64; omega,fun _=>ret1 rfl (intv (show (64:Int)-blen x=_ by omega)) ⟨rfl,h2⟩⟩
theorem c183 (x:Nat) (hx:x<18446744073709551616):Told 183 #[.int .u64 (x:Int)] (.int .i64 ((64-blen x:Nat):Int)):=fun w =>
 have h:=blen_le_of_lt (show x<2^64 from hx)
 told <| F183.call _ w _ fun B=>(c124 x hx w).mono fun _ _ ⟨h1,h2⟩=>⟨_,h1,by unfold inI64; omega,fun _=>ret1 rfl (intv (show (64:Int)-blen x=_ by omega)) ⟨rfl,h2⟩⟩
theorem c78 (x:Nat) (hx:x<18446744073709551616):Told 78 #[.int .u64 (x:Int)] (.int .u64 ((64-blen x:Nat):Int)):=fun w =>
 told <| F78.call _ w _ fun B=>(c112 x hx w).mono fun _ _ ⟨h1,h2⟩=>⟨_,h1,fun _=>ret1 rfl (intv (wrapN _ (by omega))) ⟨rfl,h2⟩⟩
end Go.Proofs.YtlkjiiibmfpbcaaGreatDoor
namespace Go.Proofs.YtlkjiiibmfpbcaaGreatDoor
open Go
theorem neF {a b:Int} (h:a=b):(a != b)=false:=by subst h; simp
theorem eqT {a b:Int} (h:a=b):(a==b)=true:=by subst h; simp
theorem neT {a b:Int} (h:a≠b):(a != b)=true:=by simpa using h
theorem eqF {a b:Int} (h:a≠b):(a==b)=false:=by simpa using h
theorem eqE {a b:Int} (h:(a==b)=true):a=b:=by simpa using h
theorem neE {a b:Int} (h:(a != b)=false):a=b:=by simpa using h
theorem eqN {a b:Int} (h:(a==b)=false):a≠b:=by simpa using h
theorem neN {a b:Int} (h:(a != b)=true):a≠b:=by simpa using h
theorem decT {p:Prop} [Decidable p] (h:p):decide p=true:=decide_eq_true h
theorem decF {p:Prop} [Decidable p] (h:¬p):decide p=false:=decide_eq_false h
theorem dlt {Z k d:Nat} (hZ:Z<BB^k) (hd:d<18446744073709551616):Z+BB^k*d<BB^(k+1):=by
 have:BB^k*d+BB^k≤BB^(k+1):=by rw [BBpow_succ,←Nat.mul_succ]; exact Nat.mul_le_mul_left _ hd
 omega
theorem dsum (p s:Nat):p*(s%18446744073709551616)+p*BB*(s/18446744073709551616)=p*s:=by
 show p*(s%BB)+p*BB*(s/BB)=p*s
 rw [Nat.mul_assoc,←Nat.mul_add,Nat.mod_add_div]
theorem rdC {w:World} {s:Sl} {i:Int} {k d:Nat} {Q:Nat→Nat→Nat→Int→Prop} (ha:s.a=some ⟨s.b,s.o,none⟩) (hi:i=(k:Int)) (hk:k<s.l) (hc:w.cell? ⟨s.b,s.o+k,none⟩=some (.int .u64 (d:Int)))
  (q:Q s.b s.o k d):nc s.a fun b o=>∃ k':Nat,i=(k':Int)∧k'<s.l∧∃ x,w.cell? ⟨b,o+k',none⟩=some (.int .u64 x)∧Q b o k' x :=
 ⟨s.b,s.o,ha,k,hi,hk,_,hc,q⟩
theorem wtC {w:World} {s:Sl} {i:Int} {k:Nat} {Q:Nat→Nat→Nat→Prop} (hs:Wt w s) (hi:i=(k:Int)) (hk:k<s.l)
  (q:Q s.b s.o k):nc s.a fun b o=>∃ k':Nat,i=(k':Int)∧k'<s.l∧((∃ u,w.cell? ⟨b,o+k',none⟩=some u)∧w.frozen? ⟨b,o+k',none⟩=false∧Q b o k') :=
 ⟨s.b,s.o,hs.at_ (by omega),k,hi,hk,(hs.wr k hk).1,(hs.wr k hk).2,q⟩
theorem chgAt {w wr:World} {S:Set2} {x:Sl} {X k:Nat} (h:Chg w wr S) (hx:Rd w x X) (hk:k<x.l) (hd:¬S x.b (x.o+k)):wr.cell? ⟨x.b,x.o+k,none⟩=some (.int .u64 (dg X k:Int)):=by
 have:=hx.sg k hk
 rw [h.cell (lt_of_cell this) hd]; exact this
theorem Rd.at0 {w:World} {x:Sl} {X k:Nat} (hx:Rd w x X) (hk:k<x.l):x.a=some ⟨x.b,x.o,none⟩:=hx.at_ (by omega)
def digs (v n:Nat):List Value:=(List.range n).map fun j=>.int .u64 (dg v j:Int)
theorem digs_len (v n:Nat):(digs v n).length=n:=by simp [digs]
theorem digs_get (v n j:Nat) (h:j<n):(digs v n)[j]?=some (.int .u64 (dg v j:Int)):=by simp [digs,h]
theorem Chg.setCells {b:Nat} (S:Set2):∀ (vs:List Value) (o:Nat) (w:World),Own w b→(∀ j,j<vs.length→S b (o+j))→Chg w (w.setCells b o vs) S
 | [],_,w,_,_=>Chg.refl w S
 | v :: r,o,w,hp,h=>by
  refine (Chg.setCell hp S (by simpa using h 0 (by simp))).trans' (Chg.setCells S r (o+1) _ (own_setCell hp) fun j hj=>?_)
  have:=h (j+1) (by simp; omega)
  rwa [show o+(j+1)=o+1+j by omega] at this
theorem info61:(Tryz.prog.info? 61).map (·.size)=some 1:=by kernel_rfl
theorem addr_add (b o j:Nat):(⟨b,o,none⟩:Addr).add j=⟨b,o+j,none⟩:=by unfold Addr.add; split <;> simp_all
theorem copyT (t:TypeId) (ht:Tryz.prog.underlying t=some (.slice 61)) (z x:Sl) (n:Nat) (hn:n=min x.l z.l) (X:Nat) (w:World) (hz:Wt w (z.to n)) (hx:Rd w (x.to n) X) :
  ∃ w',Sem.run Tryz.prog (builtin .copy #[t,t] 3 #[false,false] #[z.v,x.v]) w=.ok (.value (.int .i64 (n:Int))) w'∧Sg w' z.b z.o n X∧Chg w w' (inR z.b z.o (z.o+n)):=by
 by_cases h0:n=0
 ·subst h0
  have:=run_copy_none (P:=Tryz.prog) w t t 3 61 z.a x.a z.l z.c x.l x.c ht info61 hn.symm
  refine ⟨w,?_,Sg.zero,Chg.refl _ _⟩
  rw [BigFrame.builtin_copy]
  simp only [Sem.run_bind,Sl.v,this]
  rfl
 ·have za:z.a=some ⟨z.b,z.o,none⟩:=hz.at_ h0
  have xa:x.a=some ⟨x.b,x.o,none⟩:=hx.at_ h0
  have hp:Own w z.b:=hz.pl h0
  have hd:=run_copy_cells (P:=Tryz.prog) w t t 3 61 z.b z.o z.l z.c ⟨x.b,x.o,none⟩ x.l x.c (digs X n) ht info61 (by rw [digs_len]; exact hn)
   (fun j v hv=>by
    by_cases hj:j<n
    ·have hv:=Option.some.inj ((digs_get X n j hj).symm.trans hv); subst hv
     rw [addr_add]
     exact hx.sg j hj
    ·rw [List.getElem?_eq_none (by rw [digs_len]; omega)] at hv; exact absurd hv (by simp))
   (fun j hj=>by rw [digs_len] at hj; obtain ⟨u,hu⟩:=(hz.wr j hj).1; exact Option.isSome_iff_exists.2 ⟨u,hu⟩)
   (fun j hj=>by rw [digs_len] at hj; exact (hz.wr j hj).2)
   (fun v hv=>by simp only [digs,List.mem_map] at hv; obtain ⟨j,_,rfl⟩:=hv; rfl)
  refine ⟨_,?_,?_,Chg.setCells _ (digs X n) z.o w hp fun j hj=>by rw [digs_len] at hj; exact ⟨rfl,by omega,by omega⟩⟩
  ·rw [BigFrame.builtin_copy]
   simp only [Sem.run_bind,Sl.v,za,xa,hd]
   rw [digs_len]; rfl
  ·intro i hi
   have:=World.cell?_setCells_in z.b (digs X n) z.o w (fun j hj=>by rw [digs_len] at hj; obtain ⟨u,hu⟩:=(hz.wr j hj).1; exact Option.isSome_iff_exists.2 ⟨u,hu⟩) i (by rw [digs_len]; exact hi)
   rw [this]; simp [digs]
theorem copyW (z x:Sl) (n:Nat) (hn:n=min x.l z.l) (X:Nat) (w:World) (hz:Wt w (z.to n)) (hx:Rd w (x.to n) X) :
  ∃ w',Sem.run Tryz.prog (builtin .copy #[44,44] 3 #[false,false] #[z.v,x.v]) w=.ok (.value (.int .i64 (n:Int))) w'∧Sg w' z.b z.o n X∧Chg w w' (inR z.b z.o (z.o+n)):=copyT 44 Tryz.underlying44 z x n hn X w hz hx
end Go.Proofs.YtlkjiiibmfpbcaaGreatDoor
