/- Verification conditions, printed by wip/gen/gen.py and shrink.py; each is held against vc by the kernel. No condition. -/
import Derived.Test.YtlkjiiibmfpbcaaGreatDoorS05
import Derived.Test.YtlkjiiibmfpbcaaGreatDoorS20
namespace Go.Proofs.YtlkjiiibmfpbcaaGreatDoor
open Go
set_option maxRecDepth 100000
set_option linter.unusedVariables false
namespace F51
noncomputable def body:Code:=bodyOf Tryz.f51
def kt:List (Nat × List Nat):=[(3,[0,1,2,3,4,5]),(16,[0,1,2,3,4,5]),(27,[0,1,2,3,4]),(35,[0,1,2,3,4,15,17,18,19,20,21]),(36,[0,1,2,3,4,15,17,18,19,20,21]),(42,[0,1,2,3,4,15,17,18,19,20,21]),(45,[0,1,2,3,4,15,17,18,19,20,21]),(46,[0,1,2,3,4,17,19,20]),(47,[0,1,2,3,4,17,19,20,22]),(48,[0,1,2,3,4,17,19,20,22]),(49,[0,1,2,3,4,17,19,20,22]),(51,[0,1,2,3,4,15,17,19,20,22,23]),(52,[0,1,2,3,4,15,17,19,20,22,23]),(58,[0,1,2,3,4,15,17,19,20,22,23]),(61,[0,1,2,3,4,15,17,19,20,22,23]),(62,[0])]
noncomputable def p1:Code:=sb 2 3 body
noncomputable def p2:Code:=sb 8 255 body
noncomputable def p3:Code:=sb 10 1023 body
noncomputable def p4:Code:=sb 18 262143 body
noncomputable def p5:Code:=sb 21 2097140 body
noncomputable def p6:Code:=sb 19 524285 body
noncomputable def p7:Code:=sb 19 524287 body
noncomputable def p8:Code:=sb 22 4194292 body
noncomputable def p9:Code:=sb 20 1048573 body
noncomputable def p10:Code:=sb 23 8388563 body
noncomputable def p11:Code:=sb 27 134216999 body
noncomputable def p12:Code:=sb 24 16777171 body
noncomputable def p13:Code:=sb 25 33554340 body
noncomputable def p14:Code:=sb 24 16777170 body
noncomputable def p15:Code:=sb 28 268433999 body
noncomputable def p16:Code:=sb 29 536869452 body
noncomputable def p17:Code:=sb 27 134217363 body
noncomputable def p18:Code:=sb 31 2147477811 body
noncomputable def p19:Code:=sb 35 34359644967 body
noncomputable def p20:Code:=sb 36 68719289935 body
theorem q6:p6=.block 0 (.loop p5):=by kernel_rfl
theorem q9:p9=.block 2 (.loop p8):=by kernel_rfl
theorem q14:p14=.block 3 p13:=by kernel_rfl
theorem q17:p17=.block 4 (.loop p16):=by kernel_rfl
variable (A0:Option Addr) (N0 C0:Nat) (D1 A2:Option Addr) (N2 C2:Nat) (A3:Option Addr) (N3 C3:Nat) (A4:Option Addr) (N4 C4:Nat) (L5:Bool) (I15:Int) (A17:Option Addr) (N17 C17:Nat) (I18:Int) (A19:Option Addr) (N19 C19:Nat) (A20:Option Addr) (N20 C20:Nat) (I21 I22 I23:Int)
abbrev l0:List (Nat × Value):=[eS 0 A0 N0 C0,eP 1 D1,eS 2 A2 N2 C2,eS 3 A3 N3 C3,eS 4 A4 N4 C4,eB 5 L5]
def v0:VP:=fun B ds w K=>Cl 49 #[(.slice A0 N0 C0),(.slice A2 N2 C2)] w fun r1 w2=>∃ x3,r1=.returned (.bool x3)∧bc x3 (Wd 250 p1 [eS 0 none 0 0,eP 1 D1,eS 2 A2 N2 C2,eS 3 A3 N3 C3,eS 4 A4 N4 C4,eB 5 L5] ds w2 K) (Cl 49 #[(.slice A0 N0 C0),(.slice A3 N3 C3)] w2 fun r5 w6=>∃ x7,r5=.returned (.bool x7)∧bc x7 (Wd 250 p1 [eS 0 none 0 0,eP 1 D1,eS 2 A2 N2 C2,eS 3 A3 N3 C3,eS 4 A4 N4 C4,eB 5 L5] ds w6 K) (Wd 250 p1 [eS 0 A0 N0 C0,eP 1 D1,eS 2 A2 N2 C2,eS 3 A3 N3 C3,eS 4 A4 N4 C4,eB 5 L5] ds w6 K))
theorem t0:VZ 250 body (l0 A0 N0 C0 D1 A2 N2 C2 A3 N3 C3 A4 N4 C4 L5) (v0 A0 N0 C0 D1 A2 N2 C2 A3 N3 C3 A4 N4 C4 L5):=tz kt [12] fun B ds w K=>by kernel_rfl
theorem call:VCl 51 [.tmp 12] #[.slice A0 N0 C0,.pointer D1,.slice A2 N2 C2,.slice A3 N3 C3,.slice A4 N4 C4,.bool L5] (v0 A0 N0 C0 D1 A2 N2 C2 A3 N3 C3 A4 N4 C4 L5):=cz Tryz.func51 (by kernel_rfl) Tryz.ntmps51 Tryz.results51 (by kernel_rfl) (t0 A0 N0 C0 D1 A2 N2 C2 A3 N3 C3 A4 N4 C4 L5)
abbrev l1:List (Nat × Value):=[eS 0 A0 N0 C0,eP 1 D1,eS 2 A2 N2 C2,eS 3 A3 N3 C3,eS 4 A4 N4 C4,eB 5 L5]
def v1:VP:=fun B ds w K=>bc ((N4:Int)==1) (nc A4 fun b2 o3=>∃ k1:Nat,0=(k1:Int)∧k1<N4∧∃ x4,w.cell? ⟨b2,o3+k1,none⟩=some (.int .u64 x4)∧bc (x4==1) (Cl 71 #[(.slice A0 N0 C0),(.int .u64 0)] w fun r5 w6=>∃ x7a,∃ x7l,∃ x7c,r5=.returned (.slice x7a x7l x7c)∧Kd K .ret [eS 12 x7a x7l x7c] ds w6) (bc ((N3:Int)==0) (Cl 71 #[(.slice A0 N0 C0),(.int .u64 1)] w fun r9 w10=>∃ x11a,∃ x11l,∃ x11c,r9=.returned (.slice x11a x11l x11c)∧Kd K .ret [eS 12 x11a x11l x11c] ds w10) (bc ((N2:Int)==0) (Cl 71 #[(.slice A0 N0 C0),(.int .u64 0)] w fun r13 w14=>∃ x15a,∃ x15l,∃ x15c,r13=.returned (.slice x15a x15l x15c)∧Kd K .ret [eS 12 x15a x15l x15c] ds w14) (bc ((N2:Int)==1) (nc A2 fun b18 o19=>∃ k17:Nat,0=(k17:Int)∧k17<N2∧∃ x20,w.cell? ⟨b18,o19+k17,none⟩=some (.int .u64 x20)∧bc (x20==1) (Cl 71 #[(.slice A0 N0 C0),(.int .u64 1)] w fun r21 w22=>∃ x23a,∃ x23l,∃ x23c,r21=.returned (.slice x23a x23l x23c)∧Kd K .ret [eS 12 x23a x23l x23c] ds w22) (bc ((N3:Int)==1) (nc A3 fun b26 o27=>∃ k25:Nat,0=(k25:Int)∧k25<N3∧∃ x28,w.cell? ⟨b26,o27+k25,none⟩=some (.int .u64 x28)∧bc (x28==1) (bc ((N4:Int)==0) (Cl 60 #[(.slice A0 N0 C0),(.slice A2 N2 C2)] w fun r29 w30=>∃ x31a,∃ x31l,∃ x31c,r29=.returned (.slice x31a x31l x31c)∧Kd K .ret [eS 12 x31a x31l x31c] ds w30) (∃ q33,ptrEq w D1 none q33∧bc q33 (Cl 56 #[] w fun r34 w35=>∃ x36,r34=.returned (.pointer x36)∧Wd 250 p2 [eS 0 A0 N0 C0,eP 1 x36,eS 2 A2 N2 C2,eS 3 A3 N3 C3,eS 4 A4 N4 C4,eB 5 L5] (⟨.fn (.func 57) #[],#[(.pointer x36)]⟩ :: ds) w35 K) (Wd 250 p2 [eS 0 A0 N0 C0,eP 1 D1,eS 2 A2 N2 C2,eS 3 A3 N3 C3,eS 4 A4 N4 C4,eB 5 L5] ds w K))) (∃ q39,ptrEq w D1 none q39∧bc q39 (Cl 56 #[] w fun r40 w41=>∃ x42,r40=.returned (.pointer x42)∧Wd 250 p2 [eS 0 A0 N0 C0,eP 1 x42,eS 2 A2 N2 C2,eS 3 A3 N3 C3,eS 4 A4 N4 C4,eB 5 L5] (⟨.fn (.func 57) #[],#[(.pointer x42)]⟩ :: ds) w41 K) (Wd 250 p2 [eS 0 A0 N0 C0,eP 1 D1,eS 2 A2 N2 C2,eS 3 A3 N3 C3,eS 4 A4 N4 C4,eB 5 L5] ds w K))) (∃ q45,ptrEq w D1 none q45∧bc q45 (Cl 56 #[] w fun r46 w47=>∃ x48,r46=.returned (.pointer x48)∧Wd 250 p2 [eS 0 A0 N0 C0,eP 1 x48,eS 2 A2 N2 C2,eS 3 A3 N3 C3,eS 4 A4 N4 C4,eB 5 L5] (⟨.fn (.func 57) #[],#[(.pointer x48)]⟩ :: ds) w47 K) (Wd 250 p2 [eS 0 A0 N0 C0,eP 1 D1,eS 2 A2 N2 C2,eS 3 A3 N3 C3,eS 4 A4 N4 C4,eB 5 L5] ds w K)))) (bc ((N3:Int)==1) (nc A3 fun b52 o53=>∃ k51:Nat,0=(k51:Int)∧k51<N3∧∃ x54,w.cell? ⟨b52,o53+k51,none⟩=some (.int .u64 x54)∧bc (x54==1) (bc ((N4:Int)==0) (Cl 60 #[(.slice A0 N0 C0),(.slice A2 N2 C2)] w fun r55 w56=>∃ x57a,∃ x57l,∃ x57c,r55=.returned (.slice x57a x57l x57c)∧Kd K .ret [eS 12 x57a x57l x57c] ds w56) (∃ q59,ptrEq w D1 none q59∧bc q59 (Cl 56 #[] w fun r60 w61=>∃ x62,r60=.returned (.pointer x62)∧Wd 250 p2 [eS 0 A0 N0 C0,eP 1 x62,eS 2 A2 N2 C2,eS 3 A3 N3 C3,eS 4 A4 N4 C4,eB 5 L5] (⟨.fn (.func 57) #[],#[(.pointer x62)]⟩ :: ds) w61 K) (Wd 250 p2 [eS 0 A0 N0 C0,eP 1 D1,eS 2 A2 N2 C2,eS 3 A3 N3 C3,eS 4 A4 N4 C4,eB 5 L5] ds w K))) (∃ q65,ptrEq w D1 none q65∧bc q65 (Cl 56 #[] w fun r66 w67=>∃ x68,r66=.returned (.pointer x68)∧Wd 250 p2 [eS 0 A0 N0 C0,eP 1 x68,eS 2 A2 N2 C2,eS 3 A3 N3 C3,eS 4 A4 N4 C4,eB 5 L5] (⟨.fn (.func 57) #[],#[(.pointer x68)]⟩ :: ds) w67 K) (Wd 250 p2 [eS 0 A0 N0 C0,eP 1 D1,eS 2 A2 N2 C2,eS 3 A3 N3 C3,eS 4 A4 N4 C4,eB 5 L5] ds w K))) (∃ q71,ptrEq w D1 none q71∧bc q71 (Cl 56 #[] w fun r72 w73=>∃ x74,r72=.returned (.pointer x74)∧Wd 250 p2 [eS 0 A0 N0 C0,eP 1 x74,eS 2 A2 N2 C2,eS 3 A3 N3 C3,eS 4 A4 N4 C4,eB 5 L5] (⟨.fn (.func 57) #[],#[(.pointer x74)]⟩ :: ds) w73 K) (Wd 250 p2 [eS 0 A0 N0 C0,eP 1 D1,eS 2 A2 N2 C2,eS 3 A3 N3 C3,eS 4 A4 N4 C4,eB 5 L5] ds w K))))))) (bc ((N3:Int)==0) (Cl 71 #[(.slice A0 N0 C0),(.int .u64 1)] w fun r77 w78=>∃ x79a,∃ x79l,∃ x79c,r77=.returned (.slice x79a x79l x79c)∧Kd K .ret [eS 12 x79a x79l x79c] ds w78) (bc ((N2:Int)==0) (Cl 71 #[(.slice A0 N0 C0),(.int .u64 0)] w fun r81 w82=>∃ x83a,∃ x83l,∃ x83c,r81=.returned (.slice x83a x83l x83c)∧Kd K .ret [eS 12 x83a x83l x83c] ds w82) (bc ((N2:Int)==1) (nc A2 fun b86 o87=>∃ k85:Nat,0=(k85:Int)∧k85<N2∧∃ x88,w.cell? ⟨b86,o87+k85,none⟩=some (.int .u64 x88)∧bc (x88==1) (Cl 71 #[(.slice A0 N0 C0),(.int .u64 1)] w fun r89 w90=>∃ x91a,∃ x91l,∃ x91c,r89=.returned (.slice x91a x91l x91c)∧Kd K .ret [eS 12 x91a x91l x91c] ds w90) (bc ((N3:Int)==1) (nc A3 fun b94 o95=>∃ k93:Nat,0=(k93:Int)∧k93<N3∧∃ x96,w.cell? ⟨b94,o95+k93,none⟩=some (.int .u64 x96)∧bc (x96==1) (bc ((N4:Int)==0) (Cl 60 #[(.slice A0 N0 C0),(.slice A2 N2 C2)] w fun r97 w98=>∃ x99a,∃ x99l,∃ x99c,r97=.returned (.slice x99a x99l x99c)∧Kd K .ret [eS 12 x99a x99l x99c] ds w98) (∃ q101,ptrEq w D1 none q101∧bc q101 (Cl 56 #[] w fun r102 w103=>∃ x104,r102=.returned (.pointer x104)∧Wd 250 p2 [eS 0 A0 N0 C0,eP 1 x104,eS 2 A2 N2 C2,eS 3 A3 N3 C3,eS 4 A4 N4 C4,eB 5 L5] (⟨.fn (.func 57) #[],#[(.pointer x104)]⟩ :: ds) w103 K) (Wd 250 p2 [eS 0 A0 N0 C0,eP 1 D1,eS 2 A2 N2 C2,eS 3 A3 N3 C3,eS 4 A4 N4 C4,eB 5 L5] ds w K))) (∃ q107,ptrEq w D1 none q107∧bc q107 (Cl 56 #[] w fun r108 w109=>∃ x110,r108=.returned (.pointer x110)∧Wd 250 p2 [eS 0 A0 N0 C0,eP 1 x110,eS 2 A2 N2 C2,eS 3 A3 N3 C3,eS 4 A4 N4 C4,eB 5 L5] (⟨.fn (.func 57) #[],#[(.pointer x110)]⟩ :: ds) w109 K) (Wd 250 p2 [eS 0 A0 N0 C0,eP 1 D1,eS 2 A2 N2 C2,eS 3 A3 N3 C3,eS 4 A4 N4 C4,eB 5 L5] ds w K))) (∃ q113,ptrEq w D1 none q113∧bc q113 (Cl 56 #[] w fun r114 w115=>∃ x116,r114=.returned (.pointer x116)∧Wd 250 p2 [eS 0 A0 N0 C0,eP 1 x116,eS 2 A2 N2 C2,eS 3 A3 N3 C3,eS 4 A4 N4 C4,eB 5 L5] (⟨.fn (.func 57) #[],#[(.pointer x116)]⟩ :: ds) w115 K) (Wd 250 p2 [eS 0 A0 N0 C0,eP 1 D1,eS 2 A2 N2 C2,eS 3 A3 N3 C3,eS 4 A4 N4 C4,eB 5 L5] ds w K)))) (bc ((N3:Int)==1) (nc A3 fun b120 o121=>∃ k119:Nat,0=(k119:Int)∧k119<N3∧∃ x122,w.cell? ⟨b120,o121+k119,none⟩=some (.int .u64 x122)∧bc (x122==1) (bc ((N4:Int)==0) (Cl 60 #[(.slice A0 N0 C0),(.slice A2 N2 C2)] w fun r123 w124=>∃ x125a,∃ x125l,∃ x125c,r123=.returned (.slice x125a x125l x125c)∧Kd K .ret [eS 12 x125a x125l x125c] ds w124) (∃ q127,ptrEq w D1 none q127∧bc q127 (Cl 56 #[] w fun r128 w129=>∃ x130,r128=.returned (.pointer x130)∧Wd 250 p2 [eS 0 A0 N0 C0,eP 1 x130,eS 2 A2 N2 C2,eS 3 A3 N3 C3,eS 4 A4 N4 C4,eB 5 L5] (⟨.fn (.func 57) #[],#[(.pointer x130)]⟩ :: ds) w129 K) (Wd 250 p2 [eS 0 A0 N0 C0,eP 1 D1,eS 2 A2 N2 C2,eS 3 A3 N3 C3,eS 4 A4 N4 C4,eB 5 L5] ds w K))) (∃ q133,ptrEq w D1 none q133∧bc q133 (Cl 56 #[] w fun r134 w135=>∃ x136,r134=.returned (.pointer x136)∧Wd 250 p2 [eS 0 A0 N0 C0,eP 1 x136,eS 2 A2 N2 C2,eS 3 A3 N3 C3,eS 4 A4 N4 C4,eB 5 L5] (⟨.fn (.func 57) #[],#[(.pointer x136)]⟩ :: ds) w135 K) (Wd 250 p2 [eS 0 A0 N0 C0,eP 1 D1,eS 2 A2 N2 C2,eS 3 A3 N3 C3,eS 4 A4 N4 C4,eB 5 L5] ds w K))) (∃ q139,ptrEq w D1 none q139∧bc q139 (Cl 56 #[] w fun r140 w141=>∃ x142,r140=.returned (.pointer x142)∧Wd 250 p2 [eS 0 A0 N0 C0,eP 1 x142,eS 2 A2 N2 C2,eS 3 A3 N3 C3,eS 4 A4 N4 C4,eB 5 L5] (⟨.fn (.func 57) #[],#[(.pointer x142)]⟩ :: ds) w141 K) (Wd 250 p2 [eS 0 A0 N0 C0,eP 1 D1,eS 2 A2 N2 C2,eS 3 A3 N3 C3,eS 4 A4 N4 C4,eB 5 L5] ds w K))))))
theorem t1:VT 250 p1 (l1 A0 N0 C0 D1 A2 N2 C2 A3 N3 C3 A4 N4 C4 L5) (v1 A0 N0 C0 D1 A2 N2 C2 A3 N3 C3 A4 N4 C4 L5):=tw kt [12] fun B ds w K=>by kernel_rfl
abbrev l2:List (Nat × Value):=[eS 0 A0 N0 C0,eP 1 D1,eS 2 A2 N2 C2,eS 3 A3 N3 C3,eS 4 A4 N4 C4,eB 5 L5]
def v2:VP:=fun B ds w K=>bc ((N3:Int)==1) (nc A3 fun b2 o3=>∃ k1:Nat,0=(k1:Int)∧k1<N3∧∃ x4,w.cell? ⟨b2,o3+k1,none⟩=some (.int .u64 x4)∧bc (x4==1) (Cl 72 #[(.slice A0 N0 C0),(.pointer D1),(.slice A2 N2 C2),(.slice A4 N4 C4)] w fun r5 w6=>∃ x7a,∃ x7l,∃ x7c,r5=.returned (.slice x7a x7l x7c)∧Kd K .ret [eS 12 x7a x7l x7c] ds w6) (bc ((N4:Int) != 0) (Cl 73 #[(.slice A0 N0 C0),(.int .i64 (N4:Int))] w fun r9 w10=>∃ x11a,∃ x11l,∃ x11c,r9=.returned (.slice x11a x11l x11c)∧bc (decide ((N3:Int)>(1:Int))) (bc (!L5) (nc A4 fun b13 o14=>∃ k12:Nat,0=(k12:Int)∧k12<N4∧∃ x15,w10.cell? ⟨b13,o14+k12,none⟩=some (.int .u64 x15)∧bc ((iAnd .u64 x15 1)==1) (Cl 74 #[(.slice x11a x11l x11c),(.pointer D1),(.slice A2 N2 C2),(.slice A3 N3 C3),(.slice A4 N4 C4)] w10 fun r16 w17=>∃ x18a,∃ x18l,∃ x18c,r16=.returned (.slice x18a x18l x18c)∧Kd K .ret [eS 12 x18a x18l x18c] ds w17) (Cl 75 #[(.slice A4 N4 C4)] w10 fun r20 w21=>∃ x22,True∧∃ x23,True∧r20=.returned (.tuple #[(.int .u64 x22),(.bool x23)])∧bc x23 (Cl 76 #[(.slice x11a x11l x11c),(.pointer D1),(.slice A2 N2 C2),(.slice A3 N3 C3),(.int .u64 x22)] w21 fun r24 w25=>∃ x26a,∃ x26l,∃ x26c,r24=.returned (.slice x26a x26l x26c)∧Kd K .ret [eS 12 x26a x26l x26c] ds w25) (Cl 77 #[(.slice x11a x11l x11c),(.pointer D1),(.slice A2 N2 C2),(.slice A3 N3 C3),(.slice A4 N4 C4)] w21 fun r28 w29=>∃ x30a,∃ x30l,∃ x30c,r28=.returned (.slice x30a x30l x30c)∧Kd K .ret [eS 12 x30a x30l x30c] ds w29))) (Wd 250 p3 [eS 0 x11a x11l x11c,eP 1 D1,eS 2 A2 N2 C2,eS 3 A3 N3 C3,eS 4 A4 N4 C4] ds w10 K)) (Wd 250 p3 [eS 0 x11a x11l x11c,eP 1 D1,eS 2 A2 N2 C2,eS 3 A3 N3 C3,eS 4 A4 N4 C4] ds w10 K)) (Wd 250 p3 [eS 0 A0 N0 C0,eP 1 D1,eS 2 A2 N2 C2,eS 3 A3 N3 C3,eS 4 A4 N4 C4] ds w K))) (bc ((N4:Int) != 0) (Cl 73 #[(.slice A0 N0 C0),(.int .i64 (N4:Int))] w fun r35 w36=>∃ x37a,∃ x37l,∃ x37c,r35=.returned (.slice x37a x37l x37c)∧bc (decide ((N3:Int)>(1:Int))) (bc (!L5) (nc A4 fun b39 o40=>∃ k38:Nat,0=(k38:Int)∧k38<N4∧∃ x41,w36.cell? ⟨b39,o40+k38,none⟩=some (.int .u64 x41)∧bc ((iAnd .u64 x41 1)==1) (Cl 74 #[(.slice x37a x37l x37c),(.pointer D1),(.slice A2 N2 C2),(.slice A3 N3 C3),(.slice A4 N4 C4)] w36 fun r42 w43=>∃ x44a,∃ x44l,∃ x44c,r42=.returned (.slice x44a x44l x44c)∧Kd K .ret [eS 12 x44a x44l x44c] ds w43) (Cl 75 #[(.slice A4 N4 C4)] w36 fun r46 w47=>∃ x48,True∧∃ x49,True∧r46=.returned (.tuple #[(.int .u64 x48),(.bool x49)])∧bc x49 (Cl 76 #[(.slice x37a x37l x37c),(.pointer D1),(.slice A2 N2 C2),(.slice A3 N3 C3),(.int .u64 x48)] w47 fun r50 w51=>∃ x52a,∃ x52l,∃ x52c,r50=.returned (.slice x52a x52l x52c)∧Kd K .ret [eS 12 x52a x52l x52c] ds w51) (Cl 77 #[(.slice x37a x37l x37c),(.pointer D1),(.slice A2 N2 C2),(.slice A3 N3 C3),(.slice A4 N4 C4)] w47 fun r54 w55=>∃ x56a,∃ x56l,∃ x56c,r54=.returned (.slice x56a x56l x56c)∧Kd K .ret [eS 12 x56a x56l x56c] ds w55))) (Wd 250 p3 [eS 0 x37a x37l x37c,eP 1 D1,eS 2 A2 N2 C2,eS 3 A3 N3 C3,eS 4 A4 N4 C4] ds w36 K)) (Wd 250 p3 [eS 0 x37a x37l x37c,eP 1 D1,eS 2 A2 N2 C2,eS 3 A3 N3 C3,eS 4 A4 N4 C4] ds w36 K)) (Wd 250 p3 [eS 0 A0 N0 C0,eP 1 D1,eS 2 A2 N2 C2,eS 3 A3 N3 C3,eS 4 A4 N4 C4] ds w K))
theorem t2:VT 250 p2 (l2 A0 N0 C0 D1 A2 N2 C2 A3 N3 C3 A4 N4 C4 L5) (v2 A0 N0 C0 D1 A2 N2 C2 A3 N3 C3 A4 N4 C4 L5):=tw kt [12] fun B ds w K=>by kernel_rfl
abbrev l3:List (Nat × Value):=[eS 0 A0 N0 C0,eP 1 D1,eS 2 A2 N2 C2,eS 3 A3 N3 C3,eS 4 A4 N4 C4]
def v3:VP:=fun B ds w K=>Cl 60 #[(.slice A0 N0 C0),(.slice A2 N2 C2)] w fun r1 w2=>∃ x3a,∃ x3l,∃ x3c,r1=.returned (.slice x3a x3l x3c)∧inI64 ((N3:Int)-1)∧nc A3 fun b5 o6=>∃ k4:Nat,((N3:Int)-1)=(k4:Int)∧k4<N3∧∃ x7,w2.cell? ⟨b5,o6+k4,none⟩=some (.int .u64 x7)∧Cl 78 #[(.int .u64 x7)] w2 fun r8 w9=>∃ x10,r8=.returned (.int .u64 x10)∧(0:Int)≤(IntKind.wrap .u64 (x10+1))∧inI64 (64-(IntKind.wrap .i64 (IntKind.wrap .u64 (x10+1))))∧Wd 250 p6 [eS 0 x3a x3l x3c,eP 1 D1,eS 2 A2 N2 C2,eS 3 A3 N3 C3,eS 4 A4 N4 C4,eU 15 (iShl .u64 x7 (IntKind.wrap .u64 (x10+1))),eS 17 none 0 0,eI 18 (64-(IntKind.wrap .i64 (IntKind.wrap .u64 (x10+1)))),eS 19 none 0 0,eS 20 none 0 0,eI 21 0] ds w9 (thenW Tryz.prog 250 p4 K)
theorem t3:VT 250 p3 (l3 A0 N0 C0 D1 A2 N2 C2 A3 N3 C3 A4 N4 C4) (v3 A0 N0 C0 D1 A2 N2 C2 A3 N3 C3 A4 N4 C4):=tw kt [12] fun B ds w K=>by kernel_rfl
abbrev l4:List (Nat × Value):=[eS 0 A0 N0 C0,eP 1 D1,eS 2 A2 N2 C2,eS 3 A3 N3 C3,eS 4 A4 N4 C4,eS 17 A17 N17 C17,eS 19 A19 N19 C19,eS 20 A20 N20 C20]
def v4:VP:=fun B ds w K=>inI64 ((N3:Int)-2)∧Wd 250 p9 [eS 0 A0 N0 C0,eP 1 D1,eS 2 A2 N2 C2,eS 3 A3 N3 C3,eS 4 A4 N4 C4,eS 17 A17 N17 C17,eS 19 A19 N19 C19,eS 20 A20 N20 C20,eI 22 ((N3:Int)-2)] ds w (thenW Tryz.prog 250 p7 K)
theorem t4:VT 250 p4 (l4 A0 N0 C0 D1 A2 N2 C2 A3 N3 C3 A4 N4 C4 A17 N17 C17 A19 N19 C19 A20 N20 C20) (v4 A0 N0 C0 D1 A2 N2 C2 A3 N3 C3 A4 N4 C4 A17 N17 C17 A19 N19 C19 A20 N20 C20):=tw kt [12] fun B ds w K=>by kernel_rfl
abbrev l5:List (Nat × Value):=[eS 0 A0 N0 C0,eP 1 D1,eS 2 A2 N2 C2,eS 3 A3 N3 C3,eS 4 A4 N4 C4,eU 15 I15,eS 17 A17 N17 C17,eI 18 I18,eS 19 A19 N19 C19,eS 20 A20 N20 C20,eI 21 I21]
def v5:VP:=fun B ds w K=>bc (decide (I21<(I18:Int))) (Cl 79 #[(.slice A19 N19 C19),(.pointer D1),(.slice A0 N0 C0)] w fun r1 w2=>∃ x3a,∃ x3l,∃ x3c,r1=.returned (.slice x3a x3l x3c)∧bc ((iAnd .u64 I15 9223372036854775808) != 0) (Cl 80 #[(.slice A0 N0 C0),(.pointer D1),(.slice x3a x3l x3c),(.slice A2 N2 C2)] w2 fun r4 w5=>∃ x6a,∃ x6l,∃ x6c,r4=.returned (.slice x6a x6l x6c)∧Wd 250 p11 [eS 0 x6a x6l x6c,eP 1 D1,eS 2 A2 N2 C2,eS 3 A3 N3 C3,eS 4 A4 N4 C4,eU 15 I15,eS 17 A17 N17 C17,eI 18 I18,eS 19 x3a x3l x3c,eS 20 A20 N20 C20,eI 21 I21] ds w5 (blockK 1 (thenW Tryz.prog 250 p10 K))) (Wd 250 p11 [eS 0 x3a x3l x3c,eP 1 D1,eS 2 A2 N2 C2,eS 3 A3 N3 C3,eS 4 A4 N4 C4,eU 15 I15,eS 17 A17 N17 C17,eI 18 I18,eS 19 A0 N0 C0,eS 20 A20 N20 C20,eI 21 I21] ds w2 (blockK 1 (thenW Tryz.prog 250 p10 K)))) (Kd K (.exit 0) [eS 0 A0 N0 C0,eP 1 D1,eS 2 A2 N2 C2,eS 3 A3 N3 C3,eS 4 A4 N4 C4,eU 15 I15,eS 17 A17 N17 C17,eI 18 I18,eS 19 A19 N19 C19,eS 20 A20 N20 C20,eI 21 I21] ds w)
theorem t5:VT 250 p5 (l5 A0 N0 C0 D1 A2 N2 C2 A3 N3 C3 A4 N4 C4 I15 A17 N17 C17 I18 A19 N19 C19 A20 N20 C20 I21) (v5 A0 N0 C0 D1 A2 N2 C2 A3 N3 C3 A4 N4 C4 I15 A17 N17 C17 I18 A19 N19 C19 A20 N20 C20 I21):=tw kt [0,1,2,3,4,15,17,18,19,20,21] fun B ds w K=>by kernel_rfl
abbrev l7:List (Nat × Value):=[eS 0 A0 N0 C0]
def v7:VP:=fun B ds w K=>Cl 46 #[(.slice A0 N0 C0)] w fun r1 w2=>∃ x3a,∃ x3l,∃ x3c,r1=.returned (.slice x3a x3l x3c)∧Kd K .ret [eS 12 x3a x3l x3c] ds w2
theorem t7:VT 250 p7 (l7 A0 N0 C0) (v7 A0 N0 C0):=tw kt [12] fun B ds w K=>by kernel_rfl
abbrev l8:List (Nat × Value):=[eS 0 A0 N0 C0,eP 1 D1,eS 2 A2 N2 C2,eS 3 A3 N3 C3,eS 4 A4 N4 C4,eS 17 A17 N17 C17,eS 19 A19 N19 C19,eS 20 A20 N20 C20,eI 22 I22]
def v8:VP:=fun B ds w K=>bc (decide (I22≥(0:Int))) (Wd 250 p14 [eS 0 A0 N0 C0,eP 1 D1,eS 2 A2 N2 C2,eS 3 A3 N3 C3,eS 4 A4 N4 C4,eS 17 A17 N17 C17,eS 19 A19 N19 C19,eS 20 A20 N20 C20,eI 22 I22] ds w (thenW Tryz.prog 250 p12 K)) (Kd K (.exit 2) [eS 0 A0 N0 C0,eP 1 D1,eS 2 A2 N2 C2,eS 3 A3 N3 C3,eS 4 A4 N4 C4,eS 17 A17 N17 C17,eS 19 A19 N19 C19,eS 20 A20 N20 C20,eI 22 I22] ds w)
theorem t8:VT 250 p8 (l8 A0 N0 C0 D1 A2 N2 C2 A3 N3 C3 A4 N4 C4 A17 N17 C17 A19 N19 C19 A20 N20 C20 I22) (v8 A0 N0 C0 D1 A2 N2 C2 A3 N3 C3 A4 N4 C4 A17 N17 C17 A19 N19 C19 A20 N20 C20 I22):=tw kt [0,1,2,3,4,17,19,20,22] fun B ds w K=>by kernel_rfl
abbrev l10:List (Nat × Value):=[eS 0 A0 N0 C0,eP 1 D1,eS 2 A2 N2 C2,eS 3 A3 N3 C3,eS 4 A4 N4 C4,eU 15 I15,eS 17 A17 N17 C17,eI 18 I18,eS 19 A19 N19 C19,eS 20 A20 N20 C20,eI 21 I21]
def v10:VP:=fun B ds w K=>inI64 (I21+1)∧Kd K .normal [eS 0 A0 N0 C0,eP 1 D1,eS 2 A2 N2 C2,eS 3 A3 N3 C3,eS 4 A4 N4 C4,eU 15 I15,eS 17 A17 N17 C17,eI 18 I18,eS 19 A19 N19 C19,eS 20 A20 N20 C20,eI 21 (I21+1)] ds w
theorem t10:VT 250 p10 (l10 A0 N0 C0 D1 A2 N2 C2 A3 N3 C3 A4 N4 C4 I15 A17 N17 C17 I18 A19 N19 C19 A20 N20 C20 I21) (v10 A0 N0 C0 D1 A2 N2 C2 A3 N3 C3 A4 N4 C4 I15 A17 N17 C17 I18 A19 N19 C19 A20 N20 C20 I21):=tw kt [0,1,2,3,4,15,17,18,19,20,21] fun B ds w K=>by kernel_rfl
abbrev l11:List (Nat × Value):=[eS 0 A0 N0 C0,eP 1 D1,eS 2 A2 N2 C2,eS 3 A3 N3 C3,eS 4 A4 N4 C4,eU 15 I15,eS 17 A17 N17 C17,eI 18 I18,eS 19 A19 N19 C19,eS 20 A20 N20 C20,eI 21 I21]
def v11:VP:=fun B ds w K=>bc ((N4:Int) != 0) (Cl 81 #[(.slice A19 N19 C19),(.pointer D1),(.slice A20 N20 C20),(.slice A0 N0 C0),(.slice A4 N4 C4)] w fun r1 w2=>∃ x3a,∃ x3l,∃ x3c,True∧∃ x4a,∃ x4l,∃ x4c,True∧r1=.returned (.tuple #[(.slice x3a x3l x3c),(.slice x4a x4l x4c)])∧Wd 250 p15 [eS 0 x4a x4l x4c,eP 1 D1,eS 2 A2 N2 C2,eS 3 A3 N3 C3,eS 4 A4 N4 C4,eU 15 I15,eS 17 x3a x3l x3c,eI 18 I18,eS 19 A17 N17 C17,eS 20 A0 N0 C0,eI 21 I21] ds w2 K) (Wd 250 p15 [eS 0 A0 N0 C0,eP 1 D1,eS 2 A2 N2 C2,eS 3 A3 N3 C3,eS 4 A4 N4 C4,eU 15 I15,eS 17 A17 N17 C17,eI 18 I18,eS 19 A19 N19 C19,eS 20 A20 N20 C20,eI 21 I21] ds w K)
theorem t11:VT 250 p11 (l11 A0 N0 C0 D1 A2 N2 C2 A3 N3 C3 A4 N4 C4 I15 A17 N17 C17 I18 A19 N19 C19 A20 N20 C20 I21) (v11 A0 N0 C0 D1 A2 N2 C2 A3 N3 C3 A4 N4 C4 I15 A17 N17 C17 I18 A19 N19 C19 A20 N20 C20 I21):=tw kt [0,1,2,3,4,15,17,18,19,20,21] fun B ds w K=>by kernel_rfl
abbrev l12:List (Nat × Value):=[eS 0 A0 N0 C0,eP 1 D1,eS 2 A2 N2 C2,eS 3 A3 N3 C3,eS 4 A4 N4 C4,eS 17 A17 N17 C17,eS 19 A19 N19 C19,eS 20 A20 N20 C20,eI 22 I22]
def v12:VP:=fun B ds w K=>inI64 (I22-1)∧Kd K .normal [eS 0 A0 N0 C0,eP 1 D1,eS 2 A2 N2 C2,eS 3 A3 N3 C3,eS 4 A4 N4 C4,eS 17 A17 N17 C17,eS 19 A19 N19 C19,eS 20 A20 N20 C20,eI 22 (I22-1)] ds w
theorem t12:VT 250 p12 (l12 A0 N0 C0 D1 A2 N2 C2 A3 N3 C3 A4 N4 C4 A17 N17 C17 A19 N19 C19 A20 N20 C20 I22) (v12 A0 N0 C0 D1 A2 N2 C2 A3 N3 C3 A4 N4 C4 A17 N17 C17 A19 N19 C19 A20 N20 C20 I22):=tw kt [0,1,2,3,4,17,19,20,22] fun B ds w K=>by kernel_rfl
abbrev l13:List (Nat × Value):=[eS 0 A0 N0 C0,eP 1 D1,eS 2 A2 N2 C2,eS 3 A3 N3 C3,eS 4 A4 N4 C4,eS 17 A17 N17 C17,eS 19 A19 N19 C19,eS 20 A20 N20 C20,eI 22 I22]
def v13:VP:=fun B ds w K=>nc A3 fun b2 o3=>∃ k1:Nat,I22=(k1:Int)∧k1<N3∧∃ x4,w.cell? ⟨b2,o3+k1,none⟩=some (.int .u64 x4)∧Wd 250 p17 [eS 0 A0 N0 C0,eP 1 D1,eS 2 A2 N2 C2,eS 3 A3 N3 C3,eS 4 A4 N4 C4,eU 15 x4,eS 17 A17 N17 C17,eS 19 A19 N19 C19,eS 20 A20 N20 C20,eI 22 I22,eI 23 0] ds w K
theorem t13:VT 250 p13 (l13 A0 N0 C0 D1 A2 N2 C2 A3 N3 C3 A4 N4 C4 A17 N17 C17 A19 N19 C19 A20 N20 C20 I22) (v13 A0 N0 C0 D1 A2 N2 C2 A3 N3 C3 A4 N4 C4 A17 N17 C17 A19 N19 C19 A20 N20 C20 I22):=tw kt [0,1,2,3,4,17,19,20,22] fun B ds w K=>by kernel_rfl
abbrev l15:List (Nat × Value):=[eS 0 A0 N0 C0,eP 1 D1,eS 2 A2 N2 C2,eS 3 A3 N3 C3,eS 4 A4 N4 C4,eU 15 I15,eS 17 A17 N17 C17,eI 18 I18,eS 19 A19 N19 C19,eS 20 A20 N20 C20,eI 21 I21]
def v15:VP:=fun B ds w K=>(0:Int)≤1∧Kd K .normal [eS 0 A0 N0 C0,eP 1 D1,eS 2 A2 N2 C2,eS 3 A3 N3 C3,eS 4 A4 N4 C4,eU 15 (iShl .u64 I15 1),eS 17 A17 N17 C17,eI 18 I18,eS 19 A19 N19 C19,eS 20 A20 N20 C20,eI 21 I21] ds w
theorem t15:VT 250 p15 (l15 A0 N0 C0 D1 A2 N2 C2 A3 N3 C3 A4 N4 C4 I15 A17 N17 C17 I18 A19 N19 C19 A20 N20 C20 I21) (v15 A0 N0 C0 D1 A2 N2 C2 A3 N3 C3 A4 N4 C4 I15 A17 N17 C17 I18 A19 N19 C19 A20 N20 C20 I21):=tw kt [0,1,2,3,4,15,17,18,19,20,21] fun B ds w K=>by kernel_rfl
abbrev l16:List (Nat × Value):=[eS 0 A0 N0 C0,eP 1 D1,eS 2 A2 N2 C2,eS 3 A3 N3 C3,eS 4 A4 N4 C4,eU 15 I15,eS 17 A17 N17 C17,eS 19 A19 N19 C19,eS 20 A20 N20 C20,eI 22 I22,eI 23 I23]
def v16:VP:=fun B ds w K=>bc (decide (I23<(64:Int))) (Cl 79 #[(.slice A19 N19 C19),(.pointer D1),(.slice A0 N0 C0)] w fun r1 w2=>∃ x3a,∃ x3l,∃ x3c,r1=.returned (.slice x3a x3l x3c)∧bc ((iAnd .u64 I15 9223372036854775808) != 0) (Cl 80 #[(.slice A0 N0 C0),(.pointer D1),(.slice x3a x3l x3c),(.slice A2 N2 C2)] w2 fun r4 w5=>∃ x6a,∃ x6l,∃ x6c,r4=.returned (.slice x6a x6l x6c)∧Wd 250 p19 [eS 0 x6a x6l x6c,eP 1 D1,eS 2 A2 N2 C2,eS 3 A3 N3 C3,eS 4 A4 N4 C4,eU 15 I15,eS 17 A17 N17 C17,eS 19 x3a x3l x3c,eS 20 A20 N20 C20,eI 22 I22,eI 23 I23] ds w5 (blockK 5 (thenW Tryz.prog 250 p18 K))) (Wd 250 p19 [eS 0 x3a x3l x3c,eP 1 D1,eS 2 A2 N2 C2,eS 3 A3 N3 C3,eS 4 A4 N4 C4,eU 15 I15,eS 17 A17 N17 C17,eS 19 A0 N0 C0,eS 20 A20 N20 C20,eI 22 I22,eI 23 I23] ds w2 (blockK 5 (thenW Tryz.prog 250 p18 K)))) (Kd K (.exit 4) [eS 0 A0 N0 C0,eP 1 D1,eS 2 A2 N2 C2,eS 3 A3 N3 C3,eS 4 A4 N4 C4,eU 15 I15,eS 17 A17 N17 C17,eS 19 A19 N19 C19,eS 20 A20 N20 C20,eI 22 I22,eI 23 I23] ds w)
theorem t16:VT 250 p16 (l16 A0 N0 C0 D1 A2 N2 C2 A3 N3 C3 A4 N4 C4 I15 A17 N17 C17 A19 N19 C19 A20 N20 C20 I22 I23) (v16 A0 N0 C0 D1 A2 N2 C2 A3 N3 C3 A4 N4 C4 I15 A17 N17 C17 A19 N19 C19 A20 N20 C20 I22 I23):=tw kt [0,1,2,3,4,15,17,19,20,22,23] fun B ds w K=>by kernel_rfl
abbrev l18:List (Nat × Value):=[eS 0 A0 N0 C0,eP 1 D1,eS 2 A2 N2 C2,eS 3 A3 N3 C3,eS 4 A4 N4 C4,eU 15 I15,eS 17 A17 N17 C17,eS 19 A19 N19 C19,eS 20 A20 N20 C20,eI 22 I22,eI 23 I23]
def v18:VP:=fun B ds w K=>inI64 (I23+1)∧Kd K .normal [eS 0 A0 N0 C0,eP 1 D1,eS 2 A2 N2 C2,eS 3 A3 N3 C3,eS 4 A4 N4 C4,eU 15 I15,eS 17 A17 N17 C17,eS 19 A19 N19 C19,eS 20 A20 N20 C20,eI 22 I22,eI 23 (I23+1)] ds w
theorem t18:VT 250 p18 (l18 A0 N0 C0 D1 A2 N2 C2 A3 N3 C3 A4 N4 C4 I15 A17 N17 C17 A19 N19 C19 A20 N20 C20 I22 I23) (v18 A0 N0 C0 D1 A2 N2 C2 A3 N3 C3 A4 N4 C4 I15 A17 N17 C17 A19 N19 C19 A20 N20 C20 I22 I23):=tw kt [0,1,2,3,4,15,17,19,20,22,23] fun B ds w K=>by kernel_rfl
abbrev l19:List (Nat × Value):=[eS 0 A0 N0 C0,eP 1 D1,eS 2 A2 N2 C2,eS 3 A3 N3 C3,eS 4 A4 N4 C4,eU 15 I15,eS 17 A17 N17 C17,eS 19 A19 N19 C19,eS 20 A20 N20 C20,eI 22 I22,eI 23 I23]
def v19:VP:=fun B ds w K=>bc ((N4:Int) != 0) (Cl 81 #[(.slice A19 N19 C19),(.pointer D1),(.slice A20 N20 C20),(.slice A0 N0 C0),(.slice A4 N4 C4)] w fun r1 w2=>∃ x3a,∃ x3l,∃ x3c,True∧∃ x4a,∃ x4l,∃ x4c,True∧r1=.returned (.tuple #[(.slice x3a x3l x3c),(.slice x4a x4l x4c)])∧Wd 250 p20 [eS 0 x4a x4l x4c,eP 1 D1,eS 2 A2 N2 C2,eS 3 A3 N3 C3,eS 4 A4 N4 C4,eU 15 I15,eS 17 x3a x3l x3c,eS 19 A17 N17 C17,eS 20 A0 N0 C0,eI 22 I22,eI 23 I23] ds w2 K) (Wd 250 p20 [eS 0 A0 N0 C0,eP 1 D1,eS 2 A2 N2 C2,eS 3 A3 N3 C3,eS 4 A4 N4 C4,eU 15 I15,eS 17 A17 N17 C17,eS 19 A19 N19 C19,eS 20 A20 N20 C20,eI 22 I22,eI 23 I23] ds w K)
theorem t19:VT 250 p19 (l19 A0 N0 C0 D1 A2 N2 C2 A3 N3 C3 A4 N4 C4 I15 A17 N17 C17 A19 N19 C19 A20 N20 C20 I22 I23) (v19 A0 N0 C0 D1 A2 N2 C2 A3 N3 C3 A4 N4 C4 I15 A17 N17 C17 A19 N19 C19 A20 N20 C20 I22 I23):=tw kt [0,1,2,3,4,15,17,19,20,22,23] fun B ds w K=>by kernel_rfl
abbrev l20:List (Nat × Value):=[eS 0 A0 N0 C0,eP 1 D1,eS 2 A2 N2 C2,eS 3 A3 N3 C3,eS 4 A4 N4 C4,eU 15 I15,eS 17 A17 N17 C17,eS 19 A19 N19 C19,eS 20 A20 N20 C20,eI 22 I22,eI 23 I23]
def v20:VP:=fun B ds w K=>(0:Int)≤1∧Kd K .normal [eS 0 A0 N0 C0,eP 1 D1,eS 2 A2 N2 C2,eS 3 A3 N3 C3,eS 4 A4 N4 C4,eU 15 (iShl .u64 I15 1),eS 17 A17 N17 C17,eS 19 A19 N19 C19,eS 20 A20 N20 C20,eI 22 I22,eI 23 I23] ds w
theorem t20:VT 250 p20 (l20 A0 N0 C0 D1 A2 N2 C2 A3 N3 C3 A4 N4 C4 I15 A17 N17 C17 A19 N19 C19 A20 N20 C20 I22 I23) (v20 A0 N0 C0 D1 A2 N2 C2 A3 N3 C3 A4 N4 C4 I15 A17 N17 C17 A19 N19 C19 A20 N20 C20 I22 I23):=tw kt [0,1,2,3,4,15,17,19,20,22,23] fun B ds w K=>by kernel_rfl
end F51
end Go.Proofs.YtlkjiiibmfpbcaaGreatDoor
namespace Go.Proofs.YtlkjiiibmfpbcaaGreatDoor
open Go
theorem topbit (v:Nat) (h:v<18446744073709551616):iAnd .u64 (v:Int) 9223372036854775808=((v/9223372036854775808*9223372036854775808:Nat):Int):=by
 rw [show (9223372036854775808:Int)=((9223372036854775808:Nat):Int) from rfl,iAndN _ _ h (by omega)]
 refine congrArg (fun a:Nat=>(a:Int)) (Nat.eq_of_testBit_eq fun i=>?_)
 rw [show v/9223372036854775808*9223372036854775808=v/2^63*2^63 from rfl,Nat.testBit_and,show (9223372036854775808:Nat)=2^63 from rfl,Nat.testBit_two_pow,Nat.testBit_mul_two_pow,Nat.testBit_div_two_pow]
 by_cases hi:i=63
 ·subst hi; simp
 ·by_cases h63:63≤i
  ·have:v.testBit i=false:=Nat.testBit_lt_two_pow (Nat.lt_of_lt_of_le (show v<2^64 from h) (Nat.pow_le_pow_right (by omega) (by omega)))
   rw [show i-63+63=i by omega,this]; simp
  ·have h2:¬(63=i):=fun e=>hi e.symm
   simp [h63,h2]
theorem shl1 (v:Nat):iShl .u64 (v:Int) 1=((v*2%18446744073709551616:Nat):Int):=shl64 v 1 (by omega)
theorem bits_step {v n j:Nat} (hn:n≤64) (hj:j<n) (hv:v<2^n) :
  (v*2^(64-n+j)%18446744073709551616)/9223372036854775808=v/2^(n-(j+1))%2∧v*2^(64-n+j)%18446744073709551616*2%18446744073709551616=v*2^(64-n+(j+1))%18446744073709551616 ∧
  v/2^(n-(j+1))=2*(v/2^(n-j))+v/2^(n-(j+1))%2:=by
 refine ⟨?_,?_,?_⟩
 ·refine Nat.eq_of_testBit_eq fun i=>?_
  rw [show (18446744073709551616:Nat)=2^64 from rfl,show (9223372036854775808:Nat)=2^63 from rfl,Nat.testBit_div_two_pow,Nat.testBit_mod_two_pow,Nat.testBit_mul_two_pow]
  rw [show v/2^(n-(j+1))%2=v/2^(n-(j+1))%2^1 from rfl,Nat.testBit_mod_two_pow,Nat.testBit_div_two_pow]
  by_cases hi:i=0
  ·subst hi
   have e1:64-n+j≤0+63:=by omega
   have e2:0+63-(64-n+j)=0+(n-(j+1)):=by omega
   simp [e1,e2]
  ·have e1:¬(i+63<64):=by omega
   have e2:¬(i<1):=by omega
   simp [e1,e2]
 ·rw [show 64-n+(j+1)=(64-n+j)+1 by omega,Nat.pow_succ,←Nat.mul_assoc]
  exact Nat.mod_mul_mod _ _ _
 ·have h1:v/2^(n-j)=v/2^(n-(j+1))/2:=by
   rw [Nat.div_div_eq_div_mul,←Nat.pow_succ,show (n-(j+1)).succ=n-j by omega]
  rw [h1]; omega
theorem bp_swap {a b c:Item} {L:List Item}:(a :: b :: c :: L).Perm (a :: c :: b :: L):=(List.Perm.swap _ _ _).cons _
theorem bp_mul {s z zz:Item} {L:List Item}:(s :: z :: zz :: L).Perm (zz :: s :: z :: L):=(bp_swap).trans (List.Perm.swap _ _ _)
theorem bp_mul' {s z r:Item} {L:List Item}:(r :: s :: z :: L).Perm (s :: r :: z :: L):=List.Perm.swap _ _ _
theorem bp_div {s z zz r q:Item} {L:List Item}:(s :: z :: zz :: r :: q :: L).Perm (s :: zz :: r :: z :: q :: L) :=
 ((List.Perm.swap _ _ _).trans ((List.Perm.swap _ _ _).cons _)).cons _
theorem bp_div' {s c rr z q:Item} {L:List Item}:(s :: c :: rr :: z :: q :: L).Perm (s :: rr :: q :: z :: c :: L):=by
 refine List.Perm.cons _ ?_
 refine (List.Perm.swap _ _ _).trans (List.Perm.cons _ ?_)
 exact ((List.Perm.swap _ _ _).cons _).trans ((List.Perm.swap _ _ _).trans ((List.Perm.swap _ _ _).cons _))
end Go.Proofs.YtlkjiiibmfpbcaaGreatDoor
namespace Go.Proofs.YtlkjiiibmfpbcaaGreatDoor
open Go
def Sub (w0:World) (z0 s:Sl):Prop:=∀ b i,b<w0.heap.size→fp s b i→fp z0 b i
theorem Sub.from_ {w0 w:World} {z0 s r:Sl} (h:Sub w0 z0 s) (hf:From w s r) (hs:w0.heap.size≤w.heap.size):Sub w0 z0 r:=fun b i hb hm=>h b i hb (from_sub hf b i (Nat.lt_of_lt_of_le hb hs) hm)
theorem Sub.self (w0:World) (z0:Sl):Sub w0 z0 z0:=fun _ _ _ h=>h
structure Ex (w0 w:World) (K0 K:SK) (z0 z zz r q:Sl) (Z A B C:Nat) (L:List Item):Prop where
 bank:Bank w (stk K :: nmz z Z :: nmz zz A :: nmz r B :: nmz q C :: L)
 ka:K.a=K0.a
 kl:K.s.l=K0.s.l
 kn:Nxt w0 K0 K
 ch:Chg w0 w (un (fp z0) K0.free)
 glb:Glb w0
 sz:Sub w0 z0 z
 szz:Sub w0 z0 zz
 sr:Sub w0 z0 r
 sq:Sub w0 z0 q
variable {w0 w:World} {K0 K:SK} {z0 z zz r q:Sl} {Z A B C:Nat} {L:List Item}
theorem Ex.chg (h:Ex w0 w K0 K z0 z zz r q Z A B C L) {w':World} {s:Sl} (hs:Sub w0 z0 s) (hc:Chg w w' (un (fp s) K.free)):Chg w0 w' (un (fp z0) K0.free) :=
 h.ch.trans hc (fun _ _ _ h=>h) fun b i hb hm=>hm.elim (fun hm=>.inl (hs b i hb hm)) fun hm=>.inr (h.kn.free hb hm)
theorem Ex.sqr (h:Ex w0 w K0 K z0 z zz r q Z A B C L) (lz:z.l<80) (hL:K0.s.l≤1099511627776) {Q:Ending→World→Prop}
  (c:∀ (z':Sl) (K':SK) w',Ex w0 w' K0 K' z0 z' z r q (Z*Z) Z B C L→Q (.returned z'.v) w'):Calls Tryz.prog 79 #[zz.v,.pointer K0.a,z.v] w Q:=by
 have hb:=h.bank.perm (bp_swap (a:=stk K))
 have hzz:St w zz:=(hb.all (nmz zz A) (by simp)).toSt
 have:=sqr_bank (z:=zz) (x:=z) (X:=Z) hb rfl hzz (by simp) lz (by rw [h.kl]; omega) (h.ch.glb h.glb) (Q:=Q) fun r' K' w' h1 h2 h3 h4 h5 h6 =>
  c r' K' w' ⟨h1,h2.trans h.ka,h3.trans h.kl,h.kn.trans h4 h.ch.size,h.chg h.szz h6,h.glb,h.szz.from_ h5 h.ch.size,h.sz,h.sr,h.sq⟩
 rw [h.ka] at this
 exact this
theorem Ex.mul (h:Ex w0 w K0 K z0 z zz r q Z A B C L) {x:Sl} {X:Nat} {p:Option Addr} (hx:nmz x X∈L) (lz:z.l≤1000) (lx:x.l<40) {Q:Ending→World→Prop}
  (c:∀ (z':Sl) w',Ex w0 w' K0 K z0 z' z r q (Z*X) Z B C L→Q (.returned z'.v) w'):Calls Tryz.prog 80 #[zz.v,.pointer p,z.v,x.v] w Q:=by
 have hb:=h.bank.perm bp_mul
 have hzz:St w zz:=(hb.all (nmz zz A) (by simp)).toSt
 exact mul_bank (z:=zz) (x:=z) (y:=x) (X:=Z) (Y:=X) hb rfl hzz (by simp) (by simp [hx]) (by unfold Len; omega) (by unfold Len; omega) (.inr lx) (h.ch.glb h.glb) fun r' w' h1 h2 h3 =>
  c r' w' ⟨h1.perm bp_mul',h.ka,h.kl,h.kn,h.chg h.szz (h3.l _),h.glb,h.szz.from_ h2 h.ch.size,h.sz,h.sr,h.sq⟩
theorem Ex.div (h:Ex w0 w K0 K z0 z zz r q Z A B C L) {m:Sl} {M:Nat} (hm:nmz m M∈L) (hM:M≠0) (lz:z.l≤1000000) (lm:m.l<40) (hL:K0.s.l≤1099511627776) {Q:Ending→World→Prop}
  (c:∀ (q' z':Sl) (K':SK) w',Ex w0 w' K0 K' z0 z' q z q' (Z%M) C Z (Z/M) L→Q (.returned (.tuple #[q'.v,z'.v])) w'):Calls Tryz.prog 81 #[zz.v,.pointer K0.a,r.v,z.v,m.v] w Q:=by
 have hb:=h.bank.perm bp_div
 have hzz:St w zz:=(hb.all (nmz zz A) (by simp)).toSt
 have hr:St w r:=(hb.all (nmz r B) (by simp)).toSt
 have:=div_bank (z:=zz) (u:=r) (x:=z) (y:=m) (U:=Z) (V:=M) hb rfl rfl hzz hr (by simp) (by simp [hm]) hM lm (by omega) (by rw [h.kl]; exact hL) (h.ch.glb h.glb) (Q:=Q) fun q' z' K' w' h1 h2 h3 h4 h5 h6 h7 =>
  c q' z' K' w' ⟨h1.perm bp_div',h2.trans h.ka,h3.trans h.kl,h.kn.trans h4 h.ch.size,h.ch.trans h7 (fun _ _ _ h=>h) (fun b i hb hm=>?_),h.glb,h.sr.from_ h6 h.ch.size,h.sq,h.sz,h.szz.from_ h5 h.ch.size⟩
 ·rw [h.ka] at this
  exact this
 ·rcases hm with (hm | hm) | hm
  ·exact .inl (h.szz b i hb hm)
  ·exact .inl (h.sr b i hb hm)
  ·exact .inr (h.kn.free hb hm)
theorem Ex.z_ (h:Ex w0 w K0 K z0 z zz r q Z A B C L):Nz w z Z:=h.bank.all (nmz z Z) (by simp)
end Go.Proofs.YtlkjiiibmfpbcaaGreatDoor
namespace Go.Proofs.YtlkjiiibmfpbcaaGreatDoor
open Go
def Has (L:List Item) (s:Sl) (V:Nat):Prop:=num s V∈L∨nmz s V∈L
theorem Has.nt {w:World} {L:List Item} {s:Sl} {V:Nat} (h:Has L s V) (hb:Bank w L):Nt w s V:=by
 rcases h with h | h
 ·exact hb.all _ h
 ·have h1:Nz w s V:=hb.all _ h
  exact h1.toNt
theorem Has.dj {w:World} {L:List Item} {a:Item} {s:Sl} {V:Nat} (h:Has L s V) (hb:Bank w (a :: L)):Dj a.fp (fp s):=by
 rcases h with h | h
 ·exact hb.hdj h
 ·exact hb.hdj h
theorem Has.cons {L:List Item} {s:Sl} {V:Nat} (h:Has L s V) (a:Item):Has (a :: L) s V:=h.imp (List.mem_cons_of_mem _) (List.mem_cons_of_mem _)
theorem Has.num (L:List Item) (s:Sl) (V:Nat):Has (num s V :: L) s V:=.inl (by simp)
theorem Has.nmz (L:List Item) (s:Sl) (V:Nat):Has (nmz s V :: L) s V:=.inr (by simp)
theorem Bank.weak {w:World} {s:Sl} {V:Nat} {L:List Item} (h:Bank w (nmz s V :: L)):Bank w (num s V :: L) :=
 ⟨fun a ha=>by
  rcases List.mem_cons.1 ha with rfl | ha
  ·have h1:Nz w s V:=h.head
   exact h1.toNt
  ·exact h.all a (by simp [ha]),by
   have hd:=h.dj
   simp only [List.pairwise_cons] at hd ⊢
   exact ⟨fun b hb=>hd.1 b hb,hd.2⟩⟩
theorem Bank.weaken {w:World} {a a':Item} {L:List Item} (h:Bank w (a :: L)) (hf:a'.fp=a.fp) (hP:a.P w→a'.P w):Bank w (a' :: L) :=
 ⟨fun b hb=>by
  rcases List.mem_cons.1 hb with rfl | hb
  ·exact hP h.head
  ·exact h.all b (by simp [hb]),by
   have hd:=h.dj
   simp only [List.pairwise_cons] at hd ⊢
   exact ⟨fun b hb=>by rw [hf]; exact hd.1 b hb,hd.2⟩⟩
theorem Bank.sub {w:World} {L L':List Item} (h:Bank w L) (hs:L'.Sublist L):Bank w L':=⟨fun a ha=>h.all a (hs.subset ha),h.dj.sublist hs⟩
theorem alias_no {w:World} {z x:Sl} (d:Dj (fp z) (fp x)) (hz:St w z) (hx:St w x):Calls Tryz.prog 49 #[z.v,x.v] w fun e w'=>e=.returned (.bool false)∧w'=w.drew:=by
 refine (c49 z x w hz.pc hx.pc hz.cm hx.cm).mono ?_
 rintro e w1 ⟨_,rfl,qq,rfl,hw,hq⟩
 have hqf:qq=false:=by
  cases qq with
  | false=>rfl
  | true =>
   obtain ⟨h1,h2,h3,h4⟩:=hq.1 rfl
   exact (d z.b (z.o+z.c-1) ⟨rfl,by omega,by omega⟩ ⟨h3,by omega,by omega⟩).elim
 exact ⟨by rw [hqf],hw⟩
theorem nil_dj (w:World) (S:Set2):Dj S (fp (nilS w)):=fun b i _ hm=>by
 have h1:0≤i:=hm.2.1
 have h2:i<0+0:=hm.2.2
 omega
theorem Bank.addNil {w:World} {L:List Item} (h:Bank w L) (w0:World) (hg:GB≤w0.heap.size) (hn:Nz w (nilS w0) 0):Bank w (nmz (nilS w0) 0 :: L) :=
 ⟨fun a ha=>by
  rcases List.mem_cons.1 ha with rfl | ha
  ·exact hn
  ·exact h.all a ha,List.pairwise_cons.2 ⟨fun b _=>Dj.symm (nil_dj w0 _),h.dj⟩⟩
theorem Bank.nilF {w:World} {L:List Item} (h:Bank w L) (hg:GB≤w.heap.size):Bank w (nmz (nilS w) 0 :: L):=h.addNil w hg (nz_zero (nilSt w hg))
theorem Chg.nil {w w' w0:World} (h:Chg w w' (fp (nilS w0))) (S:Set2):Chg w w' S :=
 h.mono fun b i _ hm=>(nil_dj w0 (fun _ _=>True) b i trivial hm).elim
end Go.Proofs.YtlkjiiibmfpbcaaGreatDoor
namespace Go.Proofs.YtlkjiiibmfpbcaaGreatDoor
open Go
end Go.Proofs.YtlkjiiibmfpbcaaGreatDoor
