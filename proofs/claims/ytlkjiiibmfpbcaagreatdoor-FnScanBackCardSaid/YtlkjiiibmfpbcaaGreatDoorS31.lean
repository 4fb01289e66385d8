/- Verification conditions, printed by wip/gen/gen.py and shrink.py; each is held against vc by the kernel. No condition. -/
import Derived.Test.YtlkjiiibmfpbcaaGreatDoorS05
import Derived.Test.YtlkjiiibmfpbcaaGreatDoorS30
namespace Go.Proofs.YtlkjiiibmfpbcaaGreatDoor
open Go
set_option maxRecDepth 100000
set_option linter.unusedVariables false
namespace F59
noncomputable def body:Code:=bodyOf Tryz.f59
def kt:List (Nat × List Nat):=[(5,[0,1,2,3,4,11,12]),(8,[0,2,3,4,11]),(13,[0,2,3,4,11,13,15]),(14,[0,2,3,4,11,13,15]),(15,[0,2,3,4,11,13,15]),(21,[0,2,3,4,11,13,15]),(22,[0,2,3,4,11,13,14,15]),(25,[0,2,3,4,11,13,15]),(26,[13])]
noncomputable def p1:Code:=sb 4 15 body
noncomputable def p2:Code:=sb 7 116 body
noncomputable def p3:Code:=sb 5 29 body
noncomputable def p4:Code:=sb 7 127 body
noncomputable def p5:Code:=sb 13 8108 body
noncomputable def p6:Code:=sb 11 2027 body
noncomputable def p7:Code:=sb 15 32435 body
noncomputable def p8:Code:=sb 16 64868 body
noncomputable def p9:Code:=sb 15 32434 body
noncomputable def p10:Code:=sb 19 518949 body
noncomputable def p11:Code:=sb 21 2075799 body
noncomputable def p12:Code:=sb 23 8303192 body
noncomputable def p13:Code:=sb 21 2075798 body
theorem q3:p3=.block 0 (.loop p2):=by kernel_rfl
theorem q6:p6=.block 2 (.loop p5):=by kernel_rfl
theorem q9:p9=.block 3 p8:=by kernel_rfl
theorem q13:p13=.block 4 (.loop p12):=by kernel_rfl
variable (D0:Option Addr) (I1 I2 I3 I4 I11 I12:Int) (A13:Option Addr) (N13 C13:Nat) (A14:Option Addr) (N14 C14:Nat) (I15:Int)
abbrev l0:List (Nat × Value):=[eP 0 D0,eI 1 I1,eU 2 I2,eI 3 I3,eU 4 I4]
def v0:VP:=fun B ds w K=>∃ x1,w.cell? ⟨2,0,none⟩=some (.int .i64 x1)∧bc (x1==0) (Kd K .ret [eS 10 none 0 0] ds w) (∃ x3,w.cell? ⟨2,0,none⟩=some (.int .i64 x3)∧bc (decide (I1≤(x3:Int))) (Kd K .ret [eS 10 none 0 0] ds w) (∃ x5,w.cell? ⟨2,0,none⟩=some (.int .i64 x5)∧Wd 136 p3 [eP 0 D0,eI 1 I1,eU 2 I2,eI 3 I3,eU 4 I4,eI 11 1,eI 12 x5] ds w (thenW Tryz.prog 136 p1 K)))
theorem t0:VZ 136 body (l0 D0 I1 I2 I3 I4) (v0 D0 I1 I2 I3 I4):=tz kt [10] fun B ds w K=>by kernel_rfl
theorem call:VCl 59 [.tmp 10] #[.pointer D0,.int .i64 I1,.int .u64 I2,.int .i64 I3,.int .u64 I4] (v0 D0 I1 I2 I3 I4):=cz Tryz.func59 (by kernel_rfl) Tryz.ntmps59 Tryz.results59 (by kernel_rfl) (t0 D0 I1 I2 I3 I4)
abbrev l1:List (Nat × Value):=[eP 0 D0,eU 2 I2,eI 3 I3,eU 4 I4,eI 11 I11]
def v1:VP:=fun B ds w K=>∃ l1 c2:Nat,I11=(l1:Int)∧I11=(c2:Int)∧l1≤c2∧40*c2≤281474976710656∧c2≤281474976710656∧inI64 (I11-1)∧nc (some ⟨(World.heap w).size,0,none⟩) fun b4 o5=>∃ k3:Nat,(I11-1)=(k3:Int)∧k3<l1∧∃ x6,World.cell? (World.alloc w (.cells (madeCells #[(Value.slice none 0 0),(Value.int IntKind.i64 0),(Value.int IntKind.i64 0)] (c2*3)) 128)) ⟨b4,((o5+(k3*3))+2),none⟩=some (.int .i64 x6)∧bc (x6==0) (Wd 136 p6 [eP 0 D0,eU 2 I2,eI 3 I3,eU 4 I4,eI 11 I11,eS 13 (some ⟨(World.heap w).size,0,none⟩) l1 c2,eI 15 0] ds (World.alloc w (.cells (madeCells #[(Value.slice none 0 0),(Value.int IntKind.i64 0),(Value.int IntKind.i64 0)] (c2*3)) 128)) (thenW Tryz.prog 136 p4 K)) (Wd 136 p4 [eS 13 (some ⟨(World.heap w).size,0,none⟩) l1 c2] ds (World.alloc w (.cells (madeCells #[(Value.slice none 0 0),(Value.int IntKind.i64 0),(Value.int IntKind.i64 0)] (c2*3)) 128)) K)
theorem t1:VT 136 p1 (l1 D0 I2 I3 I4 I11) (v1 D0 I2 I3 I4 I11):=tw kt [10] fun B ds w K=>by kernel_rfl
abbrev l2:List (Nat × Value):=[eP 0 D0,eI 1 I1,eU 2 I2,eI 3 I3,eU 4 I4,eI 11 I11,eI 12 I12]
def v2:VP:=fun B ds w K=>(0:Int)≤1∧bc (decide (I12<((iShr .i64 I1 1):Int))) (bc (decide (I11<(64:Int))) (inI64 (I11+1)∧(0:Int)≤1∧Kd K .normal [eP 0 D0,eI 1 I1,eU 2 I2,eI 3 I3,eU 4 I4,eI 11 (I11+1),eI 12 (iShl .i64 I12 1)] ds w) (Kd K (.exit 0) [eP 0 D0,eI 1 I1,eU 2 I2,eI 3 I3,eU 4 I4,eI 11 I11,eI 12 I12] ds w)) (Kd K (.exit 0) [eP 0 D0,eI 1 I1,eU 2 I2,eI 3 I3,eU 4 I4,eI 11 I11,eI 12 I12] ds w)
theorem t2:VT 136 p2 (l2 D0 I1 I2 I3 I4 I11 I12) (v2 D0 I1 I2 I3 I4 I11 I12):=tw kt [0,1,2,3,4,11,12] fun B ds w K=>by kernel_rfl
abbrev l4:List (Nat × Value):=[eS 13 A13 N13 C13]
def v4:VP:=fun B ds w K=>Kd K .ret [eS 10 A13 N13 C13] ds w
theorem t4:VT 136 p4 (l4 A13 N13 C13) (v4 A13 N13 C13):=tw kt [10] fun B ds w K=>by kernel_rfl
abbrev l5:List (Nat × Value):=[eP 0 D0,eU 2 I2,eI 3 I3,eU 4 I4,eI 11 I11,eS 13 A13 N13 C13,eI 15 I15]
def v5:VP:=fun B ds w K=>bc (decide (I15<(I11:Int))) (Wd 136 p9 [eP 0 D0,eU 2 I2,eI 3 I3,eU 4 I4,eI 11 I11,eS 13 A13 N13 C13,eI 15 I15] ds w (thenW Tryz.prog 136 p7 K)) (Kd K (.exit 2) [eP 0 D0,eU 2 I2,eI 3 I3,eU 4 I4,eI 11 I11,eS 13 A13 N13 C13,eI 15 I15] ds w)
theorem t5:VT 136 p5 (l5 D0 I2 I3 I4 I11 A13 N13 C13 I15) (v5 D0 I2 I3 I4 I11 A13 N13 C13 I15):=tw kt [0,2,3,4,11,13,15] fun B ds w K=>by kernel_rfl
abbrev l7:List (Nat × Value):=[eP 0 D0,eU 2 I2,eI 3 I3,eU 4 I4,eI 11 I11,eS 13 A13 N13 C13,eI 15 I15]
def v7:VP:=fun B ds w K=>inI64 (I15+1)∧Kd K .normal [eP 0 D0,eU 2 I2,eI 3 I3,eU 4 I4,eI 11 I11,eS 13 A13 N13 C13,eI 15 (I15+1)] ds w
theorem t7:VT 136 p7 (l7 D0 I2 I3 I4 I11 A13 N13 C13 I15) (v7 D0 I2 I3 I4 I11 A13 N13 C13 I15):=tw kt [0,2,3,4,11,13,15] fun B ds w K=>by kernel_rfl
abbrev l8:List (Nat × Value):=[eP 0 D0,eU 2 I2,eI 3 I3,eU 4 I4,eI 11 I11,eS 13 A13 N13 C13,eI 15 I15]
def v8:VP:=fun B ds w K=>nc A13 fun b2 o3=>∃ k1:Nat,I15=(k1:Int)∧k1<N13∧∃ x4,w.cell? ⟨b2,((o3+(k1*3))+2),none⟩=some (.int .i64 x4)∧bc (x4==0) (bc (I15==0) (∃ x5,w.cell? ⟨2,0,none⟩=some (.int .i64 x5)∧Cl 90 #[(.slice none 0 0),(.pointer D0),(.int .u64 I4),(.int .u64 (IntKind.wrap .u64 x5))] w fun r6 w7=>∃ x8a,∃ x8l,∃ x8c,r6=.returned (.slice x8a x8l x8c)∧nc A13 fun b10 o11=>∃ k9:Nat,0=(k9:Int)∧k9<N13∧(∃ u12,w7.cell? ⟨b10,((o11+(k9*3))+0),none⟩=some u12)∧w7.frozen? ⟨b10,((o11+(k9*3))+0),none⟩=false∧∃ x13,World.cell? (w7.setCell ⟨b10,((o11+(k9*3))+0),none⟩ (.slice x8a x8l x8c)) ⟨2,0,none⟩=some (.int .i64 x13)∧inI64 (I3*x13)∧nc A13 fun b15 o16=>∃ k14:Nat,0=(k14:Int)∧k14<N13∧(∃ u17,World.cell? (w7.setCell ⟨b10,((o11+(k9*3))+0),none⟩ (.slice x8a x8l x8c)) ⟨b15,((o16+(k14*3))+2),none⟩=some u17)∧World.frozen? (w7.setCell ⟨b10,((o11+(k9*3))+0),none⟩ (.slice x8a x8l x8c)) ⟨b15,((o16+(k14*3))+2),none⟩=false∧Wd 136 p10 [eP 0 D0,eU 2 I2,eI 3 I3,eU 4 I4,eI 11 I11,eS 13 A13 N13 C13,eI 15 I15] ds (World.setCell (w7.setCell ⟨b10,((o11+(k9*3))+0),none⟩ (.slice x8a x8l x8c)) ⟨b15,((o16+(k14*3))+2),none⟩ (.int .i64 (I3*x13))) K) (inI64 (I15-1)∧nc A13 fun b20 o21=>∃ k19:Nat,(I15-1)=(k19:Int)∧k19<N13∧∃ x22a,∃ x22l,∃ x22c,w.cell? ⟨b20,((o21+(k19*3))+0),none⟩=some (.slice x22a x22l x22c)∧Cl 79 #[(.slice none 0 0),(.pointer D0),(.slice x22a x22l x22c)] w fun r23 w24=>∃ x25a,∃ x25l,∃ x25c,r23=.returned (.slice x25a x25l x25c)∧nc A13 fun b27 o28=>∃ k26:Nat,I15=(k26:Int)∧k26<N13∧(∃ u29,w24.cell? ⟨b27,((o28+(k26*3))+0),none⟩=some u29)∧w24.frozen? ⟨b27,((o28+(k26*3))+0),none⟩=false∧inI64 (I15-1)∧nc A13 fun b31 o32=>∃ k30:Nat,(I15-1)=(k30:Int)∧k30<N13∧∃ x33,World.cell? (w24.setCell ⟨b27,((o28+(k26*3))+0),none⟩ (.slice x25a x25l x25c)) ⟨b31,((o32+(k30*3))+2),none⟩=some (.int .i64 x33)∧inI64 (2*x33)∧nc A13 fun b35 o36=>∃ k34:Nat,I15=(k34:Int)∧k34<N13∧(∃ u37,World.cell? (w24.setCell ⟨b27,((o28+(k26*3))+0),none⟩ (.slice x25a x25l x25c)) ⟨b35,((o36+(k34*3))+2),none⟩=some u37)∧World.frozen? (w24.setCell ⟨b27,((o28+(k26*3))+0),none⟩ (.slice x25a x25l x25c)) ⟨b35,((o36+(k34*3))+2),none⟩=false∧Wd 136 p10 [eP 0 D0,eU 2 I2,eI 3 I3,eU 4 I4,eI 11 I11,eS 13 A13 N13 C13,eI 15 I15] ds (World.setCell (w24.setCell ⟨b27,((o28+(k26*3))+0),none⟩ (.slice x25a x25l x25c)) ⟨b35,((o36+(k34*3))+2),none⟩ (.int .i64 (2*x33))) K)) (Kd K .normal [eP 0 D0,eU 2 I2,eI 3 I3,eU 4 I4,eI 11 I11,eS 13 A13 N13 C13,eI 15 I15] ds w)
theorem t8:VT 136 p8 (l8 D0 I2 I3 I4 I11 A13 N13 C13 I15) (v8 D0 I2 I3 I4 I11 A13 N13 C13 I15):=tw kt [0,2,3,4,11,13,15] fun B ds w K=>by kernel_rfl
abbrev l10:List (Nat × Value):=[eP 0 D0,eU 2 I2,eI 3 I3,eU 4 I4,eI 11 I11,eS 13 A13 N13 C13,eI 15 I15]
def v10:VP:=fun B ds w K=>nc A13 fun b2 o3=>∃ k1:Nat,I15=(k1:Int)∧k1<N13∧∃ x4a,∃ x4l,∃ x4c,w.cell? ⟨b2,((o3+(k1*3))+0),none⟩=some (.slice x4a x4l x4c)∧Cl 60 #[(.slice none 0 0),(.slice x4a x4l x4c)] w fun r5 w6=>∃ x7a,∃ x7l,∃ x7c,r5=.returned (.slice x7a x7l x7c)∧Wd 136 p13 [eP 0 D0,eU 2 I2,eI 3 I3,eU 4 I4,eI 11 I11,eS 13 A13 N13 C13,eS 14 x7a x7l x7c,eI 15 I15] ds w6 (thenW Tryz.prog 136 p11 K)
theorem t10:VT 136 p10 (l10 D0 I2 I3 I4 I11 A13 N13 C13 I15) (v10 D0 I2 I3 I4 I11 A13 N13 C13 I15):=tw kt [0,2,3,4,11,13,15] fun B ds w K=>by kernel_rfl
abbrev l11:List (Nat × Value):=[eP 0 D0,eU 2 I2,eI 3 I3,eU 4 I4,eI 11 I11,eS 13 A13 N13 C13,eI 15 I15]
def v11:VP:=fun B ds w K=>nc A13 fun b2 o3=>∃ k1:Nat,I15=(k1:Int)∧k1<N13∧∃ x4a,∃ x4l,∃ x4c,w.cell? ⟨b2,((o3+(k1*3))+0),none⟩=some (.slice x4a x4l x4c)∧Cl 53 #[(.slice x4a x4l x4c)] w fun r5 w6=>∃ x7,r5=.returned (.int .i64 x7)∧nc A13 fun b9 o10=>∃ k8:Nat,I15=(k8:Int)∧k8<N13∧(∃ u11,w6.cell? ⟨b9,((o10+(k8*3))+1),none⟩=some u11)∧w6.frozen? ⟨b9,((o10+(k8*3))+1),none⟩=false∧Kd K .normal [eP 0 D0,eU 2 I2,eI 3 I3,eU 4 I4,eI 11 I11,eS 13 A13 N13 C13,eI 15 I15] ds (w6.setCell ⟨b9,((o10+(k8*3))+1),none⟩ (.int .i64 x7))
theorem t11:VT 136 p11 (l11 D0 I2 I3 I4 I11 A13 N13 C13 I15) (v11 D0 I2 I3 I4 I11 A13 N13 C13 I15):=tw kt [0,2,3,4,11,13,15] fun B ds w K=>by kernel_rfl
abbrev l12:List (Nat × Value):=[eP 0 D0,eU 2 I2,eI 3 I3,eU 4 I4,eI 11 I11,eS 13 A13 N13 C13,eS 14 A14 N14 C14,eI 15 I15]
def v12:VP:=fun B ds w K=>Cl 91 #[(.slice A14 N14 C14),(.slice A14 N14 C14),(.int .u64 I2),(.int .u64 0)] w fun r1 w2=>∃ x3,r1=.returned (.int .u64 x3)∧bc (x3==0) (nc A13 fun b5 o6=>∃ k4:Nat,I15=(k4:Int)∧k4<N13∧∃ x7a,∃ x7l,∃ x7c,w2.cell? ⟨b5,((o6+(k4*3))+0),none⟩=some (.slice x7a x7l x7c)∧Cl 60 #[(.slice x7a x7l x7c),(.slice A14 N14 C14)] w2 fun r8 w9=>∃ x10a,∃ x10l,∃ x10c,r8=.returned (.slice x10a x10l x10c)∧nc A13 fun b12 o13=>∃ k11:Nat,I15=(k11:Int)∧k11<N13∧(∃ u14,w9.cell? ⟨b12,((o13+(k11*3))+0),none⟩=some u14)∧w9.frozen? ⟨b12,((o13+(k11*3))+0),none⟩=false∧nc A13 fun b16 o17=>∃ k15:Nat,I15=(k15:Int)∧k15<N13∧∃ x18,World.cell? (w9.setCell ⟨b12,((o13+(k11*3))+0),none⟩ (.slice x10a x10l x10c)) ⟨b16,((o17+(k15*3))+2),none⟩=some (.int .i64 x18)∧inI64 (x18+1)∧nc A13 fun b20 o21=>∃ k19:Nat,I15=(k19:Int)∧k19<N13∧(∃ u22,World.cell? (w9.setCell ⟨b12,((o13+(k11*3))+0),none⟩ (.slice x10a x10l x10c)) ⟨b20,((o21+(k19*3))+2),none⟩=some u22)∧World.frozen? (w9.setCell ⟨b12,((o13+(k11*3))+0),none⟩ (.slice x10a x10l x10c)) ⟨b20,((o21+(k19*3))+2),none⟩=false∧Kd K .normal [eP 0 D0,eU 2 I2,eI 3 I3,eU 4 I4,eI 11 I11,eS 13 A13 N13 C13,eS 14 A14 N14 C14,eI 15 I15] ds (World.setCell (w9.setCell ⟨b12,((o13+(k11*3))+0),none⟩ (.slice x10a x10l x10c)) ⟨b20,((o21+(k19*3))+2),none⟩ (.int .i64 (x18+1)))) (Kd K (.exit 4) [eP 0 D0,eU 2 I2,eI 3 I3,eU 4 I4,eI 11 I11,eS 13 A13 N13 C13,eS 14 A14 N14 C14,eI 15 I15] ds w2)
theorem t12:VT 136 p12 (l12 D0 I2 I3 I4 I11 A13 N13 C13 A14 N14 C14 I15) (v12 D0 I2 I3 I4 I11 A13 N13 C13 A14 N14 C14 I15):=tw kt [0,2,3,4,11,13,14,15] fun B ds w K=>by kernel_rfl
end F59
namespace F61
noncomputable def body:Code:=bodyOf Tryz.f61
def kt:List (Nat × List Nat):=[(3,[0,1,2,3,4,5,6,14,15]),(4,[0,1,2,3,4,5,6,14,15]),(6,[0,1,2,3,4,5,6,14,15,16,17]),(8,[0,1,2,3,4,5,6,14,15,16]),(12,[0,1,2,3,4,5,6,14,15]),(16,[0,2,3,4,5]),(19,[0,2,4,5,19]),(20,[0,2,4,5,19]),(22,[0,2,4,5,19,20,21]),(28,[0,2,3,4,5,19]),(29,[0,2,3,4,5,19]),(31,[0,2,3,4,5,19,20,23]),(36,[2,19])]
noncomputable def p1:Code:=sb 1 1 body
noncomputable def p2:Code:=sb 7 44 body
noncomputable def p3:Code:=sb 5 11 body
noncomputable def p4:Code:=sb 6 60 body
noncomputable def p5:Code:=sb 4 15 body
noncomputable def p6:Code:=sb 8 232 body
noncomputable def p7:Code:=sb 6 58 body
noncomputable def p8:Code:=sb 8 236 body
noncomputable def p9:Code:=sb 6 59 body
noncomputable def p10:Code:=sb 9 178 body
noncomputable def p11:Code:=sb 8 89 body
noncomputable def p12:Code:=sb 10 930 body
noncomputable def p13:Code:=sb 9 465 body
noncomputable def p14:Code:=sb 10 946 body
noncomputable def p15:Code:=sb 9 473 body
noncomputable def p16:Code:=sb 12 1431 body
noncomputable def p17:Code:=sb 14 5720 body
noncomputable def p18:Code:=sb 12 1430 body
noncomputable def p19:Code:=sb 14 14892 body
noncomputable def p20:Code:=sb 12 3723 body
noncomputable def p21:Code:=sb 14 15148 body
noncomputable def p22:Code:=sb 12 3787 body
noncomputable def p23:Code:=sb 13 2863 body
theorem q3:p3=.block 0 (.loop p2):=by kernel_rfl
theorem q11:p11=.block 1 p10:=by kernel_rfl
theorem q18:p18=.block 2 (.loop p17):=by kernel_rfl
theorem q7:p7=.block 4 (.loop p6):=by kernel_rfl
theorem q13:p13=.block 5 p12:=by kernel_rfl
theorem q20:p20=.block 6 (.loop p19):=by kernel_rfl
theorem q9:p9=.block 8 (.loop p8):=by kernel_rfl
theorem q15:p15=.block 9 p14:=by kernel_rfl
theorem q22:p22=.block 10 (.loop p21):=by kernel_rfl
theorem q5:p5=.block 12 (.loop p4):=by kernel_rfl
variable (A0:Option Addr) (N0 C0:Nat) (D1 A2:Option Addr) (N2 C2:Nat) (I3 I4 I5:Int) (A6:Option Addr) (I19:Int) (N6:Nat) (I20:Int) (C6:Nat) (I21 I23:Int) (A14:Option Addr) (N14 C14:Nat) (I15 I16 I17:Int)
abbrev l0:List (Nat × Value):=[eS 0 A0 N0 C0,eP 1 D1,eS 2 A2 N2 C2,eU 3 I3,eI 4 I4,eU 5 I5,eS 6 A6 N6 C6]
def v0:VP:=fun B ds w K=>bc (!(Option.isNone A6)) (inI64 ((N6:Int)-1)∧Wd 184 p3 [eS 0 A0 N0 C0,eP 1 D1,eS 2 A2 N2 C2,eU 3 I3,eI 4 I4,eU 5 I5,eS 6 A6 N6 C6,eS 14 none 0 0,eI 15 ((N6:Int)-1)] ds w (thenW Tryz.prog 184 p1 K)) (Wd 184 p1 [eS 0 A0 N0 C0,eS 2 A2 N2 C2,eU 3 I3,eI 4 I4,eU 5 I5] ds w K)
theorem t0:VZ 184 body (l0 A0 N0 C0 D1 A2 N2 C2 I3 I4 I5 A6 N6 C6) (v0 A0 N0 C0 D1 A2 N2 C2 I3 I4 I5 A6 N6 C6):=tz kt [] fun B ds w K=>by kernel_rfl
theorem call:VCl 61 [] #[.slice A0 N0 C0,.pointer D1,.slice A2 N2 C2,.int .u64 I3,.int .i64 I4,.int .u64 I5,.slice A6 N6 C6] (v0 A0 N0 C0 D1 A2 N2 C2 I3 I4 I5 A6 N6 C6):=cz Tryz.func61 (by kernel_rfl) Tryz.ntmps61 Tryz.results61 (by kernel_rfl) (t0 A0 N0 C0 D1 A2 N2 C2 I3 I4 I5 A6 N6 C6)
abbrev l1:List (Nat × Value):=[eS 0 A0 N0 C0,eS 2 A2 N2 C2,eU 3 I3,eI 4 I4,eU 5 I5]
def v1:VP:=fun B ds w K=>bc (I3==10) (Wd 184 p7 [eS 0 A0 N0 C0,eS 2 A2 N2 C2,eI 4 I4,eU 5 I5,eI 19 (N2:Int)] ds w (thenW Tryz.prog 184 p5 K)) (Wd 184 p9 [eS 0 A0 N0 C0,eS 2 A2 N2 C2,eU 3 I3,eI 4 I4,eU 5 I5,eI 19 (N2:Int)] ds w (thenW Tryz.prog 184 p5 K))
theorem t1:VT 184 p1 (l1 A0 N0 C0 A2 N2 C2 I3 I4 I5) (v1 A0 N0 C0 A2 N2 C2 I3 I4 I5):=tw kt [] fun B ds w K=>by kernel_rfl
abbrev l2:List (Nat × Value):=[eS 0 A0 N0 C0,eP 1 D1,eS 2 A2 N2 C2,eU 3 I3,eI 4 I4,eU 5 I5,eS 6 A6 N6 C6,eS 14 A14 N14 C14,eI 15 I15]
def v2:VP:=fun B ds w K=>∃ x1,w.cell? ⟨2,0,none⟩=some (.int .i64 x1)∧bc (decide ((N0:Int)>(x1:Int))) (Wd 184 p11 [eS 0 A0 N0 C0,eP 1 D1,eS 2 A2 N2 C2,eU 3 I3,eI 4 I4,eU 5 I5,eS 6 A6 N6 C6,eS 14 A14 N14 C14,eI 15 I15] ds w K) (Kd K (.exit 0) [eS 0 A0 N0 C0,eP 1 D1,eS 2 A2 N2 C2,eU 3 I3,eI 4 I4,eU 5 I5,eS 6 A6 N6 C6,eS 14 A14 N14 C14,eI 15 I15] ds w)
theorem t2:VT 184 p2 (l2 A0 N0 C0 D1 A2 N2 C2 I3 I4 I5 A6 N6 C6 A14 N14 C14 I15) (v2 A0 N0 C0 D1 A2 N2 C2 I3 I4 I5 A6 N6 C6 A14 N14 C14 I15):=tw kt [0,1,2,3,4,5,6,14,15] fun B ds w K=>by kernel_rfl
abbrev l4:List (Nat × Value):=[eS 2 A2 N2 C2,eI 19 I19]
def v4:VP:=fun B ds w K=>bc (decide (I19>(0:Int))) (inI64 (I19-1)∧nc A2 fun b2 o3=>∃ k1:Nat,(I19-1)=(k1:Int)∧k1<N2∧(∃ u4,w.cell? ⟨b2,o3+k1,none⟩=some u4)∧w.frozen? ⟨b2,o3+k1,none⟩=false∧Kd K .normal [eS 2 A2 N2 C2,eI 19 (I19-1)] ds (w.setCell ⟨b2,o3+k1,none⟩ (.int .u8 48))) (Kd K (.exit 12) [eS 2 A2 N2 C2,eI 19 I19] ds w)
theorem t4:VT 184 p4 (l4 A2 N2 C2 I19) (v4 A2 N2 C2 I19):=tw kt [2,19] fun B ds w K=>by kernel_rfl
abbrev l6:List (Nat × Value):=[eS 0 A0 N0 C0,eS 2 A2 N2 C2,eI 4 I4,eU 5 I5,eI 19 I19]
def v6:VP:=fun B ds w K=>bc (decide ((N0:Int)>(0:Int))) (Wd 184 p13 [eS 0 A0 N0 C0,eS 2 A2 N2 C2,eI 4 I4,eU 5 I5,eI 19 I19] ds w K) (Kd K (.exit 4) [eS 0 A0 N0 C0,eS 2 A2 N2 C2,eI 4 I4,eU 5 I5,eI 19 I19] ds w)
theorem t6:VT 184 p6 (l6 A0 N0 C0 A2 N2 C2 I4 I5 I19) (v6 A0 N0 C0 A2 N2 C2 I4 I5 I19):=tw kt [0,2,4,5,19] fun B ds w K=>by kernel_rfl
abbrev l8:List (Nat × Value):=[eS 0 A0 N0 C0,eS 2 A2 N2 C2,eU 3 I3,eI 4 I4,eU 5 I5,eI 19 I19]
def v8:VP:=fun B ds w K=>bc (decide ((N0:Int)>(0:Int))) (Wd 184 p15 [eS 0 A0 N0 C0,eS 2 A2 N2 C2,eU 3 I3,eI 4 I4,eU 5 I5,eI 19 I19] ds w K) (Kd K (.exit 8) [eS 0 A0 N0 C0,eS 2 A2 N2 C2,eU 3 I3,eI 4 I4,eU 5 I5,eI 19 I19] ds w)
theorem t8:VT 184 p8 (l8 A0 N0 C0 A2 N2 C2 I3 I4 I5 I19) (v8 A0 N0 C0 A2 N2 C2 I3 I4 I5 I19):=tw kt [0,2,3,4,5,19] fun B ds w K=>by kernel_rfl
abbrev l10:List (Nat × Value):=[eS 0 A0 N0 C0,eP 1 D1,eS 2 A2 N2 C2,eU 3 I3,eI 4 I4,eU 5 I5,eS 6 A6 N6 C6,eS 14 A14 N14 C14,eI 15 I15]
def v10:VP:=fun B ds w K=>Cl 53 #[(.slice A0 N0 C0)] w fun r1 w2=>∃ x3,r1=.returned (.int .i64 x3)∧(0:Int)≤1∧Wd 184 p18 [eS 0 A0 N0 C0,eP 1 D1,eS 2 A2 N2 C2,eU 3 I3,eI 4 I4,eU 5 I5,eS 6 A6 N6 C6,eS 14 A14 N14 C14,eI 15 I15,eI 16 x3,eI 17 (iShr .i64 x3 1)] ds w2 (thenW Tryz.prog 184 p16 K)
theorem t10:VT 184 p10 (l10 A0 N0 C0 D1 A2 N2 C2 I3 I4 I5 A6 N6 C6 A14 N14 C14 I15) (v10 A0 N0 C0 D1 A2 N2 C2 I3 I4 I5 A6 N6 C6 A14 N14 C14 I15):=tw kt [0,1,2,3,4,5,6,14,15] fun B ds w K=>by kernel_rfl
abbrev l12:List (Nat × Value):=[eS 0 A0 N0 C0,eS 2 A2 N2 C2,eI 4 I4,eU 5 I5,eI 19 I19]
def v12:VP:=fun B ds w K=>Cl 93 #[(.slice A0 N0 C0),(.slice A0 N0 C0),(.int .u64 I5)] w fun r1 w2=>∃ x3a,∃ x3l,∃ x3c,True∧∃ x4,True∧r1=.returned (.tuple #[(.slice x3a x3l x3c),(.int .u64 x4)])∧Wd 184 p20 [eS 0 x3a x3l x3c,eS 2 A2 N2 C2,eI 4 I4,eU 5 I5,eI 19 I19,eU 20 x4,eI 21 0] ds w2 K
theorem t12:VT 184 p12 (l12 A0 N0 C0 A2 N2 C2 I4 I5 I19) (v12 A0 N0 C0 A2 N2 C2 I4 I5 I19):=tw kt [0,2,4,5,19] fun B ds w K=>by kernel_rfl
abbrev l14:List (Nat × Value):=[eS 0 A0 N0 C0,eS 2 A2 N2 C2,eU 3 I3,eI 4 I4,eU 5 I5,eI 19 I19]
def v14:VP:=fun B ds w K=>Cl 93 #[(.slice A0 N0 C0),(.slice A0 N0 C0),(.int .u64 I5)] w fun r1 w2=>∃ x3a,∃ x3l,∃ x3c,True∧∃ x4,True∧r1=.returned (.tuple #[(.slice x3a x3l x3c),(.int .u64 x4)])∧Wd 184 p22 [eS 0 x3a x3l x3c,eS 2 A2 N2 C2,eU 3 I3,eI 4 I4,eU 5 I5,eI 19 I19,eU 20 x4,eI 23 0] ds w2 K
theorem t14:VT 184 p14 (l14 A0 N0 C0 A2 N2 C2 I3 I4 I5 I19) (v14 A0 N0 C0 A2 N2 C2 I3 I4 I5 I19):=tw kt [0,2,3,4,5,19] fun B ds w K=>by kernel_rfl
abbrev l16:List (Nat × Value):=[eS 0 A0 N0 C0,eP 1 D1,eS 2 A2 N2 C2,eU 3 I3,eI 4 I4,eU 5 I5,eS 6 A6 N6 C6,eS 14 A14 N14 C14,eI 15 I15,eI 16 I16]
def v16:VP:=fun B ds w K=>nc A6 fun b2 o3=>∃ k1:Nat,I15=(k1:Int)∧k1<N6∧∃ x4,w.cell? ⟨b2,((o3+(k1*3))+1),none⟩=some (.int .i64 x4)∧bc (decide (x4≥(I16:Int))) (nc A6 fun b6 o7=>∃ k5:Nat,I15=(k5:Int)∧k5<N6∧∃ x8a,∃ x8l,∃ x8c,w.cell? ⟨b6,((o7+(k5*3))+0),none⟩=some (.slice x8a x8l x8c)∧Cl 92 #[(.slice x8a x8l x8c),(.slice A0 N0 C0)] w fun r9 w10=>∃ x11,r9=.returned (.int .i64 x11)∧bc (decide (x11≥(0:Int))) (inI64 (I15-1)∧bc (decide ((I15-1)<(0:Int))) False (Wd 184 p23 [eS 0 A0 N0 C0,eP 1 D1,eS 2 A2 N2 C2,eU 3 I3,eI 4 I4,eU 5 I5,eS 6 A6 N6 C6,eS 14 A14 N14 C14,eI 15 (I15-1)] ds w10 K)) (Wd 184 p23 [eS 0 A0 N0 C0,eP 1 D1,eS 2 A2 N2 C2,eU 3 I3,eI 4 I4,eU 5 I5,eS 6 A6 N6 C6,eS 14 A14 N14 C14,eI 15 I15] ds w10 K)) (Wd 184 p23 [eS 0 A0 N0 C0,eP 1 D1,eS 2 A2 N2 C2,eU 3 I3,eI 4 I4,eU 5 I5,eS 6 A6 N6 C6,eS 14 A14 N14 C14,eI 15 I15] ds w K)
theorem t16:VT 184 p16 (l16 A0 N0 C0 D1 A2 N2 C2 I3 I4 I5 A6 N6 C6 A14 N14 C14 I15 I16) (v16 A0 N0 C0 D1 A2 N2 C2 I3 I4 I5 A6 N6 C6 A14 N14 C14 I15 I16):=tw kt [0,1,2,3,4,5,6,14,15] fun B ds w K=>by kernel_rfl
abbrev l17:List (Nat × Value):=[eS 0 A0 N0 C0,eP 1 D1,eS 2 A2 N2 C2,eU 3 I3,eI 4 I4,eU 5 I5,eS 6 A6 N6 C6,eS 14 A14 N14 C14,eI 15 I15,eI 16 I16,eI 17 I17]
def v17:VP:=fun B ds w K=>bc (decide (I15>(0:Int))) (inI64 (I15-1)∧nc A6 fun b2 o3=>∃ k1:Nat,(I15-1)=(k1:Int)∧k1<N6∧∃ x4,w.cell? ⟨b2,((o3+(k1*3))+1),none⟩=some (.int .i64 x4)∧bc (decide (x4>(I17:Int))) (inI64 (I15-1)∧Kd K .normal [eS 0 A0 N0 C0,eP 1 D1,eS 2 A2 N2 C2,eU 3 I3,eI 4 I4,eU 5 I5,eS 6 A6 N6 C6,eS 14 A14 N14 C14,eI 15 (I15-1),eI 16 I16,eI 17 I17] ds w) (Kd K (.exit 2) [eS 0 A0 N0 C0,eP 1 D1,eS 2 A2 N2 C2,eU 3 I3,eI 4 I4,eU 5 I5,eS 6 A6 N6 C6,eS 14 A14 N14 C14,eI 15 I15,eI 16 I16,eI 17 I17] ds w)) (Kd K (.exit 2) [eS 0 A0 N0 C0,eP 1 D1,eS 2 A2 N2 C2,eU 3 I3,eI 4 I4,eU 5 I5,eS 6 A6 N6 C6,eS 14 A14 N14 C14,eI 15 I15,eI 16 I16,eI 17 I17] ds w)
theorem t17:VT 184 p17 (l17 A0 N0 C0 D1 A2 N2 C2 I3 I4 I5 A6 N6 C6 A14 N14 C14 I15 I16 I17) (v17 A0 N0 C0 D1 A2 N2 C2 I3 I4 I5 A6 N6 C6 A14 N14 C14 I15 I16 I17):=tw kt [0,1,2,3,4,5,6,14,15,16,17] fun B ds w K=>by kernel_rfl
abbrev l19:List (Nat × Value):=[eS 0 A0 N0 C0,eS 2 A2 N2 C2,eI 4 I4,eU 5 I5,eI 19 I19,eU 20 I20,eI 21 I21]
def v19:VP:=fun B ds w K=>bc (decide (I21<(I4:Int))) (bc (decide (I19>(0:Int))) (inI64 (I19-1)∧10≠(0:Int)∧nc A2 fun b2 o3=>∃ k1:Nat,(I19-1)=(k1:Int)∧k1<N2∧(∃ u4,w.cell? ⟨b2,o3+k1,none⟩=some u4)∧w.frozen? ⟨b2,o3+k1,none⟩=false∧inI64 (I21+1)∧Kd K .normal [eS 0 A0 N0 C0,eS 2 A2 N2 C2,eI 4 I4,eU 5 I5,eI 19 (I19-1),eU 20 (iQuo .u64 I20 10),eI 21 (I21+1)] ds (w.setCell ⟨b2,o3+k1,none⟩ (.int .u8 (IntKind.wrap .u8 (48+(IntKind.wrap .u8 (IntKind.wrap .u64 (I20-(IntKind.wrap .u64 ((iQuo .u64 I20 10)*10)))))))))) (Kd K (.exit 6) [eS 0 A0 N0 C0,eS 2 A2 N2 C2,eI 4 I4,eU 5 I5,eI 19 I19,eU 20 I20,eI 21 I21] ds w)) (Kd K (.exit 6) [eS 0 A0 N0 C0,eS 2 A2 N2 C2,eI 4 I4,eU 5 I5,eI 19 I19,eU 20 I20,eI 21 I21] ds w)
theorem t19:VT 184 p19 (l19 A0 N0 C0 A2 N2 C2 I4 I5 I19 I20 I21) (v19 A0 N0 C0 A2 N2 C2 I4 I5 I19 I20 I21):=tw kt [0,2,4,5,19,20,21] fun B ds w K=>by kernel_rfl
abbrev l21:List (Nat × Value):=[eS 0 A0 N0 C0,eS 2 A2 N2 C2,eU 3 I3,eI 4 I4,eU 5 I5,eI 19 I19,eU 20 I20,eI 23 I23]
def v21:VP:=fun B ds w K=>bc (decide (I23<(I4:Int))) (bc (decide (I19>(0:Int))) (inI64 (I19-1)∧I3≠(0:Int)∧∃ (k2:Nat) (c1:UInt8),(iRem I20 I3)=(k2:Int)∧(strK0)[k2]?=some c1∧nc A2 fun b4 o5=>∃ k3:Nat,(I19-1)=(k3:Int)∧k3<N2∧(∃ u6,w.cell? ⟨b4,o5+k3,none⟩=some u6)∧w.frozen? ⟨b4,o5+k3,none⟩=false∧I3≠(0:Int)∧inI64 (I23+1)∧Kd K .normal [eS 0 A0 N0 C0,eS 2 A2 N2 C2,eU 3 I3,eI 4 I4,eU 5 I5,eI 19 (I19-1),eU 20 (iQuo .u64 I20 I3),eI 23 (I23+1)] ds (w.setCell ⟨b4,o5+k3,none⟩ (.int .u8 ((c1.toNat:Nat):Int)))) (Kd K (.exit 10) [eS 0 A0 N0 C0,eS 2 A2 N2 C2,eU 3 I3,eI 4 I4,eU 5 I5,eI 19 I19,eU 20 I20,eI 23 I23] ds w)) (Kd K (.exit 10) [eS 0 A0 N0 C0,eS 2 A2 N2 C2,eU 3 I3,eI 4 I4,eU 5 I5,eI 19 I19,eU 20 I20,eI 23 I23] ds w)
theorem t21:VT 184 p21 (l21 A0 N0 C0 A2 N2 C2 I3 I4 I5 I19 I20 I23) (v21 A0 N0 C0 A2 N2 C2 I3 I4 I5 I19 I20 I23):=tw kt [0,2,3,4,5,19,20,23] fun B ds w K=>by kernel_rfl
abbrev l23:List (Nat × Value):=[eS 0 A0 N0 C0,eP 1 D1,eS 2 A2 N2 C2,eU 3 I3,eI 4 I4,eU 5 I5,eS 6 A6 N6 C6,eS 14 A14 N14 C14,eI 15 I15]
def v23:VP:=fun B ds w K=>nc A6 fun b2 o3=>∃ k1:Nat,I15=(k1:Int)∧k1<N6∧∃ x4a,∃ x4l,∃ x4c,w.cell? ⟨b2,((o3+(k1*3))+0),none⟩=some (.slice x4a x4l x4c)∧Cl 81 #[(.slice A0 N0 C0),(.pointer D1),(.slice A14 N14 C14),(.slice A0 N0 C0),(.slice x4a x4l x4c)] w fun r5 w6=>∃ x7a,∃ x7l,∃ x7c,True∧∃ x8a,∃ x8l,∃ x8c,True∧r5=.returned (.tuple #[(.slice x7a x7l x7c),(.slice x8a x8l x8c)])∧nc A6 fun b10 o11=>∃ k9:Nat,I15=(k9:Int)∧k9<N6∧∃ x12,w6.cell? ⟨b10,((o11+(k9*3))+2),none⟩=some (.int .i64 x12)∧inI64 ((N2:Int)-x12)∧∃ i13:Nat,((N2:Int)-x12)=(i13:Int)∧i13≤N2∧∃ i16 h17:Nat,0=(i16:Int)∧I15=(h17:Int)∧i16≤h17∧h17≤C6∧Cl 61 #[(.slice x8a x8l x8c),(.pointer D1),(.slice (shifted A2 i13 C2 1) (N2-i13) (C2-i13)),(.int .u64 I3),(.int .i64 I4),(.int .u64 I5),(.slice (shifted A6 i16 C6 3) (h17-i16) (C6-i16))] w6.drew fun r19 w20=>r19=.returned undef∧∃ h22:Nat,((N2:Int)-x12)=(h22:Int)∧h22≤C2∧Kd K .normal [eS 0 x7a x7l x7c,eP 1 D1,eS 2 A2 h22 C2,eU 3 I3,eI 4 I4,eU 5 I5,eS 6 A6 N6 C6,eS 14 x8a x8l x8c,eI 15 I15] ds w20
theorem t23:VT 184 p23 (l23 A0 N0 C0 D1 A2 N2 C2 I3 I4 I5 A6 N6 C6 A14 N14 C14 I15) (v23 A0 N0 C0 D1 A2 N2 C2 I3 I4 I5 A6 N6 C6 A14 N14 C14 I15):=tw kt [0,1,2,3,4,5,6,14,15] fun B ds w K=>by kernel_rfl
end F61
end Go.Proofs.YtlkjiiibmfpbcaaGreatDoor
namespace Go.Proofs.YtlkjiiibmfpbcaaGreatDoor
open Go
structure SegAt (w:World) (s:Sl) (f:Nat→Value):Prop extends St w s where
 cs:∀ i,i<s.l→w.cell? ⟨s.b,s.o+i,none⟩=some (f i)
def seg (s:Sl) (f:Nat→Value):Item where
 fp:=wds s
 P w:=SegAt w s f
 keep h hc hd:=⟨hc.st h.toSt,fun i hi=>by have h1:=h.cs i hi; rw [hc.cell (lt_of_cell h1) (hd s.b (s.o+i) ⟨rfl,by omega,by omega⟩)]; exact h1⟩
 old h hf:=by
  obtain ⟨rfl,h1,h2⟩:=hf
  exact h.toSt.blk (by have:=h.lc; omega)
theorem SegAt.lo {w:World} {s:Sl} {f:Nat→Value} (h:SegAt w s f) {k:Nat} (hk:k≤s.l):SegAt w (s.to k) f:=⟨h.toSt.to_st k (by have:=h.lc; omega),fun i hi=>h.cs i (by have:i<k:=hi; omega)⟩
theorem SegAt.hi {w:World} {s:Sl} {f:Nat→Value} (h:SegAt w s f) {k:Nat} (hk:k≤s.l):SegAt w (s.sub k s.l) (fun i=>f (k+i)):=⟨h.toSt.sub_st k s.l hk h.lc,fun i hi=>by
 have hi:i<s.l-k:=hi
 show w.cell? ⟨s.b,s.o+k+i,none⟩=_
 rw [Nat.add_assoc]; exact h.cs (k+i) (by omega)⟩
theorem Bank.segSplit {w:World} {s:Sl} {f:Nat→Value} {L:List Item} (h:Bank w (seg s f :: L)) {k:Nat} (hk:k≤s.l):Bank w (seg (s.to k) f :: seg (s.sub k s.l) (fun i=>f (k+i)) :: L):=by
 have hn:SegAt w s f:=h.head
 exact h.m2 (hn.lo hk) (hn.hi hk) (cut_dj s k) (cut_lo hk) (cut_hi hk)
theorem Bank.segJoin {w:World} {s:Sl} {f g e:Nat→Value} {k:Nat} {L:List Item} (h:Bank w (seg (s.to k) f :: seg (s.sub k s.l) g :: L)) (hk:k≤s.l) (h1:∀ i,i<k→e i=f i) (h2:∀ i,i<s.l-k→e (k+i)=g i):Bank w (seg s e :: L):=by
 have a1:SegAt w (s.to k) f:=h.head
 have a2:SegAt w (s.sub k s.l) g:=h.tail.head
 have l1:k≤s.c:=a1.lc
 have l2:s.l-k≤s.c-k:=a2.lc
 refine h.j2 (c:=seg s e) ⟨{ lc:=by omega,at_:=a1.at_,wr:=a1.wr,pl:=a1.pl,cm:=a1.cm,gb:=a1.gb },fun i hi=>?_⟩ fun x i hm=>?_
 ·rcases Nat.lt_or_ge i k with h3 | h3
  ·rw [h1 i h3]; exact a1.cs i h3
  ·have:=a2.cs (i-k) (by show i-k<s.l-k; omega)
   rw [←h2 (i-k) (by omega),show k+(i-k)=i by omega] at this
   have e3:(s.sub k s.l).o+(i-k)=s.o+i:=by show s.o+k+(i-k)=_; omega
   rw [e3] at this; exact this
 ·have e1:=hm.1; have e2:=hm.2.1; have e3:=hm.2.2
  rcases Nat.lt_or_ge i (s.o+k) with h3 | h3
  ·exact .inl ⟨e1,e2,h3⟩
  ·exact .inr ⟨e1,h3,by show i<s.o+k+(s.l-k); omega⟩
theorem segPut {w:World} {s:Sl} {f:Nat→Value} {L:List Item} (h:Bank w (seg s f :: L)) {i:Nat} (hi:i<s.l) (v:Value):Bank (w.setCell ⟨s.b,s.o+i,none⟩ v) (seg s (setF f i v) :: L)∧Chg w (w.setCell ⟨s.b,s.o+i,none⟩ v) (wds s):=by
 have hn:SegAt w s f:=h.head
 have hc:Chg w (w.setCell ⟨s.b,s.o+i,none⟩ v) (wds s):=Chg.setCell (hn.pl (by have:=hn.lc; omega)) _ ⟨rfl,by omega,by omega⟩
 refine ⟨h.upd hc (fun _ _ _ h=>h) ⟨hc.st hn.toSt,fun j hj=>?_⟩ fun _ _ _ h=>h,hc⟩
 by_cases hji:j=i
 ·subst hji
  rw [setF_self]
  exact World.cell?_setCell_same _ _ _ (hn.cs j hj)
 ·rw [setF_ne _ _ hji,World.cell?_setCell_other _ _ _ _ (by simp <;> omega)]
  exact hn.cs j hj
theorem Bank.segCongr {w:World} {s:Sl} {f g:Nat→Value} {L:List Item} (h:Bank w (seg s f :: L)) (hg:∀ i,i<s.l→g i=f i):Bank w (seg s g :: L) :=
 h.map1 (a':=seg s g) ⟨(h.head:SegAt w s f).toSt,fun i hi=>by rw [hg i hi]; exact (h.head:SegAt w s f).cs i hi⟩ fun _ _ h=>h
def ents (b:Nat) (r:Nat→Sl) (d:Nat→Nat):Nat→List Item
 | 0=>[]
 | i+1=>nmz (r i) (b^d i) :: ents b r d i
theorem ents_congr {b:Nat} {r r':Nat→Sl} {d d':Nat→Nat}:∀ {i:Nat},(∀ j,j<i→r' j=r j∧d' j=d j)→ents b r' d' i=ents b r d i
 | 0,_=>rfl
 | i+1,h=>by
  unfold ents
  rw [(h i (by omega)).1,(h i (by omega)).2,ents_congr fun j hj=>h j (by omega)]
theorem ents_mem {b:Nat} {r:Nat→Sl} {d:Nat→Nat}:∀ {i j:Nat},j<i→nmz (r j) (b^d j)∈ents b r d i
 | i+1,j,h=>by
  unfold ents
  by_cases hj:j=i
  ·subst hj; simp
  ·exact List.mem_cons_of_mem _ (ents_mem (by omega))
structure TabF (b:Nat) (r:Nat→Sl) (d:Nat→Nat) (t:Nat) (f:Nat→Value):Prop where
 c0:∀ i,i<t→f (i*3)=(r i).v
 c1:∀ i,i<t→f (i*3+1)=.int .i64 (blen (b^d i):Int)
 c2:∀ i,i<t→f (i*3+2)=.int .i64 (d i:Int)
structure EntOk (b:Nat) (r:Nat→Sl) (d:Nat→Nat) (t:Nat):Prop where
 len:∀ i,i<t→(r i).l=8*2^i
 lo:∀ i,i<t→b^d i<BB^(8*2^i)
 up:∀ i,i<t→BB^(8*2^i)≤b^d i*b
 d1:∀ i,i<t→d i≤512*2^i
theorem sqrN {w:World} {K:SK} {x:Sl} {X:Nat} {L:List Item} (h:Bank w (stk K :: L)) (hx:nmz x X∈L) (lx:x.l<80∨(80≤x.l∧x.l≤158)) (hL:K.s.l≤1099511627776) (hg:Glb w) {Q:Ending→World→Prop}
  (q:∀ (r:Sl) (K':SK) w',Bank w' (nmz r (X*X) :: stk K' :: L)→K'.a=K.a→K'.s.l=K.s.l→Nxt w K K'→(r.c≠0→w.heap.size≤r.b)→Chg w w' K.free→Q (.returned r.v) w') :
  Calls Tryz.prog 79 #[.slice none 0 0,.pointer K.a,x.v] w Q:=by
 have hxP:Nz w x X:=h.tail.all _ hx
 have dx:Dj K.free (fp x):=h.hdj (b:=nmz x X) hx
 have hgb:=hg.gb
 have key:Calls Tryz.prog 79 #[(nilS w).v,.pointer K.a,x.v] w (ResKE w K (nilS w) (X*X)):=by
  rcases lx with lx | ⟨l1,l2⟩
  ·exact c79 K (nilS w) x X w h.head (nilSt w hgb) hxP (nilApart w x).al (nilOff w K) (dx.offl hxP.toSt) lx (by omega) hg
  ·exact c79b K (nilS w) x X w h.head (nilSt w hgb) hxP (.inl rfl) (nilOff w K) (dx.offl hxP.toSt) l1 l2 hL hg
 refine ResKE.pass key fun r K' w' h1 h2 h3 h4 h5 h6 _ h7=>?_
 have hc:Chg w w' K.free:=h7.mono fun b i _ hm=>hm.elim (fun hm=>by have h1:0≤i:=hm.2.1; have h2:i<0+0:=hm.2.2; omega) id
 have hr:r.c≠0→w.heap.size≤r.b:=fun h0=>by
  rcases h2 with ⟨_,e,_,_⟩ | h
  ·exact absurd e h0
  ·exact h
 refine q r K' w' ?_ (by unfold SK.a; rw [h4.p]) h5 h4 hr hc
 refine Bank.updN (A:=[stk K]) (A':=[nmz r (X*X),stk K']) h hc (fun b i _ hm=>⟨stk K,by simp,hm⟩) (Bank.two h1 h3 h6.dj.symm) fun a' ha' b i hb hf=>⟨stk K,by simp,?_⟩
 simp only [List.mem_cons,List.not_mem_nil,or_false] at ha'
 rcases ha' with rfl | rfl
 ·have hf:fp r b i:=hf
  have:=hr (by have:=hf.2.1; have:=hf.2.2; omega)
  have:=hf.1; omega
 ·exact stk_sub h4 b i hb hf
end Go.Proofs.YtlkjiiibmfpbcaaGreatDoor
