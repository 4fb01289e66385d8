/- Verification conditions, printed by wip/gen/gen.py and shrink.py; each is held against vc by the kernel. No condition. -/
import Derived.Test.YtlkjiiibmfpbcaaGreatDoorS05
import Derived.Test.YtlkjiiibmfpbcaaGreatDoorS15
namespace Go.Proofs.YtlkjiiibmfpbcaaGreatDoor
open Go
set_option maxRecDepth 100000
set_option linter.unusedVariables false
namespace F79
noncomputable def body:Code:=bodyOf Tryz.f79
def kt:List (Nat × List Nat):=[(11,[0,1,2,7]),(18,[0,1,2,7])]
noncomputable def p1:Code:=sb 4 15 body
noncomputable def p2:Code:=sb 7 127 body
variable (A0:Option Addr) (N0 C0:Nat) (D1 A2:Option Addr) (N2 C2:Nat) (I7:Int)
abbrev l0:List (Nat × Value):=[eS 0 A0 N0 C0,eP 1 D1,eS 2 A2 N2 C2]
def v0:VP:=fun B ds w K=>bc ((N2:Int)==0) (∃ h2:Nat,0=(h2:Int)∧h2≤C0∧Kd K .ret [eS 6 A0 h2 C0] ds w) (bc ((N2:Int)==1) (nc A2 fun b6 o7=>∃ k5:Nat,0=(k5:Int)∧k5<N2∧∃ x8,w.cell? ⟨b6,o7+k5,none⟩=some (.int .u64 x8)∧Cl 73 #[(.slice A0 N0 C0),(.int .i64 2)] w fun r9 w10=>∃ x11a,∃ x11l,∃ x11c,r9=.returned (.slice x11a x11l x11c)∧Cl 113 #[(.int .u64 x8),(.int .u64 x8)] w10 fun r12 w13=>∃ x14,True∧∃ x15,True∧r12=.returned (.tuple #[(.int .u64 x14),(.int .u64 x15)])∧nc x11a fun b17 o18=>∃ k16:Nat,1=(k16:Int)∧k16<x11l∧(∃ u19,w13.cell? ⟨b17,o18+k16,none⟩=some u19)∧w13.frozen? ⟨b17,o18+k16,none⟩=false∧nc x11a fun b21 o22=>∃ k20:Nat,0=(k20:Int)∧k20<x11l∧(∃ u23,World.cell? (w13.setCell ⟨b17,o18+k16,none⟩ (.int .u64 x14)) ⟨b21,o22+k20,none⟩=some u23)∧World.frozen? (w13.setCell ⟨b17,o18+k16,none⟩ (.int .u64 x14)) ⟨b21,o22+k20,none⟩=false∧Cl 46 #[(.slice x11a x11l x11c)] (World.setCell (w13.setCell ⟨b17,o18+k16,none⟩ (.int .u64 x14)) ⟨b21,o22+k20,none⟩ (.int .u64 x15)) fun r24 w25=>∃ x26a,∃ x26l,∃ x26c,r24=.returned (.slice x26a x26l x26c)∧Kd K .ret [eS 6 x26a x26l x26c] ds w25) (Cl 49 #[(.slice A0 N0 C0),(.slice A2 N2 C2)] w fun r28 w29=>∃ x30,r28=.returned (.bool x30)∧bc x30 (Wd 76 p1 [eS 0 none 0 0,eP 1 D1,eS 2 A2 N2 C2,eI 7 (N2:Int)] ds w29 K) (Wd 76 p1 [eS 0 A0 N0 C0,eP 1 D1,eS 2 A2 N2 C2,eI 7 (N2:Int)] ds w29 K)))
theorem t0:VZ 76 body (l0 A0 N0 C0 D1 A2 N2 C2) (v0 A0 N0 C0 D1 A2 N2 C2):=tz kt [6] fun B ds w K=>by kernel_rfl
theorem call:VCl 79 [.tmp 6] #[.slice A0 N0 C0,.pointer D1,.slice A2 N2 C2] (v0 A0 N0 C0 D1 A2 N2 C2):=cz Tryz.func79 (by kernel_rfl) Tryz.ntmps79 Tryz.results79 (by kernel_rfl) (t0 A0 N0 C0 D1 A2 N2 C2)
abbrev l1:List (Nat × Value):=[eS 0 A0 N0 C0,eP 1 D1,eS 2 A2 N2 C2,eI 7 I7]
def v1:VP:=fun B ds w K=>inI64 (2*I7)∧Cl 73 #[(.slice A0 N0 C0),(.int .i64 (2*I7))] w fun r1 w2=>∃ x3a,∃ x3l,∃ x3c,r1=.returned (.slice x3a x3l x3c)∧∃ x4,w2.cell? ⟨3,0,none⟩=some (.int .i64 x4)∧bc (decide (I7<(x4:Int))) (∃ x5,w2.cell? ⟨4,0,none⟩=some (.int .i64 x5)∧bc (decide (I7<(x5:Int))) (Cl 114 #[(.slice x3a x3l x3c),(.slice A2 N2 C2),(.slice A2 N2 C2)] w2 fun r6 w7=>r6=.returned undef∧Cl 46 #[(.slice x3a x3l x3c)] w7 fun r8 w9=>∃ x10a,∃ x10l,∃ x10c,r8=.returned (.slice x10a x10l x10c)∧Kd K .ret [eS 6 x10a x10l x10c] ds w9) (∃ q12,ptrEq w2 D1 none q12∧bc q12 (Cl 56 #[] w2 fun r13 w14=>∃ x15,r13=.returned (.pointer x15)∧Wd 76 p2 [eS 0 x3a x3l x3c,eP 1 x15,eS 2 A2 N2 C2,eI 7 I7] (⟨.fn (.func 57) #[],#[(.pointer x15)]⟩ :: ds) w14 K) (Wd 76 p2 [eS 0 x3a x3l x3c,eP 1 D1,eS 2 A2 N2 C2,eI 7 I7] ds w2 K))) (∃ q18,ptrEq w2 D1 none q18∧bc q18 (Cl 56 #[] w2 fun r19 w20=>∃ x21,r19=.returned (.pointer x21)∧Wd 76 p2 [eS 0 x3a x3l x3c,eP 1 x21,eS 2 A2 N2 C2,eI 7 I7] (⟨.fn (.func 57) #[],#[(.pointer x21)]⟩ :: ds) w20 K) (Wd 76 p2 [eS 0 x3a x3l x3c,eP 1 D1,eS 2 A2 N2 C2,eI 7 I7] ds w2 K))
theorem t1:VT 76 p1 (l1 A0 N0 C0 D1 A2 N2 C2 I7) (v1 A0 N0 C0 D1 A2 N2 C2 I7):=tw kt [6] fun B ds w K=>by kernel_rfl
abbrev l2:List (Nat × Value):=[eS 0 A0 N0 C0,eP 1 D1,eS 2 A2 N2 C2,eI 7 I7]
def v2:VP:=fun B ds w K=>∃ x1,w.cell? ⟨4,0,none⟩=some (.int .i64 x1)∧bc (decide (I7<(x1:Int))) (Cl 115 #[(.pointer D1),(.slice A0 N0 C0),(.slice A2 N2 C2)] w fun r2 w3=>r2=.returned undef∧Cl 46 #[(.slice A0 N0 C0)] w3 fun r4 w5=>∃ x6a,∃ x6l,∃ x6c,r4=.returned (.slice x6a x6l x6c)∧Kd K .ret [eS 6 x6a x6l x6c] ds w5) (Cl 116 #[(.pointer D1),(.slice A0 N0 C0),(.slice A2 N2 C2)] w fun r8 w9=>r8=.returned undef∧Cl 46 #[(.slice A0 N0 C0)] w9 fun r10 w11=>∃ x12a,∃ x12l,∃ x12c,r10=.returned (.slice x12a x12l x12c)∧Kd K .ret [eS 6 x12a x12l x12c] ds w11)
theorem t2:VT 76 p2 (l2 A0 N0 C0 D1 A2 N2 C2 I7) (v2 A0 N0 C0 D1 A2 N2 C2 I7):=tw kt [6] fun B ds w K=>by kernel_rfl
end F79
namespace F80
noncomputable def body:Code:=bodyOf Tryz.f80
def kt:List (Nat × List Nat):=[(11,[0,1,2,3,9,10]),(18,[0,1,2,3,9,10]),(24,[0,1,2,3,9,10,11,12]),(28,[0])]
noncomputable def p1:Code:=sb 5 31 body
noncomputable def p2:Code:=sb 8 255 body
noncomputable def p3:Code:=sb 10 1023 body
noncomputable def p4:Code:=sb 18 261820 body
noncomputable def p5:Code:=sb 16 65455 body
theorem q5:p5=.block 1 (.loop p4):=by kernel_rfl
variable (A0:Option Addr) (N0 C0:Nat) (D1 A2:Option Addr) (N2 C2:Nat) (A3:Option Addr) (N3 C3:Nat) (I9 I10:Int) (A11:Option Addr) (N11 C11:Nat) (I12:Int)
abbrev l0:List (Nat × Value):=[eS 0 A0 N0 C0,eP 1 D1,eS 2 A2 N2 C2,eS 3 A3 N3 C3]
def v0:VP:=fun B ds w K=>bc (decide ((N2:Int)<(N3:Int))) (Cl 80 #[(.slice A0 N0 C0),(.pointer D1),(.slice A3 N3 C3),(.slice A2 N2 C2)] w fun r1 w2=>∃ x3a,∃ x3l,∃ x3c,r1=.returned (.slice x3a x3l x3c)∧Kd K .ret [eS 8 x3a x3l x3c] ds w2) (bc ((N2:Int)==0) (∃ h6:Nat,0=(h6:Int)∧h6≤C0∧Kd K .ret [eS 8 A0 h6 C0] ds w) (bc ((N3:Int)==0) (∃ h10:Nat,0=(h10:Int)∧h10≤C0∧Kd K .ret [eS 8 A0 h10 C0] ds w) (bc ((N3:Int)==1) (nc A3 fun b14 o15=>∃ k13:Nat,0=(k13:Int)∧k13<N3∧∃ x16,w.cell? ⟨b14,o15+k13,none⟩=some (.int .u64 x16)∧Cl 117 #[(.slice A0 N0 C0),(.slice A2 N2 C2),(.int .u64 x16),(.int .u64 0)] w fun r17 w18=>∃ x19a,∃ x19l,∃ x19c,r17=.returned (.slice x19a x19l x19c)∧Kd K .ret [eS 8 x19a x19l x19c] ds w18) (Cl 49 #[(.slice A0 N0 C0),(.slice A2 N2 C2)] w fun r21 w22=>∃ x23,r21=.returned (.bool x23)∧bc x23 (Wd 121 p1 [eS 0 none 0 0,eP 1 D1,eS 2 A2 N2 C2,eS 3 A3 N3 C3,eI 9 (N2:Int),eI 10 (N3:Int)] ds w22 K) (Cl 49 #[(.slice A0 N0 C0),(.slice A3 N3 C3)] w22 fun r25 w26=>∃ x27,r25=.returned (.bool x27)∧bc x27 (Wd 121 p1 [eS 0 none 0 0,eP 1 D1,eS 2 A2 N2 C2,eS 3 A3 N3 C3,eI 9 (N2:Int),eI 10 (N3:Int)] ds w26 K) (Wd 121 p1 [eS 0 A0 N0 C0,eP 1 D1,eS 2 A2 N2 C2,eS 3 A3 N3 C3,eI 9 (N2:Int),eI 10 (N3:Int)] ds w26 K))))))
theorem t0:VZ 121 body (l0 A0 N0 C0 D1 A2 N2 C2 A3 N3 C3) (v0 A0 N0 C0 D1 A2 N2 C2 A3 N3 C3):=tz kt [8] fun B ds w K=>by kernel_rfl
theorem call:VCl 80 [.tmp 8] #[.slice A0 N0 C0,.pointer D1,.slice A2 N2 C2,.slice A3 N3 C3] (v0 A0 N0 C0 D1 A2 N2 C2 A3 N3 C3):=cz Tryz.func80 (by kernel_rfl) Tryz.ntmps80 Tryz.results80 (by kernel_rfl) (t0 A0 N0 C0 D1 A2 N2 C2 A3 N3 C3)
abbrev l1:List (Nat × Value):=[eS 0 A0 N0 C0,eP 1 D1,eS 2 A2 N2 C2,eS 3 A3 N3 C3,eI 9 I9,eI 10 I10]
def v1:VP:=fun B ds w K=>inI64 (I9+I10)∧Cl 73 #[(.slice A0 N0 C0),(.int .i64 (I9+I10))] w fun r1 w2=>∃ x3a,∃ x3l,∃ x3c,r1=.returned (.slice x3a x3l x3c)∧∃ x4,w2.cell? ⟨5,0,none⟩=some (.int .i64 x4)∧bc (decide (I10<(x4:Int))) (Cl 114 #[(.slice x3a x3l x3c),(.slice A2 N2 C2),(.slice A3 N3 C3)] w2 fun r5 w6=>r5=.returned undef∧Cl 46 #[(.slice x3a x3l x3c)] w6 fun r7 w8=>∃ x9a,∃ x9l,∃ x9c,r7=.returned (.slice x9a x9l x9c)∧Kd K .ret [eS 8 x9a x9l x9c] ds w8) (∃ q11,ptrEq w2 D1 none q11∧bc q11 (Cl 56 #[] w2 fun r12 w13=>∃ x14,r12=.returned (.pointer x14)∧Wd 121 p2 [eS 0 x3a x3l x3c,eP 1 x14,eS 2 A2 N2 C2,eS 3 A3 N3 C3,eI 9 I9,eI 10 I10] (⟨.fn (.func 57) #[],#[(.pointer x14)]⟩ :: ds) w13 K) (Wd 121 p2 [eS 0 x3a x3l x3c,eP 1 D1,eS 2 A2 N2 C2,eS 3 A3 N3 C3,eI 9 I9,eI 10 I10] ds w2 K))
theorem t1:VT 121 p1 (l1 A0 N0 C0 D1 A2 N2 C2 A3 N3 C3 I9 I10) (v1 A0 N0 C0 D1 A2 N2 C2 A3 N3 C3 I9 I10):=tw kt [8] fun B ds w K=>by kernel_rfl
abbrev l2:List (Nat × Value):=[eS 0 A0 N0 C0,eP 1 D1,eS 2 A2 N2 C2,eS 3 A3 N3 C3,eI 9 I9,eI 10 I10]
def v2:VP:=fun B ds w K=>inI64 (2*I10)∧∃ h2:Nat,(2*I10)=(h2:Int)∧h2≤C0∧∃ h5:Nat,I10=(h5:Int)∧h5≤C2∧Cl 118 #[(.pointer D1),(.slice A0 h2 C0),(.slice A2 h5 C2),(.slice A3 N3 C3)] w.drew fun r7 w8=>r7=.returned undef∧bc (decide (I10<(I9:Int))) (inI64 (2*I10)∧∃ i9:Nat,(2*I10)=(i9:Int)∧i9≤N0∧∃ w12,Sem.run Tryz.prog (builtin .clear #[45] 0 #[false] #[(.slice (shifted A0 i9 C0 1) (N0-i9) (C0-i9))]) w8=.ok (.value undef) w12∧Cl 103 #[(.pointer D1)] w12 fun r13 w14=>∃ x15,r13=.returned (.int .i64 x15)∧inI64 (2*I10)∧Cl 104 #[(.pointer D1),(.int .i64 (2*I10))] w14 fun r16 w17=>∃ x18a,∃ x18l,∃ x18c,r16=.returned (.slice x18a x18l x18c)∧Wd 121 p5 [eS 0 A0 N0 C0,eP 1 D1,eS 2 A2 N2 C2,eS 3 A3 N3 C3,eI 9 I9,eI 10 I10,eS 11 x18a x18l x18c,eI 12 I10] (⟨.fn (.func 102) #[],#[(.pointer D1),(.int .i64 x15)]⟩ :: ds) w17 (thenW Tryz.prog 121 p3 K)) (Wd 121 p3 [eS 0 A0 N0 C0] ds w8 K)
theorem t2:VT 121 p2 (l2 A0 N0 C0 D1 A2 N2 C2 A3 N3 C3 I9 I10) (v2 A0 N0 C0 D1 A2 N2 C2 A3 N3 C3 I9 I10):=tw kt [8] fun B ds w K=>by kernel_rfl
abbrev l3:List (Nat × Value):=[eS 0 A0 N0 C0]
def v3:VP:=fun B ds w K=>Cl 46 #[(.slice A0 N0 C0)] w fun r1 w2=>∃ x3a,∃ x3l,∃ x3c,r1=.returned (.slice x3a x3l x3c)∧Kd K .ret [eS 8 x3a x3l x3c] ds w2
theorem t3:VT 121 p3 (l3 A0 N0 C0) (v3 A0 N0 C0):=tw kt [8] fun B ds w K=>by kernel_rfl
abbrev l4:List (Nat × Value):=[eS 0 A0 N0 C0,eP 1 D1,eS 2 A2 N2 C2,eS 3 A3 N3 C3,eI 9 I9,eI 10 I10,eS 11 A11 N11 C11,eI 12 I12]
def v4:VP:=fun B ds w K=>bc (decide (I12<(I9:Int))) (inI64 (I12+I10)∧∃ i1 h2:Nat,I12=(i1:Int)∧(if (N2:Int)<(I12+I10) then (N2:Int) else (I12+I10))=(h2:Int)∧i1≤h2∧h2≤C2∧Cl 80 #[(.slice A11 N11 C11),(.pointer D1),(.slice (shifted A2 i1 C2 1) (h2-i1) (C2-i1)),(.slice A3 N3 C3)] w fun r4 w5=>∃ x6a,∃ x6l,∃ x6c,r4=.returned (.slice x6a x6l x6c)∧∃ i7:Nat,I12=(i7:Int)∧i7≤N0∧Cl 119 #[(.slice (shifted A0 i7 C0 1) (N0-i7) (C0-i7)),(.slice x6a x6l x6c)] w5 fun r10 w11=>r10=.returned undef∧inI64 (I12+I10)∧Kd K .normal [eS 0 A0 N0 C0,eP 1 D1,eS 2 A2 N2 C2,eS 3 A3 N3 C3,eI 9 I9,eI 10 I10,eS 11 x6a x6l x6c,eI 12 (I12+I10)] ds w11) (Kd K (.exit 1) [eS 0 A0 N0 C0,eP 1 D1,eS 2 A2 N2 C2,eS 3 A3 N3 C3,eI 9 I9,eI 10 I10,eS 11 A11 N11 C11,eI 12 I12] ds w)
theorem t4:VT 121 p4 (l4 A0 N0 C0 D1 A2 N2 C2 A3 N3 C3 I9 I10 A11 N11 C11 I12) (v4 A0 N0 C0 D1 A2 N2 C2 A3 N3 C3 I9 I10 A11 N11 C11 I12):=tw kt [0,1,2,3,9,10,11,12] fun B ds w K=>by kernel_rfl
end F80
namespace F114
noncomputable def body:Code:=bodyOf Tryz.f114
def kt:List (Nat × List Nat):=[(2,[0,1,15,16,17]),(6,[0,1,15,16,17])]
noncomputable def p1:Code:=sb 4 12 body
noncomputable def p2:Code:=sb 2 3 body
noncomputable def p3:Code:=sb 7 103 body
theorem q2:p2=.block 0 (.loop p1):=by kernel_rfl
variable (A0:Option Addr) (N0 C0:Nat) (A1:Option Addr) (N1 C1:Nat) (A2 A15:Option Addr) (N2 N15 C2 C15:Nat) (I16 I17:Int)
abbrev l0:List (Nat × Value):=[eS 0 A0 N0 C0,eS 1 A1 N1 C1,eS 2 A2 N2 C2]
def v0:VP:=fun B ds w K=>inI64 ((N1:Int)+(N2:Int))∧∃ i1 h2:Nat,0=(i1:Int)∧((N1:Int)+(N2:Int))=(h2:Int)∧i1≤h2∧h2≤C0∧∃ w4,Sem.run Tryz.prog (builtin .clear #[45] 0 #[false] #[(.slice (shifted A0 i1 C0 1) (h2-i1) (C0-i1))]) w=.ok (.value undef) w4∧Wd 48 p2 [eS 0 A0 N0 C0,eS 1 A1 N1 C1,eS 15 A2 N2 C2,eI 16 (N2:Int),eI 17 0] ds w4 K
theorem t0:VZ 48 body (l0 A0 N0 C0 A1 N1 C1 A2 N2 C2) (v0 A0 N0 C0 A1 N1 C1 A2 N2 C2):=tz kt [] fun B ds w K=>by kernel_rfl
theorem call:VCl 114 [] #[.slice A0 N0 C0,.slice A1 N1 C1,.slice A2 N2 C2] (v0 A0 N0 C0 A1 N1 C1 A2 N2 C2):=cz Tryz.func114 (by kernel_rfl) Tryz.ntmps114 Tryz.results114 (by kernel_rfl) (t0 A0 N0 C0 A1 N1 C1 A2 N2 C2)
abbrev l1:List (Nat × Value):=[eS 0 A0 N0 C0,eS 1 A1 N1 C1,eS 15 A15 N15 C15,eI 16 I16,eI 17 I17]
def v1:VP:=fun B ds w K=>bc (decide (I17<(I16:Int))) (nc A15 fun b2 o3=>∃ k1:Nat,I17=(k1:Int)∧k1<N15∧∃ x4,w.cell? ⟨b2,o3+k1,none⟩=some (.int .u64 x4)∧bc (x4 != 0) (inI64 ((N1:Int)+I17)∧inI64 (I17+(N1:Int))∧∃ i5 h6:Nat,I17=(i5:Int)∧(I17+(N1:Int))=(h6:Int)∧i5≤h6∧h6≤C0∧inI64 (I17+(N1:Int))∧∃ i8 h9:Nat,I17=(i8:Int)∧(I17+(N1:Int))=(h9:Int)∧i8≤h9∧h9≤C0∧Cl 146 #[(.slice (shifted A0 i5 C0 1) (h6-i5) (C0-i5)),(.slice (shifted A0 i8 C0 1) (h9-i8) (C0-i8)),(.slice A1 N1 C1),(.int .u64 x4),(.int .u64 0)] w.drew fun r11 w12=>∃ x13,r11=.returned (.int .u64 x13)∧nc A0 fun b15 o16=>∃ k14:Nat,((N1:Int)+I17)=(k14:Int)∧k14<N0∧(∃ u17,w12.cell? ⟨b15,o16+k14,none⟩=some u17)∧w12.frozen? ⟨b15,o16+k14,none⟩=false∧Wd 48 p3 [eS 0 A0 N0 C0,eS 1 A1 N1 C1,eS 15 A15 N15 C15,eI 16 I16,eI 17 I17] ds (w12.setCell ⟨b15,o16+k14,none⟩ (.int .u64 x13)) K) (Wd 48 p3 [eS 0 A0 N0 C0,eS 1 A1 N1 C1,eS 15 A15 N15 C15,eI 16 I16,eI 17 I17] ds w K)) (Kd K (.exit 0) [eS 0 A0 N0 C0,eS 1 A1 N1 C1,eS 15 A15 N15 C15,eI 16 I16,eI 17 I17] ds w)
theorem t1:VT 48 p1 (l1 A0 N0 C0 A1 N1 C1 A15 N15 C15 I16 I17) (v1 A0 N0 C0 A1 N1 C1 A15 N15 C15 I16 I17):=tw kt [0,1,15,16,17] fun B ds w K=>by kernel_rfl
abbrev l3:List (Nat × Value):=[eS 0 A0 N0 C0,eS 1 A1 N1 C1,eS 15 A15 N15 C15,eI 16 I16,eI 17 I17]
def v3:VP:=fun B ds w K=>inI64 (I17+1)∧Kd K .normal [eS 0 A0 N0 C0,eS 1 A1 N1 C1,eS 15 A15 N15 C15,eI 16 I16,eI 17 (I17+1)] ds w
theorem t3:VT 48 p3 (l3 A0 N0 C0 A1 N1 C1 A15 N15 C15 I16 I17) (v3 A0 N0 C0 A1 N1 C1 A15 N15 C15 I16 I17):=tw kt [0,1,15,16,17] fun B ds w K=>by kernel_rfl
end F114
namespace F115
noncomputable def body:Code:=bodyOf Tryz.f115
def kt:List (Nat × List Nat):=[(8,[1,2,6,7,8]),(13,[1,6,7])]
noncomputable def p1:Code:=sb 7 127 body
noncomputable def p2:Code:=sb 10 1012 body
noncomputable def p3:Code:=sb 8 253 body
theorem q3:p3=.block 0 (.loop p2):=by kernel_rfl
variable (D0 A1:Option Addr) (N1 C1:Nat) (A2:Option Addr) (N2 C2:Nat) (I6:Int) (A7:Option Addr) (N7 C7:Nat) (I8:Int)
abbrev l0:List (Nat × Value):=[eP 0 D0,eS 1 A1 N1 C1,eS 2 A2 N2 C2]
def v0:VP:=fun B ds w K=>∃ x1,w.cell? ⟨3,0,none⟩=some (.int .i64 x1)∧bc (decide ((N2:Int)<(x1:Int))) (Cl 114 #[(.slice A1 N1 C1),(.slice A2 N2 C2),(.slice A2 N2 C2)] w fun r2 w3=>r2=.returned undef∧Kd K .ret [] ds w3) (Cl 103 #[(.pointer D0)] w fun r5 w6=>∃ x7,r5=.returned (.int .i64 x7)∧inI64 (2*(N2:Int))∧Cl 104 #[(.pointer D0),(.int .i64 (2*(N2:Int)))] w6 fun r8 w9=>∃ x10a,∃ x10l,∃ x10c,r8=.returned (.slice x10a x10l x10c)∧∃ w11,Sem.run Tryz.prog (builtin .clear #[45] 0 #[false] #[(.slice x10a x10l x10c)]) w9=.ok (.value undef) w11∧nc A2 fun b13 o14=>∃ k12:Nat,0=(k12:Int)∧k12<N2∧∃ x15,w11.drew.cell? ⟨b13,o14+k12,none⟩=some (.int .u64 x15)∧nc A2 fun b17 o18=>∃ k16:Nat,0=(k16:Int)∧k16<N2∧∃ x19,w11.drew.cell? ⟨b17,o18+k16,none⟩=some (.int .u64 x19)∧Cl 113 #[(.int .u64 x15),(.int .u64 x19)] w11.drew fun r20 w21=>∃ x22,True∧∃ x23,True∧r20=.returned (.tuple #[(.int .u64 x22),(.int .u64 x23)])∧nc A1 fun b25 o26=>∃ k24:Nat,1=(k24:Int)∧k24<N1∧(∃ u27,w21.cell? ⟨b25,o26+k24,none⟩=some u27)∧w21.frozen? ⟨b25,o26+k24,none⟩=false∧nc A1 fun b29 o30=>∃ k28:Nat,0=(k28:Int)∧k28<N1∧(∃ u31,World.cell? (w21.setCell ⟨b25,o26+k24,none⟩ (.int .u64 x22)) ⟨b29,o30+k28,none⟩=some u31)∧World.frozen? (w21.setCell ⟨b25,o26+k24,none⟩ (.int .u64 x22)) ⟨b29,o30+k28,none⟩=false∧Wd 104 p3 [eS 1 A1 N1 C1,eS 2 A2 N2 C2,eI 6 (N2:Int),eS 7 x10a x10l x10c,eI 8 1] (⟨.fn (.func 102) #[],#[(.pointer D0),(.int .i64 x7)]⟩ :: ds) (World.setCell (w21.setCell ⟨b25,o26+k24,none⟩ (.int .u64 x22)) ⟨b29,o30+k28,none⟩ (.int .u64 x23)) (thenW Tryz.prog 104 p1 K))
theorem t0:VZ 104 body (l0 D0 A1 N1 C1 A2 N2 C2) (v0 D0 A1 N1 C1 A2 N2 C2):=tz kt [] fun B ds w K=>by kernel_rfl
theorem call:VCl 115 [] #[.pointer D0,.slice A1 N1 C1,.slice A2 N2 C2] (v0 D0 A1 N1 C1 A2 N2 C2):=cz Tryz.func115 (by kernel_rfl) Tryz.ntmps115 Tryz.results115 (by kernel_rfl) (t0 D0 A1 N1 C1 A2 N2 C2)
abbrev l1:List (Nat × Value):=[eS 1 A1 N1 C1,eI 6 I6,eS 7 A7 N7 C7]
def v1:VP:=fun B ds w K=>inI64 (2*I6)∧inI64 ((2*I6)-1)∧inI64 (2*I6)∧inI64 ((2*I6)-1)∧∃ i1 h2:Nat,1=(i1:Int)∧((2*I6)-1)=(h2:Int)∧i1≤h2∧h2≤C7∧inI64 (2*I6)∧inI64 ((2*I6)-1)∧∃ i4 h5:Nat,1=(i4:Int)∧((2*I6)-1)=(h5:Int)∧i4≤h5∧h5≤C7∧Cl 145 #[(.slice (shifted A7 i1 C7 1) (h2-i1) (C7-i1)),(.slice (shifted A7 i4 C7 1) (h5-i4) (C7-i4)),(.int .u64 1)] w.drew fun r7 w8=>∃ x9,r7=.returned (.int .u64 x9)∧nc A7 fun b11 o12=>∃ k10:Nat,((2*I6)-1)=(k10:Int)∧k10<N7∧(∃ u13,w8.cell? ⟨b11,o12+k10,none⟩=some u13)∧w8.frozen? ⟨b11,o12+k10,none⟩=false∧Cl 138 #[(.slice A1 N1 C1),(.slice A1 N1 C1),(.slice A7 N7 C7)] (w8.setCell ⟨b11,o12+k10,none⟩ (.int .u64 x9)) fun r14 w15=>∃ x16,r14=.returned (.int .u64 x16)∧Kd K .normal [] ds w15
theorem t1:VT 104 p1 (l1 A1 N1 C1 I6 A7 N7 C7) (v1 A1 N1 C1 I6 A7 N7 C7):=tw kt [] fun B ds w K=>by kernel_rfl
abbrev l2:List (Nat × Value):=[eS 1 A1 N1 C1,eS 2 A2 N2 C2,eI 6 I6,eS 7 A7 N7 C7,eI 8 I8]
def v2:VP:=fun B ds w K=>bc (decide (I8<(I6:Int))) (nc A2 fun b2 o3=>∃ k1:Nat,I8=(k1:Int)∧k1<N2∧∃ x4,w.cell? ⟨b2,o3+k1,none⟩=some (.int .u64 x4)∧inI64 (2*I8)∧inI64 ((2*I8)+1)∧inI64 (2*I8)∧Cl 113 #[(.int .u64 x4),(.int .u64 x4)] w fun r5 w6=>∃ x7,True∧∃ x8,True∧r5=.returned (.tuple #[(.int .u64 x7),(.int .u64 x8)])∧nc A1 fun b10 o11=>∃ k9:Nat,((2*I8)+1)=(k9:Int)∧k9<N1∧(∃ u12,w6.cell? ⟨b10,o11+k9,none⟩=some u12)∧w6.frozen? ⟨b10,o11+k9,none⟩=false∧nc A1 fun b14 o15=>∃ k13:Nat,(2*I8)=(k13:Int)∧k13<N1∧(∃ u16,World.cell? (w6.setCell ⟨b10,o11+k9,none⟩ (.int .u64 x7)) ⟨b14,o15+k13,none⟩=some u16)∧World.frozen? (w6.setCell ⟨b10,o11+k9,none⟩ (.int .u64 x7)) ⟨b14,o15+k13,none⟩=false∧inI64 (2*I8)∧inI64 (2*I8)∧∃ i17 h18:Nat,I8=(i17:Int)∧(2*I8)=(h18:Int)∧i17≤h18∧h18≤C7∧inI64 (2*I8)∧∃ i20 h21:Nat,I8=(i20:Int)∧(2*I8)=(h21:Int)∧i20≤h21∧h21≤C7∧∃ i23 h24:Nat,0=(i23:Int)∧I8=(h24:Int)∧i23≤h24∧h24≤C2∧Cl 146 #[(.slice (shifted A7 i17 C7 1) (h18-i17) (C7-i17)),(.slice (shifted A7 i20 C7 1) (h21-i20) (C7-i20)),(.slice (shifted A2 i23 C2 1) (h24-i23) (C2-i23)),(.int .u64 x4),(.int .u64 0)] (World.drew (World.setCell (w6.setCell ⟨b10,o11+k9,none⟩ (.int .u64 x7)) ⟨b14,o15+k13,none⟩ (.int .u64 x8))) fun r26 w27=>∃ x28,r26=.returned (.int .u64 x28)∧nc A7 fun b30 o31=>∃ k29:Nat,(2*I8)=(k29:Int)∧k29<N7∧(∃ u32,w27.cell? ⟨b30,o31+k29,none⟩=some u32)∧w27.frozen? ⟨b30,o31+k29,none⟩=false∧inI64 (I8+1)∧Kd K .normal [eS 1 A1 N1 C1,eS 2 A2 N2 C2,eI 6 I6,eS 7 A7 N7 C7,eI 8 (I8+1)] ds (w27.setCell ⟨b30,o31+k29,none⟩ (.int .u64 x28))) (Kd K (.exit 0) [eS 1 A1 N1 C1,eS 2 A2 N2 C2,eI 6 I6,eS 7 A7 N7 C7,eI 8 I8] ds w)
theorem t2:VT 104 p2 (l2 A1 N1 C1 A2 N2 C2 I6 A7 N7 C7 I8) (v2 A1 N1 C1 A2 N2 C2 I6 A7 N7 C7 I8):=tw kt [1,2,6,7,8] fun B ds w K=>by kernel_rfl
end F115
namespace F117
noncomputable def body:Code:=bodyOf Tryz.f117
def kt:List (Nat × List Nat):=[]
variable (A0:Option Addr) (N0 C0:Nat) (A1:Option Addr) (N1 C1:Nat) (I2 I3:Int)
abbrev l0:List (Nat × Value):=[eS 0 A0 N0 C0,eS 1 A1 N1 C1,eU 2 I2,eU 3 I3]
def v0:VP:=fun B ds w K=>bc ((N1:Int)==0) (Cl 71 #[(.slice A0 N0 C0),(.int .u64 I3)] w fun r1 w2=>∃ x3a,∃ x3l,∃ x3c,r1=.returned (.slice x3a x3l x3c)∧Kd K .ret [eS 8 x3a x3l x3c] ds w2) (bc (I2==0) (Cl 71 #[(.slice A0 N0 C0),(.int .u64 I3)] w fun r5 w6=>∃ x7a,∃ x7l,∃ x7c,r5=.returned (.slice x7a x7l x7c)∧Kd K .ret [eS 8 x7a x7l x7c] ds w6) (inI64 ((N1:Int)+1)∧Cl 73 #[(.slice A0 N0 C0),(.int .i64 ((N1:Int)+1))] w fun r9 w10=>∃ x11a,∃ x11l,∃ x11c,r9=.returned (.slice x11a x11l x11c)∧∃ i12 h13:Nat,0=(i12:Int)∧(N1:Int)=(h13:Int)∧i12≤h13∧h13≤x11c∧Cl 91 #[(.slice (shifted x11a i12 x11c 1) (h13-i12) (x11c-i12)),(.slice A1 N1 C1),(.int .u64 I2),(.int .u64 I3)] w10 fun r15 w16=>∃ x17,r15=.returned (.int .u64 x17)∧nc x11a fun b19 o20=>∃ k18:Nat,(N1:Int)=(k18:Int)∧k18<x11l∧(∃ u21,w16.cell? ⟨b19,o20+k18,none⟩=some u21)∧w16.frozen? ⟨b19,o20+k18,none⟩=false∧Cl 46 #[(.slice x11a x11l x11c)] (w16.setCell ⟨b19,o20+k18,none⟩ (.int .u64 x17)) fun r22 w23=>∃ x24a,∃ x24l,∃ x24c,r22=.returned (.slice x24a x24l x24c)∧Kd K .ret [eS 8 x24a x24l x24c] ds w23))
theorem t0:VZ 37 body (l0 A0 N0 C0 A1 N1 C1 I2 I3) (v0 A0 N0 C0 A1 N1 C1 I2 I3):=tz kt [8] fun B ds w K=>by kernel_rfl
theorem call:VCl 117 [.tmp 8] #[.slice A0 N0 C0,.slice A1 N1 C1,.int .u64 I2,.int .u64 I3] (v0 A0 N0 C0 A1 N1 C1 I2 I3):=cz Tryz.func117 (by kernel_rfl) Tryz.ntmps117 Tryz.results117 (by kernel_rfl) (t0 A0 N0 C0 A1 N1 C1 I2 I3)
end F117
namespace F119
noncomputable def body:Code:=bodyOf Tryz.f119
def kt:List (Nat × List Nat):=[]
variable (A0:Option Addr) (N0 C0:Nat) (A1:Option Addr) (N1 C1:Nat)
abbrev l0:List (Nat × Value):=[eS 0 A0 N0 C0,eS 1 A1 N1 C1]
def v0:VP:=fun B ds w K=>bc (decide ((N1:Int)>(0:Int))) (∃ h2:Nat,(N1:Int)=(h2:Int)∧h2≤C0∧∃ h5:Nat,(N1:Int)=(h5:Int)∧h5≤C0∧∃ h8:Nat,(N1:Int)=(h8:Int)∧h8≤C1∧Cl 138 #[(.slice A0 h2 C0),(.slice A0 h5 C0),(.slice A1 h8 C1)] w.drew fun r10 w11=>∃ x12,r10=.returned (.int .u64 x12)∧bc (x12 != 0) (bc (decide ((N1:Int)<(N0:Int))) (∃ i13:Nat,(N1:Int)=(i13:Int)∧i13≤N0∧∃ i16:Nat,(N1:Int)=(i16:Int)∧i16≤N0∧Cl 139 #[(.slice (shifted A0 i13 C0 1) (N0-i13) (C0-i13)),(.slice (shifted A0 i16 C0 1) (N0-i16) (C0-i16)),(.int .u64 x12)] w11.drew fun r19 w20=>∃ x21,r19=.returned (.int .u64 x21)∧Kd K .normal [] ds w20) (Kd K .normal [] ds w11)) (Kd K .normal [] ds w11)) (Kd K .normal [] ds w)
theorem t0:VZ 34 body (l0 A0 N0 C0 A1 N1 C1) (v0 A0 N0 C0 A1 N1 C1):=tz kt [] fun B ds w K=>by kernel_rfl
theorem call:VCl 119 [] #[.slice A0 N0 C0,.slice A1 N1 C1] (v0 A0 N0 C0 A1 N1 C1):=cz Tryz.func119 (by kernel_rfl) Tryz.ntmps119 Tryz.results119 (by kernel_rfl) (t0 A0 N0 C0 A1 N1 C1)
end F119
namespace F81
noncomputable def body:Code:=bodyOf Tryz.f81
def kt:List (Nat × List Nat):=[(3,[0,1,2,3,4]),(13,[0,1,2,3,4])]
noncomputable def p1:Code:=sb 2 3 body
noncomputable def p2:Code:=sb 5 31 body
variable (A0:Option Addr) (N0 C0:Nat) (D1 A2:Option Addr) (N2 C2:Nat) (A3:Option Addr) (N3 C3:Nat) (A4:Option Addr) (N4 C4:Nat)
abbrev l0:List (Nat × Value):=[eS 0 A0 N0 C0,eP 1 D1,eS 2 A2 N2 C2,eS 3 A3 N3 C3,eS 4 A4 N4 C4]
def v0:VP:=fun B ds w K=>bc ((N4:Int)==0) False (Wd 54 p1 [eS 0 A0 N0 C0,eP 1 D1,eS 2 A2 N2 C2,eS 3 A3 N3 C3,eS 4 A4 N4 C4] ds w K)
theorem t0:VZ 54 body (l0 A0 N0 C0 D1 A2 N2 C2 A3 N3 C3 A4 N4 C4) (v0 A0 N0 C0 D1 A2 N2 C2 A3 N3 C3 A4 N4 C4):=tz kt [10,11] fun B ds w K=>by kernel_rfl
theorem call:VCl 81 [.tmp 10,.tmp 11] #[.slice A0 N0 C0,.pointer D1,.slice A2 N2 C2,.slice A3 N3 C3,.slice A4 N4 C4] (v0 A0 N0 C0 D1 A2 N2 C2 A3 N3 C3 A4 N4 C4):=cz Tryz.func81 (by kernel_rfl) Tryz.ntmps81 Tryz.results81 (by kernel_rfl) (t0 A0 N0 C0 D1 A2 N2 C2 A3 N3 C3 A4 N4 C4)
abbrev l1:List (Nat × Value):=[eS 0 A0 N0 C0,eP 1 D1,eS 2 A2 N2 C2,eS 3 A3 N3 C3,eS 4 A4 N4 C4]
def v1:VP:=fun B ds w K=>bc ((N4:Int)==1) (nc A4 fun b2 o3=>∃ k1:Nat,0=(k1:Int)∧k1<N4∧∃ x4,w.cell? ⟨b2,o3+k1,none⟩=some (.int .u64 x4)∧Cl 93 #[(.slice A0 N0 C0),(.slice A3 N3 C3),(.int .u64 x4)] w fun r5 w6=>∃ x7a,∃ x7l,∃ x7c,True∧∃ x8,True∧r5=.returned (.tuple #[(.slice x7a x7l x7c),(.int .u64 x8)])∧Cl 71 #[(.slice A2 N2 C2),(.int .u64 x8)] w6 fun r9 w10=>∃ x11a,∃ x11l,∃ x11c,r9=.returned (.slice x11a x11l x11c)∧Kd K .ret [eS 10 x7a x7l x7c,eS 11 x11a x11l x11c] ds w10) (Cl 92 #[(.slice A3 N3 C3),(.slice A4 N4 C4)] w fun r13 w14=>∃ x15,r13=.returned (.int .i64 x15)∧bc (decide (x15<(0:Int))) (∃ h17:Nat,0=(h17:Int)∧h17≤C0∧Cl 60 #[(.slice A2 N2 C2),(.slice A3 N3 C3)] w14 fun r19 w20=>∃ x21a,∃ x21l,∃ x21c,r19=.returned (.slice x21a x21l x21c)∧Kd K .ret [eS 10 A0 h17 C0,eS 11 x21a x21l x21c] ds w20) (∃ q23,ptrEq w14 D1 none q23∧bc q23 (Cl 56 #[] w14 fun r24 w25=>∃ x26,r24=.returned (.pointer x26)∧Wd 54 p2 [eS 0 A0 N0 C0,eP 1 x26,eS 2 A2 N2 C2,eS 3 A3 N3 C3,eS 4 A4 N4 C4] (⟨.fn (.func 57) #[],#[(.pointer x26)]⟩ :: ds) w25 K) (Wd 54 p2 [eS 0 A0 N0 C0,eP 1 D1,eS 2 A2 N2 C2,eS 3 A3 N3 C3,eS 4 A4 N4 C4] ds w14 K)))
theorem t1:VT 54 p1 (l1 A0 N0 C0 D1 A2 N2 C2 A3 N3 C3 A4 N4 C4) (v1 A0 N0 C0 D1 A2 N2 C2 A3 N3 C3 A4 N4 C4):=tw kt [10,11] fun B ds w K=>by kernel_rfl
abbrev l2:List (Nat × Value):=[eS 0 A0 N0 C0,eP 1 D1,eS 2 A2 N2 C2,eS 3 A3 N3 C3,eS 4 A4 N4 C4]
def v2:VP:=fun B ds w K=>Cl 120 #[(.slice A0 N0 C0),(.pointer D1),(.slice A2 N2 C2),(.slice A3 N3 C3),(.slice A4 N4 C4)] w fun r1 w2=>∃ x3a,∃ x3l,∃ x3c,True∧∃ x4a,∃ x4l,∃ x4c,True∧r1=.returned (.tuple #[(.slice x3a x3l x3c),(.slice x4a x4l x4c)])∧Kd K .ret [eS 10 x3a x3l x3c,eS 11 x4a x4l x4c] ds w2
theorem t2:VT 54 p2 (l2 A0 N0 C0 D1 A2 N2 C2 A3 N3 C3 A4 N4 C4) (v2 A0 N0 C0 D1 A2 N2 C2 A3 N3 C3 A4 N4 C4):=tw kt [10,11] fun B ds w K=>by kernel_rfl
end F81
namespace F120
noncomputable def body:Code:=bodyOf Tryz.f120
def kt:List (Nat × List Nat):=[(13,[0,1,2,12,13,14,15]),(15,[0,1,2,12,13,14,15]),(19,[2,10,14]),(22,[2,10])]
noncomputable def p1:Code:=sb 8 255 body
noncomputable def p2:Code:=sb 9 511 body
noncomputable def p3:Code:=sb 11 2047 body
noncomputable def p4:Code:=sb 13 8191 body
variable (A0:Option Addr) (N0 C0:Nat) (D1 A2:Option Addr) (N2 C2:Nat) (A3:Option Addr) (I12:Int) (A10:Option Addr) (N3:Nat) (I13:Int) (N10 C3 C10:Nat) (A4:Option Addr) (I14:Int) (N4:Nat) (A15:Option Addr) (C4 N15 C15:Nat)
abbrev l0:List (Nat × Value):=[eS 0 A0 N0 C0,eP 1 D1,eS 2 A2 N2 C2,eS 3 A3 N3 C3,eS 4 A4 N4 C4]
def v0:VP:=fun B ds w K=>inI64 ((N3:Int)-(N4:Int))∧Cl 103 #[(.pointer D1)] w fun r1 w2=>∃ x3,r1=.returned (.int .i64 x3)∧inI64 ((N4:Int)-1)∧nc A4 fun b5 o6=>∃ k4:Nat,((N4:Int)-1)=(k4:Int)∧k4<N4∧∃ x7,w2.cell? ⟨b5,o6+k4,none⟩=some (.int .u64 x7)∧Cl 78 #[(.int .u64 x7)] w2 fun r8 w9=>∃ x10,r8=.returned (.int .u64 x10)∧Cl 104 #[(.pointer D1),(.int .i64 (N4:Int))] w9 fun r11 w12=>∃ x13a,∃ x13l,∃ x13c,r11=.returned (.slice x13a x13l x13c)∧inI64 ((N3:Int)+1)∧Cl 73 #[(.slice A2 N2 C2),(.int .i64 ((N3:Int)+1))] w12 fun r14 w15=>∃ x16a,∃ x16l,∃ x16c,r14=.returned (.slice x16a x16l x16c)∧bc (x10==0) (∃ w17,∃ x18,Sem.run Tryz.prog (builtin .copy #[45,45] 3 #[false,false] #[(.slice x13a x13l x13c),(.slice A4 N4 C4)]) w15=.ok (.value (.int .i64 x18)) w17∧∃ h20:Nat,(N3:Int)=(h20:Int)∧h20≤x16c∧∃ w22,∃ x23,Sem.run Tryz.prog (builtin .copy #[45,45] 3 #[false,false] #[(.slice x16a h20 x16c),(.slice A3 N3 C3)]) w17=.ok (.value (.int .i64 x23)) w22∧nc x16a fun b25 o26=>∃ k24:Nat,(N3:Int)=(k24:Int)∧k24<x16l∧(∃ u27,w22.cell? ⟨b25,o26+k24,none⟩=some u27)∧w22.frozen? ⟨b25,o26+k24,none⟩=false∧Wd 101 p1 [eS 0 A0 N0 C0,eP 1 D1,eS 2 x16a x16l x16c,eI 12 (N4:Int),eI 13 ((N3:Int)-(N4:Int)),eU 14 x10,eS 15 x13a x13l x13c] (⟨.fn (.func 102) #[],#[(.pointer D1),(.int .i64 x3)]⟩ :: ds) (w22.setCell ⟨b25,o26+k24,none⟩ (.int .u64 0)) K) (Cl 145 #[(.slice x13a x13l x13c),(.slice A4 N4 C4),(.int .u64 x10)] w15 fun r29 w30=>∃ x31,r29=.returned (.int .u64 x31)∧∃ h33:Nat,(N3:Int)=(h33:Int)∧h33≤x16c∧Cl 145 #[(.slice x16a h33 x16c),(.slice A3 N3 C3),(.int .u64 x10)] w30 fun r35 w36=>∃ x37,r35=.returned (.int .u64 x37)∧nc x16a fun b39 o40=>∃ k38:Nat,(N3:Int)=(k38:Int)∧k38<x16l∧(∃ u41,w36.cell? ⟨b39,o40+k38,none⟩=some u41)∧w36.frozen? ⟨b39,o40+k38,none⟩=false∧Wd 101 p1 [eS 0 A0 N0 C0,eP 1 D1,eS 2 x16a x16l x16c,eI 12 (N4:Int),eI 13 ((N3:Int)-(N4:Int)),eU 14 x10,eS 15 x13a x13l x13c] (⟨.fn (.func 102) #[],#[(.pointer D1),(.int .i64 x3)]⟩ :: ds) (w36.setCell ⟨b39,o40+k38,none⟩ (.int .u64 x37)) K)
theorem t0:VZ 101 body (l0 A0 N0 C0 D1 A2 N2 C2 A3 N3 C3 A4 N4 C4) (v0 A0 N0 C0 D1 A2 N2 C2 A3 N3 C3 A4 N4 C4):=tz kt [10,11] fun B ds w K=>by kernel_rfl
theorem call:VCl 120 [.tmp 10,.tmp 11] #[.slice A0 N0 C0,.pointer D1,.slice A2 N2 C2,.slice A3 N3 C3,.slice A4 N4 C4] (v0 A0 N0 C0 D1 A2 N2 C2 A3 N3 C3 A4 N4 C4):=cz Tryz.func120 (by kernel_rfl) Tryz.ntmps120 Tryz.results120 (by kernel_rfl) (t0 A0 N0 C0 D1 A2 N2 C2 A3 N3 C3 A4 N4 C4)
abbrev l1:List (Nat × Value):=[eS 0 A0 N0 C0,eP 1 D1,eS 2 A2 N2 C2,eI 12 I12,eI 13 I13,eU 14 I14,eS 15 A15 N15 C15]
def v1:VP:=fun B ds w K=>Cl 49 #[(.slice A0 N0 C0),(.slice A2 N2 C2)] w fun r1 w2=>∃ x3,r1=.returned (.bool x3)∧bc x3 (Wd 101 p2 [eS 0 none 0 0,eP 1 D1,eS 2 A2 N2 C2,eI 12 I12,eI 13 I13,eU 14 I14,eS 15 A15 N15 C15] ds w2 K) (Wd 101 p2 [eS 0 A0 N0 C0,eP 1 D1,eS 2 A2 N2 C2,eI 12 I12,eI 13 I13,eU 14 I14,eS 15 A15 N15 C15] ds w2 K)
theorem t1:VT 101 p1 (l1 A0 N0 C0 D1 A2 N2 C2 I12 I13 I14 A15 N15 C15) (v1 A0 N0 C0 D1 A2 N2 C2 I12 I13 I14 A15 N15 C15):=tw kt [10,11] fun B ds w K=>by kernel_rfl
abbrev l2:List (Nat × Value):=[eS 0 A0 N0 C0,eP 1 D1,eS 2 A2 N2 C2,eI 12 I12,eI 13 I13,eU 14 I14,eS 15 A15 N15 C15]
def v2:VP:=fun B ds w K=>inI64 (I13+1)∧Cl 73 #[(.slice A0 N0 C0),(.int .i64 (I13+1))] w fun r1 w2=>∃ x3a,∃ x3l,∃ x3c,r1=.returned (.slice x3a x3l x3c)∧∃ x4,w2.cell? ⟨10,0,none⟩=some (.int .i64 x4)∧bc (decide (I12<(x4:Int))) (Cl 150 #[(.slice x3a x3l x3c),(.pointer D1),(.slice A2 N2 C2),(.slice A15 N15 C15)] w2 fun r5 w6=>r5=.returned undef∧Wd 101 p3 [eS 2 A2 N2 C2,eS 10 x3a x3l x3c,eU 14 I14] ds w6 K) (Cl 151 #[(.slice x3a x3l x3c),(.pointer D1),(.slice A2 N2 C2),(.slice A15 N15 C15)] w2 fun r8 w9=>r8=.returned undef∧Wd 101 p3 [eS 2 A2 N2 C2,eS 10 x3a x3l x3c,eU 14 I14] ds w9 K)
theorem t2:VT 101 p2 (l2 A0 N0 C0 D1 A2 N2 C2 I12 I13 I14 A15 N15 C15) (v2 A0 N0 C0 D1 A2 N2 C2 I12 I13 I14 A15 N15 C15):=tw kt [10,11] fun B ds w K=>by kernel_rfl
abbrev l3:List (Nat × Value):=[eS 2 A2 N2 C2,eS 10 A10 N10 C10,eU 14 I14]
def v3:VP:=fun B ds w K=>Cl 46 #[(.slice A10 N10 C10)] w fun r1 w2=>∃ x3a,∃ x3l,∃ x3c,r1=.returned (.slice x3a x3l x3c)∧bc (I14 != 0) (Cl 147 #[(.slice A2 N2 C2),(.slice A2 N2 C2),(.int .u64 I14)] w2 fun r4 w5=>∃ x6,r4=.returned (.int .u64 x6)∧Wd 101 p4 [eS 2 A2 N2 C2,eS 10 x3a x3l x3c] ds w5 K) (Wd 101 p4 [eS 2 A2 N2 C2,eS 10 x3a x3l x3c] ds w2 K)
theorem t3:VT 101 p3 (l3 A2 N2 C2 A10 N10 C10 I14) (v3 A2 N2 C2 A10 N10 C10 I14):=tw kt [10,11] fun B ds w K=>by kernel_rfl
abbrev l4:List (Nat × Value):=[eS 2 A2 N2 C2,eS 10 A10 N10 C10]
def v4:VP:=fun B ds w K=>Cl 46 #[(.slice A2 N2 C2)] w fun r1 w2=>∃ x3a,∃ x3l,∃ x3c,r1=.returned (.slice x3a x3l x3c)∧Kd K .ret [eS 10 A10 N10 C10,eS 11 x3a x3l x3c] ds w2
theorem t4:VT 101 p4 (l4 A2 N2 C2 A10 N10 C10) (v4 A2 N2 C2 A10 N10 C10):=tw kt [10,11] fun B ds w K=>by kernel_rfl
end F120
end Go.Proofs.YtlkjiiibmfpbcaaGreatDoor
namespace Go.Proofs.YtlkjiiibmfpbcaaGreatDoor
open Go
structure Glb (w:World):Prop where
 tabs:Tabs w
 t3:w.cell? ⟨3,0,none⟩=some (.int .i64 12)
 t4:w.cell? ⟨4,0,none⟩=some (.int .i64 80)
 t5:w.cell? ⟨5,0,none⟩=some (.int .i64 40)
 t10:w.cell? ⟨10,0,none⟩=some (.int .i64 40)
theorem chgVar {w w':World} {S:Set2} (h:Chg w w' S) {b i:Nat} {v:Value} (hv:w.cell? ⟨b,i,none⟩=some v) (hb:b<GB):w'.cell? ⟨b,i,none⟩=some v:=by
 rw [cell_eq,h.glob b hb (lt_of_cell hv),←cell_eq]; exact hv
theorem Chg.glb {w w':World} {S:Set2} (h:Chg w w' S) (hg:Glb w):Glb w' :=
 ⟨h.tabs hg.tabs,chgVar h hg.t3 (by decide),chgVar h hg.t4 (by decide),chgVar h hg.t5 (by decide),chgVar h hg.t10 (by decide)⟩
theorem Glb.gb {w:World} (h:Glb w):GB≤w.heap.size:=by have:=lt_of_cell h.t10; unfold GB; omega
def Dis (z:Sl) (n:Nat) (x:Sl):Prop:=x.l=0∨x.b≠z.b∨x.o+x.l≤z.o∨z.o+n≤x.o
theorem Dis.not {z x:Sl} {n:Nat} (h:Dis z n x) {lo hi i:Nat} (h1:z.o≤lo) (h2:hi≤z.o+n) (hi':i<x.l):¬inR z.b lo hi x.b (x.o+i):=by
 rintro ⟨e1,e2,e3⟩; unfold Dis at h; omega
theorem mod_lt_mul {X Y i n:Nat} (hX:X<BB^n):X*(Y%BB^i)<BB^(n+i):=by
 have h1:=Nat.mod_lt Y (BBpow_pos i)
 rw [Nat.pow_add]
 rcases Nat.eq_zero_or_pos X with h | h
 ·subst h; rw [Nat.zero_mul]; exact Nat.mul_pos (BBpow_pos n) (BBpow_pos i)
 ·exact Nat.mul_lt_mul_of_lt_of_le hX (Nat.le_of_lt h1) (BBpow_pos i)
theorem c114 (z x y:Sl) (X Y:Nat) (w:World) (hz:St w z) (hx:Rd w x X) (hy:Rd w y Y) (hl:x.l+y.l≤z.l) (hsz:z.l≤8796093022208) (dx:Dis z (x.l+y.l) x) (dy:Dis z (x.l+y.l) y) :
  Calls Tryz.prog 114 #[z.v,x.v,y.v] w fun e w'=>e=.returned undef∧Sg w' z.b z.o (x.l+y.l) (X*Y)∧Chg w w' (inR z.b z.o (z.o+(x.l+y.l))):=by
 have hzc:=hz.lc
 have hzm:=hz.cm
 refine (F114.call z.a z.l z.c x.a x.l x.c y.a y.l y.c w (fun v w'=>v=undef∧Sg w' z.b z.o (x.l+y.l) (X*Y)∧Chg w w' (inR z.b z.o (z.o+(x.l+y.l)))) fun B=>⟨by unfold inI64; omega,0,x.l+y.l,rfl,by omega,Nat.zero_le _,by omega,?_⟩).mono
  fun e w' ⟨v,h1,h2,h3⟩=>⟨by rw [h1,h2],h3⟩
 obtain ⟨w1,r1,r2,r3⟩:=clearW 45 Tryz.underlying45 (z.sub 0 (x.l+y.l)) w (hz.sub_wt 0 _ (Nat.zero_le _) (by omega))
 have r2:Sg w1 z.b (z.o+0) (x.l+y.l-0) 0:=r2
 have r3:Chg w w1 (inR z.b (z.o+0) (z.o+0+(x.l+y.l-0))):=r3
 rw [Nat.add_zero,Nat.sub_zero] at r2 r3
 refine ⟨w1,r1,fun B1=>?_⟩
 rw [F114.q2]
 refine W_for (σ:=Nat) (fun i=>[(0,z.v),(1,x.v),(15,y.v),(16,.int .i64 (y.l:Int)),(17,.int .i64 (i:Int))])
  (fun i wr=>i≤y.l∧Sg wr z.b z.o (x.l+i) (X*(Y%BB^i))∧Sg wr z.b (z.o+(x.l+i)) (y.l-i) 0∧Chg w wr (inR z.b z.o (z.o+(x.l+y.l)))) (fun i=>y.l-i) 0 ⟨rfl,rfl,rfl,rfl,rfl,trivial⟩
  ⟨Nat.zero_le _,by rw [Nat.pow_zero,Nat.mod_one,Nat.mul_zero]; exact r2.le (by omega),?_,r3⟩ ?_
 ·have:=r2.hi (x.l+0) (y.l-0) (by omega)
  rw [Nat.zero_div] at this; exact this
 rintro i B wr ⟨hi,hs1,hs2,hch⟩
 have hP:X*(Y%BB^i)<BB^(x.l+i):=mod_lt_mul hx.lt
 refine F114.t1 z.a z.l z.c x.a x.l x.c y.a y.l y.c y.l i ⟨rfl,rfl,rfl,rfl,rfl,trivial⟩ fun B2=>bc_intro (fun hb=>?_) (fun hb B3=>?_)
 ·have hlt:i<y.l:=by have:=dT hb; omega
  have hd:=dg_lt' Y i
  have next:∀ (w2:World) (B4:Nat→Value) (ds:List Deferred),ds=[]→Sg w2 z.b z.o (x.l+(i+1)) (X*(Y%BB^(i+1)))→Sg w2 z.b (z.o+(x.l+(i+1))) (y.l-(i+1)) 0→Chg w w2 (inR z.b z.o (z.o+(x.l+y.l))) →
    W Tryz.prog 48 F114.p3 (E [(0,z.v),(1,x.v),(15,y.v),(16,.int .i64 (y.l:Int)),(17,.int .i64 (i:Int))] B4 ds) w2 fun x' e' w'=>match x' with
     | .normal=>∃ s':Nat,agree e' [(0,z.v),(1,x.v),(15,y.v),(16,.int .i64 (y.l:Int)),(17,.int .i64 (s':Int))]∧e'.defers=[]∧(s'≤y.l∧Sg w' z.b z.o (x.l+s') (X*(Y%BB^s'))∧Sg w' z.b (z.o+(x.l+s')) (y.l-s') 0∧Chg w w' (inR z.b z.o (z.o+(x.l+y.l))))∧y.l-s'<y.l-i
     | .exit j=>match Nat.beq j 0 with
      | true=>retK Tryz.prog [] (fun v w'=>v=undef∧Sg w' z.b z.o (x.l+y.l) (X*Y)∧Chg w w' (inR z.b z.o (z.o+(x.l+y.l)))) .normal e' w'
      | false=>retK Tryz.prog [] (fun v w'=>v=undef∧Sg w' z.b z.o (x.l+y.l) (X*Y)∧Chg w w' (inR z.b z.o (z.o+(x.l+y.l)))) (.exit j) e' w'
     | x'=>retK Tryz.prog [] (fun v w'=>v=undef∧Sg w' z.b z.o (x.l+y.l) (X*Y)∧Chg w w' (inR z.b z.o (z.o+(x.l+y.l)))) x' e' w':=by
   intro w2 B4 ds hds n1 n2 n3
   subst hds
   exact F114.t3 z.a z.l z.c x.a x.l x.c y.a y.l y.c y.l i ⟨rfl,rfl,rfl,rfl,rfl,trivial⟩ fun B5=>⟨by unfold inI64; omega,fun B6=>⟨i+1,⟨rfl,rfl,rfl,rfl,rfl,trivial⟩,rfl,⟨hlt,n1,n2,n3⟩,by omega⟩⟩
  refine rdC (k:=i) (hy.at_ (by omega)) rfl hlt (chgAt hch hy hlt (dy.not (Nat.le_refl _) (Nat.le_refl _) hlt)) (bc_intro (fun hb=>?_) (fun hb B3=>?_))
  ·have ea:((x.l:Int)+(i:Int))=((x.l+i:Nat):Int):=by omega
   have eb:((i:Int)+(x.l:Int))=((i+x.l:Nat):Int):=by omega
   rw [ea,eb]
   refine ⟨by unfold inI64; omega,by unfold inI64; omega,i,i+x.l,rfl,rfl,by omega,by omega,by unfold inI64; omega,i,i+x.l,rfl,rfl,by omega,by omega,?_⟩
   have cd:Chg wr wr.drew none2:=Chg.drew0 wr _
   have hch1:=hch.drew
   have hz1:=hch1.st hz
   have hx1:Rd wr.drew x X:=hch1.rd hx fun j hj=>dx.not (Nat.le_refl _) (Nat.le_refl _) hj
   have elen:(z.sub i (i+x.l)).l=x.l:=by show i+x.l-i=_; omega
   have hr1:Rd wr.drew (z.sub i (i+x.l)) (X*(Y%BB^i)/BB^i):=by
    refine ⟨fun h0=>at_sub hz1.at_ (by omega) h0,?_,?_⟩
    ·rw [elen]; exact cd.sg (hs1.hi i x.l (by omega)) fun _ _ h=>h
    ·rw [elen,Nat.div_lt_iff_lt_mul (BBpow_pos i),←Nat.pow_add]; exact hP
   refine Vec.pass (c146 (z.sub i (i+x.l)) (z.sub i (i+x.l)) x (X*(Y%BB^i)/BB^i) X (dg Y i) 0 wr.drew (hz1.sub_wt _ _ (by omega) (by omega)) hr1 hx1 rfl elen.symm (.inr (.inr (.inl (Nat.le_refl _)))) ?_ hd (by omega)) ?_
   ·unfold Ov; unfold Dis at dx
    show x.l=0∨x.b≠z.b∨z.o+i≤x.o∨x.o+x.l≤z.o+i
    omega
   rintro c Z w2 ⟨t1,t2⟩ hZ hsg hc2
   rw [elen] at t1 hZ hsg hc2
   have hsg:Sg w2 z.b (z.o+i) x.l Z:=hsg
   have hc2:Chg wr.drew w2 (inR z.b (z.o+i) (z.o+i+x.l)):=hc2
   have hz2:=hc2.st hz1
   have hp:=hz2.pl (by omega)
   refine ⟨_,rfl,wtC (k:=x.l+i) hz2.wt rfl (by omega) fun B3=>?_⟩
   have hc3:Chg w2 (w2.setCell ⟨z.b,z.o+(x.l+i),none⟩ (.int .u64 (c:Int))) (inR z.b (z.o+(x.l+i)) (z.o+(x.l+i)+1)):=Chg.setCell hp _ ⟨rfl,by omega,by omega⟩
   have hmid:Sg (w2.setCell ⟨z.b,z.o+(x.l+i),none⟩ (.int .u64 (c:Int))) z.b (z.o+i) (x.l+1) (Z+BB^x.l*c):=by
    have:=hsg.step hZ (d:=c) (w2:=w2) (by rw [BB_eq]; exact t2) rfl hp (by rw [show z.o+i+x.l=z.o+(x.l+i) by omega]; exact (hz2.wr (x.l+i) (by omega)).1)
    rw [show z.o+i+x.l=z.o+(x.l+i) by omega] at this; exact this
   have hlow:Sg (w2.setCell ⟨z.b,z.o+(x.l+i),none⟩ (.int .u64 (c:Int))) z.b z.o i (X*(Y%BB^i)%BB^i):=by
    refine hc3.sg (hc2.sg (cd.sg ((hs1.le (by omega)).mod) fun _ _ h=>h) fun j hj hm=>?_) fun j hj hm=>?_
    ·have:=hm.2.1; omega
    ·have:=hm.2.1; omega
   have hval:X*(Y%BB^i)%BB^i+BB^i*(Z+BB^x.l*c)=X*(Y%BB^(i+1)):=by
    rw [t1,mod_succ,Nat.mul_add,Nat.mul_add,Nat.mul_add,Nat.mul_zero,Nat.add_zero]
    have h1:=Nat.mod_add_div (X*(Y%BB^i)) (BB^i)
    have h2:BB^i*(X*dg Y i)=X*(BB^i*dg Y i):=Nat.mul_left_comm ..
    omega
   have hj:=Sg.join hlow hmid (Nat.mod_lt _ (BBpow_pos i))
   rw [hval,show i+(x.l+1)=x.l+(i+1) by omega] at hj
   refine next _ B3 _ rfl hj ?_ ?_
   ·have h1:=hs2.hi 1 (y.l-(i+1)) (by omega)
    rw [Nat.zero_div,show z.o+(x.l+i)+1=z.o+(x.l+(i+1)) by omega] at h1
    exact hc3.sg (hc2.sg (cd.sg h1 fun _ _ h=>h) fun j hj hm=>by have:=hm.2.2; omega) fun j hj hm=>by have:=hm.2.2; omega
   ·exact hch1.trans' ((hc2.mono fun b j _ hm=>⟨hm.1,by have:=hm.2.1; omega,by have:=hm.2.2; omega⟩).trans' (hc3.mono fun b j _ hm=>⟨hm.1,by have:=hm.2.1; omega,by have:=hm.2.2; omega⟩))
  ·have hd0:dg Y i=0:=by have:=neE hb; omega
   have hm:Y%BB^(i+1)=Y%BB^i:=by rw [mod_succ,hd0,Nat.mul_zero,Nat.add_zero]
   refine next wr B3 _ rfl ?_ ?_ hch
   ·rw [hm,show x.l+(i+1)=(x.l+i)+1 by omega]
    have h0:=hs2.le (show 1≤y.l-i by omega)
    have:=Sg.join hs1 h0 hP
    rw [Nat.mul_zero,Nat.add_zero] at this; exact this
   ·have h1:=hs2.hi 1 (y.l-(i+1)) (by omega)
    rw [Nat.zero_div,show z.o+(x.l+i)+1=z.o+(x.l+(i+1)) by omega] at h1
    exact h1
 ·have hk:i=y.l:=by have:=dF hb; omega
  subst hk
  rw [Nat.mod_eq_of_lt hy.lt] at hs1
  exact ret0 rfl ⟨rfl,hs1,hch⟩
end Go.Proofs.YtlkjiiibmfpbcaaGreatDoor
