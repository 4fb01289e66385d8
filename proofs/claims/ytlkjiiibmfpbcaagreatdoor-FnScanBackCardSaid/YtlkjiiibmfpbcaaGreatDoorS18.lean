/- Verification conditions, printed by wip/gen/gen.py and shrink.py; each is held against vc by the kernel. No condition. -/
import Derived.Test.YtlkjiiibmfpbcaaGreatDoorS05
import Derived.Test.YtlkjiiibmfpbcaaGreatDoorS17
namespace Go.Proofs.YtlkjiiibmfpbcaaGreatDoor
open Go
set_option maxRecDepth 100000
set_option linter.unusedVariables false
namespace F150
noncomputable def body:Code:=bodyOf Tryz.f150
def kt:List (Nat × List Nat):=[(8,[0,2,3,8,9,10,11,12,13,14]),(9,[0,2,3,8,9,10,11,12,13,14]),(10,[0,2,3,8,9,10,11,12,13,14]),(17,[0,2,3,8,9,10,11,12,14,15,16,17,18,19,20]),(23,[0,2,3,8,9,10,11,12,14,15,16,17,18,19,20]),(24,[0,2,3,8,9,10,11,12,14,15]),(28,[0,2,3,8,9,10,11,12,14,15,21]),(33,[0,2,3,8,9,10,11,12,14,15]),(34,[0,2,3,8,9,10,11,12,14,15])]
noncomputable def p1:Code:=sb 10 1020 body
noncomputable def p2:Code:=sb 8 255 body
noncomputable def p3:Code:=sb 12 4083 body
noncomputable def p4:Code:=sb 13 8164 body
noncomputable def p5:Code:=sb 12 4082 body
noncomputable def p6:Code:=sb 15 32659 body
noncomputable def p7:Code:=sb 24 16721276 body
noncomputable def p8:Code:=sb 22 4180319 body
noncomputable def p9:Code:=sb 18 261279 body
noncomputable def p10:Code:=sb 30 1070161711 body
noncomputable def p11:Code:=sb 20 1045119 body
noncomputable def p12:Code:=sb 24 16721899 body
theorem q2:p2=.block 0 (.loop p1):=by kernel_rfl
theorem q5:p5=.block 1 p4:=by kernel_rfl
theorem q8:p8=.block 2 (.loop p7):=by kernel_rfl
variable (A0:Option Addr) (N0 C0:Nat) (D1 A2:Option Addr) (N2 C2:Nat) (A3:Option Addr) (N3 C3:Nat) (I8 I9:Int) (A10:Option Addr) (N10 C10:Nat) (I11 I12 I13 I14 I15 I16 I21 I17 I18 I19 I20:Int)
abbrev l0:List (Nat × Value):=[eS 0 A0 N0 C0,eP 1 D1,eS 2 A2 N2 C2,eS 3 A3 N3 C3]
def v0:VP:=fun B ds w K=>inI64 ((N2:Int)-(N3:Int))∧Cl 103 #[(.pointer D1)] w fun r1 w2=>∃ x3,r1=.returned (.int .i64 x3)∧inI64 ((N3:Int)+1)∧Cl 104 #[(.pointer D1),(.int .i64 ((N3:Int)+1))] w2 fun r4 w5=>∃ x6a,∃ x6l,∃ x6c,r4=.returned (.slice x6a x6l x6c)∧inI64 ((N3:Int)-1)∧nc A3 fun b8 o9=>∃ k7:Nat,((N3:Int)-1)=(k7:Int)∧k7<N3∧∃ x10,w5.cell? ⟨b8,o9+k7,none⟩=some (.int .u64 x10)∧Cl 160 #[(.int .u64 x10)] w5 fun r11 w12=>∃ x13,r11=.returned (.int .u64 x13)∧Wd 201 p2 [eS 0 A0 N0 C0,eS 2 A2 N2 C2,eS 3 A3 N3 C3,eI 8 (N3:Int),eI 9 ((N2:Int)-(N3:Int)),eS 10 x6a x6l x6c,eU 11 x10,eU 12 x13,eU 13 0,eI 14 ((N2:Int)-(N3:Int))] (⟨.fn (.func 102) #[],#[(.pointer D1),(.int .i64 x3)]⟩ :: ds) w12 K
theorem t0:VZ 201 body (l0 A0 N0 C0 D1 A2 N2 C2 A3 N3 C3) (v0 A0 N0 C0 D1 A2 N2 C2 A3 N3 C3):=tz kt [] fun B ds w K=>by kernel_rfl
theorem call:VCl 150 [] #[.slice A0 N0 C0,.pointer D1,.slice A2 N2 C2,.slice A3 N3 C3] (v0 A0 N0 C0 D1 A2 N2 C2 A3 N3 C3):=cz Tryz.func150 (by kernel_rfl) Tryz.ntmps150 Tryz.results150 (by kernel_rfl) (t0 A0 N0 C0 D1 A2 N2 C2 A3 N3 C3)
abbrev l1:List (Nat × Value):=[eS 0 A0 N0 C0,eS 2 A2 N2 C2,eS 3 A3 N3 C3,eI 8 I8,eI 9 I9,eS 10 A10 N10 C10,eU 11 I11,eU 12 I12,eU 13 I13,eI 14 I14]
def v1:VP:=fun B ds w K=>bc (decide (I14≥(0:Int))) (Wd 201 p5 [eS 0 A0 N0 C0,eS 2 A2 N2 C2,eS 3 A3 N3 C3,eI 8 I8,eI 9 I9,eS 10 A10 N10 C10,eU 11 I11,eU 12 I12,eU 13 I13,eI 14 I14] ds w (thenW Tryz.prog 201 p3 K)) (Kd K (.exit 0) [eS 0 A0 N0 C0,eS 2 A2 N2 C2,eS 3 A3 N3 C3,eI 8 I8,eI 9 I9,eS 10 A10 N10 C10,eU 11 I11,eU 12 I12,eU 13 I13,eI 14 I14] ds w)
theorem t1:VT 201 p1 (l1 A0 N0 C0 A2 N2 C2 A3 N3 C3 I8 I9 A10 N10 C10 I11 I12 I13 I14) (v1 A0 N0 C0 A2 N2 C2 A3 N3 C3 I8 I9 A10 N10 C10 I11 I12 I13 I14):=tw kt [0,2,3,8,9,10,11,12,13,14] fun B ds w K=>by kernel_rfl
abbrev l3:List (Nat × Value):=[eS 0 A0 N0 C0,eS 2 A2 N2 C2,eS 3 A3 N3 C3,eI 8 I8,eI 9 I9,eS 10 A10 N10 C10,eU 11 I11,eU 12 I12,eU 13 I13,eI 14 I14]
def v3:VP:=fun B ds w K=>inI64 (I14-1)∧Kd K .normal [eS 0 A0 N0 C0,eS 2 A2 N2 C2,eS 3 A3 N3 C3,eI 8 I8,eI 9 I9,eS 10 A10 N10 C10,eU 11 I11,eU 12 I12,eU 13 I13,eI 14 (I14-1)] ds w
theorem t3:VT 201 p3 (l3 A0 N0 C0 A2 N2 C2 A3 N3 C3 I8 I9 A10 N10 C10 I11 I12 I13 I14) (v3 A0 N0 C0 A2 N2 C2 A3 N3 C3 I8 I9 A10 N10 C10 I11 I12 I13 I14):=tw kt [0,2,3,8,9,10,11,12,13,14] fun B ds w K=>by kernel_rfl
abbrev l4:List (Nat × Value):=[eS 0 A0 N0 C0,eS 2 A2 N2 C2,eS 3 A3 N3 C3,eI 8 I8,eI 9 I9,eS 10 A10 N10 C10,eU 11 I11,eU 12 I12,eU 13 I13,eI 14 I14]
def v4:VP:=fun B ds w K=>bc (I13 != (I11:Int)) (inI64 (I14+I8)∧inI64 ((I14+I8)-1)∧nc A2 fun b2 o3=>∃ k1:Nat,((I14+I8)-1)=(k1:Int)∧k1<N2∧∃ x4,w.cell? ⟨b2,o3+k1,none⟩=some (.int .u64 x4)∧Cl 161 #[(.int .u64 I13),(.int .u64 x4),(.int .u64 I11),(.int .u64 I12)] w fun r5 w6=>∃ x7,True∧∃ x8,True∧r5=.returned (.tuple #[(.int .u64 x7),(.int .u64 x8)])∧inI64 (I8-2)∧nc A3 fun b10 o11=>∃ k9:Nat,(I8-2)=(k9:Int)∧k9<N3∧∃ x12,w6.cell? ⟨b10,o11+k9,none⟩=some (.int .u64 x12)∧Cl 113 #[(.int .u64 x7),(.int .u64 x12)] w6 fun r13 w14=>∃ x15,True∧∃ x16,True∧r13=.returned (.tuple #[(.int .u64 x15),(.int .u64 x16)])∧inI64 (I14+I8)∧inI64 ((I14+I8)-2)∧nc A2 fun b18 o19=>∃ k17:Nat,((I14+I8)-2)=(k17:Int)∧k17<N2∧∃ x20,w14.cell? ⟨b18,o19+k17,none⟩=some (.int .u64 x20)∧Wd 201 p8 [eS 0 A0 N0 C0,eS 2 A2 N2 C2,eS 3 A3 N3 C3,eI 8 I8,eI 9 I9,eS 10 A10 N10 C10,eU 11 I11,eU 12 I12,eI 14 I14,eU 15 x7,eU 16 x8,eU 17 x12,eU 18 x15,eU 19 x16,eU 20 x20] ds w14 (thenW Tryz.prog 201 p6 K)) (Wd 201 p6 [eS 0 A0 N0 C0,eS 2 A2 N2 C2,eS 3 A3 N3 C3,eI 8 I8,eI 9 I9,eS 10 A10 N10 C10,eU 11 I11,eU 12 I12,eI 14 I14,eU 15 18446744073709551615] ds w K)
theorem t4:VT 201 p4 (l4 A0 N0 C0 A2 N2 C2 A3 N3 C3 I8 I9 A10 N10 C10 I11 I12 I13 I14) (v4 A0 N0 C0 A2 N2 C2 A3 N3 C3 I8 I9 A10 N10 C10 I11 I12 I13 I14):=tw kt [0,2,3,8,9,10,11,12,13,14] fun B ds w K=>by kernel_rfl
abbrev l6:List (Nat × Value):=[eS 0 A0 N0 C0,eS 2 A2 N2 C2,eS 3 A3 N3 C3,eI 8 I8,eI 9 I9,eS 10 A10 N10 C10,eU 11 I11,eU 12 I12,eI 14 I14,eU 15 I15]
def v6:VP:=fun B ds w K=>∃ i1 h2:Nat,0=(i1:Int)∧I8=(h2:Int)∧i1≤h2∧h2≤C10∧Cl 91 #[(.slice (shifted A10 i1 C10 1) (h2-i1) (C10-i1)),(.slice A3 N3 C3),(.int .u64 I15),(.int .u64 0)] w fun r4 w5=>∃ x6,r4=.returned (.int .u64 x6)∧nc A10 fun b8 o9=>∃ k7:Nat,I8=(k7:Int)∧k7<N10∧(∃ u10,w5.cell? ⟨b8,o9+k7,none⟩=some u10)∧w5.frozen? ⟨b8,o9+k7,none⟩=false∧inI64 (I14+(N10:Int))∧bc (decide ((I14+(N10:Int))>(N2:Int))) (nc A10 fun b12 o13=>∃ k11:Nat,I8=(k11:Int)∧k11<N10∧∃ x14,World.cell? (w5.setCell ⟨b8,o9+k7,none⟩ (.int .u64 x6)) ⟨b12,o13+k11,none⟩=some (.int .u64 x14)∧bc (x14==0) (inI64 ((N10:Int)-1)∧Wd 201 p9 [eS 0 A0 N0 C0,eS 2 A2 N2 C2,eS 3 A3 N3 C3,eI 8 I8,eI 9 I9,eS 10 A10 N10 C10,eU 11 I11,eU 12 I12,eI 14 I14,eU 15 I15,eI 21 ((N10:Int)-1)] ds (w5.setCell ⟨b8,o9+k7,none⟩ (.int .u64 x6)) K) (Wd 201 p9 [eS 0 A0 N0 C0,eS 2 A2 N2 C2,eS 3 A3 N3 C3,eI 8 I8,eI 9 I9,eS 10 A10 N10 C10,eU 11 I11,eU 12 I12,eI 14 I14,eU 15 I15,eI 21 (N10:Int)] ds (w5.setCell ⟨b8,o9+k7,none⟩ (.int .u64 x6)) K)) (Wd 201 p9 [eS 0 A0 N0 C0,eS 2 A2 N2 C2,eS 3 A3 N3 C3,eI 8 I8,eI 9 I9,eS 10 A10 N10 C10,eU 11 I11,eU 12 I12,eI 14 I14,eU 15 I15,eI 21 (N10:Int)] ds (w5.setCell ⟨b8,o9+k7,none⟩ (.int .u64 x6)) K)
theorem t6:VT 201 p6 (l6 A0 N0 C0 A2 N2 C2 A3 N3 C3 I8 I9 A10 N10 C10 I11 I12 I14 I15) (v6 A0 N0 C0 A2 N2 C2 A3 N3 C3 I8 I9 A10 N10 C10 I11 I12 I14 I15):=tw kt [0,2,3,8,9,10,11,12,13,14] fun B ds w K=>by kernel_rfl
abbrev l7:List (Nat × Value):=[eS 0 A0 N0 C0,eS 2 A2 N2 C2,eS 3 A3 N3 C3,eI 8 I8,eI 9 I9,eS 10 A10 N10 C10,eU 11 I11,eU 12 I12,eI 14 I14,eU 15 I15,eU 16 I16,eU 17 I17,eU 18 I18,eU 19 I19,eU 20 I20]
def v7:VP:=fun B ds w K=>Cl 170 #[(.int .u64 I18),(.int .u64 I19),(.int .u64 I16),(.int .u64 I20)] w fun r1 w2=>∃ x3,r1=.returned (.bool x3)∧bc x3 (bc (decide ((IntKind.wrap .u64 (I16+I11))<(I11:Int))) (Kd K (.exit 2) [eS 0 A0 N0 C0,eS 2 A2 N2 C2,eS 3 A3 N3 C3,eI 8 I8,eI 9 I9,eS 10 A10 N10 C10,eU 11 I11,eU 12 I12,eI 14 I14,eU 15 (IntKind.wrap .u64 (I15-1)),eU 16 (IntKind.wrap .u64 (I16+I11)),eU 17 I17,eU 18 I18,eU 19 I19,eU 20 I20] ds w2) (bc (decide (I17>(I19:Int))) (Wd 201 p10 [eS 0 A0 N0 C0,eS 2 A2 N2 C2,eS 3 A3 N3 C3,eI 8 I8,eI 9 I9,eS 10 A10 N10 C10,eU 11 I11,eU 12 I12,eI 14 I14,eU 15 (IntKind.wrap .u64 (I15-1)),eU 16 (IntKind.wrap .u64 (I16+I11)),eU 17 I17,eU 18 (IntKind.wrap .u64 (I18-1)),eU 19 I19,eU 20 I20] ds w2 (blockK 3 K)) (Wd 201 p10 [eS 0 A0 N0 C0,eS 2 A2 N2 C2,eS 3 A3 N3 C3,eI 8 I8,eI 9 I9,eS 10 A10 N10 C10,eU 11 I11,eU 12 I12,eI 14 I14,eU 15 (IntKind.wrap .u64 (I15-1)),eU 16 (IntKind.wrap .u64 (I16+I11)),eU 17 I17,eU 18 I18,eU 19 I19,eU 20 I20] ds w2 (blockK 3 K)))) (Kd K (.exit 2) [eS 0 A0 N0 C0,eS 2 A2 N2 C2,eS 3 A3 N3 C3,eI 8 I8,eI 9 I9,eS 10 A10 N10 C10,eU 11 I11,eU 12 I12,eI 14 I14,eU 15 I15,eU 16 I16,eU 17 I17,eU 18 I18,eU 19 I19,eU 20 I20] ds w2)
theorem t7:VT 201 p7 (l7 A0 N0 C0 A2 N2 C2 A3 N3 C3 I8 I9 A10 N10 C10 I11 I12 I14 I15 I16 I17 I18 I19 I20) (v7 A0 N0 C0 A2 N2 C2 A3 N3 C3 I8 I9 A10 N10 C10 I11 I12 I14 I15 I16 I17 I18 I19 I20):=tw kt [0,2,3,8,9,10,11,12,14,15,16,17,18,19,20] fun B ds w K=>by kernel_rfl
abbrev l9:List (Nat × Value):=[eS 0 A0 N0 C0,eS 2 A2 N2 C2,eS 3 A3 N3 C3,eI 8 I8,eI 9 I9,eS 10 A10 N10 C10,eU 11 I11,eU 12 I12,eI 14 I14,eU 15 I15,eI 21 I21]
def v9:VP:=fun B ds w K=>inI64 (I14+I21)∧∃ i1 h2:Nat,I14=(i1:Int)∧(I14+I21)=(h2:Int)∧i1≤h2∧h2≤C2∧inI64 (I14+I21)∧∃ i4 h5:Nat,I14=(i4:Int)∧(I14+I21)=(h5:Int)∧i4≤h5∧h5≤C2∧∃ h8:Nat,I21=(h8:Int)∧h8≤C10∧Cl 82 #[(.slice (shifted A2 i1 C2 1) (h2-i1) (C2-i1)),(.slice (shifted A2 i4 C2 1) (h5-i4) (C2-i4)),(.slice A10 h8 C10)] w.drew fun r10 w11=>∃ x12,r10=.returned (.int .u64 x12)∧bc (x12 != 0) (inI64 (I14+I8)∧∃ i13 h14:Nat,I14=(i13:Int)∧(I14+I8)=(h14:Int)∧i13≤h14∧h14≤C2∧inI64 (I14+I8)∧∃ i16 h17:Nat,I14=(i16:Int)∧(I14+I8)=(h17:Int)∧i16≤h17∧h17≤C2∧Cl 138 #[(.slice (shifted A2 i13 C2 1) (h14-i13) (C2-i13)),(.slice (shifted A2 i16 C2 1) (h17-i16) (C2-i16)),(.slice A3 N3 C3)] w11.drew fun r19 w20=>∃ x21,r19=.returned (.int .u64 x21)∧bc (decide (I8<(I21:Int))) (inI64 (I14+I8)∧nc A2 fun b23 o24=>∃ k22:Nat,(I14+I8)=(k22:Int)∧k22<N2∧∃ x25,w20.cell? ⟨b23,o24+k22,none⟩=some (.int .u64 x25)∧nc A2 fun b27 o28=>∃ k26:Nat,(I14+I8)=(k26:Int)∧k26<N2∧(∃ u29,w20.cell? ⟨b27,o28+k26,none⟩=some u29)∧w20.frozen? ⟨b27,o28+k26,none⟩=false∧Wd 201 p12 [eS 0 A0 N0 C0,eS 2 A2 N2 C2,eS 3 A3 N3 C3,eI 8 I8,eI 9 I9,eS 10 A10 N10 C10,eU 11 I11,eU 12 I12,eI 14 I14,eU 15 I15] ds (w20.setCell ⟨b27,o28+k26,none⟩ (.int .u64 (IntKind.wrap .u64 (x25+x21)))) (thenW Tryz.prog 201 p11 K)) (Wd 201 p12 [eS 0 A0 N0 C0,eS 2 A2 N2 C2,eS 3 A3 N3 C3,eI 8 I8,eI 9 I9,eS 10 A10 N10 C10,eU 11 I11,eU 12 I12,eI 14 I14,eU 15 I15] ds w20 (thenW Tryz.prog 201 p11 K))) (Wd 201 p11 [eS 0 A0 N0 C0,eS 2 A2 N2 C2,eS 3 A3 N3 C3,eI 8 I8,eI 9 I9,eS 10 A10 N10 C10,eU 11 I11,eU 12 I12,eI 14 I14,eU 15 I15] ds w11 K)
theorem t9:VT 201 p9 (l9 A0 N0 C0 A2 N2 C2 A3 N3 C3 I8 I9 A10 N10 C10 I11 I12 I14 I15 I21) (v9 A0 N0 C0 A2 N2 C2 A3 N3 C3 I8 I9 A10 N10 C10 I11 I12 I14 I15 I21):=tw kt [0,2,3,8,9,10,11,12,13,14] fun B ds w K=>by kernel_rfl
abbrev l10:List (Nat × Value):=[eS 0 A0 N0 C0,eS 2 A2 N2 C2,eS 3 A3 N3 C3,eI 8 I8,eI 9 I9,eS 10 A10 N10 C10,eU 11 I11,eU 12 I12,eI 14 I14,eU 15 I15,eU 16 I16,eU 17 I17,eU 18 I18,eU 19 I19,eU 20 I20]
def v10:VP:=fun B ds w K=>Kd K .normal [eS 0 A0 N0 C0,eS 2 A2 N2 C2,eS 3 A3 N3 C3,eI 8 I8,eI 9 I9,eS 10 A10 N10 C10,eU 11 I11,eU 12 I12,eI 14 I14,eU 15 I15,eU 16 I16,eU 17 I17,eU 18 I18,eU 19 (IntKind.wrap .u64 (I19-I17)),eU 20 I20] ds w
theorem t10:VT 201 p10 (l10 A0 N0 C0 A2 N2 C2 A3 N3 C3 I8 I9 A10 N10 C10 I11 I12 I14 I15 I16 I17 I18 I19 I20) (v10 A0 N0 C0 A2 N2 C2 A3 N3 C3 I8 I9 A10 N10 C10 I11 I12 I14 I15 I16 I17 I18 I19 I20):=tw kt [0,2,3,8,9,10,11,12,14,15,16,17,18,19,20] fun B ds w K=>by kernel_rfl
abbrev l11:List (Nat × Value):=[eS 0 A0 N0 C0,eS 2 A2 N2 C2,eS 3 A3 N3 C3,eI 8 I8,eI 9 I9,eS 10 A10 N10 C10,eU 11 I11,eU 12 I12,eI 14 I14,eU 15 I15]
def v11:VP:=fun B ds w K=>inI64 (I14+I8)∧inI64 ((I14+I8)-1)∧nc A2 fun b2 o3=>∃ k1:Nat,((I14+I8)-1)=(k1:Int)∧k1<N2∧∃ x4,w.cell? ⟨b2,o3+k1,none⟩=some (.int .u64 x4)∧bc (I14==(I9:Int)) (bc (I9==(N0:Int)) (bc (I15==0) (Kd K (.exit 1) [eS 0 A0 N0 C0,eS 2 A2 N2 C2,eS 3 A3 N3 C3,eI 8 I8,eI 9 I9,eS 10 A10 N10 C10,eU 11 I11,eU 12 I12,eU 13 x4,eI 14 I14] ds w) (nc A0 fun b7 o8=>∃ k6:Nat,I14=(k6:Int)∧k6<N0∧(∃ u9,w.cell? ⟨b7,o8+k6,none⟩=some u9)∧w.frozen? ⟨b7,o8+k6,none⟩=false∧Kd K .normal [eS 0 A0 N0 C0,eS 2 A2 N2 C2,eS 3 A3 N3 C3,eI 8 I8,eI 9 I9,eS 10 A10 N10 C10,eU 11 I11,eU 12 I12,eU 13 x4,eI 14 I14] ds (w.setCell ⟨b7,o8+k6,none⟩ (.int .u64 I15)))) (nc A0 fun b12 o13=>∃ k11:Nat,I14=(k11:Int)∧k11<N0∧(∃ u14,w.cell? ⟨b12,o13+k11,none⟩=some u14)∧w.frozen? ⟨b12,o13+k11,none⟩=false∧Kd K .normal [eS 0 A0 N0 C0,eS 2 A2 N2 C2,eS 3 A3 N3 C3,eI 8 I8,eI 9 I9,eS 10 A10 N10 C10,eU 11 I11,eU 12 I12,eU 13 x4,eI 14 I14] ds (w.setCell ⟨b12,o13+k11,none⟩ (.int .u64 I15)))) (nc A0 fun b17 o18=>∃ k16:Nat,I14=(k16:Int)∧k16<N0∧(∃ u19,w.cell? ⟨b17,o18+k16,none⟩=some u19)∧w.frozen? ⟨b17,o18+k16,none⟩=false∧Kd K .normal [eS 0 A0 N0 C0,eS 2 A2 N2 C2,eS 3 A3 N3 C3,eI 8 I8,eI 9 I9,eS 10 A10 N10 C10,eU 11 I11,eU 12 I12,eU 13 x4,eI 14 I14] ds (w.setCell ⟨b17,o18+k16,none⟩ (.int .u64 I15)))
theorem t11:VT 201 p11 (l11 A0 N0 C0 A2 N2 C2 A3 N3 C3 I8 I9 A10 N10 C10 I11 I12 I14 I15) (v11 A0 N0 C0 A2 N2 C2 A3 N3 C3 I8 I9 A10 N10 C10 I11 I12 I14 I15):=tw kt [0,2,3,8,9,10,11,12,13,14] fun B ds w K=>by kernel_rfl
abbrev l12:List (Nat × Value):=[eS 0 A0 N0 C0,eS 2 A2 N2 C2,eS 3 A3 N3 C3,eI 8 I8,eI 9 I9,eS 10 A10 N10 C10,eU 11 I11,eU 12 I12,eI 14 I14,eU 15 I15]
def v12:VP:=fun B ds w K=>Kd K .normal [eS 0 A0 N0 C0,eS 2 A2 N2 C2,eS 3 A3 N3 C3,eI 8 I8,eI 9 I9,eS 10 A10 N10 C10,eU 11 I11,eU 12 I12,eI 14 I14,eU 15 (IntKind.wrap .u64 (I15-1))] ds w
theorem t12:VT 201 p12 (l12 A0 N0 C0 A2 N2 C2 A3 N3 C3 I8 I9 A10 N10 C10 I11 I12 I14 I15) (v12 A0 N0 C0 A2 N2 C2 A3 N3 C3 I8 I9 A10 N10 C10 I11 I12 I14 I15):=tw kt [0,2,3,8,9,10,11,12,14,15] fun B ds w K=>by kernel_rfl
end F150
namespace F70
noncomputable def body:Code:=bodyOf Tryz.f70
def kt:List (Nat × List Nat):=[(8,[0,7])]
noncomputable def p1:Code:=sb 3 7 body
variable (D0 D1:Option Addr) (L7:Bool) (D2:Option Addr)
abbrev l0:List (Nat × Value):=[eP 0 D0,eP 1 D1,eP 2 D2]
def v0:VP:=fun B ds w K=>nc D1 fun b1 o2=>∃ x3,w.cell? ⟨b1,o2+0,none⟩=some (.bool x3)∧nc D1 fun b4 o5=>∃ x6,w.drew.cell? ⟨b4,o5+0,none⟩=some (.bool x6)∧nc D2 fun b7 o8=>∃ x9,w.drew.cell? ⟨b7,o8+0,none⟩=some (.bool x9)∧bc (x6==x9) (nc D0 fun b10 o11=>∃ x12a,∃ x12l,∃ x12c,w.drew.drew.cell? ⟨b10,o11+1,none⟩=some (.slice x12a x12l x12c)∧nc D1 fun b13 o14=>∃ x15a,∃ x15l,∃ x15c,w.drew.drew.cell? ⟨b13,o14+1,none⟩=some (.slice x15a x15l x15c)∧nc D2 fun b16 o17=>∃ x18a,∃ x18l,∃ x18c,w.drew.drew.cell? ⟨b16,o17+1,none⟩=some (.slice x18a x18l x18c)∧Cl 101 #[(.slice x12a x12l x12c),(.slice x15a x15l x15c),(.slice x18a x18l x18c)] w.drew.drew fun r19 w20=>∃ x21a,∃ x21l,∃ x21c,r19=.returned (.slice x21a x21l x21c)∧nc D0 fun b22 o23=>(∃ u24,w20.cell? ⟨b22,o23+1,none⟩=some u24)∧w20.frozen? ⟨b22,o23+1,none⟩=false∧Wd 94 p1 [eP 0 D0,eB 7 x3] ds (w20.setCell ⟨b22,o23+1,none⟩ (.slice x21a x21l x21c)) K) (nc D1 fun b26 o27=>∃ x28a,∃ x28l,∃ x28c,w.drew.drew.cell? ⟨b26,o27+1,none⟩=some (.slice x28a x28l x28c)∧nc D2 fun b29 o30=>∃ x31a,∃ x31l,∃ x31c,w.drew.drew.cell? ⟨b29,o30+1,none⟩=some (.slice x31a x31l x31c)∧Cl 92 #[(.slice x28a x28l x28c),(.slice x31a x31l x31c)] w.drew.drew fun r32 w33=>∃ x34,r32=.returned (.int .i64 x34)∧bc (decide (x34≥(0:Int))) (nc D0 fun b35 o36=>∃ x37a,∃ x37l,∃ x37c,w33.drew.cell? ⟨b35,o36+1,none⟩=some (.slice x37a x37l x37c)∧nc D1 fun b38 o39=>∃ x40a,∃ x40l,∃ x40c,w33.drew.cell? ⟨b38,o39+1,none⟩=some (.slice x40a x40l x40c)∧nc D2 fun b41 o42=>∃ x43a,∃ x43l,∃ x43c,w33.drew.cell? ⟨b41,o42+1,none⟩=some (.slice x43a x43l x43c)∧Cl 52 #[(.slice x37a x37l x37c),(.slice x40a x40l x40c),(.slice x43a x43l x43c)] w33.drew fun r44 w45=>∃ x46a,∃ x46l,∃ x46c,r44=.returned (.slice x46a x46l x46c)∧nc D0 fun b47 o48=>(∃ u49,w45.cell? ⟨b47,o48+1,none⟩=some u49)∧w45.frozen? ⟨b47,o48+1,none⟩=false∧Wd 94 p1 [eP 0 D0,eB 7 x3] ds (w45.setCell ⟨b47,o48+1,none⟩ (.slice x46a x46l x46c)) K) (nc D0 fun b51 o52=>∃ x53a,∃ x53l,∃ x53c,w33.drew.cell? ⟨b51,o52+1,none⟩=some (.slice x53a x53l x53c)∧nc D2 fun b54 o55=>∃ x56a,∃ x56l,∃ x56c,w33.drew.cell? ⟨b54,o55+1,none⟩=some (.slice x56a x56l x56c)∧nc D1 fun b57 o58=>∃ x59a,∃ x59l,∃ x59c,w33.drew.cell? ⟨b57,o58+1,none⟩=some (.slice x59a x59l x59c)∧Cl 52 #[(.slice x53a x53l x53c),(.slice x56a x56l x56c),(.slice x59a x59l x59c)] w33.drew fun r60 w61=>∃ x62a,∃ x62l,∃ x62c,r60=.returned (.slice x62a x62l x62c)∧nc D0 fun b63 o64=>(∃ u65,w61.cell? ⟨b63,o64+1,none⟩=some u65)∧w61.frozen? ⟨b63,o64+1,none⟩=false∧Wd 94 p1 [eP 0 D0,eB 7 (!x3)] ds (w61.setCell ⟨b63,o64+1,none⟩ (.slice x62a x62l x62c)) K))
theorem t0:VZ 94 body (l0 D0 D1 D2) (v0 D0 D1 D2):=tz kt [6] fun B ds w K=>by kernel_rfl
theorem call:VCl 70 [.tmp 6] #[.pointer D0,.pointer D1,.pointer D2] (v0 D0 D1 D2):=cz Tryz.func70 (by kernel_rfl) Tryz.ntmps70 Tryz.results70 (by kernel_rfl) (t0 D0 D1 D2)
abbrev l1:List (Nat × Value):=[eP 0 D0,eB 7 L7]
def v1:VP:=fun B ds w K=>nc D0 fun b1 o2=>∃ x3a,∃ x3l,∃ x3c,w.cell? ⟨b1,o2+1,none⟩=some (.slice x3a x3l x3c)∧bc (decide ((x3l:Int)>(0:Int))) (nc D0 fun b4 o5=>(∃ u6,w.cell? ⟨b4,o5+0,none⟩=some u6)∧w.frozen? ⟨b4,o5+0,none⟩=false∧Kd K .ret [eP 6 D0] ds (w.setCell ⟨b4,o5+0,none⟩ (.bool L7))) (nc D0 fun b8 o9=>(∃ u10,w.cell? ⟨b8,o9+0,none⟩=some u10)∧w.frozen? ⟨b8,o9+0,none⟩=false∧Kd K .ret [eP 6 D0] ds (w.setCell ⟨b8,o9+0,none⟩ (.bool false)))
theorem t1:VT 94 p1 (l1 D0 L7) (v1 D0 L7):=tw kt [6] fun B ds w K=>by kernel_rfl
end F70
namespace F97
noncomputable def body:Code:=bodyOf Tryz.f97
def kt:List (Nat × List Nat):=[(8,[0,7])]
noncomputable def p1:Code:=sb 3 7 body
variable (D0 D1:Option Addr) (L7:Bool) (D2:Option Addr)
abbrev l0:List (Nat × Value):=[eP 0 D0,eP 1 D1,eP 2 D2]
def v0:VP:=fun B ds w K=>nc D1 fun b1 o2=>∃ x3,w.cell? ⟨b1,o2+0,none⟩=some (.bool x3)∧nc D1 fun b4 o5=>∃ x6,w.drew.cell? ⟨b4,o5+0,none⟩=some (.bool x6)∧nc D2 fun b7 o8=>∃ x9,w.drew.cell? ⟨b7,o8+0,none⟩=some (.bool x9)∧bc (!(x6==x9)) (nc D0 fun b10 o11=>∃ x12a,∃ x12l,∃ x12c,w.drew.drew.cell? ⟨b10,o11+1,none⟩=some (.slice x12a x12l x12c)∧nc D1 fun b13 o14=>∃ x15a,∃ x15l,∃ x15c,w.drew.drew.cell? ⟨b13,o14+1,none⟩=some (.slice x15a x15l x15c)∧nc D2 fun b16 o17=>∃ x18a,∃ x18l,∃ x18c,w.drew.drew.cell? ⟨b16,o17+1,none⟩=some (.slice x18a x18l x18c)∧Cl 101 #[(.slice x12a x12l x12c),(.slice x15a x15l x15c),(.slice x18a x18l x18c)] w.drew.drew fun r19 w20=>∃ x21a,∃ x21l,∃ x21c,r19=.returned (.slice x21a x21l x21c)∧nc D0 fun b22 o23=>(∃ u24,w20.cell? ⟨b22,o23+1,none⟩=some u24)∧w20.frozen? ⟨b22,o23+1,none⟩=false∧Wd 94 p1 [eP 0 D0,eB 7 x3] ds (w20.setCell ⟨b22,o23+1,none⟩ (.slice x21a x21l x21c)) K) (nc D1 fun b26 o27=>∃ x28a,∃ x28l,∃ x28c,w.drew.drew.cell? ⟨b26,o27+1,none⟩=some (.slice x28a x28l x28c)∧nc D2 fun b29 o30=>∃ x31a,∃ x31l,∃ x31c,w.drew.drew.cell? ⟨b29,o30+1,none⟩=some (.slice x31a x31l x31c)∧Cl 92 #[(.slice x28a x28l x28c),(.slice x31a x31l x31c)] w.drew.drew fun r32 w33=>∃ x34,r32=.returned (.int .i64 x34)∧bc (decide (x34≥(0:Int))) (nc D0 fun b35 o36=>∃ x37a,∃ x37l,∃ x37c,w33.drew.cell? ⟨b35,o36+1,none⟩=some (.slice x37a x37l x37c)∧nc D1 fun b38 o39=>∃ x40a,∃ x40l,∃ x40c,w33.drew.cell? ⟨b38,o39+1,none⟩=some (.slice x40a x40l x40c)∧nc D2 fun b41 o42=>∃ x43a,∃ x43l,∃ x43c,w33.drew.cell? ⟨b41,o42+1,none⟩=some (.slice x43a x43l x43c)∧Cl 52 #[(.slice x37a x37l x37c),(.slice x40a x40l x40c),(.slice x43a x43l x43c)] w33.drew fun r44 w45=>∃ x46a,∃ x46l,∃ x46c,r44=.returned (.slice x46a x46l x46c)∧nc D0 fun b47 o48=>(∃ u49,w45.cell? ⟨b47,o48+1,none⟩=some u49)∧w45.frozen? ⟨b47,o48+1,none⟩=false∧Wd 94 p1 [eP 0 D0,eB 7 x3] ds (w45.setCell ⟨b47,o48+1,none⟩ (.slice x46a x46l x46c)) K) (nc D0 fun b51 o52=>∃ x53a,∃ x53l,∃ x53c,w33.drew.cell? ⟨b51,o52+1,none⟩=some (.slice x53a x53l x53c)∧nc D2 fun b54 o55=>∃ x56a,∃ x56l,∃ x56c,w33.drew.cell? ⟨b54,o55+1,none⟩=some (.slice x56a x56l x56c)∧nc D1 fun b57 o58=>∃ x59a,∃ x59l,∃ x59c,w33.drew.cell? ⟨b57,o58+1,none⟩=some (.slice x59a x59l x59c)∧Cl 52 #[(.slice x53a x53l x53c),(.slice x56a x56l x56c),(.slice x59a x59l x59c)] w33.drew fun r60 w61=>∃ x62a,∃ x62l,∃ x62c,r60=.returned (.slice x62a x62l x62c)∧nc D0 fun b63 o64=>(∃ u65,w61.cell? ⟨b63,o64+1,none⟩=some u65)∧w61.frozen? ⟨b63,o64+1,none⟩=false∧Wd 94 p1 [eP 0 D0,eB 7 (!x3)] ds (w61.setCell ⟨b63,o64+1,none⟩ (.slice x62a x62l x62c)) K))
theorem t0:VZ 94 body (l0 D0 D1 D2) (v0 D0 D1 D2):=tz kt [6] fun B ds w K=>by kernel_rfl
theorem call:VCl 97 [.tmp 6] #[.pointer D0,.pointer D1,.pointer D2] (v0 D0 D1 D2):=cz Tryz.func97 (by kernel_rfl) Tryz.ntmps97 Tryz.results97 (by kernel_rfl) (t0 D0 D1 D2)
abbrev l1:List (Nat × Value):=[eP 0 D0,eB 7 L7]
def v1:VP:=fun B ds w K=>nc D0 fun b1 o2=>∃ x3a,∃ x3l,∃ x3c,w.cell? ⟨b1,o2+1,none⟩=some (.slice x3a x3l x3c)∧bc (decide ((x3l:Int)>(0:Int))) (nc D0 fun b4 o5=>(∃ u6,w.cell? ⟨b4,o5+0,none⟩=some u6)∧w.frozen? ⟨b4,o5+0,none⟩=false∧Kd K .ret [eP 6 D0] ds (w.setCell ⟨b4,o5+0,none⟩ (.bool L7))) (nc D0 fun b8 o9=>(∃ u10,w.cell? ⟨b8,o9+0,none⟩=some u10)∧w.frozen? ⟨b8,o9+0,none⟩=false∧Kd K .ret [eP 6 D0] ds (w.setCell ⟨b8,o9+0,none⟩ (.bool false)))
theorem t1:VT 94 p1 (l1 D0 L7) (v1 D0 L7):=tw kt [6] fun B ds w K=>by kernel_rfl
end F97
namespace F149
noncomputable def body:Code:=bodyOf Tryz.f149
def kt:List (Nat × List Nat):=[]
variable (D0 D1 D2 D3:Option Addr)
abbrev l0:List (Nat × Value):=[eP 0 D0,eP 1 D1,eP 2 D2,eP 3 D3]
def v0:VP:=fun B ds w K=>∃ q1,ptrEq w D2 D3 q1∧bc q1 (nc D0 fun b2 o3=>∃ x4a,∃ x4l,∃ x4c,w.drew.cell? ⟨b2,o3+1,none⟩=some (.slice x4a x4l x4c)∧nc D2 fun b5 o6=>∃ x7a,∃ x7l,∃ x7c,w.drew.cell? ⟨b5,o6+1,none⟩=some (.slice x7a x7l x7c)∧Cl 79 #[(.slice x4a x4l x4c),(.pointer D1),(.slice x7a x7l x7c)] w.drew fun r8 w9=>∃ x10a,∃ x10l,∃ x10c,r8=.returned (.slice x10a x10l x10c)∧nc D0 fun b11 o12=>(∃ u13,w9.cell? ⟨b11,o12+1,none⟩=some u13)∧w9.frozen? ⟨b11,o12+1,none⟩=false∧nc D0 fun b14 o15=>(∃ u16,World.cell? (w9.setCell ⟨b11,o12+1,none⟩ (.slice x10a x10l x10c)) ⟨b14,o15+0,none⟩=some u16)∧World.frozen? (w9.setCell ⟨b11,o12+1,none⟩ (.slice x10a x10l x10c)) ⟨b14,o15+0,none⟩=false∧Kd K .ret [] ds (World.setCell (w9.setCell ⟨b11,o12+1,none⟩ (.slice x10a x10l x10c)) ⟨b14,o15+0,none⟩ (.bool false))) (nc D0 fun b18 o19=>∃ x20a,∃ x20l,∃ x20c,w.drew.cell? ⟨b18,o19+1,none⟩=some (.slice x20a x20l x20c)∧nc D2 fun b21 o22=>∃ x23a,∃ x23l,∃ x23c,w.drew.cell? ⟨b21,o22+1,none⟩=some (.slice x23a x23l x23c)∧nc D3 fun b24 o25=>∃ x26a,∃ x26l,∃ x26c,w.drew.cell? ⟨b24,o25+1,none⟩=some (.slice x26a x26l x26c)∧Cl 80 #[(.slice x20a x20l x20c),(.pointer D1),(.slice x23a x23l x23c),(.slice x26a x26l x26c)] w.drew fun r27 w28=>∃ x29a,∃ x29l,∃ x29c,r27=.returned (.slice x29a x29l x29c)∧nc D0 fun b30 o31=>(∃ u32,w28.cell? ⟨b30,o31+1,none⟩=some u32)∧w28.frozen? ⟨b30,o31+1,none⟩=false∧nc D0 fun b33 o34=>∃ x35a,∃ x35l,∃ x35c,World.cell? (World.drew (w28.setCell ⟨b30,o31+1,none⟩ (.slice x29a x29l x29c))) ⟨b33,o34+1,none⟩=some (.slice x35a x35l x35c)∧bc (decide ((x35l:Int)>(0:Int))) (nc D2 fun b36 o37=>∃ x38,World.cell? (World.drew (w28.setCell ⟨b30,o31+1,none⟩ (.slice x29a x29l x29c))) ⟨b36,o37+0,none⟩=some (.bool x38)∧nc D3 fun b39 o40=>∃ x41,World.cell? (World.drew (w28.setCell ⟨b30,o31+1,none⟩ (.slice x29a x29l x29c))) ⟨b39,o40+0,none⟩=some (.bool x41)∧nc D0 fun b42 o43=>(∃ u44,World.cell? (World.drew (w28.setCell ⟨b30,o31+1,none⟩ (.slice x29a x29l x29c))) ⟨b42,o43+0,none⟩=some u44)∧World.frozen? (World.drew (w28.setCell ⟨b30,o31+1,none⟩ (.slice x29a x29l x29c))) ⟨b42,o43+0,none⟩=false∧Kd K .normal [] ds (World.setCell (World.drew (w28.setCell ⟨b30,o31+1,none⟩ (.slice x29a x29l x29c))) ⟨b42,o43+0,none⟩ (.bool (!(x38==x41))))) (nc D0 fun b46 o47=>(∃ u48,World.cell? (World.drew (w28.setCell ⟨b30,o31+1,none⟩ (.slice x29a x29l x29c))) ⟨b46,o47+0,none⟩=some u48)∧World.frozen? (World.drew (w28.setCell ⟨b30,o31+1,none⟩ (.slice x29a x29l x29c))) ⟨b46,o47+0,none⟩=false∧Kd K .normal [] ds (World.setCell (World.drew (w28.setCell ⟨b30,o31+1,none⟩ (.slice x29a x29l x29c))) ⟨b46,o47+0,none⟩ (.bool false))))
theorem t0:VZ 64 body (l0 D0 D1 D2 D3) (v0 D0 D1 D2 D3):=tz kt [] fun B ds w K=>by kernel_rfl
theorem call:VCl 149 [] #[.pointer D0,.pointer D1,.pointer D2,.pointer D3] (v0 D0 D1 D2 D3):=cz Tryz.func149 (by kernel_rfl) Tryz.ntmps149 Tryz.results149 (by kernel_rfl) (t0 D0 D1 D2 D3)
end F149
end Go.Proofs.YtlkjiiibmfpbcaaGreatDoor
namespace Go.Proofs.YtlkjiiibmfpbcaaGreatDoor
open Go
set_option maxRecDepth 100000
set_option linter.unusedVariables false
namespace F170
noncomputable def body:Code:=bodyOf Tryz.f170
def kt:List (Nat × List Nat):=[]
variable (I0 I1 I2 I3:Int)
abbrev l0:List (Nat × Value):=[eU 0 I0,eU 1 I1,eU 2 I2,eU 3 I3]
def v0:VP:=fun B ds w K=>bc (decide (I0>(I2:Int))) (Kd K .ret [eB 8 true] ds w) (bc (I0==(I2:Int)) (Kd K .ret [eB 8 (decide (I1>(I3:Int)))] ds w) (Kd K .ret [eB 8 false] ds w))
theorem t0:VZ 22 body (l0 I0 I1 I2 I3) (v0 I0 I1 I2 I3):=tz kt [8] fun B ds w K=>by kernel_rfl
theorem call:VCl 170 [.tmp 8] #[.int .u64 I0,.int .u64 I1,.int .u64 I2,.int .u64 I3] (v0 I0 I1 I2 I3):=cz Tryz.func170 (by kernel_rfl) Tryz.ntmps170 Tryz.results170 (by kernel_rfl) (t0 I0 I1 I2 I3)
end F170
end Go.Proofs.YtlkjiiibmfpbcaaGreatDoor
namespace Go.Proofs.YtlkjiiibmfpbcaaGreatDoor
open Go
def GI (v1 v2 u N3 q r:Nat):Prop:=q*v1+r=u∧N3/(v1*18446744073709551616+v2)≤q∧q<18446744073709551616∧r<18446744073709551616
theorem gi_start {v1 v2 u0 u1 u2:Nat} (hv:9223372036854775808≤v1) (h0:u0<v1) (h1:u1<18446744073709551616) (h2:u2<18446744073709551616) (hv1:v1<18446744073709551616) :
  GI v1 v2 (u0*18446744073709551616+u1) ((u0*18446744073709551616+u1)*18446744073709551616+u2) ((u0*18446744073709551616+u1)/v1) ((u0*18446744073709551616+u1)%v1):=by
 have hm:=Nat.mod_lt (u0*18446744073709551616+u1) (show 0<v1 by omega)
 refine ⟨by rw [Nat.mul_comm]; exact Nat.div_add_mod _ _,?_,?_,by omega⟩
 ·obtain ⟨u,hu⟩:∃ u,u=u0*18446744073709551616+u1:=⟨_,rfl⟩
  rw [←hu]
  have h1:(u*18446744073709551616+u2)/(v1*18446744073709551616+v2)≤(u*18446744073709551616+u2)/(v1*18446744073709551616):=Nat.div_le_div_left (by omega) (by omega)
  have h2:(u*18446744073709551616+u2)/(v1*18446744073709551616)=u/v1:=by
   rw [Nat.mul_comm v1,←Nat.div_div_eq_div_mul]
   have:(u*18446744073709551616+u2)/18446744073709551616=u:=by omega
   rw [this]
  omega
 ·rw [Nat.div_lt_iff_lt_mul (by omega)]
  have:(u0+1)*18446744073709551616≤v1*18446744073709551616:=Nat.mul_le_mul_right _ h0
  rw [Nat.mul_comm 18446744073709551616 v1]; omega
theorem gi_down' {D v1 v2 u u2 q r:Nat} (h1:q*v1+r=u) (hd:0<v1*D+v2) (hc:r*D+u2<q*v2):(u*D+u2)/(v1*D+v2)<q:=by
 rw [Nat.div_lt_iff_lt_mul hd,Nat.mul_add,←Nat.mul_assoc,←h1,Nat.add_mul]
 omega
theorem gi_end' {D v1 v2 u u2 q r:Nat} (h1:q*v1+r=u) (hd:0<v1*D+v2) (hc:q*v2≤r*D+u2):q≤(u*D+u2)/(v1*D+v2):=by
 rw [Nat.le_div_iff_mul_le hd,Nat.mul_add,←Nat.mul_assoc,←h1,Nat.add_mul]
 omega
theorem gi_down {v1 v2 u u2 q r:Nat} (hv:0<v1) (h:GI v1 v2 u (u*18446744073709551616+u2) q r) (hc:r*18446744073709551616+u2<q*v2) :
  0<q∧(q-1)*v1+(r+v1)=u∧(u*18446744073709551616+u2)/(v1*18446744073709551616+v2)≤q-1:=by
 obtain ⟨h1,h2,h3,h4⟩:=h
 have hlt:=gi_down' (D:=18446744073709551616) h1 (by omega) hc
 have h0:0<q:=Nat.lt_of_le_of_lt (Nat.zero_le _) hlt
 refine ⟨h0,?_,by omega⟩
 obtain ⟨p,rfl⟩:∃ p,q=p+1:=⟨q-1,by omega⟩
 rw [Nat.add_mul,Nat.one_mul] at h1
 rw [Nat.add_sub_cancel]; omega
theorem gi_end {v1 v2 u u2 q r:Nat} (hv:0<v1) (h1:q*v1+r=u) (h2:(u*18446744073709551616+u2)/(v1*18446744073709551616+v2)≤q) (hc:q*v2≤r*18446744073709551616+u2) :
  q=(u*18446744073709551616+u2)/(v1*18446744073709551616+v2) :=
 Nat.le_antisymm (gi_end' (D:=18446744073709551616) h1 (by omega) hc) h2
theorem gi_brk {v2 q r u2:Nat} (h0:v2<18446744073709551616) (hq:q<18446744073709551616) (hr:18446744073709551616≤r):q*v2≤r*18446744073709551616+u2:=by
 have h1:q*v2≤18446744073709551616*18446744073709551616:=Nat.mul_le_mul (by omega) (by omega)
 omega
def Guess (N V q:Nat):Prop:=N/V≤q∧q≤N/V+1∧q<18446744073709551616
theorem guess3 {N V k:Nat} (hV:BB^(k+1)≤V) (hq:N/BB^k/(V/BB^k)<18446744073709551616):Guess N V (N/BB^k/(V/BB^k)):=by
 have hk:=BBpow_pos k
 have hV0:0<V:=Nat.lt_of_lt_of_le (BBpow_pos _) hV
 have hVk:0<V/BB^k:=by
  rw [Nat.div_pos_iff]
  exact ⟨hk,Nat.le_trans (Nat.pow_le_pow_right BB_pos (by omega)) hV⟩
 refine ⟨?_,?_,hq⟩
 ·rw [Nat.le_div_iff_mul_le hVk]
  rw [Nat.le_div_iff_mul_le hk,Nat.mul_assoc]
  exact Nat.le_trans (Nat.mul_le_mul_left _ (Nat.div_mul_le_self V (BB^k))) (Nat.div_mul_le_self N V)
 ·generalize hqe:N/BB^k/(V/BB^k)=q at hq ⊢
  rcases Nat.eq_zero_or_pos q with h0 | h0
  ·rw [h0]; exact Nat.zero_le _
  obtain ⟨p,rfl⟩:∃ p,q=p+1:=⟨q-1,by omega⟩
  have h1:(p+1)*(V/BB^k)≤N/BB^k:=by rw [←hqe]; exact Nat.div_mul_le_self _ _
  have h2:(p+1)*(V/BB^k)*BB^k≤N:=Nat.le_trans (Nat.mul_le_mul_right _ h1) (Nat.div_mul_le_self _ _)
  have h3:=Nat.div_add_mod V (BB^k)
  have h4:=Nat.mod_lt V hk
  have h5:(p+1)*(V%BB^k)≤BB*BB^k:=Nat.mul_le_mul (by rw [BB_eq]; omega) (Nat.le_of_lt h4)
  have h6:(p+1)*V=(p+1)*(V/BB^k)*BB^k+(p+1)*(V%BB^k):=by
   conv=>lhs; rw [←h3]
   rw [Nat.mul_add,Nat.mul_comm (BB^k),Nat.mul_assoc]
  have h7:BB*BB^k≤V:=by rw [Nat.mul_comm,←BBpow_succ]; exact hV
  have:p≤N/V:=by
   rw [Nat.le_div_iff_mul_le hV0]
   rw [Nat.add_mul,Nat.one_mul] at h6; omega
  omega
theorem guessM {N V n u0:Nat} (hN:N<V*BB) (h0:u0*BB^(n+1)≤N) (hV:V<(u0+1)*BB^n) (hu:9223372036854775808≤u0):Guess N V 18446744073709551615:=by
 have hV0:0<V:=by
  rcases Nat.eq_zero_or_pos V with h | h
  ·subst h; omega
  ·exact h
 have h1:N/V<18446744073709551616:=by
  rw [Nat.div_lt_iff_lt_mul hV0,Nat.mul_comm]; exact hN
 refine ⟨by omega,?_,by omega⟩
 have:18446744073709551614≤N/V:=by
  rw [Nat.le_div_iff_mul_le hV0]
  refine Nat.le_trans ?_ h0
  have h2:18446744073709551614*V≤18446744073709551614*((u0+1)*BB^n):=Nat.mul_le_mul_left _ (Nat.le_of_lt hV)
  have h3:18446744073709551614*((u0+1)*BB^n)≤u0*BB^(n+1):=by
   rw [BBpow_succ,Nat.mul_comm (BB^n) BB,←Nat.mul_assoc,←Nat.mul_assoc]
   exact Nat.mul_le_mul_right _ (show 18446744073709551614*(u0+1)≤u0*BB by rw [BB_eq]; omega)
  exact Nat.le_trans h2 h3
 omega
theorem long_step {U V k:Nat} (hV:0<V):U/BB^k/V=(U/BB^(k+1)%V*BB+dg U k)/V+BB*(U/BB^(k+1)/V)∧U/BB^k%V=(U/BB^(k+1)%V*BB+dg U k)%V:=by
 have h1:=div_split U k
 have h2:=Nat.div_add_mod (U/BB^(k+1)) V
 generalize U/BB^(k+1)=T at *
 have h5:U/BB^k=(T%V*BB+dg U k)+V*(BB*(T/V)):=by
  rw [h1,Nat.mul_left_comm]
  have:BB*T=BB*(V*(T/V))+BB*(T%V):=by rw [←Nat.mul_add,h2]
  rw [this,Nat.mul_comm (T%V) BB]; omega
 exact ⟨by rw [h5,Nat.add_mul_div_left _ _ hV],by rw [h5,Nat.add_mul_mod_self_left]⟩
theorem Sg.splice {w w':World} {b o L A j p N:Nat} (h:Sg w b o L A) (hc:Chg w w' (inR b (o+j) (o+j+p))) (hn:Sg w' b (o+j) p N) (hA:A<BB^(j+p)) (hN:N<BB^p) (hL:j+p≤L):Sg w' b o L (A%BB^j+BB^j*N):=by
 have h1:Sg w' b o j (A%BB^j):=hc.sg (h.le (by omega)).mod fun i hi hm=>by have:=hm.2.1; omega
 have h2:=Sg.join h1 hn (Nat.mod_lt _ (BBpow_pos j))
 have h3:Sg w' b (o+(j+p)) (L-(j+p)) 0:=by
  have:=h.hi (j+p) (L-(j+p)) (by omega)
  rw [Nat.div_eq_of_lt hA] at this
  exact hc.sg this fun i hi hm=>by have:=hm.2.2; omega
 have hlt:A%BB^j+BB^j*N<BB^(j+p):=by
  have a1:=Nat.mod_lt A (BBpow_pos j)
  have a2:BB^j*N+BB^j≤BB^j*BB^p:=by rw [←Nat.mul_succ]; exact Nat.mul_le_mul_left _ hN
  rw [Nat.pow_add]; omega
 have h4:=Sg.join h2 h3 hlt
 rw [Nat.mul_zero,Nat.add_zero,Nat.add_sub_cancel' hL] at h4
 exact h4
theorem c170 (x1 x2 y1 y2:Nat) (h2:x2<18446744073709551616) (h4:y2<18446744073709551616):Told 170 #[.int .u64 (x1:Int),.int .u64 (x2:Int),.int .u64 (y1:Int),.int .u64 (y2:Int)]
  (.bool (decide (y1*18446744073709551616+y2<x1*18446744073709551616+x2))):=fun w =>
 told <| F170.call x1 x2 y1 y2 w _ fun B=>bc_intro (fun hb B1=>ret1 rfl (congrArg Value.bool (decT (by have:=dT hb; omega)).symm) ⟨rfl,rfl⟩) (fun hb=>bc_intro (fun hb' B1=>ret1 rfl (congrArg Value.bool (decide_eq_decide.2 (by
   have:=eqE hb'
   have:=dF hb
   omega))) ⟨rfl,rfl⟩) (fun hb' B1=>ret1 rfl (congrArg Value.bool (decF (by have:=dF hb; have:=eqN hb'; omega)).symm) ⟨rfl,rfl⟩))
end Go.Proofs.YtlkjiiibmfpbcaaGreatDoor
