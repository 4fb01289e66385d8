/- Verification conditions, printed by wip/gen/gen.py and shrink.py; each is held against vc by the kernel. No condition. -/
import Derived.Test.YtlkjiiibmfpbcaaGreatDoorS05
import Derived.Test.YtlkjiiibmfpbcaaGreatDoorS26
namespace Go.Proofs.YtlkjiiibmfpbcaaGreatDoor
open Go
set_option maxRecDepth 100000
set_option linter.unusedVariables false
namespace F171
noncomputable def body:Code:=bodyOf Tryz.f171
def kt:List (Nat × List Nat):=[(13,[0,1,2,3,4,10,12,13,14]),(14,[0,1,2,3,4,10,12,13,14]),(25,[0,1,2,3,4,10,12,13,14,15,16,17,18,19,20]),(26,[0,1,2,3,4,10,12,13,14,15,16,17,18,19,20]),(33,[0,1,2,3,4,10,12,13,14,15,16,17,18,19,20]),(34,[0,1,2,3,4,10,12,13,14,16,17,18,19]),(36,[0,1,2,3,4,10,12,13,14,16,17,18,19]),(39,[0,1,2,3,4,10,12,13,14,17,18]),(42,[0,1,2,3,4,10,12,13]),(51,[0,2,3,24,25,26,27]),(52,[0,2,3,24,25,26,27]),(59,[0,2,3,24,25,26,27]),(60,[0,2,25,26]),(62,[0,2,25,26]),(65,[0,25,30]),(67,[0,25])]
noncomputable def p1:Code:=sb 12 4095 body
noncomputable def p2:Code:=sb 14 16376 body
noncomputable def p3:Code:=sb 12 4094 body
noncomputable def p4:Code:=sb 21 2097151 body
noncomputable def p5:Code:=sb 24 16777204 body
noncomputable def p6:Code:=sb 22 4194301 body
noncomputable def p7:Code:=sb 16 65506 body
noncomputable def p8:Code:=sb 15 32753 body
noncomputable def p9:Code:=sb 22 4194303 body
noncomputable def p10:Code:=sb 26 67108819 body
noncomputable def p11:Code:=sb 33 8589928759 body
noncomputable def p12:Code:=sb 27 134158335 body
noncomputable def p13:Code:=sb 30 1073266676 body
noncomputable def p14:Code:=sb 28 268316669 body
noncomputable def p15:Code:=sb 24 16777215 body
noncomputable def p16:Code:=sb 28 268316671 body
noncomputable def p17:Code:=sb 32 4293066707 body
noncomputable def p18:Code:=sb 38 274756269215 body
noncomputable def p19:Code:=sb 25 33554431 body
noncomputable def p20:Code:=sb 30 1073266687 body
theorem q3:p3=.block 0 (.loop p2):=by kernel_rfl
theorem q8:p8=.block 1 p7:=by kernel_rfl
theorem q14:p14=.block 2 (.loop p13):=by kernel_rfl
theorem q6:p6=.block 4 (.loop p5):=by kernel_rfl
variable (A0:Option Addr) (N0 C0:Nat) (D1 A2:Option Addr) (N2 C2:Nat) (A3:Option Addr) (N3 C3:Nat) (I4 I24 I10:Int) (A25:Option Addr) (I12:Int) (N25:Nat) (A13:Option Addr) (C25 N13:Nat) (A26:Option Addr) (I30:Int) (C13 N26:Nat) (I14:Int) (C26:Nat) (I15 I27:Int) (A16:Option Addr) (N16 C16:Nat) (A17:Option Addr) (N17 C17:Nat) (I18:Int) (A19:Option Addr) (N19 C19:Nat) (I20:Int)
abbrev l0:List (Nat × Value):=[eS 0 A0 N0 C0,eP 1 D1,eS 2 A2 N2 C2,eS 3 A3 N3 C3,eI 4 I4]
def v0:VP:=fun B ds w K=>Cl 46 #[(.slice A2 N2 C2)] w fun r1 w2=>∃ x3a,∃ x3l,∃ x3c,r1=.returned (.slice x3a x3l x3c)∧Cl 46 #[(.slice A3 N3 C3)] w2 fun r4 w5=>∃ x6a,∃ x6l,∃ x6c,r4=.returned (.slice x6a x6l x6c)∧bc ((x3l:Int)==0) (∃ w7,Sem.run Tryz.prog (builtin .clear #[45] 0 #[false] #[(.slice A0 N0 C0)]) w5=.ok (.value undef) w7∧Kd K .ret [] ds w7) (∃ x9,w5.cell? ⟨10,0,none⟩=some (.int .i64 x9)∧bc (decide ((x6l:Int)<(x9:Int))) (Cl 150 #[(.slice A0 N0 C0),(.pointer D1),(.slice x3a x3l x3c),(.slice x6a x6l x6c)] w5 fun r10 w11=>r10=.returned undef∧Kd K .ret [] ds w11) (inI64 ((x3l:Int)-(x6l:Int))∧bc (decide (((x3l:Int)-(x6l:Int))<(0:Int))) (Kd K .ret [] ds w5) (2≠(0:Int)∧Cl 103 #[(.pointer D1)] w5 fun r14 w15=>∃ x16,r14=.returned (.int .i64 x16)∧inI64 ((iQuo .i64 (x6l:Int) 2)+1)∧Cl 104 #[(.pointer D1),(.int .i64 ((iQuo .i64 (x6l:Int) 2)+1))] w15 fun r17 w18=>∃ x19a,∃ x19l,∃ x19c,r17=.returned (.slice x19a x19l x19c)∧Wd 297 p3 [eS 0 A0 N0 C0,eP 1 D1,eS 2 x3a x3l x3c,eS 3 x6a x6l x6c,eI 4 I4,eI 10 (x6l:Int),eI 12 (iQuo .i64 (x6l:Int) 2),eS 13 x19a x19l x19c,eI 14 ((x3l:Int)-(x6l:Int))] (⟨.fn (.func 102) #[],#[(.pointer D1),(.int .i64 x16)]⟩ :: ds) w18 (thenW Tryz.prog 297 p1 K))))
theorem t0:VZ 297 body (l0 A0 N0 C0 D1 A2 N2 C2 A3 N3 C3 I4) (v0 A0 N0 C0 D1 A2 N2 C2 A3 N3 C3 I4):=tz kt [] fun B ds w K=>by kernel_rfl
theorem call:VCl 171 [] #[.slice A0 N0 C0,.pointer D1,.slice A2 N2 C2,.slice A3 N3 C3,.int .i64 I4] (v0 A0 N0 C0 D1 A2 N2 C2 A3 N3 C3 I4):=cz Tryz.func171 (by kernel_rfl) Tryz.ntmps171 Tryz.results171 (by kernel_rfl) (t0 A0 N0 C0 D1 A2 N2 C2 A3 N3 C3 I4)
abbrev l1:List (Nat × Value):=[eS 0 A0 N0 C0,eP 1 D1,eS 2 A2 N2 C2,eS 3 A3 N3 C3,eI 4 I4,eI 10 I10,eI 12 I12,eS 13 A13 N13 C13]
def v1:VP:=fun B ds w K=>inI64 (I12-1)∧∃ w1,Sem.run Tryz.prog (builtin .clear #[45] 0 #[false] #[(.slice A13 N13 C13)]) w=.ok (.value undef) w1∧∃ i2:Nat,(I12-1)=(i2:Int)∧i2≤N2∧Cl 46 #[(.slice (shifted A2 i2 C2 1) (N2-i2) (C2-i2))] w1.drew fun r5 w6=>∃ x7a,∃ x7l,∃ x7c,r5=.returned (.slice x7a x7l x7c)∧∃ i8:Nat,(I12-1)=(i8:Int)∧i8≤N3∧inI64 (I4+1)∧Cl 171 #[(.slice A13 N13 C13),(.pointer D1),(.slice x7a x7l x7c),(.slice (shifted A3 i8 C3 1) (N3-i8) (C3-i8)),(.int .i64 (I4+1))] w6 fun r11 w12=>r11=.returned undef∧Cl 46 #[(.slice A13 N13 C13)] w12 fun r13 w14=>∃ x15a,∃ x15l,∃ x15c,r13=.returned (.slice x15a x15l x15c)∧inI64 (3*I10)∧Cl 104 #[(.pointer D1),(.int .i64 (3*I10))] w14 fun r16 w17=>∃ x18a,∃ x18l,∃ x18c,r16=.returned (.slice x18a x18l x18c)∧∃ w19,Sem.run Tryz.prog (builtin .clear #[45] 0 #[false] #[(.slice x18a x18l x18c)]) w17=.ok (.value undef) w19∧∃ h21:Nat,(I12-1)=(h21:Int)∧h21≤C3∧Cl 80 #[(.slice x18a x18l x18c),(.pointer D1),(.slice x15a x15l x15c),(.slice A3 h21 C3)] w19 fun r23 w24=>∃ x25a,∃ x25l,∃ x25c,r23=.returned (.slice x25a x25l x25c)∧Wd 297 p6 [eS 0 A0 N0 C0,eS 2 A2 N2 C2,eS 3 A3 N3 C3,eI 24 (I12-1),eS 25 x15a x15l x15c,eS 26 x25a x25l x25c,eI 27 0] ds w24 (thenW Tryz.prog 297 p4 K)
theorem t1:VT 297 p1 (l1 A0 N0 C0 D1 A2 N2 C2 A3 N3 C3 I4 I10 I12 A13 N13 C13) (v1 A0 N0 C0 D1 A2 N2 C2 A3 N3 C3 I4 I10 I12 A13 N13 C13):=tw kt [] fun B ds w K=>by kernel_rfl
abbrev l2:List (Nat × Value):=[eS 0 A0 N0 C0,eP 1 D1,eS 2 A2 N2 C2,eS 3 A3 N3 C3,eI 4 I4,eI 10 I10,eI 12 I12,eS 13 A13 N13 C13,eI 14 I14]
def v2:VP:=fun B ds w K=>bc (decide (I14>(I12:Int))) (Wd 297 p8 [eS 0 A0 N0 C0,eP 1 D1,eS 2 A2 N2 C2,eS 3 A3 N3 C3,eI 4 I4,eI 10 I10,eI 12 I12,eS 13 A13 N13 C13,eI 14 I14] ds w K) (Kd K (.exit 0) [eS 0 A0 N0 C0,eP 1 D1,eS 2 A2 N2 C2,eS 3 A3 N3 C3,eI 4 I4,eI 10 I10,eI 12 I12,eS 13 A13 N13 C13,eI 14 I14] ds w)
theorem t2:VT 297 p2 (l2 A0 N0 C0 D1 A2 N2 C2 A3 N3 C3 I4 I10 I12 A13 N13 C13 I14) (v2 A0 N0 C0 D1 A2 N2 C2 A3 N3 C3 I4 I10 I12 A13 N13 C13 I14):=tw kt [0,1,2,3,4,10,12,13,14] fun B ds w K=>by kernel_rfl
abbrev l4:List (Nat × Value):=[eS 0 A0 N0 C0,eS 2 A2 N2 C2,eS 25 A25 N25 C25,eS 26 A26 N26 C26]
def v4:VP:=fun B ds w K=>Cl 46 #[(.slice A2 N2 C2)] w fun r1 w2=>∃ x3a,∃ x3l,∃ x3c,r1=.returned (.slice x3a x3l x3c)∧Cl 92 #[(.slice A26 N26 C26),(.slice x3a x3l x3c)] w2 fun r4 w5=>∃ x6,r4=.returned (.int .i64 x6)∧bc (decide (x6>(0:Int))) False (Wd 297 p9 [eS 0 A0 N0 C0,eS 2 A2 N2 C2,eS 25 A25 N25 C25,eS 26 A26 N26 C26] ds w5 K)
theorem t4:VT 297 p4 (l4 A0 N0 C0 A2 N2 C2 A25 N25 C25 A26 N26 C26) (v4 A0 N0 C0 A2 N2 C2 A25 N25 C25 A26 N26 C26):=tw kt [] fun B ds w K=>by kernel_rfl
abbrev l5:List (Nat × Value):=[eS 0 A0 N0 C0,eS 2 A2 N2 C2,eS 3 A3 N3 C3,eI 24 I24,eS 25 A25 N25 C25,eS 26 A26 N26 C26,eI 27 I27]
def v5:VP:=fun B ds w K=>bc (decide (I27<(2:Int))) (Cl 46 #[(.slice A2 N2 C2)] w fun r1 w2=>∃ x3a,∃ x3l,∃ x3c,r1=.returned (.slice x3a x3l x3c)∧Cl 92 #[(.slice A26 N26 C26),(.slice x3a x3l x3c)] w2 fun r4 w5=>∃ x6,r4=.returned (.int .i64 x6)∧bc (decide (x6>(0:Int))) (Cl 83 #[(.slice A25 N25 C25),(.slice A25 N25 C25),(.int .u64 1)] w5 fun r7 w8=>∃ x9,r7=.returned (.int .u64 x9)∧∃ h11:Nat,I24=(h11:Int)∧h11≤C26∧∃ h14:Nat,I24=(h14:Int)∧h14≤C26∧∃ h17:Nat,I24=(h17:Int)∧h17≤C3∧Cl 82 #[(.slice A26 h11 C26),(.slice A26 h14 C26),(.slice A3 h17 C3)] w8.drew fun r19 w20=>∃ x21,r19=.returned (.int .u64 x21)∧bc (decide ((N26:Int)>(I24:Int))) (∃ i22:Nat,I24=(i22:Int)∧i22≤N26∧∃ i25:Nat,I24=(i25:Int)∧i25≤N26∧Cl 83 #[(.slice (shifted A26 i22 C26 1) (N26-i22) (C26-i22)),(.slice (shifted A26 i25 C26 1) (N26-i25) (C26-i25)),(.int .u64 x21)] w20.drew fun r28 w29=>∃ x30,r28=.returned (.int .u64 x30)∧Wd 297 p11 [eS 0 A0 N0 C0,eS 2 A2 N2 C2,eS 3 A3 N3 C3,eI 24 I24,eS 25 A25 N25 C25,eS 26 A26 N26 C26,eI 27 I27] ds w29 (blockK 5 (thenW Tryz.prog 297 p10 K))) (Wd 297 p11 [eS 0 A0 N0 C0,eS 2 A2 N2 C2,eS 3 A3 N3 C3,eI 24 I24,eS 25 A25 N25 C25,eS 26 A26 N26 C26,eI 27 I27] ds w20 (blockK 5 (thenW Tryz.prog 297 p10 K)))) (Wd 297 p10 [eS 0 A0 N0 C0,eS 2 A2 N2 C2,eS 3 A3 N3 C3,eI 24 I24,eS 25 A25 N25 C25,eS 26 A26 N26 C26,eI 27 I27] ds w5 K)) (Kd K (.exit 4) [eS 0 A0 N0 C0,eS 2 A2 N2 C2,eS 3 A3 N3 C3,eI 24 I24,eS 25 A25 N25 C25,eS 26 A26 N26 C26,eI 27 I27] ds w)
theorem t5:VT 297 p5 (l5 A0 N0 C0 A2 N2 C2 A3 N3 C3 I24 A25 N25 C25 A26 N26 C26 I27) (v5 A0 N0 C0 A2 N2 C2 A3 N3 C3 I24 A25 N25 C25 A26 N26 C26 I27):=tw kt [0,2,3,24,25,26,27] fun B ds w K=>by kernel_rfl
abbrev l7:List (Nat × Value):=[eS 0 A0 N0 C0,eP 1 D1,eS 2 A2 N2 C2,eS 3 A3 N3 C3,eI 4 I4,eI 10 I10,eI 12 I12,eS 13 A13 N13 C13,eI 14 I14]
def v7:VP:=fun B ds w K=>inI64 (I12-1)∧inI64 (I14-I12)∧∃ i1:Nat,(I14-I12)=(i1:Int)∧i1≤N2∧∃ w4,Sem.run Tryz.prog (builtin .clear #[45] 0 #[false] #[(.slice A13 N13 C13)]) w=.ok (.value undef) w4∧inI64 (I12+I10)∧∃ i5 h6:Nat,(I12-1)=(i5:Int)∧(I12+I10)=(h6:Int)∧i5≤h6∧h6≤(C2-i1)∧∃ i8:Nat,(I12-1)=(i8:Int)∧i8≤N3∧inI64 (I4+1)∧Cl 171 #[(.slice A13 N13 C13),(.pointer D1),(.slice (shifted (shifted A2 i1 C2 1) i5 (C2-i1) 1) (h6-i5) ((C2-i1)-i5)),(.slice (shifted A3 i8 C3 1) (N3-i8) (C3-i8)),(.int .i64 (I4+1))] w4.drew fun r11 w12=>r11=.returned undef∧Cl 46 #[(.slice A13 N13 C13)] w12 fun r13 w14=>∃ x15a,∃ x15l,∃ x15c,r13=.returned (.slice x15a x15l x15c)∧Cl 103 #[(.pointer D1)] w14 fun r16 w17=>∃ x18,r16=.returned (.int .i64 x18)∧inI64 (3*I10)∧Cl 104 #[(.pointer D1),(.int .i64 (3*I10))] w17 fun r19 w20=>∃ x21a,∃ x21l,∃ x21c,r19=.returned (.slice x21a x21l x21c)∧∃ w22,Sem.run Tryz.prog (builtin .clear #[45] 0 #[false] #[(.slice x21a x21l x21c)]) w20=.ok (.value undef) w22∧∃ h24:Nat,(I12-1)=(h24:Int)∧h24≤C3∧Cl 80 #[(.slice x21a x21l x21c),(.pointer D1),(.slice x15a x15l x15c),(.slice A3 h24 C3)] w22 fun r26 w27=>∃ x28a,∃ x28l,∃ x28c,r26=.returned (.slice x28a x28l x28c)∧Wd 297 p14 [eS 0 A0 N0 C0,eP 1 D1,eS 2 A2 N2 C2,eS 3 A3 N3 C3,eI 4 I4,eI 10 I10,eI 12 I12,eS 13 A13 N13 C13,eI 14 I14,eI 15 (I12-1),eS 16 (shifted A2 i1 C2 1) (N2-i1) (C2-i1),eS 17 x15a x15l x15c,eI 18 x18,eS 19 x28a x28l x28c,eI 20 0] ds w27 (thenW Tryz.prog 297 p12 K)
theorem t7:VT 297 p7 (l7 A0 N0 C0 D1 A2 N2 C2 A3 N3 C3 I4 I10 I12 A13 N13 C13 I14) (v7 A0 N0 C0 D1 A2 N2 C2 A3 N3 C3 I4 I10 I12 A13 N13 C13 I14):=tw kt [0,1,2,3,4,10,12,13,14] fun B ds w K=>by kernel_rfl
abbrev l9:List (Nat × Value):=[eS 0 A0 N0 C0,eS 2 A2 N2 C2,eS 25 A25 N25 C25,eS 26 A26 N26 C26]
def v9:VP:=fun B ds w K=>∃ h2:Nat,(N26:Int)=(h2:Int)∧h2≤C2∧∃ h5:Nat,(N26:Int)=(h5:Int)∧h5≤C2∧Cl 82 #[(.slice A2 h2 C2),(.slice A2 h5 C2),(.slice A26 N26 C26)] w.drew fun r7 w8=>∃ x9,r7=.returned (.int .u64 x9)∧bc (decide (x9>(0:Int))) (∃ i10:Nat,(N26:Int)=(i10:Int)∧i10≤N2∧∃ i13:Nat,(N26:Int)=(i13:Int)∧i13≤N2∧Cl 83 #[(.slice (shifted A2 i10 C2 1) (N2-i10) (C2-i10)),(.slice (shifted A2 i13 C2 1) (N2-i13) (C2-i13)),(.int .u64 x9)] w8.drew fun r16 w17=>∃ x18,r16=.returned (.int .u64 x18)∧Wd 297 p15 [eS 0 A0 N0 C0,eS 25 A25 N25 C25,eU 30 x18] ds w17 K) (Wd 297 p15 [eS 0 A0 N0 C0,eS 25 A25 N25 C25,eU 30 x9] ds w8 K)
theorem t9:VT 297 p9 (l9 A0 N0 C0 A2 N2 C2 A25 N25 C25 A26 N26 C26) (v9 A0 N0 C0 A2 N2 C2 A25 N25 C25 A26 N26 C26):=tw kt [] fun B ds w K=>by kernel_rfl
abbrev l10:List (Nat × Value):=[eS 0 A0 N0 C0,eS 2 A2 N2 C2,eS 3 A3 N3 C3,eI 24 I24,eS 25 A25 N25 C25,eS 26 A26 N26 C26,eI 27 I27]
def v10:VP:=fun B ds w K=>inI64 (I27+1)∧Kd K .normal [eS 0 A0 N0 C0,eS 2 A2 N2 C2,eS 3 A3 N3 C3,eI 24 I24,eS 25 A25 N25 C25,eS 26 A26 N26 C26,eI 27 (I27+1)] ds w
theorem t10:VT 297 p10 (l10 A0 N0 C0 A2 N2 C2 A3 N3 C3 I24 A25 N25 C25 A26 N26 C26 I27) (v10 A0 N0 C0 A2 N2 C2 A3 N3 C3 I24 A25 N25 C25 A26 N26 C26 I27):=tw kt [0,2,3,24,25,26,27] fun B ds w K=>by kernel_rfl
abbrev l11:List (Nat × Value):=[eS 0 A0 N0 C0,eS 2 A2 N2 C2,eS 3 A3 N3 C3,eI 24 I24,eS 25 A25 N25 C25,eS 26 A26 N26 C26,eI 27 I27]
def v11:VP:=fun B ds w K=>∃ i1:Nat,I24=(i1:Int)∧i1≤N2∧∃ i4:Nat,I24=(i4:Int)∧i4≤N3∧Cl 119 #[(.slice (shifted A2 i1 C2 1) (N2-i1) (C2-i1)),(.slice (shifted A3 i4 C3 1) (N3-i4) (C3-i4))] w.drew fun r7 w8=>r7=.returned undef∧Kd K .normal [eS 0 A0 N0 C0,eS 2 A2 N2 C2,eS 3 A3 N3 C3,eI 24 I24,eS 25 A25 N25 C25,eS 26 A26 N26 C26,eI 27 I27] ds w8
theorem t11:VT 297 p11 (l11 A0 N0 C0 A2 N2 C2 A3 N3 C3 I24 A25 N25 C25 A26 N26 C26 I27) (v11 A0 N0 C0 A2 N2 C2 A3 N3 C3 I24 A25 N25 C25 A26 N26 C26 I27):=tw kt [0,2,3,24,25,26,27] fun B ds w K=>by kernel_rfl
abbrev l12:List (Nat × Value):=[eS 0 A0 N0 C0,eP 1 D1,eS 2 A2 N2 C2,eS 3 A3 N3 C3,eI 4 I4,eI 10 I10,eI 12 I12,eS 13 A13 N13 C13,eI 14 I14,eS 16 A16 N16 C16,eS 17 A17 N17 C17,eI 18 I18,eS 19 A19 N19 C19]
def v12:VP:=fun B ds w K=>Cl 46 #[(.slice A16 N16 C16)] w fun r1 w2=>∃ x3a,∃ x3l,∃ x3c,r1=.returned (.slice x3a x3l x3c)∧Cl 92 #[(.slice A19 N19 C19),(.slice x3a x3l x3c)] w2 fun r4 w5=>∃ x6,r4=.returned (.int .i64 x6)∧bc (decide (x6>(0:Int))) False (Wd 297 p16 [eS 0 A0 N0 C0,eP 1 D1,eS 2 A2 N2 C2,eS 3 A3 N3 C3,eI 4 I4,eI 10 I10,eI 12 I12,eS 13 A13 N13 C13,eI 14 I14,eS 16 A16 N16 C16,eS 17 A17 N17 C17,eI 18 I18,eS 19 A19 N19 C19] ds w5 K)
theorem t12:VT 297 p12 (l12 A0 N0 C0 D1 A2 N2 C2 A3 N3 C3 I4 I10 I12 A13 N13 C13 I14 A16 N16 C16 A17 N17 C17 I18 A19 N19 C19) (v12 A0 N0 C0 D1 A2 N2 C2 A3 N3 C3 I4 I10 I12 A13 N13 C13 I14 A16 N16 C16 A17 N17 C17 I18 A19 N19 C19):=tw kt [0,1,2,3,4,10,12,13,14] fun B ds w K=>by kernel_rfl
abbrev l13:List (Nat × Value):=[eS 0 A0 N0 C0,eP 1 D1,eS 2 A2 N2 C2,eS 3 A3 N3 C3,eI 4 I4,eI 10 I10,eI 12 I12,eS 13 A13 N13 C13,eI 14 I14,eI 15 I15,eS 16 A16 N16 C16,eS 17 A17 N17 C17,eI 18 I18,eS 19 A19 N19 C19,eI 20 I20]
def v13:VP:=fun B ds w K=>bc (decide (I20<(2:Int))) (Cl 46 #[(.slice A16 N16 C16)] w fun r1 w2=>∃ x3a,∃ x3l,∃ x3c,r1=.returned (.slice x3a x3l x3c)∧Cl 92 #[(.slice A19 N19 C19),(.slice x3a x3l x3c)] w2 fun r4 w5=>∃ x6,r4=.returned (.int .i64 x6)∧bc (decide (x6≤(0:Int))) (Kd K (.exit 2) [eS 0 A0 N0 C0,eP 1 D1,eS 2 A2 N2 C2,eS 3 A3 N3 C3,eI 4 I4,eI 10 I10,eI 12 I12,eS 13 A13 N13 C13,eI 14 I14,eI 15 I15,eS 16 A16 N16 C16,eS 17 A17 N17 C17,eI 18 I18,eS 19 A19 N19 C19,eI 20 I20] ds w5) (Cl 83 #[(.slice A17 N17 C17),(.slice A17 N17 C17),(.int .u64 1)] w5 fun r8 w9=>∃ x10,r8=.returned (.int .u64 x10)∧∃ h12:Nat,I15=(h12:Int)∧h12≤C19∧∃ h15:Nat,I15=(h15:Int)∧h15≤C19∧∃ h18:Nat,I15=(h18:Int)∧h18≤C3∧Cl 82 #[(.slice A19 h12 C19),(.slice A19 h15 C19),(.slice A3 h18 C3)] w9.drew fun r20 w21=>∃ x22,r20=.returned (.int .u64 x22)∧bc (decide ((N19:Int)>(I15:Int))) (∃ i23:Nat,I15=(i23:Int)∧i23≤N19∧∃ i26:Nat,I15=(i26:Int)∧i26≤N19∧Cl 83 #[(.slice (shifted A19 i23 C19 1) (N19-i23) (C19-i23)),(.slice (shifted A19 i26 C19 1) (N19-i26) (C19-i26)),(.int .u64 x22)] w21.drew fun r29 w30=>∃ x31,r29=.returned (.int .u64 x31)∧Wd 297 p18 [eS 0 A0 N0 C0,eP 1 D1,eS 2 A2 N2 C2,eS 3 A3 N3 C3,eI 4 I4,eI 10 I10,eI 12 I12,eS 13 A13 N13 C13,eI 14 I14,eI 15 I15,eS 16 A16 N16 C16,eS 17 A17 N17 C17,eI 18 I18,eS 19 A19 N19 C19,eI 20 I20] ds w30 (blockK 3 (thenW Tryz.prog 297 p17 K))) (Wd 297 p18 [eS 0 A0 N0 C0,eP 1 D1,eS 2 A2 N2 C2,eS 3 A3 N3 C3,eI 4 I4,eI 10 I10,eI 12 I12,eS 13 A13 N13 C13,eI 14 I14,eI 15 I15,eS 16 A16 N16 C16,eS 17 A17 N17 C17,eI 18 I18,eS 19 A19 N19 C19,eI 20 I20] ds w21 (blockK 3 (thenW Tryz.prog 297 p17 K))))) (Kd K (.exit 2) [eS 0 A0 N0 C0,eP 1 D1,eS 2 A2 N2 C2,eS 3 A3 N3 C3,eI 4 I4,eI 10 I10,eI 12 I12,eS 13 A13 N13 C13,eI 14 I14,eI 15 I15,eS 16 A16 N16 C16,eS 17 A17 N17 C17,eI 18 I18,eS 19 A19 N19 C19,eI 20 I20] ds w)
theorem t13:VT 297 p13 (l13 A0 N0 C0 D1 A2 N2 C2 A3 N3 C3 I4 I10 I12 A13 N13 C13 I14 I15 A16 N16 C16 A17 N17 C17 I18 A19 N19 C19 I20) (v13 A0 N0 C0 D1 A2 N2 C2 A3 N3 C3 I4 I10 I12 A13 N13 C13 I14 I15 A16 N16 C16 A17 N17 C17 I18 A19 N19 C19 I20):=tw kt [0,1,2,3,4,10,12,13,14,15,16,17,18,19,20] fun B ds w K=>by kernel_rfl
abbrev l15:List (Nat × Value):=[eS 0 A0 N0 C0,eS 25 A25 N25 C25,eU 30 I30]
def v15:VP:=fun B ds w K=>bc (decide (I30>(0:Int))) False (Wd 297 p19 [eS 0 A0 N0 C0,eS 25 A25 N25 C25] ds w K)
theorem t15:VT 297 p15 (l15 A0 N0 C0 A25 N25 C25 I30) (v15 A0 N0 C0 A25 N25 C25 I30):=tw kt [] fun B ds w K=>by kernel_rfl
abbrev l16:List (Nat × Value):=[eS 0 A0 N0 C0,eP 1 D1,eS 2 A2 N2 C2,eS 3 A3 N3 C3,eI 4 I4,eI 10 I10,eI 12 I12,eS 13 A13 N13 C13,eI 14 I14,eS 16 A16 N16 C16,eS 17 A17 N17 C17,eI 18 I18,eS 19 A19 N19 C19]
def v16:VP:=fun B ds w K=>∃ h2:Nat,(N19:Int)=(h2:Int)∧h2≤C16∧∃ h5:Nat,(N19:Int)=(h5:Int)∧h5≤C16∧Cl 82 #[(.slice A16 h2 C16),(.slice A16 h5 C16),(.slice A19 N19 C19)] w.drew fun r7 w8=>∃ x9,r7=.returned (.int .u64 x9)∧bc (decide (x9>(0:Int))) (∃ i10:Nat,(N19:Int)=(i10:Int)∧i10≤N16∧∃ i13:Nat,(N19:Int)=(i13:Int)∧i13≤N16∧Cl 83 #[(.slice (shifted A16 i10 C16 1) (N16-i10) (C16-i10)),(.slice (shifted A16 i13 C16 1) (N16-i13) (C16-i13)),(.int .u64 x9)] w8.drew fun r16 w17=>∃ x18,r16=.returned (.int .u64 x18)∧Wd 297 p20 [eS 0 A0 N0 C0,eP 1 D1,eS 2 A2 N2 C2,eS 3 A3 N3 C3,eI 4 I4,eI 10 I10,eI 12 I12,eS 13 A13 N13 C13,eI 14 I14,eS 17 A17 N17 C17,eI 18 I18] ds w17 K) (Wd 297 p20 [eS 0 A0 N0 C0,eP 1 D1,eS 2 A2 N2 C2,eS 3 A3 N3 C3,eI 4 I4,eI 10 I10,eI 12 I12,eS 13 A13 N13 C13,eI 14 I14,eS 17 A17 N17 C17,eI 18 I18] ds w8 K)
theorem t16:VT 297 p16 (l16 A0 N0 C0 D1 A2 N2 C2 A3 N3 C3 I4 I10 I12 A13 N13 C13 I14 A16 N16 C16 A17 N17 C17 I18 A19 N19 C19) (v16 A0 N0 C0 D1 A2 N2 C2 A3 N3 C3 I4 I10 I12 A13 N13 C13 I14 A16 N16 C16 A17 N17 C17 I18 A19 N19 C19):=tw kt [0,1,2,3,4,10,12,13,14] fun B ds w K=>by kernel_rfl
abbrev l17:List (Nat × Value):=[eS 0 A0 N0 C0,eP 1 D1,eS 2 A2 N2 C2,eS 3 A3 N3 C3,eI 4 I4,eI 10 I10,eI 12 I12,eS 13 A13 N13 C13,eI 14 I14,eI 15 I15,eS 16 A16 N16 C16,eS 17 A17 N17 C17,eI 18 I18,eS 19 A19 N19 C19,eI 20 I20]
def v17:VP:=fun B ds w K=>inI64 (I20+1)∧Kd K .normal [eS 0 A0 N0 C0,eP 1 D1,eS 2 A2 N2 C2,eS 3 A3 N3 C3,eI 4 I4,eI 10 I10,eI 12 I12,eS 13 A13 N13 C13,eI 14 I14,eI 15 I15,eS 16 A16 N16 C16,eS 17 A17 N17 C17,eI 18 I18,eS 19 A19 N19 C19,eI 20 (I20+1)] ds w
theorem t17:VT 297 p17 (l17 A0 N0 C0 D1 A2 N2 C2 A3 N3 C3 I4 I10 I12 A13 N13 C13 I14 I15 A16 N16 C16 A17 N17 C17 I18 A19 N19 C19 I20) (v17 A0 N0 C0 D1 A2 N2 C2 A3 N3 C3 I4 I10 I12 A13 N13 C13 I14 I15 A16 N16 C16 A17 N17 C17 I18 A19 N19 C19 I20):=tw kt [0,1,2,3,4,10,12,13,14,15,16,17,18,19,20] fun B ds w K=>by kernel_rfl
abbrev l18:List (Nat × Value):=[eS 0 A0 N0 C0,eP 1 D1,eS 2 A2 N2 C2,eS 3 A3 N3 C3,eI 4 I4,eI 10 I10,eI 12 I12,eS 13 A13 N13 C13,eI 14 I14,eI 15 I15,eS 16 A16 N16 C16,eS 17 A17 N17 C17,eI 18 I18,eS 19 A19 N19 C19,eI 20 I20]
def v18:VP:=fun B ds w K=>∃ i1:Nat,I15=(i1:Int)∧i1≤N16∧∃ i4:Nat,I15=(i4:Int)∧i4≤N3∧Cl 119 #[(.slice (shifted A16 i1 C16 1) (N16-i1) (C16-i1)),(.slice (shifted A3 i4 C3 1) (N3-i4) (C3-i4))] w.drew fun r7 w8=>r7=.returned undef∧Kd K .normal [eS 0 A0 N0 C0,eP 1 D1,eS 2 A2 N2 C2,eS 3 A3 N3 C3,eI 4 I4,eI 10 I10,eI 12 I12,eS 13 A13 N13 C13,eI 14 I14,eI 15 I15,eS 16 A16 N16 C16,eS 17 A17 N17 C17,eI 18 I18,eS 19 A19 N19 C19,eI 20 I20] ds w8
theorem t18:VT 297 p18 (l18 A0 N0 C0 D1 A2 N2 C2 A3 N3 C3 I4 I10 I12 A13 N13 C13 I14 I15 A16 N16 C16 A17 N17 C17 I18 A19 N19 C19 I20) (v18 A0 N0 C0 D1 A2 N2 C2 A3 N3 C3 I4 I10 I12 A13 N13 C13 I14 I15 A16 N16 C16 A17 N17 C17 I18 A19 N19 C19 I20):=tw kt [0,1,2,3,4,10,12,13,14,15,16,17,18,19,20] fun B ds w K=>by kernel_rfl
abbrev l19:List (Nat × Value):=[eS 0 A0 N0 C0,eS 25 A25 N25 C25]
def v19:VP:=fun B ds w K=>Cl 46 #[(.slice A25 N25 C25)] w fun r1 w2=>∃ x3a,∃ x3l,∃ x3c,r1=.returned (.slice x3a x3l x3c)∧Cl 119 #[(.slice A0 N0 C0),(.slice x3a x3l x3c)] w2 fun r4 w5=>r4=.returned undef∧Kd K .normal [] ds w5
theorem t19:VT 297 p19 (l19 A0 N0 C0 A25 N25 C25) (v19 A0 N0 C0 A25 N25 C25):=tw kt [] fun B ds w K=>by kernel_rfl
abbrev l20:List (Nat × Value):=[eS 0 A0 N0 C0,eP 1 D1,eS 2 A2 N2 C2,eS 3 A3 N3 C3,eI 4 I4,eI 10 I10,eI 12 I12,eS 13 A13 N13 C13,eI 14 I14,eS 17 A17 N17 C17,eI 18 I18]
def v20:VP:=fun B ds w K=>inI64 (I14-I12)∧∃ i1:Nat,(I14-I12)=(i1:Int)∧i1≤N0∧Cl 119 #[(.slice (shifted A0 i1 C0 1) (N0-i1) (C0-i1)),(.slice A17 N17 C17)] w fun r4 w5=>r4=.returned undef∧inI64 (I14-I12)∧Cl 102 #[(.pointer D1),(.int .i64 I18)] w5 fun r6 w7=>r6=.returned undef∧Kd K .normal [eS 0 A0 N0 C0,eP 1 D1,eS 2 A2 N2 C2,eS 3 A3 N3 C3,eI 4 I4,eI 10 I10,eI 12 I12,eS 13 A13 N13 C13,eI 14 (I14-I12)] ds w7
theorem t20:VT 297 p20 (l20 A0 N0 C0 D1 A2 N2 C2 A3 N3 C3 I4 I10 I12 A13 N13 C13 I14 A17 N17 C17 I18) (v20 A0 N0 C0 D1 A2 N2 C2 A3 N3 C3 I4 I10 I12 A13 N13 C13 I14 A17 N17 C17 I18):=tw kt [0,1,2,3,4,10,12,13,14] fun B ds w K=>by kernel_rfl
end F171
end Go.Proofs.YtlkjiiibmfpbcaaGreatDoor
namespace Go.Proofs.YtlkjiiibmfpbcaaGreatDoor
open Go
theorem divmod_of {a v q r:Nat} (h:a=q*v+r) (hr:r<v):a/v=q∧a%v=r:=by
 have:=(Nat.div_mod_unique (a:=a) (b:=v) (c:=r) (d:=q) (by omega)).2 ⟨by rw [h,Nat.mul_comm]; omega,hr⟩
 exact this
theorem guess {V0 V1 S W0 W1:Nat} (hV0:V0<S) (hW0:W0<S) (hV1:0<V1) (hq:W1/V1≤V1) :
  (W1/V1*V0≤W0+S*(W1%V1)→(W0+S*W1)/(V0+S*V1)=W1/V1∧(W0+S*W1)%(V0+S*V1)=W0+S*(W1%V1)-W1/V1*V0) ∧
  (W0+S*(W1%V1)<W1/V1*V0→1≤W1/V1∧V0≤W1/V1*V0∧W1/V1*V0-V0≤W0+S*(W1%V1)+S*V1∧W0+S*(W1%V1)+S*V1≤W0+S*W1 ∧
   (W0+S*W1)/(V0+S*V1)=W1/V1-1∧(W0+S*W1)%(V0+S*V1)=W0+S*(W1%V1)+S*V1-(W1/V1*V0-V0)):=by
 have hs:=Nat.mod_add_div W1 V1
 have hr:=Nat.mod_lt W1 hV1
 generalize W1/V1=q at *
 generalize W1%V1=r at *
 have e1:S*W1=S*r+q*(S*V1):=by rw [←hs,Nat.mul_add,Nat.mul_left_comm q S V1,Nat.mul_comm V1 q]
 have e2:S*r+S≤S*V1:=by rw [←Nat.mul_succ]; exact Nat.mul_le_mul_left _ hr
 have e3:q*(V0+S*V1)=q*V0+q*(S*V1):=Nat.mul_add _ _ _
 refine ⟨fun h=>divmod_of ?_ ?_,fun h=>?_⟩
 ·rw [e3,e1]; omega
 ·omega
 ·have hq1:1≤q:=by
   rcases Nat.eq_zero_or_pos q with h0 | h0
   ·rw [h0,Nat.zero_mul] at h; omega
   ·exact h0
  have e4:V0≤q*V0:=Nat.le_mul_of_pos_left _ hq1
  have e5:S*V1≤q*(S*V1):=Nat.le_mul_of_pos_left _ hq1
  have e6:q*V0≤S*V1:=by rw [Nat.mul_comm S]; exact Nat.mul_le_mul hq (Nat.le_of_lt hV0)
  have e7:(q-1)*(V0+S*V1)=q*V0+q*(S*V1)-(V0+S*V1):=by rw [Nat.sub_one_mul,e3]
  have h2:q*V0-V0≤W0+S*r+S*V1:=by omega
  refine ⟨hq1,e4,h2,by rw [e1]; omega,divmod_of ?_ ?_⟩
  ·rw [e7,e1]; omega
  ·omega
theorem fix1 {w:World} {qh t vv:Sl} {Q1 QV V0 k s M:Nat} {L:List Item} (b:Bank w (nl qh Q1 :: nl (t.to M) QV :: nl (vv.to s) V0 :: L)) (hM:M=max k s) (h1:1≤Q1) (hV:V0≤QV) (hQk:QV<BB^k) (hMc:M≤t.c) (hsv:s≤vv.c) {P:World→Prop}
  (q:∀ w',Bank w' (nl qh (Q1-1) :: nl (t.to k) (QV-V0) :: nl (vv.to s) V0 :: L)→Chg w w' (un (wds qh) (wds (t.to M)))→P w') :
  Calls Tryz.prog 83 #[qh.v,qh.v,.int .u64 1] w fun r_8 w_9=>(∃ x_10,r_8=.returned (.int .u64 x_10)∧(∃ h_12:Nat,(s:Int)=(h_12:Int)∧h_12≤t.c∧(∃ h_15:Nat,(s:Int)=(h_15:Int)∧h_15≤t.c∧(∃ h_18:Nat,(s:Int)=(h_18:Int)∧h_18≤vv.c∧(Calls Tryz.prog 82 #[(.slice t.a h_12 t.c),(.slice t.a h_15 t.c),(.slice vv.a h_18 vv.c)] (World.drew w_9) fun r_20 w_21=>(∃ x_22,r_20=.returned (.int .u64 x_22) ∧
   (bc (decide (((k:Nat):Int)>(s:Int))) (∃ i_23:Nat,(s:Int)=(i_23:Int)∧i_23≤k∧(∃ i_26:Nat,(s:Int)=(i_26:Int)∧i_26≤k∧(Calls Tryz.prog 83 #[(.slice (shifted t.a i_23 t.c 1) (k-i_23) (t.c-i_23)),(.slice (shifted t.a i_26 t.c 1) (k-i_26) (t.c-i_26)),(.int .u64 x_22)] (World.drew w_21) fun r_29 w_30=>(∃ x_31,r_29=.returned (.int .u64 x_31)∧P w_30)))) (P w_21)))))))):=by
 refine subW b h1 (by omega) fun w1 b1 c1=>⟨_,rfl,s,rfl,by omega,s,rfl,by omega,s,rfl,hsv,?_⟩
 have cd:Chg w1 w1.drew none2:=Chg.drew0 w1 _
 have b2:Bank w1.drew [nl (t.to M) QV,nl (vv.to s) V0,nl qh (Q1-1)]:=((b1.none cd).pick 3 [1,2,0] rfl).left (A:=[_,_,_])
 have b2':Bank w1.drew (nl (t.to M) QV :: nl (vv.to s) V0 :: nl qh (Q1-1) :: L):=(b1.none cd).pick 3 [1,2,0] rfl
 have v0:Nt w1.drew (vv.to s) V0:=b2.tail.head
 have hVb:V0<BB^s:=v0.lt
 have c1d:Chg w w1.drew (un (wds qh) (wds (t.to M))):=(c1.l _).trans' (cd.none _)
 have fin:∀ w3,Bank w3 (nl (t.to k) (QV-V0) :: nl (vv.to s) V0 :: nl qh (Q1-1) :: L)→Chg w1.drew w3 (wds (t.to M))→P w3:=fun w3 b3 c3=>q w3 (b3.pick 3 [2,0,1] rfl) (c1d.trans' (c3.r _))
 by_cases hks:k≤s
 ·have hMs:M=s:=by omega
  subst hMs
  refine lowSub (z:=t.to M) (n:=M) b2' (Nat.le_refl _) v0 (fun _ _ h=>h) rfl fun c lo w2 e1 e2 e3 b3 c3=>⟨_,rfl,bc_false (decF (by omega)) (fin w2 ?_ c3)⟩
  have hmod:QV%BB^M=QV:=Nat.mod_eq_of_lt (lt_pow_of_le hQk hks)
  rw [hmod] at e1
  have hlo:lo=QV-V0:=by
   rcases Nat.eq_zero_or_pos c with h | h
   ·subst h; rw [Nat.mul_zero] at e1; omega
   ·have:c=1:=by omega
    subst this
    rw [Nat.mul_one] at e1
    have:=lt_pow_of_le hQk hks
    omega
  have h0:Nt w2 (t.to M) lo:=b3.head
  rw [hlo] at h0
  have b4:Bank w2 (nl (t.to k) (QV-V0) :: nl ((t.to M).sub M M) (QV/BB^M) :: nl (vv.to M) V0 :: nl qh (Q1-1) :: L):=b3.map1 (a':=nl (t.to k) (QV-V0)) (h0.low k hks (by omega)) (cut_lo (s:=t.to M) hks)
  exact (b4.perm (List.Perm.swap _ _ _)).tail
 ·have hMk:M=k:=by omega
  subst hMk
  refine lowSub (z:=t.to M) (n:=s) b2' (by show s≤M; omega) v0 (fun _ _ h=>h) rfl fun c lo w2 e1 e2 e3 b3 c3=>⟨_,rfl,bc_true (decT (by omega)) ⟨s,rfl,by omega,s,rfl,by omega,?_⟩⟩
  obtain ⟨g1,g2⟩:=sub_split e1 hV e3 e2 hVb
  have cd2:Chg w2 w2.drew none2:=Chg.drew0 w2 _
  have b4:Bank w2.drew (nl ((t.to M).sub s M) (QV/BB^s) :: nl (t.to s) lo :: nl (vv.to s) V0 :: nl qh (Q1-1) :: L):=(b3.none cd2).perm (List.Perm.swap _ _ _)
  refine subW b4 g1 (by omega) fun w3 b5 c5=>⟨_,rfl,fin w3 ?_ ?_⟩
  ·have b6:Bank w3 (nl ((t.to M).to s) lo :: nl ((t.to M).sub s (t.to M).l) (QV/BB^s-c) :: nl (vv.to s) V0 :: nl qh (Q1-1) :: L):=b5.perm (List.Perm.swap _ _ _)
   have b7:=b6.join (by show s≤M; omega)
   rwa [g2] at b7
  ·have hsM:s≤(t.to M).l:=by show s≤M; omega
   exact ((c3.mono fun b i _ hm=>cut_lo hsM b i hm).trans' (cd2.none _)).trans' (c5.mono fun b i _ hm=>cut_hi hsM b i hm)
theorem subAll {w:World} {uu t:Sl} {W QV k:Nat} {L:List Item} (b:Bank w (nl uu W :: nl (t.to k) QV :: L)) (hk:k≤uu.l) (hle:QV≤W) {P:Int→World→Prop} (q:∀ w',Bank w' (nl uu (W-QV) :: nl (t.to k) QV :: L)→Chg w w' (wds uu)→P 0 w') :
  (∃ h_2:Nat,((k:Nat):Int)=(h_2:Int)∧h_2≤uu.c∧(∃ h_5:Nat,((k:Nat):Int)=(h_5:Int)∧h_5≤uu.c∧(Calls Tryz.prog 82 #[(.slice uu.a h_2 uu.c),(.slice uu.a h_5 uu.c),(.slice t.a k t.c)] (World.drew w) fun r_7 w_8=>(∃ x_9,r_7=.returned (.int .u64 x_9)∧(bc (decide (x_9>(0:Int))) (∃ i_10:Nat,((k:Nat):Int)=(i_10:Int)∧i_10≤uu.l∧(∃ i_13:Nat,((k:Nat):Int)=(i_13:Int)∧i_13≤uu.l ∧
   (Calls Tryz.prog 83 #[(.slice (shifted uu.a i_10 uu.c 1) (uu.l-i_10) (uu.c-i_10)),(.slice (shifted uu.a i_13 uu.c 1) (uu.l-i_13) (uu.c-i_13)),(.int .u64 x_9)] (World.drew w_8) fun r_16 w_17=>(∃ x_18,r_16=.returned (.int .u64 x_18)∧P x_18 w_17)))) (P x_9 w_8)))))):=by
 have hu:Nt w uu W:=b.head
 have huc:=hu.lc
 have cd:Chg w w.drew none2:=Chg.drew0 w _
 have b1:=b.none cd
 have tv:Nt w.drew (t.to k) QV:=b1.tail.head
 refine ⟨k,rfl,by omega,k,rfl,by omega,lowSub b1 hk tv (fun _ _ h=>h) rfl fun c lo w2 e1 e2 e3 b3 c3=>⟨_,rfl,?_⟩⟩
 obtain ⟨g1,g2⟩:=sub_split e1 hle e3 e2 tv.lt
 have c3':Chg w w2 (wds uu):=(cd.none _).trans' (c3.mono fun b i _ hm=>cut_lo hk b i hm)
 refine bc_intro (fun hb=>⟨k,rfl,hk,k,rfl,hk,?_⟩) (fun hb=>?_)
 ·have cd2:Chg w2 w2.drew none2:=Chg.drew0 w2 _
  have b4:Bank w2.drew (nl (uu.sub k uu.l) (W/BB^k) :: nl (uu.to k) lo :: nl (t.to k) QV :: L):=(b3.none cd2).perm (List.Perm.swap _ _ _)
  refine subW b4 g1 (by omega) fun w3 b5 c5=>⟨_,rfl,q w3 ?_ ((c3'.trans' (cd2.none _)).trans' (c5.mono fun b i _ hm=>cut_hi hk b i hm))⟩
  have b6:Bank w3 (nl (uu.to k) lo :: nl (uu.sub k uu.l) (W/BB^k-c) :: nl (t.to k) QV :: L):=b5.perm (List.Perm.swap _ _ _)
  have b7:=b6.join hk
  rwa [g2] at b7
 ·have hc0:c=0:=by have:=dF hb; omega
  subst hc0
  have b7:=b3.join hk
  rw [Nat.sub_zero] at g2
  rw [g2] at b7
  exact q w2 b7 c3'
end Go.Proofs.YtlkjiiibmfpbcaaGreatDoor
namespace Go.Proofs.YtlkjiiibmfpbcaaGreatDoor
open Go
def St2 (w0:World) (qh t vv uu:Sl) (s k M V0 V1 W V:Nat) (L:List Item) (w:World):Prop :=
 ∃ q qv uv,Bank w (nl qh q :: nl (t.to k) qv :: nl (vv.to s) V0 :: nl (vv.sub s vv.l) V1 :: nl uu uv :: L)∧qv≤uv∧W/V=q∧W%V=uv-qv∧(Nz w (t.to k) qv∨∀ m,uv<BB^m→k≤m)∧Chg w0 w (un (wds qh) (un (wds (t.to M)) (wds uu)))
theorem cmpU {w:World} {uu t:Sl} {uv qv k:Nat} (hu:Nt w uu uv) (ht:Nt w (t.to k) qv) (hc:Nz w (t.to k) qv∨∀ m,uv<BB^m→k≤m) {P:Int→World→Prop} (q:∀ w',Chg w w' none2→P (sgn qv uv) w') :
  Calls Tryz.prog 46 #[uu.v] w fun r_1 w_2=>(∃ x_3a,∃ x_3l,∃ x_3c,r_1=.returned (.slice x_3a x_3l x_3c)∧(Calls Tryz.prog 92 #[(.slice t.a k t.c),(.slice x_3a x_3l x_3c)] w_2 fun r_4 w_5=>(∃ x_6,r_4=.returned (.int .i64 x_6)∧P x_6 w_5))) :=
 normB hu fun m hm hz=>⟨_,_,_,rfl,(c92h (t.to k) (uu.to m) qv uv w ht hz (hc.imp id fun h=>h m hz.lt)).mono fun e w' ⟨h1,h2⟩=>⟨_,h1,q w' h2⟩⟩
section
variable {w0:World} {z u vv uu qh qz t:Sl} {V0 V1 W0 W1 s k M:Nat} {L:List Item}
structure St1 (w0:World) (qh t vv uu:Sl) (s k M V0 V1 W0 W1:Nat) (L:List Item):Prop where
 bank:Bank w0 (nl qh (W1/V1) :: nl (t.to M) (W1/V1*V0) :: nl (vv.to s) V0 :: nl (vv.sub s vv.l) V1 :: nl uu (W0+BB^s*(W1%V1)) :: L)
 nz:Nz w0 (t.to k) (W1/V1*V0)
 hM:M=max k s
 hs:s≤vv.l
 v0:V0<BB^s
 w0:W0<BB^s
 v1:0<V1
 hq:W1/V1≤V1
 top:BB^(vv.l-1)≤BB^s*V1
 hk:k≤vv.l
 hW:W0+BB^s*W1<BB^uu.l
 vl:0<vv.l
theorem St1.tv (h:St1 w0 qh t vv uu s k M V0 V1 W0 W1 L) {w:World} (hc:Chg w0 w none2):Bank w (nl qh (W1/V1) :: nl (t.to k) (W1/V1*V0) :: nl (vv.to s) V0 :: nl (vv.sub s vv.l) V1 :: nl uu (W0+BB^s*(W1%V1)) :: L):=by
 have b:=h.bank.none hc
 have b1:=b.perm (List.Perm.swap _ _ _)
 have hkM:k≤M:=by have:=h.hM; omega
 have b2:=b1.map1 (a':=nl (t.to k) (W1/V1*V0)) (hc.nz_none h.nz).toNt (cut_lo (s:=t.to M) hkM)
 exact b2.perm (List.Perm.swap _ _ _)
theorem St1.ok (h:St1 w0 qh t vv uu s k M V0 V1 W0 W1 L) {w:World} (hc:Chg w0 w none2) (hle:W1/V1*V0≤W0+BB^s*(W1%V1)):St2 w0 qh t vv uu s k M V0 V1 (W0+BB^s*W1) (V0+BB^s*V1) L w:=by
 obtain ⟨g1,g2⟩:=(guess h.v0 h.w0 h.v1 h.hq).1 hle
 exact ⟨_,_,_,h.tv hc,hle,g1,g2,.inl (hc.nz_none h.nz),hc.none _⟩
theorem St1.fix (h:St1 w0 qh t vv uu s k M V0 V1 W0 W1 L) {w:World} (hc:Chg w0 w none2) (hgt:W0+BB^s*(W1%V1)<W1/V1*V0) {P:World→Prop}
  (q:∀ w',(∀ (Q:Ending→World→Prop),(∀ w2,St2 w0 qh t vv uu s k M V0 V1 (W0+BB^s*W1) (V0+BB^s*V1) L w2→Q (.returned undef) w2)→Calls Tryz.prog 119 #[(uu.sub s uu.l).v,(vv.sub s vv.l).v] w'.drew Q)→s≤uu.l→P w') :
  Calls Tryz.prog 83 #[qh.v,qh.v,.int .u64 1] w fun r_8 w_9=>(∃ x_10,r_8=.returned (.int .u64 x_10)∧(∃ h_12:Nat,(s:Int)=(h_12:Int)∧h_12≤t.c∧(∃ h_15:Nat,(s:Int)=(h_15:Int)∧h_15≤t.c∧(∃ h_18:Nat,(s:Int)=(h_18:Int)∧h_18≤vv.c∧(Calls Tryz.prog 82 #[(.slice t.a h_12 t.c),(.slice t.a h_15 t.c),(.slice vv.a h_18 vv.c)] (World.drew w_9) fun r_20 w_21=>(∃ x_22,r_20=.returned (.int .u64 x_22) ∧
   (bc (decide (((k:Nat):Int)>(s:Int))) (∃ i_23:Nat,(s:Int)=(i_23:Int)∧i_23≤k∧(∃ i_26:Nat,(s:Int)=(i_26:Int)∧i_26≤k∧(Calls Tryz.prog 83 #[(.slice (shifted t.a i_23 t.c 1) (k-i_23) (t.c-i_23)),(.slice (shifted t.a i_26 t.c 1) (k-i_26) (t.c-i_26)),(.int .u64 x_22)] (World.drew w_21) fun r_29 w_30=>(∃ x_31,r_29=.returned (.int .u64 x_31)∧P w_30)))) (P w_21)))))))):=by
 obtain ⟨g1,g2,g3,g4,g5,g6⟩:=(guess h.v0 h.w0 h.v1 h.hq).2 hgt
 have b:=h.bank.none hc
 have tM:Nt w (t.to M) (W1/V1*V0):=b.tail.head
 have vs:Nt w (vv.to s) V0:=b.tail.tail.head
 have v1s:Nt w (vv.sub s vv.l) V1:=b.tail.tail.tail.head
 have uN:Nt w uu (W0+BB^s*(W1%V1)):=b.tail.tail.tail.tail.head
 have hlen:vv.l≤uu.l:=by
  rcases Nat.lt_or_ge uu.l vv.l with h1 | h1
  ·have:=Nat.pow_le_pow_right BB_pos (show uu.l≤vv.l-1 by omega)
   have h2:=h.top
   have h3:=h.hW
   have:BB^s*V1≤W0+BB^s*W1:=by omega
   omega
  ·exact h1
 refine fix1 b h.hM g1 g2 h.nz.lt tM.lc vs.lc fun w' b1 c1=>q w' (fun Q hQ=>?_) (by have:=h.hs; omega)
 have cd:Chg w' w'.drew none2:=Chg.drew0 w' _
 have b2:Bank w'.drew (nl uu (W0+BB^s*(W1%V1)) :: nl (vv.sub s vv.l) V1 :: nl qh (W1/V1-1) :: nl (t.to k) (W1/V1*V0-V0) :: nl (vv.to s) V0 :: L):=(b1.none cd).pick 5 [4,3,0,1,2] rfl
 have v1':Nt w'.drew (vv.sub s vv.l) V1:=b2.tail.head
 refine add_up b2 (by have:=h.hs; omega) (fun _ _ h=>h) v1' (by show vv.l-s≤uu.l-s; omega) (Nat.lt_of_le_of_lt g4 h.hW) fun w2 b3 c3=>hQ w2 ⟨_,_,_,b3.pick 5 [2,3,4,1,0] rfl,g3,g5,g6,.inr fun m hm=>?_,?_⟩
 ·have h1:=h.top
  have h2:BB^(vv.l-1)<BB^m:=by omega
  have:=(Nat.pow_lt_pow_iff_right (show 1<BB by unfold BB; omega)).1 h2
  have:=h.hk; have:=h.vl
  omega
 ·refine ((hc.none _).trans' (c1.mono fun b i _ hm=>?_)).trans' ((cd.none _).trans' (c3.mono fun b i _ hm=>.inr (.inr hm)))
  exact hm.elim .inl fun h=>.inr (.inl h)
theorem St2.none {w1:World} {W V:Nat} (h:St2 w0 qh t vv uu s k M V0 V1 W V L w1) {w:World} (hc:Chg w1 w none2):St2 w0 qh t vv uu s k M V0 V1 W V L w:=by
 obtain ⟨q,qv,uv,b,h1,h2,h3,h4,h5⟩:=h
 exact ⟨q,qv,uv,b.none hc,h1,h2,h3,h4.imp (fun h=>hc.nz_none h) id,h5.trans' (hc.none _)⟩
theorem loop13 {sp:Option Addr} {dp n B j mk:Int} (h:St1 w0 qh t vv uu s k M V0 V1 W0 W1 L) {e:Env} {K:Kont}
  (ha:agree e (F171.l13 z.a z.l z.c sp u.a u.l u.c vv.a vv.l vv.c dp n B qz.a qz.l qz.c j s uu.a uu.l uu.c qh.a qh.l qh.c mk t.a k t.c 0))
  (q:∀ e' w',agree e' (F171.l12 z.a z.l z.c sp u.a u.l u.c vv.a vv.l vv.c dp n B qz.a qz.l qz.c j uu.a uu.l uu.c qh.a qh.l qh.c mk t.a k t.c)→e'.defers=e.defers→St2 w0 qh t vv uu s k M V0 V1 (W0+BB^s*W1) (V0+BB^s*V1) L w'→K .normal e' w') :
  W Tryz.prog 297 F171.p14 e w0 K:=by
 rw [F171.q14]
 refine W_for' (σ:=Nat) (fun i=>F171.l13 z.a z.l z.c sp u.a u.l u.c vv.a vv.l vv.c dp n B qz.a qz.l qz.c j s uu.a uu.l uu.c qh.a qh.l qh.c mk t.a k t.c i) (fun i w'=>(i=0∧w'=w0)∨(i=1∧St2 w0 qh t vv uu s k M V0 V1 (W0+BB^s*W1) (V0+BB^s*V1) L w')) (fun i=>2-i) 0 ha (.inl ⟨rfl,rfl⟩) ?_
 rintro i B1 w' K0 hI hnext hexit -
 rcases hI with ⟨rfl,rfl⟩ | ⟨rfl,h2⟩
 ·refine F171.t13 z.a z.l z.c sp u.a u.l u.c vv.a vv.l vv.c dp n B qz.a qz.l qz.c j s uu.a uu.l uu.c qh.a qh.l qh.c mk t.a k t.c (0:Nat) ⟨rfl,rfl,rfl,rfl,rfl,rfl,rfl,rfl,rfl,rfl,rfl,rfl,rfl,rfl,rfl,trivial⟩ fun B2=>bc_true (decT (by omega)) ?_
  have uN:Nt w' uu (W0+BB^s*(W1%V1)):=(h.tv (Chg.refl _ _)).tail.tail.tail.tail.head
  refine cmpU uN h.nz.toNt (.inl h.nz) fun w1 c1=>bc_intro (fun hb B3=>hexit _ _ (q _ _ ⟨rfl,rfl,rfl,rfl,rfl,rfl,rfl,rfl,rfl,rfl,rfl,rfl,rfl,trivial⟩ rfl (h.ok c1 ?_))) (fun hb=>h.fix c1 ?_ fun w2 ad hsu B3=>?_)
  ·have:=dT hb
   rcases Nat.lt_or_ge (W0+BB^s*(W1%V1)) (W1/V1*V0) with h1 | h1
   ·have:=sgnPos.2 h1; omega
   ·exact h1
  ·have:=dF hb
   exact sgnPos.1 (by omega)
  ·refine F171.t18 z.a z.l z.c sp u.a u.l u.c vv.a vv.l vv.c dp n B qz.a qz.l qz.c j s uu.a uu.l uu.c qh.a qh.l qh.c mk t.a k t.c (0:Nat) ⟨rfl,rfl,rfl,rfl,rfl,rfl,rfl,rfl,rfl,rfl,rfl,rfl,rfl,rfl,rfl,trivial⟩ fun B4=>⟨s,rfl,hsu,s,rfl,h.hs,ad _ fun w3 h3=>⟨rfl,fun B5=>?_⟩⟩
   refine F171.t17 z.a z.l z.c sp u.a u.l u.c vv.a vv.l vv.c dp n B qz.a qz.l qz.c j s uu.a uu.l uu.c qh.a qh.l qh.c mk t.a k t.c (0:Nat) ⟨rfl,rfl,rfl,rfl,rfl,rfl,rfl,rfl,rfl,rfl,rfl,rfl,rfl,rfl,rfl,trivial⟩ fun B6=>⟨by unfold inI64; omega,fun B7=>hnext _ _ 1 ⟨rfl,rfl,rfl,rfl,rfl,rfl,rfl,rfl,rfl,rfl,rfl,rfl,rfl,rfl,intv (by omega),trivial⟩ rfl (.inr ⟨rfl,h3⟩) (by omega)⟩
 ·refine F171.t13 z.a z.l z.c sp u.a u.l u.c vv.a vv.l vv.c dp n B qz.a qz.l qz.c j s uu.a uu.l uu.c qh.a qh.l qh.c mk t.a k t.c (1:Nat) ⟨rfl,rfl,rfl,rfl,rfl,rfl,rfl,rfl,rfl,rfl,rfl,rfl,rfl,rfl,rfl,trivial⟩ fun B2=>bc_true (decT (by omega)) ?_
  obtain ⟨q',qv,uv,b,h3,h4,h5,h6,h7⟩:=h2
  refine cmpU b.tail.tail.tail.tail.head b.tail.head h6 fun w1 c1=>bc_true (decT ?_) fun B3=>hexit _ _ (q _ _ ⟨rfl,rfl,rfl,rfl,rfl,rfl,rfl,rfl,rfl,rfl,rfl,rfl,rfl,trivial⟩ rfl (St2.none ⟨q',qv,uv,b,h3,h4,h5,h6,h7⟩ c1))
  rcases Nat.lt_or_ge 0 1 with _ | _
  ·by_cases hg:sgn qv uv>0
   ·have:=sgnPos.1 hg; omega
   ·omega
  ·omega
theorem loop5 (h:St1 w0 qh t vv uu s k M V0 V1 W0 W1 L) {e:Env} {K:Kont}
  (ha:agree e (F171.l5 z.a z.l z.c uu.a uu.l uu.c vv.a vv.l vv.c s qh.a qh.l qh.c t.a k t.c 0))
  (q:∀ e' w',agree e' (F171.l4 z.a z.l z.c uu.a uu.l uu.c qh.a qh.l qh.c t.a k t.c)→e'.defers=e.defers→St2 w0 qh t vv uu s k M V0 V1 (W0+BB^s*W1) (V0+BB^s*V1) L w'→K .normal e' w') :
  W Tryz.prog 297 F171.p6 e w0 K:=by
 rw [F171.q6]
 refine W_for' (σ:=Nat) (fun i=>F171.l5 z.a z.l z.c uu.a uu.l uu.c vv.a vv.l vv.c s qh.a qh.l qh.c t.a k t.c i) (fun i w'=>(i=0∧w'=w0)∨(1≤i∧i≤2∧St2 w0 qh t vv uu s k M V0 V1 (W0+BB^s*W1) (V0+BB^s*V1) L w')) (fun i=>2-i) 0 ha (.inl ⟨rfl,rfl⟩) ?_
 rintro i B1 w' K0 hI hnext hexit -
 have step:∀ (e':Env) (w2:World) (i:Nat),i≤1→agree e' (F171.l10 z.a z.l z.c uu.a uu.l uu.c vv.a vv.l vv.c s qh.a qh.l qh.c t.a k t.c i)→e'.defers=e.defers→(∀ e'' ,agree e'' (F171.l5 z.a z.l z.c uu.a uu.l uu.c vv.a vv.l vv.c s qh.a qh.l qh.c t.a k t.c (i+1:Nat))→e''.defers=e.defers→K0 .normal e'' w2)→W Tryz.prog 297 F171.p10 e' w2 K0:=by
  intro e' w2 i hi ha hd hk
  exact F171.t10 z.a z.l z.c uu.a uu.l uu.c vv.a vv.l vv.c s qh.a qh.l qh.c t.a k t.c i ha fun B3=>⟨by unfold inI64; omega,fun B4=>hk _ ⟨rfl,rfl,rfl,rfl,rfl,rfl,intv (by omega),trivial⟩ hd⟩
 rcases hI with ⟨rfl,rfl⟩ | ⟨hi1,hi2,h2⟩
 ·refine F171.t5 z.a z.l z.c uu.a uu.l uu.c vv.a vv.l vv.c s qh.a qh.l qh.c t.a k t.c (0:Nat) ⟨rfl,rfl,rfl,rfl,rfl,rfl,rfl,trivial⟩ fun B2=>bc_true (decT (by omega)) ?_
  have uN:Nt w' uu (W0+BB^s*(W1%V1)):=(h.tv (Chg.refl _ _)).tail.tail.tail.tail.head
  refine cmpU uN h.nz.toNt (.inl h.nz) fun w1 c1=>bc_intro (fun hb=>h.fix c1 (sgnPos.1 (dT hb)) fun w2 ad hsu B3=>?_) (fun hb B3=>?_)
  ·refine F171.t11 z.a z.l z.c uu.a uu.l uu.c vv.a vv.l vv.c s qh.a qh.l qh.c t.a k t.c (0:Nat) ⟨rfl,rfl,rfl,rfl,rfl,rfl,rfl,trivial⟩ fun B4=>⟨s,rfl,hsu,s,rfl,h.hs,ad _ fun w3 h3=>⟨rfl,fun B5=>?_⟩⟩
   exact step _ w3 0 (by omega) ⟨rfl,rfl,rfl,rfl,rfl,rfl,rfl,trivial⟩ rfl fun e'' h1 h2=>hnext e'' w3 1 h1 h2 (.inr ⟨by omega,by omega,h3⟩) (by omega)
  ·refine step _ w1 0 (by omega) ⟨rfl,rfl,rfl,rfl,rfl,rfl,rfl,trivial⟩ rfl fun e'' h1 h2=>hnext e'' w1 1 h1 h2 (.inr ⟨by omega,by omega,h.ok c1 ?_⟩) (by omega)
   have:=dF hb
   rcases Nat.lt_or_ge (W0+BB^s*(W1%V1)) (W1/V1*V0) with h1 | h1
   ·have:=sgnPos.2 h1; omega
   ·exact h1
 ·refine F171.t5 z.a z.l z.c uu.a uu.l uu.c vv.a vv.l vv.c s qh.a qh.l qh.c t.a k t.c i ⟨rfl,rfl,rfl,rfl,rfl,rfl,rfl,trivial⟩ fun B2=>bc_intro (fun hb=>?_) (fun hb B3=>hexit _ _ (q _ _ ⟨rfl,rfl,rfl,rfl,trivial⟩ rfl h2))
  have hi:i=1:=by have:=dT hb; omega
  subst hi
  obtain ⟨q',qv,uv,b,h3,h4,h5,h6,h7⟩:=h2
  refine cmpU b.tail.tail.tail.tail.head b.tail.head h6 fun w1 c1=>bc_false (decF ?_) fun B3=>?_
  ·intro hg
   have:=sgnPos.1 hg; omega
  ·exact step _ w1 1 (by omega) ⟨rfl,rfl,rfl,rfl,rfl,rfl,rfl,trivial⟩ rfl fun e'' g1 g2=>hnext e'' w1 2 g1 g2 (.inr ⟨by omega,by omega,St2.none ⟨q',qv,uv,b,h3,h4,h5,h6,h7⟩ c1⟩) (by omega)
end
end Go.Proofs.YtlkjiiibmfpbcaaGreatDoor
