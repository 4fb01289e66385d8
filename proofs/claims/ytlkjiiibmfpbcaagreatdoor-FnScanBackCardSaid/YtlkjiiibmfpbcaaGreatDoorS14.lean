/- Verification conditions, printed by wip/gen/gen.py and shrink.py; each is held against vc by the kernel. No condition. -/
import Derived.Lib.AppendZerosOnto
import Derived.Test.YtlkjiiibmfpbcaaGreatDoorS05
import Derived.Test.YtlkjiiibmfpbcaaGreatDoorS13
namespace Go.Proofs.YtlkjiiibmfpbcaaGreatDoor
open Go
set_option maxRecDepth 100000
set_option linter.unusedVariables false
namespace F56
noncomputable def body:Code:=bodyOf Tryz.f56
def kt:List (Nat × List Nat):=[]
abbrev l0:List (Nat × Value):=[]
def v0:VP:=fun B ds w K=>Kd K .ret [eP 0 (some ⟨(World.heap w).size,0,none⟩)] ds (World.alloc w (.cells #[(.pointer none)] 126))
theorem t0:VZ 3 body l0 v0:=tz kt [0] fun B ds w K=>by kernel_rfl
theorem call:VCl 56 [.tmp 0] #[] v0:=cz Tryz.func56 (by kernel_rfl) Tryz.ntmps56 Tryz.results56 (by kernel_rfl) (t0 )
end F56
namespace F57
noncomputable def body:Code:=bodyOf Tryz.f57
def kt:List (Nat × List Nat):=[]
variable (D0:Option Addr)
abbrev l0:List (Nat × Value):=[eP 0 D0]
def v0:VP:=fun B ds w K=>nc D0 fun b1 o2=>∃ x3,w.cell? ⟨b1,o2+0,none⟩=some (.pointer x3)∧∃ q4,ptrEq w x3 none q4∧bc (!q4) (Cl 89 #[(.pointer x3)] w fun r5 w6=>r5=.returned undef∧Kd K .normal [] ds w6) (Kd K .normal [] ds w)
theorem t0:VZ 11 body (l0 D0) (v0 D0):=tz kt [] fun B ds w K=>by kernel_rfl
theorem call:VCl 57 [] #[.pointer D0] (v0 D0):=cz Tryz.func57 (by kernel_rfl) Tryz.ntmps57 Tryz.results57 (by kernel_rfl) (t0 D0)
end F57
namespace F89
noncomputable def body:Code:=bodyOf Tryz.f89
def kt:List (Nat × List Nat):=[]
variable (D0:Option Addr)
abbrev l0:List (Nat × Value):=[eP 0 D0]
def v0:VP:=fun B ds w K=>nc D0 fun b1 o2=>∃ x3a,∃ x3l,∃ x3c,w.cell? ⟨b1,o2+0,none⟩=some (.slice x3a x3l x3c)∧∃ h5:Nat,0=(h5:Int)∧h5≤x3c∧nc D0 fun b7 o8=>(∃ u9,w.cell? ⟨b7,o8+0,none⟩=some u9)∧w.frozen? ⟨b7,o8+0,none⟩=false∧Kd K .normal [] ds (w.setCell ⟨b7,o8+0,none⟩ (.slice x3a h5 x3c))
theorem t0:VZ 10 body (l0 D0) (v0 D0):=tz kt [] fun B ds w K=>by kernel_rfl
theorem call:VCl 89 [] #[.pointer D0] (v0 D0):=cz Tryz.func89 (by kernel_rfl) Tryz.ntmps89 Tryz.results89 (by kernel_rfl) (t0 D0)
end F89
namespace F102
noncomputable def body:Code:=bodyOf Tryz.f102
def kt:List (Nat × List Nat):=[]
variable (D0:Option Addr) (I1:Int)
abbrev l0:List (Nat × Value):=[eP 0 D0,eI 1 I1]
def v0:VP:=fun B ds w K=>nc D0 fun b1 o2=>∃ x3,w.cell? ⟨b1,o2+0,none⟩=some (.pointer x3)∧∃ q4,ptrEq w x3 none q4∧bc q4 (Kd K .ret [] ds w) (Cl 140 #[(.pointer x3),(.int .i64 I1)] w fun r6 w7=>r6=.returned undef∧Kd K .normal [] ds w7)
theorem t0:VZ 14 body (l0 D0 I1) (v0 D0 I1):=tz kt [] fun B ds w K=>by kernel_rfl
theorem call:VCl 102 [] #[.pointer D0,.int .i64 I1] (v0 D0 I1):=cz Tryz.func102 (by kernel_rfl) Tryz.ntmps102 Tryz.results102 (by kernel_rfl) (t0 D0 I1)
end F102
namespace F103
noncomputable def body:Code:=bodyOf Tryz.f103
def kt:List (Nat × List Nat):=[]
variable (D0:Option Addr)
abbrev l0:List (Nat × Value):=[eP 0 D0]
def v0:VP:=fun B ds w K=>nc D0 fun b1 o2=>∃ x3,w.cell? ⟨b1,o2+0,none⟩=some (.pointer x3)∧∃ q4,ptrEq w x3 none q4∧bc q4 (Kd K .ret [eI 2 0] ds w) (Cl 141 #[(.pointer x3)] w fun r6 w7=>∃ x8,r6=.returned (.int .i64 x8)∧Kd K .ret [eI 2 x8] ds w7)
theorem t0:VZ 12 body (l0 D0) (v0 D0):=tz kt [2] fun B ds w K=>by kernel_rfl
theorem call:VCl 103 [.tmp 2] #[.pointer D0] (v0 D0):=cz Tryz.func103 (by kernel_rfl) Tryz.ntmps103 Tryz.results103 (by kernel_rfl) (t0 D0)
end F103
namespace F104
noncomputable def body:Code:=bodyOf Tryz.f104
def kt:List (Nat × List Nat):=[(8,[6]),(9,[0,1]),(11,[1,5])]
noncomputable def p1:Code:=sb 6 53 body
noncomputable def p2:Code:=sb 3 7 body
noncomputable def p3:Code:=sb 11 1687 body
variable (D0 A6:Option Addr) (I1:Int) (N6:Nat) (D5:Option Addr) (C6:Nat)
abbrev l0:List (Nat × Value):=[eP 0 D0,eI 1 I1]
def v0:VP:=fun B ds w K=>nc D0 fun b1 o2=>∃ x3,w.cell? ⟨b1,o2+0,none⟩=some (.pointer x3)∧∃ q4,ptrEq w x3 none q4∧bc q4 (bc (decide (I1≤(4:Int))) (Cl 142 #[(.slice none 0 0),(.int .i64 I1)] w fun r5 w6=>∃ x7a,∃ x7l,∃ x7c,r5=.returned (.slice x7a x7l x7c)∧∃ h9:Nat,I1=(h9:Int)∧h9≤x7c∧bc (decide (I1>(0:Int))) (nc x7a fun b12 o13=>∃ k11:Nat,0=(k11:Int)∧k11<h9∧(∃ u14,w6.cell? ⟨b12,o13+k11,none⟩=some u14)∧w6.frozen? ⟨b12,o13+k11,none⟩=false∧Wd 33 p3 [eS 6 x7a h9 x7c] ds (w6.setCell ⟨b12,o13+k11,none⟩ (.int .u64 11259375)) (thenW Tryz.prog 33 p1 (thenW Tryz.prog 33 p2 K))) (Wd 33 p3 [eS 6 x7a h9 x7c] ds w6 (thenW Tryz.prog 33 p1 (thenW Tryz.prog 33 p2 K)))) (Wd 33 p1 [eP 0 D0,eI 1 I1] ds w (thenW Tryz.prog 33 p2 K))) (Wd 33 p2 [eI 1 I1,eP 5 x3] ds w K)
theorem t0:VZ 33 body (l0 D0 I1) (v0 D0 I1):=tz kt [4] fun B ds w K=>by kernel_rfl
theorem call:VCl 104 [.tmp 4] #[.pointer D0,.int .i64 I1] (v0 D0 I1):=cz Tryz.func104 (by kernel_rfl) Tryz.ntmps104 Tryz.results104 (by kernel_rfl) (t0 D0 I1)
abbrev l1:List (Nat × Value):=[eP 0 D0,eI 1 I1]
def v1:VP:=fun B ds w K=>nc D0 fun b1 o2=>(∃ u3,World.cell? (World.alloc w (.cells #[(Value.slice none 0 0)] 162)) ⟨b1,o2+0,none⟩=some u3)∧World.frozen? (World.alloc w (.cells #[(Value.slice none 0 0)] 162)) ⟨b1,o2+0,none⟩=false∧Kd K .normal [eI 1 I1,eP 5 (some ⟨(World.heap w).size,0,none⟩)] ds (World.setCell (World.alloc w (.cells #[(Value.slice none 0 0)] 162)) ⟨b1,o2+0,none⟩ (.pointer (some ⟨(World.heap w).size,0,none⟩)))
theorem t1:VT 33 p1 (l1 D0 I1) (v1 D0 I1):=tw kt [1,5] fun B ds w K=>by kernel_rfl
abbrev l2:List (Nat × Value):=[eI 1 I1,eP 5 D5]
def v2:VP:=fun B ds w K=>Cl 143 #[(.pointer D5),(.int .i64 I1)] w fun r1 w2=>∃ x3a,∃ x3l,∃ x3c,r1=.returned (.slice x3a x3l x3c)∧Kd K .ret [eS 4 x3a x3l x3c] ds w2
theorem t2:VT 33 p2 (l2 I1 D5) (v2 I1 D5):=tw kt [4] fun B ds w K=>by kernel_rfl
abbrev l3:List (Nat × Value):=[eS 6 A6 N6 C6]
def v3:VP:=fun B ds w K=>Kd K .ret [eS 4 A6 N6 C6] ds w
theorem t3:VT 33 p3 (l3 A6 N6 C6) (v3 A6 N6 C6):=tw kt [4] fun B ds w K=>by kernel_rfl
end F104
namespace F140
noncomputable def body:Code:=bodyOf Tryz.f140
def kt:List (Nat × List Nat):=[]
variable (D0:Option Addr) (I1:Int)
abbrev l0:List (Nat × Value):=[eP 0 D0,eI 1 I1]
def v0:VP:=fun B ds w K=>nc D0 fun b1 o2=>∃ x3a,∃ x3l,∃ x3c,w.cell? ⟨b1,o2+0,none⟩=some (.slice x3a x3l x3c)∧∃ h5:Nat,I1=(h5:Int)∧h5≤x3c∧nc D0 fun b7 o8=>(∃ u9,w.cell? ⟨b7,o8+0,none⟩=some u9)∧w.frozen? ⟨b7,o8+0,none⟩=false∧Kd K .normal [] ds (w.setCell ⟨b7,o8+0,none⟩ (.slice x3a h5 x3c))
theorem t0:VZ 13 body (l0 D0 I1) (v0 D0 I1):=tz kt [] fun B ds w K=>by kernel_rfl
theorem call:VCl 140 [] #[.pointer D0,.int .i64 I1] (v0 D0 I1):=cz Tryz.func140 (by kernel_rfl) Tryz.ntmps140 Tryz.results140 (by kernel_rfl) (t0 D0 I1)
end F140
namespace F141
noncomputable def body:Code:=bodyOf Tryz.f141
def kt:List (Nat × List Nat):=[]
variable (D0:Option Addr)
abbrev l0:List (Nat × Value):=[eP 0 D0]
def v0:VP:=fun B ds w K=>nc D0 fun b1 o2=>∃ x3a,∃ x3l,∃ x3c,w.cell? ⟨b1,o2+0,none⟩=some (.slice x3a x3l x3c)∧Kd K .ret [eI 2 (x3l:Int)] ds w
theorem t0:VZ 8 body (l0 D0) (v0 D0):=tz kt [2] fun B ds w K=>by kernel_rfl
theorem call:VCl 141 [.tmp 2] #[.pointer D0] (v0 D0):=cz Tryz.func141 (by kernel_rfl) Tryz.ntmps141 Tryz.results141 (by kernel_rfl) (t0 D0)
end F141
namespace F142
noncomputable def body:Code:=bodyOf Tryz.f142
def kt:List (Nat × List Nat):=[(3,[0,1]),(6,[0])]
noncomputable def p1:Code:=sb 2 3 body
noncomputable def p2:Code:=sb 3 7 body
variable (A0:Option Addr) (N0 C0:Nat) (I1:Int)
abbrev l0:List (Nat × Value):=[eS 0 A0 N0 C0,eI 1 I1]
def v0:VP:=fun B ds w K=>bc (decide (I1<(0:Int))) False (Wd 27 p1 [eS 0 A0 N0 C0,eI 1 I1] ds w K)
theorem t0:VZ 27 body (l0 A0 N0 C0 I1) (v0 A0 N0 C0 I1):=tz kt [4] fun B ds w K=>by kernel_rfl
theorem call:VCl 142 [.tmp 4] #[.slice A0 N0 C0,.int .i64 I1] (v0 A0 N0 C0 I1):=cz Tryz.func142 (by kernel_rfl) Tryz.ntmps142 Tryz.results142 (by kernel_rfl) (t0 A0 N0 C0 I1)
abbrev l1:List (Nat × Value):=[eS 0 A0 N0 C0,eI 1 I1]
def v1:VP:=fun B ds w K=>inI64 ((C0:Int)-(N0:Int))∧inI64 (I1-((C0:Int)-(N0:Int)))∧bc (decide ((I1-((C0:Int)-(N0:Int)))>(0:Int))) (∃ h2:Nat,(C0:Int)=(h2:Int)∧h2≤C0∧∃ w4,∃ x5a,∃ x5l,∃ x5c,Sem.run Tryz.prog (builtin .append #[45,3] 45 #[false,false] #[(.slice A0 h2 C0),(.int .i64 (I1-((C0:Int)-(N0:Int))))]) w=.ok (.value (.slice x5a x5l x5c)) w4∧∃ h7:Nat,(N0:Int)=(h7:Int)∧h7≤x5c∧Wd 27 p2 [eS 0 x5a h7 x5c] ds w4 K) (Wd 27 p2 [eS 0 A0 N0 C0] ds w K)
theorem t1:VT 27 p1 (l1 A0 N0 C0 I1) (v1 A0 N0 C0 I1):=tw kt [4] fun B ds w K=>by kernel_rfl
abbrev l2:List (Nat × Value):=[eS 0 A0 N0 C0]
def v2:VP:=fun B ds w K=>Kd K .ret [eS 4 A0 N0 C0] ds w
theorem t2:VT 27 p2 (l2 A0 N0 C0) (v2 A0 N0 C0):=tw kt [4] fun B ds w K=>by kernel_rfl
end F142
namespace F143
noncomputable def body:Code:=bodyOf Tryz.f143
def kt:List (Nat × List Nat):=[(8,[7])]
noncomputable def p1:Code:=sb 7 127 body
variable (D0 A7:Option Addr) (I1:Int) (N7 C7:Nat)
abbrev l0:List (Nat × Value):=[eP 0 D0,eI 1 I1]
def v0:VP:=fun B ds w K=>inI64 (I1+3)∧nc D0 fun b1 o2=>∃ x3a,∃ x3l,∃ x3c,w.cell? ⟨b1,o2+0,none⟩=some (.slice x3a x3l x3c)∧nc D0 fun b4 o5=>∃ x6a,∃ x6l,∃ x6c,w.cell? ⟨b4,o5+0,none⟩=some (.slice x6a x6l x6c)∧Cl 164 #[(.slice x6a x6l x6c),(.int .i64 (iAndNot .i64 (I1+3) 3))] w fun r7 w8=>∃ x9a,∃ x9l,∃ x9c,r7=.returned (.slice x9a x9l x9c)∧nc D0 fun b10 o11=>(∃ u12,w8.cell? ⟨b10,o11+0,none⟩=some u12)∧w8.frozen? ⟨b10,o11+0,none⟩=false∧nc D0 fun b13 o14=>∃ x15a,∃ x15l,∃ x15c,World.cell? (w8.setCell ⟨b10,o11+0,none⟩ (.slice x9a x9l x9c)) ⟨b13,o14+0,none⟩=some (.slice x15a x15l x15c)∧inI64 ((x3l:Int)+(iAndNot .i64 (I1+3) 3))∧∃ h17:Nat,((x3l:Int)+(iAndNot .i64 (I1+3) 3))=(h17:Int)∧h17≤x15c∧nc D0 fun b19 o20=>(∃ u21,World.cell? (w8.setCell ⟨b10,o11+0,none⟩ (.slice x9a x9l x9c)) ⟨b19,o20+0,none⟩=some u21)∧World.frozen? (w8.setCell ⟨b10,o11+0,none⟩ (.slice x9a x9l x9c)) ⟨b19,o20+0,none⟩=false∧nc D0 fun b22 o23=>∃ x24a,∃ x24l,∃ x24c,World.cell? (World.setCell (w8.setCell ⟨b10,o11+0,none⟩ (.slice x9a x9l x9c)) ⟨b19,o20+0,none⟩ (.slice x15a h17 x15c)) ⟨b22,o23+0,none⟩=some (.slice x24a x24l x24c)∧inI64 ((x3l:Int)+I1)∧inI64 ((x3l:Int)+I1)∧∃ i25 h26 m27:Nat,(x3l:Int)=(i25:Int)∧((x3l:Int)+I1)=(h26:Int)∧((x3l:Int)+I1)=(m27:Int)∧i25≤h26∧h26≤m27∧m27≤x24c∧bc (decide (I1>(0:Int))) (nc (shifted x24a i25 m27 1) fun b29 o30=>∃ k28:Nat,0=(k28:Int)∧k28<(h26-i25)∧(∃ u31,World.cell? (World.setCell (w8.setCell ⟨b10,o11+0,none⟩ (.slice x9a x9l x9c)) ⟨b19,o20+0,none⟩ (.slice x15a h17 x15c)) ⟨b29,o30+k28,none⟩=some u31)∧World.frozen? (World.setCell (w8.setCell ⟨b10,o11+0,none⟩ (.slice x9a x9l x9c)) ⟨b19,o20+0,none⟩ (.slice x15a h17 x15c)) ⟨b29,o30+k28,none⟩=false∧Wd 53 p1 [eS 7 (shifted x24a i25 m27 1) (h26-i25) (m27-i25)] ds (World.setCell (World.setCell (w8.setCell ⟨b10,o11+0,none⟩ (.slice x9a x9l x9c)) ⟨b19,o20+0,none⟩ (.slice x15a h17 x15c)) ⟨b29,o30+k28,none⟩ (.int .u64 1043915)) K) (Wd 53 p1 [eS 7 (shifted x24a i25 m27 1) (h26-i25) (m27-i25)] ds (World.setCell (w8.setCell ⟨b10,o11+0,none⟩ (.slice x9a x9l x9c)) ⟨b19,o20+0,none⟩ (.slice x15a h17 x15c)) K)
theorem t0:VZ 53 body (l0 D0 I1) (v0 D0 I1):=tz kt [4] fun B ds w K=>by kernel_rfl
theorem call:VCl 143 [.tmp 4] #[.pointer D0,.int .i64 I1] (v0 D0 I1):=cz Tryz.func143 (by kernel_rfl) Tryz.ntmps143 Tryz.results143 (by kernel_rfl) (t0 D0 I1)
abbrev l1:List (Nat × Value):=[eS 7 A7 N7 C7]
def v1:VP:=fun B ds w K=>Kd K .ret [eS 4 A7 N7 C7] ds w
theorem t1:VT 53 p1 (l1 A7 N7 C7) (v1 A7 N7 C7):=tw kt [4] fun B ds w K=>by kernel_rfl
end F143
namespace F164
noncomputable def body:Code:=bodyOf Tryz.f164
def kt:List (Nat × List Nat):=[(3,[0,1]),(6,[0])]
noncomputable def p1:Code:=sb 2 3 body
noncomputable def p2:Code:=sb 3 7 body
variable (A0:Option Addr) (N0 C0:Nat) (I1:Int)
abbrev l0:List (Nat × Value):=[eS 0 A0 N0 C0,eI 1 I1]
def v0:VP:=fun B ds w K=>bc (decide (I1<(0:Int))) False (Wd 27 p1 [eS 0 A0 N0 C0,eI 1 I1] ds w K)
theorem t0:VZ 27 body (l0 A0 N0 C0 I1) (v0 A0 N0 C0 I1):=tz kt [4] fun B ds w K=>by kernel_rfl
theorem call:VCl 164 [.tmp 4] #[.slice A0 N0 C0,.int .i64 I1] (v0 A0 N0 C0 I1):=cz Tryz.func164 (by kernel_rfl) Tryz.ntmps164 Tryz.results164 (by kernel_rfl) (t0 A0 N0 C0 I1)
abbrev l1:List (Nat × Value):=[eS 0 A0 N0 C0,eI 1 I1]
def v1:VP:=fun B ds w K=>inI64 ((C0:Int)-(N0:Int))∧inI64 (I1-((C0:Int)-(N0:Int)))∧bc (decide ((I1-((C0:Int)-(N0:Int)))>(0:Int))) (∃ h2:Nat,(C0:Int)=(h2:Int)∧h2≤C0∧∃ w4,∃ x5a,∃ x5l,∃ x5c,Sem.run Tryz.prog (builtin .append #[44,3] 44 #[false,false] #[(.slice A0 h2 C0),(.int .i64 (I1-((C0:Int)-(N0:Int))))]) w=.ok (.value (.slice x5a x5l x5c)) w4∧∃ h7:Nat,(N0:Int)=(h7:Int)∧h7≤x5c∧Wd 27 p2 [eS 0 x5a h7 x5c] ds w4 K) (Wd 27 p2 [eS 0 A0 N0 C0] ds w K)
theorem t1:VT 27 p1 (l1 A0 N0 C0 I1) (v1 A0 N0 C0 I1):=tw kt [4] fun B ds w K=>by kernel_rfl
abbrev l2:List (Nat × Value):=[eS 0 A0 N0 C0]
def v2:VP:=fun B ds w K=>Kd K .ret [eS 4 A0 N0 C0] ds w
theorem t2:VT 27 p2 (l2 A0 N0 C0) (v2 A0 N0 C0):=tw kt [4] fun B ds w K=>by kernel_rfl
end F164
namespace F43
noncomputable def body:Code:=bodyOf Tryz.f43
def kt:List (Nat × List Nat):=[]
variable (A0:Option Addr) (N0 C0:Nat)
abbrev l0:List (Nat × Value):=[eS 0 A0 N0 C0]
def v0:VP:=fun B ds w K=>bc (Option.isNone A0) (Kd K .ret [eS 2 none 0 0] ds w) (∃ w2,∃ x3a,∃ x3l,∃ x3c,Sem.run Tryz.prog (Instr.buildSlice 22 0 #[]) w=.ok (.slice x3a x3l x3c) w2∧∃ w4,∃ x5a,∃ x5l,∃ x5c,Sem.run Tryz.prog (builtin .append #[22,22] 22 #[false,false] #[(.slice x3a x3l x3c),(.slice A0 N0 C0)]) w2=.ok (.value (.slice x5a x5l x5c)) w4∧Kd K .ret [eS 2 x5a x5l x5c] ds w4)
theorem t0:VZ 8 body (l0 A0 N0 C0) (v0 A0 N0 C0):=tz kt [2] fun B ds w K=>by kernel_rfl
theorem call:VCl 43 [.tmp 2] #[.slice A0 N0 C0] (v0 A0 N0 C0):=cz Tryz.func43 (by kernel_rfl) Tryz.ntmps43 Tryz.results43 (by kernel_rfl) (t0 A0 N0 C0)
end F43
end Go.Proofs.YtlkjiiibmfpbcaaGreatDoor
namespace Go.Proofs.YtlkjiiibmfpbcaaGreatDoor
open Go
theorem round4 (n:Nat) (h:n≤4398046511104):iAndNot .i64 ((n:Int)+3) 3=(((n+3)/4*4:Nat):Int):=by
 unfold iAndNot
 have h1:(BitVec.ofInt (IntKind.bits .i64) ((n:Int)+3) &&& ~~~BitVec.ofInt (IntKind.bits .i64) 3).toNat=(n+3)/4*4:=by
  show (BitVec.ofInt 64 ((n:Int)+3) &&& ~~~BitVec.ofInt 64 3).toNat=_
  rw [BitVec.toNat_and,show ((n:Int)+3)=((n+3:Nat):Int) by omega,ofInt_nat 64 (n+3) (by omega),show (~~~BitVec.ofInt 64 3).toNat=(2^62-1)*2^2 by decide]
  refine Nat.eq_of_testBit_eq fun i=>?_
  rw [show (n+3)/4*4=(n+3)/2^2*2^2 from rfl,Nat.testBit_and,Nat.testBit_mul_two_pow,Nat.testBit_mul_two_pow,Nat.testBit_div_two_pow,Nat.testBit_two_pow_sub_one]
  by_cases hi:2≤i
  ·rw [show i-2+2=i by omega]
   by_cases h64:i<64
   ·have:i-2<62:=by omega
    simp [hi,this]
   ·have:(n+3).testBit i=false:=Nat.testBit_lt_two_pow (Nat.lt_of_lt_of_le (show n+3<2^64 by omega) (Nat.pow_le_pow_right (by omega) (by omega)))
    simp [this]
  ·simp [hi]
 rw [h1,wrapIN _ (by omega)]
theorem growBy_le (n:Nat):∀ (r c:Nat),Builtin.growBy n r c≤max c (2*n+768)
 | 0,c=>Nat.le_max_left _ _
 | r+1,c=>by
  unfold Builtin.growBy
  split
  ·exact Nat.le_max_left _ _
  ·have:=growBy_le n r (c+(c+768)/4)
   omega
theorem nextcap_le (need old:Nat) (h:old<need):Builtin.nextslicecap need old≤2*need+768:=by
 unfold Builtin.nextslicecap
 split
 ·omega
 ·split
  ·omega
  ·have:=growBy_le need 4 old; omega
theorem exists_cells {w:World} {b:Nat}:∀ (n o:Nat),(∀ i,i<n→∃ u,w.cell? ⟨b,o+i,none⟩=some u)→∃ l:List Value,l.length=n∧∀ j v,l[j]?=some v→w.cell? ⟨b,o+j,none⟩=some v
 | 0,o,_=>⟨[],rfl,by simp⟩
 | n+1,o,h=>by
  obtain ⟨u,hu⟩:=h 0 (by omega)
  obtain ⟨l,hl,hr⟩:=exists_cells n (o+1) (fun i hi=>by have:=h (i+1) (by omega); rwa [show o+(i+1)=o+1+i by omega] at this)
  refine ⟨u :: l,by simp [hl],fun j v hj=>?_⟩
  cases j with
  | zero=>simp at hj; subst hj; exact hu
  | succ j=>simp at hj; have:=hr j v hj; rwa [show o+(j+1)=o+1+j by omega]
theorem alloc_row_st (w:World) (hg:GB≤w.heap.size) (C:Array Value) (n:Nat) (hn:n≤C.size) (hc:C.size≤9223372036854775807) :
  St (w.alloc (.cells C 61)) ⟨some ⟨w.heap.size,0,none⟩,n,C.size,w.heap.size,0⟩:=by
 have hh:(w.alloc (.cells C 61)).heap[w.heap.size]?=some (.cells C 61 (0,0)):=heap_alloc_new ..
 refine ⟨hn,fun _=>rfl,fun i hi=>⟨?_,?_⟩,fun _=>⟨hg,_,_,hh⟩,hc,by simp; omega⟩
 ·have hi':i<C.size:=hi
  refine ⟨C[i],?_⟩
  rw [cell_eq,hh]
  simp [hi']
 ·rw [frozen_eq,hh]; simp
theorem zeroCells_size (n:Nat):(Builtin.zeroCells #[(.int .u64 0:Value)] n).size=n:=by simp [Builtin.zeroCells]
def GrowR (w:World) (s:Sl) (n:Nat) (v:Value) (w':World):Prop :=
 ∃ r:Sl,v=r.v∧r.l=s.l∧s.l+n≤r.c∧St w' r∧(r=s∨(w.heap.size≤r.b∧r.c≠0))∧Chg w w' none2
theorem grow_run (t:TypeId) (ht:Tryz.prog.underlying t=some (.slice 61)) (s:Sl) (k:Nat) (w:World) (hs:St w s) (h0:0<k) (hk:s.c+k≤8796093022208) :
  ∃ c w',Sem.run Tryz.prog (builtin .append #[t,3] t #[false,false] #[.slice s.a s.c s.c,.int .i64 (k:Int)]) w=.ok (.value (.slice (some ⟨w.heap.size,0,none⟩) (s.c+k) c)) w' ∧
   s.c+k≤c∧(∀ n,n≤c→St w' ⟨some ⟨w.heap.size,0,none⟩,n,c,w.heap.size,0⟩)∧Chg w w' none2:=by
 have hinfo:=info61z
 cases hi:Tryz.prog.info? 61 with
 | none=>rw [hi] at hinfo; simp at hinfo
 | some ie =>
  rw [hi] at hinfo
  simp only [Option.map_some,Option.some.injEq,Prod.mk.injEq] at hinfo
  have hb:ie.bytes=8:=by
   have:(Tryz.prog.info? 61).map (·.bytes)=some 8:=by kernel_rfl
   rw [hi] at this; simpa using this
  have holds:∃ olds:List Value,olds.length=s.c∧(Builtin.firstCells ie.size s.c (.slice s.a s.c s.c)).run Tryz.prog w.drew=.ok olds.toArray w.drew:=by
   by_cases hc0:s.c=0
   ·refine ⟨[],by simp [hc0],?_⟩
    rw [hc0]
    cases s.a with
    | none=>rfl
    | some a =>
     have:=run_loadCells_list (P:=Tryz.prog) w.drew a [] (by simp)
     simpa [Builtin.firstCells] using this
   ·obtain ⟨l,hl,hr⟩:=exists_cells (w:=w) (b:=s.b) s.c s.o (fun i hi=>(hs.wr i hi).1)
    refine ⟨l,hl,?_⟩
    rw [hs.at_ hc0,hinfo.1]
    have:=run_loadCells_list (P:=Tryz.prog) w.drew ⟨s.b,s.o,none⟩ l (fun j v hj=>by rw [addr_add]; exact hr j v hj)
    rw [hl] at this
    simpa [Builtin.firstCells] using this
  obtain ⟨olds,hol,hold⟩:=holds
  have hint:Tryz.prog.underlying 3=some (.int .i64):=Tryz.underlying3
  have:=Lib.run_append_grow_zeros (P:=Tryz.prog) w t 3 t 61 ie (.int .u64 0) .i64 .i64 ht hint hi hinfo.2 s.a s.c s.c olds hold k h0 (by rw [hinfo.1]; omega) (by omega) (by omega) (by rw [hb]; omega)
   (by rw [hb]; have:=nextcap_le (s.c+k) s.c (by omega); omega)
  have hge:=grownCap_ge w (s.c+k) s.c 61
  have hle:=grownCap_le_maxLen w (s.c+k) s.c 61 (by unfold maxLen; omega)
  unfold maxLen at hle
  generalize grownCap w (s.c+k) s.c 61=c at this hge hle
  have hsz:(olds.toArray++Builtin.zeroCells (Value.int IntKind.u64 0).cells k++Builtin.zeroCells (Value.int IntKind.u64 0).cells (c-(s.c+k))).size=c:=by
   rw [Array.size_append,Array.size_append,show (Value.int IntKind.u64 0).cells=#[(.int .u64 0:Value)] from rfl,zeroCells_size,zeroCells_size]
   simp [hol]; omega
  generalize olds.toArray++Builtin.zeroCells (Value.int IntKind.u64 0).cells k++Builtin.zeroCells (Value.int IntKind.u64 0).cells (c-(s.c+k))=C at this hsz
  refine ⟨c,w.drew.alloc (.cells C 61),?_,hge,fun n hn=>?_,(Chg.drew0 w _).trans' (Chg.alloc w.drew _ (fun a=>RowKit.frozen?_alloc_cells w.drew C 61 a) _)⟩
  ·rw [BigFrame.builtin_append]
   simp only [Sem.run_bind,this]
   rfl
  ·have:=alloc_row_st w.drew hs.gb C n (by rw [hsz]; exact hn) (by rw [hsz]; omega)
   rw [hsz] at this
   exact this
theorem c164 (s:Sl) (n:Nat) (w:World) (hs:St w s) (hn:s.l+n≤8796093022208):Calls Tryz.prog 164 #[s.v,.int .i64 (n:Int)] w fun e w'=>∃ v,e=.returned v∧GrowR w s n v w':=by
 have hc:=hs.lc
 have hm:=hs.cm
 refine F164.call s.a s.l s.c n w _ fun B=>bc_false (decF (by omega)) fun B1=>F164.t1 s.a s.l s.c n ⟨rfl,rfl,trivial⟩ fun B2=>⟨by unfold inI64; omega,by unfold inI64; omega,bc_intro (fun hb=>?_) (fun hb B3=>?_)⟩
 ·have hk:0<s.l+n-s.c:=by have:=dT hb; omega
  have ek:((n:Int)-((s.c:Int)-(s.l:Int)))=((s.l+n-s.c:Nat):Int):=by omega
  rw [ek]
  obtain ⟨c,w',r1,r2,r3,r4⟩:=grow_run 44 Tryz.underlying44 s (s.l+n-s.c) w hs hk (by omega)
  refine ⟨s.c,rfl,Nat.le_refl _,w',⟨_,_,_,r1,s.l,rfl,by omega,fun B4=>F164.t2 _ _ _ ⟨rfl,trivial⟩ fun B5 B6=>ret1 rfl rfl ⟨⟨_,s.l,c,w.heap.size,0⟩,rfl,rfl,by show s.l+n≤c; omega,r3 _ (by omega),.inr ⟨Nat.le_refl _,by show c≠0; omega⟩,r4⟩⟩⟩
 ·have hk:s.l+n≤s.c:=by have:=dF hb; omega
  exact F164.t2 _ _ _ ⟨rfl,trivial⟩ fun B5 B6=>ret1 rfl rfl ⟨s,rfl,rfl,hk,hs,.inl rfl,Chg.refl _ _⟩
theorem c142 (s:Sl) (n:Nat) (w:World) (hs:St w s) (hn:s.l+n≤8796093022208):Calls Tryz.prog 142 #[s.v,.int .i64 (n:Int)] w fun e w'=>∃ v,e=.returned v∧GrowR w s n v w':=by
 have hc:=hs.lc
 have hm:=hs.cm
 refine F142.call s.a s.l s.c n w _ fun B=>bc_false (decF (by omega)) fun B1=>F142.t1 s.a s.l s.c n ⟨rfl,rfl,trivial⟩ fun B2=>⟨by unfold inI64; omega,by unfold inI64; omega,bc_intro (fun hb=>?_) (fun hb B3=>?_)⟩
 ·have hk:0<s.l+n-s.c:=by have:=dT hb; omega
  have ek:((n:Int)-((s.c:Int)-(s.l:Int)))=((s.l+n-s.c:Nat):Int):=by omega
  rw [ek]
  obtain ⟨c,w',r1,r2,r3,r4⟩:=grow_run 45 Tryz.underlying45 s (s.l+n-s.c) w hs hk (by omega)
  refine ⟨s.c,rfl,Nat.le_refl _,w',⟨_,_,_,r1,s.l,rfl,by omega,fun B4=>F142.t2 _ _ _ ⟨rfl,trivial⟩ fun B5 B6=>ret1 rfl rfl ⟨⟨_,s.l,c,w.heap.size,0⟩,rfl,rfl,by show s.l+n≤c; omega,r3 _ (by omega),.inr ⟨Nat.le_refl _,by show c≠0; omega⟩,r4⟩⟩⟩
 ·have hk:s.l+n≤s.c:=by have:=dF hb; omega
  exact F142.t2 _ _ _ ⟨rfl,trivial⟩ fun B5 B6=>ret1 rfl rfl ⟨s,rfl,rfl,hk,hs,.inl rfl,Chg.refl _ _⟩
end Go.Proofs.YtlkjiiibmfpbcaaGreatDoor
namespace Go.Proofs.YtlkjiiibmfpbcaaGreatDoor
open Go
structure SK where
 p:Nat
 q:Option Nat
 s:Sl
def SK.a (K:SK):Option Addr:=some ⟨K.p,0,none⟩
def SK.cut (K:SK) (n:Nat):SK:=⟨K.p,K.q,K.s.to n⟩
def SK.free (K:SK):Set2:=fun b i=>b=K.p∨K.q=some b∨(b=K.s.b∧K.s.o+K.s.l≤i∧i<K.s.o+K.s.c)
structure StkAt (w:World) (K:SK):Prop where
 own:Own w K.p
 cell:w.cell? ⟨K.p,0,none⟩=some (.pointer (K.q.map fun b=>⟨b,0,none⟩))
 fr:w.frozen? ⟨K.p,0,none⟩=false
 inn:∀ b,K.q=some b→Own w b∧w.cell? ⟨b,0,none⟩=some K.s.v∧w.frozen? ⟨b,0,none⟩=false∧b≠K.p
 nil:K.q=none→K.s.l=0∧K.s.c=0
 st:St w K.s
 ap:K.s.c≠0→K.s.b≠K.p∧K.q≠some K.s.b
structure Nxt (w:World) (K K':SK):Prop where
 p:K'.p=K.p
 q:K'.q=K.q∨(K.q=none∧∃ b,K'.q=some b∧w.heap.size≤b)
 s:(K'.s.b=K.s.b∧K'.s.o=K.s.o∧K'.s.c=K.s.c)∨(K'.s.c≠0∧w.heap.size≤K'.s.b)
 l:K.s.l≤K'.s.l
 c:K.s.c≠0→K'.s.c≠0
theorem Nxt.refl (w:World) (K:SK):Nxt w K K:=⟨rfl,.inl rfl,.inl ⟨rfl,rfl,rfl⟩,Nat.le_refl _,id⟩
theorem Nxt.trans {w w1:World} {K K1 K2:SK} (h1:Nxt w K K1) (h2:Nxt w1 K1 K2) (hs:w.heap.size≤w1.heap.size):Nxt w K K2:=by
 refine ⟨h2.p.trans h1.p,?_,?_,Nat.le_trans h1.l h2.l,fun h=>h2.c (h1.c h)⟩
 ·rcases h2.q with e | ⟨e,b,e2,h⟩
  ·rw [e]; exact h1.q
  ·rcases h1.q with e1 | ⟨e1,b1,e3,h3⟩
   ·exact .inr ⟨e1.symm.trans e,b,e2,Nat.le_trans hs h⟩
   ·rw [e] at e3; cases e3
 ·rcases h2.s with ⟨e1,e2,e3⟩ | ⟨e1,e2⟩
  ·rw [e1,e2,e3]; exact h1.s
  ·exact .inr ⟨e1,Nat.le_trans hs e2⟩
theorem Nxt.free {w:World} {K K':SK} (h:Nxt w K K') {b i:Nat} (hb:b<w.heap.size) (hf:K'.free b i):K.free b i:=by
 rcases hf with e | e | ⟨e,h1,h2⟩
 ·exact .inl (e.trans h.p)
 ·rcases h.q with e1 | ⟨_,b',e2,h3⟩
  ·exact .inr (.inl (e1.symm.trans e))
  ·rw [e2] at e; cases e; omega
 ·rcases h.s with ⟨e1,e2,e3⟩ | ⟨_,e2⟩
  ·have:=h.l
   exact .inr (.inr ⟨by omega,by omega,by omega⟩)
  ·omega
theorem Nxt.cut {w:World} {K K':SK} (h:Nxt w K K'):Nxt w K (K'.cut K.s.l):=⟨h.p,h.q,h.s,Nat.le_refl _,h.c⟩
theorem Nxt.cut' {w:World} {K K':SK} (h:Nxt w K K') (n:Nat) (hn:K.s.l≤n):Nxt w K (K'.cut n):=⟨h.p,h.q,h.s,hn,h.c⟩
theorem Nxt.mono {w w0:World} {K K':SK} (h:Nxt w K K') (hs:w0.heap.size≤w.heap.size):Nxt w0 K K' :=
 ⟨h.p,h.q.imp id fun ⟨a,b,c,d⟩=>⟨a,b,c,Nat.le_trans hs d⟩,h.s.imp id fun ⟨a,b⟩=>⟨a,Nat.le_trans hs b⟩,h.l,h.c⟩
theorem StkAt.chg {w w':World} {S:Set2} {K:SK} (hk:StkAt w K) (h:Chg w w' S) (hp:¬S K.p 0) (hq:∀ b,K.q=some b→¬S b 0):StkAt w' K :=
 ⟨h.own hk.own,by rw [h.cell (lt_of_cell hk.cell) hp]; exact hk.cell,by rw [h.froz]; exact hk.fr,
  fun b hb=>by
   obtain ⟨h1,h2,h3,h4⟩:=hk.inn b hb
   exact ⟨h.own h1,by rw [h.cell (lt_of_cell h2) (hq b hb)]; exact h2,by rw [h.froz]; exact h3,h4⟩,hk.nil,h.st hk.st,hk.ap⟩
def Off (K:SK) (x:Sl):Prop:=∀ i,x.o≤i→i<x.o+x.c→¬K.free x.b i
def OffL (K:SK) (x:Sl):Prop:=∀ i,x.o≤i→i<x.o+x.l→¬K.free x.b i
theorem Off.l {w:World} {K:SK} {x:Sl} (h:Off K x) (hs:St w x):OffL K x:=fun i h1 h2=>h i h1 (by have:=hs.lc; omega)
theorem StkAt.fp {w w':World} {K:SK} (hk:StkAt w K) {z:Sl} (h:Chg w w' (fp z)) (ho:Off K z):StkAt w' K :=
 hk.chg h (fun hm=>ho 0 hm.2.1 hm.2.2 (.inl hm.1.symm)) fun b hb hm=>ho 0 hm.2.1 hm.2.2 (.inr (.inl (by rw [hb,hm.1])))
theorem StkAt.none {w w':World} {K:SK} (hk:StkAt w K) (h:Chg w w' none2):StkAt w' K:=hk.chg h (fun h=>h) fun _ _ h=>h
theorem Off.nxt {w:World} {K K':SK} {x:Sl} (h:Off K x) (hn:Nxt w K K') (hx:x.c≠0→x.b<w.heap.size):Off K' x:=fun i h1 h2 hf=>h i h1 h2 (hn.free (hx (by omega)) hf)
theorem OffL.nxt {w:World} {K K':SK} {x:Sl} (h:OffL K x) (hn:Nxt w K K') (hx:x.l≠0→x.b<w.heap.size):OffL K' x:=fun i h1 h2 hf=>h i h1 h2 (hn.free (hx (by omega)) hf)
theorem Chg.nz_off {w w':World} {K:SK} (h:Chg w w' K.free) {x:Sl} {X:Nat} (hx:Nz w x X) (ho:OffL K x):Nz w' x X:=h.nz hx fun i hi=>ho _ (by omega) (by omega)
theorem Off.new {w:World} {K:SK} (hk:StkAt w K) {z r:Sl} (hf:From w z r) (ho:Off K z):Off K r:=by
 rcases hf with ⟨_,e2,e3,e4⟩ | hf
 ·intro i h1 h2; rw [e3]; exact ho i (by omega) (by omega)
 ·intro i h1 h2 h3
  rcases h3 with e | e | ⟨e,h4,h5⟩
  ·have:=plain_lt hk.own.2; omega
  ·have:=plain_lt (hk.inn _ e).1.2; omega
  ·have:=hk.st.blk (by omega); omega
theorem ptrNil {w:World} (q:Option Nat):ptrEq w (q.map fun b=>(⟨b,0,none⟩:Addr)) none q.isNone:=by cases q <;> rfl
theorem c141 (w:World) (b:Nat) (s:Sl) (h:w.cell? ⟨b,0,none⟩=some s.v):Calls Tryz.prog 141 #[.pointer (some ⟨b,0,none⟩)] w fun e w'=>∃ v,e=.returned v∧v=.int .i64 (s.l:Int)∧w'=w :=
 F141.call (some ⟨b,0,none⟩) w _ fun B=>⟨b,0,rfl,_,_,_,h,fun B2=>ret1 rfl rfl ⟨rfl,rfl⟩⟩
theorem c103 (w:World) (K:SK) (hk:StkAt w K):Calls Tryz.prog 103 #[.pointer K.a] w fun e w'=>∃ v,e=.returned v∧v=.int .i64 (K.s.l:Int)∧w'=w:=by
 refine F103.call K.a w _ fun B=>⟨K.p,0,rfl,_,hk.cell,_,ptrNil _,?_⟩
 cases hq:K.q with
 | none=>exact bc_true rfl fun B1=>ret1 rfl rfl ⟨by rw [(hk.nil hq).1]; rfl,rfl⟩
 | some b =>
  refine bc_false rfl ((c141 w b K.s (hk.inn b hq).2.1).mono ?_)
  rintro e w' ⟨_,rfl,rfl,rfl⟩
  exact ⟨_,rfl,fun B1=>ret1 rfl rfl ⟨rfl,rfl⟩⟩
theorem stk_cut {w:World} {K:SK} (hk:StkAt w K) {b n:Nat} (hb:K.q=some b) (hn:n≤K.s.c):StkAt (w.setCell ⟨b,0,none⟩ (K.s.to n).v) (K.cut n)∧Chg w (w.setCell ⟨b,0,none⟩ (K.s.to n).v) K.free:=by
 obtain ⟨h1,h2,h3,h4⟩:=hk.inn b hb
 have hc:Chg w (w.setCell ⟨b,0,none⟩ (K.s.to n).v) (fun b' i=>b'=b∧i=0):=Chg.setCell h1 _ ⟨rfl,rfl⟩
 refine ⟨⟨hc.own hk.own,?_,by rw [hc.froz]; exact hk.fr,fun b' hb'=>?_,fun h=>(by have h:K.q=Option.none:=h; rw [hb] at h; cases h),(hc.st hk.st).to_st n hn,hk.ap⟩,hc.mono fun b' i _ hm=>.inr (.inl (by rw [hb,hm.1]))⟩
 ·show World.cell? _ ⟨K.p,0,none⟩=_
  rw [hc.cell (lt_of_cell hk.cell) (fun hm=>h4 hm.1.symm)]; exact hk.cell
 ·have hb':K.q=some b':=hb'
  rw [hb] at hb'; cases hb'
  exact ⟨hc.own h1,World.cell?_setCell_same _ _ _ h2,by rw [hc.froz]; exact h3,h4⟩
theorem c140 (w:World) (b n:Nat) (s:Sl) (h:w.cell? ⟨b,0,none⟩=some s.v) (hf:w.frozen? ⟨b,0,none⟩=false) (hn:n≤s.c) :
  Calls Tryz.prog 140 #[.pointer (some ⟨b,0,none⟩),.int .i64 (n:Int)] w fun e w'=>e=.returned undef∧w'=w.setCell ⟨b,0,none⟩ (s.to n).v:=by
 refine (F140.call (some ⟨b,0,none⟩) n w (fun v w'=>v=undef∧w'=w.setCell ⟨b,0,none⟩ (s.to n).v) fun B=>⟨b,0,rfl,_,_,_,h,n,rfl,hn,b,0,rfl,⟨_,h⟩,hf,fun B2=>ret0 rfl ⟨rfl,rfl⟩⟩).mono ?_
 rintro e w' ⟨v,rfl,rfl,rfl⟩
 exact ⟨rfl,rfl⟩
theorem c102 (w:World) (K:SK) (hk:StkAt w K) (n:Nat) (hn:n≤K.s.l):Calls Tryz.prog 102 #[.pointer K.a,.int .i64 (n:Int)] w fun e w'=>e=.returned undef∧StkAt w' (K.cut n)∧Chg w w' K.free:=by
 refine (F102.call K.a n w (fun v w'=>v=undef∧StkAt w' (K.cut n)∧Chg w w' K.free) fun B=>⟨K.p,0,rfl,_,hk.cell,_,ptrNil _,?_⟩).mono fun e w' ⟨v,h1,h2,h3⟩=>⟨by rw [h1,h2],h3⟩
 cases hq:K.q with
 | none =>
  have h0:=hk.nil hq
  refine bc_true rfl fun B1=>ret0' rfl ⟨rfl,?_,Chg.refl _ _⟩
  have e:K.cut n=K:=by
   have hn0:n=K.s.l:=by omega
   subst hn0; rfl
  rw [e]; exact hk
 | some b =>
  obtain ⟨h1,h2,h3,h4⟩:=hk.inn b hq
  have hc:=hk.st.lc
  refine bc_false rfl ((c140 w b n K.s h2 h3 (by omega)).mono ?_)
  rintro e w' ⟨rfl,rfl⟩
  exact ⟨rfl,fun B1=>ret0 rfl ⟨rfl,stk_cut hk hq (by omega)⟩⟩
theorem d102 (w:World) (K:SK) (hk:StkAt w K) (n:Nat) (hn:n≤K.s.l) (Q:World→Prop) (h:∀ w',StkAt w' (K.cut n)→Chg w w' K.free→Q w'):DCalls Tryz.prog 102 #[.pointer K.a,.int .i64 (n:Int)] w Q:=by
 refine dcalls_W (c:=F102.body) (args:=[.pointer K.a,.int .i64 (n:Int)]) Tryz.func102 (by kernel_rfl) Tryz.ntmps102 Tryz.results102 (of_decide_eq_true (by kernel_rfl)) (fun B=>F102.t0 K.a n w _ (fun B=>⟨K.p,0,rfl,_,hk.cell,_,ptrNil _,?_⟩) B)
 cases hq:K.q with
 | none =>
  have h0:=hk.nil hq
  have e:K.cut n=K:=by
   have hn0:n=K.s.l:=by omega
   subst hn0; rfl
  exact bc_true rfl fun B1=>⟨rfl,h w (by rw [e]; exact hk) (Chg.refl _ _)⟩
 | some b =>
  obtain ⟨h1,h2,h3,h4⟩:=hk.inn b hq
  have hc:=hk.st.lc
  refine bc_false rfl ((c140 w b n K.s h2 h3 (by omega)).mono ?_)
  rintro e w' ⟨rfl,rfl⟩
  have:=stk_cut hk hq (n:=n) (by omega)
  exact ⟨rfl,fun B1=>⟨rfl,h _ this.1 this.2⟩⟩
theorem c56 (w:World) (hg:GB≤w.heap.size):Calls Tryz.prog 56 #[] w fun e w'=>∃ v,e=.returned v∧∃ K:SK,v=.pointer K.a∧StkAt w' K∧K.s.l=0∧K.q=none∧w.heap.size≤K.p∧Chg w w' none2:=by
 refine F56.call w _ fun B B1=>ret1 rfl rfl ⟨⟨w.heap.size,none,⟨none,0,0,0,0⟩⟩,rfl,?_,rfl,rfl,Nat.le_refl _,Chg.alloc _ _ (RowKit.frozen?_alloc_cells _ _ _) _⟩
 have hh:(w.alloc (.cells #[(.pointer none:Value)] 126)).heap[w.heap.size]?=some (.cells #[(.pointer none:Value)] 126 (0,0)):=heap_alloc_new ..
 refine ⟨⟨hg,_,_,hh⟩,by rw [cell_eq,hh]; rfl,by rw [frozen_eq,hh]; rfl,fun b hb=>(by cases hb),fun _=>⟨rfl,rfl⟩,⟨Nat.le_refl _,fun h=>absurd rfl h,Wr.zero,fun h=>absurd rfl h,Nat.zero_le _,by simp; omega⟩,fun h=>absurd rfl h⟩
theorem d57 (w:World) (K:SK) (hk:StkAt w K) (Q:World→Prop) (h:∀ w',Chg w w' K.free→Q w'):DCalls Tryz.prog 57 #[.pointer K.a] w Q:=by
 refine dcalls_W (c:=F57.body) (args:=[.pointer K.a]) Tryz.func57 (by kernel_rfl) Tryz.ntmps57 Tryz.results57 (of_decide_eq_true (by kernel_rfl)) (fun B=>F57.t0 K.a w _ (fun B=>⟨K.p,0,rfl,_,hk.cell,_,ptrNil _,?_⟩) B)
 cases hq:K.q with
 | none=>exact bc_false rfl fun B1=>⟨rfl,h w (Chg.refl _ _)⟩
 | some b =>
  obtain ⟨h1,h2,h3,h4⟩:=hk.inn b hq
  refine bc_true rfl ?_
  have:Calls Tryz.prog 89 #[.pointer (some ⟨b,0,none⟩)] w fun e w'=>e=.returned undef∧w'=w.setCell ⟨b,0,none⟩ (K.s.to 0).v:=by
   refine (F89.call (some ⟨b,0,none⟩) w (fun v w'=>v=undef∧w'=w.setCell ⟨b,0,none⟩ (K.s.to 0).v) fun B=>⟨b,0,rfl,_,_,_,h2,0,rfl,Nat.zero_le _,b,0,rfl,⟨_,h2⟩,h3,fun B2=>ret0 rfl ⟨rfl,rfl⟩⟩).mono ?_
   rintro e w' ⟨v,rfl,rfl,rfl⟩
   exact ⟨rfl,rfl⟩
  refine this.mono ?_
  rintro e w' ⟨rfl,rfl⟩
  have:=stk_cut hk hq (n:=0) (Nat.zero_le _)
  exact ⟨rfl,fun B1=>⟨rfl,h _ this.2⟩⟩
end Go.Proofs.YtlkjiiibmfpbcaaGreatDoor
