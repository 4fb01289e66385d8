/- Verification conditions, printed by wip/gen/gen.py and shrink.py; each is held against vc by the kernel. No condition. -/
import Derived.Lib.Mul64
import Derived.Test.YtlkjiiibmfpbcaaGreatDoorS05
namespace Go.Proofs.YtlkjiiibmfpbcaaGreatDoor
open Go
set_option maxRecDepth 100000
set_option linter.unusedVariables false
namespace F5
noncomputable def body:Code:=bodyOf Tryz.f5
def kt:List (Nat × List Nat):=[]
variable (A0:Option Addr) (N0 C0:Nat) (I1:Int)
abbrev l0:List (Nat × Value):=[eS 0 A0 N0 C0,(1,.int .u8 I1)]
def v0:VP:=fun B ds w K=>bc (decide ((N0:Int)>(2147483647:Int))) (Kd K .ret [eB 4 true] ds w) (61≠(0:Int)∧inI64 (2+(IntKind.wrap .i64 (iRem I1 61)))∧∃ w2,∃ x3a,∃ x3l,∃ x3c,Sem.run Tryz.prog (Instr.buildSlice 37 1 #[(0,(.slice A0 N0 C0))]) w=.ok (.slice x3a x3l x3c) w2∧Cl 6 #[(.int .i64 260),(.slice x3a x3l x3c)] w2 fun r4 w5=>∃ x6,r4=.returned (.bool x6)∧bc (!x6) (Kd K .ret [eB 4 true] ds w5) (Cl 12 #[(.slice A0 N0 C0),(.int .i64 (2+(IntKind.wrap .i64 (iRem I1 61))))] w5 fun r8 w9=>∃ x10,r8=.returned (.string x10)∧Cl 14 #[(.string x10),(.int .i64 (2+(IntKind.wrap .i64 (iRem I1 61))))] w9 fun r11 w12=>∃ x13a,∃ x13l,∃ x13c,True∧∃ x14,True∧r11=.returned (.tuple #[(.slice x13a x13l x13c),(.bool x14)])∧bc x14 (Cl 8 #[(.slice A0 N0 C0)] w12 fun r15 w16=>∃ x17a,∃ x17l,∃ x17c,r15=.returned (.slice x17a x17l x17c)∧Cl 10 #[(.slice x13a x13l x13c),(.slice x17a x17l x17c)] w16 fun r18 w19=>∃ x20,r18=.returned (.bool x20)∧Kd K .ret [eB 4 x20] ds w19) (Kd K .ret [eB 4 false] ds w12)))
theorem t0:VZ 34 body (l0 A0 N0 C0 I1) (v0 A0 N0 C0 I1):=tz kt [4] fun B ds w K=>by kernel_rfl
theorem call:VCl 5 [.tmp 4] #[.slice A0 N0 C0,.int .u8 I1] (v0 A0 N0 C0 I1):=cz Tryz.func5 (by kernel_rfl) Tryz.ntmps5 Tryz.results5 (by kernel_rfl) (t0 A0 N0 C0 I1)
end F5
namespace F14
noncomputable def body:Code:=bodyOf Tryz.f14
def kt:List (Nat × List Nat):=[]
variable (T0:ByteArray) (I1:Int)
abbrev l0:List (Nat × Value):=[(0,.string T0),eI 1 I1]
def v0:VP:=fun B ds w K=>bc (I1 != 0) (bc (decide (I1<(2:Int))) (Kd K .ret [eS 4 none 0 0,eB 5 false] ds w) (bc (decide (I1>(62:Int))) (Kd K .ret [eS 4 none 0 0,eB 5 false] ds w) (Cl 30 #[(.pointer (some ⟨(World.heap w).size,0,none⟩)),(.string T0),(.int .i64 I1)] (World.alloc w (.cells #[(Value.bool Bool.false),(Value.slice none 0 0)] 47)) fun r3 w4=>∃ x5,True∧∃ x6,True∧r3=.returned (.tuple #[(.pointer x5),(.bool x6)])∧bc (!x6) (Kd K .ret [eS 4 none 0 0,eB 5 false] ds w4) (Cl 18 #[(.pointer x5)] w4 fun r8 w9=>∃ x10,r8=.returned (.int .i64 x10)∧bc (decide (x10<(0:Int))) (Kd K .ret [eS 4 none 0 0,eB 5 false] ds w9) (Cl 19 #[(.pointer x5)] w9 fun r12 w13=>∃ x14a,∃ x14l,∃ x14c,r12=.returned (.slice x14a x14l x14c)∧Kd K .ret [eS 4 x14a x14l x14c,eB 5 true] ds w13))))) (Cl 30 #[(.pointer (some ⟨(World.heap w).size,0,none⟩)),(.string T0),(.int .i64 I1)] (World.alloc w (.cells #[(Value.bool Bool.false),(Value.slice none 0 0)] 47)) fun r16 w17=>∃ x18,True∧∃ x19,True∧r16=.returned (.tuple #[(.pointer x18),(.bool x19)])∧bc (!x19) (Kd K .ret [eS 4 none 0 0,eB 5 false] ds w17) (Cl 18 #[(.pointer x18)] w17 fun r21 w22=>∃ x23,r21=.returned (.int .i64 x23)∧bc (decide (x23<(0:Int))) (Kd K .ret [eS 4 none 0 0,eB 5 false] ds w22) (Cl 19 #[(.pointer x18)] w22 fun r25 w26=>∃ x27a,∃ x27l,∃ x27c,r25=.returned (.slice x27a x27l x27c)∧Kd K .ret [eS 4 x27a x27l x27c,eB 5 true] ds w26)))
theorem t0:VZ 34 body (l0 T0 I1) (v0 T0 I1):=tz kt [4,5] fun B ds w K=>by kernel_rfl
theorem call:VCl 14 [.tmp 4,.tmp 5] #[.string T0,.int .i64 I1] (v0 T0 I1):=cz Tryz.func14 (by kernel_rfl) Tryz.ntmps14 Tryz.results14 (by kernel_rfl) (t0 T0 I1)
end F14
namespace F30
noncomputable def body:Code:=bodyOf Tryz.f30
def kt:List (Nat × List Nat):=[]
variable (D0:Option Addr) (T1:ByteArray) (I2:Int)
abbrev l0:List (Nat × Value):=[eP 0 D0,(1,.string T1),eI 2 I2]
def v0:VP:=fun B ds w K=>Cl 45 #[(.string T1)] w fun r1 w2=>∃ x3,r1=.returned (.pointer x3)∧Cl 44 #[(.pointer D0),(.iface 71 (.pointer x3)),(.int .i64 I2)] w2 fun r4 w5=>∃ x6,True∧∃ x7,True∧r4=.returned (.tuple #[(.pointer x6),(.bool x7)])∧Kd K .ret [eP 6 x6,eB 7 x7] ds w5
theorem t0:VZ 16 body (l0 D0 T1 I2) (v0 D0 T1 I2):=tz kt [6,7] fun B ds w K=>by kernel_rfl
theorem call:VCl 30 [.tmp 6,.tmp 7] #[.pointer D0,.string T1,.int .i64 I2] (v0 D0 T1 I2):=cz Tryz.func30 (by kernel_rfl) Tryz.ntmps30 Tryz.results30 (by kernel_rfl) (t0 D0 T1 I2)
end F30
namespace F44
noncomputable def body:Code:=bodyOf Tryz.f44
def kt:List (Nat × List Nat):=[]
variable (D0:Option Addr) (V1:Value) (I2:Int)
abbrev l0:List (Nat × Value):=[eP 0 D0,(1,V1),eI 2 I2]
def v0 : VP := fun B ds w K => Cl 63 #[(.pointer D0),V1,(.int .i64 I2)] w fun r1 w2 => ∃ x3,True ∧ ∃ x4,True ∧ ∃ x5,True ∧ r1 = .returned (.tuple #[(.pointer x3),(.int .i64 x4),x5]) ∧ ∃ w6,∃ x7,Sem.run Tryz.prog (do eqGuard .neq 95 (Operand.tmp 21) (Operand.const Value.nilIface) x5 Value.nilIface; Go.binOp .neq 95 x5 Value.nilIface) w2 = .ok (.bool x7) w6 ∧ bc x7 (Kd K .ret [eP 6 none,eB 7 false] ds w6) (∃ f9 as_10,Sem.run Tryz.prog (callMethod V1 "ReadByte" #[]) w6 = .ok (.enter f9 as_10) w6 ∧ Cl f9 as_10 w6 fun r11 w12 => ∃ x13,True ∧ ∃ x14,True ∧ r11 = .returned (.tuple #[(.int .u8 x13),x14]) ∧ ∃ x15,w12.cell? ⟨0,0,none⟩ = some x15 ∧ ∃ w16,∃ x17,Sem.run Tryz.prog (do eqGuard .neq 95 (Operand.tmp 28) (Operand.tmp 29) x14 x15; Go.binOp .neq 95 x14 x15) w12 = .ok (.bool x17) w16 ∧ bc x17 (Kd K .ret [eP 6 none,eB 7 false] ds w16) (Kd K .ret [eP 6 D0,eB 7 true] ds w16))
theorem t0:VZ 32 body (l0 D0 V1 I2) (v0 D0 V1 I2):=tz kt [6,7] fun B ds w K=>by kernel_rfl
theorem call:VCl 44 [.tmp 6,.tmp 7] #[.pointer D0,V1,.int .i64 I2] (v0 D0 V1 I2):=cz Tryz.func44 (by kernel_rfl) Tryz.ntmps44 Tryz.results44 (by kernel_rfl) (t0 D0 V1 I2)
end F44
namespace F45
noncomputable def body:Code:=bodyOf Tryz.f45
def kt:List (Nat × List Nat):=[]
variable (T0:ByteArray)
abbrev l0:List (Nat × Value):=[(0,.string T0)]
def v0:VP:=fun B ds w K=>Kd K .ret [eP 2 (some ⟨(World.heap w).size,0,none⟩)] ds (World.alloc w (.cells #[(.string T0),(.int .i64 0),(.int .i64 (-1))] 101))
theorem t0:VZ 6 body (l0 T0) (v0 T0):=tz kt [2] fun B ds w K=>by kernel_rfl
theorem call:VCl 45 [.tmp 2] #[.string T0] (v0 T0):=cz Tryz.func45 (by kernel_rfl) Tryz.ntmps45 Tryz.results45 (by kernel_rfl) (t0 T0)
end F45
namespace F63
noncomputable def body:Code:=bodyOf Tryz.f63
def kt:List (Nat × List Nat):=[]
variable (D0:Option Addr) (V1:Value) (I2:Int)
abbrev l0:List (Nat × Value):=[eP 0 D0,(1,V1),eI 2 I2]
def v0:VP:=fun B ds w K=>Cl 94 #[V1] w fun r1 w2=>∃ x3,True∧∃ x4,True∧r1=.returned (.tuple #[(.bool x3),x4])∧∃ w5,∃ x6,Sem.run Tryz.prog (do eqGuard .neq 95 (Operand.tmp 16) (Operand.const Value.nilIface) x4 Value.nilIface; Go.binOp .neq 95 x4 Value.nilIface) w2=.ok (.bool x6) w5∧bc x6 (Kd K .ret [eP 6 none,eI 7 0,(8,x4)] ds w5) (nc D0 fun b8 o9=>∃ x10a,∃ x10l,∃ x10c,w5.cell? ⟨b8,o9+1,none⟩=some (.slice x10a x10l x10c)∧Cl 95 #[(.slice x10a x10l x10c),V1,(.int .i64 I2),(.bool false)] w5 fun r11 w12=>∃ x13a,∃ x13l,∃ x13c,True∧∃ x14,True∧∃ x15,True∧∃ x16,True∧r11=.returned (.tuple #[(.slice x13a x13l x13c),(.int .i64 x14),(.int .i64 x15),x16])∧nc D0 fun b17 o18=>(∃ u19,w12.cell? ⟨b17,o18+1,none⟩=some u19)∧w12.frozen? ⟨b17,o18+1,none⟩=false∧∃ w20,∃ x21,Sem.run Tryz.prog (do eqGuard .neq 95 (Operand.tmp 34) (Operand.const Value.nilIface) x16 Value.nilIface; Go.binOp .neq 95 x16 Value.nilIface) (w12.setCell ⟨b17,o18+1,none⟩ (.slice x13a x13l x13c))=.ok (.bool x21) w20∧bc x21 (Kd K .ret [eP 6 none,eI 7 x14,(8,x16)] ds w20) (nc D0 fun b23 o24=>∃ x25a,∃ x25l,∃ x25c,w20.cell? ⟨b23,o24+1,none⟩=some (.slice x25a x25l x25c)∧bc (decide ((x25l:Int)>(0:Int))) (nc D0 fun b26 o27=>(∃ u28,w20.cell? ⟨b26,o27+0,none⟩=some u28)∧w20.frozen? ⟨b26,o27+0,none⟩=false∧Kd K .ret [eP 6 D0,eI 7 x14,(8,Value.nilIface)] ds (w20.setCell ⟨b26,o27+0,none⟩ (.bool x3))) (nc D0 fun b30 o31=>(∃ u32,w20.cell? ⟨b30,o31+0,none⟩=some u32)∧w20.frozen? ⟨b30,o31+0,none⟩=false∧Kd K .ret [eP 6 D0,eI 7 x14,(8,Value.nilIface)] ds (w20.setCell ⟨b30,o31+0,none⟩ (.bool false)))))
theorem t0:VZ 52 body (l0 D0 V1 I2) (v0 D0 V1 I2):=tz kt [6,7,8] fun B ds w K=>by kernel_rfl
theorem call:VCl 63 [.tmp 6,.tmp 7,.tmp 8] #[.pointer D0,V1,.int .i64 I2] (v0 D0 V1 I2):=cz Tryz.func63 (by kernel_rfl) Tryz.ntmps63 Tryz.results63 (by kernel_rfl) (t0 D0 V1 I2)
end F63
namespace F94
noncomputable def body:Code:=bodyOf Tryz.f94
def kt:List (Nat × List Nat):=[(1000000,[2,3])]
noncomputable def p1:Code:=sb 4 15 body
variable (V0:Value) (L2:Bool) (V3:Value)
abbrev l0:List (Nat × Value):=[(0,V0)]
def v0 : VP := fun B ds w K => ∃ f1 as_2,Sem.run Tryz.prog (callMethod V0 "ReadByte" #[]) w = .ok (.enter f1 as_2) w ∧ Cl f1 as_2 w fun r3 w4 => ∃ x5,True ∧ ∃ x6,True ∧ r3 = .returned (.tuple #[(.int .u8 x5),x6]) ∧ ∃ w7,∃ x8,Sem.run Tryz.prog (do eqGuard .neq 95 (Operand.tmp 10) (Operand.const Value.nilIface) x6 Value.nilIface; Go.binOp .neq 95 x6 Value.nilIface) w4 = .ok (.bool x8) w7 ∧ bc x8 (Kd K .ret [eB 2 false,(3,x6)] ds w7) (bc (x5 == 45) (Wd 20 p1 [eB 2 true,(3,x6)] ds w7 K) (bc (x5 == 43) (Wd 20 p1 [eB 2 false,(3,x6)] ds w7 K) (∃ f12 as_13,Sem.run Tryz.prog (callMethod V0 "UnreadByte" #[]) w7 = .ok (.enter f12 as_13) w7 ∧ Cl f12 as_13 w7 fun r14 w15 => ∃ x16,r14 = .returned x16 ∧ Wd 20 p1 [eB 2 false,(3,x6)] ds w15 K)))
theorem t0:VZ 20 body (l0 V0) (v0 V0):=tz kt [2,3] fun B ds w K=>by kernel_rfl
theorem call:VCl 94 [.tmp 2,.tmp 3] #[V0] (v0 V0):=cz Tryz.func94 (by kernel_rfl) Tryz.ntmps94 Tryz.results94 (by kernel_rfl) (t0 V0)
abbrev l1:List (Nat × Value):=[eB 2 L2,(3,V3)]
def v1:VP:=fun B ds w K=>Kd K .ret [eB 2 L2,(3,V3)] ds w
theorem t1:VT 20 p1 (l1 L2 V3) (v1 L2 V3):=tw kt [2,3] fun B ds w K=>by kernel_rfl
end F94
namespace F129
noncomputable def body:Code:=bodyOf Tryz.f129
def kt:List (Nat × List Nat):=[(2,[0,1,4]),(5,[0,1,4]),(1000000,[4])]
noncomputable def p1:Code:=sb 3 7 body
noncomputable def p2:Code:=sb 5 24 body
noncomputable def p3:Code:=sb 3 6 body
noncomputable def p4:Code:=sb 8 197 body
theorem q3:p3=.block 0 (.loop p2):=by kernel_rfl
variable (I0 I1 I4:Int)
abbrev l0:List (Nat × Value):=[eU 0 I0,eI 1 I1]
def v0:VP:=fun B ds w K=>Wd 18 p3 [eU 0 I0,eI 1 I1,eU 4 1] ds w (thenW Tryz.prog 18 p1 K)
theorem t0:VZ 18 body (l0 I0 I1) (v0 I0 I1):=tz kt [4] fun B ds w K=>by kernel_rfl
theorem call:VCl 129 [.tmp 4] #[.int .u64 I0,.int .i64 I1] (v0 I0 I1):=cz Tryz.func129 (by kernel_rfl) Tryz.ntmps129 Tryz.results129 (by kernel_rfl) (t0 I0 I1)
abbrev l1:List (Nat × Value):=[eU 4 I4]
def v1:VP:=fun B ds w K=>Kd K .ret [eU 4 I4] ds w
theorem t1:VT 18 p1 (l1 I4) (v1 I4):=tw kt [4] fun B ds w K=>by kernel_rfl
abbrev l2:List (Nat × Value):=[eU 0 I0,eI 1 I1,eU 4 I4]
def v2:VP:=fun B ds w K=>bc (decide (I1>(0:Int))) (bc ((iAnd .i64 I1 1) != 0) (Wd 18 p4 [eU 0 I0,eI 1 I1,eU 4 (IntKind.wrap .u64 (I4*I0))] ds w (blockK 1 K)) (Wd 18 p4 [eU 0 I0,eI 1 I1,eU 4 I4] ds w (blockK 1 K))) (Kd K (.exit 0) [eU 0 I0,eI 1 I1,eU 4 I4] ds w)
theorem t2:VT 18 p2 (l2 I0 I1 I4) (v2 I0 I1 I4):=tw kt [0,1,4] fun B ds w K=>by kernel_rfl
abbrev l4:List (Nat × Value):=[eU 0 I0,eI 1 I1,eU 4 I4]
def v4:VP:=fun B ds w K=>(0:Int)≤1∧Kd K .normal [eU 0 (IntKind.wrap .u64 (I0*I0)),eI 1 (iShr .i64 I1 1),eU 4 I4] ds w
theorem t4:VT 18 p4 (l4 I0 I1 I4) (v4 I0 I1 I4):=tw kt [0,1,4] fun B ds w K=>by kernel_rfl
end F129
namespace F130
noncomputable def body:Code:=bodyOf Tryz.f130
def kt:List (Nat × List Nat):=[(1,[0,2,3])]
noncomputable def p1:Code:=sb 3 4 body
noncomputable def p2:Code:=sb 1 1 body
theorem q2:p2=.block 0 (.loop p1):=by kernel_rfl
variable (A0:Option Addr) (N0 C0:Nat) (I2 I3:Int)
abbrev l0:List (Nat × Value):=[eS 0 A0 N0 C0]
def v0:VP:=fun B ds w K=>inI64 ((N0:Int)-1)∧Wd 28 p2 [eS 0 A0 N0 C0,eI 2 0,eI 3 ((N0:Int)-1)] ds w K
theorem t0:VZ 28 body (l0 A0 N0 C0) (v0 A0 N0 C0):=tz kt [] fun B ds w K=>by kernel_rfl
theorem call:VCl 130 [] #[.slice A0 N0 C0] (v0 A0 N0 C0):=cz Tryz.func130 (by kernel_rfl) Tryz.ntmps130 Tryz.results130 (by kernel_rfl) (t0 A0 N0 C0)
abbrev l1:List (Nat × Value):=[eS 0 A0 N0 C0,eI 2 I2,eI 3 I3]
def v1:VP:=fun B ds w K=>bc (decide (I2<(I3:Int))) (nc A0 fun b2 o3=>∃ k1:Nat,I3=(k1:Int)∧k1<N0∧∃ x4,w.drew.cell? ⟨b2,o3+k1,none⟩=some (.int .u64 x4)∧nc A0 fun b6 o7=>∃ k5:Nat,I2=(k5:Int)∧k5<N0∧∃ x8,w.drew.cell? ⟨b6,o7+k5,none⟩=some (.int .u64 x8)∧nc A0 fun b10 o11=>∃ k9:Nat,I2=(k9:Int)∧k9<N0∧(∃ u12,w.drew.cell? ⟨b10,o11+k9,none⟩=some u12)∧w.drew.frozen? ⟨b10,o11+k9,none⟩=false∧nc A0 fun b14 o15=>∃ k13:Nat,I3=(k13:Int)∧k13<N0∧(∃ u16,World.cell? (w.drew.setCell ⟨b10,o11+k9,none⟩ (.int .u64 x4)) ⟨b14,o15+k13,none⟩=some u16)∧World.frozen? (w.drew.setCell ⟨b10,o11+k9,none⟩ (.int .u64 x4)) ⟨b14,o15+k13,none⟩=false∧inI64 (I2+1)∧inI64 (I3-1)∧Kd K .normal [eS 0 A0 N0 C0,eI 2 (I2+1),eI 3 (I3-1)] ds (World.setCell (w.drew.setCell ⟨b10,o11+k9,none⟩ (.int .u64 x4)) ⟨b14,o15+k13,none⟩ (.int .u64 x8))) (Kd K (.exit 0) [eS 0 A0 N0 C0,eI 2 I2,eI 3 I3] ds w)
theorem t1:VT 28 p1 (l1 A0 N0 C0 I2 I3) (v1 A0 N0 C0 I2 I3):=tw kt [0,2,3] fun B ds w K=>by kernel_rfl
end F130
namespace F203
noncomputable def body:Code:=bodyOf Tryz.f203
def kt:List (Nat × List Nat):=[]
variable (D0:Option Addr)
abbrev l0:List (Nat × Value):=[eP 0 D0]
def v0:VP:=fun B ds w K=>nc D0 fun b1 o2=>(∃ u3,w.cell? ⟨b1,o2+2,none⟩=some u3)∧w.frozen? ⟨b1,o2+2,none⟩=false∧nc D0 fun b4 o5=>∃ x6,World.cell? (World.drew (w.setCell ⟨b1,o2+2,none⟩ (.int .i64 (-1)))) ⟨b4,o5+1,none⟩=some (.int .i64 x6)∧nc D0 fun b7 o8=>∃ x9,World.cell? (World.drew (w.setCell ⟨b1,o2+2,none⟩ (.int .i64 (-1)))) ⟨b7,o8+0,none⟩=some (.string x9)∧bc (decide (x6≥(((x9.size:Nat):Int):Int))) (∃ x10,World.cell? (World.drew (World.drew (w.setCell ⟨b1,o2+2,none⟩ (.int .i64 (-1))))) ⟨0,0,none⟩=some x10∧Kd K .ret [(2,.int .u8 0),(3,x10)] ds (World.drew (World.drew (w.setCell ⟨b1,o2+2,none⟩ (.int .i64 (-1)))))) (nc D0 fun b12 o13=>∃ x14,World.cell? (World.drew (World.drew (w.setCell ⟨b1,o2+2,none⟩ (.int .i64 (-1))))) ⟨b12,o13+0,none⟩=some (.string x14)∧nc D0 fun b15 o16=>∃ x17,World.cell? (World.drew (World.drew (w.setCell ⟨b1,o2+2,none⟩ (.int .i64 (-1))))) ⟨b15,o16+1,none⟩=some (.int .i64 x17)∧∃ (k19:Nat) (c18:UInt8),x17=(k19:Int)∧(x14)[k19]?=some c18∧nc D0 fun b20 o21=>∃ x22,World.cell? (World.drew (World.drew (w.setCell ⟨b1,o2+2,none⟩ (.int .i64 (-1))))) ⟨b20,o21+1,none⟩=some (.int .i64 x22)∧inI64 (x22+1)∧nc D0 fun b23 o24=>(∃ u25,World.cell? (World.drew (World.drew (w.setCell ⟨b1,o2+2,none⟩ (.int .i64 (-1))))) ⟨b23,o24+1,none⟩=some u25)∧World.frozen? (World.drew (World.drew (w.setCell ⟨b1,o2+2,none⟩ (.int .i64 (-1))))) ⟨b23,o24+1,none⟩=false∧Kd K .ret [(2,.int .u8 ((c18.toNat:Nat):Int)),(3,Value.nilIface)] ds (World.setCell (World.drew (World.drew (w.setCell ⟨b1,o2+2,none⟩ (.int .i64 (-1))))) ⟨b23,o24+1,none⟩ (.int .i64 (x22+1))))
theorem t0:VZ 36 body (l0 D0) (v0 D0):=tz kt [2,3] fun B ds w K=>by kernel_rfl
theorem call:VCl 203 [.tmp 2,.tmp 3] #[.pointer D0] (v0 D0):=cz Tryz.func203 (by kernel_rfl) Tryz.ntmps203 Tryz.results203 (by kernel_rfl) (t0 D0)
end F203
namespace F204
noncomputable def body:Code:=bodyOf Tryz.f204
def kt:List (Nat × List Nat):=[]
variable (D0:Option Addr)
abbrev l0:List (Nat × Value):=[eP 0 D0]
def v0:VP:=fun B ds w K=>nc D0 fun b1 o2=>∃ x3,w.cell? ⟨b1,o2+1,none⟩=some (.int .i64 x3)∧bc (decide (x3≤(0:Int))) (Cl 205 #[(.string strK10)] w fun r4 w5=>∃ x6,r4=.returned x6∧Kd K .ret [(2,x6)] ds w5) (nc D0 fun b8 o9=>(∃ u10,w.cell? ⟨b8,o9+2,none⟩=some u10)∧w.frozen? ⟨b8,o9+2,none⟩=false∧nc D0 fun b11 o12=>∃ x13,World.cell? (w.setCell ⟨b8,o9+2,none⟩ (.int .i64 (-1))) ⟨b11,o12+1,none⟩=some (.int .i64 x13)∧inI64 (x13-1)∧nc D0 fun b14 o15=>(∃ u16,World.cell? (w.setCell ⟨b8,o9+2,none⟩ (.int .i64 (-1))) ⟨b14,o15+1,none⟩=some u16)∧World.frozen? (w.setCell ⟨b8,o9+2,none⟩ (.int .i64 (-1))) ⟨b14,o15+1,none⟩=false∧Kd K .ret [(2,Value.nilIface)] ds (World.setCell (w.setCell ⟨b8,o9+2,none⟩ (.int .i64 (-1))) ⟨b14,o15+1,none⟩ (.int .i64 (x13-1))))
theorem t0:VZ 19 body (l0 D0) (v0 D0):=tz kt [2] fun B ds w K=>by kernel_rfl
theorem call:VCl 204 [.tmp 2] #[.pointer D0] (v0 D0):=cz Tryz.func204 (by kernel_rfl) Tryz.ntmps204 Tryz.results204 (by kernel_rfl) (t0 D0)
end F204
end Go.Proofs.YtlkjiiibmfpbcaaGreatDoor
namespace Go.Proofs.YtlkjiiibmfpbcaaGreatDoor
open Go
def BB:Nat:=18446744073709551616
theorem BB_pos:0<BB:=by unfold BB; omega
theorem wrapM (a:Nat):IntKind.wrap .u64 (a:Int)=((a%18446744073709551616:Nat):Int):=by
 simp only [IntKind.wrap,IntKind.bits,IntKind.signed,Bool.false_and,Bool.false_eq_true,if_false]; omega
theorem wrapE (n:Int):IntKind.wrap .u64 n=n%18446744073709551616:=by
 simp only [IntKind.wrap,IntKind.bits,IntKind.signed,Bool.false_and,Bool.false_eq_true,if_false]; omega
theorem wrapN (a:Nat) (h:a<18446744073709551616):IntKind.wrap .u64 (a:Int)=a:=by rw [wrapM]; omega
theorem wrapIN (n:Nat) (h:n≤9223372036854775807):IntKind.wrap .i64 (n:Int)=n:=IntWalk.i64_in _ (by omega)
theorem ofInt_nat (k:Nat) (a:Nat) (ha:a<2^k):(BitVec.ofInt k (a:Int)).toNat=a:=by
 rw [BitVec.ofInt_natCast,BitVec.toNat_ofNat,Nat.mod_eq_of_lt ha]
theorem iAndN (a b:Nat) (ha:a<18446744073709551616) (hb:b<18446744073709551616):iAnd .u64 a b=((a &&& b:Nat):Int):=by
 unfold iAnd
 have h:(BitVec.ofInt (IntKind.bits .u64) (a:Int) &&& BitVec.ofInt (IntKind.bits .u64) (b:Int)).toNat=a &&& b:=by
  show (BitVec.ofInt 64 (a:Int) &&& BitVec.ofInt 64 (b:Int)).toNat=_
  rw [BitVec.toNat_and,ofInt_nat 64 a (by omega),ofInt_nat 64 b (by omega)]
 rw [h,wrapN _ (Nat.lt_of_le_of_lt Nat.and_le_left ha)]
theorem iOrN (a b:Nat) (ha:a<18446744073709551616) (hb:b<18446744073709551616):iOr .u64 a b=((a ||| b:Nat):Int):=by
 unfold iOr
 have h:(BitVec.ofInt (IntKind.bits .u64) (a:Int) ||| BitVec.ofInt (IntKind.bits .u64) (b:Int)).toNat=a ||| b:=by
  show (BitVec.ofInt 64 (a:Int) ||| BitVec.ofInt 64 (b:Int)).toNat=_
  rw [BitVec.toNat_or,ofInt_nat 64 a (by omega),ofInt_nat 64 b (by omega)]
 rw [h,wrapN]
 have:=Nat.or_lt_two_pow (x:=a) (y:=b) (n:=64) (by omega) (by omega)
 omega
theorem iNotN (a:Nat) (ha:a<18446744073709551616):iNot .u64 a=((18446744073709551615-a:Nat):Int):=by
 unfold iNot
 have h:(BitVec.ofInt (IntKind.bits .u64) (if IntKind.signed .u64 then -1 else IntKind.max .u64) ^^^ BitVec.ofInt (IntKind.bits .u64) (a:Int)).toNat=18446744073709551615-a:=by
  have h1:BitVec.ofInt (IntKind.bits .u64) (if IntKind.signed .u64 then -1 else IntKind.max .u64)=BitVec.allOnes 64:=rfl
  rw [h1]
  show (BitVec.allOnes 64 ^^^ BitVec.ofInt 64 (a:Int)).toNat=_
  rw [BitVec.allOnes_xor,BitVec.toNat_not,ofInt_nat 64 a (by omega)]
 rw [h,wrapN _ (by omega)]
theorem iShlN (a k:Nat):iShl .u64 a k=((a*2^(min k 64)%18446744073709551616:Nat):Int):=by
 unfold iShl
 rw [←wrapM]
 congr 1
theorem iShrN (a k:Nat):iShr .u64 a k=((a/2^(min k 64):Nat):Int):=by
 unfold iShr
 simp only [Int.toNat_natCast,IntKind.bits]
 rw [Int.fdiv_eq_ediv_of_nonneg _ (Int.pow_nonneg (by omega)),Int.natCast_ediv,Int.natCast_pow]
 rfl
theorem iQuoN (a b:Nat) (ha:a<18446744073709551616):iQuo .u64 a b=((a/b:Nat):Int):=by
 unfold iQuo
 have h:(a:Int).tdiv b=((a/b:Nat):Int):=by rw [Int.tdiv_eq_ediv_of_nonneg (by omega),Int.natCast_ediv]
 rw [h,wrapN _ (Nat.lt_of_le_of_lt (Nat.div_le_self _ _) ha)]
theorem iRemN (a b:Nat):iRem a b=((a%b:Nat):Int):=by
 unfold iRem
 rw [Int.tmod_eq_emod_of_nonneg (by omega),Int.natCast_emod]
theorem iAndMask (a k:Nat) (hk:k≤64) (ha:a<18446744073709551616):iAnd .u64 a ((2^k-1:Nat):Int)=((a%2^k:Nat):Int):=by
 have h2:2^k≤18446744073709551616:=by
  have:=Nat.pow_le_pow_right (show 0<2 by omega) hk
  have e:(2:Nat)^64=18446744073709551616:=rfl
  omega
 rw [iAndN a _ ha (by have:=Nat.two_pow_pos k; omega),Nat.and_two_pow_sub_one_eq_mod]
abbrev Told (f:FuncId) (args:Array Value) (v:Value):Prop:=∀ w,Calls Tryz.prog f args w fun e w'=>e=.returned v∧w'=w
theorem add64_run (x y c:Nat) (hc:c≤1) (w:World):Sem.run Tryz.prog (callFunc 181 #[.int .u64 (x:Int),.int .u64 (y:Int),.int .u64 (c:Int)]) w =
  .ok (.value (.tuple #[.int .u64 (((x+y+c)%18446744073709551616:Nat):Int),.int .u64 (((x+y+c)/18446744073709551616:Nat):Int)])) w:=by
 rw [run_callFunc_extern (e:=add64Entry) Tryz.func181 (by kernel_rfl) (by kernel_rfl) (by kernel_rfl) (by kernel_rfl)]
 rw [run_add64 _ _ _ (by omega) (by omega) (by omega) (by omega)]
 rfl
def sub64Entry:Array Value→Sem Value:=fun args=>do
 let (x, y, b) ← Extern.MathBitsCarry.three "Sub64" args
 pure (Extern.MathBitsCarry.pair ((x+Extern.MathBitsCarry.m64-y-b)%Extern.MathBitsCarry.m64) (if x<y+b then 1 else 0))
theorem sub64_run (x y c:Nat) (hc:c≤1) (hy:y<18446744073709551616) (w:World):Sem.run Tryz.prog (callFunc 153 #[.int .u64 (x:Int),.int .u64 (y:Int),.int .u64 (c:Int)]) w =
  .ok (.value (.tuple #[.int .u64 (((x+18446744073709551616-(y+c))%18446744073709551616:Nat):Int),.int .u64 ((if x<y+c then 1 else 0:Nat):Int)])) w:=by
 rw [run_callFunc_extern (e:=sub64Entry) Tryz.func153 (by kernel_rfl) (by kernel_rfl) (by kernel_rfl) (by kernel_rfl)]
 have h:(sub64Entry #[.int .u64 (x:Int),.int .u64 (y:Int),.int .u64 (c:Int)]).run Tryz.prog w =
   .ok (Extern.MathBitsCarry.pair ((x+Extern.MathBitsCarry.m64-y-c)%Extern.MathBitsCarry.m64) (if x<y+c then 1 else 0)) w:=by
  have:c=0∨c=1:=by omega
  rcases this with rfl | rfl <;> rfl
 rw [h]
 simp only [Result.andThen_ok,Extern.MathBitsCarry.pair,Extern.MathBitsCarry.m64]
 rw [Nat.sub_sub]
 rfl
end Go.Proofs.YtlkjiiibmfpbcaaGreatDoor
