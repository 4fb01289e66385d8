/- Verification conditions, printed by wip/gen/gen.py and shrink.py; each is held against vc by the kernel. No condition. -/
import Derived.Test.YtlkjiiibmfpbcaaGreatDoorS05
import Derived.Test.YtlkjiiibmfpbcaaGreatDoorS09
namespace Go.Proofs.YtlkjiiibmfpbcaaGreatDoor
open Go
set_option maxRecDepth 100000
set_option linter.unusedVariables false
namespace F139
noncomputable def body:Code:=bodyOf Tryz.f139
def kt:List (Nat × List Nat):=[(3,[0,1,2]),(10,[]),(11,[0,1]),(12,[0,1,9]),(13,[0,1,9]),(19,[]),(20,[0,1,9]),(21,[])]
noncomputable def p1:Code:=sb 2 3 body
noncomputable def p2:Code:=sb 6 63 body
noncomputable def p3:Code:=sb 9 501 body
noncomputable def p4:Code:=sb 7 127 body
noncomputable def p5:Code:=sb 10 1012 body
noncomputable def p6:Code:=sb 8 253 body
noncomputable def p7:Code:=sb 15 32403 body
noncomputable def p8:Code:=sb 12 4051 body
noncomputable def p9:Code:=sb 19 518443 body
theorem q6:p6=.block 0 (.loop p5):=by kernel_rfl
variable (A0:Option Addr) (N0 C0:Nat) (A1:Option Addr) (N1 C1:Nat) (I2 I9:Int)
abbrev l0:List (Nat × Value):=[eS 0 A0 N0 C0,eS 1 A1 N1 C1,eU 2 I2]
def v0:VP:=fun B ds w K=>bc ((N1:Int) != (N0:Int)) False (Wd 78 p1 [eS 0 A0 N0 C0,eS 1 A1 N1 C1,eU 2 I2] ds w K)
theorem t0:VZ 78 body (l0 A0 N0 C0 A1 N1 C1 I2) (v0 A0 N0 C0 A1 N1 C1 I2):=tz kt [6] fun B ds w K=>by kernel_rfl
theorem call:VCl 139 [.tmp 6] #[.slice A0 N0 C0,.slice A1 N1 C1,.int .u64 I2] (v0 A0 N0 C0 A1 N1 C1 I2):=cz Tryz.func139 (by kernel_rfl) Tryz.ntmps139 Tryz.results139 (by kernel_rfl) (t0 A0 N0 C0 A1 N1 C1 I2)
abbrev l1:List (Nat × Value):=[eS 0 A0 N0 C0,eS 1 A1 N1 C1,eU 2 I2]
def v1:VP:=fun B ds w K=>bc ((N0:Int)==0) (Kd K .ret [eU 6 I2] ds w) (nc A1 fun b3 o4=>∃ k2:Nat,0=(k2:Int)∧k2<N1∧∃ x5,w.cell? ⟨b3,o4+k2,none⟩=some (.int .u64 x5)∧Cl 163 #[(.int .u64 x5),(.int .u64 I2),(.int .u64 0)] w fun r6 w7=>∃ x8,True∧∃ x9,True∧r6=.returned (.tuple #[(.int .u64 x8),(.int .u64 x9)])∧nc A0 fun b11 o12=>∃ k10:Nat,0=(k10:Int)∧k10<N0∧(∃ u13,w7.cell? ⟨b11,o12+k10,none⟩=some u13)∧w7.frozen? ⟨b11,o12+k10,none⟩=false∧bc (x9==0) (nc A0 fun b15 o16=>∃ k14:Nat,0=(k14:Int)∧k14<N0∧nc A1 fun b18 o19=>∃ k17:Nat,0=(k17:Int)∧k17<N1∧∃ q20,ptrEq (World.drew (w7.setCell ⟨b11,o12+k10,none⟩ (.int .u64 x8))) (some ⟨b15,o16+k14,none⟩) (some ⟨b18,o19+k17,none⟩) q20∧bc (!q20) (∃ i21:Nat,1=(i21:Int)∧i21≤N0∧∃ i24:Nat,1=(i24:Int)∧i24≤N1∧∃ w27,∃ x28,Sem.run Tryz.prog (builtin .copy #[44,44] 3 #[false,false] #[(.slice (shifted A0 i21 C0 1) (N0-i21) (C0-i21)),(.slice (shifted A1 i24 C1 1) (N1-i24) (C1-i24))]) (World.drew (World.drew (w7.setCell ⟨b11,o12+k10,none⟩ (.int .u64 x8))))=.ok (.value (.int .i64 x28)) w27∧Wd 78 p3 [] ds w27 (thenW Tryz.prog 78 p2 K)) (Wd 78 p3 [] ds (World.drew (w7.setCell ⟨b11,o12+k10,none⟩ (.int .u64 x8))) (thenW Tryz.prog 78 p2 K))) (Wd 78 p2 [eS 0 A0 N0 C0,eS 1 A1 N1 C1] ds (w7.setCell ⟨b11,o12+k10,none⟩ (.int .u64 x8)) K))
theorem t1:VT 78 p1 (l1 A0 N0 C0 A1 N1 C1 I2) (v1 A0 N0 C0 A1 N1 C1 I2):=tw kt [6] fun B ds w K=>by kernel_rfl
abbrev l2:List (Nat × Value):=[eS 0 A0 N0 C0,eS 1 A1 N1 C1]
def v2:VP:=fun B ds w K=>Wd 78 p6 [eS 0 A0 N0 C0,eS 1 A1 N1 C1,eI 9 1] ds w (thenW Tryz.prog 78 p4 K)
theorem t2:VT 78 p2 (l2 A0 N0 C0 A1 N1 C1) (v2 A0 N0 C0 A1 N1 C1):=tw kt [6] fun B ds w K=>by kernel_rfl
abbrev l3:List (Nat × Value):=[]
def v3:VP:=fun B ds w K=>Kd K .ret [eU 6 0] ds w
theorem t3:VT 78 p3 l3 v3:=tw kt [6] fun B ds w K=>by kernel_rfl
abbrev l4:List (Nat × Value):=[]
def v4:VP:=fun B ds w K=>Kd K .ret [eU 6 1] ds w
theorem t4:VT 78 p4 l4 v4:=tw kt [6] fun B ds w K=>by kernel_rfl
abbrev l5:List (Nat × Value):=[eS 0 A0 N0 C0,eS 1 A1 N1 C1,eI 9 I9]
def v5:VP:=fun B ds w K=>bc (decide (I9<(N0:Int))) (nc A1 fun b2 o3=>∃ k1:Nat,I9=(k1:Int)∧k1<N1∧∃ x4,w.cell? ⟨b2,o3+k1,none⟩=some (.int .u64 x4)∧bc (x4 != 18446744073709551615) (nc A0 fun b6 o7=>∃ k5:Nat,I9=(k5:Int)∧k5<N0∧(∃ u8,w.cell? ⟨b6,o7+k5,none⟩=some u8)∧w.frozen? ⟨b6,o7+k5,none⟩=false∧nc A0 fun b10 o11=>∃ k9:Nat,0=(k9:Int)∧k9<N0∧nc A1 fun b13 o14=>∃ k12:Nat,0=(k12:Int)∧k12<N1∧∃ q15,ptrEq (World.drew (w.setCell ⟨b6,o7+k5,none⟩ (.int .u64 (IntKind.wrap .u64 (x4+1))))) (some ⟨b10,o11+k9,none⟩) (some ⟨b13,o14+k12,none⟩) q15∧bc (!q15) (inI64 (I9+1)∧∃ i16:Nat,(I9+1)=(i16:Int)∧i16≤N0∧inI64 (I9+1)∧∃ i19:Nat,(I9+1)=(i19:Int)∧i19≤N1∧∃ w22,∃ x23,Sem.run Tryz.prog (builtin .copy #[44,44] 3 #[false,false] #[(.slice (shifted A0 i16 C0 1) (N0-i16) (C0-i16)),(.slice (shifted A1 i19 C1 1) (N1-i19) (C1-i19))]) (World.drew (World.drew (w.setCell ⟨b6,o7+k5,none⟩ (.int .u64 (IntKind.wrap .u64 (x4+1))))))=.ok (.value (.int .i64 x23)) w22∧Wd 78 p9 [] ds w22 (thenW Tryz.prog 78 p7 (blockK 1 (thenW Tryz.prog 78 p8 K)))) (Wd 78 p9 [] ds (World.drew (w.setCell ⟨b6,o7+k5,none⟩ (.int .u64 (IntKind.wrap .u64 (x4+1))))) (thenW Tryz.prog 78 p7 (blockK 1 (thenW Tryz.prog 78 p8 K))))) (Wd 78 p7 [eS 0 A0 N0 C0,eS 1 A1 N1 C1,eI 9 I9] ds w (blockK 1 (thenW Tryz.prog 78 p8 K)))) (Kd K (.exit 0) [eS 0 A0 N0 C0,eS 1 A1 N1 C1,(6,B 6),eI 9 I9] ds w)
theorem t5:VT 78 p5 (l5 A0 N0 C0 A1 N1 C1 I9) (v5 A0 N0 C0 A1 N1 C1 I9):=tw kt [0,1,6,9] fun B ds w K=>by kernel_rfl
abbrev l7:List (Nat × Value):=[eS 0 A0 N0 C0,eS 1 A1 N1 C1,eI 9 I9]
def v7:VP:=fun B ds w K=>nc A0 fun b2 o3=>∃ k1:Nat,I9=(k1:Int)∧k1<N0∧(∃ u4,w.cell? ⟨b2,o3+k1,none⟩=some u4)∧w.frozen? ⟨b2,o3+k1,none⟩=false∧Kd K .normal [eS 0 A0 N0 C0,eS 1 A1 N1 C1,eI 9 I9] ds (w.setCell ⟨b2,o3+k1,none⟩ (.int .u64 0))
theorem t7:VT 78 p7 (l7 A0 N0 C0 A1 N1 C1 I9) (v7 A0 N0 C0 A1 N1 C1 I9):=tw kt [0,1,9] fun B ds w K=>by kernel_rfl
abbrev l8:List (Nat × Value):=[eS 0 A0 N0 C0,eS 1 A1 N1 C1,eI 9 I9]
def v8:VP:=fun B ds w K=>inI64 (I9+1)∧Kd K .normal [eS 0 A0 N0 C0,eS 1 A1 N1 C1,eI 9 (I9+1)] ds w
theorem t8:VT 78 p8 (l8 A0 N0 C0 A1 N1 C1 I9) (v8 A0 N0 C0 A1 N1 C1 I9):=tw kt [0,1,9] fun B ds w K=>by kernel_rfl
abbrev l9:List (Nat × Value):=[]
def v9:VP:=fun B ds w K=>Kd K .ret [eU 6 0] ds w
theorem t9:VT 78 p9 l9 v9:=tw kt [6] fun B ds w K=>by kernel_rfl
end F139
namespace F83
noncomputable def body:Code:=bodyOf Tryz.f83
def kt:List (Nat × List Nat):=[(3,[0,1,2]),(10,[]),(11,[0,1]),(12,[0,1,9]),(13,[0,1,9]),(19,[]),(20,[0,1,9]),(21,[])]
noncomputable def p1:Code:=sb 2 3 body
noncomputable def p2:Code:=sb 6 63 body
noncomputable def p3:Code:=sb 9 501 body
noncomputable def p4:Code:=sb 7 127 body
noncomputable def p5:Code:=sb 10 1012 body
noncomputable def p6:Code:=sb 8 253 body
noncomputable def p7:Code:=sb 15 32403 body
noncomputable def p8:Code:=sb 12 4051 body
noncomputable def p9:Code:=sb 19 518443 body
theorem q6:p6=.block 0 (.loop p5):=by kernel_rfl
variable (A0:Option Addr) (N0 C0:Nat) (A1:Option Addr) (N1 C1:Nat) (I2 I9:Int)
abbrev l0:List (Nat × Value):=[eS 0 A0 N0 C0,eS 1 A1 N1 C1,eU 2 I2]
def v0:VP:=fun B ds w K=>bc ((N1:Int) != (N0:Int)) False (Wd 78 p1 [eS 0 A0 N0 C0,eS 1 A1 N1 C1,eU 2 I2] ds w K)
theorem t0:VZ 78 body (l0 A0 N0 C0 A1 N1 C1 I2) (v0 A0 N0 C0 A1 N1 C1 I2):=tz kt [6] fun B ds w K=>by kernel_rfl
theorem call:VCl 83 [.tmp 6] #[.slice A0 N0 C0,.slice A1 N1 C1,.int .u64 I2] (v0 A0 N0 C0 A1 N1 C1 I2):=cz Tryz.func83 (by kernel_rfl) Tryz.ntmps83 Tryz.results83 (by kernel_rfl) (t0 A0 N0 C0 A1 N1 C1 I2)
abbrev l1:List (Nat × Value):=[eS 0 A0 N0 C0,eS 1 A1 N1 C1,eU 2 I2]
def v1:VP:=fun B ds w K=>bc ((N0:Int)==0) (Kd K .ret [eU 6 I2] ds w) (nc A1 fun b3 o4=>∃ k2:Nat,0=(k2:Int)∧k2<N1∧∃ x5,w.cell? ⟨b3,o4+k2,none⟩=some (.int .u64 x5)∧Cl 122 #[(.int .u64 x5),(.int .u64 I2),(.int .u64 0)] w fun r6 w7=>∃ x8,True∧∃ x9,True∧r6=.returned (.tuple #[(.int .u64 x8),(.int .u64 x9)])∧nc A0 fun b11 o12=>∃ k10:Nat,0=(k10:Int)∧k10<N0∧(∃ u13,w7.cell? ⟨b11,o12+k10,none⟩=some u13)∧w7.frozen? ⟨b11,o12+k10,none⟩=false∧bc (x9==0) (nc A0 fun b15 o16=>∃ k14:Nat,0=(k14:Int)∧k14<N0∧nc A1 fun b18 o19=>∃ k17:Nat,0=(k17:Int)∧k17<N1∧∃ q20,ptrEq (World.drew (w7.setCell ⟨b11,o12+k10,none⟩ (.int .u64 x8))) (some ⟨b15,o16+k14,none⟩) (some ⟨b18,o19+k17,none⟩) q20∧bc (!q20) (∃ i21:Nat,1=(i21:Int)∧i21≤N0∧∃ i24:Nat,1=(i24:Int)∧i24≤N1∧∃ w27,∃ x28,Sem.run Tryz.prog (builtin .copy #[44,44] 3 #[false,false] #[(.slice (shifted A0 i21 C0 1) (N0-i21) (C0-i21)),(.slice (shifted A1 i24 C1 1) (N1-i24) (C1-i24))]) (World.drew (World.drew (w7.setCell ⟨b11,o12+k10,none⟩ (.int .u64 x8))))=.ok (.value (.int .i64 x28)) w27∧Wd 78 p3 [] ds w27 (thenW Tryz.prog 78 p2 K)) (Wd 78 p3 [] ds (World.drew (w7.setCell ⟨b11,o12+k10,none⟩ (.int .u64 x8))) (thenW Tryz.prog 78 p2 K))) (Wd 78 p2 [eS 0 A0 N0 C0,eS 1 A1 N1 C1] ds (w7.setCell ⟨b11,o12+k10,none⟩ (.int .u64 x8)) K))
theorem t1:VT 78 p1 (l1 A0 N0 C0 A1 N1 C1 I2) (v1 A0 N0 C0 A1 N1 C1 I2):=tw kt [6] fun B ds w K=>by kernel_rfl
abbrev l2:List (Nat × Value):=[eS 0 A0 N0 C0,eS 1 A1 N1 C1]
def v2:VP:=fun B ds w K=>Wd 78 p6 [eS 0 A0 N0 C0,eS 1 A1 N1 C1,eI 9 1] ds w (thenW Tryz.prog 78 p4 K)
theorem t2:VT 78 p2 (l2 A0 N0 C0 A1 N1 C1) (v2 A0 N0 C0 A1 N1 C1):=tw kt [6] fun B ds w K=>by kernel_rfl
abbrev l3:List (Nat × Value):=[]
def v3:VP:=fun B ds w K=>Kd K .ret [eU 6 0] ds w
theorem t3:VT 78 p3 l3 v3:=tw kt [6] fun B ds w K=>by kernel_rfl
abbrev l4:List (Nat × Value):=[]
def v4:VP:=fun B ds w K=>Kd K .ret [eU 6 1] ds w
theorem t4:VT 78 p4 l4 v4:=tw kt [6] fun B ds w K=>by kernel_rfl
abbrev l5:List (Nat × Value):=[eS 0 A0 N0 C0,eS 1 A1 N1 C1,eI 9 I9]
def v5:VP:=fun B ds w K=>bc (decide (I9<(N0:Int))) (nc A1 fun b2 o3=>∃ k1:Nat,I9=(k1:Int)∧k1<N1∧∃ x4,w.cell? ⟨b2,o3+k1,none⟩=some (.int .u64 x4)∧bc (x4 != 0) (nc A0 fun b6 o7=>∃ k5:Nat,I9=(k5:Int)∧k5<N0∧(∃ u8,w.cell? ⟨b6,o7+k5,none⟩=some u8)∧w.frozen? ⟨b6,o7+k5,none⟩=false∧nc A0 fun b10 o11=>∃ k9:Nat,0=(k9:Int)∧k9<N0∧nc A1 fun b13 o14=>∃ k12:Nat,0=(k12:Int)∧k12<N1∧∃ q15,ptrEq (World.drew (w.setCell ⟨b6,o7+k5,none⟩ (.int .u64 (IntKind.wrap .u64 (x4-1))))) (some ⟨b10,o11+k9,none⟩) (some ⟨b13,o14+k12,none⟩) q15∧bc (!q15) (inI64 (I9+1)∧∃ i16:Nat,(I9+1)=(i16:Int)∧i16≤N0∧inI64 (I9+1)∧∃ i19:Nat,(I9+1)=(i19:Int)∧i19≤N1∧∃ w22,∃ x23,Sem.run Tryz.prog (builtin .copy #[44,44] 3 #[false,false] #[(.slice (shifted A0 i16 C0 1) (N0-i16) (C0-i16)),(.slice (shifted A1 i19 C1 1) (N1-i19) (C1-i19))]) (World.drew (World.drew (w.setCell ⟨b6,o7+k5,none⟩ (.int .u64 (IntKind.wrap .u64 (x4-1))))))=.ok (.value (.int .i64 x23)) w22∧Wd 78 p9 [] ds w22 (thenW Tryz.prog 78 p7 (blockK 1 (thenW Tryz.prog 78 p8 K)))) (Wd 78 p9 [] ds (World.drew (w.setCell ⟨b6,o7+k5,none⟩ (.int .u64 (IntKind.wrap .u64 (x4-1))))) (thenW Tryz.prog 78 p7 (blockK 1 (thenW Tryz.prog 78 p8 K))))) (Wd 78 p7 [eS 0 A0 N0 C0,eS 1 A1 N1 C1,eI 9 I9] ds w (blockK 1 (thenW Tryz.prog 78 p8 K)))) (Kd K (.exit 0) [eS 0 A0 N0 C0,eS 1 A1 N1 C1,(6,B 6),eI 9 I9] ds w)
theorem t5:VT 78 p5 (l5 A0 N0 C0 A1 N1 C1 I9) (v5 A0 N0 C0 A1 N1 C1 I9):=tw kt [0,1,6,9] fun B ds w K=>by kernel_rfl
abbrev l7:List (Nat × Value):=[eS 0 A0 N0 C0,eS 1 A1 N1 C1,eI 9 I9]
def v7:VP:=fun B ds w K=>nc A0 fun b2 o3=>∃ k1:Nat,I9=(k1:Int)∧k1<N0∧(∃ u4,w.cell? ⟨b2,o3+k1,none⟩=some u4)∧w.frozen? ⟨b2,o3+k1,none⟩=false∧Kd K .normal [eS 0 A0 N0 C0,eS 1 A1 N1 C1,eI 9 I9] ds (w.setCell ⟨b2,o3+k1,none⟩ (.int .u64 18446744073709551615))
theorem t7:VT 78 p7 (l7 A0 N0 C0 A1 N1 C1 I9) (v7 A0 N0 C0 A1 N1 C1 I9):=tw kt [0,1,9] fun B ds w K=>by kernel_rfl
abbrev l8:List (Nat × Value):=[eS 0 A0 N0 C0,eS 1 A1 N1 C1,eI 9 I9]
def v8:VP:=fun B ds w K=>inI64 (I9+1)∧Kd K .normal [eS 0 A0 N0 C0,eS 1 A1 N1 C1,eI 9 (I9+1)] ds w
theorem t8:VT 78 p8 (l8 A0 N0 C0 A1 N1 C1 I9) (v8 A0 N0 C0 A1 N1 C1 I9):=tw kt [0,1,9] fun B ds w K=>by kernel_rfl
abbrev l9:List (Nat × Value):=[]
def v9:VP:=fun B ds w K=>Kd K .ret [eU 6 0] ds w
theorem t9:VT 78 p9 l9 v9:=tw kt [6] fun B ds w K=>by kernel_rfl
end F83
namespace F46
noncomputable def body:Code:=bodyOf Tryz.f46
def kt:List (Nat × List Nat):=[(2,[0,3]),(4,[0,3])]
noncomputable def p1:Code:=sb 3 7 body
noncomputable def p2:Code:=sb 5 24 body
noncomputable def p3:Code:=sb 3 6 body
theorem q3:p3=.block 0 (.loop p2):=by kernel_rfl
variable (A0:Option Addr) (N0 C0:Nat) (I3:Int)
abbrev l0:List (Nat × Value):=[eS 0 A0 N0 C0]
def v0:VP:=fun B ds w K=>Wd 21 p3 [eS 0 A0 N0 C0,eI 3 (N0:Int)] ds w (thenW Tryz.prog 21 p1 K)
theorem t0:VZ 21 body (l0 A0 N0 C0) (v0 A0 N0 C0):=tz kt [2] fun B ds w K=>by kernel_rfl
theorem call:VCl 46 [.tmp 2] #[.slice A0 N0 C0] (v0 A0 N0 C0):=cz Tryz.func46 (by kernel_rfl) Tryz.ntmps46 Tryz.results46 (by kernel_rfl) (t0 A0 N0 C0)
abbrev l1:List (Nat × Value):=[eS 0 A0 N0 C0,eI 3 I3]
def v1:VP:=fun B ds w K=>∃ i1 h2:Nat,0=(i1:Int)∧I3=(h2:Int)∧i1≤h2∧h2≤C0∧Kd K .ret [eS 2 (shifted A0 i1 C0 1) (h2-i1) (C0-i1)] ds w
theorem t1:VT 21 p1 (l1 A0 N0 C0 I3) (v1 A0 C0 I3):=tw kt [2] fun B ds w K=>by kernel_rfl
abbrev l2:List (Nat × Value):=[eS 0 A0 N0 C0,eI 3 I3]
def v2:VP:=fun B ds w K=>bc (decide (I3>(0:Int))) (inI64 (I3-1)∧nc A0 fun b2 o3=>∃ k1:Nat,(I3-1)=(k1:Int)∧k1<N0∧∃ x4,w.cell? ⟨b2,o3+k1,none⟩=some (.int .u64 x4)∧bc (x4==0) (inI64 (I3-1)∧Kd K .normal [eS 0 A0 N0 C0,eI 3 (I3-1)] ds w) (Kd K (.exit 0) [eS 0 A0 N0 C0,eI 3 I3] ds w)) (Kd K (.exit 0) [eS 0 A0 N0 C0,eI 3 I3] ds w)
theorem t2:VT 21 p2 (l2 A0 N0 C0 I3) (v2 A0 N0 C0 I3):=tw kt [0,3] fun B ds w K=>by kernel_rfl
end F46
namespace F73
noncomputable def body:Code:=bodyOf Tryz.f73
def kt:List (Nat × List Nat):=[]
variable (A0:Option Addr) (N0 C0:Nat) (I1:Int)
abbrev l0:List (Nat × Value):=[eS 0 A0 N0 C0,eI 1 I1]
def v0:VP:=fun B ds w K=>bc (decide (I1≤(C0:Int))) (∃ h2:Nat,I1=(h2:Int)∧h2≤C0∧Kd K .ret [eS 4 A0 h2 C0] ds w) (bc (I1==1) (∃ l5 c6:Nat,1=(l5:Int)∧1=(c6:Int)∧l5≤c6∧8*c6≤281474976710656∧c6≤281474976710656∧Kd K .ret [eS 4 (some ⟨(World.heap w).size,0,none⟩) l5 c6] ds (World.alloc w (.cells (madeCells #[(Value.int IntKind.u64 0)] c6) 61))) (inI64 (I1+4)∧∃ l8 c9:Nat,I1=(l8:Int)∧(I1+4)=(c9:Int)∧l8≤c9∧8*c9≤281474976710656∧c9≤281474976710656∧Kd K .ret [eS 4 (some ⟨(World.heap w).size,0,none⟩) l8 c9] ds (World.alloc w (.cells (madeCells #[(Value.int IntKind.u64 0)] c9) 61))))
theorem t0:VZ 19 body (l0 A0 N0 C0 I1) (v0 A0 C0 I1):=tz kt [4] fun B ds w K=>by kernel_rfl
theorem call:VCl 73 [.tmp 4] #[.slice A0 N0 C0,.int .i64 I1] (v0 A0 C0 I1):=cz Tryz.func73 (by kernel_rfl) Tryz.ntmps73 Tryz.results73 (by kernel_rfl) (t0 A0 N0 C0 I1)
end F73
namespace F71
noncomputable def body:Code:=bodyOf Tryz.f71
def kt:List (Nat × List Nat):=[]
variable (A0:Option Addr) (N0 C0:Nat) (I1:Int)
abbrev l0:List (Nat × Value):=[eS 0 A0 N0 C0,eU 1 I1]
def v0:VP:=fun B ds w K=>bc (I1==0) (∃ h2:Nat,0=(h2:Int)∧h2≤C0∧Kd K .ret [eS 4 A0 h2 C0] ds w) (Cl 73 #[(.slice A0 N0 C0),(.int .i64 1)] w fun r5 w6=>∃ x7a,∃ x7l,∃ x7c,r5=.returned (.slice x7a x7l x7c)∧nc x7a fun b9 o10=>∃ k8:Nat,0=(k8:Int)∧k8<x7l∧(∃ u11,w6.cell? ⟨b9,o10+k8,none⟩=some u11)∧w6.frozen? ⟨b9,o10+k8,none⟩=false∧Kd K .ret [eS 4 x7a x7l x7c] ds (w6.setCell ⟨b9,o10+k8,none⟩ (.int .u64 I1)))
theorem t0:VZ 15 body (l0 A0 N0 C0 I1) (v0 A0 N0 C0 I1):=tz kt [4] fun B ds w K=>by kernel_rfl
theorem call:VCl 71 [.tmp 4] #[.slice A0 N0 C0,.int .u64 I1] (v0 A0 N0 C0 I1):=cz Tryz.func71 (by kernel_rfl) Tryz.ntmps71 Tryz.results71 (by kernel_rfl) (t0 A0 N0 C0 I1)
end F71
namespace F60
noncomputable def body:Code:=bodyOf Tryz.f60
def kt:List (Nat × List Nat):=[]
variable (A0:Option Addr) (N0 C0:Nat) (A1:Option Addr) (N1 C1:Nat)
abbrev l0:List (Nat × Value):=[eS 0 A0 N0 C0,eS 1 A1 N1 C1]
def v0:VP:=fun B ds w K=>Cl 73 #[(.slice A0 N0 C0),(.int .i64 (N1:Int))] w fun r1 w2=>∃ x3a,∃ x3l,∃ x3c,r1=.returned (.slice x3a x3l x3c)∧∃ w4,∃ x5,Sem.run Tryz.prog (builtin .copy #[45,45] 3 #[false,false] #[(.slice x3a x3l x3c),(.slice A1 N1 C1)]) w2=.ok (.value (.int .i64 x5)) w4∧Kd K .ret [eS 4 x3a x3l x3c] ds w4
theorem t0:VZ 13 body (l0 A0 N0 C0 A1 N1 C1) (v0 A0 N0 C0 A1 N1 C1):=tz kt [4] fun B ds w K=>by kernel_rfl
theorem call:VCl 60 [.tmp 4] #[.slice A0 N0 C0,.slice A1 N1 C1] (v0 A0 N0 C0 A1 N1 C1):=cz Tryz.func60 (by kernel_rfl) Tryz.ntmps60 Tryz.results60 (by kernel_rfl) (t0 A0 N0 C0 A1 N1 C1)
end F60
namespace F92
noncomputable def body:Code:=bodyOf Tryz.f92
def kt:List (Nat × List Nat):=[(8,[0,1,4,5]),(9,[0,1,4,7]),(11,[0,1,4,7]),(1000000,[4])]
noncomputable def p1:Code:=sb 4 15 body
noncomputable def p2:Code:=sb 7 117 body
noncomputable def p3:Code:=sb 6 63 body
noncomputable def p4:Code:=sb 8 248 body
noncomputable def p5:Code:=sb 6 62 body
noncomputable def p6:Code:=sb 7 127 body
theorem q5:p5=.block 1 (.loop p4):=by kernel_rfl
variable (A0:Option Addr) (N0 C0:Nat) (A1:Option Addr) (N1 C1:Nat) (I4 I5 I7:Int)
abbrev l0:List (Nat × Value):=[eS 0 A0 N0 C0,eS 1 A1 N1 C1]
def v0:VP:=fun B ds w K=>bc ((N0:Int) != (N1:Int)) (bc (decide ((N0:Int)<(N1:Int))) (Wd 64 p2 [eI 4 (-1)] ds w (thenW Tryz.prog 64 p1 K)) (bc (decide ((N0:Int)>(N1:Int))) (Wd 64 p2 [eI 4 1] ds w (thenW Tryz.prog 64 p1 K)) (Wd 64 p2 [eI 4 0] ds w (thenW Tryz.prog 64 p1 K)))) (bc ((N0:Int)==0) (bc (decide ((N0:Int)<(N1:Int))) (Wd 64 p2 [eI 4 (-1)] ds w (thenW Tryz.prog 64 p1 K)) (bc (decide ((N0:Int)>(N1:Int))) (Wd 64 p2 [eI 4 1] ds w (thenW Tryz.prog 64 p1 K)) (Wd 64 p2 [eI 4 0] ds w (thenW Tryz.prog 64 p1 K)))) (Wd 64 p1 [eS 0 A0 N0 C0,eS 1 A1 N1 C1,eI 4 0,eI 5 (N0:Int)] ds w K))
theorem t0:VZ 64 body (l0 A0 N0 C0 A1 N1 C1) (v0 A0 N0 C0 A1 N1 C1):=tz kt [4] fun B ds w K=>by kernel_rfl
theorem call:VCl 92 [.tmp 4] #[.slice A0 N0 C0,.slice A1 N1 C1] (v0 A0 N0 C0 A1 N1 C1):=cz Tryz.func92 (by kernel_rfl) Tryz.ntmps92 Tryz.results92 (by kernel_rfl) (t0 A0 N0 C0 A1 N1 C1)
abbrev l1:List (Nat × Value):=[eS 0 A0 N0 C0,eS 1 A1 N1 C1,eI 4 I4,eI 5 I5]
def v1:VP:=fun B ds w K=>inI64 (I5-1)∧Wd 64 p5 [eS 0 A0 N0 C0,eS 1 A1 N1 C1,eI 4 I4,eI 7 (I5-1)] ds w (thenW Tryz.prog 64 p3 K)
theorem t1:VT 64 p1 (l1 A0 N0 C0 A1 N1 C1 I4 I5) (v1 A0 N0 C0 A1 N1 C1 I4 I5):=tw kt [4] fun B ds w K=>by kernel_rfl
abbrev l2:List (Nat × Value):=[eI 4 I4]
def v2:VP:=fun B ds w K=>Kd K .ret [eI 4 I4] ds w
theorem t2:VT 64 p2 (l2 I4) (v2 I4):=tw kt [4] fun B ds w K=>by kernel_rfl
abbrev l3:List (Nat × Value):=[eS 0 A0 N0 C0,eS 1 A1 N1 C1,eI 4 I4,eI 7 I7]
def v3:VP:=fun B ds w K=>nc A0 fun b2 o3=>∃ k1:Nat,I7=(k1:Int)∧k1<N0∧∃ x4,w.drew.cell? ⟨b2,o3+k1,none⟩=some (.int .u64 x4)∧nc A1 fun b6 o7=>∃ k5:Nat,I7=(k5:Int)∧k5<N1∧∃ x8,w.drew.cell? ⟨b6,o7+k5,none⟩=some (.int .u64 x8)∧bc (decide (x4<(x8:Int))) (Wd 64 p6 [eI 4 (-1)] ds w.drew K) (nc A0 fun b11 o12=>∃ k10:Nat,I7=(k10:Int)∧k10<N0∧∃ x13,w.drew.drew.cell? ⟨b11,o12+k10,none⟩=some (.int .u64 x13)∧nc A1 fun b15 o16=>∃ k14:Nat,I7=(k14:Int)∧k14<N1∧∃ x17,w.drew.drew.cell? ⟨b15,o16+k14,none⟩=some (.int .u64 x17)∧bc (decide (x13>(x17:Int))) (Wd 64 p6 [eI 4 1] ds w.drew.drew K) (Wd 64 p6 [eI 4 I4] ds w.drew.drew K))
theorem t3:VT 64 p3 (l3 A0 N0 C0 A1 N1 C1 I4 I7) (v3 A0 N0 A1 N1 I4 I7):=tw kt [4] fun B ds w K=>by kernel_rfl
abbrev l4:List (Nat × Value):=[eS 0 A0 N0 C0,eS 1 A1 N1 C1,eI 4 I4,eI 7 I7]
def v4:VP:=fun B ds w K=>bc (decide (I7>(0:Int))) (nc A0 fun b2 o3=>∃ k1:Nat,I7=(k1:Int)∧k1<N0∧∃ x4,w.drew.cell? ⟨b2,o3+k1,none⟩=some (.int .u64 x4)∧nc A1 fun b6 o7=>∃ k5:Nat,I7=(k5:Int)∧k5<N1∧∃ x8,w.drew.cell? ⟨b6,o7+k5,none⟩=some (.int .u64 x8)∧bc (x4==(x8:Int)) (inI64 (I7-1)∧Kd K .normal [eS 0 A0 N0 C0,eS 1 A1 N1 C1,eI 4 I4,eI 7 (I7-1)] ds w.drew) (Kd K (.exit 1) [eS 0 A0 N0 C0,eS 1 A1 N1 C1,eI 4 I4,eI 7 I7] ds w.drew)) (Kd K (.exit 1) [eS 0 A0 N0 C0,eS 1 A1 N1 C1,eI 4 I4,eI 7 I7] ds w.drew)
theorem t4:VT 64 p4 (l4 A0 N0 C0 A1 N1 C1 I4 I7) (v4 A0 N0 C0 A1 N1 C1 I4 I7):=tw kt [0,1,4,7] fun B ds w K=>by kernel_rfl
abbrev l6:List (Nat × Value):=[eI 4 I4]
def v6:VP:=fun B ds w K=>Kd K .ret [eI 4 I4] ds w
theorem t6:VT 64 p6 (l6 I4) (v6 I4):=tw kt [4] fun B ds w K=>by kernel_rfl
end F92
namespace F101
noncomputable def body:Code:=bodyOf Tryz.f101
def kt:List (Nat × List Nat):=[(13,[0,7,9])]
noncomputable def p1:Code:=sb 7 127 body
variable (A0:Option Addr) (N0 C0:Nat) (A1:Option Addr) (I7:Int) (N1:Nat) (I9:Int) (C1:Nat) (A2:Option Addr) (N2 C2:Nat)
abbrev l0:List (Nat × Value):=[eS 0 A0 N0 C0,eS 1 A1 N1 C1,eS 2 A2 N2 C2]
def v0:VP:=fun B ds w K=>bc (decide ((N1:Int)<(N2:Int))) (Cl 101 #[(.slice A0 N0 C0),(.slice A2 N2 C2),(.slice A1 N1 C1)] w fun r1 w2=>∃ x3a,∃ x3l,∃ x3c,r1=.returned (.slice x3a x3l x3c)∧Kd K .ret [eS 6 x3a x3l x3c] ds w2) (bc ((N1:Int)==0) (∃ h6:Nat,0=(h6:Int)∧h6≤C0∧Kd K .ret [eS 6 A0 h6 C0] ds w) (bc ((N2:Int)==0) (Cl 60 #[(.slice A0 N0 C0),(.slice A1 N1 C1)] w fun r9 w10=>∃ x11a,∃ x11l,∃ x11c,r9=.returned (.slice x11a x11l x11c)∧Kd K .ret [eS 6 x11a x11l x11c] ds w10) (inI64 ((N1:Int)+1)∧Cl 73 #[(.slice A0 N0 C0),(.int .i64 ((N1:Int)+1))] w fun r13 w14=>∃ x15a,∃ x15l,∃ x15c,r13=.returned (.slice x15a x15l x15c)∧∃ h17:Nat,(N2:Int)=(h17:Int)∧h17≤x15c∧∃ h20:Nat,(N2:Int)=(h20:Int)∧h20≤C1∧∃ h23:Nat,(N2:Int)=(h23:Int)∧h23≤C2∧Cl 138 #[(.slice x15a h17 x15c),(.slice A1 h20 C1),(.slice A2 h23 C2)] w14.drew fun r25 w26=>∃ x27,r25=.returned (.int .u64 x27)∧bc (decide ((N1:Int)>(N2:Int))) (∃ i28 h29:Nat,(N2:Int)=(i28:Int)∧(N1:Int)=(h29:Int)∧i28≤h29∧h29≤x15c∧∃ i31:Nat,(N2:Int)=(i31:Int)∧i31≤N1∧Cl 139 #[(.slice (shifted x15a i28 x15c 1) (h29-i28) (x15c-i28)),(.slice (shifted A1 i31 C1 1) (N1-i31) (C1-i31)),(.int .u64 x27)] w26.drew fun r34 w35=>∃ x36,r34=.returned (.int .u64 x36)∧Wd 65 p1 [eS 0 x15a x15l x15c,eI 7 (N1:Int),eU 9 x36] ds w35 K) (Wd 65 p1 [eS 0 x15a x15l x15c,eI 7 (N1:Int),eU 9 x27] ds w26 K))))
theorem t0:VZ 65 body (l0 A0 N0 C0 A1 N1 C1 A2 N2 C2) (v0 A0 N0 C0 A1 N1 C1 A2 N2 C2):=tz kt [6] fun B ds w K=>by kernel_rfl
theorem call:VCl 101 [.tmp 6] #[.slice A0 N0 C0,.slice A1 N1 C1,.slice A2 N2 C2] (v0 A0 N0 C0 A1 N1 C1 A2 N2 C2):=cz Tryz.func101 (by kernel_rfl) Tryz.ntmps101 Tryz.results101 (by kernel_rfl) (t0 A0 N0 C0 A1 N1 C1 A2 N2 C2)
abbrev l1:List (Nat × Value):=[eS 0 A0 N0 C0,eI 7 I7,eU 9 I9]
def v1:VP:=fun B ds w K=>nc A0 fun b2 o3=>∃ k1:Nat,I7=(k1:Int)∧k1<N0∧(∃ u4,w.cell? ⟨b2,o3+k1,none⟩=some u4)∧w.frozen? ⟨b2,o3+k1,none⟩=false∧Cl 46 #[(.slice A0 N0 C0)] (w.setCell ⟨b2,o3+k1,none⟩ (.int .u64 I9)) fun r5 w6=>∃ x7a,∃ x7l,∃ x7c,r5=.returned (.slice x7a x7l x7c)∧Kd K .ret [eS 6 x7a x7l x7c] ds w6
theorem t1:VT 65 p1 (l1 A0 N0 C0 I7 I9) (v1 A0 N0 C0 I7 I9):=tw kt [6] fun B ds w K=>by kernel_rfl
end F101
namespace F52
noncomputable def body:Code:=bodyOf Tryz.f52
def kt:List (Nat × List Nat):=[(9,[0,1,2,7,8]),(13,[0,9]),(15,[0])]
noncomputable def p1:Code:=sb 4 15 body
noncomputable def p2:Code:=sb 7 127 body
noncomputable def p3:Code:=sb 8 255 body
variable (A0:Option Addr) (N0 C0:Nat) (A1:Option Addr) (I9:Int) (N1 C1:Nat) (A2:Option Addr) (N2 C2:Nat) (I7 I8:Int)
abbrev l0:List (Nat × Value):=[eS 0 A0 N0 C0,eS 1 A1 N1 C1,eS 2 A2 N2 C2]
def v0:VP:=fun B ds w K=>bc (decide ((N1:Int)<(N2:Int))) False (bc ((N1:Int)==0) (∃ h2:Nat,0=(h2:Int)∧h2≤C0∧Kd K .ret [eS 6 A0 h2 C0] ds w) (bc ((N2:Int)==0) (Cl 60 #[(.slice A0 N0 C0),(.slice A1 N1 C1)] w fun r5 w6=>∃ x7a,∃ x7l,∃ x7c,r5=.returned (.slice x7a x7l x7c)∧Kd K .ret [eS 6 x7a x7l x7c] ds w6) (Wd 59 p1 [eS 0 A0 N0 C0,eS 1 A1 N1 C1,eS 2 A2 N2 C2,eI 7 (N1:Int),eI 8 (N2:Int)] ds w K)))
theorem t0:VZ 59 body (l0 A0 N0 C0 A1 N1 C1 A2 N2 C2) (v0 A0 N0 C0 A1 N1 C1 A2 N2 C2):=tz kt [6] fun B ds w K=>by kernel_rfl
theorem call:VCl 52 [.tmp 6] #[.slice A0 N0 C0,.slice A1 N1 C1,.slice A2 N2 C2] (v0 A0 N0 C0 A1 N1 C1 A2 N2 C2):=cz Tryz.func52 (by kernel_rfl) Tryz.ntmps52 Tryz.results52 (by kernel_rfl) (t0 A0 N0 C0 A1 N1 C1 A2 N2 C2)
abbrev l1:List (Nat × Value):=[eS 0 A0 N0 C0,eS 1 A1 N1 C1,eS 2 A2 N2 C2,eI 7 I7,eI 8 I8]
def v1:VP:=fun B ds w K=>Cl 73 #[(.slice A0 N0 C0),(.int .i64 I7)] w fun r1 w2=>∃ x3a,∃ x3l,∃ x3c,r1=.returned (.slice x3a x3l x3c)∧∃ h5:Nat,I8=(h5:Int)∧h5≤x3c∧∃ h8:Nat,I8=(h8:Int)∧h8≤C1∧∃ h11:Nat,I8=(h11:Int)∧h11≤C2∧Cl 82 #[(.slice x3a h5 x3c),(.slice A1 h8 C1),(.slice A2 h11 C2)] w2.drew fun r13 w14=>∃ x15,r13=.returned (.int .u64 x15)∧bc (decide (I7>(I8:Int))) (∃ i16:Nat,I8=(i16:Int)∧i16≤x3l∧∃ i19:Nat,I8=(i19:Int)∧i19≤N1∧Cl 83 #[(.slice (shifted x3a i16 x3c 1) (x3l-i16) (x3c-i16)),(.slice (shifted A1 i19 C1 1) (N1-i19) (C1-i19)),(.int .u64 x15)] w14.drew fun r22 w23=>∃ x24,r22=.returned (.int .u64 x24)∧Wd 59 p2 [eS 0 x3a x3l x3c,eU 9 x24] ds w23 K) (Wd 59 p2 [eS 0 x3a x3l x3c,eU 9 x15] ds w14 K)
theorem t1:VT 59 p1 (l1 A0 N0 C0 A1 N1 C1 A2 N2 C2 I7 I8) (v1 A0 N0 C0 A1 N1 C1 A2 C2 I7 I8):=tw kt [6] fun B ds w K=>by kernel_rfl
abbrev l2:List (Nat × Value):=[eS 0 A0 N0 C0,eU 9 I9]
def v2:VP:=fun B ds w K=>bc (I9 != 0) False (Wd 59 p3 [eS 0 A0 N0 C0] ds w K)
theorem t2:VT 59 p2 (l2 A0 N0 C0 I9) (v2 A0 N0 C0 I9):=tw kt [6] fun B ds w K=>by kernel_rfl
abbrev l3:List (Nat × Value):=[eS 0 A0 N0 C0]
def v3:VP:=fun B ds w K=>Cl 46 #[(.slice A0 N0 C0)] w fun r1 w2=>∃ x3a,∃ x3l,∃ x3c,r1=.returned (.slice x3a x3l x3c)∧Kd K .ret [eS 6 x3a x3l x3c] ds w2
theorem t3:VT 59 p3 (l3 A0 N0 C0) (v3 A0 N0 C0):=tw kt [6] fun B ds w K=>by kernel_rfl
end F52
end Go.Proofs.YtlkjiiibmfpbcaaGreatDoor
namespace Go.Proofs.YtlkjiiibmfpbcaaGreatDoor
open Go
theorem tb_dg (v i j:Nat):(dg v i).testBit j=(decide (j<64) && v.testBit (64*i+j)):=by
 unfold dg
 rw [show BB=2^64 from rfl,←Nat.pow_mul,Nat.testBit_mod_two_pow,Nat.testBit_div_two_pow,Nat.add_comm]
theorem dg_shl (X s i:Nat) (h0:0<s) (h:s<64):dg (X*2^s) (i+1)=dg X (i+1)*2^s%18446744073709551616 ||| dg X i/2^(64-s):=by
 rw [show 18446744073709551616=2^64 from rfl]
 refine Nat.eq_of_testBit_eq fun j=>?_
 simp only [tb_dg,Nat.testBit_or,Nat.testBit_mod_two_pow,Nat.testBit_mul_two_pow,Nat.testBit_div_two_pow]
 by_cases hj:j<64
 ·by_cases hs:s≤j
  ·have e1:64*(i+1)+j-s=64*(i+1)+(j-s):=by omega
   have e2:s≤64*(i+1)+j:=by omega
   have e3:¬(j+(64-s)<64):=by omega
   have e4:j-s<64:=by omega
   simp [hj,hs,e1,e2,e3,e4]
  ·have e1:64*(i+1)+j-s=64*i+(j+(64-s)):=by omega
   have e2:s≤64*(i+1)+j:=by omega
   have e3:j+(64-s)<64:=by omega
   simp [hj,hs,e1,e2,e3]
 ·have e3:¬(j+(64-s)<64):=by omega
  simp [hj,e3]
theorem dg_shl0 (X s:Nat):dg (X*2^s) 0=dg X 0*2^s%18446744073709551616:=by
 unfold dg; rw [Nat.pow_zero,Nat.div_one,Nat.div_one]; exact (Nat.mod_mul_mod X (2^s) _).symm
theorem dg_shr (X s i:Nat) (h0:0<s) (h:s<64):dg (X/2^s) i=dg X i/2^s ||| dg X (i+1)*2^(64-s)%18446744073709551616:=by
 rw [show 18446744073709551616=2^64 from rfl]
 refine Nat.eq_of_testBit_eq fun j=>?_
 simp only [tb_dg,Nat.testBit_or,Nat.testBit_mod_two_pow,Nat.testBit_mul_two_pow,Nat.testBit_div_two_pow]
 by_cases hj:j<64
 ·by_cases hs:j+s<64
  ·have e1:64*i+j+s=64*i+(j+s):=by omega
   have e3:¬(64-s≤j):=by omega
   simp [hj,hs,e1,e3]
  ·have e1:64*i+j+s=64*(i+1)+(j-(64-s)):=by omega
   have e3:64-s≤j:=by omega
   have e4:j-(64-s)<64:=by omega
   simp [hj,hs,e1,e3,e4]
 ·have e3:¬(j+s<64):=by omega
  simp [hj,e3]
theorem top_shl (X s n:Nat) (h:s<64) (hX:X<BB^(n+1)):X*2^s/BB^(n+1)=dg X n/2^(64-s):=by
 have hd:dg X n=X/BB^n:=Nat.mod_eq_of_lt (by rw [Nat.div_lt_iff_lt_mul (BBpow_pos n),Nat.mul_comm,←BBpow_succ]; exact hX)
 rw [hd,Nat.div_div_eq_div_mul]
 have e:BB^(n+1)=BB^n*2^(64-s)*2^s:=by
  rw [BBpow_succ,Nat.mul_assoc,←Nat.pow_add,Nat.sub_add_cancel (by omega)]
  rfl
 rw [e]
 exact Nat.mul_div_mul_right _ _ (Nat.two_pow_pos s)
theorem cnt63 (s:Nat) (h:s<64):iAnd .u64 (s:Int) 63=(s:Int):=by
 rw [show (63:Int)=((2^6-1:Nat):Int) from rfl,iAndMask s 6 (by omega) (by omega),Nat.mod_eq_of_lt (by omega)]
theorem cnt64 (s:Nat) (h0:0<s) (h:s<64):iAnd .u64 (IntKind.wrap .u64 (64-iAnd .u64 (s:Int) 63)) 63=((64-s:Nat):Int):=by
 rw [cnt63 s h,show (64:Int)-s=((64-s:Nat):Int) by omega,wrapN _ (by omega),cnt63 _ (by omega)]
theorem shl64 (a s:Nat) (h:s≤64):iShl .u64 (a:Int) (s:Int)=((a*2^s%18446744073709551616:Nat):Int):=by rw [iShlN,Nat.min_eq_left h]
theorem shr64 (a s:Nat) (h:s≤64):iShr .u64 (a:Int) (s:Int)=((a/2^s:Nat):Int):=by rw [iShrN,Nat.min_eq_left h]
def OvUp (z x:Sl):Prop:=x.l=0∨x.b≠z.b∨x.o≤z.o∨z.o+z.l≤x.o
theorem c165 (z x:Sl) (X s:Nat) (w:World) (hz:Wt w z) (hx:Rd w x X) (lx:x.l=z.l) (ox:OvUp z x) (hs:s<64) :
  Calls Tryz.prog 165 #[z.v,x.v,.int .u64 (s:Int)] w (Vec w z fun c Z=>Z+BB^z.l*c=X*2^s):=by
 have lm:=hz.lm
 refine F165.call z.a z.l z.c x.a x.l x.c s w _
  fun B=>bc_false (neF (by omega)) fun B1=>F165.t1 _ _ _ _ _ _ _ _ ⟨rfl,rfl,rfl,rfl,trivial⟩ fun B2=>bc_intro (fun hb=>?_) (fun hb=>bc_intro (fun hb' B4=>?_) (fun hb'=>?_))
 ·have h0:s=0:=by have:=eqE hb; omega
  subst h0
  obtain ⟨w',r1,r2,r3⟩:=copyW z x z.l (by omega) X w ⟨hz.at_,hz.wr,hz.pl,hz.lm⟩ ⟨fun h0=>hx.at_ (by have:z.l≠0:=h0; omega),by rw [←lx]; exact hx.sg,by show X<BB^z.l; rw [←lx]; exact hx.lt⟩
  refine ⟨w',_,r1,fun B3=>ret1 rfl rfl ⟨0,X,rfl,by omega,by rw [←lx]; exact hx.lt,r2,r3⟩⟩
 ·have h0:z.l=0:=by have:=eqE hb'; omega
  have:X=0:=by have:=hx.lt; rw [lx,h0] at this; simpa using this
  subst this
  exact ret1 rfl rfl ⟨0,0,rfl,by simp,BBpow_pos _,by rw [h0]; exact Sg.zero,Chg.refl _ _⟩
 ·have s0:0<s:=by have:=eqN hb; omega
  obtain ⟨n,hn⟩:∃ n,z.l=n+1:=⟨z.l-1,by have:=eqN hb'; omega⟩
  have hX:X<BB^(n+1):=by rw [←hn,←lx]; exact hx.lt
  refine ⟨by unfold inI64; omega,rdC (k:=n) (hx.at_ (by omega)) (by omega) (by omega) (hx.sg n (by omega)) ⟨by rw [cnt64 s s0 hs]; omega,by unfold inI64; omega,fun B3=>?_⟩⟩
  rw [F165.q4]
  refine W_for (σ:=Nat)
   (fun i=>[(0,z.v),(1,x.v),(2,.int .u64 (s:Int)),(6,.int .u64 ((X*2^s/BB^(n+1):Nat):Int)),(7,.int .u64 ((64-s:Nat):Int)),(8,.int .i64 (i:Int))])
   (fun i wr=>i≤n∧Sg wr z.b (z.o+(i+1)) (n-i) (X*2^s/BB^(i+1))∧Chg w wr (inR z.b (z.o+(i+1)) (z.o+z.l)))
   (fun i=>i) n ⟨rfl,rfl,intv (cnt63 s hs),intv ?_,intv (cnt64 s s0 hs),intv (by omega),trivial⟩
   ⟨Nat.le_refl _,by rw [Nat.sub_self]; exact Sg.zero,Chg.refl _ _⟩ ?_
  ·rw [cnt64 s s0 hs,shr64 _ _ (by omega),top_shl X s n hs hX]
  rintro i B wr ⟨hi,hsg,hch⟩
  refine F165.t3 z.a z.l z.c x.a x.l x.c s _ _ i ⟨rfl,rfl,rfl,rfl,rfl,rfl,trivial⟩ fun B1=>bc_intro (fun hb=>?_) (fun hb B2=>?_)
  ·obtain ⟨j,rfl⟩:∃ j,i=j+1:=⟨i-1,by have:=dT hb; omega⟩
   have hni:∀ k,k≤j+1→¬inR z.b (z.o+(j+1+1)) (z.o+z.l) x.b (x.o+k):=by
    rintro k hk ⟨h1,h2,h3⟩; unfold OvUp at ox; omega
   refine rdC (k:=j+1) (hx.at_ (by omega)) rfl (by omega) (chgAt hch.drew hx (by omega) (hni _ (Nat.le_refl _))) ?_
   refine ⟨by omega,by unfold inI64; omega,rdC (k:=j) (hx.at_ (by omega)) (by omega) (by omega) (chgAt hch.drew hx (by omega) (hni _ (by omega))) ?_⟩
   refine ⟨by omega,wtC (k:=j+1) (hch.drew.wt hz) rfl (by omega) ⟨by unfold inI64; omega,fun B3=>?_⟩⟩
   have hp:=hch.own (hz.pl (by omega))
   obtain ⟨u,hu⟩:=(hch.wr hz.wr (j+1) (by omega)).1
   have hv:iOr .u64 (iShl .u64 (dg X (j+1):Int) (s:Int)) (iShr .u64 (dg X j:Int) ((64-s:Nat):Int))=(dg (X*2^s) (j+1):Int):=by
    rw [shl64 _ _ (by omega),shr64 _ _ (by omega),iOrN _ _ (Nat.mod_lt _ (by omega)) (Nat.lt_of_le_of_lt (Nat.div_le_self _ _) (dg_lt' X j)),dg_shl X s j s0 hs]
   rw [hv]
   refine ⟨j,⟨rfl,rfl,rfl,rfl,rfl,intv (by omega),trivial⟩,rfl,⟨by omega,?_,?_⟩,by show j<j+1; omega⟩
   ·have h1:Sg (wr.drew.setCell ⟨z.b,z.o+(j+1),none⟩ (.int .u64 (dg (X*2^s) (j+1):Int))) z.b (z.o+(j+1)) 1 (dg (X*2^s) (j+1)):=by
     intro k hk
     have:k=0:=by omega
     subst this
     rw [dg_self _ (dg_lt _ _)]
     exact World.cell?_setCell_same _ _ _ hu
    have h2:Chg wr (wr.drew.setCell ⟨z.b,z.o+(j+1),none⟩ (.int .u64 (dg (X*2^s) (j+1):Int))) (inR z.b (z.o+(j+1)) (z.o+(j+1)+1)) :=
     (Chg.drew0 wr _).trans' (Chg.setCell (w:=wr.drew) hp _ ⟨rfl,by omega,by omega⟩)
    have h3:=Sg.join h1 (h2.sg hsg fun k hk hm=>by have:=hm.2.2; omega) (by rw [Nat.pow_one]; exact dg_lt _ _)
    have h4:dg (X*2^s) (j+1)+BB^1*(X*2^s/BB^(j+1+1))=X*2^s/BB^(j+1):=by
     rw [BBpow_succ (j+1),←Nat.div_div_eq_div_mul,Nat.pow_one]; exact Nat.mod_add_div _ _
    rw [h4] at h3
    exact h3.le (by omega)
   ·refine (hch.mono fun b k _ hm=>⟨hm.1,by have:=hm.2.1; omega,hm.2.2⟩).trans' ((Chg.drew0 wr _).trans' (Chg.setCell (w:=wr.drew) hp _ ⟨rfl,by omega,by omega⟩))
  ·have hi0:i=0:=by have:=dF hb; omega
   subst hi0
   have hni:¬inR z.b (z.o+(0+1)) (z.o+z.l) x.b (x.o+0):=by
    rintro ⟨h1,h2,h3⟩; unfold OvUp at ox; omega
   refine F165.t2 z.a z.l z.c x.a x.l x.c s _ ⟨rfl,rfl,rfl,rfl,trivial⟩ fun B3=>rdC (k:=0) (hx.at_ (by omega)) rfl (by omega) (chgAt hch hx (by omega) hni) ?_
   refine ⟨by omega,wtC (k:=0) (hch.wt hz) rfl (by omega) fun B4=>ret1 rfl rfl ⟨X*2^s/BB^(n+1),X*2^s%BB^(n+1),rfl,by rw [hn]; exact Nat.mod_add_div _ _,by rw [hn]; exact Nat.mod_lt _ (BBpow_pos _),?_,?_⟩⟩
   ·have hp:=hch.own (hz.pl (by omega))
    obtain ⟨u,hu⟩:=(hch.wr hz.wr 0 (by omega)).1
    have hv:iShl .u64 (dg X 0:Int) (s:Int)=(dg (X*2^s) 0:Int):=by rw [shl64 _ _ (by omega),dg_shl0]
    rw [hv]
    have h1:Sg (wr.setCell ⟨z.b,z.o+0,none⟩ (.int .u64 (dg (X*2^s) 0:Int))) z.b z.o 1 (dg (X*2^s) 0):=by
     intro k hk
     have:k=0:=by omega
     subst this
     rw [dg_self _ (dg_lt _ _)]
     exact World.cell?_setCell_same _ _ _ hu
    have h2:Chg wr (wr.setCell ⟨z.b,z.o+0,none⟩ (.int .u64 (dg (X*2^s) 0:Int))) (inR z.b z.o (z.o+1)):=Chg.setCell hp _ ⟨rfl,by omega,by omega⟩
    have h3:=Sg.join h1 (h2.sg hsg fun k hk hm=>by have:=hm.2.2; omega) (by rw [Nat.pow_one]; exact dg_lt _ _)
    have h4:dg (X*2^s) 0+BB^1*(X*2^s/BB^(0+1))=X*2^s:=by
     have:=Nat.mod_add_div (X*2^s) BB
     simpa [dg] using this
    rw [h4] at h3
    rw [hn]
    exact (h3.le (by omega)).mod
   ·refine (hch.mono fun b k _ hm=>⟨hm.1,by have:=hm.2.1; omega,hm.2.2⟩).trans' (Chg.setCell (hch.own (hz.pl (by omega))) _ ⟨rfl,by omega,by omega⟩)
theorem c145 (z x:Sl) (X s:Nat) (w:World) (hz:Wt w z) (hx:Rd w x X) (lx:x.l=z.l) (ox:OvUp z x) (hs:s<64) :
  Calls Tryz.prog 145 #[z.v,x.v,.int .u64 (s:Int)] w (Vec w z fun c Z=>Z+BB^z.l*c=X*2^s) :=
 F145.call z.a z.l z.c x.a x.l x.c s w _ fun B=>Vec.pass (c165 z x X s w hz hx lx ox hs) fun c Z w' a1 a2 a3 a4=>⟨_,rfl,fun B=>ret1 rfl rfl ⟨c,Z,rfl,a1,a2,a3,a4⟩⟩
theorem c167 (z x:Sl) (X s:Nat) (w:World) (hz:Wt w z) (hx:Rd w x X) (lx:x.l=z.l) (ox:Ov z x) (hs:s<64) :
  Calls Tryz.prog 167 #[z.v,x.v,.int .u64 (s:Int)] w (Vec w z fun _ Z=>Z=X/2^s):=by
 have lm:=hz.lm
 refine F167.call z.a z.l z.c x.a x.l x.c s w _
  fun B=>bc_false (neF (by omega)) fun B1=>F167.t1 _ _ _ _ _ _ _ _ ⟨rfl,rfl,rfl,rfl,trivial⟩ fun B2=>bc_intro (fun hb=>?_) (fun hb=>bc_intro (fun hb' B4=>?_) (fun hb'=>?_))
 ·have h0:s=0:=by have:=eqE hb; omega
  subst h0
  obtain ⟨w',r1,r2,r3⟩:=copyW z x z.l (by omega) X w ⟨hz.at_,hz.wr,hz.pl,hz.lm⟩ ⟨fun h0=>hx.at_ (by have:z.l≠0:=h0; omega),by rw [←lx]; exact hx.sg,by show X<BB^z.l; rw [←lx]; exact hx.lt⟩
  refine ⟨w',_,r1,fun B3=>ret1 rfl rfl ⟨0,X,rfl,by omega,by rw [←lx]; exact hx.lt,r2,r3⟩⟩
 ·have h0:z.l=0:=by have:=eqE hb'; omega
  have:X=0:=by have:=hx.lt; rw [lx,h0] at this; simpa using this
  subst this
  exact ret1 rfl rfl ⟨0,0,rfl,by simp,BBpow_pos _,by rw [h0]; exact Sg.zero,Chg.refl _ _⟩
 ·have s0:0<s:=by have:=eqN hb; omega
  obtain ⟨n,hn⟩:∃ n,z.l=n+1:=⟨z.l-1,by have:=eqN hb'; omega⟩
  have hX:X<BB^(n+1):=by rw [←hn,←lx]; exact hx.lt
  refine rdC (k:=0) (hx.at_ (by omega)) (by omega) (by omega) (hx.sg 0 (by omega)) ⟨by rw [cnt64 s s0 hs]; omega,fun B3=>?_⟩
  rw [F167.q4]
  refine W_for (σ:=Nat)
   (fun i=>[(0,z.v),(1,x.v),(2,.int .u64 (s:Int)),(6,.int .u64 ((dg X 0*2^(64-s)%18446744073709551616:Nat):Int)),(7,.int .u64 ((64-s:Nat):Int)),(8,.int .i64 (i+1:Nat))])
   (fun i wr=>i≤n∧Sg wr z.b z.o i (X/2^s)∧Chg w wr (inR z.b z.o (z.o+i)))
   (fun i=>n-i) 0 ⟨rfl,rfl,intv (cnt63 s hs),intv (by rw [cnt64 s s0 hs,shl64 _ _ (by omega)]),intv (cnt64 s s0 hs),rfl,trivial⟩
   ⟨by omega,Sg.zero,Chg.refl _ _⟩ ?_
  rintro i B wr ⟨hi,hsg,hch⟩
  refine F167.t3 z.a z.l z.c x.a x.l x.c s _ _ (i+1:Nat) ⟨rfl,rfl,rfl,rfl,rfl,rfl,trivial⟩ fun B1=>bc_intro (fun hb=>?_) (fun hb B2=>?_)
  ·have hlt:i<n:=by have:=dT hb; omega
   refine ⟨by unfold inI64; omega,by unfold inI64; omega,rdC (k:=i) (hx.at_ (by omega)) (by omega) (by omega) (chgAt hch.drew hx (by omega) (ox.not (Nat.le_refl _) (by omega))) ?_⟩
   refine ⟨by omega,rdC (k:=i+1) (hx.at_ (by omega)) (by omega) (by omega) (chgAt hch.drew hx (by omega) (ox.not (by omega) (by omega))) ?_⟩
   refine ⟨by omega,wtC (k:=i) (hch.drew.wt hz) (by omega) (by omega) ⟨by unfold inI64; omega,fun B3=>?_⟩⟩
   have hp:=hch.own (hz.pl (by omega))
   obtain ⟨u,hu⟩:=(hch.wr hz.wr i (by omega)).1
   have hv:iOr .u64 (iShr .u64 (dg X i:Int) (s:Int)) (iShl .u64 (dg X (i+1):Int) ((64-s:Nat):Int))=(dg (X/2^s) i:Int):=by
    rw [shl64 _ _ (by omega),shr64 _ _ (by omega),iOrN _ _ (Nat.lt_of_le_of_lt (Nat.div_le_self _ _) (dg_lt' X i)) (Nat.mod_lt _ (by omega)),dg_shr X s i s0 hs]
   rw [hv]
   refine ⟨i+1,⟨rfl,rfl,rfl,rfl,rfl,rfl,trivial⟩,rfl,⟨hlt,?_,hch.step rfl hp⟩,by show n-(i+1)<n-i; omega⟩
   intro k hk
   by_cases hki:k=i
   ·subst hki; exact World.cell?_setCell_same _ _ _ hu
   ·rw [World.cell?_setCell_other _ _ _ _ (by simp <;> omega)]; exact hsg k (by omega)
  ·have hi0:i=n:=by have:=dF hb; omega
   subst hi0
   refine F167.t2 z.a z.l z.c x.a x.l x.c s _ ⟨rfl,rfl,rfl,rfl,trivial⟩ fun B3=>⟨by unfold inI64; omega,by unfold inI64; omega,rdC (k:=i) (hx.at_ (by omega)) (by omega) (by omega) (chgAt hch hx (by omega) (ox.not (Nat.le_refl _) (by omega))) ?_⟩
   have hq:dg (X/2^s) i=dg X i/2^s:=by
    rw [dg_shr X s i s0 hs,dg_of_lt X (i+1) hX]; simp
   refine ⟨by omega,wtC (k:=i) (hch.wt hz) (by omega) (by omega) fun B4=>ret1 rfl rfl ⟨_,X/2^s,rfl,rfl,Nat.lt_of_le_of_lt (Nat.div_le_self _ _) (by rw [hn]; exact hX),?_,?_⟩⟩
   ·obtain ⟨u,hu⟩:=(hch.wr hz.wr i (by omega)).1
    rw [shr64 _ _ (by omega),←hq,hn]
    intro k hk
    by_cases hki:k=i
    ·subst hki; exact World.cell?_setCell_same _ _ _ hu
    ·rw [World.cell?_setCell_other _ _ _ _ (by simp <;> omega)]; exact hsg k (by omega)
   ·rw [hn]; exact hch.step rfl (hch.own (hz.pl (by omega)))
theorem c147 (z x:Sl) (X s:Nat) (w:World) (hz:Wt w z) (hx:Rd w x X) (lx:x.l=z.l) (ox:Ov z x) (hs:s<64) :
  Calls Tryz.prog 147 #[z.v,x.v,.int .u64 (s:Int)] w (Vec w z fun _ Z=>Z=X/2^s) :=
 F147.call z.a z.l z.c x.a x.l x.c s w _ fun B=>Vec.pass (c167 z x X s w hz hx lx ox hs) fun c Z w' a1 a2 a3 a4=>⟨_,rfl,fun B=>ret1 rfl rfl ⟨c,Z,rfl,a1,a2,a3,a4⟩⟩
end Go.Proofs.YtlkjiiibmfpbcaaGreatDoor
