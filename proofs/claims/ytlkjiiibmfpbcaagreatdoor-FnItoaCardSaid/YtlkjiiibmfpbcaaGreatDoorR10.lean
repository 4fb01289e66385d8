/- Verification conditions, printed by wip/gen/gen.py and shrink.py; each is held against vc by the kernel. No condition. -/
import Derived.Test.YtlkjiiibmfpbcaaGreatDoorR05
namespace Go.Proofs.YtlkjiiibmfpbcaaGreatDoor
open Go
set_option maxRecDepth 100000
set_option linter.unusedVariables false
namespace F139
noncomputable def body : Code := bodyOf Tryz.f139
def kt : List (Nat × List Nat) := [(3,[0,1,2]),(10,[]),(11,[0,1]),(12,[0,1,9]),(13,[0,1,9]),(19,[]),(20,[0,1,9]),(21,[])]
noncomputable def p1 : Code := sb 2 3 body
noncomputable def p2 : Code := sb 6 63 body
noncomputable def p3 : Code := sb 9 501 body
noncomputable def p4 : Code := sb 7 127 body
noncomputable def p5 : Code := sb 10 1012 body
noncomputable def p6 : Code := sb 8 253 body
noncomputable def p7 : Code := sb 15 32403 body
noncomputable def p8 : Code := sb 12 4051 body
noncomputable def p9 : Code := sb 19 518443 body
theorem q6 : p6 = .block 0 (.loop p5) := by kernel_rfl
variable (A0 : Option Addr) (N0 C0 : Nat) (A1 : Option Addr) (N1 C1 : Nat) (I2 I9 : Int)
abbrev l0 : List (Nat × Value) := [eS 0 A0 N0 C0,eS 1 A1 N1 C1,eU 2 I2]
def v0 : VP := fun B ds w K => bc ((N1:Int) != (N0:Int)) False (Wd 78 p1 [eS 0 A0 N0 C0,eS 1 A1 N1 C1,eU 2 I2] ds w K)
theorem t0 : VZ 78 body (l0 A0 N0 C0 A1 N1 C1 I2) (v0 A0 N0 C0 A1 N1 C1 I2) := tz kt [6] fun B ds w K => by kernel_rfl
theorem call : VCl 139 [.tmp 6] #[.slice A0 N0 C0, .slice A1 N1 C1, .int .u64 I2] (v0 A0 N0 C0 A1 N1 C1 I2) := cz Tryz.func139 (by kernel_rfl) Tryz.ntmps139 Tryz.results139 (by kernel_rfl) (t0 A0 N0 C0 A1 N1 C1 I2)
abbrev l1 : List (Nat × Value) := [eS 0 A0 N0 C0,eS 1 A1 N1 C1,eU 2 I2]
def v1 : VP := fun B ds w K => bc ((N0:Int) == 0) (Kd K .ret [eU 6 I2] ds w) (nc A1 fun b3 o4 => ∃ k2 : Nat,0 = (k2:Int) ∧ k2 < N1 ∧ ∃ x5,w.cell? ⟨b3,o4 + k2,none⟩ = some (.int .u64 x5) ∧ Cl 163 #[(.int .u64 x5),(.int .u64 I2),(.int .u64 0)] w fun r6 w7 => ∃ x8,True ∧ ∃ x9,True ∧ r6 = .returned (.tuple #[(.int .u64 x8),(.int .u64 x9)]) ∧ nc A0 fun b11 o12 => ∃ k10 : Nat,0 = (k10:Int) ∧ k10 < N0 ∧ (∃ u13,w7.cell? ⟨b11,o12 + k10,none⟩ = some u13) ∧ w7.frozen? ⟨b11,o12 + k10,none⟩ = false ∧ bc (x9 == 0) (nc A0 fun b15 o16 => ∃ k14 : Nat,0 = (k14:Int) ∧ k14 < N0 ∧ nc A1 fun b18 o19 => ∃ k17 : Nat,0 = (k17:Int) ∧ k17 < N1 ∧ ∃ q20,ptrEq (World.drew (w7.setCell ⟨b11,o12 + k10,none⟩ (.int .u64 x8))) (some ⟨b15,o16 + k14,none⟩) (some ⟨b18,o19 + k17,none⟩) q20 ∧ bc (!q20) (∃ i21 : Nat,1 = (i21:Int) ∧ i21 ≤ N0 ∧ ∃ i24 : Nat,1 = (i24:Int) ∧ i24 ≤ N1 ∧ ∃ w27,∃ x28,Sem.run Tryz.prog (builtin .copy #[44,44] 3 #[false,false] #[(.slice (shifted A0 i21 C0 1) (N0 - i21) (C0 - i21)),(.slice (shifted A1 i24 C1 1) (N1 - i24) (C1 - i24))]) (World.drew (World.drew (w7.setCell ⟨b11,o12 + k10,none⟩ (.int .u64 x8)))) = .ok (.value (.int .i64 x28)) w27 ∧ Wd 78 p3 [] ds w27 (thenW Tryz.prog 78 p2 K)) (Wd 78 p3 [] ds (World.drew (w7.setCell ⟨b11,o12 + k10,none⟩ (.int .u64 x8))) (thenW Tryz.prog 78 p2 K))) (Wd 78 p2 [eS 0 A0 N0 C0,eS 1 A1 N1 C1] ds (w7.setCell ⟨b11,o12 + k10,none⟩ (.int .u64 x8)) K))
theorem t1 : VT 78 p1 (l1 A0 N0 C0 A1 N1 C1 I2) (v1 A0 N0 C0 A1 N1 C1 I2) := tw kt [6] fun B ds w K => by kernel_rfl
abbrev l2 : List (Nat × Value) := [eS 0 A0 N0 C0,eS 1 A1 N1 C1]
def v2 : VP := fun B ds w K => Wd 78 p6 [eS 0 A0 N0 C0,eS 1 A1 N1 C1,eI 9 1] ds w (thenW Tryz.prog 78 p4 K)
theorem t2 : VT 78 p2 (l2 A0 N0 C0 A1 N1 C1) (v2 A0 N0 C0 A1 N1 C1) := tw kt [6] fun B ds w K => by kernel_rfl
abbrev l3 : List (Nat × Value) := []
def v3 : VP := fun B ds w K => Kd K .ret [eU 6 0] ds w
theorem t3 : VT 78 p3 l3 v3 := tw kt [6] fun B ds w K => by kernel_rfl
abbrev l4 : List (Nat × Value) := []
def v4 : VP := fun B ds w K => Kd K .ret [eU 6 1] ds w
theorem t4 : VT 78 p4 l4 v4 := tw kt [6] fun B ds w K => by kernel_rfl
abbrev l5 : List (Nat × Value) := [eS 0 A0 N0 C0,eS 1 A1 N1 C1,eI 9 I9]
def v5 : VP := fun B ds w K => bc (decide (I9 < (N0:Int))) (nc A1 fun b2 o3 => ∃ k1 : Nat,I9 = (k1:Int) ∧ k1 < N1 ∧ ∃ x4,w.cell? ⟨b2,o3 + k1,none⟩ = some (.int .u64 x4) ∧ bc (x4 != 18446744073709551615) (nc A0 fun b6 o7 => ∃ k5 : Nat,I9 = (k5:Int) ∧ k5 < N0 ∧ (∃ u8,w.cell? ⟨b6,o7 + k5,none⟩ = some u8) ∧ w.frozen? ⟨b6,o7 + k5,none⟩ = false ∧ nc A0 fun b10 o11 => ∃ k9 : Nat,0 = (k9:Int) ∧ k9 < N0 ∧ nc A1 fun b13 o14 => ∃ k12 : Nat,0 = (k12:Int) ∧ k12 < N1 ∧ ∃ q15,ptrEq (World.drew (w.setCell ⟨b6,o7 + k5,none⟩ (.int .u64 (IntKind.wrap .u64 (x4 + 1))))) (some ⟨b10,o11 + k9,none⟩) (some ⟨b13,o14 + k12,none⟩) q15 ∧ bc (!q15) (inI64 (I9 + 1) ∧ ∃ i16 : Nat,(I9 + 1) = (i16:Int) ∧ i16 ≤ N0 ∧ inI64 (I9 + 1) ∧ ∃ i19 : Nat,(I9 + 1) = (i19:Int) ∧ i19 ≤ N1 ∧ ∃ w22,∃ x23,Sem.run Tryz.prog (builtin .copy #[44,44] 3 #[false,false] #[(.slice (shifted A0 i16 C0 1) (N0 - i16) (C0 - i16)),(.slice (shifted A1 i19 C1 1) (N1 - i19) (C1 - i19))]) (World.drew (World.drew (w.setCell ⟨b6,o7 + k5,none⟩ (.int .u64 (IntKind.wrap .u64 (x4 + 1)))))) = .ok (.value (.int .i64 x23)) w22 ∧ Wd 78 p9 [] ds w22 (thenW Tryz.prog 78 p7 (blockK 1 (thenW Tryz.prog 78 p8 K)))) (Wd 78 p9 [] ds (World.drew (w.setCell ⟨b6,o7 + k5,none⟩ (.int .u64 (IntKind.wrap .u64 (x4 + 1))))) (thenW Tryz.prog 78 p7 (blockK 1 (thenW Tryz.prog 78 p8 K))))) (Wd 78 p7 [eS 0 A0 N0 C0,eS 1 A1 N1 C1,eI 9 I9] ds w (blockK 1 (thenW Tryz.prog 78 p8 K)))) (Kd K (.exit 0) [eS 0 A0 N0 C0,eS 1 A1 N1 C1,(6,B 6),eI 9 I9] ds w)
theorem t5 : VT 78 p5 (l5 A0 N0 C0 A1 N1 C1 I9) (v5 A0 N0 C0 A1 N1 C1 I9) := tw kt [0,1,6,9] fun B ds w K => by kernel_rfl
abbrev l7 : List (Nat × Value) := [eS 0 A0 N0 C0,eS 1 A1 N1 C1,eI 9 I9]
def v7 : VP := fun B ds w K => nc A0 fun b2 o3 => ∃ k1 : Nat,I9 = (k1:Int) ∧ k1 < N0 ∧ (∃ u4,w.cell? ⟨b2,o3 + k1,none⟩ = some u4) ∧ w.frozen? ⟨b2,o3 + k1,none⟩ = false ∧ Kd K .normal [eS 0 A0 N0 C0,eS 1 A1 N1 C1,eI 9 I9] ds (w.setCell ⟨b2,o3 + k1,none⟩ (.int .u64 0))
theorem t7 : VT 78 p7 (l7 A0 N0 C0 A1 N1 C1 I9) (v7 A0 N0 C0 A1 N1 C1 I9) := tw kt [0,1,9] fun B ds w K => by kernel_rfl
abbrev l8 : List (Nat × Value) := [eS 0 A0 N0 C0,eS 1 A1 N1 C1,eI 9 I9]
def v8 : VP := fun B ds w K => inI64 (I9 + 1) ∧ Kd K .normal [eS 0 A0 N0 C0,eS 1 A1 N1 C1,eI 9 (I9 + 1)] ds w
theorem t8 : VT 78 p8 (l8 A0 N0 C0 A1 N1 C1 I9) (v8 A0 N0 C0 A1 N1 C1 I9) := tw kt [0,1,9] fun B ds w K => by kernel_rfl
abbrev l9 : List (Nat × Value) := []
def v9 : VP := fun B ds w K => Kd K .ret [eU 6 0] ds w
theorem t9 : VT 78 p9 l9 v9 := tw kt [6] fun B ds w K => by kernel_rfl
end F139
namespace F83
noncomputable def body : Code := bodyOf Tryz.f83
def kt : List (Nat × List Nat) := [(3,[0,1,2]),(10,[]),(11,[0,1]),(12,[0,1,9]),(13,[0,1,9]),(19,[]),(20,[0,1,9]),(21,[])]
noncomputable def p1 : Code := sb 2 3 body
noncomputable def p2 : Code := sb 6 63 body
noncomputable def p3 : Code := sb 9 501 body
noncomputable def p4 : Code := sb 7 127 body
noncomputable def p5 : Code := sb 10 1012 body
noncomputable def p6 : Code := sb 8 253 body
noncomputable def p7 : Code := sb 15 32403 body
noncomputable def p8 : Code := sb 12 4051 body
noncomputable def p9 : Code := sb 19 518443 body
theorem q6 : p6 = .block 0 (.loop p5) := by kernel_rfl
variable (A0 : Option Addr) (N0 C0 : Nat) (A1 : Option Addr) (N1 C1 : Nat) (I2 I9 : Int)
abbrev l0 : List (Nat × Value) := [eS 0 A0 N0 C0,eS 1 A1 N1 C1,eU 2 I2]
def v0 : VP := fun B ds w K => bc ((N1:Int) != (N0:Int)) False (Wd 78 p1 [eS 0 A0 N0 C0,eS 1 A1 N1 C1,eU 2 I2] ds w K)
theorem t0 : VZ 78 body (l0 A0 N0 C0 A1 N1 C1 I2) (v0 A0 N0 C0 A1 N1 C1 I2) := tz kt [6] fun B ds w K => by kernel_rfl
theorem call : VCl 83 [.tmp 6] #[.slice A0 N0 C0, .slice A1 N1 C1, .int .u64 I2] (v0 A0 N0 C0 A1 N1 C1 I2) := cz Tryz.func83 (by kernel_rfl) Tryz.ntmps83 Tryz.results83 (by kernel_rfl) (t0 A0 N0 C0 A1 N1 C1 I2)
abbrev l1 : List (Nat × Value) := [eS 0 A0 N0 C0,eS 1 A1 N1 C1,eU 2 I2]
def v1 : VP := fun B ds w K => bc ((N0:Int) == 0) (Kd K .ret [eU 6 I2] ds w) (nc A1 fun b3 o4 => ∃ k2 : Nat,0 = (k2:Int) ∧ k2 < N1 ∧ ∃ x5,w.cell? ⟨b3,o4 + k2,none⟩ = some (.int .u64 x5) ∧ Cl 122 #[(.int .u64 x5),(.int .u64 I2),(.int .u64 0)] w fun r6 w7 => ∃ x8,True ∧ ∃ x9,True ∧ r6 = .returned (.tuple #[(.int .u64 x8),(.int .u64 x9)]) ∧ nc A0 fun b11 o12 => ∃ k10 : Nat,0 = (k10:Int) ∧ k10 < N0 ∧ (∃ u13,w7.cell? ⟨b11,o12 + k10,none⟩ = some u13) ∧ w7.frozen? ⟨b11,o12 + k10,none⟩ = false ∧ bc (x9 == 0) (nc A0 fun b15 o16 => ∃ k14 : Nat,0 = (k14:Int) ∧ k14 < N0 ∧ nc A1 fun b18 o19 => ∃ k17 : Nat,0 = (k17:Int) ∧ k17 < N1 ∧ ∃ q20,ptrEq (World.drew (w7.setCell ⟨b11,o12 + k10,none⟩ (.int .u64 x8))) (some ⟨b15,o16 + k14,none⟩) (some ⟨b18,o19 + k17,none⟩) q20 ∧ bc (!q20) (∃ i21 : Nat,1 = (i21:Int) ∧ i21 ≤ N0 ∧ ∃ i24 : Nat,1 = (i24:Int) ∧ i24 ≤ N1 ∧ ∃ w27,∃ x28,Sem.run Tryz.prog (builtin .copy #[44,44] 3 #[false,false] #[(.slice (shifted A0 i21 C0 1) (N0 - i21) (C0 - i21)),(.slice (shifted A1 i24 C1 1) (N1 - i24) (C1 - i24))]) (World.drew (World.drew (w7.setCell ⟨b11,o12 + k10,none⟩ (.int .u64 x8)))) = .ok (.value (.int .i64 x28)) w27 ∧ Wd 78 p3 [] ds w27 (thenW Tryz.prog 78 p2 K)) (Wd 78 p3 [] ds (World.drew (w7.setCell ⟨b11,o12 + k10,none⟩ (.int .u64 x8))) (thenW Tryz.prog 78 p2 K))) (Wd 78 p2 [eS 0 A0 N0 C0,eS 1 A1 N1 C1] ds (w7.setCell ⟨b11,o12 + k10,none⟩ (.int .u64 x8)) K))
theorem t1 : VT 78 p1 (l1 A0 N0 C0 A1 N1 C1 I2) (v1 A0 N0 C0 A1 N1 C1 I2) := tw kt [6] fun B ds w K => by kernel_rfl
abbrev l2 : List (Nat × Value) := [eS 0 A0 N0 C0,eS 1 A1 N1 C1]
def v2 : VP := fun B ds w K => Wd 78 p6 [eS 0 A0 N0 C0,eS 1 A1 N1 C1,eI 9 1] ds w (thenW Tryz.prog 78 p4 K)
theorem t2 : VT 78 p2 (l2 A0 N0 C0 A1 N1 C1) (v2 A0 N0 C0 A1 N1 C1) := tw kt [6] fun B ds w K => by kernel_rfl
abbrev l3 : List (Nat × Value) := []
def v3 : VP := fun B ds w K => Kd K .ret [eU 6 0] ds w
theorem t3 : VT 78 p3 l3 v3 := tw kt [6] fun B ds w K => by kernel_rfl
abbrev l4 : List (Nat × Value) := []
def v4 : VP := fun B ds w K => Kd K .ret [eU 6 1] ds w
theorem t4 : VT 78 p4 l4 v4 := tw kt [6] fun B ds w K => by kernel_rfl
abbrev l5 : List (Nat × Value) := [eS 0 A0 N0 C0,eS 1 A1 N1 C1,eI 9 I9]
def v5 : VP := fun B ds w K => bc (decide (I9 < (N0:Int))) (nc A1 fun b2 o3 => ∃ k1 : Nat,I9 = (k1:Int) ∧ k1 < N1 ∧ ∃ x4,w.cell? ⟨b2,o3 + k1,none⟩ = some (.int .u64 x4) ∧ bc (x4 != 0) (nc A0 fun b6 o7 => ∃ k5 : Nat,I9 = (k5:Int) ∧ k5 < N0 ∧ (∃ u8,w.cell? ⟨b6,o7 + k5,none⟩ = some u8) ∧ w.frozen? ⟨b6,o7 + k5,none⟩ = false ∧ nc A0 fun b10 o11 => ∃ k9 : Nat,0 = (k9:Int) ∧ k9 < N0 ∧ nc A1 fun b13 o14 => ∃ k12 : Nat,0 = (k12:Int) ∧ k12 < N1 ∧ ∃ q15,ptrEq (World.drew (w.setCell ⟨b6,o7 + k5,none⟩ (.int .u64 (IntKind.wrap .u64 (x4 - 1))))) (some ⟨b10,o11 + k9,none⟩) (some ⟨b13,o14 + k12,none⟩) q15 ∧ bc (!q15) (inI64 (I9 + 1) ∧ ∃ i16 : Nat,(I9 + 1) = (i16:Int) ∧ i16 ≤ N0 ∧ inI64 (I9 + 1) ∧ ∃ i19 : Nat,(I9 + 1) = (i19:Int) ∧ i19 ≤ N1 ∧ ∃ w22,∃ x23,Sem.run Tryz.prog (builtin .copy #[44,44] 3 #[false,false] #[(.slice (shifted A0 i16 C0 1) (N0 - i16) (C0 - i16)),(.slice (shifted A1 i19 C1 1) (N1 - i19) (C1 - i19))]) (World.drew (World.drew (w.setCell ⟨b6,o7 + k5,none⟩ (.int .u64 (IntKind.wrap .u64 (x4 - 1)))))) = .ok (.value (.int .i64 x23)) w22 ∧ Wd 78 p9 [] ds w22 (thenW Tryz.prog 78 p7 (blockK 1 (thenW Tryz.prog 78 p8 K)))) (Wd 78 p9 [] ds (World.drew (w.setCell ⟨b6,o7 + k5,none⟩ (.int .u64 (IntKind.wrap .u64 (x4 - 1))))) (thenW Tryz.prog 78 p7 (blockK 1 (thenW Tryz.prog 78 p8 K))))) (Wd 78 p7 [eS 0 A0 N0 C0,eS 1 A1 N1 C1,eI 9 I9] ds w (blockK 1 (thenW Tryz.prog 78 p8 K)))) (Kd K (.exit 0) [eS 0 A0 N0 C0,eS 1 A1 N1 C1,(6,B 6),eI 9 I9] ds w)
theorem t5 : VT 78 p5 (l5 A0 N0 C0 A1 N1 C1 I9) (v5 A0 N0 C0 A1 N1 C1 I9) := tw kt [0,1,6,9] fun B ds w K => by kernel_rfl
abbrev l7 : List (Nat × Value) := [eS 0 A0 N0 C0,eS 1 A1 N1 C1,eI 9 I9]
def v7 : VP := fun B ds w K => nc A0 fun b2 o3 => ∃ k1 : Nat,I9 = (k1:Int) ∧ k1 < N0 ∧ (∃ u4,w.cell? ⟨b2,o3 + k1,none⟩ = some u4) ∧ w.frozen? ⟨b2,o3 + k1,none⟩ = false ∧ Kd K .normal [eS 0 A0 N0 C0,eS 1 A1 N1 C1,eI 9 I9] ds (w.setCell ⟨b2,o3 + k1,none⟩ (.int .u64 18446744073709551615))
theorem t7 : VT 78 p7 (l7 A0 N0 C0 A1 N1 C1 I9) (v7 A0 N0 C0 A1 N1 C1 I9) := tw kt [0,1,9] fun B ds w K => by kernel_rfl
abbrev l8 : List (Nat × Value) := [eS 0 A0 N0 C0,eS 1 A1 N1 C1,eI 9 I9]
def v8 : VP := fun B ds w K => inI64 (I9 + 1) ∧ Kd K .normal [eS 0 A0 N0 C0,eS 1 A1 N1 C1,eI 9 (I9 + 1)] ds w
theorem t8 : VT 78 p8 (l8 A0 N0 C0 A1 N1 C1 I9) (v8 A0 N0 C0 A1 N1 C1 I9) := tw kt [0,1,9] fun B ds w K => by kernel_rfl
abbrev l9 : List (Nat × Value) := []
def v9 : VP := fun B ds w K => Kd K .ret [eU 6 0] ds w
theorem t9 : VT 78 p9 l9 v9 := tw kt [6] fun B ds w K => by kernel_rfl
end F83
namespace F46
noncomputable def body : Code := bodyOf Tryz.f46
def kt : List (Nat × List Nat) := [(2,[0,3]),(4,[0,3])]
noncomputable def p1 : Code := sb 3 7 body
noncomputable def p2 : Code := sb 5 24 body
noncomputable def p3 : Code := sb 3 6 body
theorem q3 : p3 = .block 0 (.loop p2) := by kernel_rfl
variable (A0 : Option Addr) (N0 C0 : Nat) (I3 : Int)
abbrev l0 : List (Nat × Value) := [eS 0 A0 N0 C0]
def v0 : VP := fun B ds w K => Wd 21 p3 [eS 0 A0 N0 C0,eI 3 (N0:Int)] ds w (thenW Tryz.prog 21 p1 K)
theorem t0 : VZ 21 body (l0 A0 N0 C0) (v0 A0 N0 C0) := tz kt [2] fun B ds w K => by kernel_rfl
theorem call : VCl 46 [.tmp 2] #[.slice A0 N0 C0] (v0 A0 N0 C0) := cz Tryz.func46 (by kernel_rfl) Tryz.ntmps46 Tryz.results46 (by kernel_rfl) (t0 A0 N0 C0)
abbrev l1 : List (Nat × Value) := [eS 0 A0 N0 C0,eI 3 I3]
def v1 : VP := fun B ds w K => ∃ i1 h2 : Nat,0 = (i1:Int) ∧ I3 = (h2:Int) ∧ i1 ≤ h2 ∧ h2 ≤ C0 ∧ Kd K .ret [eS 2 (shifted A0 i1 C0 1) (h2 - i1) (C0 - i1)] ds w
theorem t1 : VT 21 p1 (l1 A0 N0 C0 I3) (v1 A0 C0 I3) := tw kt [2] fun B ds w K => by kernel_rfl
abbrev l2 : List (Nat × Value) := [eS 0 A0 N0 C0,eI 3 I3]
def v2 : VP := fun B ds w K => bc (decide (I3 > (0:Int))) (inI64 (I3 - 1) ∧ nc A0 fun b2 o3 => ∃ k1 : Nat,(I3 - 1) = (k1:Int) ∧ k1 < N0 ∧ ∃ x4,w.cell? ⟨b2,o3 + k1,none⟩ = some (.int .u64 x4) ∧ bc (x4 == 0) (inI64 (I3 - 1) ∧ Kd K .normal [eS 0 A0 N0 C0,eI 3 (I3 - 1)] ds w) (Kd K (.exit 0) [eS 0 A0 N0 C0,eI 3 I3] ds w)) (Kd K (.exit 0) [eS 0 A0 N0 C0,eI 3 I3] ds w)
theorem t2 : VT 21 p2 (l2 A0 N0 C0 I3) (v2 A0 N0 C0 I3) := tw kt [0,3] fun B ds w K => by kernel_rfl
end F46
namespace F73
noncomputable def body : Code := bodyOf Tryz.f73
def kt : List (Nat × List Nat) := []
variable (A0 : Option Addr) (N0 C0 : Nat) (I1 : Int)
abbrev l0 : List (Nat × Value) := [eS 0 A0 N0 C0,eI 1 I1]
def v0 : VP := fun B ds w K => bc (decide (I1 ≤ (C0:Int))) (∃ h2 : Nat,I1 = (h2:Int) ∧ h2 ≤ C0 ∧ Kd K .ret [eS 4 A0 h2 C0] ds w) (bc (I1 == 1) (∃ l5 c6 : Nat,1 = (l5:Int) ∧ 1 = (c6:Int) ∧ l5 ≤ c6 ∧ 8 * c6 ≤ 281474976710656 ∧ c6 ≤ 281474976710656 ∧ Kd K .ret [eS 4 (some ⟨(World.heap w).size,0,none⟩) l5 c6] ds (World.alloc w (.cells (madeCells #[(Value.int IntKind.u64 0)] c6) 61))) (inI64 (I1 + 4) ∧ ∃ l8 c9 : Nat,I1 = (l8:Int) ∧ (I1 + 4) = (c9:Int) ∧ l8 ≤ c9 ∧ 8 * c9 ≤ 281474976710656 ∧ c9 ≤ 281474976710656 ∧ Kd K .ret [eS 4 (some ⟨(World.heap w).size,0,none⟩) l8 c9] ds (World.alloc w (.cells (madeCells #[(Value.int IntKind.u64 0)] c9) 61))))
theorem t0 : VZ 19 body (l0 A0 N0 C0 I1) (v0 A0 C0 I1) := tz kt [4] fun B ds w K => by kernel_rfl
theorem call : VCl 73 [.tmp 4] #[.slice A0 N0 C0, .int .i64 I1] (v0 A0 C0 I1) := cz Tryz.func73 (by kernel_rfl) Tryz.ntmps73 Tryz.results73 (by kernel_rfl) (t0 A0 N0 C0 I1)
end F73
namespace F71
noncomputable def body : Code := bodyOf Tryz.f71
def kt : List (Nat × List Nat) := []
variable (A0 : Option Addr) (N0 C0 : Nat) (I1 : Int)
abbrev l0 : List (Nat × Value) := [eS 0 A0 N0 C0,eU 1 I1]
def v0 : VP := fun B ds w K => bc (I1 == 0) (∃ h2 : Nat,0 = (h2:Int) ∧ h2 ≤ C0 ∧ Kd K .ret [eS 4 A0 h2 C0] ds w) (Cl 73 #[(.slice A0 N0 C0),(.int .i64 1)] w fun r5 w6 => ∃ x7a,∃ x7l,∃ x7c,r5 = .returned (.slice x7a x7l x7c) ∧ nc x7a fun b9 o10 => ∃ k8 : Nat,0 = (k8:Int) ∧ k8 < x7l ∧ (∃ u11,w6.cell? ⟨b9,o10 + k8,none⟩ = some u11) ∧ w6.frozen? ⟨b9,o10 + k8,none⟩ = false ∧ Kd K .ret [eS 4 x7a x7l x7c] ds (w6.setCell ⟨b9,o10 + k8,none⟩ (.int .u64 I1)))
theorem t0 : VZ 15 body (l0 A0 N0 C0 I1) (v0 A0 N0 C0 I1) := tz kt [4] fun B ds w K => by kernel_rfl
theorem call : VCl 71 [.tmp 4] #[.slice A0 N0 C0, .int .u64 I1] (v0 A0 N0 C0 I1) := cz Tryz.func71 (by kernel_rfl) Tryz.ntmps71 Tryz.results71 (by kernel_rfl) (t0 A0 N0 C0 I1)
end F71
namespace F60
noncomputable def body : Code := bodyOf Tryz.f60
def kt : List (Nat × List Nat) := []
variable (A0 : Option Addr) (N0 C0 : Nat) (A1 : Option Addr) (N1 C1 : Nat)
abbrev l0 : List (Nat × Value) := [eS 0 A0 N0 C0,eS 1 A1 N1 C1]
def v0 : VP := fun B ds w K => Cl 73 #[(.slice A0 N0 C0),(.int .i64 (N1:Int))] w fun r1 w2 => ∃ x3a,∃ x3l,∃ x3c,r1 = .returned (.slice x3a x3l x3c) ∧ ∃ w4,∃ x5,Sem.run Tryz.prog (builtin .copy #[45,45] 3 #[false,false] #[(.slice x3a x3l x3c),(.slice A1 N1 C1)]) w2 = .ok (.value (.int .i64 x5)) w4 ∧ Kd K .ret [eS 4 x3a x3l x3c] ds w4
theorem t0 : VZ 13 body (l0 A0 N0 C0 A1 N1 C1) (v0 A0 N0 C0 A1 N1 C1) := tz kt [4] fun B ds w K => by kernel_rfl
theorem call : VCl 60 [.tmp 4] #[.slice A0 N0 C0, .slice A1 N1 C1] (v0 A0 N0 C0 A1 N1 C1) := cz Tryz.func60 (by kernel_rfl) Tryz.ntmps60 Tryz.results60 (by kernel_rfl) (t0 A0 N0 C0 A1 N1 C1)
end F60
namespace F92
noncomputable def body : Code := bodyOf Tryz.f92
def kt : List (Nat × List Nat) := [(8,[0,1,4,5]),(9,[0,1,4,7]),(11,[0,1,4,7]),(1000000,[4])]
noncomputable def p1 : Code := sb 4 15 body
noncomputable def p2 : Code := sb 7 117 body
noncomputable def p3 : Code := sb 6 63 body
noncomputable def p4 : Code := sb 8 248 body
noncomputable def p5 : Code := sb 6 62 body
noncomputable def p6 : Code := sb 7 127 body
theorem q5 : p5 = .block 1 (.loop p4) := by kernel_rfl
variable (A0 : Option Addr) (N0 C0 : Nat) (A1 : Option Addr) (N1 C1 : Nat) (I4 I5 I7 : Int)
abbrev l0 : List (Nat × Value) := [eS 0 A0 N0 C0,eS 1 A1 N1 C1]
def v0 : VP := fun B ds w K => bc ((N0:Int) != (N1:Int)) (bc (decide ((N0:Int) < (N1:Int))) (Wd 64 p2 [eI 4 (-1)] ds w (thenW Tryz.prog 64 p1 K)) (bc (decide ((N0:Int) > (N1:Int))) (Wd 64 p2 [eI 4 1] ds w (thenW Tryz.prog 64 p1 K)) (Wd 64 p2 [eI 4 0] ds w (thenW Tryz.prog 64 p1 K)))) (bc ((N0:Int) == 0) (bc (decide ((N0:Int) < (N1:Int))) (Wd 64 p2 [eI 4 (-1)] ds w (thenW Tryz.prog 64 p1 K)) (bc (decide ((N0:Int) > (N1:Int))) (Wd 64 p2 [eI 4 1] ds w (thenW Tryz.prog 64 p1 K)) (Wd 64 p2 [eI 4 0] ds w (thenW Tryz.prog 64 p1 K)))) (Wd 64 p1 [eS 0 A0 N0 C0,eS 1 A1 N1 C1,eI 4 0,eI 5 (N0:Int)] ds w K))
theorem t0 : VZ 64 body (l0 A0 N0 C0 A1 N1 C1) (v0 A0 N0 C0 A1 N1 C1) := tz kt [4] fun B ds w K => by kernel_rfl
theorem call : VCl 92 [.tmp 4] #[.slice A0 N0 C0, .slice A1 N1 C1] (v0 A0 N0 C0 A1 N1 C1) := cz Tryz.func92 (by kernel_rfl) Tryz.ntmps92 Tryz.results92 (by kernel_rfl) (t0 A0 N0 C0 A1 N1 C1)
abbrev l1 : List (Nat × Value) := [eS 0 A0 N0 C0,eS 1 A1 N1 C1,eI 4 I4,eI 5 I5]
def v1 : VP := fun B ds w K => inI64 (I5 - 1) ∧ Wd 64 p5 [eS 0 A0 N0 C0,eS 1 A1 N1 C1,eI 4 I4,eI 7 (I5 - 1)] ds w (thenW Tryz.prog 64 p3 K)
theorem t1 : VT 64 p1 (l1 A0 N0 C0 A1 N1 C1 I4 I5) (v1 A0 N0 C0 A1 N1 C1 I4 I5) := tw kt [4] fun B ds w K => by kernel_rfl
abbrev l2 : List (Nat × Value) := [eI 4 I4]
def v2 : VP := fun B ds w K => Kd K .ret [eI 4 I4] ds w
theorem t2 : VT 64 p2 (l2 I4) (v2 I4) := tw kt [4] fun B ds w K => by kernel_rfl
abbrev l3 : List (Nat × Value) := [eS 0 A0 N0 C0,eS 1 A1 N1 C1,eI 4 I4,eI 7 I7]
def v3 : VP := fun B ds w K => nc A0 fun b2 o3 => ∃ k1 : Nat,I7 = (k1:Int) ∧ k1 < N0 ∧ ∃ x4,w.drew.cell? ⟨b2,o3 + k1,none⟩ = some (.int .u64 x4) ∧ nc A1 fun b6 o7 => ∃ k5 : Nat,I7 = (k5:Int) ∧ k5 < N1 ∧ ∃ x8,w.drew.cell? ⟨b6,o7 + k5,none⟩ = some (.int .u64 x8) ∧ bc (decide (x4 < (x8:Int))) (Wd 64 p6 [eI 4 (-1)] ds w.drew K) (nc A0 fun b11 o12 => ∃ k10 : Nat,I7 = (k10:Int) ∧ k10 < N0 ∧ ∃ x13,w.drew.drew.cell? ⟨b11,o12 + k10,none⟩ = some (.int .u64 x13) ∧ nc A1 fun b15 o16 => ∃ k14 : Nat,I7 = (k14:Int) ∧ k14 < N1 ∧ ∃ x17,w.drew.drew.cell? ⟨b15,o16 + k14,none⟩ = some (.int .u64 x17) ∧ bc (decide (x13 > (x17:Int))) (Wd 64 p6 [eI 4 1] ds w.drew.drew K) (Wd 64 p6 [eI 4 I4] ds w.drew.drew K))
theorem t3 : VT 64 p3 (l3 A0 N0 C0 A1 N1 C1 I4 I7) (v3 A0 N0 A1 N1 I4 I7) := tw kt [4] fun B ds w K => by kernel_rfl
abbrev l4 : List (Nat × Value) := [eS 0 A0 N0 C0,eS 1 A1 N1 C1,eI 4 I4,eI 7 I7]
def v4 : VP := fun B ds w K => bc (decide (I7 > (0:Int))) (nc A0 fun b2 o3 => ∃ k1 : Nat,I7 = (k1:Int) ∧ k1 < N0 ∧ ∃ x4,w.drew.cell? ⟨b2,o3 + k1,none⟩ = some (.int .u64 x4) ∧ nc A1 fun b6 o7 => ∃ k5 : Nat,I7 = (k5:Int) ∧ k5 < N1 ∧ ∃ x8,w.drew.cell? ⟨b6,o7 + k5,none⟩ = some (.int .u64 x8) ∧ bc (x4 == (x8:Int)) (inI64 (I7 - 1) ∧ Kd K .normal [eS 0 A0 N0 C0,eS 1 A1 N1 C1,eI 4 I4,eI 7 (I7 - 1)] ds w.drew) (Kd K (.exit 1) [eS 0 A0 N0 C0,eS 1 A1 N1 C1,eI 4 I4,eI 7 I7] ds w.drew)) (Kd K (.exit 1) [eS 0 A0 N0 C0,eS 1 A1 N1 C1,eI 4 I4,eI 7 I7] ds w.drew)
theorem t4 : VT 64 p4 (l4 A0 N0 C0 A1 N1 C1 I4 I7) (v4 A0 N0 C0 A1 N1 C1 I4 I7) := tw kt [0,1,4,7] fun B ds w K => by kernel_rfl
abbrev l6 : List (Nat × Value) := [eI 4 I4]
def v6 : VP := fun B ds w K => Kd K .ret [eI 4 I4] ds w
theorem t6 : VT 64 p6 (l6 I4) (v6 I4) := tw kt [4] fun B ds w K => by kernel_rfl
end F92
namespace F101
noncomputable def body : Code := bodyOf Tryz.f101
def kt : List (Nat × List Nat) := [(13,[0,7,9])]
noncomputable def p1 : Code := sb 7 127 body
variable (A0 : Option Addr) (N0 C0 : Nat) (A1 : Option Addr) (I7 : Int) (N1 : Nat) (I9 : Int) (C1 : Nat) (A2 : Option Addr) (N2 C2 : Nat)
abbrev l0 : List (Nat × Value) := [eS 0 A0 N0 C0,eS 1 A1 N1 C1,eS 2 A2 N2 C2]
def v0 : VP := fun B ds w K => bc (decide ((N1:Int) < (N2:Int))) (Cl 101 #[(.slice A0 N0 C0),(.slice A2 N2 C2),(.slice A1 N1 C1)] w fun r1 w2 => ∃ x3a,∃ x3l,∃ x3c,r1 = .returned (.slice x3a x3l x3c) ∧ Kd K .ret [eS 6 x3a x3l x3c] ds w2) (bc ((N1:Int) == 0) (∃ h6 : Nat,0 = (h6:Int) ∧ h6 ≤ C0 ∧ Kd K .ret [eS 6 A0 h6 C0] ds w) (bc ((N2:Int) == 0) (Cl 60 #[(.slice A0 N0 C0),(.slice A1 N1 C1)] w fun r9 w10 => ∃ x11a,∃ x11l,∃ x11c,r9 = .returned (.slice x11a x11l x11c) ∧ Kd K .ret [eS 6 x11a x11l x11c] ds w10) (inI64 ((N1:Int) + 1) ∧ Cl 73 #[(.slice A0 N0 C0),(.int .i64 ((N1:Int) + 1))] w fun r13 w14 => ∃ x15a,∃ x15l,∃ x15c,r13 = .returned (.slice x15a x15l x15c) ∧ ∃ h17 : Nat,(N2:Int) = (h17:Int) ∧ h17 ≤ x15c ∧ ∃ h20 : Nat,(N2:Int) = (h20:Int) ∧ h20 ≤ C1 ∧ ∃ h23 : Nat,(N2:Int) = (h23:Int) ∧ h23 ≤ C2 ∧ Cl 138 #[(.slice x15a h17 x15c),(.slice A1 h20 C1),(.slice A2 h23 C2)] w14.drew fun r25 w26 => ∃ x27,r25 = .returned (.int .u64 x27) ∧ bc (decide ((N1:Int) > (N2:Int))) (∃ i28 h29 : Nat,(N2:Int) = (i28:Int) ∧ (N1:Int) = (h29:Int) ∧ i28 ≤ h29 ∧ h29 ≤ x15c ∧ ∃ i31 : Nat,(N2:Int) = (i31:Int) ∧ i31 ≤ N1 ∧ Cl 139 #[(.slice (shifted x15a i28 x15c 1) (h29 - i28) (x15c - i28)),(.slice (shifted A1 i31 C1 1) (N1 - i31) (C1 - i31)),(.int .u64 x27)] w26.drew fun r34 w35 => ∃ x36,r34 = .returned (.int .u64 x36) ∧ Wd 65 p1 [eS 0 x15a x15l x15c,eI 7 (N1:Int),eU 9 x36] ds w35 K) (Wd 65 p1 [eS 0 x15a x15l x15c,eI 7 (N1:Int),eU 9 x27] ds w26 K))))
theorem t0 : VZ 65 body (l0 A0 N0 C0 A1 N1 C1 A2 N2 C2) (v0 A0 N0 C0 A1 N1 C1 A2 N2 C2) := tz kt [6] fun B ds w K => by kernel_rfl
theorem call : VCl 101 [.tmp 6] #[.slice A0 N0 C0, .slice A1 N1 C1, .slice A2 N2 C2] (v0 A0 N0 C0 A1 N1 C1 A2 N2 C2) := cz Tryz.func101 (by kernel_rfl) Tryz.ntmps101 Tryz.results101 (by kernel_rfl) (t0 A0 N0 C0 A1 N1 C1 A2 N2 C2)
abbrev l1 : List (Nat × Value) := [eS 0 A0 N0 C0,eI 7 I7,eU 9 I9]
def v1 : VP := fun B ds w K => nc A0 fun b2 o3 => ∃ k1 : Nat,I7 = (k1:Int) ∧ k1 < N0 ∧ (∃ u4,w.cell? ⟨b2,o3 + k1,none⟩ = some u4) ∧ w.frozen? ⟨b2,o3 + k1,none⟩ = false ∧ Cl 46 #[(.slice A0 N0 C0)] (w.setCell ⟨b2,o3 + k1,none⟩ (.int .u64 I9)) fun r5 w6 => ∃ x7a,∃ x7l,∃ x7c,r5 = .returned (.slice x7a x7l x7c) ∧ Kd K .ret [eS 6 x7a x7l x7c] ds w6
theorem t1 : VT 65 p1 (l1 A0 N0 C0 I7 I9) (v1 A0 N0 C0 I7 I9) := tw kt [6] fun B ds w K => by kernel_rfl
end F101
namespace F52
noncomputable def body : Code := bodyOf Tryz.f52
def kt : List (Nat × List Nat) := [(9,[0,1,2,7,8]),(13,[0,9]),(15,[0])]
noncomputable def p1 : Code := sb 4 15 body
noncomputable def p2 : Code := sb 7 127 body
noncomputable def p3 : Code := sb 8 255 body
variable (A0 : Option Addr) (N0 C0 : Nat) (A1 : Option Addr) (I9 : Int) (N1 C1 : Nat) (A2 : Option Addr) (N2 C2 : Nat) (I7 I8 : Int)
abbrev l0 : List (Nat × Value) := [eS 0 A0 N0 C0,eS 1 A1 N1 C1,eS 2 A2 N2 C2]
def v0 : VP := fun B ds w K => bc (decide ((N1:Int) < (N2:Int))) False (bc ((N1:Int) == 0) (∃ h2 : Nat,0 = (h2:Int) ∧ h2 ≤ C0 ∧ Kd K .ret [eS 6 A0 h2 C0] ds w) (bc ((N2:Int) == 0) (Cl 60 #[(.slice A0 N0 C0),(.slice A1 N1 C1)] w fun r5 w6 => ∃ x7a,∃ x7l,∃ x7c,r5 = .returned (.slice x7a x7l x7c) ∧ Kd K .ret [eS 6 x7a x7l x7c] ds w6) (Wd 59 p1 [eS 0 A0 N0 C0,eS 1 A1 N1 C1,eS 2 A2 N2 C2,eI 7 (N1:Int),eI 8 (N2:Int)] ds w K)))
theorem t0 : VZ 59 body (l0 A0 N0 C0 A1 N1 C1 A2 N2 C2) (v0 A0 N0 C0 A1 N1 C1 A2 N2 C2) := tz kt [6] fun B ds w K => by kernel_rfl
theorem call : VCl 52 [.tmp 6] #[.slice A0 N0 C0, .slice A1 N1 C1, .slice A2 N2 C2] (v0 A0 N0 C0 A1 N1 C1 A2 N2 C2) := cz Tryz.func52 (by kernel_rfl) Tryz.ntmps52 Tryz.results52 (by kernel_rfl) (t0 A0 N0 C0 A1 N1 C1 A2 N2 C2)
abbrev l1 : List (Nat × Value) := [eS 0 A0 N0 C0,eS 1 A1 N1 C1,eS 2 A2 N2 C2,eI 7 I7,eI 8 I8]
def v1 : VP := fun B ds w K => Cl 73 #[(.slice A0 N0 C0),(.int .i64 I7)] w fun r1 w2 => ∃ x3a,∃ x3l,∃ x3c,r1 = .returned (.slice x3a x3l x3c) ∧ ∃ h5 : Nat,I8 = (h5:Int) ∧ h5 ≤ x3c ∧ ∃ h8 : Nat,I8 = (h8:Int) ∧ h8 ≤ C1 ∧ ∃ h11 : Nat,I8 = (h11:Int) ∧ h11 ≤ C2 ∧ Cl 82 #[(.slice x3a h5 x3c),(.slice A1 h8 C1),(.slice A2 h11 C2)] w2.drew fun r13 w14 => ∃ x15,r13 = .returned (.int .u64 x15) ∧ bc (decide (I7 > (I8:Int))) (∃ i16 : Nat,I8 = (i16:Int) ∧ i16 ≤ x3l ∧ ∃ i19 : Nat,I8 = (i19:Int) ∧ i19 ≤ N1 ∧ Cl 83 #[(.slice (shifted x3a i16 x3c 1) (x3l - i16) (x3c - i16)),(.slice (shifted A1 i19 C1 1) (N1 - i19) (C1 - i19)),(.int .u64 x15)] w14.drew fun r22 w23 => ∃ x24,r22 = .returned (.int .u64 x24) ∧ Wd 59 p2 [eS 0 x3a x3l x3c,eU 9 x24] ds w23 K) (Wd 59 p2 [eS 0 x3a x3l x3c,eU 9 x15] ds w14 K)
theorem t1 : VT 59 p1 (l1 A0 N0 C0 A1 N1 C1 A2 N2 C2 I7 I8) (v1 A0 N0 C0 A1 N1 C1 A2 C2 I7 I8) := tw kt [6] fun B ds w K => by kernel_rfl
abbrev l2 : List (Nat × Value) := [eS 0 A0 N0 C0,eU 9 I9]
def v2 : VP := fun B ds w K => bc (I9 != 0) False (Wd 59 p3 [eS 0 A0 N0 C0] ds w K)
theorem t2 : VT 59 p2 (l2 A0 N0 C0 I9) (v2 A0 N0 C0 I9) := tw kt [6] fun B ds w K => by kernel_rfl
abbrev l3 : List (Nat × Value) := [eS 0 A0 N0 C0]
def v3 : VP := fun B ds w K => Cl 46 #[(.slice A0 N0 C0)] w fun r1 w2 => ∃ x3a,∃ x3l,∃ x3c,r1 = .returned (.slice x3a x3l x3c) ∧ Kd K .ret [eS 6 x3a x3l x3c] ds w2
theorem t3 : VT 59 p3 (l3 A0 N0 C0) (v3 A0 N0 C0) := tw kt [6] fun B ds w K => by kernel_rfl
end F52
end Go.Proofs.YtlkjiiibmfpbcaaGreatDoor
