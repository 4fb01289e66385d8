/- Verification conditions, printed by wip/gen/gen.py and shrink.py; each is held against vc by the kernel. No condition. -/
import Derived.Test.YtlkjiiibmfpbcaaGreatDoorP05
namespace Go.Proofs.YtlkjiiibmfpbcaaGreatDoor
open Go
set_option maxRecDepth 100000
set_option linter.unusedVariables false
namespace F67
noncomputable def body : Code := bodyOf Tryz.f67
def kt : List (Nat × List Nat) := [(6,[0,1,2,11,12,13,14]),(12,[0,2,12,14]),(17,[0]),(18,[0,1,2,3,4])]
noncomputable def p1 : Code := sb 2 3 body
noncomputable def p2 : Code := sb 6 43 body
noncomputable def p3 : Code := sb 8 175 body
noncomputable def p4 : Code := sb 9 351 body
variable (D0 D1 D2 D3 : Option Addr) (I11 : Int) (D4 : Option Addr) (I12 : Int) (L13 L14 : Bool)
abbrev l0 : List (Nat × Value) := [eP 0 D0,eP 1 D1,eP 2 D2,eP 3 D3,eP 4 D4]
def v0 : VP := fun B ds w K => nc D3 fun b1 o2 => ∃ x3a,∃ x3l,∃ x3c,w.cell? ⟨b1,o2 + 1,none⟩ = some (.slice x3a x3l x3c) ∧ bc ((x3l:Int) == 0) (nc D3 fun b4 o5 => ∃ x6a,∃ x6l,∃ x6c,w.drew.cell? ⟨b4,o5 + 1,none⟩ = some (.slice x6a x6l x6c) ∧ nc D4 fun b7 o8 => ∃ x9a,∃ x9l,∃ x9c,w.drew.cell? ⟨b7,o8 + 1,none⟩ = some (.slice x9a x9l x9c) ∧ nc D3 fun b10 o11 => ∃ x12,w.drew.cell? ⟨b10,o11 + 0,none⟩ = some (.bool x12) ∧ nc D4 fun b13 o14 => ∃ x15,w.drew.cell? ⟨b13,o14 + 0,none⟩ = some (.bool x15) ∧ bc ((x6l:Int) == 0) (Cl 50 #[(.pointer D0),(.pointer D4)] w.drew fun r16 w17 => ∃ x18,r16 = .returned (.pointer x18) ∧ Wd 89 p2 [eP 0 D0,eP 1 D1,eP 2 D2,eI 11 (x6l:Int),eI 12 (x9l:Int),eB 13 x12,eB 14 x15] ds w17 (thenW Tryz.prog 89 p1 K)) (Cl 50 #[(.pointer D0),(.pointer D3)] w.drew fun r20 w21 => ∃ x22,r20 = .returned (.pointer x22) ∧ Wd 89 p2 [eP 0 D0,eP 1 D1,eP 2 D2,eI 11 (x6l:Int),eI 12 (x9l:Int),eB 13 x12,eB 14 x15] ds w21 (thenW Tryz.prog 89 p1 K))) (nc D4 fun b24 o25 => ∃ x26a,∃ x26l,∃ x26c,w.cell? ⟨b24,o25 + 1,none⟩ = some (.slice x26a x26l x26c) ∧ bc ((x26l:Int) == 0) (nc D3 fun b27 o28 => ∃ x29a,∃ x29l,∃ x29c,w.drew.cell? ⟨b27,o28 + 1,none⟩ = some (.slice x29a x29l x29c) ∧ nc D4 fun b30 o31 => ∃ x32a,∃ x32l,∃ x32c,w.drew.cell? ⟨b30,o31 + 1,none⟩ = some (.slice x32a x32l x32c) ∧ nc D3 fun b33 o34 => ∃ x35,w.drew.cell? ⟨b33,o34 + 0,none⟩ = some (.bool x35) ∧ nc D4 fun b36 o37 => ∃ x38,w.drew.cell? ⟨b36,o37 + 0,none⟩ = some (.bool x38) ∧ bc ((x29l:Int) == 0) (Cl 50 #[(.pointer D0),(.pointer D4)] w.drew fun r39 w40 => ∃ x41,r39 = .returned (.pointer x41) ∧ Wd 89 p2 [eP 0 D0,eP 1 D1,eP 2 D2,eI 11 (x29l:Int),eI 12 (x32l:Int),eB 13 x35,eB 14 x38] ds w40 (thenW Tryz.prog 89 p1 K)) (Cl 50 #[(.pointer D0),(.pointer D3)] w.drew fun r43 w44 => ∃ x45,r43 = .returned (.pointer x45) ∧ Wd 89 p2 [eP 0 D0,eP 1 D1,eP 2 D2,eI 11 (x29l:Int),eI 12 (x32l:Int),eB 13 x35,eB 14 x38] ds w44 (thenW Tryz.prog 89 p1 K))) (Wd 89 p1 [eP 0 D0,eP 1 D1,eP 2 D2,eP 3 D3,eP 4 D4] ds w K))
theorem t0 : VZ 89 body (l0 D0 D1 D2 D3 D4) (v0 D0 D1 D2 D3 D4) := tz kt [10] fun B ds w K => by kernel_rfl
theorem call : VCl 67 [.tmp 10] #[.pointer D0, .pointer D1, .pointer D2, .pointer D3, .pointer D4] (v0 D0 D1 D2 D3 D4) := cz Tryz.func67 (by kernel_rfl) Tryz.ntmps67 Tryz.results67 (by kernel_rfl) (t0 D0 D1 D2 D3 D4)
abbrev l1 : List (Nat × Value) := [eP 0 D0,eP 1 D1,eP 2 D2,eP 3 D3,eP 4 D4]
def v1 : VP := fun B ds w K => Cl 99 #[(.pointer D0),(.pointer D1),(.pointer D2),(.pointer D3),(.pointer D4)] w fun r1 w2 => ∃ x3,r1 = .returned (.pointer x3) ∧ Kd K .ret [eP 10 x3] ds w2
theorem t1 : VT 89 p1 (l1 D0 D1 D2 D3 D4) (v1 D0 D1 D2 D3 D4) := tw kt [10] fun B ds w K => by kernel_rfl
abbrev l2 : List (Nat × Value) := [eP 0 D0,eP 1 D1,eP 2 D2,eI 11 I11,eI 12 I12,eB 13 L13,eB 14 L14]
def v2 : VP := fun B ds w K => nc D0 fun b1 o2 => (∃ u3,w.cell? ⟨b1,o2 + 0,none⟩ = some u3) ∧ w.frozen? ⟨b1,o2 + 0,none⟩ = false ∧ ∃ q4,ptrEq (w.setCell ⟨b1,o2 + 0,none⟩ (.bool false)) D1 none q4 ∧ bc (!q4) (bc (I11 == 0) (Cl 98 #[(.pointer D1),(.int .u64 0)] (w.setCell ⟨b1,o2 + 0,none⟩ (.bool false)) fun r5 w6 => ∃ x7,r5 = .returned (.pointer x7) ∧ Wd 89 p3 [eP 0 D0,eP 2 D2,eI 12 I12,eB 14 L14] ds w6 K) (Cl 98 #[(.pointer D1),(.int .u64 1)] (w.setCell ⟨b1,o2 + 0,none⟩ (.bool false)) fun r9 w10 => ∃ x11,r9 = .returned (.pointer x11) ∧ nc D1 fun b12 o13 => (∃ u14,w10.cell? ⟨b12,o13 + 0,none⟩ = some u14) ∧ w10.frozen? ⟨b12,o13 + 0,none⟩ = false ∧ Wd 89 p3 [eP 0 D0,eP 2 D2,eI 12 I12,eB 14 L14] ds (w10.setCell ⟨b12,o13 + 0,none⟩ (.bool L13)) K)) (Wd 89 p3 [eP 0 D0,eP 2 D2,eI 12 I12,eB 14 L14] ds (w.setCell ⟨b1,o2 + 0,none⟩ (.bool false)) K)
theorem t2 : VT 89 p2 (l2 D0 D1 D2 I11 I12 L13 L14) (v2 D0 D1 D2 I11 I12 L13 L14) := tw kt [10] fun B ds w K => by kernel_rfl
abbrev l3 : List (Nat × Value) := [eP 0 D0,eP 2 D2,eI 12 I12,eB 14 L14]
def v3 : VP := fun B ds w K => ∃ q1,ptrEq w D2 none q1 ∧ bc (!q1) (bc (I12 == 0) (Cl 98 #[(.pointer D2),(.int .u64 0)] w fun r2 w3 => ∃ x4,r2 = .returned (.pointer x4) ∧ Wd 89 p4 [eP 0 D0] ds w3 K) (Cl 98 #[(.pointer D2),(.int .u64 1)] w fun r6 w7 => ∃ x8,r6 = .returned (.pointer x8) ∧ nc D2 fun b9 o10 => (∃ u11,w7.cell? ⟨b9,o10 + 0,none⟩ = some u11) ∧ w7.frozen? ⟨b9,o10 + 0,none⟩ = false ∧ Wd 89 p4 [eP 0 D0] ds (w7.setCell ⟨b9,o10 + 0,none⟩ (.bool L14)) K)) (Wd 89 p4 [eP 0 D0] ds w K)
theorem t3 : VT 89 p3 (l3 D0 D2 I12 L14) (v3 D0 D2 I12 L14) := tw kt [10] fun B ds w K => by kernel_rfl
abbrev l4 : List (Nat × Value) := [eP 0 D0]
def v4 : VP := fun B ds w K => Kd K .ret [eP 10 D0] ds w
theorem t4 : VT 89 p4 (l4 D0) (v4 D0) := tw kt [10] fun B ds w K => by kernel_rfl
end F67
namespace F131
noncomputable def body : Code := bodyOf Tryz.f131
def kt : List (Nat × List Nat) := []
variable (D0 D1 : Option Addr)
abbrev l0 : List (Nat × Value) := [eP 0 D0,eP 1 D1]
def v0 : VP := fun B ds w K => Cl 50 #[(.pointer D0),(.pointer D1)] w fun r1 w2 => ∃ x3,r1 = .returned (.pointer x3) ∧ nc D0 fun b4 o5 => (∃ u6,w2.cell? ⟨b4,o5 + 0,none⟩ = some u6) ∧ w2.frozen? ⟨b4,o5 + 0,none⟩ = false ∧ Kd K .ret [eP 4 D0] ds (w2.setCell ⟨b4,o5 + 0,none⟩ (.bool false))
theorem t0 : VZ 12 body (l0 D0 D1) (v0 D0 D1) := tz kt [4] fun B ds w K => by kernel_rfl
theorem call : VCl 131 [.tmp 4] #[.pointer D0, .pointer D1] (v0 D0 D1) := cz Tryz.func131 (by kernel_rfl) Tryz.ntmps131 Tryz.results131 (by kernel_rfl) (t0 D0 D1)
end F131
namespace F132
noncomputable def body : Code := bodyOf Tryz.f132
def kt : List (Nat × List Nat) := [(11,[9,10]),(14,[4,5,6,7,8,9,10,11,12]),(1000000,[4,5,6,7,8])]
noncomputable def p1 : Code := sb 7 127 body
noncomputable def p2 : Code := sb 11 2047 body
noncomputable def p3 : Code := sb 13 8184 body
noncomputable def p4 : Code := sb 11 2046 body
theorem q4 : p4 = .block 1 (.loop p3) := by kernel_rfl
variable (D0 : Option Addr) (I4 : Int) (D1 : Option Addr) (I5 I6 I7 : Int) (L8 : Bool) (I9 I10 I11 I12 : Int)
abbrev l0 : List (Nat × Value) := [eP 0 D0,eP 1 D1]
def v0 : VP := fun B ds w K => nc D1 fun b1 o2 => ∃ x3a,∃ x3l,∃ x3c,w.cell? ⟨b1,o2 + 1,none⟩ = some (.slice x3a x3l x3c) ∧ nc D0 fun b4 o5 => ∃ x6a,∃ x6l,∃ x6c,w.cell? ⟨b4,o5 + 1,none⟩ = some (.slice x6a x6l x6c) ∧ nc D0 fun b7 o8 => ∃ x9a,∃ x9l,∃ x9c,w.cell? ⟨b7,o8 + 1,none⟩ = some (.slice x9a x9l x9c) ∧ inI64 ((x6l:Int) - 1) ∧ nc x9a fun b11 o12 => ∃ k10 : Nat,((x6l:Int) - 1) = (k10:Int) ∧ k10 < x9l ∧ ∃ x13,w.cell? ⟨b11,o12 + k10,none⟩ = some (.int .u64 x13) ∧ Cl 78 #[(.int .u64 x13)] w fun r14 w15 => ∃ x16,r14 = .returned (.int .u64 x16) ∧ nc D0 fun b17 o18 => ∃ x19a,∃ x19l,∃ x19c,w15.drew.cell? ⟨b17,o18 + 1,none⟩ = some (.slice x19a x19l x19c) ∧ inI64 ((x6l:Int) - 1) ∧ nc x19a fun b21 o22 => ∃ k20 : Nat,((x6l:Int) - 1) = (k20:Int) ∧ k20 < x19l ∧ ∃ x23,w15.drew.cell? ⟨b21,o22 + k20,none⟩ = some (.int .u64 x23) ∧ (0:Int) ≤ x16 ∧ nc D0 fun b24 o25 => ∃ x26a,∃ x26l,∃ x26c,w15.drew.cell? ⟨b24,o25 + 1,none⟩ = some (.slice x26a x26l x26c) ∧ inI64 ((x6l:Int) - 2) ∧ nc x26a fun b28 o29 => ∃ k27 : Nat,((x6l:Int) - 2) = (k27:Int) ∧ k27 < x26l ∧ ∃ x30,w15.drew.cell? ⟨b28,o29 + k27,none⟩ = some (.int .u64 x30) ∧ (0:Int) ≤ (IntKind.wrap .u64 (64 - x16)) ∧ bc ((x6l:Int) == (x3l:Int)) (nc D1 fun b31 o32 => ∃ x33a,∃ x33l,∃ x33c,w15.drew.drew.cell? ⟨b31,o32 + 1,none⟩ = some (.slice x33a x33l x33c) ∧ inI64 ((x6l:Int) - 1) ∧ nc x33a fun b35 o36 => ∃ k34 : Nat,((x6l:Int) - 1) = (k34:Int) ∧ k34 < x33l ∧ ∃ x37,w15.drew.drew.cell? ⟨b35,o36 + k34,none⟩ = some (.int .u64 x37) ∧ (0:Int) ≤ x16 ∧ nc D1 fun b38 o39 => ∃ x40a,∃ x40l,∃ x40c,w15.drew.drew.cell? ⟨b38,o39 + 1,none⟩ = some (.slice x40a x40l x40c) ∧ inI64 ((x6l:Int) - 2) ∧ nc x40a fun b42 o43 => ∃ k41 : Nat,((x6l:Int) - 2) = (k41:Int) ∧ k41 < x40l ∧ ∃ x44,w15.drew.drew.cell? ⟨b42,o43 + k41,none⟩ = some (.int .u64 x44) ∧ (0:Int) ≤ (IntKind.wrap .u64 (64 - x16)) ∧ Wd 137 p1 [eU 9 (iOr .u64 (iShl .u64 x23 x16) (iShr .u64 x30 (IntKind.wrap .u64 (64 - x16)))),eU 10 (iOr .u64 (iShl .u64 x37 x16) (iShr .u64 x44 (IntKind.wrap .u64 (64 - x16))))] ds w15.drew.drew K) (inI64 ((x3l:Int) + 1) ∧ bc ((x6l:Int) == (((x3l:Int) + 1) : Int)) (nc D1 fun b46 o47 => ∃ x48a,∃ x48l,∃ x48c,w15.drew.cell? ⟨b46,o47 + 1,none⟩ = some (.slice x48a x48l x48c) ∧ inI64 ((x6l:Int) - 2) ∧ nc x48a fun b50 o51 => ∃ k49 : Nat,((x6l:Int) - 2) = (k49:Int) ∧ k49 < x48l ∧ ∃ x52,w15.drew.cell? ⟨b50,o51 + k49,none⟩ = some (.int .u64 x52) ∧ (0:Int) ≤ (IntKind.wrap .u64 (64 - x16)) ∧ Wd 137 p1 [eU 9 (iOr .u64 (iShl .u64 x23 x16) (iShr .u64 x30 (IntKind.wrap .u64 (64 - x16)))),eU 10 (iShr .u64 x52 (IntKind.wrap .u64 (64 - x16)))] ds w15.drew K) (Wd 137 p1 [eU 9 (iOr .u64 (iShl .u64 x23 x16) (iShr .u64 x30 (IntKind.wrap .u64 (64 - x16)))),eU 10 0] ds w15.drew K))
theorem t0 : VZ 137 body (l0 D0 D1) (v0 D0 D1) := tz kt [4,5,6,7,8] fun B ds w K => by kernel_rfl
theorem call : VCl 132 [.tmp 4, .tmp 5, .tmp 6, .tmp 7, .tmp 8] #[.pointer D0, .pointer D1] (v0 D0 D1) := cz Tryz.func132 (by kernel_rfl) Tryz.ntmps132 Tryz.results132 (by kernel_rfl) (t0 D0 D1)
abbrev l1 : List (Nat × Value) := [eU 9 I9,eU 10 I10]
def v1 : VP := fun B ds w K => Wd 137 p4 [eU 4 0,eU 5 1,eU 6 0,eU 7 0,eB 8 false,eU 9 I9,eU 10 I10,eU 11 0,eU 12 1] ds w (thenW Tryz.prog 137 p2 K)
theorem t1 : VT 137 p1 (l1 I9 I10) (v1 I9 I10) := tw kt [4,5,6,7,8] fun B ds w K => by kernel_rfl
abbrev l2 : List (Nat × Value) := [eU 4 I4,eU 5 I5,eU 6 I6,eU 7 I7,eB 8 L8]
def v2 : VP := fun B ds w K => Kd K .ret [eU 4 I4,eU 5 I5,eU 6 I6,eU 7 I7,eB 8 L8] ds w
theorem t2 : VT 137 p2 (l2 I4 I5 I6 I7 L8) (v2 I4 I5 I6 I7 L8) := tw kt [4,5,6,7,8] fun B ds w K => by kernel_rfl
abbrev l3 : List (Nat × Value) := [eU 4 I4,eU 5 I5,eU 6 I6,eU 7 I7,eB 8 L8,eU 9 I9,eU 10 I10,eU 11 I11,eU 12 I12]
def v3 : VP := fun B ds w K => bc (decide (I10 ≥ (I12:Int))) (bc (decide ((IntKind.wrap .u64 (I9 - I10)) ≥ ((IntKind.wrap .u64 (I7 + I12)) : Int))) (I10 ≠ (0:Int) ∧ I10 ≠ (0:Int) ∧ Kd K .normal [eU 4 I5,eU 5 I11,eU 6 I7,eU 7 I12,eB 8 (!L8),eU 9 I10,eU 10 (iRem I9 I10),eU 11 (IntKind.wrap .u64 (I5 + (IntKind.wrap .u64 ((iQuo .u64 I9 I10) * I11)))),eU 12 (IntKind.wrap .u64 (I7 + (IntKind.wrap .u64 ((iQuo .u64 I9 I10) * I12))))] ds w.drew) (Kd K (.exit 1) [eU 4 I4,eU 5 I5,eU 6 I6,eU 7 I7,eB 8 L8,eU 9 I9,eU 10 I10,eU 11 I11,eU 12 I12] ds w)) (Kd K (.exit 1) [eU 4 I4,eU 5 I5,eU 6 I6,eU 7 I7,eB 8 L8,eU 9 I9,eU 10 I10,eU 11 I11,eU 12 I12] ds w)
theorem t3 : VT 137 p3 (l3 I4 I5 I6 I7 L8 I9 I10 I11 I12) (v3 I4 I5 I6 I7 L8 I9 I10 I11 I12) := tw kt [4,5,6,7,8,9,10,11,12] fun B ds w K => by kernel_rfl
end F132
namespace F133
noncomputable def body : Code := bodyOf Tryz.f133
def kt : List (Nat × List Nat) := []
variable (D0 D1 D2 D3 : Option Addr) (I4 I5 I6 I7 : Int) (L8 : Bool)
abbrev l0 : List (Nat × Value) := [eP 0 D0,eP 1 D1,eP 2 D2,eP 3 D3,eU 4 I4,eU 5 I5,eU 6 I6,eU 7 I7,eB 8 L8]
def v0 : VP := fun B ds w K => Cl 135 #[(.pointer D2),(.pointer D1),(.bool L8),(.int .u64 I6)] w fun r1 w2 => r1 = .returned undef ∧ Cl 135 #[(.pointer D3),(.pointer D0),(.bool L8),(.int .u64 I5)] w2 fun r3 w4 => r3 = .returned undef ∧ Cl 135 #[(.pointer D0),(.pointer D0),(.bool (!L8)),(.int .u64 I4)] w4 fun r5 w6 => r5 = .returned undef ∧ Cl 135 #[(.pointer D1),(.pointer D1),(.bool (!L8)),(.int .u64 I7)] w6 fun r7 w8 => r7 = .returned undef ∧ Cl 70 #[(.pointer D0),(.pointer D0),(.pointer D2)] w8 fun r9 w10 => ∃ x11,r9 = .returned (.pointer x11) ∧ Cl 70 #[(.pointer D1),(.pointer D1),(.pointer D3)] w10 fun r12 w13 => ∃ x14,r12 = .returned (.pointer x14) ∧ Kd K .normal [] ds w13
theorem t0 : VZ 48 body (l0 D0 D1 D2 D3 I4 I5 I6 I7 L8) (v0 D0 D1 D2 D3 I4 I5 I6 I7 L8) := tz kt [] fun B ds w K => by kernel_rfl
theorem call : VCl 133 [] #[.pointer D0, .pointer D1, .pointer D2, .pointer D3, .int .u64 I4, .int .u64 I5, .int .u64 I6, .int .u64 I7, .bool L8] (v0 D0 D1 D2 D3 I4 I5 I6 I7 L8) := cz Tryz.func133 (by kernel_rfl) Tryz.ntmps133 Tryz.results133 (by kernel_rfl) (t0 D0 D1 D2 D3 I4 I5 I6 I7 L8)
end F133
namespace F134
noncomputable def body : Code := bodyOf Tryz.f134
def kt : List (Nat × List Nat) := [(6,[0,1,2,3,5])]
noncomputable def p1 : Code := sb 3 7 body
variable (D0 D1 D2 D3 D4 D5 : Option Addr) (L6 : Bool)
abbrev l0 : List (Nat × Value) := [eP 0 D0,eP 1 D1,eP 2 D2,eP 3 D3,eP 4 D4,eP 5 D5,eB 6 L6]
def v0 : VP := fun B ds w K => Cl 96 #[(.pointer D4),(.pointer D0),(.pointer D1),(.pointer D5)] w fun r1 w2 => ∃ x3,True ∧ ∃ x4,True ∧ r1 = .returned (.tuple #[(.pointer x3),(.pointer x4)]) ∧ bc L6 (Cl 136 #[(.pointer D4),(.pointer D4),(.pointer D3)] w2 fun r5 w6 => ∃ x7,r5 = .returned (.pointer x7) ∧ Cl 97 #[(.pointer D2),(.pointer D2),(.pointer D4)] w6 fun r8 w9 => ∃ x10,r8 = .returned (.pointer x10) ∧ Wd 40 p1 [eP 0 D0,eP 1 D1,eP 2 D3,eP 3 D2,eP 5 D5] ds w9 K) (Wd 40 p1 [eP 0 D0,eP 1 D1,eP 2 D2,eP 3 D3,eP 5 D5] ds w2 K)
theorem t0 : VZ 40 body (l0 D0 D1 D2 D3 D4 D5 L6) (v0 D0 D1 D2 D3 D4 D5 L6) := tz kt [14,15,16,17,18] fun B ds w K => by kernel_rfl
theorem call : VCl 134 [.tmp 14, .tmp 15, .tmp 16, .tmp 17, .tmp 18] #[.pointer D0, .pointer D1, .pointer D2, .pointer D3, .pointer D4, .pointer D5, .bool L6] (v0 D0 D1 D2 D3 D4 D5 L6) := cz Tryz.func134 (by kernel_rfl) Tryz.ntmps134 Tryz.results134 (by kernel_rfl) (t0 D0 D1 D2 D3 D4 D5 L6)
abbrev l1 : List (Nat × Value) := [eP 0 D0,eP 1 D1,eP 2 D2,eP 3 D3,eP 5 D5]
def v1 : VP := fun B ds w K => Kd K .ret [eP 14 D1,eP 15 D5,eP 16 D0,eP 17 D2,eP 18 D3] ds w
theorem t1 : VT 40 p1 (l1 D0 D1 D2 D3 D5) (v1 D0 D1 D2 D3 D5) := tw kt [14,15,16,17,18] fun B ds w K => by kernel_rfl
end F134
namespace F135
noncomputable def body : Code := bodyOf Tryz.f135
def kt : List (Nat × List Nat) := []
variable (D0 D1 : Option Addr) (L2 : Bool) (I3 : Int)
abbrev l0 : List (Nat × Value) := [eP 0 D0,eP 1 D1,eB 2 L2,eU 3 I3]
def v0 : VP := fun B ds w K => nc D0 fun b1 o2 => ∃ x3a,∃ x3l,∃ x3c,w.drew.cell? ⟨b1,o2 + 1,none⟩ = some (.slice x3a x3l x3c) ∧ nc D1 fun b4 o5 => ∃ x6a,∃ x6l,∃ x6c,w.drew.cell? ⟨b4,o5 + 1,none⟩ = some (.slice x6a x6l x6c) ∧ Cl 117 #[(.slice x3a x3l x3c),(.slice x6a x6l x6c),(.int .u64 I3),(.int .u64 0)] w.drew fun r7 w8 => ∃ x9a,∃ x9l,∃ x9c,r7 = .returned (.slice x9a x9l x9c) ∧ nc D0 fun b10 o11 => (∃ u12,w8.cell? ⟨b10,o11 + 1,none⟩ = some u12) ∧ w8.frozen? ⟨b10,o11 + 1,none⟩ = false ∧ nc D1 fun b13 o14 => ∃ x15,World.cell? (w8.setCell ⟨b10,o11 + 1,none⟩ (.slice x9a x9l x9c)) ⟨b13,o14 + 0,none⟩ = some (.bool x15) ∧ nc D0 fun b16 o17 => (∃ u18,World.cell? (w8.setCell ⟨b10,o11 + 1,none⟩ (.slice x9a x9l x9c)) ⟨b16,o17 + 0,none⟩ = some u18) ∧ World.frozen? (w8.setCell ⟨b10,o11 + 1,none⟩ (.slice x9a x9l x9c)) ⟨b16,o17 + 0,none⟩ = false ∧ Kd K .normal [] ds (World.setCell (w8.setCell ⟨b10,o11 + 1,none⟩ (.slice x9a x9l x9c)) ⟨b16,o17 + 0,none⟩ (.bool (!(x15 == L2))))
theorem t0 : VZ 30 body (l0 D0 D1 L2 I3) (v0 D0 D1 L2 I3) := tz kt [] fun B ds w K => by kernel_rfl
theorem call : VCl 135 [] #[.pointer D0, .pointer D1, .bool L2, .int .u64 I3] (v0 D0 D1 L2 I3) := cz Tryz.func135 (by kernel_rfl) Tryz.ntmps135 Tryz.results135 (by kernel_rfl) (t0 D0 D1 L2 I3)
end F135
namespace F136
noncomputable def body : Code := bodyOf Tryz.f136
def kt : List (Nat × List Nat) := []
variable (D0 D1 D2 : Option Addr)
abbrev l0 : List (Nat × Value) := [eP 0 D0,eP 1 D1,eP 2 D2]
def v0 : VP := fun B ds w K => Cl 149 #[(.pointer D0),(.pointer none),(.pointer D1),(.pointer D2)] w fun r1 w2 => r1 = .returned undef ∧ Kd K .ret [eP 6 D0] ds w2
theorem t0 : VZ 12 body (l0 D0 D1 D2) (v0 D0 D1 D2) := tz kt [6] fun B ds w K => by kernel_rfl
theorem call : VCl 136 [.tmp 6] #[.pointer D0, .pointer D1, .pointer D2] (v0 D0 D1 D2) := cz Tryz.func136 (by kernel_rfl) Tryz.ntmps136 Tryz.results136 (by kernel_rfl) (t0 D0 D1 D2)
end F136
namespace F99
noncomputable def body : Code := bodyOf Tryz.f99
def kt : List (Nat × List Nat) := [(8,[0,1,2,3,4,11,12,13,14,15]),(13,[0,1,2,3,4,11,12,13,14,15,16,17]),(20,[0,1,2,3,4,11,12,13,14,15,16,17]),(23,[0,1,2,3,4,11,12,13,14,15]),(30,[0,1,2,3,4,11,12,13,14,23,24,25,26,27,28,29]),(36,[0,1,2,3,4,11,12,13,14,23,25,27,29]),(39,[0,1,2,3,4,11,12,13,23,24]),(41,[0,1,2,3,4,11,12,13,23]),(42,[0,1,2,3,4,11,12,13]),(47,[0,1,2,3,11,12,13,32]),(50,[0,1,2,11,12,13,32]),(52,[0,1,11,13,32]),(56,[0,11])]
noncomputable def p1 : Code := sb 6 63 body
noncomputable def p2 : Code := sb 9 511 body
noncomputable def p3 : Code := sb 10 1023 body
noncomputable def p4 : Code := sb 12 4088 body
noncomputable def p5 : Code := sb 10 1022 body
noncomputable def p6 : Code := sb 11 2047 body
noncomputable def p7 : Code := sb 14 16373 body
noncomputable def p8 : Code := sb 13 8191 body
noncomputable def p9 : Code := sb 16 65525 body
noncomputable def p10 : Code := sb 25 33533279 body
noncomputable def p11 : Code := sb 18 261979 body
noncomputable def p12 : Code := sb 27 134133112 body
noncomputable def p13 : Code := sb 25 33533278 body
noncomputable def p14 : Code := sb 22 4191660 body
noncomputable def p15 : Code := sb 20 1047915 body
noncomputable def p16 : Code := sb 14 16383 body
noncomputable def p17 : Code := sb 18 262103 body
theorem q5 : p5 = .block 0 (.loop p4) := by kernel_rfl
theorem q13 : p13 = .block 2 (.loop p12) := by kernel_rfl
theorem q15 : p15 = .block 4 (.loop p14) := by kernel_rfl
variable (D0 D1 D2 D3 D4 D11 D12 D13 D14 : Option Addr) (L32 L15 : Bool) (I23 : Int) (D16 : Option Addr) (I24 : Int) (D17 : Option Addr) (I25 I26 I27 I28 : Int) (L29 : Bool)
abbrev l0 : List (Nat × Value) := [eP 0 D0,eP 1 D1,eP 2 D2,eP 3 D3,eP 4 D4]
def v0 : VP := fun B ds w K => Cl 131 #[(.pointer (some ⟨(World.heap w).size,0,none⟩)),(.pointer D3)] (World.alloc w (.cells #[(Value.bool Bool.false),(Value.slice none 0 0)] 47)) fun r1 w2 => ∃ x3,r1 = .returned (.pointer x3) ∧ Cl 131 #[(.pointer (some ⟨(World.heap w2).size,0,none⟩)),(.pointer D4)] (World.alloc w2 (.cells #[(Value.bool Bool.false),(Value.slice none 0 0)] 47)) fun r4 w5 => ∃ x6,r4 = .returned (.pointer x6) ∧ ∃ q7,ptrEq w5 D1 none q7 ∧ bc (!q7) (Cl 47 #[(.pointer (some ⟨(World.heap w5).size,0,none⟩)),(.int .i64 1)] (World.alloc w5 (.cells #[(Value.bool Bool.false),(Value.slice none 0 0)] 47)) fun r8 w9 => ∃ x10,r8 = .returned (.pointer x10) ∧ Wd 265 p1 [eP 0 D0,eP 1 D1,eP 2 D2,eP 3 D3,eP 4 D4,eP 11 x3,eP 12 x6,eP 13 x10,eP 14 (some ⟨(World.heap w9).size,0,none⟩),eB 15 true] ds (World.alloc w9 (.cells #[(Value.bool Bool.false),(Value.slice none 0 0)] 47)) K) (∃ q12,ptrEq w5 D2 none q12 ∧ bc (!q12) (Cl 47 #[(.pointer (some ⟨(World.heap w5).size,0,none⟩)),(.int .i64 1)] (World.alloc w5 (.cells #[(Value.bool Bool.false),(Value.slice none 0 0)] 47)) fun r13 w14 => ∃ x15,r13 = .returned (.pointer x15) ∧ Wd 265 p1 [eP 0 D0,eP 1 D1,eP 2 D2,eP 3 D3,eP 4 D4,eP 11 x3,eP 12 x6,eP 13 x15,eP 14 (some ⟨(World.heap w14).size,0,none⟩),eB 15 (!q12)] ds (World.alloc w14 (.cells #[(Value.bool Bool.false),(Value.slice none 0 0)] 47)) K) (Wd 265 p1 [eP 0 D0,eP 1 D1,eP 2 D2,eP 3 D3,eP 4 D4,eP 11 x3,eP 12 x6,eP 13 none,eP 14 none,eB 15 (!q12)] ds w5 K))
theorem t0 : VZ 265 body (l0 D0 D1 D2 D3 D4) (v0 D0 D1 D2 D3 D4) := tz kt [10] fun B ds w K => by kernel_rfl
theorem call : VCl 99 [.tmp 10] #[.pointer D0, .pointer D1, .pointer D2, .pointer D3, .pointer D4] (v0 D0 D1 D2 D3 D4) := cz Tryz.func99 (by kernel_rfl) Tryz.ntmps99 Tryz.results99 (by kernel_rfl) (t0 D0 D1 D2 D3 D4)
abbrev l1 : List (Nat × Value) := [eP 0 D0,eP 1 D1,eP 2 D2,eP 3 D3,eP 4 D4,eP 11 D11,eP 12 D12,eP 13 D13,eP 14 D14,eB 15 L15]
def v1 : VP := fun B ds w K => nc D11 fun b1 o2 => ∃ x3a,∃ x3l,∃ x3c,World.cell? (World.drew (World.alloc (World.alloc w (.cells #[(Value.bool Bool.false),(Value.slice none 0 0)] 47)) (.cells #[(Value.bool Bool.false),(Value.slice none 0 0)] 47))) ⟨b1,o2 + 1,none⟩ = some (.slice x3a x3l x3c) ∧ nc D12 fun b4 o5 => ∃ x6a,∃ x6l,∃ x6c,World.cell? (World.drew (World.alloc (World.alloc w (.cells #[(Value.bool Bool.false),(Value.slice none 0 0)] 47)) (.cells #[(Value.bool Bool.false),(Value.slice none 0 0)] 47))) ⟨b4,o5 + 1,none⟩ = some (.slice x6a x6l x6c) ∧ Cl 92 #[(.slice x3a x3l x3c),(.slice x6a x6l x6c)] (World.drew (World.alloc (World.alloc w (.cells #[(Value.bool Bool.false),(Value.slice none 0 0)] 47)) (.cells #[(Value.bool Bool.false),(Value.slice none 0 0)] 47))) fun r7 w8 => ∃ x9,r7 = .returned (.int .i64 x9) ∧ bc (decide (x9 < (0:Int))) (Wd 265 p2 [eP 0 D0,eP 1 D1,eP 2 D2,eP 3 D3,eP 4 D4,eP 11 D12,eP 12 D11,eP 13 D14,eP 14 D13,eB 15 L15,eP 16 (some ⟨(World.heap w).size,0,none⟩),eP 17 (some ⟨(World.heap (World.alloc w (.cells #[(Value.bool Bool.false),(Value.slice none 0 0)] 47))).size,0,none⟩)] ds w8 K) (Wd 265 p2 [eP 0 D0,eP 1 D1,eP 2 D2,eP 3 D3,eP 4 D4,eP 11 D11,eP 12 D12,eP 13 D13,eP 14 D14,eB 15 L15,eP 16 (some ⟨(World.heap w).size,0,none⟩),eP 17 (some ⟨(World.heap (World.alloc w (.cells #[(Value.bool Bool.false),(Value.slice none 0 0)] 47))).size,0,none⟩)] ds w8 K)
theorem t1 : VT 265 p1 (l1 D0 D1 D2 D3 D4 D11 D12 D13 D14 L15) (v1 D0 D1 D2 D3 D4 D11 D12 D13 D14 L15) := tw kt [10] fun B ds w K => by kernel_rfl
abbrev l2 : List (Nat × Value) := [eP 0 D0,eP 1 D1,eP 2 D2,eP 3 D3,eP 4 D4,eP 11 D11,eP 12 D12,eP 13 D13,eP 14 D14,eB 15 L15,eP 16 D16,eP 17 D17]
def v2 : VP := fun B ds w K => Wd 265 p5 [eP 0 D0,eP 1 D1,eP 2 D2,eP 3 D3,eP 4 D4,eP 11 D11,eP 12 D12,eP 13 D13,eP 14 D14,eB 15 L15,eP 16 D16,eP 17 D17] ds w (thenW Tryz.prog 265 p3 K)
theorem t2 : VT 265 p2 (l2 D0 D1 D2 D3 D4 D11 D12 D13 D14 L15 D16 D17) (v2 D0 D1 D2 D3 D4 D11 D12 D13 D14 L15 D16 D17) := tw kt [10] fun B ds w K => by kernel_rfl
abbrev l3 : List (Nat × Value) := [eP 0 D0,eP 1 D1,eP 2 D2,eP 3 D3,eP 4 D4,eP 11 D11,eP 12 D12,eP 13 D13,eP 14 D14,eB 15 L15,eP 16 D16,eP 17 D17]
def v3 : VP := fun B ds w K => nc D12 fun b1 o2 => ∃ x3a,∃ x3l,∃ x3c,w.cell? ⟨b1,o2 + 1,none⟩ = some (.slice x3a x3l x3c) ∧ bc (decide ((x3l:Int) > (0:Int))) (nc D11 fun b4 o5 => ∃ x6a,∃ x6l,∃ x6c,w.cell? ⟨b4,o5 + 1,none⟩ = some (.slice x6a x6l x6c) ∧ bc (decide ((x6l:Int) > (1:Int))) (Cl 134 #[(.pointer D11),(.pointer D12),(.pointer D13),(.pointer D14),(.pointer D16),(.pointer D17),(.bool L15)] w fun r7 w8 => ∃ x9,True ∧ ∃ x10,True ∧ ∃ x11,True ∧ ∃ x12,True ∧ ∃ x13,True ∧ r7 = .returned (.tuple #[(.pointer x9),(.pointer x10),(.pointer x11),(.pointer x12),(.pointer x13)]) ∧ Wd 265 p7 [eP 0 D0,eP 1 D1,eP 2 D2,eP 3 D3,eP 4 D4,eP 11 x9,eP 12 x10,eP 13 x12,eP 14 x13,eB 15 L15] ds w8 (thenW Tryz.prog 265 p6 K)) (Wd 265 p7 [eP 0 D0,eP 1 D1,eP 2 D2,eP 3 D3,eP 4 D4,eP 11 D11,eP 12 D12,eP 13 D13,eP 14 D14,eB 15 L15] ds w (thenW Tryz.prog 265 p6 K))) (Wd 265 p6 [eP 0 D0,eP 1 D1,eP 2 D2,eP 3 D3,eP 4 D4,eP 11 D11,eP 12 D12,eP 13 D13] ds w K)
theorem t3 : VT 265 p3 (l3 D0 D1 D2 D3 D4 D11 D12 D13 D14 L15 D16 D17) (v3 D0 D1 D2 D3 D4 D11 D12 D13 D14 L15 D16 D17) := tw kt [10] fun B ds w K => by kernel_rfl
abbrev l4 : List (Nat × Value) := [eP 0 D0,eP 1 D1,eP 2 D2,eP 3 D3,eP 4 D4,eP 11 D11,eP 12 D12,eP 13 D13,eP 14 D14,eB 15 L15,eP 16 D16,eP 17 D17]
def v4 : VP := fun B ds w K => nc D12 fun b1 o2 => ∃ x3a,∃ x3l,∃ x3c,w.cell? ⟨b1,o2 + 1,none⟩ = some (.slice x3a x3l x3c) ∧ bc (decide ((x3l:Int) > (1:Int))) (Cl 132 #[(.pointer D11),(.pointer D12)] w fun r4 w5 => ∃ x6,True ∧ ∃ x7,True ∧ ∃ x8,True ∧ ∃ x9,True ∧ ∃ x10,True ∧ r4 = .returned (.tuple #[(.int .u64 x6),(.int .u64 x7),(.int .u64 x8),(.int .u64 x9),(.bool x10)]) ∧ bc (x8 != 0) (Cl 133 #[(.pointer D11),(.pointer D12),(.pointer D16),(.pointer D17),(.int .u64 x6),(.int .u64 x7),(.int .u64 x8),(.int .u64 x9),(.bool x10)] w5 fun r11 w12 => r11 = .returned undef ∧ bc L15 (Cl 133 #[(.pointer D13),(.pointer D14),(.pointer D16),(.pointer D17),(.int .u64 x6),(.int .u64 x7),(.int .u64 x8),(.int .u64 x9),(.bool x10)] w12 fun r13 w14 => r13 = .returned undef ∧ Kd K .normal [eP 0 D0,eP 1 D1,eP 2 D2,eP 3 D3,eP 4 D4,eP 11 D11,eP 12 D12,eP 13 D13,eP 14 D14,eB 15 L15,eP 16 D16,eP 17 D17] ds w14) (Kd K .normal [eP 0 D0,eP 1 D1,eP 2 D2,eP 3 D3,eP 4 D4,eP 11 D11,eP 12 D12,eP 13 D13,eP 14 D14,eB 15 L15,eP 16 D16,eP 17 D17] ds w12)) (Cl 134 #[(.pointer D11),(.pointer D12),(.pointer D13),(.pointer D14),(.pointer D16),(.pointer D17),(.bool L15)] w5 fun r17 w18 => ∃ x19,True ∧ ∃ x20,True ∧ ∃ x21,True ∧ ∃ x22,True ∧ ∃ x23,True ∧ r17 = .returned (.tuple #[(.pointer x19),(.pointer x20),(.pointer x21),(.pointer x22),(.pointer x23)]) ∧ Kd K .normal [eP 0 D0,eP 1 D1,eP 2 D2,eP 3 D3,eP 4 D4,eP 11 x19,eP 12 x20,eP 13 x22,eP 14 x23,eB 15 L15,eP 16 D16,eP 17 x21] ds w18)) (Kd K (.exit 0) [eP 0 D0,eP 1 D1,eP 2 D2,eP 3 D3,eP 4 D4,eP 11 D11,eP 12 D12,eP 13 D13,eP 14 D14,eB 15 L15,eP 16 D16,eP 17 D17] ds w)
theorem t4 : VT 265 p4 (l4 D0 D1 D2 D3 D4 D11 D12 D13 D14 L15 D16 D17) (v4 D0 D1 D2 D3 D4 D11 D12 D13 D14 L15 D16 D17) := tw kt [0,1,2,3,4,11,12,13,14,15,16,17] fun B ds w K => by kernel_rfl
abbrev l6 : List (Nat × Value) := [eP 0 D0,eP 1 D1,eP 2 D2,eP 3 D3,eP 4 D4,eP 11 D11,eP 12 D12,eP 13 D13]
def v6 : VP := fun B ds w K => nc D3 fun b1 o2 => ∃ x3,w.cell? ⟨b1,o2 + 0,none⟩ = some (.bool x3) ∧ ∃ q4,ptrEq w D2 none q4 ∧ bc (!q4) (∃ q5,ptrEq w D2 D4 q5 ∧ bc q5 (Cl 50 #[(.pointer D12),(.pointer D4)] w fun r6 w7 => ∃ x8,r6 = .returned (.pointer x8) ∧ Wd 265 p9 [eP 0 D0,eP 1 D1,eP 2 D2,eP 3 D3,eP 11 D11,eP 12 D12,eP 13 D13,eB 32 x3] ds w7 (thenW Tryz.prog 265 p8 K)) (Wd 265 p9 [eP 0 D0,eP 1 D1,eP 2 D2,eP 3 D3,eP 11 D11,eP 12 D4,eP 13 D13,eB 32 x3] ds w (thenW Tryz.prog 265 p8 K))) (Wd 265 p8 [eP 0 D0,eP 1 D1,eP 11 D11,eP 13 D13,eB 32 x3] ds w K)
theorem t6 : VT 265 p6 (l6 D0 D1 D2 D3 D4 D11 D12 D13) (v6 D0 D1 D2 D3 D4 D11 D12 D13) := tw kt [10] fun B ds w K => by kernel_rfl
abbrev l7 : List (Nat × Value) := [eP 0 D0,eP 1 D1,eP 2 D2,eP 3 D3,eP 4 D4,eP 11 D11,eP 12 D12,eP 13 D13,eP 14 D14,eB 15 L15]
def v7 : VP := fun B ds w K => nc D12 fun b1 o2 => ∃ x3a,∃ x3l,∃ x3c,w.cell? ⟨b1,o2 + 1,none⟩ = some (.slice x3a x3l x3c) ∧ bc (decide ((x3l:Int) > (0:Int))) (nc D11 fun b4 o5 => ∃ x6a,∃ x6l,∃ x6c,w.drew.cell? ⟨b4,o5 + 1,none⟩ = some (.slice x6a x6l x6c) ∧ nc x6a fun b8 o9 => ∃ k7 : Nat,0 = (k7:Int) ∧ k7 < x6l ∧ ∃ x10,w.drew.cell? ⟨b8,o9 + k7,none⟩ = some (.int .u64 x10) ∧ nc D12 fun b11 o12 => ∃ x13a,∃ x13l,∃ x13c,w.drew.cell? ⟨b11,o12 + 1,none⟩ = some (.slice x13a x13l x13c) ∧ nc x13a fun b15 o16 => ∃ k14 : Nat,0 = (k14:Int) ∧ k14 < x13l ∧ ∃ x17,w.drew.cell? ⟨b15,o16 + k14,none⟩ = some (.int .u64 x17) ∧ bc L15 (Wd 265 p13 [eP 0 D0,eP 1 D1,eP 2 D2,eP 3 D3,eP 4 D4,eP 11 D11,eP 12 D12,eP 13 D13,eP 14 D14,eU 23 x10,eU 24 x17,eU 25 1,eU 26 0,eU 27 0,eU 28 1,eB 29 true] ds w.drew (thenW Tryz.prog 265 p10 (thenW Tryz.prog 265 p11 K))) (Wd 265 p15 [eP 0 D0,eP 1 D1,eP 2 D2,eP 3 D3,eP 4 D4,eP 11 D11,eP 12 D12,eP 13 D13,eU 23 x10,eU 24 x17] ds w.drew (thenW Tryz.prog 265 p11 K))) (Kd K .normal [eP 0 D0,eP 1 D1,eP 2 D2,eP 3 D3,eP 4 D4,eP 11 D11,eP 12 D12,eP 13 D13] ds w)
theorem t7 : VT 265 p7 (l7 D0 D1 D2 D3 D4 D11 D12 D13 D14 L15) (v7 D0 D1 D2 D3 D4 D11 D12 D13 D14 L15) := tw kt [0,1,2,3,4,11,12,13] fun B ds w K => by kernel_rfl
abbrev l8 : List (Nat × Value) := [eP 0 D0,eP 1 D1,eP 11 D11,eP 13 D13,eB 32 L32]
def v8 : VP := fun B ds w K => ∃ q1,ptrEq w D1 none q1 ∧ bc (!q1) (Cl 50 #[(.pointer D1),(.pointer D13)] w fun r2 w3 => ∃ x4,r2 = .returned (.pointer x4) ∧ bc L32 (nc D1 fun b5 o6 => ∃ x7,w3.cell? ⟨b5,o6 + 0,none⟩ = some (.bool x7) ∧ nc D1 fun b8 o9 => (∃ u10,w3.cell? ⟨b8,o9 + 0,none⟩ = some u10) ∧ w3.frozen? ⟨b8,o9 + 0,none⟩ = false ∧ Wd 265 p16 [eP 0 D0,eP 11 D11] ds (w3.setCell ⟨b8,o9 + 0,none⟩ (.bool (!x7))) K) (Wd 265 p16 [eP 0 D0,eP 11 D11] ds w3 K)) (Wd 265 p16 [eP 0 D0,eP 11 D11] ds w K)
theorem t8 : VT 265 p8 (l8 D0 D1 D11 D13 L32) (v8 D0 D1 D11 D13 L32) := tw kt [10] fun B ds w K => by kernel_rfl
abbrev l9 : List (Nat × Value) := [eP 0 D0,eP 1 D1,eP 2 D2,eP 3 D3,eP 11 D11,eP 12 D12,eP 13 D13,eB 32 L32]
def v9 : VP := fun B ds w K => Cl 136 #[(.pointer D2),(.pointer D3),(.pointer D13)] w fun r1 w2 => ∃ x3,r1 = .returned (.pointer x3) ∧ bc L32 (nc D2 fun b4 o5 => ∃ x6,w2.cell? ⟨b4,o5 + 0,none⟩ = some (.bool x6) ∧ nc D2 fun b7 o8 => (∃ u9,w2.cell? ⟨b7,o8 + 0,none⟩ = some u9) ∧ w2.frozen? ⟨b7,o8 + 0,none⟩ = false ∧ Wd 265 p17 [eP 0 D0,eP 1 D1,eP 2 D2,eP 11 D11,eP 12 D12,eP 13 D13,eB 32 L32] ds (w2.setCell ⟨b7,o8 + 0,none⟩ (.bool (!x6))) K) (Wd 265 p17 [eP 0 D0,eP 1 D1,eP 2 D2,eP 11 D11,eP 12 D12,eP 13 D13,eB 32 L32] ds w2 K)
theorem t9 : VT 265 p9 (l9 D0 D1 D2 D3 D11 D12 D13 L32) (v9 D0 D1 D2 D3 D11 D12 D13 L32) := tw kt [0,1,11,13,32] fun B ds w K => by kernel_rfl
abbrev l10 : List (Nat × Value) := [eP 0 D0,eP 1 D1,eP 2 D2,eP 3 D3,eP 4 D4,eP 11 D11,eP 12 D12,eP 13 D13,eP 14 D14,eU 23 I23,eU 25 I25,eU 27 I27,eB 29 L29]
def v10 : VP := fun B ds w K => Cl 135 #[(.pointer D13),(.pointer D13),(.bool (!L29)),(.int .u64 I25)] w fun r1 w2 => r1 = .returned undef ∧ Cl 135 #[(.pointer D14),(.pointer D14),(.bool L29),(.int .u64 I27)] w2 fun r3 w4 => r3 = .returned undef ∧ Cl 70 #[(.pointer D13),(.pointer D13),(.pointer D14)] w4 fun r5 w6 => ∃ x7,r5 = .returned (.pointer x7) ∧ Kd K .normal [eP 0 D0,eP 1 D1,eP 2 D2,eP 3 D3,eP 4 D4,eP 11 D11,eP 12 D12,eP 13 D13,eU 23 I23] ds w6
theorem t10 : VT 265 p10 (l10 D0 D1 D2 D3 D4 D11 D12 D13 D14 I23 I25 I27 L29) (v10 D0 D1 D2 D3 D4 D11 D12 D13 D14 I23 I25 I27 L29) := tw kt [0,1,2,3,4,11,12,13,23] fun B ds w K => by kernel_rfl
abbrev l11 : List (Nat × Value) := [eP 0 D0,eP 1 D1,eP 2 D2,eP 3 D3,eP 4 D4,eP 11 D11,eP 12 D12,eP 13 D13,eU 23 I23]
def v11 : VP := fun B ds w K => nc D11 fun b1 o2 => ∃ x3a,∃ x3l,∃ x3c,w.cell? ⟨b1,o2 + 1,none⟩ = some (.slice x3a x3l x3c) ∧ nc x3a fun b5 o6 => ∃ k4 : Nat,0 = (k4:Int) ∧ k4 < x3l ∧ (∃ u7,w.cell? ⟨b5,o6 + k4,none⟩ = some u7) ∧ w.frozen? ⟨b5,o6 + k4,none⟩ = false ∧ Kd K .normal [eP 0 D0,eP 1 D1,eP 2 D2,eP 3 D3,eP 4 D4,eP 11 D11,eP 12 D12,eP 13 D13] ds (w.setCell ⟨b5,o6 + k4,none⟩ (.int .u64 I23))
theorem t11 : VT 265 p11 (l11 D0 D1 D2 D3 D4 D11 D12 D13 I23) (v11 D0 D1 D2 D3 D4 D11 D12 D13 I23) := tw kt [0,1,2,3,4,11,12,13] fun B ds w K => by kernel_rfl
abbrev l12 : List (Nat × Value) := [eP 0 D0,eP 1 D1,eP 2 D2,eP 3 D3,eP 4 D4,eP 11 D11,eP 12 D12,eP 13 D13,eP 14 D14,eU 23 I23,eU 24 I24,eU 25 I25,eU 26 I26,eU 27 I27,eU 28 I28,eB 29 L29]
def v12 : VP := fun B ds w K => bc (I24 != 0) (I24 ≠ (0:Int) ∧ I24 ≠ (0:Int) ∧ Kd K .normal [eP 0 D0,eP 1 D1,eP 2 D2,eP 3 D3,eP 4 D4,eP 11 D11,eP 12 D12,eP 13 D13,eP 14 D14,eU 23 I24,eU 24 (iRem I23 I24),eU 25 I26,eU 26 (IntKind.wrap .u64 (I25 + (IntKind.wrap .u64 ((iQuo .u64 I23 I24) * I26)))),eU 27 I28,eU 28 (IntKind.wrap .u64 (I27 + (IntKind.wrap .u64 ((iQuo .u64 I23 I24) * I28)))),eB 29 (!L29)] ds w.drew) (Kd K (.exit 2) [eP 0 D0,eP 1 D1,eP 2 D2,eP 3 D3,eP 4 D4,eP 11 D11,eP 12 D12,eP 13 D13,eP 14 D14,eU 23 I23,eU 24 I24,eU 25 I25,eU 26 I26,eU 27 I27,eU 28 I28,eB 29 L29] ds w)
theorem t12 : VT 265 p12 (l12 D0 D1 D2 D3 D4 D11 D12 D13 D14 I23 I24 I25 I26 I27 I28 L29) (v12 D0 D1 D2 D3 D4 D11 D12 D13 D14 I23 I24 I25 I26 I27 I28 L29) := tw kt [0,1,2,3,4,11,12,13,14,23,24,25,26,27,28,29] fun B ds w K => by kernel_rfl
abbrev l14 : List (Nat × Value) := [eP 0 D0,eP 1 D1,eP 2 D2,eP 3 D3,eP 4 D4,eP 11 D11,eP 12 D12,eP 13 D13,eU 23 I23,eU 24 I24]
def v14 : VP := fun B ds w K => bc (I24 != 0) (I24 ≠ (0:Int) ∧ Kd K .normal [eP 0 D0,eP 1 D1,eP 2 D2,eP 3 D3,eP 4 D4,eP 11 D11,eP 12 D12,eP 13 D13,eU 23 I24,eU 24 (iRem I23 I24)] ds w.drew) (Kd K (.exit 4) [eP 0 D0,eP 1 D1,eP 2 D2,eP 3 D3,eP 4 D4,eP 11 D11,eP 12 D12,eP 13 D13,eU 23 I23,eU 24 I24] ds w)
theorem t14 : VT 265 p14 (l14 D0 D1 D2 D3 D4 D11 D12 D13 I23 I24) (v14 D0 D1 D2 D3 D4 D11 D12 D13 I23 I24) := tw kt [0,1,2,3,4,11,12,13,23,24] fun B ds w K => by kernel_rfl
abbrev l16 : List (Nat × Value) := [eP 0 D0,eP 11 D11]
def v16 : VP := fun B ds w K => Cl 50 #[(.pointer D0),(.pointer D11)] w fun r1 w2 => ∃ x3,r1 = .returned (.pointer x3) ∧ Kd K .ret [eP 10 D0] ds w2
theorem t16 : VT 265 p16 (l16 D0 D11) (v16 D0 D11) := tw kt [10] fun B ds w K => by kernel_rfl
abbrev l17 : List (Nat × Value) := [eP 0 D0,eP 1 D1,eP 2 D2,eP 11 D11,eP 12 D12,eP 13 D13,eB 32 L32]
def v17 : VP := fun B ds w K => Cl 97 #[(.pointer D2),(.pointer D11),(.pointer D2)] w fun r1 w2 => ∃ x3,r1 = .returned (.pointer x3) ∧ Cl 137 #[(.pointer D2),(.pointer D2),(.pointer D12)] w2 fun r4 w5 => ∃ x6,r4 = .returned (.pointer x6) ∧ Kd K .normal [eP 0 D0,eP 1 D1,eP 11 D11,eP 13 D13,eB 32 L32] ds w5
theorem t17 : VT 265 p17 (l17 D0 D1 D2 D11 D12 D13 L32) (v17 D0 D1 D2 D11 D12 D13 L32) := tw kt [0,1,11,13,32] fun B ds w K => by kernel_rfl
end F99
namespace F48
noncomputable def body : Code := bodyOf Tryz.f48
def kt : List (Nat × List Nat) := [(4,[0,1,2]),(7,[0,1,2]),(14,[0])]
noncomputable def p1 : Code := sb 2 3 body
noncomputable def p2 : Code := sb 3 7 body
noncomputable def p3 : Code := sb 7 127 body
variable (D0 D1 D2 : Option Addr)
abbrev l0 : List (Nat × Value) := [eP 0 D0,eP 1 D1,eP 2 D2]
def v0 : VP := fun B ds w K => nc D2 fun b1 o2 => ∃ x3,w.cell? ⟨b1,o2 + 0,none⟩ = some (.bool x3) ∧ bc x3 (Cl 65 #[(.pointer (some ⟨(World.heap w).size,0,none⟩)),(.pointer D2)] (World.alloc w (.cells #[(Value.bool Bool.false),(Value.slice none 0 0)] 47)) fun r4 w5 => ∃ x6,r4 = .returned (.pointer x6) ∧ Wd 38 p1 [eP 0 D0,eP 1 D1,eP 2 x6] ds w5 K) (Wd 38 p1 [eP 0 D0,eP 1 D1,eP 2 D2] ds w K)
theorem t0 : VZ 38 body (l0 D0 D1 D2) (v0 D0 D1 D2) := tz kt [6] fun B ds w K => by kernel_rfl
theorem call : VCl 48 [.tmp 6] #[.pointer D0, .pointer D1, .pointer D2] (v0 D0 D1 D2) := cz Tryz.func48 (by kernel_rfl) Tryz.ntmps48 Tryz.results48 (by kernel_rfl) (t0 D0 D1 D2)
abbrev l1 : List (Nat × Value) := [eP 0 D0,eP 1 D1,eP 2 D2]
def v1 : VP := fun B ds w K => nc D1 fun b1 o2 => ∃ x3,w.cell? ⟨b1,o2 + 0,none⟩ = some (.bool x3) ∧ bc x3 (Cl 66 #[(.pointer (some ⟨(World.heap w).size,0,none⟩)),(.pointer D1),(.pointer D2)] (World.alloc w (.cells #[(Value.bool Bool.false),(Value.slice none 0 0)] 47)) fun r4 w5 => ∃ x6,r4 = .returned (.pointer x6) ∧ Wd 38 p2 [eP 0 D0,eP 1 x6,eP 2 D2] ds w5 K) (Wd 38 p2 [eP 0 D0,eP 1 D1,eP 2 D2] ds w K)
theorem t1 : VT 38 p1 (l1 D0 D1 D2) (v1 D0 D1 D2) := tw kt [6] fun B ds w K => by kernel_rfl
abbrev l2 : List (Nat × Value) := [eP 0 D0,eP 1 D1,eP 2 D2]
def v2 : VP := fun B ds w K => Cl 67 #[(.pointer (some ⟨(World.heap w).size,0,none⟩)),(.pointer (some ⟨(World.heap (World.alloc w (.cells #[(Value.bool Bool.false),(Value.slice none 0 0)] 47))).size,0,none⟩)),(.pointer none),(.pointer D1),(.pointer D2)] (World.alloc (World.alloc w (.cells #[(Value.bool Bool.false),(Value.slice none 0 0)] 47)) (.cells #[(Value.bool Bool.false),(Value.slice none 0 0)] 47)) fun r1 w2 => ∃ x3,r1 = .returned (.pointer x3) ∧ Cl 69 #[] w2 fun r4 w5 => ∃ x6,r4 = .returned (.pointer x6) ∧ Cl 68 #[(.pointer (some ⟨(World.heap w).size,0,none⟩)),(.pointer x6)] w5 fun r7 w8 => ∃ x9,r7 = .returned (.int .i64 x9) ∧ bc (x9 != 0) (Kd K .ret [eP 6 none] ds w8) (∃ x11,w8.cell? ⟨(World.heap (World.alloc w (.cells #[(Value.bool Bool.false),(Value.slice none 0 0)] 47))).size,(0 + 0),none⟩ = some (.bool x11) ∧ bc x11 (Cl 70 #[(.pointer D0),(.pointer (some ⟨(World.heap (World.alloc w (.cells #[(Value.bool Bool.false),(Value.slice none 0 0)] 47))).size,0,none⟩)),(.pointer D2)] w8 fun r12 w13 => ∃ x14,r12 = .returned (.pointer x14) ∧ Wd 38 p3 [eP 0 D0] ds w13 K) (Cl 50 #[(.pointer D0),(.pointer (some ⟨(World.heap (World.alloc w (.cells #[(Value.bool Bool.false),(Value.slice none 0 0)] 47))).size,0,none⟩))] w8 fun r16 w17 => ∃ x18,r16 = .returned (.pointer x18) ∧ Wd 38 p3 [eP 0 D0] ds w17 K))
theorem t2 : VT 38 p2 (l2 D0 D1 D2) (v2 D0 D1 D2) := tw kt [6] fun B ds w K => by kernel_rfl
abbrev l3 : List (Nat × Value) := [eP 0 D0]
def v3 : VP := fun B ds w K => Kd K .ret [eP 6 D0] ds w
theorem t3 : VT 38 p3 (l3 D0) (v3 D0) := tw kt [6] fun B ds w K => by kernel_rfl
end F48
end Go.Proofs.YtlkjiiibmfpbcaaGreatDoor
