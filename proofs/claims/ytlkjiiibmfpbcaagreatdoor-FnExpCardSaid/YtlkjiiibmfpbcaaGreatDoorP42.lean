/- Verification conditions, printed by wip/gen/gen.py and shrink.py; each is held against vc by the kernel. No condition. -/
import Derived.Test.YtlkjiiibmfpbcaaGreatDoorP05
namespace Go.Proofs.YtlkjiiibmfpbcaaGreatDoor
open Go
set_option maxRecDepth 100000
set_option linter.unusedVariables false
namespace F33
noncomputable def body : Code := bodyOf Tryz.f33
def kt : List (Nat × List Nat) := [(9,[0,1,2,3,4,11]),(12,[0,1,3,4,11,13]),(13,[0,1,3,4,11,13,64]),(14,[0,1,3,4,11,13]),(15,[0,1,4,11,13,14]),(20,[0])]
noncomputable def p1 : Code := sb 3 7 body
noncomputable def p2 : Code := sb 10 1001 body
noncomputable def p3 : Code := sb 9 501 body
noncomputable def p4 : Code := sb 6 63 body
noncomputable def p5 : Code := sb 10 1000 body
noncomputable def p6 : Code := sb 9 511 body
variable (D0 D1 D2 D3 : Option Addr) (L4 : Bool) (A11 : Option Addr) (N11 C11 : Nat) (A13 : Option Addr) (N13 C13 : Nat) (L64 : Bool) (A14 : Option Addr) (N14 C14 : Nat)
abbrev l0 : List (Nat × Value) := [eP 0 D0,eP 1 D1,eP 2 D2,eP 3 D3,eB 4 L4]
def v0 : VP := fun B ds w K => nc D1 fun b1 o2 => ∃ x3a,∃ x3l,∃ x3c,w.cell? ⟨b1,o2 + 1,none⟩ = some (.slice x3a x3l x3c) ∧ nc D2 fun b4 o5 => ∃ x6,w.cell? ⟨b4,o5 + 0,none⟩ = some (.bool x6) ∧ bc x6 (∃ q7,ptrEq w D3 none q7 ∧ bc q7 (Cl 47 #[(.pointer D0),(.int .i64 1)] w fun r8 w9 => ∃ x10,r8 = .returned (.pointer x10) ∧ Kd K .ret [eP 10 x10] ds w9) (nc D3 fun b12 o13 => ∃ x14a,∃ x14l,∃ x14c,w.cell? ⟨b12,o13 + 1,none⟩ = some (.slice x14a x14l x14c) ∧ bc ((x14l:Int) == 0) (Cl 47 #[(.pointer D0),(.int .i64 1)] w fun r15 w16 => ∃ x17,r15 = .returned (.pointer x17) ∧ Kd K .ret [eP 10 x17] ds w16) (Cl 48 #[(.pointer (some ⟨(World.heap w).size,0,none⟩)),(.pointer D1),(.pointer D3)] (World.alloc w (.cells #[(Value.bool Bool.false),(Value.slice none 0 0)] 47)) fun r19 w20 => ∃ x21,r19 = .returned (.pointer x21) ∧ ∃ q22,ptrEq w20 x21 none q22 ∧ bc q22 (Kd K .ret [eP 10 none] ds w20) (nc x21 fun b24 o25 => ∃ x26a,∃ x26l,∃ x26c,w20.cell? ⟨b24,o25 + 1,none⟩ = some (.slice x26a x26l x26c) ∧ Wd 137 p1 [eP 0 D0,eP 1 D1,eP 2 D2,eP 3 D3,eB 4 L4,eS 11 x26a x26l x26c] ds w20 K)))) (Wd 137 p1 [eP 0 D0,eP 1 D1,eP 2 D2,eP 3 D3,eB 4 L4,eS 11 x3a x3l x3c] ds w K)
theorem t0 : VZ 137 body (l0 D0 D1 D2 D3 L4) (v0 D0 D1 D2 D3 L4) := tz kt [10] fun B ds w K => by kernel_rfl
theorem call : VCl 33 [.tmp 10] #[.pointer D0, .pointer D1, .pointer D2, .pointer D3, .bool L4] (v0 D0 D1 D2 D3 L4) := cz Tryz.func33 (by kernel_rfl) Tryz.ntmps33 Tryz.results33 (by kernel_rfl) (t0 D0 D1 D2 D3 L4)
abbrev l1 : List (Nat × Value) := [eP 0 D0,eP 1 D1,eP 2 D2,eP 3 D3,eB 4 L4,eS 11 A11 N11 C11]
def v1 : VP := fun B ds w K => nc D2 fun b1 o2 => ∃ x3a,∃ x3l,∃ x3c,w.cell? ⟨b1,o2 + 1,none⟩ = some (.slice x3a x3l x3c) ∧ ∃ q4,ptrEq w D3 none q4 ∧ bc (!q4) (Wd 137 p5 [eP 0 D0,eP 1 D1,eP 3 D3,eB 4 L4,eS 11 A11 N11 C11,eS 13 x3a x3l x3c] ds w (thenW Tryz.prog 137 p2 (thenW Tryz.prog 137 p3 (thenW Tryz.prog 137 p4 K)))) (Wd 137 p4 [eP 0 D0,eP 1 D1,eB 4 L4,eS 11 A11 N11 C11,eS 13 x3a x3l x3c,eS 14 none 0 0] ds w K)
theorem t1 : VT 137 p1 (l1 D0 D1 D2 D3 L4 A11 N11 C11) (v1 D0 D1 D2 D3 L4 A11 N11 C11) := tw kt [10] fun B ds w K => by kernel_rfl
abbrev l2 : List (Nat × Value) := [eP 0 D0,eP 1 D1,eP 3 D3,eB 4 L4,eS 11 A11 N11 C11,eS 13 A13 N13 C13,eB 64 L64]
def v2 : VP := fun B ds w K => bc L64 (Cl 50 #[(.pointer (some ⟨(World.heap w).size,0,none⟩)),(.pointer D3)] (World.alloc w (.cells #[(Value.bool Bool.false),(Value.slice none 0 0)] 47)) fun r1 w2 => ∃ x3,r1 = .returned (.pointer x3) ∧ Kd K .normal [eP 0 D0,eP 1 D1,eP 3 x3,eB 4 L4,eS 11 A11 N11 C11,eS 13 A13 N13 C13] ds w2) (Kd K .normal [eP 0 D0,eP 1 D1,eP 3 D3,eB 4 L4,eS 11 A11 N11 C11,eS 13 A13 N13 C13] ds w)
theorem t2 : VT 137 p2 (l2 D0 D1 D3 L4 A11 N11 C11 A13 N13 C13 L64) (v2 D0 D1 D3 L4 A11 N11 C11 A13 N13 C13 L64) := tw kt [0,1,3,4,11,13] fun B ds w K => by kernel_rfl
abbrev l3 : List (Nat × Value) := [eP 0 D0,eP 1 D1,eP 3 D3,eB 4 L4,eS 11 A11 N11 C11,eS 13 A13 N13 C13]
def v3 : VP := fun B ds w K => nc D3 fun b1 o2 => ∃ x3a,∃ x3l,∃ x3c,w.cell? ⟨b1,o2 + 1,none⟩ = some (.slice x3a x3l x3c) ∧ Kd K .normal [eP 0 D0,eP 1 D1,eB 4 L4,eS 11 A11 N11 C11,eS 13 A13 N13 C13,eS 14 x3a x3l x3c] ds w
theorem t3 : VT 137 p3 (l3 D0 D1 D3 L4 A11 N11 C11 A13 N13 C13) (v3 D0 D1 D3 L4 A11 N11 C11 A13 N13 C13) := tw kt [0,1,4,11,13,14] fun B ds w K => by kernel_rfl
abbrev l4 : List (Nat × Value) := [eP 0 D0,eP 1 D1,eB 4 L4,eS 11 A11 N11 C11,eS 13 A13 N13 C13,eS 14 A14 N14 C14]
def v4 : VP := fun B ds w K => nc D0 fun b1 o2 => ∃ x3a,∃ x3l,∃ x3c,w.cell? ⟨b1,o2 + 1,none⟩ = some (.slice x3a x3l x3c) ∧ Cl 51 #[(.slice x3a x3l x3c),(.pointer none),(.slice A11 N11 C11),(.slice A13 N13 C13),(.slice A14 N14 C14),(.bool L4)] w fun r4 w5 => ∃ x6a,∃ x6l,∃ x6c,r4 = .returned (.slice x6a x6l x6c) ∧ nc D0 fun b7 o8 => (∃ u9,w5.cell? ⟨b7,o8 + 1,none⟩ = some u9) ∧ w5.frozen? ⟨b7,o8 + 1,none⟩ = false ∧ nc D0 fun b10 o11 => ∃ x12a,∃ x12l,∃ x12c,World.cell? (w5.setCell ⟨b7,o8 + 1,none⟩ (.slice x6a x6l x6c)) ⟨b10,o11 + 1,none⟩ = some (.slice x12a x12l x12c) ∧ bc (decide ((x12l:Int) > (0:Int))) (nc D1 fun b13 o14 => ∃ x15,World.cell? (w5.setCell ⟨b7,o8 + 1,none⟩ (.slice x6a x6l x6c)) ⟨b13,o14 + 0,none⟩ = some (.bool x15) ∧ bc x15 (bc (decide ((N13:Int) > (0:Int))) (nc A13 fun b17 o18 => ∃ k16 : Nat,0 = (k16:Int) ∧ k16 < N13 ∧ ∃ x19,World.cell? (w5.setCell ⟨b7,o8 + 1,none⟩ (.slice x6a x6l x6c)) ⟨b17,o18 + k16,none⟩ = some (.int .u64 x19) ∧ nc D0 fun b20 o21 => (∃ u22,World.cell? (w5.setCell ⟨b7,o8 + 1,none⟩ (.slice x6a x6l x6c)) ⟨b20,o21 + 0,none⟩ = some u22) ∧ World.frozen? (w5.setCell ⟨b7,o8 + 1,none⟩ (.slice x6a x6l x6c)) ⟨b20,o21 + 0,none⟩ = false ∧ nc D0 fun b23 o24 => ∃ x25,World.cell? (World.setCell (w5.setCell ⟨b7,o8 + 1,none⟩ (.slice x6a x6l x6c)) ⟨b20,o21 + 0,none⟩ (.bool ((iAnd .u64 x19 1) == 1))) ⟨b23,o24 + 0,none⟩ = some (.bool x25) ∧ bc x25 (bc (decide ((N14:Int) > (0:Int))) (nc D0 fun b26 o27 => ∃ x28a,∃ x28l,∃ x28c,World.cell? (World.drew (World.setCell (w5.setCell ⟨b7,o8 + 1,none⟩ (.slice x6a x6l x6c)) ⟨b20,o21 + 0,none⟩ (.bool ((iAnd .u64 x19 1) == 1)))) ⟨b26,o27 + 1,none⟩ = some (.slice x28a x28l x28c) ∧ nc D0 fun b29 o30 => ∃ x31a,∃ x31l,∃ x31c,World.cell? (World.drew (World.setCell (w5.setCell ⟨b7,o8 + 1,none⟩ (.slice x6a x6l x6c)) ⟨b20,o21 + 0,none⟩ (.bool ((iAnd .u64 x19 1) == 1)))) ⟨b29,o30 + 1,none⟩ = some (.slice x31a x31l x31c) ∧ Cl 52 #[(.slice x28a x28l x28c),(.slice A14 N14 C14),(.slice x31a x31l x31c)] (World.drew (World.setCell (w5.setCell ⟨b7,o8 + 1,none⟩ (.slice x6a x6l x6c)) ⟨b20,o21 + 0,none⟩ (.bool ((iAnd .u64 x19 1) == 1)))) fun r32 w33 => ∃ x34a,∃ x34l,∃ x34c,r32 = .returned (.slice x34a x34l x34c) ∧ nc D0 fun b35 o36 => (∃ u37,w33.cell? ⟨b35,o36 + 1,none⟩ = some u37) ∧ w33.frozen? ⟨b35,o36 + 1,none⟩ = false ∧ nc D0 fun b38 o39 => (∃ u40,World.cell? (w33.setCell ⟨b35,o36 + 1,none⟩ (.slice x34a x34l x34c)) ⟨b38,o39 + 0,none⟩ = some u40) ∧ World.frozen? (w33.setCell ⟨b35,o36 + 1,none⟩ (.slice x34a x34l x34c)) ⟨b38,o39 + 0,none⟩ = false ∧ Wd 137 p6 [eP 0 D0] ds (World.setCell (w33.setCell ⟨b35,o36 + 1,none⟩ (.slice x34a x34l x34c)) ⟨b38,o39 + 0,none⟩ (.bool false)) K) (Wd 137 p6 [eP 0 D0] ds (World.setCell (w5.setCell ⟨b7,o8 + 1,none⟩ (.slice x6a x6l x6c)) ⟨b20,o21 + 0,none⟩ (.bool ((iAnd .u64 x19 1) == 1))) K)) (Wd 137 p6 [eP 0 D0] ds (World.setCell (w5.setCell ⟨b7,o8 + 1,none⟩ (.slice x6a x6l x6c)) ⟨b20,o21 + 0,none⟩ (.bool ((iAnd .u64 x19 1) == 1))) K)) (nc D0 fun b44 o45 => (∃ u46,World.cell? (w5.setCell ⟨b7,o8 + 1,none⟩ (.slice x6a x6l x6c)) ⟨b44,o45 + 0,none⟩ = some u46) ∧ World.frozen? (w5.setCell ⟨b7,o8 + 1,none⟩ (.slice x6a x6l x6c)) ⟨b44,o45 + 0,none⟩ = false ∧ nc D0 fun b47 o48 => ∃ x49,World.cell? (World.setCell (w5.setCell ⟨b7,o8 + 1,none⟩ (.slice x6a x6l x6c)) ⟨b44,o45 + 0,none⟩ (.bool false)) ⟨b47,o48 + 0,none⟩ = some (.bool x49) ∧ bc x49 (bc (decide ((N14:Int) > (0:Int))) (nc D0 fun b50 o51 => ∃ x52a,∃ x52l,∃ x52c,World.cell? (World.drew (World.setCell (w5.setCell ⟨b7,o8 + 1,none⟩ (.slice x6a x6l x6c)) ⟨b44,o45 + 0,none⟩ (.bool false))) ⟨b50,o51 + 1,none⟩ = some (.slice x52a x52l x52c) ∧ nc D0 fun b53 o54 => ∃ x55a,∃ x55l,∃ x55c,World.cell? (World.drew (World.setCell (w5.setCell ⟨b7,o8 + 1,none⟩ (.slice x6a x6l x6c)) ⟨b44,o45 + 0,none⟩ (.bool false))) ⟨b53,o54 + 1,none⟩ = some (.slice x55a x55l x55c) ∧ Cl 52 #[(.slice x52a x52l x52c),(.slice A14 N14 C14),(.slice x55a x55l x55c)] (World.drew (World.setCell (w5.setCell ⟨b7,o8 + 1,none⟩ (.slice x6a x6l x6c)) ⟨b44,o45 + 0,none⟩ (.bool false))) fun r56 w57 => ∃ x58a,∃ x58l,∃ x58c,r56 = .returned (.slice x58a x58l x58c) ∧ nc D0 fun b59 o60 => (∃ u61,w57.cell? ⟨b59,o60 + 1,none⟩ = some u61) ∧ w57.frozen? ⟨b59,o60 + 1,none⟩ = false ∧ nc D0 fun b62 o63 => (∃ u64,World.cell? (w57.setCell ⟨b59,o60 + 1,none⟩ (.slice x58a x58l x58c)) ⟨b62,o63 + 0,none⟩ = some u64) ∧ World.frozen? (w57.setCell ⟨b59,o60 + 1,none⟩ (.slice x58a x58l x58c)) ⟨b62,o63 + 0,none⟩ = false ∧ Wd 137 p6 [eP 0 D0] ds (World.setCell (w57.setCell ⟨b59,o60 + 1,none⟩ (.slice x58a x58l x58c)) ⟨b62,o63 + 0,none⟩ (.bool false)) K) (Wd 137 p6 [eP 0 D0] ds (World.setCell (w5.setCell ⟨b7,o8 + 1,none⟩ (.slice x6a x6l x6c)) ⟨b44,o45 + 0,none⟩ (.bool false)) K)) (Wd 137 p6 [eP 0 D0] ds (World.setCell (w5.setCell ⟨b7,o8 + 1,none⟩ (.slice x6a x6l x6c)) ⟨b44,o45 + 0,none⟩ (.bool false)) K))) (nc D0 fun b68 o69 => (∃ u70,World.cell? (w5.setCell ⟨b7,o8 + 1,none⟩ (.slice x6a x6l x6c)) ⟨b68,o69 + 0,none⟩ = some u70) ∧ World.frozen? (w5.setCell ⟨b7,o8 + 1,none⟩ (.slice x6a x6l x6c)) ⟨b68,o69 + 0,none⟩ = false ∧ nc D0 fun b71 o72 => ∃ x73,World.cell? (World.setCell (w5.setCell ⟨b7,o8 + 1,none⟩ (.slice x6a x6l x6c)) ⟨b68,o69 + 0,none⟩ (.bool false)) ⟨b71,o72 + 0,none⟩ = some (.bool x73) ∧ bc x73 (bc (decide ((N14:Int) > (0:Int))) (nc D0 fun b74 o75 => ∃ x76a,∃ x76l,∃ x76c,World.cell? (World.drew (World.setCell (w5.setCell ⟨b7,o8 + 1,none⟩ (.slice x6a x6l x6c)) ⟨b68,o69 + 0,none⟩ (.bool false))) ⟨b74,o75 + 1,none⟩ = some (.slice x76a x76l x76c) ∧ nc D0 fun b77 o78 => ∃ x79a,∃ x79l,∃ x79c,World.cell? (World.drew (World.setCell (w5.setCell ⟨b7,o8 + 1,none⟩ (.slice x6a x6l x6c)) ⟨b68,o69 + 0,none⟩ (.bool false))) ⟨b77,o78 + 1,none⟩ = some (.slice x79a x79l x79c) ∧ Cl 52 #[(.slice x76a x76l x76c),(.slice A14 N14 C14),(.slice x79a x79l x79c)] (World.drew (World.setCell (w5.setCell ⟨b7,o8 + 1,none⟩ (.slice x6a x6l x6c)) ⟨b68,o69 + 0,none⟩ (.bool false))) fun r80 w81 => ∃ x82a,∃ x82l,∃ x82c,r80 = .returned (.slice x82a x82l x82c) ∧ nc D0 fun b83 o84 => (∃ u85,w81.cell? ⟨b83,o84 + 1,none⟩ = some u85) ∧ w81.frozen? ⟨b83,o84 + 1,none⟩ = false ∧ nc D0 fun b86 o87 => (∃ u88,World.cell? (w81.setCell ⟨b83,o84 + 1,none⟩ (.slice x82a x82l x82c)) ⟨b86,o87 + 0,none⟩ = some u88) ∧ World.frozen? (w81.setCell ⟨b83,o84 + 1,none⟩ (.slice x82a x82l x82c)) ⟨b86,o87 + 0,none⟩ = false ∧ Wd 137 p6 [eP 0 D0] ds (World.setCell (w81.setCell ⟨b83,o84 + 1,none⟩ (.slice x82a x82l x82c)) ⟨b86,o87 + 0,none⟩ (.bool false)) K) (Wd 137 p6 [eP 0 D0] ds (World.setCell (w5.setCell ⟨b7,o8 + 1,none⟩ (.slice x6a x6l x6c)) ⟨b68,o69 + 0,none⟩ (.bool false)) K)) (Wd 137 p6 [eP 0 D0] ds (World.setCell (w5.setCell ⟨b7,o8 + 1,none⟩ (.slice x6a x6l x6c)) ⟨b68,o69 + 0,none⟩ (.bool false)) K))) (nc D0 fun b92 o93 => (∃ u94,World.cell? (w5.setCell ⟨b7,o8 + 1,none⟩ (.slice x6a x6l x6c)) ⟨b92,o93 + 0,none⟩ = some u94) ∧ World.frozen? (w5.setCell ⟨b7,o8 + 1,none⟩ (.slice x6a x6l x6c)) ⟨b92,o93 + 0,none⟩ = false ∧ nc D0 fun b95 o96 => ∃ x97,World.cell? (World.setCell (w5.setCell ⟨b7,o8 + 1,none⟩ (.slice x6a x6l x6c)) ⟨b92,o93 + 0,none⟩ (.bool false)) ⟨b95,o96 + 0,none⟩ = some (.bool x97) ∧ bc x97 (bc (decide ((N14:Int) > (0:Int))) (nc D0 fun b98 o99 => ∃ x100a,∃ x100l,∃ x100c,World.cell? (World.drew (World.setCell (w5.setCell ⟨b7,o8 + 1,none⟩ (.slice x6a x6l x6c)) ⟨b92,o93 + 0,none⟩ (.bool false))) ⟨b98,o99 + 1,none⟩ = some (.slice x100a x100l x100c) ∧ nc D0 fun b101 o102 => ∃ x103a,∃ x103l,∃ x103c,World.cell? (World.drew (World.setCell (w5.setCell ⟨b7,o8 + 1,none⟩ (.slice x6a x6l x6c)) ⟨b92,o93 + 0,none⟩ (.bool false))) ⟨b101,o102 + 1,none⟩ = some (.slice x103a x103l x103c) ∧ Cl 52 #[(.slice x100a x100l x100c),(.slice A14 N14 C14),(.slice x103a x103l x103c)] (World.drew (World.setCell (w5.setCell ⟨b7,o8 + 1,none⟩ (.slice x6a x6l x6c)) ⟨b92,o93 + 0,none⟩ (.bool false))) fun r104 w105 => ∃ x106a,∃ x106l,∃ x106c,r104 = .returned (.slice x106a x106l x106c) ∧ nc D0 fun b107 o108 => (∃ u109,w105.cell? ⟨b107,o108 + 1,none⟩ = some u109) ∧ w105.frozen? ⟨b107,o108 + 1,none⟩ = false ∧ nc D0 fun b110 o111 => (∃ u112,World.cell? (w105.setCell ⟨b107,o108 + 1,none⟩ (.slice x106a x106l x106c)) ⟨b110,o111 + 0,none⟩ = some u112) ∧ World.frozen? (w105.setCell ⟨b107,o108 + 1,none⟩ (.slice x106a x106l x106c)) ⟨b110,o111 + 0,none⟩ = false ∧ Wd 137 p6 [eP 0 D0] ds (World.setCell (w105.setCell ⟨b107,o108 + 1,none⟩ (.slice x106a x106l x106c)) ⟨b110,o111 + 0,none⟩ (.bool false)) K) (Wd 137 p6 [eP 0 D0] ds (World.setCell (w5.setCell ⟨b7,o8 + 1,none⟩ (.slice x6a x6l x6c)) ⟨b92,o93 + 0,none⟩ (.bool false)) K)) (Wd 137 p6 [eP 0 D0] ds (World.setCell (w5.setCell ⟨b7,o8 + 1,none⟩ (.slice x6a x6l x6c)) ⟨b92,o93 + 0,none⟩ (.bool false)) K))
theorem t4 : VT 137 p4 (l4 D0 D1 L4 A11 N11 C11 A13 N13 C13 A14 N14 C14) (v4 D0 D1 L4 A11 N11 C11 A13 N13 C13 A14 N14 C14) := tw kt [10] fun B ds w K => by kernel_rfl
abbrev l6 : List (Nat × Value) := [eP 0 D0]
def v6 : VP := fun B ds w K => Kd K .ret [eP 10 D0] ds w
theorem t6 : VT 137 p6 (l6 D0) (v6 D0) := tw kt [10] fun B ds w K => by kernel_rfl
end F33
namespace F20
noncomputable def body : Code := bodyOf Tryz.f20
def kt : List (Nat × List Nat) := []
variable (D0 D1 D2 D3 : Option Addr)
abbrev l0 : List (Nat × Value) := [eP 0 D0,eP 1 D1,eP 2 D2,eP 3 D3]
def v0 : VP := fun B ds w K => Cl 33 #[(.pointer D0),(.pointer D1),(.pointer D2),(.pointer D3),(.bool false)] w fun r1 w2 => ∃ x3,r1 = .returned (.pointer x3) ∧ Kd K .ret [eP 8 x3] ds w2
theorem t0 : VZ 14 body (l0 D0 D1 D2 D3) (v0 D0 D1 D2 D3) := tz kt [8] fun B ds w K => by kernel_rfl
theorem call : VCl 20 [.tmp 8] #[.pointer D0, .pointer D1, .pointer D2, .pointer D3] (v0 D0 D1 D2 D3) := cz Tryz.func20 (by kernel_rfl) Tryz.ntmps20 Tryz.results20 (by kernel_rfl) (t0 D0 D1 D2 D3)
end F20
namespace F18
noncomputable def body : Code := bodyOf Tryz.f18
def kt : List (Nat × List Nat) := []
variable (D0 : Option Addr)
abbrev l0 : List (Nat × Value) := [eP 0 D0]
def v0 : VP := fun B ds w K => nc D0 fun b1 o2 => ∃ x3a,∃ x3l,∃ x3c,w.cell? ⟨b1,o2 + 1,none⟩ = some (.slice x3a x3l x3c) ∧ bc ((x3l:Int) == 0) (Kd K .ret [eI 2 0] ds w) (nc D0 fun b5 o6 => ∃ x7,w.cell? ⟨b5,o6 + 0,none⟩ = some (.bool x7) ∧ bc x7 (Kd K .ret [eI 2 (-1)] ds w) (Kd K .ret [eI 2 1] ds w))
theorem t0 : VZ 13 body (l0 D0) (v0 D0) := tz kt [2] fun B ds w K => by kernel_rfl
theorem call : VCl 18 [.tmp 2] #[.pointer D0] (v0 D0) := cz Tryz.func18 (by kernel_rfl) Tryz.ntmps18 Tryz.results18 (by kernel_rfl) (t0 D0)
end F18
namespace F31
noncomputable def body : Code := bodyOf Tryz.f31
def kt : List (Nat × List Nat) := []
variable (D0 A1 : Option Addr) (N1 C1 : Nat)
abbrev l0 : List (Nat × Value) := [eP 0 D0,eS 1 A1 N1 C1]
def v0 : VP := fun B ds w K => Cl 46 #[(.slice A1 N1 C1)] w fun r1 w2 => ∃ x3a,∃ x3l,∃ x3c,r1 = .returned (.slice x3a x3l x3c) ∧ nc D0 fun b4 o5 => (∃ u6,w2.cell? ⟨b4,o5 + 1,none⟩ = some u6) ∧ w2.frozen? ⟨b4,o5 + 1,none⟩ = false ∧ nc D0 fun b7 o8 => (∃ u9,World.cell? (w2.setCell ⟨b4,o5 + 1,none⟩ (.slice x3a x3l x3c)) ⟨b7,o8 + 0,none⟩ = some u9) ∧ World.frozen? (w2.setCell ⟨b4,o5 + 1,none⟩ (.slice x3a x3l x3c)) ⟨b7,o8 + 0,none⟩ = false ∧ Kd K .ret [eP 4 D0] ds (World.setCell (w2.setCell ⟨b4,o5 + 1,none⟩ (.slice x3a x3l x3c)) ⟨b7,o8 + 0,none⟩ (.bool false))
theorem t0 : VZ 14 body (l0 D0 A1 N1 C1) (v0 D0 A1 N1 C1) := tz kt [4] fun B ds w K => by kernel_rfl
theorem call : VCl 31 [.tmp 4] #[.pointer D0, .slice A1 N1 C1] (v0 D0 A1 N1 C1) := cz Tryz.func31 (by kernel_rfl) Tryz.ntmps31 Tryz.results31 (by kernel_rfl) (t0 D0 A1 N1 C1)
end F31
namespace F32
noncomputable def body : Code := bodyOf Tryz.f32
def kt : List (Nat × List Nat) := []
variable (D0 : Option Addr)
abbrev l0 : List (Nat × Value) := [eP 0 D0]
def v0 : VP := fun B ds w K => nc D0 fun b1 o2 => ∃ x3a,∃ x3l,∃ x3c,w.cell? ⟨b1,o2 + 1,none⟩ = some (.slice x3a x3l x3c) ∧ Kd K .ret [eS 2 x3a x3l x3c] ds w
theorem t0 : VZ 7 body (l0 D0) (v0 D0) := tz kt [2] fun B ds w K => by kernel_rfl
theorem call : VCl 32 [.tmp 2] #[.pointer D0] (v0 D0) := cz Tryz.func32 (by kernel_rfl) Tryz.ntmps32 Tryz.results32 (by kernel_rfl) (t0 D0)
end F32
namespace F17
noncomputable def body : Code := bodyOf Tryz.f17
def kt : List (Nat × List Nat) := [(3,[3,7,8,9]),(7,[3])]
noncomputable def p1 : Code := sb 3 7 body
noncomputable def p2 : Code := sb 6 52 body
noncomputable def p3 : Code := sb 4 13 body
theorem q3 : p3 = .block 0 (.loop p2) := by kernel_rfl
variable (A0 A3 : Option Addr) (N0 N3 C0 C3 : Nat) (A7 : Option Addr) (N7 C7 : Nat) (I8 I9 : Int)
abbrev l0 : List (Nat × Value) := [eS 0 A0 N0 C0]
def v0 : VP := fun B ds w K => Cl 27 #[(.slice A0 N0 C0)] w fun r1 w2 => ∃ x3a,∃ x3l,∃ x3c,r1 = .returned (.slice x3a x3l x3c) ∧ Wd 21 p3 [eS 3 none 0 0,eS 7 x3a x3l x3c,eI 8 (x3l:Int),eI 9 0] ds w2 (thenW Tryz.prog 21 p1 K)
theorem t0 : VZ 21 body (l0 A0 N0 C0) (v0 A0 N0 C0) := tz kt [2] fun B ds w K => by kernel_rfl
theorem call : VCl 17 [.tmp 2] #[.slice A0 N0 C0] (v0 A0 N0 C0) := cz Tryz.func17 (by kernel_rfl) Tryz.ntmps17 Tryz.results17 (by kernel_rfl) (t0 A0 N0 C0)
abbrev l1 : List (Nat × Value) := [eS 3 A3 N3 C3]
def v1 : VP := fun B ds w K => Cl 31 #[(.pointer (some ⟨(World.heap w).size,0,none⟩)),(.slice A3 N3 C3)] (World.alloc w (.cells #[(Value.bool Bool.false),(Value.slice none 0 0)] 47)) fun r1 w2 => ∃ x3,r1 = .returned (.pointer x3) ∧ Kd K .ret [eP 2 x3] ds w2
theorem t1 : VT 21 p1 (l1 A3 N3 C3) (v1 A3 N3 C3) := tw kt [2] fun B ds w K => by kernel_rfl
abbrev l2 : List (Nat × Value) := [eS 3 A3 N3 C3,eS 7 A7 N7 C7,eI 8 I8,eI 9 I9]
def v2 : VP := fun B ds w K => bc (decide (I9 < (I8:Int))) (nc A7 fun b2 o3 => ∃ k1 : Nat,I9 = (k1:Int) ∧ k1 < N7 ∧ ∃ x4,w.cell? ⟨b2,o3 + k1,none⟩ = some (.int .u64 x4) ∧ ∃ w5,∃ x6a,∃ x6l,∃ x6c,Sem.run Tryz.prog (Instr.buildSlice 44 1 #[(0,(.int .u64 x4))]) w = .ok (.slice x6a x6l x6c) w5 ∧ ∃ w7,∃ x8a,∃ x8l,∃ x8c,Sem.run Tryz.prog (builtin .append #[44,44] 44 #[false,false] #[(.slice A3 N3 C3),(.slice x6a x6l x6c)]) w5 = .ok (.value (.slice x8a x8l x8c)) w7 ∧ inI64 (I9 + 1) ∧ Kd K .normal [eS 3 x8a x8l x8c,eS 7 A7 N7 C7,eI 8 I8,eI 9 (I9 + 1)] ds w7) (Kd K (.exit 0) [eS 3 A3 N3 C3,eS 7 A7 N7 C7,eI 8 I8,eI 9 I9] ds w)
theorem t2 : VT 21 p2 (l2 A3 N3 C3 A7 N7 C7 I8 I9) (v2 A3 N3 C3 A7 N7 C7 I8 I9) := tw kt [3,7,8,9] fun B ds w K => by kernel_rfl
end F17
namespace F19
noncomputable def body : Code := bodyOf Tryz.f19
def kt : List (Nat × List Nat) := [(3,[3,7,8,9]),(7,[3])]
noncomputable def p1 : Code := sb 3 7 body
noncomputable def p2 : Code := sb 6 52 body
noncomputable def p3 : Code := sb 4 13 body
theorem q3 : p3 = .block 0 (.loop p2) := by kernel_rfl
variable (D0 A3 : Option Addr) (N3 C3 : Nat) (A7 : Option Addr) (N7 C7 : Nat) (I8 I9 : Int)
abbrev l0 : List (Nat × Value) := [eP 0 D0]
def v0 : VP := fun B ds w K => Cl 32 #[(.pointer D0)] w fun r1 w2 => ∃ x3a,∃ x3l,∃ x3c,r1 = .returned (.slice x3a x3l x3c) ∧ Wd 19 p3 [eS 3 none 0 0,eS 7 x3a x3l x3c,eI 8 (x3l:Int),eI 9 0] ds w2 (thenW Tryz.prog 19 p1 K)
theorem t0 : VZ 19 body (l0 D0) (v0 D0) := tz kt [2] fun B ds w K => by kernel_rfl
theorem call : VCl 19 [.tmp 2] #[.pointer D0] (v0 D0) := cz Tryz.func19 (by kernel_rfl) Tryz.ntmps19 Tryz.results19 (by kernel_rfl) (t0 D0)
abbrev l1 : List (Nat × Value) := [eS 3 A3 N3 C3]
def v1 : VP := fun B ds w K => Kd K .ret [eS 2 A3 N3 C3] ds w
theorem t1 : VT 19 p1 (l1 A3 N3 C3) (v1 A3 N3 C3) := tw kt [2] fun B ds w K => by kernel_rfl
abbrev l2 : List (Nat × Value) := [eS 3 A3 N3 C3,eS 7 A7 N7 C7,eI 8 I8,eI 9 I9]
def v2 : VP := fun B ds w K => bc (decide (I9 < (I8:Int))) (nc A7 fun b2 o3 => ∃ k1 : Nat,I9 = (k1:Int) ∧ k1 < N7 ∧ ∃ x4,w.cell? ⟨b2,o3 + k1,none⟩ = some (.int .u64 x4) ∧ ∃ w5,∃ x6a,∃ x6l,∃ x6c,Sem.run Tryz.prog (Instr.buildSlice 22 1 #[(0,(.int .u64 x4))]) w = .ok (.slice x6a x6l x6c) w5 ∧ ∃ w7,∃ x8a,∃ x8l,∃ x8c,Sem.run Tryz.prog (builtin .append #[22,22] 22 #[false,false] #[(.slice A3 N3 C3),(.slice x6a x6l x6c)]) w5 = .ok (.value (.slice x8a x8l x8c)) w7 ∧ inI64 (I9 + 1) ∧ Kd K .normal [eS 3 x8a x8l x8c,eS 7 A7 N7 C7,eI 8 I8,eI 9 (I9 + 1)] ds w7) (Kd K (.exit 0) [eS 3 A3 N3 C3,eS 7 A7 N7 C7,eI 8 I8,eI 9 I9] ds w)
theorem t2 : VT 19 p2 (l2 A3 N3 C3 A7 N7 C7 I8 I9) (v2 A3 N3 C3 A7 N7 C7 I8 I9) := tw kt [3,7,8,9] fun B ds w K => by kernel_rfl
end F19
namespace F9
noncomputable def body : Code := bodyOf Tryz.f9
def kt : List (Nat × List Nat) := []
variable (A0 : Option Addr) (N0 C0 : Nat) (A1 : Option Addr) (N1 C1 : Nat) (A2 : Option Addr) (N2 C2 : Nat)
abbrev l0 : List (Nat × Value) := [eS 0 A0 N0 C0,eS 1 A1 N1 C1,eS 2 A2 N2 C2]
def v0 : VP := fun B ds w K => Cl 17 #[(.slice A2 N2 C2)] w fun r1 w2 => ∃ x3,r1 = .returned (.pointer x3) ∧ Cl 18 #[(.pointer x3)] w2 fun r4 w5 => ∃ x6,r4 = .returned (.int .i64 x6) ∧ bc (x6 == 0) (Kd K .ret [eS 6 none 0 0,eB 7 false] ds w5) (Cl 17 #[(.slice A0 N0 C0)] (World.alloc w5 (.cells #[(Value.bool Bool.false),(Value.slice none 0 0)] 47)) fun r8 w9 => ∃ x10,r8 = .returned (.pointer x10) ∧ Cl 17 #[(.slice A1 N1 C1)] w9 fun r11 w12 => ∃ x13,r11 = .returned (.pointer x13) ∧ Cl 20 #[(.pointer (some ⟨(World.heap w5).size,0,none⟩)),(.pointer x10),(.pointer x13),(.pointer x3)] w12 fun r14 w15 => ∃ x16,r14 = .returned (.pointer x16) ∧ Cl 19 #[(.pointer x16)] w15 fun r17 w18 => ∃ x19a,∃ x19l,∃ x19c,r17 = .returned (.slice x19a x19l x19c) ∧ Kd K .ret [eS 6 x19a x19l x19c,eB 7 true] ds w18)
theorem t0 : VZ 22 body (l0 A0 N0 C0 A1 N1 C1 A2 N2 C2) (v0 A0 N0 C0 A1 N1 C1 A2 N2 C2) := tz kt [6,7] fun B ds w K => by kernel_rfl
theorem call : VCl 9 [.tmp 6, .tmp 7] #[.slice A0 N0 C0, .slice A1 N1 C1, .slice A2 N2 C2] (v0 A0 N0 C0 A1 N1 C1 A2 N2 C2) := cz Tryz.func9 (by kernel_rfl) Tryz.ntmps9 Tryz.results9 (by kernel_rfl) (t0 A0 N0 C0 A1 N1 C1 A2 N2 C2)
end F9
namespace F27
noncomputable def body : Code := bodyOf Tryz.f27
def kt : List (Nat × List Nat) := []
variable (A0 : Option Addr) (N0 C0 : Nat)
abbrev l0 : List (Nat × Value) := [eS 0 A0 N0 C0]
def v0 : VP := fun B ds w K => Cl 43 #[(.slice A0 N0 C0)] w fun r1 w2 => ∃ x3a,∃ x3l,∃ x3c,r1 = .returned (.slice x3a x3l x3c) ∧ Cl 42 #[(.slice x3a x3l x3c)] w2 fun r4 w5 => ∃ x6a,∃ x6l,∃ x6c,r4 = .returned (.slice x6a x6l x6c) ∧ Kd K .ret [eS 2 x6a x6l x6c] ds w5
theorem t0 : VZ 6 body (l0 A0 N0 C0) (v0 A0 N0 C0) := tz kt [2] fun B ds w K => by kernel_rfl
theorem call : VCl 27 [.tmp 2] #[.slice A0 N0 C0] (v0 A0 N0 C0) := cz Tryz.func27 (by kernel_rfl) Tryz.ntmps27 Tryz.results27 (by kernel_rfl) (t0 A0 N0 C0)
end F27
namespace F42
noncomputable def body : Code := bodyOf Tryz.f42
def kt : List (Nat × List Nat) := []
variable (A0 : Option Addr) (N0 C0 : Nat)
abbrev l0 : List (Nat × Value) := [eS 0 A0 N0 C0]
def v0 : VP := fun B ds w K => Cl 40 #[(.slice A0 N0 C0)] w fun r1 w2 => ∃ x3a,∃ x3l,∃ x3c,r1 = .returned (.slice x3a x3l x3c) ∧ Cl 46 #[(.slice x3a x3l x3c)] w2 fun r4 w5 => ∃ x6a,∃ x6l,∃ x6c,r4 = .returned (.slice x6a x6l x6c) ∧ Cl 62 #[(.slice x6a x6l x6c)] w5 fun r7 w8 => ∃ x9a,∃ x9l,∃ x9c,r7 = .returned (.slice x9a x9l x9c) ∧ Kd K .ret [eS 2 x9a x9l x9c] ds w8
theorem t0 : VZ 7 body (l0 A0 N0 C0) (v0 A0 N0 C0) := tz kt [2] fun B ds w K => by kernel_rfl
theorem call : VCl 42 [.tmp 2] #[.slice A0 N0 C0] (v0 A0 N0 C0) := cz Tryz.func42 (by kernel_rfl) Tryz.ntmps42 Tryz.results42 (by kernel_rfl) (t0 A0 N0 C0)
end F42
namespace F40
noncomputable def body : Code := bodyOf Tryz.f40
def kt : List (Nat × List Nat) := [(3,[3,9,10,11]),(7,[3])]
noncomputable def p1 : Code := sb 3 7 body
noncomputable def p2 : Code := sb 6 52 body
noncomputable def p3 : Code := sb 4 13 body
theorem q3 : p3 = .block 0 (.loop p2) := by kernel_rfl
variable (A0 A3 : Option Addr) (N0 N3 C0 C3 : Nat) (A9 : Option Addr) (N9 C9 : Nat) (I10 I11 : Int)
abbrev l0 : List (Nat × Value) := [eS 0 A0 N0 C0]
def v0 : VP := fun B ds w K => ∃ l1 c2 : Nat,(N0:Int) = (l1:Int) ∧ (N0:Int) = (c2:Int) ∧ l1 ≤ c2 ∧ 8 * c2 ≤ 281474976710656 ∧ c2 ≤ 281474976710656 ∧ Wd 22 p3 [eS 3 (some ⟨(World.heap w).size,0,none⟩) l1 c2,eS 9 A0 N0 C0,eI 10 (N0:Int),eI 11 0] ds (World.alloc w (.cells (madeCells #[(Value.int IntKind.u64 0)] c2) 61)) (thenW Tryz.prog 22 p1 K)
theorem t0 : VZ 22 body (l0 A0 N0 C0) (v0 A0 N0 C0) := tz kt [2] fun B ds w K => by kernel_rfl
theorem call : VCl 40 [.tmp 2] #[.slice A0 N0 C0] (v0 A0 N0 C0) := cz Tryz.func40 (by kernel_rfl) Tryz.ntmps40 Tryz.results40 (by kernel_rfl) (t0 A0 N0 C0)
abbrev l1 : List (Nat × Value) := [eS 3 A3 N3 C3]
def v1 : VP := fun B ds w K => Kd K .ret [eS 2 A3 N3 C3] ds w
theorem t1 : VT 22 p1 (l1 A3 N3 C3) (v1 A3 N3 C3) := tw kt [2] fun B ds w K => by kernel_rfl
abbrev l2 : List (Nat × Value) := [eS 3 A3 N3 C3,eS 9 A9 N9 C9,eI 10 I10,eI 11 I11]
def v2 : VP := fun B ds w K => bc (decide (I11 < (I10:Int))) (nc A9 fun b2 o3 => ∃ k1 : Nat,I11 = (k1:Int) ∧ k1 < N9 ∧ ∃ x4,w.cell? ⟨b2,o3 + k1,none⟩ = some (.int .u64 x4) ∧ nc A3 fun b6 o7 => ∃ k5 : Nat,I11 = (k5:Int) ∧ k5 < N3 ∧ (∃ u8,w.cell? ⟨b6,o7 + k5,none⟩ = some u8) ∧ w.frozen? ⟨b6,o7 + k5,none⟩ = false ∧ inI64 (I11 + 1) ∧ Kd K .normal [eS 3 A3 N3 C3,eS 9 A9 N9 C9,eI 10 I10,eI 11 (I11 + 1)] ds (w.setCell ⟨b6,o7 + k5,none⟩ (.int .u64 x4))) (Kd K (.exit 0) [eS 3 A3 N3 C3,eS 9 A9 N9 C9,eI 10 I10,eI 11 I11] ds w)
theorem t2 : VT 22 p2 (l2 A3 N3 C3 A9 N9 C9 I10 I11) (v2 A3 N3 C3 A9 N9 C9 I10 I11) := tw kt [3,9,10,11] fun B ds w K => by kernel_rfl
end F40
namespace F62
noncomputable def body : Code := bodyOf Tryz.f62
def kt : List (Nat × List Nat) := [(3,[3,9,10,11]),(7,[3])]
noncomputable def p1 : Code := sb 3 7 body
noncomputable def p2 : Code := sb 6 52 body
noncomputable def p3 : Code := sb 4 13 body
theorem q3 : p3 = .block 0 (.loop p2) := by kernel_rfl
variable (A0 A3 : Option Addr) (N0 N3 C0 C3 : Nat) (A9 : Option Addr) (N9 C9 : Nat) (I10 I11 : Int)
abbrev l0 : List (Nat × Value) := [eS 0 A0 N0 C0]
def v0 : VP := fun B ds w K => ∃ l1 c2 : Nat,(N0:Int) = (l1:Int) ∧ (N0:Int) = (c2:Int) ∧ l1 ≤ c2 ∧ 8 * c2 ≤ 281474976710656 ∧ c2 ≤ 281474976710656 ∧ Wd 22 p3 [eS 3 (some ⟨(World.heap w).size,0,none⟩) l1 c2,eS 9 A0 N0 C0,eI 10 (N0:Int),eI 11 0] ds (World.alloc w (.cells (madeCells #[(Value.int IntKind.u64 0)] c2) 38)) (thenW Tryz.prog 22 p1 K)
theorem t0 : VZ 22 body (l0 A0 N0 C0) (v0 A0 N0 C0) := tz kt [2] fun B ds w K => by kernel_rfl
theorem call : VCl 62 [.tmp 2] #[.slice A0 N0 C0] (v0 A0 N0 C0) := cz Tryz.func62 (by kernel_rfl) Tryz.ntmps62 Tryz.results62 (by kernel_rfl) (t0 A0 N0 C0)
abbrev l1 : List (Nat × Value) := [eS 3 A3 N3 C3]
def v1 : VP := fun B ds w K => Kd K .ret [eS 2 A3 N3 C3] ds w
theorem t1 : VT 22 p1 (l1 A3 N3 C3) (v1 A3 N3 C3) := tw kt [2] fun B ds w K => by kernel_rfl
abbrev l2 : List (Nat × Value) := [eS 3 A3 N3 C3,eS 9 A9 N9 C9,eI 10 I10,eI 11 I11]
def v2 : VP := fun B ds w K => bc (decide (I11 < (I10:Int))) (nc A9 fun b2 o3 => ∃ k1 : Nat,I11 = (k1:Int) ∧ k1 < N9 ∧ ∃ x4,w.cell? ⟨b2,o3 + k1,none⟩ = some (.int .u64 x4) ∧ nc A3 fun b6 o7 => ∃ k5 : Nat,I11 = (k5:Int) ∧ k5 < N3 ∧ (∃ u8,w.cell? ⟨b6,o7 + k5,none⟩ = some u8) ∧ w.frozen? ⟨b6,o7 + k5,none⟩ = false ∧ inI64 (I11 + 1) ∧ Kd K .normal [eS 3 A3 N3 C3,eS 9 A9 N9 C9,eI 10 I10,eI 11 (I11 + 1)] ds (w.setCell ⟨b6,o7 + k5,none⟩ (.int .u64 x4))) (Kd K (.exit 0) [eS 3 A3 N3 C3,eS 9 A9 N9 C9,eI 10 I10,eI 11 I11] ds w)
theorem t2 : VT 22 p2 (l2 A3 N3 C3 A9 N9 C9 I10 I11) (v2 A3 N3 C3 A9 N9 C9 I10 I11) := tw kt [3,9,10,11] fun B ds w K => by kernel_rfl
end F62
namespace F3
noncomputable def body : Code := bodyOf Tryz.f3
def kt : List (Nat × List Nat) := []
variable (A0 : Option Addr) (N0 C0 : Nat) (A1 : Option Addr) (N1 C1 : Nat) (A2 : Option Addr) (N2 C2 : Nat)
abbrev l0 : List (Nat × Value) := [eS 0 A0 N0 C0,eS 1 A1 N1 C1,eS 2 A2 N2 C2]
def v0 : VP := fun B ds w K => bc (decide ((N0:Int) > (2147483647:Int))) (Kd K .ret [eB 6 true] ds w) (bc (decide ((N1:Int) > (2147483647:Int))) (Kd K .ret [eB 6 true] ds w) (bc (decide ((N2:Int) > (2147483647:Int))) (Kd K .ret [eB 6 true] ds w) (∃ w4,∃ x5a,∃ x5l,∃ x5c,Sem.run Tryz.prog (Instr.buildSlice 37 2 #[(0,(.slice A0 N0 C0)),(1,(.slice A2 N2 C2))]) w = .ok (.slice x5a x5l x5c) w4 ∧ Cl 6 #[(.int .i64 12),(.slice x5a x5l x5c)] w4 fun r6 w7 => ∃ x8,r6 = .returned (.bool x8) ∧ bc (!x8) (Kd K .ret [eB 6 true] ds w7) (∃ w10,∃ x11a,∃ x11l,∃ x11c,Sem.run Tryz.prog (Instr.buildSlice 37 1 #[(0,(.slice A1 N1 C1))]) w7 = .ok (.slice x11a x11l x11c) w10 ∧ Cl 6 #[(.int .i64 4),(.slice x11a x11l x11c)] w10 fun r12 w13 => ∃ x14,r12 = .returned (.bool x14) ∧ bc (!x14) (Kd K .ret [eB 6 true] ds w13) (Cl 8 #[(.slice A2 N2 C2)] w13 fun r16 w17 => ∃ x18a,∃ x18l,∃ x18c,r16 = .returned (.slice x18a x18l x18c) ∧ Cl 7 #[(.slice x18a x18l x18c)] w17 fun r19 w20 => ∃ x21,r19 = .returned (.int .i64 x21) ∧ bc (x21 == 0) (Kd K .ret [eB 6 true] ds w20) (Cl 9 #[(.slice A0 N0 C0),(.slice A1 N1 C1),(.slice A2 N2 C2)] w20 fun r23 w24 => ∃ x25a,∃ x25l,∃ x25c,True ∧ ∃ x26,True ∧ r23 = .returned (.tuple #[(.slice x25a x25l x25c),(.bool x26)]) ∧ bc x26 (Cl 8 #[(.slice A0 N0 C0)] w24 fun r27 w28 => ∃ x29a,∃ x29l,∃ x29c,r27 = .returned (.slice x29a x29l x29c) ∧ Cl 8 #[(.slice A1 N1 C1)] w28 fun r30 w31 => ∃ x32a,∃ x32l,∃ x32c,r30 = .returned (.slice x32a x32l x32c) ∧ Cl 8 #[(.slice A2 N2 C2)] w31 fun r33 w34 => ∃ x35a,∃ x35l,∃ x35c,r33 = .returned (.slice x35a x35l x35c) ∧ Cl 11 #[(.slice x29a x29l x29c),(.slice x32a x32l x32c),(.slice x35a x35l x35c)] w34 fun r36 w37 => ∃ x38a,∃ x38l,∃ x38c,r36 = .returned (.slice x38a x38l x38c) ∧ Cl 10 #[(.slice x25a x25l x25c),(.slice x38a x38l x38c)] w37 fun r39 w40 => ∃ x41,r39 = .returned (.bool x41) ∧ Kd K .ret [eB 6 x41] ds w40) (Kd K .ret [eB 6 false] ds w24)))))))
theorem t0 : VZ 58 body (l0 A0 N0 C0 A1 N1 C1 A2 N2 C2) (v0 A0 N0 C0 A1 N1 C1 A2 N2 C2) := tz kt [6] fun B ds w K => by kernel_rfl
theorem call : VCl 3 [.tmp 6] #[.slice A0 N0 C0, .slice A1 N1 C1, .slice A2 N2 C2] (v0 A0 N0 C0 A1 N1 C1 A2 N2 C2) := cz Tryz.func3 (by kernel_rfl) Tryz.ntmps3 Tryz.results3 (by kernel_rfl) (t0 A0 N0 C0 A1 N1 C1 A2 N2 C2)
end F3
namespace F6
noncomputable def body : Code := bodyOf Tryz.f6
def kt : List (Nat × List Nat) := [(2,[0,7,8,9]),(7,[])]
noncomputable def p1 : Code := sb 2 3 body
noncomputable def p2 : Code := sb 5 20 body
noncomputable def p3 : Code := sb 3 5 body
theorem q3 : p3 = .block 0 (.loop p2) := by kernel_rfl
variable (I0 : Int) (A1 A7 : Option Addr) (N1 N7 C1 C7 : Nat) (I8 I9 : Int)
abbrev l0 : List (Nat × Value) := [eI 0 I0,eS 1 A1 N1 C1]
def v0 : VP := fun B ds w K => Wd 18 p3 [eI 0 I0,eS 7 A1 N1 C1,eI 8 (N1:Int),eI 9 0] ds w (thenW Tryz.prog 18 p1 K)
theorem t0 : VZ 18 body (l0 I0 A1 N1 C1) (v0 I0 A1 N1 C1) := tz kt [4] fun B ds w K => by kernel_rfl
theorem call : VCl 6 [.tmp 4] #[.int .i64 I0, .slice A1 N1 C1] (v0 I0 A1 N1 C1) := cz Tryz.func6 (by kernel_rfl) Tryz.ntmps6 Tryz.results6 (by kernel_rfl) (t0 I0 A1 N1 C1)
abbrev l1 : List (Nat × Value) := []
def v1 : VP := fun B ds w K => Kd K .ret [eB 4 true] ds w
theorem t1 : VT 18 p1 l1 v1 := tw kt [4] fun B ds w K => by kernel_rfl
abbrev l2 : List (Nat × Value) := [eI 0 I0,eS 7 A7 N7 C7,eI 8 I8,eI 9 I9]
def v2 : VP := fun B ds w K => bc (decide (I9 < (I8:Int))) (nc A7 fun b2 o3 => ∃ k1 : Nat,I9 = (k1:Int) ∧ k1 < N7 ∧ ∃ x4a,∃ x4l,∃ x4c,w.cell? ⟨b2,o3 + k1,none⟩ = some (.slice x4a x4l x4c) ∧ bc (decide ((x4l:Int) > (I0:Int))) (Kd K .ret [eI 0 I0,eB 4 false,eS 7 A7 N7 C7,eI 8 I8,eI 9 I9] ds w) (inI64 (I9 + 1) ∧ Kd K .normal [eI 0 I0,(4,B 4),eS 7 A7 N7 C7,eI 8 I8,eI 9 (I9 + 1)] ds w)) (Kd K (.exit 0) [eI 0 I0,(4,B 4),eS 7 A7 N7 C7,eI 8 I8,eI 9 I9] ds w)
theorem t2 : VT 18 p2 (l2 I0 A7 N7 C7 I8 I9) (v2 I0 A7 N7 C7 I8 I9) := tw kt [0,4,7,8,9] fun B ds w K => by kernel_rfl
end F6
namespace F10
noncomputable def body : Code := bodyOf Tryz.f10
def kt : List (Nat × List Nat) := []
variable (A0 : Option Addr) (N0 C0 : Nat) (A1 : Option Addr) (N1 C1 : Nat)
abbrev l0 : List (Nat × Value) := [eS 0 A0 N0 C0,eS 1 A1 N1 C1]
def v0 : VP := fun B ds w K => Cl 21 #[(.slice A0 N0 C0),(.slice A1 N1 C1)] w fun r1 w2 => ∃ x3,r1 = .returned (.bool x3) ∧ Kd K .ret [eB 4 x3] ds w2
theorem t0 : VZ 8 body (l0 A0 N0 C0 A1 N1 C1) (v0 A0 N0 C0 A1 N1 C1) := tz kt [4] fun B ds w K => by kernel_rfl
theorem call : VCl 10 [.tmp 4] #[.slice A0 N0 C0, .slice A1 N1 C1] (v0 A0 N0 C0 A1 N1 C1) := cz Tryz.func10 (by kernel_rfl) Tryz.ntmps10 Tryz.results10 (by kernel_rfl) (t0 A0 N0 C0 A1 N1 C1)
end F10
end Go.Proofs.YtlkjiiibmfpbcaaGreatDoor
