/- Contracts: storage for a number, its normal form, copies. Conditions: lengths below 2^40; what is read lies apart from the storage, or begins where it begins. -/
import Derived.Test.YtlkjiiibmfpbcaaGreatDoorP11
import Derived.Test.YtlkjiiibmfpbcaaGreatDoorP05
namespace Go.Proofs.YtlkjiiibmfpbcaaGreatDoor
open Go
structure Nz (w : World) (s : Sl) (v : Nat) : Prop extends Nt w s v where
 nm : Nm s v
def Res (w : World) (z : Sl) (V : Nat) (v : Value) (w' : World) : Prop := ∃ r : Sl, v = r.v ∧ Nz w' r V ∧ From w z r ∧ Chg w w' (fp z)
abbrev ResE (w : World) (z : Sl) (V : Nat) (e : Ending) (w' : World) : Prop := ∃ v, e = .returned v ∧ Res w z V v w'
def Len (s : Sl) : Prop := s.l ≤ 1099511627776
theorem Chg.nz {w w' : World} {S : Set2} (h : Chg w w' S) {s : Sl} {v : Nat} (hs : Nz w s v) (hd : ∀ i, i < s.l → ¬ S s.b (s.o + i)) : Nz w' s v := { h.nt hs.toNt hd with nm := hs.nm }
theorem Chg.nz_fp {w w' : World} {z : Sl} (h : Chg w w' (fp z)) {s : Sl} {v : Nat} (hs : Nz w s v) (hd : Apart z s) : Nz w' s v := { h.nt_fp hs.toNt hd with nm := hs.nm }
theorem Chg.nz_none {w w' : World} (h : Chg w w' none2) {s : Sl} {v : Nat} (hs : Nz w s v) : Nz w' s v := { h.nt_none hs.toNt with nm := hs.nm }
theorem Chg.none {w w' : World} (h : Chg w w' none2) (S : Set2) : Chg w w' S := h.mono fun _ _ _ hm => hm.elim
theorem From.to {w : World} {z r : Sl} (h : From w z r) (k : Nat) : From w z (r.to k) := h
theorem From.self (w : World) (z : Sl) (k : Nat) : From w z (z.to k) := .inl ⟨rfl, rfl, rfl, rfl⟩
theorem From.later {w w' : World} {S : Set2} {z r : Sl} (h : From w' z r) (hc : Chg w w' S) : From w z r := h.imp id fun h => Nat.le_trans hc.size h
theorem From.fp {w w' : World} {z r : Sl} (h : From w z r) {S : Set2} (hS : ∀ i, S r.b i → r.o ≤ i ∧ i < r.o + r.c) {w2 : World} (h1 : Chg w w' none2) (h2 : Chg w' w2 fun b i => b = r.b ∧ S b i) : Chg w w2 (fp z) := by
 refine h1.trans h2 (fun _ _ _ hm => hm.elim) fun b i hb hm => ?_
 obtain ⟨e1, e2⟩ := hm
 subst e1
 rcases h with ⟨_, hc, hb', ho⟩ | h
 ·have := hS i e2; exact ⟨hb', by omega, by omega⟩
 ·omega
theorem From.chg {w w1 w2 : World} {z r : Sl} {lo hi : Nat} (h : From w z r) (h1 : Chg w w1 (Go.Proofs.YtlkjiiibmfpbcaaGreatDoor.fp z)) (h2 : Chg w1 w2 (inR r.b lo hi)) (hlo : r.o ≤ lo) (hhi : hi ≤ r.o + r.c) : Chg w w2 (Go.Proofs.YtlkjiiibmfpbcaaGreatDoor.fp z) := by
 refine h1.trans h2 (fun _ _ _ hm => hm) fun b i hb hm => ?_
 obtain ⟨e1, e2, e3⟩ := hm
 rcases h with ⟨_, hc, hb', ho⟩ | h
 ·exact ⟨by omega, by omega, by omega⟩
 ·omega
theorem alloc_froz (w : World) (n : Nat) (a : Addr) : (w.alloc (.cells (madeCells #[(Value.int IntKind.u64 0)] n) 61)).frozen? a = w.frozen? a := RowKit.frozen?_alloc_cells _ _ _ _
theorem alloc_st (w : World) (hg : GB ≤ w.heap.size) (n c : Nat) (hn : n ≤ c) (hc : c ≤ 281474976710656) :
  St (w.alloc (.cells (madeCells #[(Value.int IntKind.u64 0)] c) 61)) ⟨some ⟨w.heap.size, 0, none⟩, n, c, w.heap.size, 0⟩ := by
 have hh : (w.alloc (.cells (madeCells #[(Value.int IntKind.u64 0)] c) 61)).heap[w.heap.size]? = some (.cells (madeCells #[(Value.int IntKind.u64 0)] c) 61 (0, 0)) := heap_alloc_new ..
 refine ⟨hn, fun _ => rfl, fun i hi => ⟨?_, ?_⟩, fun _ => ⟨hg, _, _, hh⟩, by show c ≤ _; omega, by simp; omega⟩
 ·have hi' : i < c := hi
  have : i < (madeCells #[(Value.int IntKind.u64 0)] c).size := by rw [size_madeCells]; exact hi'
  refine ⟨(madeCells #[(Value.int IntKind.u64 0)] c)[i], ?_⟩
  rw [cell_eq, hh]
  simp [this]
 ·rw [frozen_eq, hh]
  simp
theorem c73 (z : Sl) (n : Nat) (w : World) (hz : St w z) (hn : n ≤ 8796093022208) :
  Calls Tryz.prog 73 #[z.v, .int .i64 (n : Int)] w fun e w' => ∃ v, e = .returned v ∧ ∃ r : Sl, v = r.v ∧ r.l = n ∧ St w' r ∧ From w z r ∧ Chg w w' none2 := by
 refine F73.call z.a z.l z.c n w _ fun B => bc_intro (fun hb => ?_) (fun hb => bc_intro (fun hb' => ?_) fun hb' => ?_)
 ·have : n ≤ z.c := by have := dT hb; omega
  exact ⟨n, rfl, this, fun B2 => ret1 rfl rfl ⟨z.to n, rfl, rfl, hz.to_st n this, From.self w z n, Chg.refl _ _⟩⟩
 ·have : n = 1 := by have := eqE hb'; omega
  subst this
  exact ⟨1, 1, rfl, rfl, Nat.le_refl _, by omega, by omega, fun B2 => ret1 rfl rfl ⟨⟨_, 1, 1, w.heap.size, 0⟩, rfl, rfl, alloc_st w hz.gb 1 1 (Nat.le_refl _) (by omega), .inr (Nat.le_refl _), Chg.alloc _ _ (alloc_froz w _) _⟩⟩
 ·exact ⟨by unfold inI64; omega, n, n + 4, rfl, rfl, by omega, by omega, by omega, fun B2 => ret1 rfl rfl ⟨⟨_, n, n + 4, w.heap.size, 0⟩, rfl, rfl, alloc_st w hz.gb n (n + 4) (by omega) (by omega), .inr (Nat.le_refl _), Chg.alloc _ _ (alloc_froz w _) _⟩⟩
theorem shifted0 {w : World} {z : Sl} (h : St w z) : shifted z.a 0 z.c 1 = z.a := by
 by_cases h0 : z.c = 0
 ·rw [h0]; exact shifted_full _ _ _
 ·rw [h.at_ h0]; exact shifted_zero ..
theorem c46 (z : Sl) (V : Nat) (w : World) (hz : Nt w z V) (hl : z.l ≤ 9223372036854775807) :
  Calls Tryz.prog 46 #[z.v] w fun e w' => ∃ v, e = .returned v ∧ ∃ k, k ≤ z.l ∧ v = (z.to k).v ∧ w' = w ∧ Nz w (z.to k) V := by
 refine F46.call z.a z.l z.c w _ fun B B1 => ?_
 rw [F46.q3]
 refine W_for (σ := Nat) (fun s => [(0, z.v), (3, .int .i64 (s : Int))]) (fun s wr => s ≤ z.l ∧ V < BB ^ s ∧ wr = w) (fun s => s) z.l ⟨rfl, rfl, trivial⟩ ⟨Nat.le_refl _, hz.lt, rfl⟩ ?_
 rintro i B wr ⟨hi, hV, h⟩
 have h := h.symm
 subst h
 refine F46.t2 z.a z.l z.c i ⟨rfl, rfl, trivial⟩ fun B1 => bc_intro (fun hb => ?_) (fun hb B2 => ?_)
 ·obtain ⟨j, rfl⟩ : ∃ j, i = j + 1 := ⟨i - 1, by have := dT hb; omega⟩
  refine ⟨by unfold inI64; omega, rdC (k := j) (hz.at_ (by have := hz.lc; omega)) (by omega) (by omega) (hz.sg j (by omega)) (bc_intro (fun hd => ?_) (fun hd B2 => ?_))⟩
  ·have hd0 : dg V j = 0 := by have := eqE hd; omega
   refine ⟨by unfold inI64; omega, fun B2 => ⟨j, ⟨rfl, intv (by omega), trivial⟩, rfl, ⟨by omega, ?_, rfl⟩, by show j < j + 1; omega⟩⟩
   have := Nat.mod_eq_of_lt hV
   rw [mod_succ, hd0] at this
   have := Nat.mod_lt V (BBpow_pos j)
   omega
  ·have hd0 : dg V j ≠ 0 := by have := eqN hd; omega
   refine F46.t1 z.a z.l z.c (j + 1 : Nat) ⟨rfl, rfl, trivial⟩ fun B3 => ⟨0, j + 1, rfl, rfl, by omega, by have := hz.lc; omega, fun B4 => ret1 rfl rfl ⟨j + 1, hi, ?_, rfl, ?_⟩⟩
   ·rw [shifted0 hz.toSt]; rfl
   ·refine ⟨⟨hz.to_st (j + 1) (by have := hz.lc; omega), hz.sg.le hi, hV⟩, Nm.top fun _ => ?_⟩
    show BB ^ j ≤ V
    rcases Nat.lt_or_ge V (BB ^ j) with h1 | h1
    ·exact absurd (dg_of_lt V j h1) hd0
    ·exact h1
 ·have : i = 0 := by have := dF hb; omega
  subst this
  refine F46.t1 z.a z.l z.c (0 : Nat) ⟨rfl, rfl, trivial⟩ fun B3 => ⟨0, 0, rfl, rfl, by omega, by omega, fun B4 => ret1 rfl rfl ⟨0, hi, ?_, rfl, ?_⟩⟩
  ·rw [shifted0 hz.toSt]; rfl
  ·exact ⟨⟨hz.to_st 0 (by omega), Sg.zero, hV⟩, Nm.zero rfl _⟩
theorem nz_zero {w : World} {z : Sl} (h : St w z) : Nz w (z.to 0) 0 := ⟨⟨h.to_st 0 (Nat.zero_le _), Sg.zero, BBpow_pos _⟩, Nm.zero rfl _⟩
theorem Nz.zero {w : World} {s : Sl} {v : Nat} (h : Nt w s v) (h0 : s.l = 0) : v = 0 := by have := h.lt; rw [h0] at this; simpa using this
theorem c71 (z : Sl) (x : Nat) (w : World) (hz : St w z) (hx : x < 18446744073709551616) :
  Calls Tryz.prog 71 #[z.v, .int .u64 (x : Int)] w (ResE w z x) := by
 refine F71.call z.a z.l z.c x w _ fun B => bc_intro (fun hb => ?_) (fun hb => ?_)
 ·have : x = 0 := by have := eqE hb; omega
  subst this
  exact ⟨0, rfl, Nat.zero_le _, fun B2 => ret1 rfl rfl ⟨z.to 0, rfl, nz_zero hz, From.self w z 0, Chg.refl _ _⟩⟩
 ·refine (c73 z 1 w hz (by omega)).mono ?_
  rintro e w1 ⟨_, rfl, r, rfl, hl, hr, hf, hc⟩
  refine ⟨_, _, _, rfl, wtC (k := 0) hr.wt rfl (by omega) fun B2 => ret1 rfl rfl ⟨r, rfl, ?_, hf, ?_⟩⟩
  ·have hp := hr.pl (by have := hr.lc; omega)
   have h1 : Chg w1 (w1.setCell ⟨r.b, r.o + 0, none⟩ (.int .u64 (x : Int))) (inR r.b r.o (r.o + r.c)) := Chg.setCell hp _ ⟨rfl, by omega, by have := hr.lc; omega⟩
   refine ⟨⟨h1.st hr, ?_, by rw [hl]; simpa [BB_eq] using hx⟩, Nm.top fun _ => ?_⟩
   ·rw [hl]
    have := Sg.step (k := 0) (z := 0) (d := x) (Sg.zero (w := w1) (b := r.b) (o := r.o)) (by simp) hx rfl hp (hr.wr 0 (by have := hr.lc; omega)).1
    simpa using this
   ·rw [hl, Nat.sub_self, Nat.pow_zero]; have := eqN hb; omega
  ·have hp := hr.pl (by have := hr.lc; omega)
   exact From.chg hf (hc.none _) (Chg.setCell (w := w1) hp (inR r.b (r.o + 0) (r.o + 0 + 1)) ⟨rfl, by omega, by omega⟩) (by omega) (by have := hr.lc; omega)
theorem c60 (z x : Sl) (X : Nat) (w : World) (hz : St w z) (hx : Nz w x X) (hl : Len x) : Calls Tryz.prog 60 #[z.v, x.v] w (ResE w z X) := by
 unfold Len at hl
 refine F60.call z.a z.l z.c x.a x.l x.c w _ fun B => (c73 z x.l w hz (by omega)).mono ?_
 rintro e w1 ⟨_, rfl, r, rfl, hl, hr, hf, hc⟩
 have hx1 := hc.nz_none hx
 have hx2 := hx1.toNt.rd
 obtain ⟨w', r1, r2, r3⟩ := copyT 45 Tryz.underlying45 r x x.l (by omega) X w1 (hr.to_wt x.l (by have := hr.lc; omega)) ⟨hx2.at_, hx2.sg, hx2.lt⟩
 refine ⟨_, _, _, rfl, w', ⟨_, r1, fun B2 => ret1 rfl rfl ⟨r, rfl, ⟨⟨r3.st hr, by rw [hl]; exact r2, by rw [hl]; exact hx.lt⟩, hx.nm.of_len hl⟩, hf, ?_⟩⟩⟩
 exact From.chg hf (hc.none _) r3 (Nat.le_refl _) (by have := hr.lc; omega)
end Go.Proofs.YtlkjiiibmfpbcaaGreatDoor
namespace Go.Proofs.YtlkjiiibmfpbcaaGreatDoor
open Go
set_option maxRecDepth 100000
set_option linter.unusedVariables false
namespace F107
noncomputable def body : Code := bodyOf Tryz.f107
def kt : List (Nat × List Nat) := [(8,[0])]
noncomputable def p1 : Code := sb 6 63 body
variable (A0 : Option Addr) (N0 C0 : Nat) (A1 : Option Addr) (N1 C1 : Nat) (I2 : Int)
abbrev l0 : List (Nat × Value) := [eS 0 A0 N0 C0,eS 1 A1 N1 C1,eU 2 I2]
def v0 : VP := fun B ds w K => 64 ≠ (0:Int) ∧ bc (decide ((IntKind.wrap .u64 (N1:Int)) < ((iQuo .u64 (IntKind.wrap .u64 ((IntKind.wrap .u64 (I2 + 64)) - 1)) 64) : Int))) (Cl 60 #[(.slice A0 N0 C0),(.slice A1 N1 C1)] w fun r1 w2 => ∃ x3a,∃ x3l,∃ x3c,r1 = .returned (.slice x3a x3l x3c) ∧ Kd K .ret [eS 6 x3a x3l x3c] ds w2) (Cl 73 #[(.slice A0 N0 C0),(.int .i64 (IntKind.wrap .i64 (iQuo .u64 (IntKind.wrap .u64 ((IntKind.wrap .u64 (I2 + 64)) - 1)) 64)))] w fun r5 w6 => ∃ x7a,∃ x7l,∃ x7c,r5 = .returned (.slice x7a x7l x7c) ∧ ∃ w8,∃ x9,Sem.run Tryz.prog (builtin .copy #[45,45] 3 #[false,false] #[(.slice x7a x7l x7c),(.slice A1 N1 C1)]) w6 = .ok (.value (.int .i64 x9)) w8 ∧ 64 ≠ (0:Int) ∧ bc ((iRem I2 64) != 0) (inI64 ((x7l:Int) - 1) ∧ nc x7a fun b11 o12 => ∃ k10 : Nat,((x7l:Int) - 1) = (k10:Int) ∧ k10 < x7l ∧ ∃ x13,w8.cell? ⟨b11,o12 + k10,none⟩ = some (.int .u64 x13) ∧ 64 ≠ (0:Int) ∧ (0:Int) ≤ (iRem I2 64) ∧ nc x7a fun b15 o16 => ∃ k14 : Nat,((x7l:Int) - 1) = (k14:Int) ∧ k14 < x7l ∧ (∃ u17,w8.cell? ⟨b15,o16 + k14,none⟩ = some u17) ∧ w8.frozen? ⟨b15,o16 + k14,none⟩ = false ∧ Wd 44 p1 [eS 0 x7a x7l x7c] ds (w8.setCell ⟨b15,o16 + k14,none⟩ (.int .u64 (iAnd .u64 x13 (IntKind.wrap .u64 ((iShl .u64 1 (iRem I2 64)) - 1))))) K) (Wd 44 p1 [eS 0 x7a x7l x7c] ds w8 K))
theorem t0 : VZ 44 body (l0 A0 N0 C0 A1 N1 C1 I2) (v0 A0 N0 C0 A1 N1 C1 I2) := tz kt [6] fun B ds w K => by kernel_rfl
theorem call : VCl 107 [.tmp 6] #[.slice A0 N0 C0, .slice A1 N1 C1, .int .u64 I2] (v0 A0 N0 C0 A1 N1 C1 I2) := cz Tryz.func107 (by kernel_rfl) Tryz.ntmps107 Tryz.results107 (by kernel_rfl) (t0 A0 N0 C0 A1 N1 C1 I2)
abbrev l1 : List (Nat × Value) := [eS 0 A0 N0 C0]
def v1 : VP := fun B ds w K => Cl 46 #[(.slice A0 N0 C0)] w fun r1 w2 => ∃ x3a,∃ x3l,∃ x3c,r1 = .returned (.slice x3a x3l x3c) ∧ Kd K .ret [eS 6 x3a x3l x3c] ds w2
theorem t1 : VT 44 p1 (l1 A0 N0 C0) (v1 A0 N0 C0) := tw kt [6] fun B ds w K => by kernel_rfl
end F107
namespace F109
noncomputable def body : Code := bodyOf Tryz.f109
def kt : List (Nat × List Nat) := [(6,[0,1,2]),(15,[0])]
noncomputable def p1 : Code := sb 2 3 body
noncomputable def p2 : Code := sb 7 127 body
variable (A0 : Option Addr) (N0 C0 : Nat) (A1 : Option Addr) (N1 C1 : Nat) (I2 : Int)
abbrev l0 : List (Nat × Value) := [eS 0 A0 N0 C0,eS 1 A1 N1 C1,eU 2 I2]
def v0 : VP := fun B ds w K => bc (I2 == 0) (Cl 144 #[(.slice A0 N0 C0),(.slice A1 N1 C1)] w fun r1 w2 => ∃ x3,r1 = .returned (.bool x3) ∧ bc x3 (Kd K .ret [eS 6 A0 N0 C0] ds w2) (Cl 49 #[(.slice A0 N0 C0),(.slice A1 N1 C1)] w2 fun r5 w6 => ∃ x7,r5 = .returned (.bool x7) ∧ bc (!x7) (Cl 60 #[(.slice A0 N0 C0),(.slice A1 N1 C1)] w6 fun r8 w9 => ∃ x10a,∃ x10l,∃ x10c,r8 = .returned (.slice x10a x10l x10c) ∧ Kd K .ret [eS 6 x10a x10l x10c] ds w9) (Wd 57 p1 [eS 0 A0 N0 C0,eS 1 A1 N1 C1,eU 2 I2] ds w6 K))) (Wd 57 p1 [eS 0 A0 N0 C0,eS 1 A1 N1 C1,eU 2 I2] ds w K)
theorem t0 : VZ 57 body (l0 A0 N0 C0 A1 N1 C1 I2) (v0 A0 N0 C0 A1 N1 C1 I2) := tz kt [6] fun B ds w K => by kernel_rfl
theorem call : VCl 109 [.tmp 6] #[.slice A0 N0 C0, .slice A1 N1 C1, .int .u64 I2] (v0 A0 N0 C0 A1 N1 C1 I2) := cz Tryz.func109 (by kernel_rfl) Tryz.ntmps109 Tryz.results109 (by kernel_rfl) (t0 A0 N0 C0 A1 N1 C1 I2)
abbrev l1 : List (Nat × Value) := [eS 0 A0 N0 C0,eS 1 A1 N1 C1,eU 2 I2]
def v1 : VP := fun B ds w K => 64 ≠ (0:Int) ∧ inI64 ((N1:Int) - (IntKind.wrap .i64 (iQuo .u64 I2 64))) ∧ bc (decide (((N1:Int) - (IntKind.wrap .i64 (iQuo .u64 I2 64))) ≤ (0:Int))) (∃ h2 : Nat,0 = (h2:Int) ∧ h2 ≤ C0 ∧ Kd K .ret [eS 6 A0 h2 C0] ds w) (Cl 73 #[(.slice A0 N0 C0),(.int .i64 ((N1:Int) - (IntKind.wrap .i64 (iQuo .u64 I2 64))))] w fun r5 w6 => ∃ x7a,∃ x7l,∃ x7c,r5 = .returned (.slice x7a x7l x7c) ∧ 64 ≠ (0:Int) ∧ bc ((iRem I2 64) == 0) (inI64 ((N1:Int) - ((N1:Int) - (IntKind.wrap .i64 (iQuo .u64 I2 64)))) ∧ ∃ i8 : Nat,((N1:Int) - ((N1:Int) - (IntKind.wrap .i64 (iQuo .u64 I2 64)))) = (i8:Int) ∧ i8 ≤ N1 ∧ ∃ w11,∃ x12,Sem.run Tryz.prog (builtin .copy #[45,45] 3 #[false,false] #[(.slice x7a x7l x7c),(.slice (shifted A1 i8 C1 1) (N1 - i8) (C1 - i8))]) w6 = .ok (.value (.int .i64 x12)) w11 ∧ Wd 57 p2 [eS 0 x7a x7l x7c] ds w11 K) (inI64 ((N1:Int) - ((N1:Int) - (IntKind.wrap .i64 (iQuo .u64 I2 64)))) ∧ ∃ i14 : Nat,((N1:Int) - ((N1:Int) - (IntKind.wrap .i64 (iQuo .u64 I2 64)))) = (i14:Int) ∧ i14 ≤ N1 ∧ Cl 147 #[(.slice x7a x7l x7c),(.slice (shifted A1 i14 C1 1) (N1 - i14) (C1 - i14)),(.int .u64 (iRem I2 64))] w6 fun r17 w18 => ∃ x19,r17 = .returned (.int .u64 x19) ∧ Wd 57 p2 [eS 0 x7a x7l x7c] ds w18 K))
theorem t1 : VT 57 p1 (l1 A0 N0 C0 A1 N1 C1 I2) (v1 A0 N0 C0 A1 N1 C1 I2) := tw kt [6] fun B ds w K => by kernel_rfl
abbrev l2 : List (Nat × Value) := [eS 0 A0 N0 C0]
def v2 : VP := fun B ds w K => Cl 46 #[(.slice A0 N0 C0)] w fun r1 w2 => ∃ x3a,∃ x3l,∃ x3c,r1 = .returned (.slice x3a x3l x3c) ∧ Kd K .ret [eS 6 x3a x3l x3c] ds w2
theorem t2 : VT 57 p2 (l2 A0 N0 C0) (v2 A0 N0 C0) := tw kt [6] fun B ds w K => by kernel_rfl
end F109
namespace F105
noncomputable def body : Code := bodyOf Tryz.f105
def kt : List (Nat × List Nat) := [(6,[0,1,2]),(16,[0,7,8])]
noncomputable def p1 : Code := sb 2 3 body
noncomputable def p2 : Code := sb 7 127 body
variable (A0 : Option Addr) (N0 C0 : Nat) (A1 : Option Addr) (I7 : Int) (N1 : Nat) (I8 : Int) (C1 : Nat) (I2 : Int)
abbrev l0 : List (Nat × Value) := [eS 0 A0 N0 C0,eS 1 A1 N1 C1,eU 2 I2]
def v0 : VP := fun B ds w K => bc (I2 == 0) (Cl 144 #[(.slice A0 N0 C0),(.slice A1 N1 C1)] w fun r1 w2 => ∃ x3,r1 = .returned (.bool x3) ∧ bc x3 (Kd K .ret [eS 6 A0 N0 C0] ds w2) (Cl 49 #[(.slice A0 N0 C0),(.slice A1 N1 C1)] w2 fun r5 w6 => ∃ x7,r5 = .returned (.bool x7) ∧ bc (!x7) (Cl 60 #[(.slice A0 N0 C0),(.slice A1 N1 C1)] w6 fun r8 w9 => ∃ x10a,∃ x10l,∃ x10c,r8 = .returned (.slice x10a x10l x10c) ∧ Kd K .ret [eS 6 x10a x10l x10c] ds w9) (Wd 71 p1 [eS 0 A0 N0 C0,eS 1 A1 N1 C1,eU 2 I2] ds w6 K))) (Wd 71 p1 [eS 0 A0 N0 C0,eS 1 A1 N1 C1,eU 2 I2] ds w K)
theorem t0 : VZ 71 body (l0 A0 N0 C0 A1 N1 C1 I2) (v0 A0 N0 C0 A1 N1 C1 I2) := tz kt [6] fun B ds w K => by kernel_rfl
theorem call : VCl 105 [.tmp 6] #[.slice A0 N0 C0, .slice A1 N1 C1, .int .u64 I2] (v0 A0 N0 C0 A1 N1 C1 I2) := cz Tryz.func105 (by kernel_rfl) Tryz.ntmps105 Tryz.results105 (by kernel_rfl) (t0 A0 N0 C0 A1 N1 C1 I2)
abbrev l1 : List (Nat × Value) := [eS 0 A0 N0 C0,eS 1 A1 N1 C1,eU 2 I2]
def v1 : VP := fun B ds w K => bc ((N1:Int) == 0) (∃ h2 : Nat,0 = (h2:Int) ∧ h2 ≤ C0 ∧ Kd K .ret [eS 6 A0 h2 C0] ds w) (64 ≠ (0:Int) ∧ inI64 ((N1:Int) + (IntKind.wrap .i64 (iQuo .u64 I2 64))) ∧ inI64 (((N1:Int) + (IntKind.wrap .i64 (iQuo .u64 I2 64))) + 1) ∧ Cl 73 #[(.slice A0 N0 C0),(.int .i64 (((N1:Int) + (IntKind.wrap .i64 (iQuo .u64 I2 64))) + 1))] w fun r5 w6 => ∃ x7a,∃ x7l,∃ x7c,r5 = .returned (.slice x7a x7l x7c) ∧ 64 ≠ (0:Int) ∧ bc ((iRem I2 64) == 0) (inI64 (((N1:Int) + (IntKind.wrap .i64 (iQuo .u64 I2 64))) - (N1:Int)) ∧ ∃ i8 h9 : Nat,(((N1:Int) + (IntKind.wrap .i64 (iQuo .u64 I2 64))) - (N1:Int)) = (i8:Int) ∧ ((N1:Int) + (IntKind.wrap .i64 (iQuo .u64 I2 64))) = (h9:Int) ∧ i8 ≤ h9 ∧ h9 ≤ x7c ∧ ∃ w11,∃ x12,Sem.run Tryz.prog (builtin .copy #[45,45] 3 #[false,false] #[(.slice (shifted x7a i8 x7c 1) (h9 - i8) (x7c - i8)),(.slice A1 N1 C1)]) w6 = .ok (.value (.int .i64 x12)) w11 ∧ nc x7a fun b14 o15 => ∃ k13 : Nat,((N1:Int) + (IntKind.wrap .i64 (iQuo .u64 I2 64))) = (k13:Int) ∧ k13 < x7l ∧ (∃ u16,w11.cell? ⟨b14,o15 + k13,none⟩ = some u16) ∧ w11.frozen? ⟨b14,o15 + k13,none⟩ = false ∧ Wd 71 p2 [eS 0 x7a x7l x7c,eI 7 (N1:Int),eI 8 ((N1:Int) + (IntKind.wrap .i64 (iQuo .u64 I2 64)))] ds (w11.setCell ⟨b14,o15 + k13,none⟩ (.int .u64 0)) K) (inI64 (((N1:Int) + (IntKind.wrap .i64 (iQuo .u64 I2 64))) - (N1:Int)) ∧ ∃ i18 h19 : Nat,(((N1:Int) + (IntKind.wrap .i64 (iQuo .u64 I2 64))) - (N1:Int)) = (i18:Int) ∧ ((N1:Int) + (IntKind.wrap .i64 (iQuo .u64 I2 64))) = (h19:Int) ∧ i18 ≤ h19 ∧ h19 ≤ x7c ∧ Cl 145 #[(.slice (shifted x7a i18 x7c 1) (h19 - i18) (x7c - i18)),(.slice A1 N1 C1),(.int .u64 (iRem I2 64))] w6 fun r21 w22 => ∃ x23,r21 = .returned (.int .u64 x23) ∧ nc x7a fun b25 o26 => ∃ k24 : Nat,((N1:Int) + (IntKind.wrap .i64 (iQuo .u64 I2 64))) = (k24:Int) ∧ k24 < x7l ∧ (∃ u27,w22.cell? ⟨b25,o26 + k24,none⟩ = some u27) ∧ w22.frozen? ⟨b25,o26 + k24,none⟩ = false ∧ Wd 71 p2 [eS 0 x7a x7l x7c,eI 7 (N1:Int),eI 8 ((N1:Int) + (IntKind.wrap .i64 (iQuo .u64 I2 64)))] ds (w22.setCell ⟨b25,o26 + k24,none⟩ (.int .u64 x23)) K))
theorem t1 : VT 71 p1 (l1 A0 N0 C0 A1 N1 C1 I2) (v1 A0 N0 C0 A1 N1 C1 I2) := tw kt [6] fun B ds w K => by kernel_rfl
abbrev l2 : List (Nat × Value) := [eS 0 A0 N0 C0,eI 7 I7,eI 8 I8]
def v2 : VP := fun B ds w K => inI64 (I8 - I7) ∧ ∃ i1 h2 : Nat,0 = (i1:Int) ∧ (I8 - I7) = (h2:Int) ∧ i1 ≤ h2 ∧ h2 ≤ C0 ∧ ∃ w4,Sem.run Tryz.prog (builtin .clear #[45] 0 #[false] #[(.slice (shifted A0 i1 C0 1) (h2 - i1) (C0 - i1))]) w = .ok (.value undef) w4 ∧ Cl 46 #[(.slice A0 N0 C0)] w4 fun r5 w6 => ∃ x7a,∃ x7l,∃ x7c,r5 = .returned (.slice x7a x7l x7c) ∧ Kd K .ret [eS 6 x7a x7l x7c] ds w6
theorem t2 : VT 71 p2 (l2 A0 N0 C0 I7 I8) (v2 A0 N0 C0 I7 I8) := tw kt [6] fun B ds w K => by kernel_rfl
end F105
namespace F108
noncomputable def body : Code := bodyOf Tryz.f108
def kt : List (Nat × List Nat) := [(4,[0,3]),(6,[0,3])]
noncomputable def p1 : Code := sb 4 15 body
noncomputable def p2 : Code := sb 6 56 body
noncomputable def p3 : Code := sb 4 14 body
theorem q3 : p3 = .block 0 (.loop p2) := by kernel_rfl
variable (A0 : Option Addr) (N0 C0 : Nat) (I3 : Int)
abbrev l0 : List (Nat × Value) := [eS 0 A0 N0 C0]
def v0 : VP := fun B ds w K => bc ((N0:Int) == 0) (Kd K .ret [eU 2 0] ds w) (Wd 23 p3 [eS 0 A0 N0 C0,eU 3 0] ds w (thenW Tryz.prog 23 p1 K))
theorem t0 : VZ 23 body (l0 A0 N0 C0) (v0 A0 N0 C0) := tz kt [2] fun B ds w K => by kernel_rfl
theorem call : VCl 108 [.tmp 2] #[.slice A0 N0 C0] (v0 A0 N0 C0) := cz Tryz.func108 (by kernel_rfl) Tryz.ntmps108 Tryz.results108 (by kernel_rfl) (t0 A0 N0 C0)
abbrev l1 : List (Nat × Value) := [eS 0 A0 N0 C0,eU 3 I3]
def v1 : VP := fun B ds w K => nc A0 fun b2 o3 => ∃ k1 : Nat,I3 = (k1:Int) ∧ k1 < N0 ∧ ∃ x4,w.cell? ⟨b2,o3 + k1,none⟩ = some (.int .u64 x4) ∧ Cl 55 #[(.int .u64 x4)] w fun r5 w6 => ∃ x7,r5 = .returned (.int .i64 x7) ∧ Kd K .ret [eU 2 (IntKind.wrap .u64 ((IntKind.wrap .u64 (I3 * 64)) + (IntKind.wrap .u64 x7)))] ds w6
theorem t1 : VT 23 p1 (l1 A0 N0 C0 I3) (v1 A0 N0 I3) := tw kt [2] fun B ds w K => by kernel_rfl
abbrev l2 : List (Nat × Value) := [eS 0 A0 N0 C0,eU 3 I3]
def v2 : VP := fun B ds w K => nc A0 fun b2 o3 => ∃ k1 : Nat,I3 = (k1:Int) ∧ k1 < N0 ∧ ∃ x4,w.cell? ⟨b2,o3 + k1,none⟩ = some (.int .u64 x4) ∧ bc (x4 == 0) (Kd K .normal [eS 0 A0 N0 C0,eU 3 (IntKind.wrap .u64 (I3 + 1))] ds w) (Kd K (.exit 0) [eS 0 A0 N0 C0,eU 3 I3] ds w)
theorem t2 : VT 23 p2 (l2 A0 N0 C0 I3) (v2 A0 N0 C0 I3) := tw kt [0,3] fun B ds w K => by kernel_rfl
end F108
namespace F75
noncomputable def body : Code := bodyOf Tryz.f75
def kt : List (Nat × List Nat) := [(2,[0,4]),(4,[0,4])]
noncomputable def p1 : Code := sb 3 7 body
noncomputable def p2 : Code := sb 5 24 body
noncomputable def p3 : Code := sb 3 6 body
theorem q3 : p3 = .block 0 (.loop p2) := by kernel_rfl
variable (A0 : Option Addr) (N0 C0 : Nat) (I4 : Int)
abbrev l0 : List (Nat × Value) := [eS 0 A0 N0 C0]
def v0 : VP := fun B ds w K => Wd 40 p3 [eS 0 A0 N0 C0,eU 4 0] ds w (thenW Tryz.prog 40 p1 K)
theorem t0 : VZ 40 body (l0 A0 N0 C0) (v0 A0 N0 C0) := tz kt [2,3] fun B ds w K => by kernel_rfl
theorem call : VCl 75 [.tmp 2, .tmp 3] #[.slice A0 N0 C0] (v0 A0 N0 C0) := cz Tryz.func75 (by kernel_rfl) Tryz.ntmps75 Tryz.results75 (by kernel_rfl) (t0 A0 N0 C0)
abbrev l1 : List (Nat × Value) := [eS 0 A0 N0 C0,eU 4 I4]
def v1 : VP := fun B ds w K => bc (I4 == ((IntKind.wrap .u64 ((IntKind.wrap .u64 (N0:Int)) - 1)) : Int)) (nc A0 fun b2 o3 => ∃ k1 : Nat,I4 = (k1:Int) ∧ k1 < N0 ∧ ∃ x4,w.drew.cell? ⟨b2,o3 + k1,none⟩ = some (.int .u64 x4) ∧ nc A0 fun b6 o7 => ∃ k5 : Nat,I4 = (k5:Int) ∧ k5 < N0 ∧ ∃ x8,w.drew.cell? ⟨b6,o7 + k5,none⟩ = some (.int .u64 x8) ∧ bc ((iAnd .u64 x4 (IntKind.wrap .u64 (x8 - 1))) == 0) (nc A0 fun b10 o11 => ∃ k9 : Nat,I4 = (k9:Int) ∧ k9 < N0 ∧ ∃ x12,w.drew.cell? ⟨b10,o11 + k9,none⟩ = some (.int .u64 x12) ∧ Cl 55 #[(.int .u64 x12)] w.drew fun r13 w14 => ∃ x15,r13 = .returned (.int .i64 x15) ∧ Kd K .ret [eU 2 (IntKind.wrap .u64 ((IntKind.wrap .u64 (I4 * 64)) + (IntKind.wrap .u64 x15))),eB 3 true] ds w14) (Kd K .ret [eU 2 0,eB 3 false] ds w.drew)) (Kd K .ret [eU 2 0,eB 3 false] ds w.drew)
theorem t1 : VT 40 p1 (l1 A0 N0 C0 I4) (v1 A0 N0 I4) := tw kt [2,3] fun B ds w K => by kernel_rfl
abbrev l2 : List (Nat × Value) := [eS 0 A0 N0 C0,eU 4 I4]
def v2 : VP := fun B ds w K => nc A0 fun b2 o3 => ∃ k1 : Nat,I4 = (k1:Int) ∧ k1 < N0 ∧ ∃ x4,w.cell? ⟨b2,o3 + k1,none⟩ = some (.int .u64 x4) ∧ bc (x4 == 0) (Kd K .normal [eS 0 A0 N0 C0,eU 4 (IntKind.wrap .u64 (I4 + 1))] ds w) (Kd K (.exit 0) [eS 0 A0 N0 C0,eU 4 I4] ds w)
theorem t2 : VT 40 p2 (l2 A0 N0 C0 I4) (v2 A0 N0 C0 I4) := tw kt [0,4] fun B ds w K => by kernel_rfl
end F75
namespace F144
noncomputable def body : Code := bodyOf Tryz.f144
def kt : List (Nat × List Nat) := []
variable (A0 : Option Addr) (N0 C0 : Nat) (A1 : Option Addr) (N1 C1 : Nat)
abbrev l0 : List (Nat × Value) := [eS 0 A0 N0 C0,eS 1 A1 N1 C1]
def v0 : VP := fun B ds w K => bc ((N0:Int) == (N1:Int)) (bc (decide ((N0:Int) > (0:Int))) (nc A0 fun b2 o3 => ∃ k1 : Nat,0 = (k1:Int) ∧ k1 < N0 ∧ nc A1 fun b5 o6 => ∃ k4 : Nat,0 = (k4:Int) ∧ k4 < N1 ∧ ∃ q7,ptrEq w.drew (some ⟨b2,o3 + k1,none⟩) (some ⟨b5,o6 + k4,none⟩) q7 ∧ Kd K .ret [eB 4 q7] ds w.drew) (Kd K .ret [eB 4 false] ds w.drew)) (Kd K .ret [eB 4 false] ds w.drew)
theorem t0 : VZ 22 body (l0 A0 N0 C0 A1 N1 C1) (v0 A0 N0 A1 N1) := tz kt [4] fun B ds w K => by kernel_rfl
theorem call : VCl 144 [.tmp 4] #[.slice A0 N0 C0, .slice A1 N1 C1] (v0 A0 N0 A1 N1) := cz Tryz.func144 (by kernel_rfl) Tryz.ntmps144 Tryz.results144 (by kernel_rfl) (t0 A0 N0 C0 A1 N1 C1)
end F144
namespace F49
noncomputable def body : Code := bodyOf Tryz.f49
def kt : List (Nat × List Nat) := []
variable (A0 : Option Addr) (N0 C0 : Nat) (A1 : Option Addr) (N1 C1 : Nat)
abbrev l0 : List (Nat × Value) := [eS 0 A0 N0 C0,eS 1 A1 N1 C1]
def v0 : VP := fun B ds w K => bc (decide ((C0:Int) > (0:Int))) (bc (decide ((C1:Int) > (0:Int))) (∃ i1 h2 : Nat,0 = (i1:Int) ∧ (C0:Int) = (h2:Int) ∧ i1 ≤ h2 ∧ h2 ≤ C0 ∧ inI64 ((C0:Int) - 1) ∧ nc (shifted A0 i1 C0 1) fun b5 o6 => ∃ k4 : Nat,((C0:Int) - 1) = (k4:Int) ∧ k4 < (h2 - i1) ∧ ∃ i7 h8 : Nat,0 = (i7:Int) ∧ (C1:Int) = (h8:Int) ∧ i7 ≤ h8 ∧ h8 ≤ C1 ∧ inI64 ((C1:Int) - 1) ∧ nc (shifted A1 i7 C1 1) fun b11 o12 => ∃ k10 : Nat,((C1:Int) - 1) = (k10:Int) ∧ k10 < (h8 - i7) ∧ ∃ q13,ptrEq w.drew (some ⟨b5,o6 + k4,none⟩) (some ⟨b11,o12 + k10,none⟩) q13 ∧ Kd K .ret [eB 4 q13] ds w.drew) (Kd K .ret [eB 4 false] ds w.drew)) (Kd K .ret [eB 4 false] ds w.drew)
theorem t0 : VZ 32 body (l0 A0 N0 C0 A1 N1 C1) (v0 A0 C0 A1 C1) := tz kt [4] fun B ds w K => by kernel_rfl
theorem call : VCl 49 [.tmp 4] #[.slice A0 N0 C0, .slice A1 N1 C1] (v0 A0 C0 A1 C1) := cz Tryz.func49 (by kernel_rfl) Tryz.ntmps49 Tryz.results49 (by kernel_rfl) (t0 A0 N0 C0 A1 N1 C1)
end F49
namespace F64
noncomputable def body : Code := bodyOf Tryz.f64
def kt : List (Nat × List Nat) := []
variable (A0 : Option Addr) (N0 C0 : Nat) (I1 : Int)
abbrev l0 : List (Nat × Value) := [eS 0 A0 N0 C0,eU 1 I1]
def v0 : VP := fun B ds w K => bc (I1 == (I1:Int)) (Cl 71 #[(.slice A0 N0 C0),(.int .u64 I1)] w fun r1 w2 => ∃ x3a,∃ x3l,∃ x3c,r1 = .returned (.slice x3a x3l x3c) ∧ Kd K .ret [eS 4 x3a x3l x3c] ds w2) (Cl 73 #[(.slice A0 N0 C0),(.int .i64 2)] w fun r5 w6 => ∃ x7a,∃ x7l,∃ x7c,r5 = .returned (.slice x7a x7l x7c) ∧ (0:Int) ≤ 32 ∧ nc x7a fun b9 o10 => ∃ k8 : Nat,1 = (k8:Int) ∧ k8 < x7l ∧ (∃ u11,w6.cell? ⟨b9,o10 + k8,none⟩ = some u11) ∧ w6.frozen? ⟨b9,o10 + k8,none⟩ = false ∧ nc x7a fun b13 o14 => ∃ k12 : Nat,0 = (k12:Int) ∧ k12 < x7l ∧ (∃ u15,World.cell? (w6.setCell ⟨b9,o10 + k8,none⟩ (.int .u64 (iShr .u64 I1 32))) ⟨b13,o14 + k12,none⟩ = some u15) ∧ World.frozen? (w6.setCell ⟨b9,o10 + k8,none⟩ (.int .u64 (iShr .u64 I1 32))) ⟨b13,o14 + k12,none⟩ = false ∧ Kd K .ret [eS 4 x7a x7l x7c] ds (World.setCell (w6.setCell ⟨b9,o10 + k8,none⟩ (.int .u64 (iShr .u64 I1 32))) ⟨b13,o14 + k12,none⟩ (.int .u64 I1)))
theorem t0 : VZ 23 body (l0 A0 N0 C0 I1) (v0 A0 N0 C0 I1) := tz kt [4] fun B ds w K => by kernel_rfl
theorem call : VCl 64 [.tmp 4] #[.slice A0 N0 C0, .int .u64 I1] (v0 A0 N0 C0 I1) := cz Tryz.func64 (by kernel_rfl) Tryz.ntmps64 Tryz.results64 (by kernel_rfl) (t0 A0 N0 C0 I1)
end F64
namespace F100
noncomputable def body : Code := bodyOf Tryz.f100
def kt : List (Nat × List Nat) := []
abbrev l0 : List (Nat × Value) := []
def v0 : VP := fun B ds w K => ∃ w1,∃ x2a,∃ x2l,∃ x2c,Sem.run Tryz.prog (Instr.buildSlice 45 1 #[(0,(.int .u64 1))]) w = .ok (.slice x2a x2l x2c) w1 ∧ Kd K .ret [eS 0 x2a x2l x2c] ds w1
theorem t0 : VZ 2 body l0 v0 := tz kt [0] fun B ds w K => by kernel_rfl
theorem call : VCl 100 [.tmp 0] #[] v0 := cz Tryz.func100 (by kernel_rfl) Tryz.ntmps100 Tryz.results100 (by kernel_rfl) (t0 )
end F100
namespace F53
noncomputable def body : Code := bodyOf Tryz.f53
def kt : List (Nat × List Nat) := []
variable (A0 : Option Addr) (N0 C0 : Nat)
abbrev l0 : List (Nat × Value) := [eS 0 A0 N0 C0]
def v0 : VP := fun B ds w K => inI64 ((N0:Int) - 1) ∧ bc (decide (((N0:Int) - 1) ≥ (0:Int))) (nc A0 fun b2 o3 => ∃ k1 : Nat,((N0:Int) - 1) = (k1:Int) ∧ k1 < N0 ∧ ∃ x4,w.cell? ⟨b2,o3 + k1,none⟩ = some (.int .u64 x4) ∧ (0:Int) ≤ 1 ∧ (0:Int) ≤ 2 ∧ (0:Int) ≤ 4 ∧ (0:Int) ≤ 8 ∧ (0:Int) ≤ 16 ∧ (0:Int) ≤ 16 ∧ (0:Int) ≤ 16 ∧ inI64 (((N0:Int) - 1) * 64) ∧ Cl 84 #[(.int .u64 (iOr .u64 (iOr .u64 (iOr .u64 (iOr .u64 (iOr .u64 (iOr .u64 x4 (iShr .u64 x4 1)) (iShr .u64 (iOr .u64 x4 (iShr .u64 x4 1)) 2)) (iShr .u64 (iOr .u64 (iOr .u64 x4 (iShr .u64 x4 1)) (iShr .u64 (iOr .u64 x4 (iShr .u64 x4 1)) 2)) 4)) (iShr .u64 (iOr .u64 (iOr .u64 (iOr .u64 x4 (iShr .u64 x4 1)) (iShr .u64 (iOr .u64 x4 (iShr .u64 x4 1)) 2)) (iShr .u64 (iOr .u64 (iOr .u64 x4 (iShr .u64 x4 1)) (iShr .u64 (iOr .u64 x4 (iShr .u64 x4 1)) 2)) 4)) 8)) (iShr .u64 (iOr .u64 (iOr .u64 (iOr .u64 (iOr .u64 x4 (iShr .u64 x4 1)) (iShr .u64 (iOr .u64 x4 (iShr .u64 x4 1)) 2)) (iShr .u64 (iOr .u64 (iOr .u64 x4 (iShr .u64 x4 1)) (iShr .u64 (iOr .u64 x4 (iShr .u64 x4 1)) 2)) 4)) (iShr .u64 (iOr .u64 (iOr .u64 (iOr .u64 x4 (iShr .u64 x4 1)) (iShr .u64 (iOr .u64 x4 (iShr .u64 x4 1)) 2)) (iShr .u64 (iOr .u64 (iOr .u64 x4 (iShr .u64 x4 1)) (iShr .u64 (iOr .u64 x4 (iShr .u64 x4 1)) 2)) 4)) 8)) 16)) (iShr .u64 (iShr .u64 (iOr .u64 (iOr .u64 (iOr .u64 (iOr .u64 (iOr .u64 x4 (iShr .u64 x4 1)) (iShr .u64 (iOr .u64 x4 (iShr .u64 x4 1)) 2)) (iShr .u64 (iOr .u64 (iOr .u64 x4 (iShr .u64 x4 1)) (iShr .u64 (iOr .u64 x4 (iShr .u64 x4 1)) 2)) 4)) (iShr .u64 (iOr .u64 (iOr .u64 (iOr .u64 x4 (iShr .u64 x4 1)) (iShr .u64 (iOr .u64 x4 (iShr .u64 x4 1)) 2)) (iShr .u64 (iOr .u64 (iOr .u64 x4 (iShr .u64 x4 1)) (iShr .u64 (iOr .u64 x4 (iShr .u64 x4 1)) 2)) 4)) 8)) (iShr .u64 (iOr .u64 (iOr .u64 (iOr .u64 (iOr .u64 x4 (iShr .u64 x4 1)) (iShr .u64 (iOr .u64 x4 (iShr .u64 x4 1)) 2)) (iShr .u64 (iOr .u64 (iOr .u64 x4 (iShr .u64 x4 1)) (iShr .u64 (iOr .u64 x4 (iShr .u64 x4 1)) 2)) 4)) (iShr .u64 (iOr .u64 (iOr .u64 (iOr .u64 x4 (iShr .u64 x4 1)) (iShr .u64 (iOr .u64 x4 (iShr .u64 x4 1)) 2)) (iShr .u64 (iOr .u64 (iOr .u64 x4 (iShr .u64 x4 1)) (iShr .u64 (iOr .u64 x4 (iShr .u64 x4 1)) 2)) 4)) 8)) 16)) 16) 16)))] w fun r5 w6 => ∃ x7,r5 = .returned (.int .i64 x7) ∧ inI64 ((((N0:Int) - 1) * 64) + x7) ∧ Kd K .ret [eI 2 ((((N0:Int) - 1) * 64) + x7)] ds w6) (Kd K .ret [eI 2 0] ds w)
theorem t0 : VZ 44 body (l0 A0 N0 C0) (v0 A0 N0) := tz kt [2] fun B ds w K => by kernel_rfl
theorem call : VCl 53 [.tmp 2] #[.slice A0 N0 C0] (v0 A0 N0) := cz Tryz.func53 (by kernel_rfl) Tryz.ntmps53 Tryz.results53 (by kernel_rfl) (t0 A0 N0 C0)
end F53
end Go.Proofs.YtlkjiiibmfpbcaaGreatDoor
