/- Contracts: storage for a number, its normal form, copies. Conditions: lengths below 2^40; what is read lies apart from the storage, or begins where it begins. -/
import Derived.Test.YtlkjiiibmfpbcaaGreatDoorR11
import Derived.Test.YtlkjiiibmfpbcaaGreatDoorR05
import Derived.Test.YtlkjiiibmfpbcaaGreatDoorR07
namespace Go.Proofs.YtlkjiiibmfpbcaaGreatDoor
open Go
structure Nz (w : World) (s : Sl) (v : Nat) : Prop extends Nt w s v where
 nm : Nm s v
def Res (w : World) (z : Sl) (V : Nat) (v : Value) (w' : World) : Prop := ∃ r : Sl, v = r.v ∧ Nz w' r V ∧ From w z r ∧ Chg w w' (fp z)
abbrev ResE (w : World) (z : Sl) (V : Nat) (e : Ending) (w' : World) : Prop := ∃ v, e = .returned v ∧ Res w z V v w'
def Len (s : Sl) : Prop := s.l ≤ 1099511627776
theorem Chg.nz {w w' : World} {S : Set2} (h : Chg w w' S) {s : Sl} {v : Nat} (hs : Nz w s v) (hd : ∀ i, i < s.l → ¬ S s.b (s.o + i)) : Nz w' s v := { h.nt hs.toNt hd with nm := hs.nm }
theorem Chg.nz_fp {w w' : World} {z : Sl} (h : Chg w w' (fp z)) {s : Sl} {v : Nat} (hs : Nz w s v) (hd : Apart z s) : Nz w' s v := { h.nt_fp hs.toNt hd with nm := hs.nm }
theorem Chg.nz_none {w w' : World} (h : Chg w w' none2) {s : Sl} {v : Nat} (hs : Nz w s v) : Nz w' s v := { h.nt_none hs.toNt with nm := hs.nm }
theorem Chg.none {w w' : World} (h : Chg w w' none2) (S : Set2) : Chg w w' S := h.mono fun _ _ _ hm => hm.elim
theorem From.to {w : World} {z r : Sl} (h : From w z r) (k : Nat) : From w z (r.to k) := h
theorem From.self (w : World) (z : Sl) (k : Nat) : From w z (z.to k) := .inl ⟨rfl, rfl, rfl, rfl⟩
theorem From.later {w w' : World} {S : Set2} {z r : Sl} (h : From w' z r) (hc : Chg w w' S) : From w z r := h.imp id fun h => Nat.le_trans hc.size h
theorem From.fp {w w' : World} {z r : Sl} (h : From w z r) {S : Set2} (hS : ∀ i, S r.b i → r.o ≤ i ∧ i < r.o + r.c) {w2 : World} (h1 : Chg w w' none2) (h2 : Chg w' w2 fun b i => b = r.b ∧ S b i) : Chg w w2 (fp z) := by
 refine h1.trans h2 (fun _ _ _ hm => hm.elim) fun b i hb hm => ?_
 obtain ⟨e1, e2⟩ := hm
 subst e1
 rcases h with ⟨_, hc, hb', ho⟩ | h
 ·have := hS i e2; exact ⟨hb', by omega, by omega⟩
 ·omega
theorem From.chg {w w1 w2 : World} {z r : Sl} {lo hi : Nat} (h : From w z r) (h1 : Chg w w1 (Go.Proofs.YtlkjiiibmfpbcaaGreatDoor.fp z)) (h2 : Chg w1 w2 (inR r.b lo hi)) (hlo : r.o ≤ lo) (hhi : hi ≤ r.o + r.c) : Chg w w2 (Go.Proofs.YtlkjiiibmfpbcaaGreatDoor.fp z) := by
 refine h1.trans h2 (fun _ _ _ hm => hm) fun b i hb hm => ?_
 obtain ⟨e1, e2, e3⟩ := hm
 rcases h with ⟨_, hc, hb', ho⟩ | h
 ·exact ⟨by omega, by omega, by omega⟩
 ·omega
theorem alloc_froz (w : World) (n : Nat) (a : Addr) : (w.alloc (.cells (madeCells #[(Value.int IntKind.u64 0)] n) 61)).frozen? a = w.frozen? a := RowKit.frozen?_alloc_cells _ _ _ _
theorem alloc_st (w : World) (hg : GB ≤ w.heap.size) (n c : Nat) (hn : n ≤ c) (hc : c ≤ 281474976710656) :
  St (w.alloc (.cells (madeCells #[(Value.int IntKind.u64 0)] c) 61)) ⟨some ⟨w.heap.size, 0, none⟩, n, c, w.heap.size, 0⟩ := by
 have hh : (w.alloc (.cells (madeCells #[(Value.int IntKind.u64 0)] c) 61)).heap[w.heap.size]? = some (.cells (madeCells #[(Value.int IntKind.u64 0)] c) 61 (0, 0)) := heap_alloc_new ..
 refine ⟨hn, fun _ => rfl, fun i hi => ⟨?_, ?_⟩, fun _ => ⟨hg, _, _, hh⟩, by show c ≤ _; omega, by simp; omega⟩
 ·have hi' : i < c := hi
  have : i < (madeCells #[(Value.int IntKind.u64 0)] c).size := by rw [size_madeCells]; exact hi'
  refine ⟨(madeCells #[(Value.int IntKind.u64 0)] c)[i], ?_⟩
  rw [cell_eq, hh]
  simp [this]
 ·rw [frozen_eq, hh]
  simp
theorem c73 (z : Sl) (n : Nat) (w : World) (hz : St w z) (hn : n ≤ 8796093022208) :
  Calls Tryz.prog 73 #[z.v, .int .i64 (n : Int)] w fun e w' => ∃ v, e = .returned v ∧ ∃ r : Sl, v = r.v ∧ r.l = n ∧ St w' r ∧ From w z r ∧ Chg w w' none2 := by
 refine F73.call z.a z.l z.c n w _ fun B => bc_intro (fun hb => ?_) (fun hb => bc_intro (fun hb' => ?_) fun hb' => ?_)
 ·have : n ≤ z.c := by have := dT hb; omega
  exact ⟨n, rfl, this, fun B2 => ret1 rfl rfl ⟨z.to n, rfl, rfl, hz.to_st n this, From.self w z n, Chg.refl _ _⟩⟩
 ·have : n = 1 := by have := eqE hb'; omega
  subst this
  exact ⟨1, 1, rfl, rfl, Nat.le_refl _, by omega, by omega, fun B2 => ret1 rfl rfl ⟨⟨_, 1, 1, w.heap.size, 0⟩, rfl, rfl, alloc_st w hz.gb 1 1 (Nat.le_refl _) (by omega), .inr (Nat.le_refl _), Chg.alloc _ _ (alloc_froz w _) _⟩⟩
 ·exact ⟨by unfold inI64; omega, n, n + 4, rfl, rfl, by omega, by omega, by omega, fun B2 => ret1 rfl rfl ⟨⟨_, n, n + 4, w.heap.size, 0⟩, rfl, rfl, alloc_st w hz.gb n (n + 4) (by omega) (by omega), .inr (Nat.le_refl _), Chg.alloc _ _ (alloc_froz w _) _⟩⟩
theorem shifted0 {w : World} {z : Sl} (h : St w z) : shifted z.a 0 z.c 1 = z.a := by
 by_cases h0 : z.c = 0
 ·rw [h0]; exact shifted_full _ _ _
 ·rw [h.at_ h0]; exact shifted_zero ..
theorem c46 (z : Sl) (V : Nat) (w : World) (hz : Nt w z V) (hl : z.l ≤ 9223372036854775807) :
  Calls Tryz.prog 46 #[z.v] w fun e w' => ∃ v, e = .returned v ∧ ∃ k, k ≤ z.l ∧ v = (z.to k).v ∧ w' = w ∧ Nz w (z.to k) V := by
 refine F46.call z.a z.l z.c w _ fun B B1 => ?_
 rw [F46.q3]
 refine W_for (σ := Nat) (fun s => [(0, z.v), (3, .int .i64 (s : Int))]) (fun s wr => s ≤ z.l ∧ V < BB ^ s ∧ wr = w) (fun s => s) z.l ⟨rfl, rfl, trivial⟩ ⟨Nat.le_refl _, hz.lt, rfl⟩ ?_
 rintro i B wr ⟨hi, hV, h⟩
 have h := h.symm
 subst h
 refine F46.t2 z.a z.l z.c i ⟨rfl, rfl, trivial⟩ fun B1 => bc_intro (fun hb => ?_) (fun hb B2 => ?_)
 ·obtain ⟨j, rfl⟩ : ∃ j, i = j + 1 := ⟨i - 1, by have := dT hb; omega⟩
  refine ⟨by unfold inI64; omega, rdC (k := j) (hz.at_ (by have := hz.lc; omega)) (by omega) (by omega) (hz.sg j (by omega)) (bc_intro (fun hd => ?_) (fun hd B2 => ?_))⟩
  ·have hd0 : dg V j = 0 := by have := eqE hd; omega
   refine ⟨by unfold inI64; omega, fun B2 => ⟨j, ⟨rfl, intv (by omega), trivial⟩, rfl, ⟨by omega, ?_, rfl⟩, by show j < j + 1; omega⟩⟩
   have := Nat.mod_eq_of_lt hV
   rw [mod_succ, hd0] at this
   have := Nat.mod_lt V (BBpow_pos j)
   omega
  ·have hd0 : dg V j ≠ 0 := by have := eqN hd; omega
   refine F46.t1 z.a z.l z.c (j + 1 : Nat) ⟨rfl, rfl, trivial⟩ fun B3 => ⟨0, j + 1, rfl, rfl, by omega, by have := hz.lc; omega, fun B4 => ret1 rfl rfl ⟨j + 1, hi, ?_, rfl, ?_⟩⟩
   ·rw [shifted0 hz.toSt]; rfl
   ·refine ⟨⟨hz.to_st (j + 1) (by have := hz.lc; omega), hz.sg.le hi, hV⟩, Nm.top fun _ => ?_⟩
    show BB ^ j ≤ V
    rcases Nat.lt_or_ge V (BB ^ j) with h1 | h1
    ·exact absurd (dg_of_lt V j h1) hd0
    ·exact h1
 ·have : i = 0 := by have := dF hb; omega
  subst this
  refine F46.t1 z.a z.l z.c (0 : Nat) ⟨rfl, rfl, trivial⟩ fun B3 => ⟨0, 0, rfl, rfl, by omega, by omega, fun B4 => ret1 rfl rfl ⟨0, hi, ?_, rfl, ?_⟩⟩
  ·rw [shifted0 hz.toSt]; rfl
  ·exact ⟨⟨hz.to_st 0 (by omega), Sg.zero, hV⟩, Nm.zero rfl _⟩
theorem nz_zero {w : World} {z : Sl} (h : St w z) : Nz w (z.to 0) 0 := ⟨⟨h.to_st 0 (Nat.zero_le _), Sg.zero, BBpow_pos _⟩, Nm.zero rfl _⟩
theorem Nz.zero {w : World} {s : Sl} {v : Nat} (h : Nt w s v) (h0 : s.l = 0) : v = 0 := by have := h.lt; rw [h0] at this; simpa using this
theorem c71 (z : Sl) (x : Nat) (w : World) (hz : St w z) (hx : x < 18446744073709551616) :
  Calls Tryz.prog 71 #[z.v, .int .u64 (x : Int)] w (ResE w z x) := by
 refine F71.call z.a z.l z.c x w _ fun B => bc_intro (fun hb => ?_) (fun hb => ?_)
 ·have : x = 0 := by have := eqE hb; omega
  subst this
  exact ⟨0, rfl, Nat.zero_le _, fun B2 => ret1 rfl rfl ⟨z.to 0, rfl, nz_zero hz, From.self w z 0, Chg.refl _ _⟩⟩
 ·refine (c73 z 1 w hz (by omega)).mono ?_
  rintro e w1 ⟨_, rfl, r, rfl, hl, hr, hf, hc⟩
  refine ⟨_, _, _, rfl, wtC (k := 0) hr.wt rfl (by omega) fun B2 => ret1 rfl rfl ⟨r, rfl, ?_, hf, ?_⟩⟩
  ·have hp := hr.pl (by have := hr.lc; omega)
   have h1 : Chg w1 (w1.setCell ⟨r.b, r.o + 0, none⟩ (.int .u64 (x : Int))) (inR r.b r.o (r.o + r.c)) := Chg.setCell hp _ ⟨rfl, by omega, by have := hr.lc; omega⟩
   refine ⟨⟨h1.st hr, ?_, by rw [hl]; simpa [BB_eq] using hx⟩, Nm.top fun _ => ?_⟩
   ·rw [hl]
    have := Sg.step (k := 0) (z := 0) (d := x) (Sg.zero (w := w1) (b := r.b) (o := r.o)) (by simp) hx rfl hp (hr.wr 0 (by have := hr.lc; omega)).1
    simpa using this
   ·rw [hl, Nat.sub_self, Nat.pow_zero]; have := eqN hb; omega
  ·have hp := hr.pl (by have := hr.lc; omega)
   exact From.chg hf (hc.none _) (Chg.setCell (w := w1) hp (inR r.b (r.o + 0) (r.o + 0 + 1)) ⟨rfl, by omega, by omega⟩) (by omega) (by have := hr.lc; omega)
theorem c60 (z x : Sl) (X : Nat) (w : World) (hz : St w z) (hx : Nz w x X) (hl : Len x) : Calls Tryz.prog 60 #[z.v, x.v] w (ResE w z X) := by
 unfold Len at hl
 refine F60.call z.a z.l z.c x.a x.l x.c w _ fun B => (c73 z x.l w hz (by omega)).mono ?_
 rintro e w1 ⟨_, rfl, r, rfl, hl, hr, hf, hc⟩
 have hx1 := hc.nz_none hx
 have hx2 := hx1.toNt.rd
 obtain ⟨w', r1, r2, r3⟩ := copyT 45 Tryz.underlying45 r x x.l (by omega) X w1 (hr.to_wt x.l (by have := hr.lc; omega)) ⟨hx2.at_, hx2.sg, hx2.lt⟩
 refine ⟨_, _, _, rfl, w', ⟨_, r1, fun B2 => ret1 rfl rfl ⟨r, rfl, ⟨⟨r3.st hr, by rw [hl]; exact r2, by rw [hl]; exact hx.lt⟩, hx.nm.of_len hl⟩, hf, ?_⟩⟩⟩
 exact From.chg hf (hc.none _) r3 (Nat.le_refl _) (by have := hr.lc; omega)
end Go.Proofs.YtlkjiiibmfpbcaaGreatDoor
namespace Go.Proofs.YtlkjiiibmfpbcaaGreatDoor
open Go
set_option maxRecDepth 100000
set_option linter.unusedVariables false
namespace F49
noncomputable def body : Code := bodyOf Tryz.f49
def kt : List (Nat × List Nat) := []
variable (A0 : Option Addr) (N0 C0 : Nat) (A1 : Option Addr) (N1 C1 : Nat)
abbrev l0 : List (Nat × Value) := [eS 0 A0 N0 C0,eS 1 A1 N1 C1]
def v0 : VP := fun B ds w K => bc (decide ((C0:Int) > (0:Int))) (bc (decide ((C1:Int) > (0:Int))) (∃ i1 h2 : Nat,0 = (i1:Int) ∧ (C0:Int) = (h2:Int) ∧ i1 ≤ h2 ∧ h2 ≤ C0 ∧ inI64 ((C0:Int) - 1) ∧ nc (shifted A0 i1 C0 1) fun b5 o6 => ∃ k4 : Nat,((C0:Int) - 1) = (k4:Int) ∧ k4 < (h2 - i1) ∧ ∃ i7 h8 : Nat,0 = (i7:Int) ∧ (C1:Int) = (h8:Int) ∧ i7 ≤ h8 ∧ h8 ≤ C1 ∧ inI64 ((C1:Int) - 1) ∧ nc (shifted A1 i7 C1 1) fun b11 o12 => ∃ k10 : Nat,((C1:Int) - 1) = (k10:Int) ∧ k10 < (h8 - i7) ∧ ∃ q13,ptrEq w.drew (some ⟨b5,o6 + k4,none⟩) (some ⟨b11,o12 + k10,none⟩) q13 ∧ Kd K .ret [eB 4 q13] ds w.drew) (Kd K .ret [eB 4 false] ds w.drew)) (Kd K .ret [eB 4 false] ds w.drew)
theorem t0 : VZ 32 body (l0 A0 N0 C0 A1 N1 C1) (v0 A0 C0 A1 C1) := tz kt [4] fun B ds w K => by kernel_rfl
theorem call : VCl 49 [.tmp 4] #[.slice A0 N0 C0, .slice A1 N1 C1] (v0 A0 C0 A1 C1) := cz Tryz.func49 (by kernel_rfl) Tryz.ntmps49 Tryz.results49 (by kernel_rfl) (t0 A0 N0 C0 A1 N1 C1)
end F49
namespace F53
noncomputable def body : Code := bodyOf Tryz.f53
def kt : List (Nat × List Nat) := []
variable (A0 : Option Addr) (N0 C0 : Nat)
abbrev l0 : List (Nat × Value) := [eS 0 A0 N0 C0]
def v0 : VP := fun B ds w K => inI64 ((N0:Int) - 1) ∧ bc (decide (((N0:Int) - 1) ≥ (0:Int))) (nc A0 fun b2 o3 => ∃ k1 : Nat,((N0:Int) - 1) = (k1:Int) ∧ k1 < N0 ∧ ∃ x4,w.cell? ⟨b2,o3 + k1,none⟩ = some (.int .u64 x4) ∧ (0:Int) ≤ 1 ∧ (0:Int) ≤ 2 ∧ (0:Int) ≤ 4 ∧ (0:Int) ≤ 8 ∧ (0:Int) ≤ 16 ∧ (0:Int) ≤ 16 ∧ (0:Int) ≤ 16 ∧ inI64 (((N0:Int) - 1) * 64) ∧ Cl 84 #[(.int .u64 (iOr .u64 (iOr .u64 (iOr .u64 (iOr .u64 (iOr .u64 (iOr .u64 x4 (iShr .u64 x4 1)) (iShr .u64 (iOr .u64 x4 (iShr .u64 x4 1)) 2)) (iShr .u64 (iOr .u64 (iOr .u64 x4 (iShr .u64 x4 1)) (iShr .u64 (iOr .u64 x4 (iShr .u64 x4 1)) 2)) 4)) (iShr .u64 (iOr .u64 (iOr .u64 (iOr .u64 x4 (iShr .u64 x4 1)) (iShr .u64 (iOr .u64 x4 (iShr .u64 x4 1)) 2)) (iShr .u64 (iOr .u64 (iOr .u64 x4 (iShr .u64 x4 1)) (iShr .u64 (iOr .u64 x4 (iShr .u64 x4 1)) 2)) 4)) 8)) (iShr .u64 (iOr .u64 (iOr .u64 (iOr .u64 (iOr .u64 x4 (iShr .u64 x4 1)) (iShr .u64 (iOr .u64 x4 (iShr .u64 x4 1)) 2)) (iShr .u64 (iOr .u64 (iOr .u64 x4 (iShr .u64 x4 1)) (iShr .u64 (iOr .u64 x4 (iShr .u64 x4 1)) 2)) 4)) (iShr .u64 (iOr .u64 (iOr .u64 (iOr .u64 x4 (iShr .u64 x4 1)) (iShr .u64 (iOr .u64 x4 (iShr .u64 x4 1)) 2)) (iShr .u64 (iOr .u64 (iOr .u64 x4 (iShr .u64 x4 1)) (iShr .u64 (iOr .u64 x4 (iShr .u64 x4 1)) 2)) 4)) 8)) 16)) (iShr .u64 (iShr .u64 (iOr .u64 (iOr .u64 (iOr .u64 (iOr .u64 (iOr .u64 x4 (iShr .u64 x4 1)) (iShr .u64 (iOr .u64 x4 (iShr .u64 x4 1)) 2)) (iShr .u64 (iOr .u64 (iOr .u64 x4 (iShr .u64 x4 1)) (iShr .u64 (iOr .u64 x4 (iShr .u64 x4 1)) 2)) 4)) (iShr .u64 (iOr .u64 (iOr .u64 (iOr .u64 x4 (iShr .u64 x4 1)) (iShr .u64 (iOr .u64 x4 (iShr .u64 x4 1)) 2)) (iShr .u64 (iOr .u64 (iOr .u64 x4 (iShr .u64 x4 1)) (iShr .u64 (iOr .u64 x4 (iShr .u64 x4 1)) 2)) 4)) 8)) (iShr .u64 (iOr .u64 (iOr .u64 (iOr .u64 (iOr .u64 x4 (iShr .u64 x4 1)) (iShr .u64 (iOr .u64 x4 (iShr .u64 x4 1)) 2)) (iShr .u64 (iOr .u64 (iOr .u64 x4 (iShr .u64 x4 1)) (iShr .u64 (iOr .u64 x4 (iShr .u64 x4 1)) 2)) 4)) (iShr .u64 (iOr .u64 (iOr .u64 (iOr .u64 x4 (iShr .u64 x4 1)) (iShr .u64 (iOr .u64 x4 (iShr .u64 x4 1)) 2)) (iShr .u64 (iOr .u64 (iOr .u64 x4 (iShr .u64 x4 1)) (iShr .u64 (iOr .u64 x4 (iShr .u64 x4 1)) 2)) 4)) 8)) 16)) 16) 16)))] w fun r5 w6 => ∃ x7,r5 = .returned (.int .i64 x7) ∧ inI64 ((((N0:Int) - 1) * 64) + x7) ∧ Kd K .ret [eI 2 ((((N0:Int) - 1) * 64) + x7)] ds w6) (Kd K .ret [eI 2 0] ds w)
theorem t0 : VZ 44 body (l0 A0 N0 C0) (v0 A0 N0) := tz kt [2] fun B ds w K => by kernel_rfl
theorem call : VCl 53 [.tmp 2] #[.slice A0 N0 C0] (v0 A0 N0) := cz Tryz.func53 (by kernel_rfl) Tryz.ntmps53 Tryz.results53 (by kernel_rfl) (t0 A0 N0 C0)
end F53
end Go.Proofs.YtlkjiiibmfpbcaaGreatDoor
namespace Go.Proofs.YtlkjiiibmfpbcaaGreatDoor
open Go
theorem Nt.blk {w : World} {s : Sl} {v : Nat} (h : Nt w s v) (hl : s.l ≠ 0) : s.b < w.heap.size := h.toSt.blk (by have := h.lc; omega)
theorem Nt.pl' {w : World} {s : Sl} {v : Nat} (h : Nt w s v) (hl : s.l ≠ 0) : plainAt w s.b := (h.pl (by have := h.lc; omega)).2
theorem Sep.ov {w : World} {z r x : Sl} {X : Nat} (hs : Sep z x) (hf : From w z r) (hx : Nt w x X) {n h : Nat} (hr : h ≤ r.c) (hxl : h ≤ x.l) : Ov (r.sub n h) (x.sub n h) := by
 unfold Ov
 show h - n = 0 ∨ x.b ≠ r.b ∨ r.o + n ≤ x.o + n ∨ x.o + n + (h - n) ≤ r.o + n
 by_cases hh : h ≤ n
 ·exact .inl (by omega)
 ·have := hx.blk (by omega)
  rcases hf with ⟨_, e2, e3, e4⟩ | hf
  ·unfold Sep at hs; omega
  ·omega
theorem Sep.ovTo {w : World} {z r x : Sl} {X : Nat} (hs : Sep z x) (hf : From w z r) (hx : Nt w x X) {h : Nat} (hr : h ≤ r.c) (hxl : h ≤ x.l) : Ov (r.to h) (x.to h) := by
 unfold Ov
 show h = 0 ∨ x.b ≠ r.b ∨ r.o ≤ x.o ∨ x.o + h ≤ r.o
 by_cases hh : h = 0
 ·exact .inl hh
 ·have := hx.blk (by omega)
  rcases hf with ⟨_, e2, e3, e4⟩ | hf
  ·unfold Sep at hs; omega
  ·omega
theorem Sep.behind {w : World} {z r x : Sl} {X : Nat} (hs : Sep z x) (hf : From w z r) (hx : Nt w x X) {n i : Nat} (hr : n ≤ r.c) (hi : n ≤ i) (hl : i < x.l) : ¬ inR r.b r.o (r.o + n) x.b (x.o + i) := by
 rintro ⟨h1, h2, h3⟩
 have := hx.blk (by omega)
 rcases hf with ⟨_, e2, e3, e4⟩ | hf
 ·unfold Sep at hs; omega
 ·omega
def sgn (X Y : Nat) : Int := if X < Y then -1 else if X = Y then 0 else 1
theorem div_split (X k : Nat) : X / BB ^ k = dg X k + BB * (X / BB ^ (k + 1)) := by
 rw [BBpow_succ, ← Nat.div_div_eq_div_mul]; exact (Nat.mod_add_div _ _).symm
theorem lt_of_div {X Y k : Nat} (h : X / BB ^ k < Y / BB ^ k) : X < Y := by
 rcases Nat.lt_or_ge X Y with h1 | h1
 ·exact h1
 ·have := Nat.div_le_div_right (c := BB ^ k) h1; omega
theorem c92g (x y : Sl) (X Y : Nat) (w : World) (hx : Nt w x X) (hy : Nt w y Y) (hn : x.l = y.l ∨ (Nz w x X ∧ Nz w y Y)) :
  Calls Tryz.prog 92 #[x.v, y.v] w fun e w' => ∃ v, e = .returned v ∧ v = .int .i64 (sgn X Y) ∧ Chg w w' none2 := by
 have lx := hx.lc
 have lxm := hx.cm
 refine F92.call x.a x.l x.c y.a y.l y.c w _ fun B => bc_intro (fun hb => ?_) (fun hb => ?_)
 ·have hne : x.l ≠ y.l := by have := neN hb; omega
  obtain ⟨nx, ny⟩ := hn.resolve_left hne
  refine bc_intro (fun hb => ?_) (fun hb => bc_intro (fun hb' => ?_) (fun hb' => ?_))
  ·have hlt : x.l < y.l := by have := dT hb; omega
   refine fun B1 => F92.t2 _ ⟨rfl, trivial⟩ fun B2 B3 => ret1 rfl (intv ?_) ⟨rfl, Chg.refl _ _⟩
   have h1 := ny.nm.le (by omega)
   have h2 := lt_pow_of_le hx.lt (show x.l ≤ y.l - 1 by omega)
   rw [sgn, if_pos (by omega)]
  ·have hlt : y.l < x.l := by have := dT hb'; omega
   refine fun B1 => F92.t2 _ ⟨rfl, trivial⟩ fun B2 B3 => ret1 rfl (intv ?_) ⟨rfl, Chg.refl _ _⟩
   have h1 := nx.nm.le (by omega)
   have h2 := lt_pow_of_le hy.lt (show y.l ≤ x.l - 1 by omega)
   rw [sgn, if_neg (by omega), if_neg (by omega)]
  ·have := dF hb; have := dF hb'; omega
 ·have he : x.l = y.l := by have := neE hb; omega
  refine bc_intro (fun hb => ?_) (fun hb B1 => ?_)
  ·have h0 : x.l = 0 := by have := eqE hb; omega
   refine bc_false (decF (by omega)) (bc_false (decF (by omega)) fun B1 => F92.t2 _ ⟨rfl, trivial⟩ fun B2 B3 => ret1 rfl (intv ?_) ⟨rfl, Chg.refl _ _⟩)
   have := Nz.zero hx h0
   have := Nz.zero hy (by omega)
   rw [sgn, if_neg (by omega), if_pos (by omega)]
  ·have h0 : x.l ≠ 0 := by have := eqN hb; omega
   refine F92.t1 x.a x.l x.c y.a y.l y.c 0 x.l ⟨rfl, rfl, rfl, rfl, trivial⟩ fun B2 => ⟨by unfold inI64; omega, fun B3 => ?_⟩
   rw [F92.q5]
   refine W_for (σ := Nat) (fun i => [(0, x.v), (1, y.v), (4, .int .i64 0), (7, .int .i64 (i : Int))])
    (fun i wr => i < x.l ∧ X / BB ^ (i + 1) = Y / BB ^ (i + 1) ∧ Chg w wr none2) (fun i => i) (x.l - 1) ⟨rfl, rfl, rfl, intv (by omega), trivial⟩
    ⟨by omega, ?_, Chg.refl _ _⟩ ?_
   ·rw [Nat.sub_add_cancel (by omega), Nat.div_eq_of_lt hx.lt, he, Nat.div_eq_of_lt hy.lt]
   rintro i B wr ⟨hi, hq, hch⟩
   have hxr := hch.nt_none hx
   have hyr := hch.nt_none hy
   have dx := dg_lt' X i
   have dy := dg_lt' Y i
   have sx := div_split X i
   rw [hq] at sx
   have sy := div_split Y i
   have endK : ∀ (B4 : Nat → Value) (ds : List Deferred) (w1 : World), ds = [] → Chg w w1 none2 → (dg X i = dg Y i → i = 0) →
     W Tryz.prog 64 F92.p3 (E [(0, (.slice x.a x.l x.c)), (1, (.slice y.a y.l y.c)), (4, (.int .i64 0)), (7, (.int .i64 i))] B4 ds) w1 (retK Tryz.prog [.tmp 4] fun v w' => v = .int .i64 (sgn X Y) ∧ Chg w w' none2) := by
    intro B4 ds w1 hds hch1 hne
    subst hds
    have hxr := hch1.nt_none hx
    have hyr := hch1.nt_none hy
    refine F92.t3 x.a x.l x.c y.a y.l y.c 0 i ⟨rfl, rfl, rfl, rfl, trivial⟩ fun B5 => ?_
    refine rdC (k := i) (hx.at_ (by omega)) rfl hi (hxr.sg i hi) (rdC (k := i) (hy.at_ (by have := hy.lc; omega)) rfl (by omega) (hyr.sg i (by omega)) (bc_intro (fun hb B6 => ?_) (fun hb => ?_)))
    ·have hlt : dg X i < dg Y i := by have := dT hb; omega
     refine F92.t6 _ ⟨rfl, trivial⟩ fun B7 B8 => ret1 rfl (intv ?_) ⟨rfl, hch1.drew⟩
     have : X < Y := lt_of_div (k := i) (by omega)
     rw [sgn, if_pos this]
    ·have hge := dF hb
     refine rdC (k := i) (hx.at_ (by omega)) rfl hi (hxr.sg i hi) (rdC (k := i) (hy.at_ (by have := hy.lc; omega)) rfl (by omega) (hyr.sg i (by omega)) (bc_intro (fun hb' B6 => ?_) (fun hb' B6 => ?_)))
     ·have hlt : dg Y i < dg X i := by have := dT hb'; omega
      refine F92.t6 _ ⟨rfl, trivial⟩ fun B7 B8 => ret1 rfl (intv ?_) ⟨rfl, hch1.drew.drew⟩
      have : Y < X := lt_of_div (k := i) (by omega)
      rw [sgn, if_neg (by omega), if_neg (by omega)]
     ·have heq : dg X i = dg Y i := by have := dF hb'; omega
      refine F92.t6 _ ⟨rfl, trivial⟩ fun B7 B8 => ret1 rfl (intv ?_) ⟨rfl, hch1.drew.drew⟩
      have h00 := hne heq
      subst h00
      rw [Nat.pow_zero, Nat.div_one] at sx sy
      have : X = Y := by omega
      rw [sgn, if_neg (by omega), if_pos this]
   refine F92.t4 x.a x.l x.c y.a y.l y.c 0 i ⟨rfl, rfl, rfl, rfl, trivial⟩ fun B4 => bc_intro (fun hb => ?_) (fun hb B5 => ?_)
   ·refine rdC (k := i) (hx.at_ (by omega)) rfl hi (hxr.sg i hi) (rdC (k := i) (hy.at_ (by have := hy.lc; omega)) rfl (by omega) (hyr.sg i (by omega)) (bc_intro (fun hd => ?_) (fun hd B5 => ?_)))
    ·have hde : dg X i = dg Y i := by have := eqE hd; omega
     obtain ⟨j, rfl⟩ : ∃ j, i = j + 1 := ⟨i - 1, by have := dT hb; omega⟩
     refine ⟨by unfold inI64; omega, fun B5 => ⟨j, ⟨rfl, rfl, rfl, intv (by omega), trivial⟩, rfl, ⟨by omega, ?_, hch.drew⟩, by show j < j + 1; omega⟩⟩
     rw [sx, sy, hde]
    ·exact endK B5 _ _ rfl hch.drew fun h => absurd h (by have := eqN hd; omega)
   ·exact endK B5 _ _ rfl hch.drew fun h => by have := dF hb; omega
theorem Res.of {w w' : World} {z r : Sl} {V : Nat} (h : Nz w' r V) (hf : From w z r) (hc : Chg w w' (fp z)) : Res w z V r.v w' := ⟨r, rfl, h, hf, hc⟩
theorem ResE.pass {f : FuncId} {args : Array Value} {w : World} {z : Sl} {V : Nat} {Q : Ending → World → Prop} (h : Calls Tryz.prog f args w (ResE w z V)) (q : ∀ r w', Nz w' r V → From w z r → Chg w w' (fp z) → Q (.returned r.v) w') :
  Calls Tryz.prog f args w Q := h.mono fun e w' ⟨v, h1, r, h2, h3, h4, h5⟩ => by subst h1; subst h2; exact q r w' h3 h4 h5
theorem normR {w w1 : World} {z r : Sl} {V : Nat} {Q : Ending → World → Prop} (hr : Nt w1 r V) (hf : From w z r) (hc : Chg w w1 (fp z)) (q : ∀ k, Res w z V (r.to k).v w1 → Q (.returned (r.to k).v) w1) :
  Calls Tryz.prog 46 #[r.v] w1 Q := (c46 r V w1 hr (by have := hr.lc; have := hr.cm; omega)).mono fun e w' ⟨v, h1, k, h2, h3, h4, h5⟩ => by
   subst h1; subst h3; subst h4; exact q k (Res.of h5 (hf.to k) hc)
theorem c92 (x y : Sl) (X Y : Nat) (w : World) (hx : Nz w x X) (hy : Nz w y Y) :
  Calls Tryz.prog 92 #[x.v, y.v] w fun e w' => ∃ v, e = .returned v ∧ v = .int .i64 (sgn X Y) ∧ Chg w w' none2 := c92g x y X Y w hx.toNt hy.toNt (.inr ⟨hx, hy⟩)
theorem c101s (z x y : Sl) (X Y : Nat) (w : World) (hz : St w z) (hx : Nz w x X) (hy : Nz w y Y) (sx : Sep z x) (sy : Sep z y) (hl : Len x) (hyl : y.l ≤ x.l) :
  Calls Tryz.prog 101 #[z.v, x.v, y.v] w (ResE w z (X + Y)) := by
 have hl' := hl
 unfold Len at hl'
 refine F101.call z.a z.l z.c x.a x.l x.c y.a y.l y.c w _ fun B => bc_false (decF (by omega)) (bc_intro (fun hb => ?_) (fun hb => bc_intro (fun hb' => ?_) (fun hb' => ?_)))
 ·have h0 : x.l = 0 := by have := eqE hb; omega
  have e1 := Nz.zero hx.toNt h0
  have e2 := Nz.zero hy.toNt (by omega)
  subst e1; subst e2
  exact ⟨0, rfl, Nat.zero_le _, fun B2 => ret1 rfl rfl (Res.of (nz_zero hz) (From.self w z 0) (Chg.refl _ _))⟩
 ·have e2 := Nz.zero hy.toNt (by have := eqE hb'; omega)
  subst e2
  exact ResE.pass (c60 z x X w hz hx hl) fun r w' h1 h2 h3 => ⟨_, _, _, rfl, fun B2 => ret1 rfl rfl (Res.of h1 h2 h3)⟩
 ·have hy0 : y.l ≠ 0 := by have := eqN hb'; omega
  refine ⟨by unfold inI64; omega, (c73 z (x.l + 1) w hz (by omega)).mono ?_⟩
  rintro e w1 ⟨_, rfl, r, rfl, hrl, hr, hf, hc⟩
  have hrc := hr.lc
  have hx1 := hc.nz_none hx
  have hy1 := hc.nz_none hy
  have hxc := hx.lc
  have hyc := hy.lc
  refine ⟨_, _, _, rfl, y.l, rfl, by omega, y.l, rfl, by omega, y.l, rfl, by omega, ?_⟩
  have cd : Chg w1 w1.drew none2 := Chg.drew0 w1 _
  have hrd := cd.st hr
  have hxd := cd.nz_none hx1
  have hyd := cd.nz_none hy1
  have yl := hyd.toNt.rd
  refine Vec.pass (c138 (r.to y.l) (x.to y.l) y (X % BB ^ y.l) Y w1.drew (hrd.to_wt _ (by omega)) (hxd.toNt.lo _ hyl) yl rfl rfl (sx.ovTo hf hx.toNt (by omega) hyl) (sy.ovTo hf hy.toNt (by omega) (Nat.le_refl _))) ?_
  rintro c Z w2 ⟨t1, t2⟩ hZ hsg hch
  refine ⟨_, rfl, ?_⟩
  have hZ : Z < BB ^ y.l := hZ
  have hch : Chg w1.drew w2 (inR r.b r.o (r.o + y.l)) := hch
  have hsg : Sg w2 r.b r.o y.l Z := hsg
  have t1 : Z + BB ^ y.l * c = X % BB ^ y.l + Y := t1
  have hr2 := hch.st hrd
  have fin : ∀ (w3 : World) (Z2 c2 : Nat) (B4 : Nat → Value) (ds : List Deferred), ds = [] → c2 ≤ 1 → Z2 < BB ^ x.l → Sg w3 r.b r.o x.l Z2 → Chg w w3 (fp z) → St w3 r → Z2 + BB ^ x.l * c2 = X + Y →
    W Tryz.prog 65 F101.p1 (E [(0, (.slice r.a r.l r.c)), (7, (.int .i64 x.l)), (9, (.int .u64 c2))] B4 ds) w3 (retK Tryz.prog [.tmp 6] (Res w z (X + Y))) := by
   intro w3 Z2 c2 B4 ds hds hc2 hZ2 hs3 hc3 hr3 ht
   subst hds
   refine F101.t1 r.a r.l r.c x.l c2 ⟨rfl, rfl, rfl, trivial⟩ fun B5 => wtC (k := x.l) hr3.wt rfl (by omega) ?_
   have hp := hr3.pl (by omega)
   have hs4 := hs3.step hZ2 (d := c2) (w2 := w3) (by rw [BB_eq]; omega) rfl hp (hr3.wr x.l (by omega)).1
   have hc4 : Chg w3 (w3.setCell ⟨r.b, r.o + x.l, none⟩ (.int .u64 (c2 : Int))) (inR r.b (r.o + x.l) (r.o + x.l + 1)) := Chg.setCell hp _ ⟨rfl, by omega, by omega⟩
   rw [ht] at hs4
   have hlt : X + Y < BB ^ r.l := by rw [hrl, ← ht]; exact dlt hZ2 (by omega)
   refine normR (w := w) (z := z) (r := r) (V := X + Y) { hc4.st hr3 with sg := by rw [hrl]; exact hs4, lt := hlt } hf (hf.chg hc3 hc4 (by omega) (by omega)) fun k hres => ⟨_, _, _, rfl, fun B6 => ret1 rfl rfl hres⟩
  have hw2 : Chg w w2 (fp z) := hf.chg ((hc.trans' cd).none _) hch (Nat.le_refl _) (by omega)
  refine bc_intro (fun hb => ?_) (fun hb B4 => ?_)
  ·have hlt : y.l < x.l := by have := dT hb; omega
   refine ⟨y.l, x.l, rfl, rfl, by omega, by omega, y.l, rfl, by omega, ?_⟩
   have cd2 : Chg w2 w2.drew none2 := Chg.drew0 w2 _
   have hx2 : Rd w2.drew (x.sub y.l x.l) (X / BB ^ y.l) := (hch.drew).rd (hxd.toNt.hi y.l hyl) fun i hi => by
    have hi' : i < x.l - y.l := hi
    have := sx.behind hf hx.toNt (n := y.l) (i := y.l + i) (by omega) (by omega) (by omega)
    rw [← Nat.add_assoc] at this; exact this
   refine Vec.pass (c139 (r.sub y.l x.l) (x.sub y.l x.l) (X / BB ^ y.l) c w2.drew ((cd2.st hr2).sub_wt _ _ (by omega) (by omega)) hx2 rfl (sx.ov hf hx.toNt (by omega) (Nat.le_refl _)) (by show x.l - y.l ≤ r.c - y.l; omega) (by show x.l - y.l ≤ x.c - y.l; omega)
    (fun _ => hch.drew.plain (hxd.toNt.pl' (by omega))) (by omega)) ?_
   rintro c2 Z2 w3 ⟨t3, t4⟩ hZ2 hsg2 hch2
   have hZ2 : Z2 < BB ^ (x.l - y.l) := hZ2
   have hsg2 : Sg w3 r.b (r.o + y.l) (x.l - y.l) Z2 := hsg2
   have t3 : Z2 + BB ^ (x.l - y.l) * c2 = X / BB ^ y.l + c := t3
   have hch2 : Chg w2.drew w3 (inR r.b (r.o + y.l) (r.o + y.l + (x.l - y.l))) := hch2
   refine ⟨_, rfl, fun B4 => fin w3 (Z + BB ^ y.l * Z2) c2 B4 _ rfl (t4 (by show x.l - y.l ≠ 0; omega)) ?_ ?_ ?_ ((cd2.none _).trans' hch2 |>.st hr2) ?_⟩
   ·have e : BB ^ x.l = BB ^ y.l * BB ^ (x.l - y.l) := by rw [← Nat.pow_add, Nat.add_sub_cancel' hyl]
    have : BB ^ y.l * Z2 + BB ^ y.l ≤ BB ^ y.l * BB ^ (x.l - y.l) := by rw [← Nat.mul_succ]; exact Nat.mul_le_mul_left _ hZ2
    omega
   ·have := Sg.join (((cd2.none _).trans' hch2).sg hsg fun i hi hm => by have := hm.2.1; omega) hsg2 hZ
    rw [Nat.add_sub_cancel' hyl] at this; exact this
   ·exact hf.chg (hw2.trans' (cd2.none _)) hch2 (by omega) (by omega)
   ·have e : BB ^ x.l = BB ^ y.l * BB ^ (x.l - y.l) := by rw [← Nat.pow_add, Nat.add_sub_cancel' hyl]
    have h7 : BB ^ y.l * (Z2 + BB ^ (x.l - y.l) * c2) = BB ^ y.l * (X / BB ^ y.l + c) := congrArg _ t3
    rw [Nat.mul_add, Nat.mul_add, ← Nat.mul_assoc, ← e] at h7
    have h8 := Nat.mod_add_div X (BB ^ y.l)
    omega
  ·have heq : x.l = y.l := by have := dF hb; omega
   refine fin w2 Z c B4 _ rfl t2 (by rw [heq]; exact hZ) (by rw [heq]; exact hsg) hw2 hr2 ?_
   rw [heq, t1, Nat.mod_eq_of_lt (by rw [← heq]; exact hx.lt)]
theorem c101 (z x y : Sl) (X Y : Nat) (w : World) (hz : St w z) (hx : Nz w x X) (hy : Nz w y Y) (sx : Sep z x) (sy : Sep z y) (hl : Len x) (hl2 : Len y) :
  Calls Tryz.prog 101 #[z.v, x.v, y.v] w (ResE w z (X + Y)) := by
 by_cases h : y.l ≤ x.l
 ·exact c101s z x y X Y w hz hx hy sx sy hl h
 ·refine F101.call z.a z.l z.c x.a x.l x.c y.a y.l y.c w _ fun B => bc_true (decT (by omega)) ?_
  have := c101s z y x Y X w hz hy hx sy sx hl2 (by omega)
  rw [Nat.add_comm] at this
  exact ResE.pass this fun r w' h1 h2 h3 => ⟨_, _, _, rfl, fun B2 => ret1 rfl rfl (Res.of h1 h2 h3)⟩
theorem c52 (z x y : Sl) (X Y : Nat) (w : World) (hz : St w z) (hx : Nz w x X) (hy : Nz w y Y) (sx : Sep z x) (sy : Sep z y) (hl : Len x) (hle : Y ≤ X) :
  Calls Tryz.prog 52 #[z.v, x.v, y.v] w (ResE w z (X - Y)) := by
 have hl' := hl
 unfold Len at hl'
 have hyl : y.l ≤ x.l := hy.nm _ (Nat.lt_of_le_of_lt hle hx.lt)
 refine F52.call z.a z.l z.c x.a x.l x.c y.a y.l y.c w _ fun B => bc_false (decF (by omega)) (bc_intro (fun hb => ?_) (fun hb => bc_intro (fun hb' => ?_) (fun hb' B0 => ?_)))
 ·have h0 : x.l = 0 := by have := eqE hb; omega
  have e1 := Nz.zero hx.toNt h0
  have e2 := Nz.zero hy.toNt (by omega)
  subst e1; subst e2
  exact ⟨0, rfl, Nat.zero_le _, fun B2 => ret1 rfl rfl (Res.of (nz_zero hz) (From.self w z 0) (Chg.refl _ _))⟩
 ·have e2 := Nz.zero hy.toNt (by have := eqE hb'; omega)
  subst e2
  exact ResE.pass (c60 z x X w hz hx hl) fun r w' h1 h2 h3 => ⟨_, _, _, rfl, fun B2 => ret1 rfl rfl (Res.of h1 h2 h3)⟩
 ·have hy0 : y.l ≠ 0 := by have := eqN hb'; omega
  refine F52.t1 z.a z.l z.c x.a x.l x.c y.a y.l y.c x.l y.l ⟨rfl, rfl, rfl, rfl, rfl, trivial⟩ fun B1 => (c73 z x.l w hz (by omega)).mono ?_
  rintro e w1 ⟨_, rfl, r, rfl, hrl, hr, hf, hc⟩
  have hrc := hr.lc
  have hx1 := hc.nz_none hx
  have hy1 := hc.nz_none hy
  have hxc := hx.lc
  have hyc := hy.lc
  refine ⟨_, _, _, rfl, y.l, rfl, by omega, y.l, rfl, by omega, y.l, rfl, by omega, ?_⟩
  have cd : Chg w1 w1.drew none2 := Chg.drew0 w1 _
  have hrd := cd.st hr
  have hxd := cd.nz_none hx1
  have hyd := cd.nz_none hy1
  have yl := hyd.toNt.rd
  refine Vec.pass (c82 (r.to y.l) (x.to y.l) y (X % BB ^ y.l) Y w1.drew (hrd.to_wt _ (by omega)) (hxd.toNt.lo _ hyl) yl rfl rfl (sx.ovTo hf hx.toNt (by omega) hyl) (sy.ovTo hf hy.toNt (by omega) (Nat.le_refl _))) ?_
  rintro c Z w2 ⟨t1, t2⟩ hZ hsg hch
  refine ⟨_, rfl, ?_⟩
  have hZ : Z < BB ^ y.l := hZ
  have hch : Chg w1.drew w2 (inR r.b r.o (r.o + y.l)) := hch
  have hsg : Sg w2 r.b r.o y.l Z := hsg
  have t1 : Z + Y = X % BB ^ y.l + BB ^ y.l * c := t1
  have hr2 := hch.st hrd
  have fin : ∀ (w3 : World) (Z2 c2 : Nat) (B4 : Nat → Value) (ds : List Deferred), ds = [] → Z2 < BB ^ x.l → Sg w3 r.b r.o x.l Z2 → Chg w w3 (fp z) → St w3 r → Z2 + Y = X + BB ^ x.l * c2 →
    W Tryz.prog 59 F52.p2 (E [(0, (.slice r.a r.l r.c)), (9, (.int .u64 c2))] B4 ds) w3 (retK Tryz.prog [.tmp 6] (Res w z (X - Y))) := by
   intro w3 Z2 c2 B4 ds hds hZ2 hs3 hc3 hr3 ht
   subst hds
   have hc0 : c2 = 0 := by
    rcases Nat.eq_zero_or_pos c2 with h | h
    ·exact h
    ·have : BB ^ x.l * 1 ≤ BB ^ x.l * c2 := Nat.mul_le_mul_left _ h
     omega
   subst hc0
   have hV : Z2 = X - Y := by omega
   subst hV
   refine F52.t2 r.a r.l r.c (0 : Nat) ⟨rfl, rfl, trivial⟩ fun B5 => bc_false (neF rfl) fun B6 => F52.t3 r.a r.l r.c ⟨rfl, trivial⟩ fun B7 => ?_
   exact normR (w := w) (z := z) (r := r) (V := X - Y) { hr3 with sg := by rw [hrl]; exact hs3, lt := by rw [hrl]; exact hZ2 } hf hc3 fun k hres => ⟨_, _, _, rfl, fun B6 => ret1 rfl rfl hres⟩
  have hw2 : Chg w w2 (fp z) := hf.chg ((hc.trans' cd).none _) hch (Nat.le_refl _) (by omega)
  refine bc_intro (fun hb => ?_) (fun hb B4 => ?_)
  ·have hlt : y.l < x.l := by have := dT hb; omega
   refine ⟨y.l, rfl, by omega, y.l, rfl, by omega, ?_⟩
   have cd2 : Chg w2 w2.drew none2 := Chg.drew0 w2 _
   have hx2 : Rd w2.drew (x.sub y.l x.l) (X / BB ^ y.l) := (hch.drew).rd (hxd.toNt.hi y.l hyl) fun i hi => by
    have hi' : i < x.l - y.l := hi
    have := sx.behind hf hx.toNt (n := y.l) (i := y.l + i) (by omega) (by omega) (by omega)
    rw [← Nat.add_assoc] at this; exact this
   have := c83 (r.sub y.l x.l) (x.sub y.l x.l) (X / BB ^ y.l) c w2.drew ((cd2.st hr2).sub_wt _ _ (by omega) (by omega)) hx2 rfl (sx.ov hf hx.toNt (by omega) (Nat.le_refl _)) (by show x.l - y.l ≤ r.c - y.l; omega) (by show x.l - y.l ≤ x.c - y.l; omega)
    (fun _ => hch.drew.plain (hxd.toNt.pl' (by omega))) (by omega)
   rw [show r.sub y.l x.l = r.sub y.l r.l by rw [hrl]] at this
   refine Vec.pass this ?_
   rintro c2 Z2 w3 ⟨t3, t4⟩ hZ2 hsg2 hch2
   rw [hrl] at hZ2 hsg2 t3 hch2
   have hZ2 : Z2 < BB ^ (x.l - y.l) := hZ2
   have hsg2 : Sg w3 r.b (r.o + y.l) (x.l - y.l) Z2 := hsg2
   have t3 : Z2 + c = X / BB ^ y.l + BB ^ (x.l - y.l) * c2 := t3
   have hch2 : Chg w2.drew w3 (inR r.b (r.o + y.l) (r.o + y.l + (x.l - y.l))) := hch2
   refine ⟨_, rfl, fun B4 => fin w3 (Z + BB ^ y.l * Z2) c2 B4 _ rfl ?_ ?_ ?_ ((cd2.none _).trans' hch2 |>.st hr2) ?_⟩
   ·have e : BB ^ x.l = BB ^ y.l * BB ^ (x.l - y.l) := by rw [← Nat.pow_add, Nat.add_sub_cancel' hyl]
    have : BB ^ y.l * Z2 + BB ^ y.l ≤ BB ^ y.l * BB ^ (x.l - y.l) := by rw [← Nat.mul_succ]; exact Nat.mul_le_mul_left _ hZ2
    omega
   ·have := Sg.join (((cd2.none _).trans' hch2).sg hsg fun i hi hm => by have := hm.2.1; omega) hsg2 hZ
    rw [Nat.add_sub_cancel' hyl] at this; exact this
   ·exact hf.chg (hw2.trans' (cd2.none _)) hch2 (by omega) (by omega)
   ·have e : BB ^ x.l = BB ^ y.l * BB ^ (x.l - y.l) := by rw [← Nat.pow_add, Nat.add_sub_cancel' hyl]
    have h7 : BB ^ y.l * (Z2 + c) = BB ^ y.l * (X / BB ^ y.l + BB ^ (x.l - y.l) * c2) := congrArg _ t3
    rw [Nat.mul_add, Nat.mul_add, ← Nat.mul_assoc, ← e] at h7
    have h8 := Nat.mod_add_div X (BB ^ y.l)
    omega
  ·have heq : x.l = y.l := by have := dF hb; omega
   refine fin w2 Z c B4 _ rfl (by rw [heq]; exact hZ) (by rw [heq]; exact hsg) hw2 hr2 ?_
   rw [heq, t1, Nat.mod_eq_of_lt (by rw [← heq]; exact hx.lt)]
end Go.Proofs.YtlkjiiibmfpbcaaGreatDoor
namespace Go.Proofs.YtlkjiiibmfpbcaaGreatDoor
open Go
def tab64 : List Nat := [0, 1, 56, 2, 57, 49, 28, 3, 61, 58, 42, 50, 38, 29, 17, 4, 62, 47, 59, 36, 45, 43, 51, 22, 53, 39, 33, 30, 24, 18, 12, 5, 63, 55, 48, 27, 60, 41, 37, 16, 46, 35, 44, 21, 52, 32, 23, 11, 54, 26, 40, 15, 34, 20, 31, 10, 25, 14, 19, 9, 13, 8, 7, 6]
def Tabs (w : World) : Prop := ∀ k, k < 64 → w.cell? ⟨7, k, none⟩ = some (.int .u8 (tab64.getD k 0 : Nat))
theorem Chg.tabs {w w' : World} {S : Set2} (h : Chg w w' S) (ht : Tabs w) : Tabs w' := fun k hk => by
 have h1 := ht k hk
 have hb := lt_of_cell h1
 rw [cell_eq, h.glob 7 (by decide) hb, ← cell_eq]; exact h1
theorem odd_split : ∀ x : Nat, x ≠ 0 → ∃ t q, x = 2 ^ t * (2 * q + 1) := by
 intro x
 induction x using Nat.strongRecOn with
 | _ x ih =>
  intro h
  by_cases h2 : x % 2 = 0
  ·obtain ⟨t, q, e⟩ := ih (x / 2) (by omega) (by omega)
   refine ⟨t + 1, q, ?_⟩
   rw [Nat.pow_succ, Nat.mul_comm (2 ^ t) 2, Nat.mul_assoc, ← e]; omega
  ·exact ⟨0, x / 2, by rw [Nat.pow_zero]; omega⟩
theorem and_self_neg (n q : Nat) (hq : q < 2 ^ n) : q &&& (2 ^ n - (q + 1)) = 0 := by
 refine Nat.eq_of_testBit_eq fun i => ?_
 rw [Nat.testBit_and, Nat.testBit_two_pow_sub_succ hq, Nat.zero_testBit]
 cases q.testBit i <;> simp
theorem and_odd (a b : Nat) : (2 * a + 1) &&& (2 * b + 1) = 2 * (a &&& b) + 1 := by
 refine Nat.eq_of_testBit_eq fun i => ?_
 cases i with
 | zero => simp [Nat.testBit_zero]
 | succ i => rw [Nat.testBit_and, Nat.testBit_succ, Nat.testBit_succ, Nat.testBit_succ, show (2 * a + 1) / 2 = a by omega, show (2 * b + 1) / 2 = b by omega, show (2 * (a &&& b) + 1) / 2 = a &&& b by omega, Nat.testBit_and]
theorem and_low (t q : Nat) (h : 2 ^ t * (2 * q + 1) < 2 ^ 64) : (2 ^ t * (2 * q + 1)) &&& (2 ^ 64 - 2 ^ t * (2 * q + 1)) = 2 ^ t := by
 have ht : t < 64 := by
  rcases Nat.lt_or_ge t 64 with h1 | h1
  ·exact h1
  ·have := Nat.pow_le_pow_right (show 0 < 2 by omega) h1
   have : 2 ^ t * 1 ≤ 2 ^ t * (2 * q + 1) := Nat.mul_le_mul_left _ (by omega)
   omega
 obtain ⟨n, hn⟩ : ∃ n, 64 = t + 1 + n := ⟨63 - t, by omega⟩
 have e64 : 2 ^ 64 = 2 ^ t * (2 * 2 ^ n) := by rw [show 2 * 2 ^ n = 2 ^ (n + 1) by rw [Nat.pow_succ, Nat.mul_comm], ← Nat.pow_add]; congr 1; omega
 have hq : 2 * q + 1 < 2 * 2 ^ n := by rw [e64] at h; exact Nat.lt_of_mul_lt_mul_left h
 rw [e64, ← Nat.mul_sub, show 2 * 2 ^ n - (2 * q + 1) = 2 * (2 ^ n - (q + 1)) + 1 by omega]
 have : ∀ a b, (2 ^ t * a) &&& (2 ^ t * b) = 2 ^ t * (a &&& b) := fun a b => by
  have := Nat.shiftLeft_and_distrib (a := a) (b := b) (i := t)
  rw [Nat.shiftLeft_eq, Nat.shiftLeft_eq, Nat.shiftLeft_eq] at this
  rw [Nat.mul_comm, Nat.mul_comm _ b, Nat.mul_comm _ (a &&& b)]; exact this.symm
 rw [this, and_odd, and_self_neg n q (by omega)]; simp
theorem tab_all : ∀ t, t < 64 → (2 ^ t * 285870213051353865 % 18446744073709551616) / 2 ^ 58 < 64 ∧ tab64.getD ((2 ^ t * 285870213051353865 % 18446744073709551616) / 2 ^ 58) 0 = t := by decide +kernel
theorem c88 (x : Nat) (w : World) (hx : x < 18446744073709551616) (ht : Tabs w) (t q : Nat) (h : x = 2 ^ t * (2 * q + 1)) : Calls Tryz.prog 88 #[.int .u64 (x : Int)] w fun e w' => e = .returned (.int .i64 (t : Int)) ∧ w' = w := by
 have ht64 : t < 64 := by
  rcases Nat.lt_or_ge t 64 with h1 | h1
  ·exact h1
  ·have := Nat.pow_le_pow_right (show 0 < 2 by omega) h1
   have : 2 ^ t * 1 ≤ 2 ^ t * (2 * q + 1) := Nat.mul_le_mul_left _ (by omega)
   omega
 have hx0 : x ≠ 0 := by have := Nat.two_pow_pos t; have : 2 ^ t * 1 ≤ 2 ^ t * (2 * q + 1) := Nat.mul_le_mul_left _ (by omega); omega
 have e1 : iAnd .u64 (x : Int) (IntKind.wrap .u64 (0 - x)) = ((2 ^ t : Nat) : Int) := by
  rw [wrapE, show (0 - (x : Int)) % 18446744073709551616 = ((18446744073709551616 - x : Nat) : Int) by omega, iAndN _ _ hx (by omega)]
  have := and_low t q (by rw [← h]; exact hx)
  rw [← h] at this
  rw [show 18446744073709551616 - x = 2 ^ 64 - x from rfl, this]
 refine told (F88.call x w _ fun B => bc_false (eqF (by omega)) ⟨by omega, (2 ^ t * 285870213051353865 % 18446744073709551616) / 2 ^ 58, ?_, (tab_all t ht64).1, _, by rw [Nat.zero_add]; exact ht _ (tab_all t ht64).1, fun B1 => ret1 rfl (intv ?_) ⟨rfl, rfl⟩⟩)
 ·rw [e1, show ((2 ^ t : Nat) : Int) * 285870213051353865 = ((2 ^ t * 285870213051353865 : Nat) : Int) by rw [Int.natCast_mul]; rfl, wrapM]
  exact iShrN _ 58
 ·rw [(tab_all t ht64).2, wrapIN t (by omega)]
theorem c55 (x : Nat) (w : World) (hx : x < 18446744073709551616) (ht : Tabs w) (t q : Nat) (h : x = 2 ^ t * (2 * q + 1)) : Calls Tryz.prog 55 #[.int .u64 (x : Int)] w fun e w' => e = .returned (.int .i64 (t : Int)) ∧ w' = w :=
 told (F55.call x w _ fun B => (c88 x w hx ht t q h).mono fun e w' ⟨h1, h2⟩ => ⟨_, h1, fun B1 => ret1 rfl rfl ⟨rfl, h2⟩⟩)
end Go.Proofs.YtlkjiiibmfpbcaaGreatDoor
namespace Go.Proofs.YtlkjiiibmfpbcaaGreatDoor
open Go
theorem BB2 (n : Nat) : BB ^ n = 2 ^ (64 * n) := by rw [show BB = 2 ^ 64 from rfl, ← Nat.pow_mul]
theorem c49 (x y : Sl) (w : World) (hx : x.c ≠ 0 → x.a = some ⟨x.b, x.o, none⟩ ∧ plainAt w x.b) (hy : y.c ≠ 0 → y.a = some ⟨y.b, y.o, none⟩ ∧ plainAt w y.b) (mx : x.c ≤ 9223372036854775807) (my : y.c ≤ 9223372036854775807) :
  Calls Tryz.prog 49 #[x.v, y.v] w fun e w' => ∃ v, e = .returned v ∧ ∃ q : Bool, v = .bool q ∧ w' = w.drew ∧ (q = true ↔ (x.c ≠ 0 ∧ y.c ≠ 0 ∧ x.b = y.b ∧ x.o + x.c = y.o + y.c)) := by
 refine F49.call x.a x.l x.c y.a y.l y.c w _ fun B => bc_intro (fun hb => bc_intro (fun hb' => ?_) (fun hb' B1 => ret1 rfl rfl ⟨false, rfl, rfl, ?_⟩)) (fun hb B1 => ret1 rfl rfl ⟨false, rfl, rfl, ?_⟩)
 ·have h1 : x.c ≠ 0 := by have := dT hb; omega
  have h2 : y.c ≠ 0 := by have := dT hb'; omega
  refine ⟨0, x.c, rfl, rfl, Nat.zero_le _, Nat.le_refl _, by unfold inI64; omega, x.b, x.o, by rw [(hx h1).1]; exact shifted_zero .., x.c - 1, by omega, by omega,
   0, y.c, rfl, rfl, Nat.zero_le _, Nat.le_refl _, by unfold inI64; omega, y.b, y.o, by rw [(hy h2).1]; exact shifted_zero .., y.c - 1, by omega, by omega, _,
   ptrIs (z := ⟨none, 0, 0, x.b, x.o + (x.c - 1)⟩) (x := ⟨none, 0, 0, y.b, y.o + (y.c - 1)⟩) (hx h1).2 (hy h2).2, fun B1 => ret1 rfl rfl ⟨_, rfl, rfl, ?_⟩⟩
  simp [h1, h2]; omega
 ·have := dF hb'; simp; omega
 ·have := dF hb; simp; omega
end Go.Proofs.YtlkjiiibmfpbcaaGreatDoor
