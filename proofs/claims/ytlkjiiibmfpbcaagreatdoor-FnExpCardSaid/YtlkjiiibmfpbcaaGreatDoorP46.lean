/- Numbers as digits of base 65536 in slices of int; one digit appended or stored; trim, Len, Bits, Small, Of. Condition: lengths up to a million. -/
import Derived.Test.YtlkjiiibmfpbcaaGreatDoorP44
import Derived.Test.YtlkjiiibmfpbcaaGreatDoorP45
namespace Go.Proofs.YtlkjiiibmfpbcaaGreatDoor
open Go
theorem iQuoI (a b : Nat) (ha : a ≤ 9223372036854775807) : iQuo .i64 (a : Int) (b : Int) = ((a / b : Nat) : Int) := by
 unfold iQuo
 have h : (a : Int).tdiv b = ((a / b : Nat) : Int) := by rw [Int.tdiv_eq_ediv_of_nonneg (by omega), Int.natCast_ediv]
 rw [h, wrapIN _ (Nat.le_trans (Nat.div_le_self _ _) ha)]
theorem iShlI (a k : Nat) (hk : k ≤ 64) (h : a * 2 ^ k ≤ 9223372036854775807) : iShl .i64 (a : Int) (k : Int) = ((a * 2 ^ k : Nat) : Int) := by
 unfold iShl
 have e : ((a : Int) * 2 ^ (min (k : Int).toNat IntKind.i64.bits)) = ((a * 2 ^ k : Nat) : Int) := by
  rw [show min (k : Int).toNat IntKind.i64.bits = k by show min (k : Int).toNat 64 = k; omega]
  simp
 rw [e, wrapIN _ h]
theorem iShrI (a k : Nat) (hk : k ≤ 64) : iShr .i64 (a : Int) (k : Int) = ((a / 2 ^ k : Nat) : Int) := by
 unfold iShr
 rw [show min (k : Int).toNat IntKind.i64.bits = k by show min (k : Int).toNat 64 = k; omega]
 rw [Int.fdiv_eq_ediv_of_nonneg _ (Int.pow_nonneg (by omega)), Int.natCast_ediv, Int.natCast_pow]
 rfl
theorem iAnd1 (a : Nat) (ha : a ≤ 9223372036854775807) : iAnd .i64 (a : Int) 1 = ((a % 2 : Nat) : Int) := by
 unfold iAnd
 have e : (BitVec.ofInt IntKind.i64.bits (a : Int) &&& BitVec.ofInt IntKind.i64.bits 1).toNat = a % 2 := by
  show (BitVec.ofInt 64 (a : Int) &&& BitVec.ofInt 64 ((1 : Nat) : Int)).toNat = _
  rw [BitVec.toNat_and, ofInt_nat 64 a (by omega), ofInt_nat 64 1 (by omega)]
  exact Nat.and_one_is_mod a
 rw [e, wrapIN _ (by omega)]
theorem rem16 (a : Nat) : iRem (a : Int) 65536 = ((a % 65536 : Nat) : Int) := iRemN a 65536
theorem quo16 (a : Nat) (ha : a ≤ 9223372036854775807) : iQuo .i64 (a : Int) 65536 = ((a / 65536 : Nat) : Int) := iQuoI a 65536 ha
theorem notP {x : Nat} (h : ¬ ((x : Nat) : Int) > 0) : x = 0 := by omega
theorem isP {x : Nat} (h : ((x : Nat) : Int) > 0) : x ≠ 0 := by omega
theorem hpos (n : Nat) : 0 < 65536 ^ n := Nat.pow_pos (by omega)
def hg (v i : Nat) : Nat := v / 65536 ^ i % 65536
theorem hg_lt (v i : Nat) : hg v i < 65536 := Nat.mod_lt _ (by omega)
theorem hmod_succ (v i : Nat) : v % 65536 ^ (i + 1) = v % 65536 ^ i + 65536 ^ i * hg v i := by
 unfold hg
 rw [Nat.pow_succ, Nat.mod_mul]
theorem hg_mod (v n i : Nat) (h : i < n) : hg (v % 65536 ^ n) i = hg v i := by
 unfold hg
 obtain ⟨d, rfl⟩ : ∃ d, n = i + 1 + d := ⟨n - (i + 1), by omega⟩
 rw [show i + 1 + d = i + (1 + d) by omega, Nat.pow_add, Nat.mod_mul_right_div_self]
 rw [show 1 + d = d + 1 by omega, Nat.pow_succ, Nat.mul_comm (65536 ^ d) 65536, Nat.mod_mul_right_mod]
theorem hg_add_lo (v u n i : Nat) (h : i < n) : hg (v + 65536 ^ n * u) i = hg v i := by
 rw [← hg_mod (v + 65536 ^ n * u) n i h, Nat.add_mul_mod_self_left, hg_mod v n i h]
theorem hg_add_hi (v u n i : Nat) (h : v < 65536 ^ n) : hg (v + 65536 ^ n * u) (n + i) = hg u i := by
 unfold hg
 rw [Nat.pow_add, ← Nat.div_div_eq_div_mul, Nat.add_mul_div_left _ _ (hpos n), Nat.div_eq_of_lt h, Nat.zero_add]
theorem hg_zero (i : Nat) : hg 0 i = 0 := by simp [hg]
theorem hg_of_lt (v i : Nat) (h : v < 65536 ^ i) : hg v i = 0 := by simp [hg, Nat.div_eq_of_lt h]
theorem hg_self (v : Nat) (h : v < 65536) : hg v 0 = v := by simp [hg, Nat.mod_eq_of_lt h]
theorem hdlt {Z k d : Nat} (hZ : Z < 65536 ^ k) (hd : d < 65536) : Z + 65536 ^ k * d < 65536 ^ (k + 1) := by
 have : 65536 ^ k * d + 65536 ^ k ≤ 65536 ^ (k + 1) := by rw [Nat.pow_succ, ← Nat.mul_succ]; exact Nat.mul_le_mul_left _ hd
 omega
def setH (v k d : Nat) : Nat := v % 65536 ^ k + 65536 ^ k * (d + 65536 ^ 1 * (v / 65536 ^ (k + 1)))
theorem setH_add (v k d : Nat) : setH v k d + 65536 ^ k * hg v k = v + 65536 ^ k * d := by
 have h1 := Nat.mod_add_div v (65536 ^ (k + 1))
 rw [hmod_succ] at h1
 unfold setH
 rw [Nat.mul_add, ← Nat.mul_assoc, ← Nat.pow_add]
 omega
theorem hg_setH (v k d i : Nat) (hd : d < 65536) : hg (setH v k d) i = if i = k then d else hg v i := by
 have hm := Nat.mod_lt v (hpos k)
 unfold setH
 by_cases h1 : i < k
 ·rw [hg_add_lo _ _ _ _ h1, hg_mod _ _ _ h1, if_neg (by omega)]
 ·obtain ⟨j, rfl⟩ : ∃ j, i = k + j := ⟨i - k, by omega⟩
  rw [hg_add_hi _ _ _ _ hm]
  cases j with
  | zero => rw [hg_add_lo _ _ _ _ (by omega), hg_self d hd, if_pos (by omega)]
  | succ j =>
   rw [show j + 1 = 1 + j by omega, hg_add_hi _ _ _ _ (by omega), if_neg (by omega)]
   unfold hg
   rw [Nat.div_div_eq_div_mul, ← Nat.pow_add, show k + 1 + j = k + (1 + j) by omega]
theorem setH_lt {v k d n : Nat} (hv : v < 65536 ^ n) (hk : k < n) (hd : d < 65536) : setH v k d < 65536 ^ n := by
 have hm := Nat.mod_lt v (hpos k)
 have h2 : v / 65536 ^ (k + 1) < 65536 ^ (n - (k + 1)) := by rw [Nat.div_lt_iff_lt_mul (hpos _), ← Nat.pow_add, Nat.sub_add_cancel (by omega)]; exact hv
 have h3 : setH v k d = (v % 65536 ^ k + 65536 ^ k * d) + 65536 ^ (k + 1) * (v / 65536 ^ (k + 1)) := by
  unfold setH
  rw [Nat.mul_add, ← Nat.mul_assoc, ← Nat.pow_add]; omega
 have h4 : 65536 ^ n = 65536 ^ (k + 1) * 65536 ^ (n - (k + 1)) := by rw [← Nat.pow_add]; congr 1; omega
 have h5 : 65536 ^ (k + 1) * (v / 65536 ^ (k + 1)) + 65536 ^ (k + 1) ≤ 65536 ^ (k + 1) * 65536 ^ (n - (k + 1)) := by rw [← Nat.mul_succ]; exact Nat.mul_le_mul_left _ h2
 have h6 := hdlt hm hd
 rw [h3, h4]
 omega
def Hc (w : World) (b o n v : Nat) : Prop := ∀ i, i < n → w.cell? ⟨b, o + i, none⟩ = some (.int .i64 (hg v i : Int))
structure Rh (w : World) (s : Sl) (v : Nat) : Prop where
 lc : s.l ≤ s.c
 at_ : s.l ≠ 0 → s.a = some ⟨s.b, s.o, none⟩
 hc : Hc w s.b s.o s.l v
 lt : v < 65536 ^ s.l
structure Hn (w : World) (s : Sl) (v : Nat) : Prop extends Rh w s v where
 nm : ∀ k, v < 65536 ^ k → s.l ≤ k
structure Ho (w0 w : World) (s : Sl) (v : Nat) : Prop extends St w s where
 hc : Hc w s.b s.o s.l v
 lt : v < 65536 ^ s.l
 nw : s.c ≠ 0 → w0.heap.size ≤ s.b
 ch : Chg w0 w none2
section
variable {w0 w w' : World} {s : Sl} {v : Nat}
theorem Hc.keep {b o n : Nat} (h : Hc w b o n v) (c : Chg w w' none2) : Hc w' b o n v := fun i hi => by
 have := h i hi
 rw [c.cell (lt_of_cell this) (fun h => h)]; exact this
theorem Rh.keep (h : Rh w s v) (c : Chg w w' none2) : Rh w' s v := ⟨h.lc, h.at_, h.hc.keep c, h.lt⟩
theorem Hn.keep (h : Hn w s v) (c : Chg w w' none2) : Hn w' s v := ⟨h.toRh.keep c, h.nm⟩
theorem Ho.rh (h : Ho w0 w s v) : Rh w s v := ⟨h.lc, fun h0 => h.at_ (by have := h.lc; omega), h.hc, h.lt⟩
theorem Ho.keep (h : Ho w0 w s v) (c : Chg w w' none2) : Ho w0 w' s v := ⟨c.st h.toSt, h.hc.keep c, h.lt, h.nw, h.ch.trans' c⟩
theorem Hn.le (h : Hn w s v) (h0 : s.l ≠ 0) : 65536 ^ (s.l - 1) ≤ v := by
 rcases Nat.lt_or_ge v (65536 ^ (s.l - 1)) with h1 | h1
 ·have := h.nm _ h1; omega
 ·exact h1
theorem Hn.zero_iff (h : Hn w s v) : s.l = 0 ↔ v = 0 :=
 ⟨fun h0 => by have := h.lt; rw [h0] at this; simpa using this, fun h0 => by have := h.nm 0 (by subst h0; simp); omega⟩
theorem rdH {i : Int} {k d : Nat} {Q : Nat → Nat → Nat → Int → Prop} (ha : s.a = some ⟨s.b, s.o, none⟩) (hi : i = (k : Int)) (hk : k < s.l) (hc : w.cell? ⟨s.b, s.o + k, none⟩ = some (.int .i64 (d : Int)))
  (q : Q s.b s.o k d) : nc s.a fun b o => ∃ k' : Nat, i = (k' : Int) ∧ k' < s.l ∧ ∃ x, w.cell? ⟨b, o + k', none⟩ = some (.int .i64 x) ∧ Q b o k' x :=
 ⟨s.b, s.o, ha, k, hi, hk, _, hc, q⟩
theorem rdR {i : Int} {k : Nat} {Q : Nat → Nat → Nat → Int → Prop} (h : Rh w s v) (hi : i = (k : Int)) (hk : k < s.l)
  (q : Q s.b s.o k (hg v k : Int)) : nc s.a fun b o => ∃ k' : Nat, i = (k' : Int) ∧ k' < s.l ∧ ∃ x, w.cell? ⟨b, o + k', none⟩ = some (.int .i64 x) ∧ Q b o k' x :=
 rdH (h.at_ (by omega)) hi hk (h.hc k hk) q
theorem Ho.put {i d : Nat} (h : Ho w0 w s v) (hi : i < s.l) (hd : d < 65536) : Ho w0 (w.setCell ⟨s.b, s.o + i, none⟩ (.int .i64 (d : Int))) s (setH v i d) := by
 have hlc := h.lc
 have hc : Chg w (w.setCell ⟨s.b, s.o + i, none⟩ (.int .i64 (d : Int))) (inR s.b (s.o + i) (s.o + i + 1)) := Chg.setCell (h.pl (by omega)) _ ⟨rfl, by omega, by omega⟩
 refine ⟨hc.st h.toSt, fun j hj => ?_, setH_lt h.lt hi hd, h.nw, h.ch.trans hc (fun _ _ _ h => h) fun b j hb hm => ?_⟩
 ·rw [hg_setH _ _ _ _ hd]
  by_cases hji : j = i
  ·subst hji
   rw [if_pos rfl]
   exact World.cell?_setCell_same _ _ _ (h.hc j hj)
  ·rw [if_neg hji, hc.cell (lt_of_cell (h.hc j hj)) (fun hm => by have := hm.2.1; have := hm.2.2; omega)]
   exact h.hc j hj
 ·have := h.nw (by omega)
  have := hm.1; omega
end
theorem cell26 : Cell1 26 3 (.int .i64 0) := cell1_of Tryz.underlying26 (by kernel_rfl) rfl
theorem Ho.empty {w0 w : World} (hg : GB ≤ w0.heap.size) (c : Chg w0 w none2) :
  ∃ (s : Sl) (w' : World), Sem.run Tryz.prog (Instr.buildSlice 26 0 #[]) w = .ok s.v w' ∧ s.l = 0 ∧ Ho w0 w' s 0 ∧ Chg w w' none2 := by
 have c1 : Chg w (w.alloc (.cells #[] 3)) none2 := Chg.alloc _ _ (fun a => RowKit.frozen?_alloc_cells _ _ _ _) _
 refine ⟨⟨some ⟨w.heap.size, 0, none⟩, 0, 0, w.heap.size, 0⟩, _, build0e cell26 w, rfl, ⟨⟨Nat.le_refl _, fun h => absurd rfl h, Wr.zero, fun h => absurd rfl h, Nat.zero_le _, Nat.le_trans hg (c.trans' c1).size⟩, fun i hi => ?_, hpos 0, fun h => absurd rfl h, c.trans' c1⟩, c1⟩
 have hi : i < 0 := hi
 omega
theorem Ho.push {w0 w : World} {out : Sl} {V d : Nat} {z : Int} (h : Ho w0 w out V) (hz : z = (d : Int)) (hd : d < 65536) (hl : out.l ≤ 1000000) :
  ∃ w1, ∃ a l c, Sem.run Tryz.prog (Instr.buildSlice 26 1 #[(0, .int .i64 z)]) w = .ok (.slice a l c) w1 ∧ ∃ (r : Sl) (w' : World), Sem.run Tryz.prog (builtin .append #[26, 26] 26 #[false, false] #[out.v, .slice a l c]) w1 = .ok (.value r.v) w' ∧
   r.l = out.l + 1 ∧ Ho w0 w' r (V + 65536 ^ out.l * d) := by
 subst hz
 have c1 : Chg w (w.alloc (.cells #[.int .i64 (d : Int)] 3)) none2 := Chg.alloc _ _ (fun a => RowKit.frozen?_alloc_cells _ _ _ _) _
 have hh : (w.alloc (.cells #[.int .i64 (d : Int)] 3)).heap[w.heap.size]? = some (.cells #[.int .i64 (d : Int)] 3 (0, 0)) := heap_alloc_new ..
 have h1 := h.keep c1
 obtain ⟨r, w', r1, r2, r3, r4, r5, r6, r7⟩ := app1 cell26 out (.int .i64 (d : Int)) _ h1.toSt ⟨w.heap.size, 0, none⟩ 1 (by rw [cell_eq, hh]; rfl) rfl (by omega) (fun i => .int .i64 (hg V i : Int)) h1.hc
 refine ⟨_, _, _, _, build1 cell26 w _ rfl, r, w', r1, r2, r3, fun i hi => ?_, by rw [r2]; exact hdlt h.lt hd, fun h0 => ?_, h1.ch.trans r7 (fun _ _ _ h => h) fun b i hb hm => ?_⟩
 ·rw [r4 i (by omega)]
  by_cases hi' : i = out.l
  ·subst hi'
   rw [setF_self, show hg (V + 65536 ^ out.l * d) out.l = d by have := hg_add_hi V d out.l 0 h.lt; rw [Nat.add_zero] at this; rw [this, hg_self d hd]]
  ·rw [setF_ne _ _ hi', hg_add_lo _ _ _ _ (by omega)]
 ·rcases r5 with ⟨_, e2, e3, _⟩ | hf
  ·rw [e3]; exact h.nw (by omega)
  ·exact Nat.le_trans h1.ch.size hf
 ·have := h.nw (by have := hm.2.1; have := hm.2.2; omega)
  have := hm.1; omega
theorem Ho.make {w0 w : World} (hg : GB ≤ w0.heap.size) (c : Chg w0 w none2) (n : Nat) (hn : n ≤ 281474976710656) :
  Ho w0 (w.alloc (.cells (madeCells #[(Value.int IntKind.i64 0)] n) 3)) ⟨some ⟨w.heap.size, 0, none⟩, n, n, w.heap.size, 0⟩ 0 := by
 have c1 : Chg w (w.alloc (.cells (madeCells #[(Value.int IntKind.i64 0)] n) 3)) none2 := Chg.alloc _ _ (fun a => RowKit.frozen?_alloc_cells _ _ _ _) _
 have hst := row_st w (Nat.le_trans hg c.size) (madeCells #[(Value.int IntKind.i64 0)] n) 3 n (by rw [size_madeCells]; exact Nat.le_refl _) (by rw [size_madeCells]; omega)
 rw [size_madeCells] at hst
 refine ⟨hst, fun i hi => ?_, hpos _, fun _ => c.size, c.trans' c1⟩
 have hi : i < n := hi
 have hh : (w.alloc (.cells (madeCells #[(Value.int IntKind.i64 0)] n) 3)).heap[w.heap.size]? = some (.cells (madeCells #[(Value.int IntKind.i64 0)] n) 3 (0, 0)) := heap_alloc_new ..
 rw [cell_eq]
 show (match (w.alloc (.cells (madeCells #[(Value.int IntKind.i64 0)] n) 3)).heap[w.heap.size]? with
  | some (.cells c _ _) => c[0 + i]?
  | _ => none) = _
 rw [hh, hg_zero]
 simp [madeCells, hi, Nat.mod_one]
theorem c16 (a : Sl) (A : Nat) (w : World) (ha : Rh w a A) (hl : a.l ≤ 1000000) :
  Calls Tryz.prog 16 #[a.v] w fun e w' => ∃ r : Sl, e = .returned r.v ∧ Hn w' r A ∧ w' = w := by
 refine (F16.call a.a a.l a.c w (fun v w' => ∃ r : Sl, v = r.v ∧ Hn w' r A ∧ w' = w) fun B B1 => ?_).mono fun e w' ⟨v, h1, r, h2, h3⟩ => ⟨r, by rw [h1, h2], h3⟩
 rw [F16.q3]
 refine W_for' (σ := Nat) (fun k => F16.l2 a.a k a.c) (fun k w' => w' = w ∧ k ≤ a.l ∧ A < 65536 ^ k) (fun k => k) a.l ⟨rfl, trivial⟩ ⟨rfl, Nat.le_refl _, ha.lt⟩ ?_
 rintro k B2 wr K2 ⟨hw, hk, hA⟩ hKn hKe _
 subst hw
 have hrk : Rh wr (a.to k) A := ⟨Nat.le_trans hk ha.lc, fun h0 => ha.at_ (by have : k ≠ 0 := h0; omega), fun i hi => ha.hc i (by have : i < k := hi; omega), hA⟩
 have fin : ∀ B', (k = 0 ∨ hg A (k - 1) ≠ 0) → K2 (.exit 0) (E (F16.l2 a.a k a.c) B' []) wr := fun B' h => by
  refine hKe _ _ ?_
  show W Tryz.prog 21 F16.p1 _ wr _
  refine F16.t1 a.a k a.c ⟨rfl, trivial⟩ fun B4 B5 => ret1 rfl rfl ⟨a.to k, rfl, ⟨hrk, fun j hj => ?_⟩, rfl⟩
  show k ≤ j
  rcases h with h | h
  ·omega
  ·rcases Nat.lt_or_ge j k with h1 | h1
   ·exact absurd (hg_of_lt A (k - 1) (Nat.lt_of_lt_of_le hj (Nat.pow_le_pow_right (by omega) (by omega)))) h
   ·exact h1
 refine F16.t2 a.a k a.c ⟨rfl, trivial⟩ fun B3 => bc_intro (fun hb => ?_) (fun hb B4 => ?_)
 ·have h0 : 0 < k := by have := dT hb; omega
  refine ⟨by unfold inI64; omega, rdR (s := a.to k) (k := k - 1) hrk (by omega) (by show k - 1 < k; omega) (bc_intro (fun hb2 => ?_) (fun hb2 B4 => ?_))⟩
  ·have hz : hg A (k - 1) = 0 := by have := eqE hb2; omega
   refine ⟨by unfold inI64; omega, k - 1, by omega, by have := ha.lc; omega, fun B5 => hKn _ _ (k - 1) ⟨rfl, trivial⟩ rfl ⟨rfl, by omega, ?_⟩ (by show k - 1 < k; omega)⟩
   have h1 := hmod_succ A (k - 1)
   rw [show k - 1 + 1 = k by omega, Nat.mod_eq_of_lt hA, hz] at h1
   rw [h1]
   have := Nat.mod_lt A (hpos (k - 1))
   omega
  ·exact fin B4 (.inr fun e => eqN hb2 (by rw [e]; rfl))
 ·exact fin B4 (.inl (by have := dF hb; omega))
def BitsOf (V n : Nat) : Prop := V < 2 ^ n ∧ (n ≠ 0 → 2 ^ (n - 1) ≤ V)
theorem p16 (k : Nat) : 65536 ^ k = 2 ^ (16 * k) := by rw [Nat.pow_mul]
theorem c15 (a : Sl) (A : Nat) (w : World) (ha : Hn w a A) (hl : a.l ≤ 1000000) :
  Calls Tryz.prog 15 #[a.v] w fun e w' => ∃ n : Nat, e = .returned (.int .i64 (n : Int)) ∧ BitsOf A n ∧ n ≤ 16 * a.l ∧ w' = w := by
 refine (F15.call a.a a.l a.c w (fun v w' => ∃ n : Nat, v = .int .i64 (n : Int) ∧ BitsOf A n ∧ n ≤ 16 * a.l ∧ w' = w) fun B => bc_intro (fun hb B1 => ?_) (fun hb => ?_)).mono fun e w' ⟨v, h1, r, h2, h3⟩ => ⟨r, by rw [h1, h2], h3⟩
 ·have h0 : a.l = 0 := by have := eqE hb; omega
  have hA : A = 0 := ha.zero_iff.1 h0
  exact ret1 rfl rfl ⟨0, rfl, ⟨by rw [hA]; exact Nat.one_pos, fun h => absurd rfl h⟩, Nat.zero_le _, rfl⟩
 ·have h0 : a.l ≠ 0 := fun e => eqN hb (by rw [e]; rfl)
  refine ⟨by unfold inI64; omega, by unfold inI64; omega, by unfold inI64; omega, rdR (k := a.l - 1) ha.toRh (by omega) (by omega) fun B1 => ?_⟩
  have hle := ha.le h0
  have hlt := ha.lt
  obtain ⟨k, hk⟩ : ∃ k, k = a.l - 1 := ⟨_, rfl⟩
  rw [← hk] at hle ⊢
  rw [show a.l = k + 1 by omega] at hlt ⊢
  have hd : hg A k = A / 65536 ^ k := by
   unfold hg
   refine Nat.mod_eq_of_lt ?_
   rw [Nat.div_lt_iff_lt_mul (hpos k), Nat.mul_comm]
   rw [Nat.pow_succ] at hlt; exact hlt
  rw [F15.q3, hd]
  refine W_for' (σ := Nat) (fun j => F15.l2 ((16 * k + j : Nat) : Int) ((A / 65536 ^ k / 2 ^ j : Nat) : Int)) (fun j w' => w' = w ∧ j ≤ 16 ∧ (j ≠ 0 → 0 < A / 65536 ^ k / 2 ^ (j - 1))) (fun j => 16 - j) 0 ⟨intv (by omega), intv (by rw [Nat.pow_zero, Nat.div_one]), trivial⟩ ⟨rfl, by omega, fun h => absurd rfl h⟩ ?_
  rintro j B2 wr K2 ⟨hw, hj, hp⟩ hKn hKe _
  subst hw
  have e1 : A / 65536 ^ k / 2 ^ j = A / 2 ^ (16 * k + j) := by rw [Nat.div_div_eq_div_mul, Nat.pow_add, p16]
  refine F15.t2 _ _ ⟨rfl, rfl, trivial⟩ fun B3 => bc_intro (fun hb2 => ?_) (fun hb2 B4 => ?_)
  ·have hpos' : 0 < A / 65536 ^ k / 2 ^ j := Nat.pos_of_ne_zero (isP (dT hb2))
   have hj16 : j ≠ 16 := fun e => by
    subst e
    have : A / 65536 ^ k < 65536 := by rw [Nat.div_lt_iff_lt_mul (hpos k), Nat.mul_comm]; rw [Nat.pow_succ] at hlt; exact hlt
    rw [Nat.div_eq_of_lt (by omega)] at hpos'; omega
   have hlt2 : A / 65536 ^ k < 65536 := by rw [Nat.div_lt_iff_lt_mul (hpos k), Nat.mul_comm]; rw [Nat.pow_succ] at hlt; exact hlt
   have hle2 := Nat.div_le_self (A / 65536 ^ k) (2 ^ j)
   refine ⟨by unfold inI64; omega, by decide, fun B4 => hKn _ _ (j + 1) ⟨intv (by omega), intv ?_, trivial⟩ rfl ⟨rfl, by omega, fun _ => by rw [Nat.add_sub_cancel]; exact hpos'⟩ (by show 16 - (j + 1) < 16 - j; omega)⟩
   show iQuo .i64 _ ((2 : Nat) : Int) = _
   rw [iQuoI _ _ (by omega), Nat.pow_succ, Nat.div_div_eq_div_mul (A / 65536 ^ k) (2 ^ j) 2]
  ·have hz : A / 65536 ^ k / 2 ^ j = 0 := notP (dF hb2)
   refine hKe _ _ ?_
   show W Tryz.prog 25 F15.p1 _ wr _
   refine F15.t1 _ ⟨rfl, trivial⟩ fun B4 B5 => ret1 rfl rfl ⟨16 * k + j, rfl, ⟨?_, fun hne => ?_⟩, by omega, rfl⟩
   ·rw [e1] at hz
    have := Nat.div_add_mod A (2 ^ (16 * k + j))
    rw [hz] at this
    have := Nat.mod_lt A (Nat.two_pow_pos (16 * k + j))
    omega
   ·have hj0 : j ≠ 0 := fun e => by
     rw [e, Nat.pow_zero, Nat.div_one] at hz
     have := (Nat.div_eq_zero_iff_lt (hpos k)).1 hz
     omega
    have h3 := hp hj0
    rw [Nat.div_div_eq_div_mul, p16, ← Nat.pow_add] at h3
    rw [show 16 * k + j - 1 = 16 * k + (j - 1) by omega]
    rcases Nat.lt_or_ge A (2 ^ (16 * k + (j - 1))) with h4 | h4
    ·rw [Nat.div_eq_of_lt h4] at h3; omega
    ·exact h4
theorem c7 (a : Sl) (A : Nat) (w : World) (ha : Hn w a A) (hl : a.l ≤ 1000000) :
  Calls Tryz.prog 7 #[a.v] w fun e w' => ∃ n : Nat, e = .returned (.int .i64 (n : Int)) ∧ BitsOf A n ∧ n ≤ 16 * a.l ∧ w' = w := by
 refine (F7.call a.a a.l a.c w (fun v w' => ∃ n : Nat, v = .int .i64 (n : Int) ∧ BitsOf A n ∧ n ≤ 16 * a.l ∧ w' = w) fun B => ?_).mono fun e w' ⟨v, h1, r, h2, h3⟩ => ⟨r, by rw [h1, h2], h3⟩
 refine (c15 a A w ha hl).mono ?_
 rintro e1 w1 ⟨n, rfl, h⟩
 exact ⟨_, rfl, fun B2 => ret1 rfl rfl ⟨n, rfl, h⟩⟩
theorem c23 (n : Nat) (w : World) (hG : GB ≤ w.heap.size) (hn : n ≤ 4294967295) :
  Calls Tryz.prog 23 #[.int .i64 (n : Int)] w fun e w' => ∃ r : Sl, e = .returned r.v ∧ Hn w' r n ∧ Chg w w' none2 := by
 refine (F23.call (n : Int) w (fun v w' => ∃ r : Sl, v = r.v ∧ Hn w' r n ∧ Chg w w' none2) fun B => ?_).mono fun e w' ⟨v, h1, r, h2, h3⟩ => ⟨r, by rw [h1, h2], h3⟩
 obtain ⟨s0, w1, e1, l1, h1, c1⟩ := Ho.empty hG (Chg.refl w none2)
 refine ⟨w1, _, _, _, e1, fun B1 => ?_⟩
 rw [F23.q3]
 refine W_for' (σ := Nat × Sl) (fun s => F23.l2 ((n / 65536 ^ s.1 : Nat) : Int) s.2.a s.2.l s.2.c) (fun s w' => s.2.l = s.1 ∧ s.1 ≤ 2 ∧ Ho w w' s.2 (n % 65536 ^ s.1) ∧ (s.1 ≠ 0 → n / 65536 ^ (s.1 - 1) ≠ 0)) (fun s => 2 - s.1) (0, s0) ⟨intv (by rw [Nat.pow_zero, Nat.div_one]), rfl, trivial⟩
  ⟨l1, by omega, by rw [Nat.pow_zero, Nat.mod_one]; exact h1, fun h => absurd rfl h⟩ ?_
 rintro ⟨i, out⟩ B2 wr K2 ⟨hl, hi, ho, hz⟩ hKn hKe _
 simp only at hl hi ho hz
 have hle := Nat.div_le_self n (65536 ^ i)
 refine F23.t2 _ out.a out.l out.c ⟨rfl, rfl, trivial⟩ fun B3 => bc_intro (fun hb => ⟨by decide, ?_⟩) (fun hb B4 => ?_)
 ·have hp : n / 65536 ^ i ≠ 0 := isP (dT hb)
  have hi2 : i ≠ 2 := fun e => hp (by rw [e]; exact Nat.div_eq_of_lt (by omega))
  obtain ⟨w2, a2, l2, c2, e2, r, w3, e3, l3, h3⟩ := ho.push (d := hg n i) (z := iRem ((n / 65536 ^ i : Nat) : Int) 65536) (rem16 _) (hg_lt n i) (by omega)
  refine ⟨w2, a2, l2, c2, e2, w3, r.a, r.l, r.c, e3, by decide, fun B5 => hKn _ _ (i + 1, r) ⟨intv ?_, rfl, trivial⟩ rfl ⟨by show r.l = i + 1; omega, by show i + 1 ≤ 2; omega, ?_, fun _ => ?_⟩ (by show 2 - (i + 1) < 2 - i; omega)⟩
  ·rw [quo16 _ (show n / 65536 ^ i ≤ _ from Nat.le_trans hle (by omega)), Nat.pow_succ, ← Nat.div_div_eq_div_mul]
  ·show Ho w w3 r (n % 65536 ^ (i + 1))
   rw [hmod_succ, ← hl]; rw [hl] at h3 ⊢; exact h3
  ·show n / 65536 ^ (i + 1 - 1) ≠ 0
   rw [Nat.add_sub_cancel]; exact hp
 ·have hz0 : n / 65536 ^ i = 0 := notP (dF hb)
  have hni : n < 65536 ^ i := (Nat.div_eq_zero_iff_lt (hpos i)).1 hz0
  rw [Nat.mod_eq_of_lt hni] at ho
  refine hKe _ _ ?_
  show W Tryz.prog 15 F23.p1 _ wr _
  refine F23.t1 out.a out.l out.c ⟨rfl, trivial⟩ fun B4 B5 => ret1 rfl rfl ⟨out, rfl, ⟨ho.rh, fun k hk => ?_⟩, ho.ch⟩
  rw [hl]
  rcases Nat.lt_or_ge k i with h | h
  ·exact absurd (Nat.div_eq_of_lt (Nat.lt_of_lt_of_le hk (Nat.pow_le_pow_right (by omega) (by omega)))) (hz (by omega))
  ·exact h
end Go.Proofs.YtlkjiiibmfpbcaaGreatDoor
