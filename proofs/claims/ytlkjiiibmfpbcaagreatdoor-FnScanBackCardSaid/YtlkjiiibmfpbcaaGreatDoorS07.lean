/- Numbers in memory: the words of a number in a row of cells; what a call may change. No condition. -/
import Derived.Test.YtlkjiiibmfpbcaaGreatDoorS06
import Derived.Test.YtlkjiiibmfpbcaaGreatDoorS05
namespace Go.Proofs.YtlkjiiibmfpbcaaGreatDoor
open Go
theorem BBpow_pos (n : Nat) : 0 < BB ^ n := Nat.pow_pos BB_pos
theorem BBpow_succ (n : Nat) : BB ^ (n + 1) = BB ^ n * BB := Nat.pow_succ ..
theorem BB_eq : BB = 18446744073709551616 := rfl
def dg (v i : Nat) : Nat := v / BB ^ i % BB
theorem dg_lt (v i : Nat) : dg v i < BB := Nat.mod_lt _ BB_pos
theorem dg_lt' (v i : Nat) : dg v i < 18446744073709551616 := dg_lt v i
theorem mod_succ (v i : Nat) : v % BB ^ (i + 1) = v % BB ^ i + BB ^ i * dg v i := by
  unfold dg
  rw [BBpow_succ, Nat.mod_mul]
theorem dg_mod (v n i : Nat) (h : i < n) : dg (v % BB ^ n) i = dg v i := by
  unfold dg
  obtain ⟨d, rfl⟩ : ∃ d, n = i + 1 + d := ⟨n - (i + 1), by omega⟩
  rw [show i + 1 + d = i + (1 + d) by omega, Nat.pow_add, Nat.mod_mul_right_div_self]
  rw [show 1 + d = d + 1 by omega, Nat.pow_succ, Nat.mul_comm (BB ^ d) BB, Nat.mod_mul_right_mod]
theorem dg_add_lo (v u n i : Nat) (h : i < n) : dg (v + BB ^ n * u) i = dg v i := by
  rw [← dg_mod (v + BB ^ n * u) n i h, Nat.add_mul_mod_self_left, dg_mod v n i h]
theorem dg_add_hi (v u n i : Nat) (h : v < BB ^ n) : dg (v + BB ^ n * u) (n + i) = dg u i := by
  unfold dg
  rw [Nat.pow_add, ← Nat.div_div_eq_div_mul, Nat.add_mul_div_left _ _ (BBpow_pos n), Nat.div_eq_of_lt h, Nat.zero_add]
theorem dg_div (v n i : Nat) : dg (v / BB ^ n) i = dg v (n + i) := by
  unfold dg
  rw [Nat.div_div_eq_div_mul, Nat.pow_add]
theorem dg_zero (i : Nat) : dg 0 i = 0 := by simp [dg]
theorem dg_of_lt (v i : Nat) (h : v < BB ^ i) : dg v i = 0 := by simp [dg, Nat.div_eq_of_lt h]
theorem dg_self (v : Nat) (h : v < BB) : dg v 0 = v := by simp [dg, Nat.mod_eq_of_lt h]
def Sg (w : World) (b o n v : Nat) : Prop := ∀ i, i < n → w.cell? ⟨b, o + i, none⟩ = some (.int .u64 (dg v i : Int))
def Wr (w : World) (b o n : Nat) : Prop := ∀ i, i < n → (∃ u, w.cell? ⟨b, o + i, none⟩ = some u) ∧ w.frozen? ⟨b, o + i, none⟩ = false
abbrev Set2 := Nat → Nat → Prop
def inR (b lo hi : Nat) : Set2 := fun b' i => b' = b ∧ lo ≤ i ∧ i < hi
def none2 : Set2 := fun _ _ => False
def GB : Nat := 11
def Own (w : World) (b : Nat) : Prop := GB ≤ b ∧ plainAt w b
abbrev Calm (w w' : World) : Prop := (w'.heap, w'.os, w'.output) = (w.heap, w.os, w.output)
structure Chg (w w' : World) (S : Set2) : Prop where
  size : w.heap.size ≤ w'.heap.size
  obj : ∀ b, b < w.heap.size → w'.heap[b]? = w.heap[b]? ∨ ∃ cs e cs', w.heap[b]? = some (.cells cs e (0, 0)) ∧ w'.heap[b]? = some (.cells cs' e (0, 0)) ∧ cs'.size = cs.size ∧
    ∀ i, ¬ S b i → cs'[i]? = cs[i]?
  os : w'.os = w.os
  output : w'.output = w.output
  froz : ∀ a, w'.frozen? a = w.frozen? a
  glob : ∀ b, b < GB → b < w.heap.size → w'.heap[b]? = w.heap[b]?
theorem Chg.refl (w : World) (S : Set2) : Chg w w S := ⟨Nat.le_refl _, fun _ _ => .inl rfl, rfl, rfl, fun _ => rfl, fun _ _ _ => rfl⟩
theorem froz_heap {w w' : World} (h : w'.heap = w.heap) (a : Addr) : w'.frozen? a = w.frozen? a := by simp [World.frozen?, h]
theorem Chg.of_heap {w w' : World} (h : Calm w w') (S : Set2) : Chg w w' S := by
  have h1 : w'.heap = w.heap := congrArg (·.1) h
  have h2 : w'.os = w.os := congrArg (·.2.1) h
  have h3 : w'.output = w.output := congrArg (·.2.2) h
  exact ⟨by rw [h1]; exact Nat.le_refl _, fun _ _ => .inl (by rw [h1]), h2, h3, froz_heap h1, fun _ _ _ => by rw [h1]⟩
theorem Chg.trans {w w1 w2 : World} {S S1 S2 : Set2} (h1 : Chg w w1 S1) (h2 : Chg w1 w2 S2) (hs1 : ∀ b i, b < w.heap.size → S1 b i → S b i) (hs2 : ∀ b i, b < w.heap.size → S2 b i → S b i) :
    Chg w w2 S := by
  refine ⟨Nat.le_trans h1.size h2.size, fun b hb => ?_, h2.os.trans h1.os, h2.output.trans h1.output, fun a => (h2.froz a).trans (h1.froz a),
    fun b hb hb' => (h2.glob b hb (Nat.lt_of_lt_of_le hb' h1.size)).trans (h1.glob b hb hb')⟩
  have a1 := h1.obj b hb
  have a2 := h2.obj b (Nat.lt_of_lt_of_le hb h1.size)
  rcases a1 with a1 | ⟨cs, e, cs', b1, b2, b3, b4⟩
  · rcases a2 with a2 | ⟨cs, e, cs', c1, c2, c3, c4⟩
    · exact .inl (a2.trans a1)
    · exact .inr ⟨cs, e, cs', a1.symm.trans c1, c2, c3, fun i hi => c4 i (fun hs => hi (hs2 b i hb hs))⟩
  · rcases a2 with a2 | ⟨ds, e', ds', c1, c2, c3, c4⟩
    · exact .inr ⟨cs, e, cs', b1, a2.trans b2, b3, fun i hi => b4 i (fun hs => hi (hs1 b i hb hs))⟩
    · rw [b2] at c1
      simp only [Option.some.injEq, Obj.cells.injEq] at c1
      obtain ⟨rfl, rfl, _⟩ := c1
      exact .inr ⟨cs, e, ds', b1, c2, c3.trans b3, fun i hi => (c4 i (fun hs => hi (hs2 b i hb hs))).trans (b4 i (fun hs => hi (hs1 b i hb hs)))⟩
theorem Chg.trans' {w w1 w2 : World} {S : Set2} (h1 : Chg w w1 S) (h2 : Chg w1 w2 S) : Chg w w2 S := h1.trans h2 (fun _ _ _ h => h) (fun _ _ _ h => h)
theorem Chg.mono {w w' : World} {S S' : Set2} (h : Chg w w' S) (hs : ∀ b i, b < w.heap.size → S b i → S' b i) : Chg w w' S' :=
  h.trans (Chg.refl w' S) hs hs
theorem Chg.drew {w w' : World} {S : Set2} (h : Chg w w' S) : Chg w w'.drew S := h.trans' (Chg.of_heap (w := w') (w' := w'.drew) rfl S)
theorem Chg.drew0 (w : World) (S : Set2) : Chg w w.drew S := Chg.of_heap (w := w) (w' := w.drew) rfl S
theorem cell_eq {w : World} {b i : Nat} : w.cell? ⟨b, i, none⟩ = match w.heap[b]? with
    | some (.cells c _ _) => c[i]?
    | _ => none := rfl
theorem frozen_eq {w : World} {b i : Nat} : w.frozen? ⟨b, i, none⟩ = match w.heap[b]? with
    | some (.cells _ _ (lo, hi)) => decide (lo ≤ i) && decide (i < hi)
    | _ => false := rfl
theorem lt_of_cell {w : World} {b i : Nat} {v : Value} (h : w.cell? ⟨b, i, none⟩ = some v) : b < w.heap.size := block_lt_of_cell (a := ⟨b, i, none⟩) h
theorem Chg.cell {w w' : World} {S : Set2} (h : Chg w w' S) {b i : Nat} (hb : b < w.heap.size) (hs : ¬ S b i) : w'.cell? ⟨b, i, none⟩ = w.cell? ⟨b, i, none⟩ := by
  rw [cell_eq, cell_eq]
  rcases h.obj b hb with a | ⟨cs, e, cs', b1, b2, b3, b4⟩
  · rw [a]
  · rw [b1, b2]; exact b4 i hs
theorem chgSome {w w' : World} {S : Set2} (h : Chg w w' S) {b i : Nat} {u : Value} (hu : w.cell? ⟨b, i, none⟩ = some u) : ∃ u', w'.cell? ⟨b, i, none⟩ = some u' := by
  have hb := lt_of_cell hu
  rw [cell_eq] at hu ⊢
  rcases h.obj b hb with a | ⟨cs, e, cs', b1, b2, b3, b4⟩
  · rw [a]; exact ⟨u, hu⟩
  · rw [b1] at hu; rw [b2]
    have : i < cs.size := (Array.getElem?_eq_some_iff.1 hu).1
    exact ⟨cs'[i]'(by omega), Array.getElem?_eq_getElem (by omega)⟩
theorem Chg.frozen {w w' : World} {S : Set2} (h : Chg w w' S) {b i : Nat} (hb : b < w.heap.size) : w'.frozen? ⟨b, i, none⟩ = w.frozen? ⟨b, i, none⟩ := by
  rw [frozen_eq, frozen_eq]
  rcases h.obj b hb with a | ⟨cs, e, cs', b1, b2, b3, b4⟩
  · rw [a]
  · rw [b1, b2]
theorem Chg.plain {w w' : World} {S : Set2} (h : Chg w w' S) {b : Nat} (hp : plainAt w b) : plainAt w' b := by
  obtain ⟨cs, e, hp⟩ := hp
  have hb : b < w.heap.size := (Array.getElem?_eq_some_iff.1 hp).1
  rcases h.obj b hb with a | ⟨cs, e, cs', b1, b2, b3, b4⟩
  · exact ⟨cs, e, a.trans hp⟩
  · exact ⟨cs', e, b2⟩
theorem Chg.sg {w w' : World} {S : Set2} (h : Chg w w' S) {b o n v : Nat} (hs : Sg w b o n v) (hd : ∀ i, i < n → ¬ S b (o + i)) : Sg w' b o n v := fun i hi => by
  have := hs i hi
  rw [h.cell (lt_of_cell this) (hd i hi)]; exact this
theorem Chg.wr {w w' : World} {S : Set2} (h : Chg w w' S) {b o n : Nat} (hw : Wr w b o n) : Wr w' b o n := fun i hi => by
  obtain ⟨⟨u, hu⟩, hf⟩ := hw i hi
  exact ⟨chgSome h hu, by rw [h.frozen (lt_of_cell hu)]; exact hf⟩
theorem Chg.heap {w w' : World} {S : Set2} (h : Chg w w' S) {b : Nat} (hb : b < w.heap.size) (hs : ∀ i, ¬ S b i) : w'.heap[b]? = w.heap[b]? := by
  rcases h.obj b hb with a | ⟨cs, e, cs', b1, b2, b3, b4⟩
  · exact a
  · rw [b1, b2]
    have : cs' = cs := Array.ext_getElem? fun i => b4 i (hs i)
    rw [this]
theorem Chg.setCell {w : World} {b o : Nat} {v : Value} (hf : Own w b) (S : Set2) (hs : S b o) : Chg w (w.setCell ⟨b, o, none⟩ v) S := by
  obtain ⟨hg, hf⟩ := hf
  refine ⟨by simp, fun b' hb => ?_, rfl, rfl, fun a => World.frozen?_setCell .., fun b' hb _ => heap_setCell_other w ⟨b, o, none⟩ b' v (by simp; omega)⟩
  by_cases h : b' = b
  · subst h
    obtain ⟨cs, e, hp⟩ := hf
    refine .inr ⟨cs, e, cs.setIfInBounds o v, hp, ?_, by simp, fun i hi => ?_⟩
    · simp [World.setCell, Array.getElem?_modify, hp]
    · have : o ≠ i := fun e => hi (by subst e; exact hs)
      rw [Array.getElem?_setIfInBounds_ne this]
  · exact .inl (heap_setCell_other w ⟨b, o, none⟩ b' v h)
theorem plain_setCell {w : World} {a : Addr} {v : Value} {b : Nat} (h : plainAt w b) : plainAt (w.setCell a v) b := by
  obtain ⟨cs, e, hp⟩ := h
  by_cases hb : b = a.block
  · subst hb
    refine ⟨if a.spot.isSome then cs else cs.setIfInBounds a.off v, e, ?_⟩
    simp [World.setCell, Array.getElem?_modify, hp]
  · exact ⟨cs, e, by rw [heap_setCell_other w a b v hb]; exact hp⟩
theorem Chg.alloc (w : World) (o : Obj) (hf : ∀ a, (w.alloc o).frozen? a = w.frozen? a) (S : Set2) : Chg w (w.alloc o) S :=
  ⟨by simp, fun b hb => .inl (heap_alloc_old w o hb), rfl, rfl, hf, fun b _ hb => heap_alloc_old w o hb⟩
theorem own_setCell {w : World} {a : Addr} {v : Value} {b : Nat} (h : Own w b) : Own (w.setCell a v) b := ⟨h.1, plain_setCell h.2⟩
theorem Chg.own {w w' : World} {S : Set2} (h : Chg w w' S) {b : Nat} (hp : Own w b) : Own w' b := ⟨hp.1, h.plain hp.2⟩
theorem Sg.zero {w : World} {b o v : Nat} : Sg w b o 0 v := fun i hi => by omega
theorem Wr.zero {w : World} {b o : Nat} : Wr w b o 0 := fun i hi => by omega
theorem Sg.le {w : World} {b o n m v : Nat} (h : Sg w b o n v) (hm : m ≤ n) : Sg w b o m v := fun i hi => h i (by omega)
theorem Wr.le {w : World} {b o n m : Nat} (h : Wr w b o n) (hm : m ≤ n) : Wr w b o m := fun i hi => h i (by omega)
theorem Wr.sub {w : World} {b o n : Nat} (h : Wr w b o n) (k m : Nat) (hm : k + m ≤ n) : Wr w b (o + k) m := fun i hi => by rw [Nat.add_assoc]; exact h (k + i) (by omega)
theorem Sg.congr {w : World} {b o n v v' : Nat} (h : Sg w b o n v) (hv : ∀ i, i < n → dg v' i = dg v i) : Sg w b o n v' := fun i hi => by rw [hv i hi]; exact h i hi
theorem Sg.mod {w : World} {b o n v : Nat} (h : Sg w b o n v) : Sg w b o n (v % BB ^ n) := h.congr fun i hi => dg_mod v n i hi
theorem Sg.hi {w : World} {b o n v : Nat} (h : Sg w b o n v) (k m : Nat) (hm : k + m ≤ n) : Sg w b (o + k) m (v / BB ^ k) := fun i hi => by
  rw [Nat.add_assoc, dg_div]; exact h (k + i) (by omega)
theorem Sg.join {w : World} {b o n m v u : Nat} (h1 : Sg w b o n v) (h2 : Sg w b (o + n) m u) (hv : v < BB ^ n) : Sg w b o (n + m) (v + BB ^ n * u) := fun i hi => by
  by_cases h : i < n
  · rw [dg_add_lo _ _ _ _ h]; exact h1 i h
  · obtain ⟨j, rfl⟩ : ∃ j, i = n + j := ⟨i - n, by omega⟩
    rw [dg_add_hi _ _ _ _ hv, ← Nat.add_assoc]; exact h2 j (by omega)
theorem Wr.join {w : World} {b o n m : Nat} (h1 : Wr w b o n) (h2 : Wr w b (o + n) m) : Wr w b o (n + m) := fun i hi => by
  by_cases h : i < n
  · exact h1 i h
  · have := h2 (i - n) (by omega)
    rw [show o + n + (i - n) = o + i by omega] at this; exact this
theorem Sg.snoc {w : World} {b o n v d : Nat} (h : Sg w b o n v) (hv : v < BB ^ n) (hd : d < BB) (hc : w.cell? ⟨b, o + n, none⟩ = some (.int .u64 (d : Int))) : Sg w b o (n + 1) (v + BB ^ n * d) :=
  h.join (fun i hi => by obtain rfl : i = 0 := by omega
                         rw [dg_self d hd]; exact hc) hv
theorem Sg.inj {w : World} {b o n v v' : Nat} (h : Sg w b o n v) (h' : Sg w b o n v') : v % BB ^ n = v' % BB ^ n := by
  induction n with
  | zero => simp [Nat.mod_one]
  | succ n ih =>
    rw [mod_succ, mod_succ, ih (h.le (by omega)) (h'.le (by omega))]
    have a := h n (by omega)
    have b := h' n (by omega)
    rw [a] at b
    simp only [Option.some.injEq, Value.int.injEq, true_and] at b
    have : dg v n = dg v' n := by omega
    rw [this]
structure Sl where
  a : Option Addr
  l : Nat
  c : Nat
  b : Nat
  o : Nat
abbrev Sl.v (s : Sl) : Value := .slice s.a s.l s.c
structure St (w : World) (s : Sl) : Prop where
  lc : s.l ≤ s.c
  at_ : s.c ≠ 0 → s.a = some ⟨s.b, s.o, none⟩
  wr : Wr w s.b s.o s.c
  pl : s.c ≠ 0 → Own w s.b
  cm : s.c ≤ 9223372036854775807
  gb : GB ≤ w.heap.size
structure Nt (w : World) (s : Sl) (v : Nat) : Prop extends St w s where
  sg : Sg w s.b s.o s.l v
  lt : v < BB ^ s.l
def Nm (s : Sl) (v : Nat) : Prop := ∀ k, v < BB ^ k → s.l ≤ k
def fp (s : Sl) : Set2 := inR s.b s.o (s.o + s.c)
def From (w : World) (z r : Sl) : Prop := (r.a = z.a ∧ r.c = z.c ∧ r.b = z.b ∧ r.o = z.o) ∨ w.heap.size ≤ r.b
def Sep (z x : Sl) : Prop := z.c = 0 ∨ x.l = 0 ∨ x.b ≠ z.b ∨ z.o + z.c ≤ x.o ∨ x.o + x.l ≤ z.o ∨ x.o = z.o
def Apart (z x : Sl) : Prop := z.c = 0 ∨ x.l = 0 ∨ x.b ≠ z.b ∨ z.o + z.c ≤ x.o ∨ x.o + x.l ≤ z.o
theorem Chg.st {w w' : World} {S : Set2} (h : Chg w w' S) {s : Sl} (hs : St w s) : St w' s := ⟨hs.lc, hs.at_, h.wr hs.wr, fun hc => h.own (hs.pl hc), hs.cm, Nat.le_trans hs.gb h.size⟩
theorem Chg.nt {w w' : World} {S : Set2} (h : Chg w w' S) {s : Sl} {v : Nat} (hs : Nt w s v) (hd : ∀ i, i < s.l → ¬ S s.b (s.o + i)) : Nt w' s v :=
  { h.st hs.toSt with sg := h.sg hs.sg hd, lt := hs.lt }
theorem Chg.nt_fp {w w' : World} {z : Sl} (h : Chg w w' (fp z)) {s : Sl} {v : Nat} (hs : Nt w s v) (hd : Apart z s) : Nt w' s v :=
  h.nt hs fun i hi hm => by
    obtain ⟨h1, h2, h3⟩ := hm
    unfold Apart at hd; omega
theorem Chg.nt_none {w w' : World} (h : Chg w w' none2) {s : Sl} {v : Nat} (hs : Nt w s v) : Nt w' s v := h.nt hs fun _ _ hm => hm
theorem plain_lt {w : World} {b : Nat} (h : plainAt w b) : b < w.heap.size := by
  obtain ⟨cs, e, hp⟩ := h; exact (Array.getElem?_eq_some_iff.1 hp).1
theorem St.blk {w : World} {s : Sl} (h : St w s) (hc : s.c ≠ 0) : s.b < w.heap.size := plain_lt (h.pl hc).2
theorem lt_pow_of_le {v n m : Nat} (h : v < BB ^ n) (hm : n ≤ m) : v < BB ^ m := Nat.lt_of_lt_of_le h (Nat.pow_le_pow_right BB_pos hm)
theorem Nm.zero {s : Sl} (h : s.l = 0) (v : Nat) : Nm s v := fun k _ => by omega
theorem Nm.top {s : Sl} {v : Nat} (h : s.l ≠ 0 → BB ^ (s.l - 1) ≤ v) : Nm s v := fun k hk => by
  by_cases h0 : s.l = 0
  · omega
  · have := h h0
    have := (Nat.pow_lt_pow_iff_right (show 1 < BB by unfold BB; omega)).1 (Nat.lt_of_le_of_lt this hk)
    omega
theorem Nm.le {s : Sl} {v : Nat} (h : Nm s v) (h0 : s.l ≠ 0) : BB ^ (s.l - 1) ≤ v := by
  rcases Nat.lt_or_ge v (BB ^ (s.l - 1)) with h1 | h1
  · have := h _ h1; omega
  · exact h1
theorem Nm.of_len {s s' : Sl} {v : Nat} (h : Nm s v) (hl : s'.l = s.l) : Nm s' v := fun k hk => by rw [hl]; exact h k hk
theorem Nm.uniq {w : World} {s s' : Sl} {v : Nat} (h : Nm s v) (h' : Nm s' v) (n : Nt w s v) (n' : Nt w s' v) : s.l = s'.l := Nat.le_antisymm (h _ n'.lt) (h' _ n.lt)
theorem Nm.zero_iff {w : World} {s : Sl} {v : Nat} (h : Nm s v) (n : Nt w s v) : s.l = 0 ↔ v = 0 := by
  constructor
  · intro h0; have := n.lt; rw [h0] at this; simpa using this
  · intro h0; have := h 0 (by subst h0; simp); omega
structure Rd (w : World) (s : Sl) (v : Nat) : Prop where
  at_ : s.l ≠ 0 → s.a = some ⟨s.b, s.o, none⟩
  sg : Sg w s.b s.o s.l v
  lt : v < BB ^ s.l
structure Wt (w : World) (s : Sl) : Prop where
  at_ : s.l ≠ 0 → s.a = some ⟨s.b, s.o, none⟩
  wr : Wr w s.b s.o s.l
  pl : s.l ≠ 0 → Own w s.b
  lm : s.l ≤ 9223372036854775807
theorem Nt.rd {w : World} {s : Sl} {v : Nat} (h : Nt w s v) : Rd w s v := ⟨fun h0 => h.at_ (by have := h.lc; omega), h.sg, h.lt⟩
theorem St.wt {w : World} {s : Sl} (h : St w s) : Wt w s := ⟨fun h0 => h.at_ (by have := h.lc; omega), h.wr.le h.lc, fun h0 => h.pl (by have := h.lc; omega), by have := h.lc; have := h.cm; omega⟩
def Sl.sub (s : Sl) (i h : Nat) : Sl := ⟨shifted s.a i s.c 1, h - i, s.c - i, s.b, s.o + i⟩
def Sl.to (s : Sl) (h : Nat) : Sl := ⟨s.a, h, s.c, s.b, s.o⟩
theorem Nt.lo {w : World} {s : Sl} {v : Nat} (h : Nt w s v) (n : Nat) (hn : n ≤ s.l) : Rd w (s.to n) (v % BB ^ n) :=
  ⟨fun h0 => h.at_ (by have := h.lc; have : n ≠ 0 := h0; omega), (h.sg.le hn).mod, Nat.mod_lt _ (BBpow_pos n)⟩
theorem at_sub {s : Sl} {i h : Nat} (ha : s.c ≠ 0 → s.a = some ⟨s.b, s.o, none⟩) (hh : h ≤ s.c) (h0 : h - i ≠ 0) : (s.sub i h).a = some ⟨s.b, s.o + i, none⟩ := by
  show shifted s.a i s.c 1 = _
  rw [ha (by omega), shifted_eq _ _ _ _ (by omega)]
theorem Nt.hi {w : World} {s : Sl} {v : Nat} (h : Nt w s v) (n : Nat) (hn : n ≤ s.l) : Rd w (s.sub n s.l) (v / BB ^ n) := by
  refine ⟨fun h0 => at_sub h.at_ h.lc h0, h.sg.hi n (s.l - n) (by omega), ?_⟩
  show v / BB ^ n < BB ^ (s.l - n)
  rw [Nat.div_lt_iff_lt_mul (BBpow_pos n), ← Nat.pow_add, Nat.sub_add_cancel hn]; exact h.lt
theorem St.to_wt {w : World} {s : Sl} (h : St w s) (n : Nat) (hn : n ≤ s.c) : Wt w (s.to n) :=
  ⟨fun h0 => h.at_ (by have : n ≠ 0 := h0; omega), h.wr.le hn, fun h0 => h.pl (by have : n ≠ 0 := h0; omega), by have := h.cm; show n ≤ _; omega⟩
theorem St.sub_wt {w : World} {s : Sl} (h : St w s) (i n : Nat) (hi : i ≤ n) (hn : n ≤ s.c) : Wt w (s.sub i n) :=
  ⟨fun h0 => at_sub h.at_ hn h0, h.wr.sub i (n - i) (by omega), fun h0 => h.pl (by have : n - i ≠ 0 := h0; omega), by have := h.cm; show n - i ≤ _; omega⟩
theorem St.to_st {w : World} {s : Sl} (h : St w s) (n : Nat) (hn : n ≤ s.c) : St w (s.to n) := ⟨hn, h.at_, h.wr, h.pl, h.cm, h.gb⟩
theorem Chg.rd {w w' : World} {S : Set2} (h : Chg w w' S) {s : Sl} {v : Nat} (hs : Rd w s v) (hd : ∀ i, i < s.l → ¬ S s.b (s.o + i)) : Rd w' s v := ⟨hs.at_, h.sg hs.sg hd, hs.lt⟩
theorem Chg.wt {w w' : World} {S : Set2} (h : Chg w w' S) {s : Sl} (hs : Wt w s) : Wt w' s := ⟨hs.at_, h.wr hs.wr, fun h0 => h.own (hs.pl h0), hs.lm⟩
def Ov (z x : Sl) : Prop := x.l = 0 ∨ x.b ≠ z.b ∨ z.o ≤ x.o ∨ x.o + x.l ≤ z.o
theorem Ov.not {z x : Sl} (h : Ov z x) {k i : Nat} (hk : k ≤ i) (hi : i < x.l) : ¬ inR z.b z.o (z.o + k) x.b (x.o + i) := by
  rintro ⟨h1, h2, h3⟩; unfold Ov at h; omega
theorem Chg.step {w wr w2 : World} {b o k : Nat} {v : Value} (h : Chg w wr (inR b o (o + k))) (h2 : Calm wr w2) (hp : Own wr b) : Chg w (w2.setCell ⟨b, o + k, none⟩ v) (inR b o (o + (k + 1))) := by
  have hp2 : Own w2 b := (Chg.of_heap h2 none2).own hp
  refine (h.mono (fun b' i _ hm => ⟨hm.1, hm.2.1, by have := hm.2.2; omega⟩)).trans' ((Chg.of_heap h2 _).trans' (Chg.setCell hp2 _ ⟨rfl, by omega, by omega⟩))
theorem Sg.step {wr w2 : World} {b o k z d : Nat} (h : Sg wr b o k z) (hz : z < BB ^ k) (hd : d < BB) (h2 : Calm wr w2) (hp : Own wr b) (hu : ∃ u, w2.cell? ⟨b, o + k, none⟩ = some u) :
    Sg (w2.setCell ⟨b, o + k, none⟩ (.int .u64 (d : Int))) b o (k + 1) (z + BB ^ k * d) := by
  have hp2 : Own w2 b := (Chg.of_heap h2 none2).own hp
  obtain ⟨u, hu⟩ := hu
  refine Sg.snoc ?_ hz hd (World.cell?_setCell_same _ _ _ hu)
  have h3 : Chg wr (w2.setCell ⟨b, o + k, none⟩ (.int .u64 (d : Int))) (inR b (o + k) (o + k + 1)) := (Chg.of_heap h2 _).trans' (Chg.setCell hp2 _ ⟨rfl, by omega, by omega⟩)
  exact h3.sg h fun i hi hm => by have := hm.2.1; omega
end Go.Proofs.YtlkjiiibmfpbcaaGreatDoor
namespace Go.Proofs.YtlkjiiibmfpbcaaGreatDoor
open Go
set_option maxRecDepth 100000
set_option linter.unusedVariables false
namespace F148
noncomputable def body:Code:=bodyOf Tryz.f148
def kt:List (Nat × List Nat):=[]
variable (I0 I1:Int)
abbrev l0:List (Nat × Value):=[eU 0 I0,eU 1 I1]
def v0:VP:=fun B ds w K=>Cl 169 #[(.int .u64 I0),(.int .u64 I1)] w fun r1 w2=>∃ x3,True∧∃ x4,True∧r1=.returned (.tuple #[(.int .u64 x3),(.int .u64 x4)])∧Kd K .ret [eU 4 x3,eU 5 x4] ds w2
theorem t0:VZ 30 body (l0 I0 I1) (v0 I0 I1):=tz kt [4,5] fun B ds w K=>by kernel_rfl
theorem call:VCl 148 [.tmp 4,.tmp 5] #[.int .u64 I0,.int .u64 I1] (v0 I0 I1):=cz Tryz.func148 (by kernel_rfl) Tryz.ntmps148 Tryz.results148 (by kernel_rfl) (t0 I0 I1)
end F148
namespace F163
noncomputable def body:Code:=bodyOf Tryz.f163
def kt:List (Nat × List Nat):=[]
variable (I0 I1 I2:Int)
abbrev l0:List (Nat × Value):=[eU 0 I0,eU 1 I1,eU 2 I2]
def v0:VP:=fun B ds w K=>∃ w1,∃ x2,True∧∃ x3,True∧Sem.run Tryz.prog (callFunc 181 #[(.int .u64 I0),(.int .u64 I1),(.int .u64 I2)]) w=.ok (.value (.tuple #[(.int .u64 x2),(.int .u64 x3)])) w1∧Kd K .ret [eU 6 x2,eU 7 x3] ds w1
theorem t0:VZ 35 body (l0 I0 I1 I2) (v0 I0 I1 I2):=tz kt [6,7] fun B ds w K=>by kernel_rfl
theorem call:VCl 163 [.tmp 6,.tmp 7] #[.int .u64 I0,.int .u64 I1,.int .u64 I2] (v0 I0 I1 I2):=cz Tryz.func163 (by kernel_rfl) Tryz.ntmps163 Tryz.results163 (by kernel_rfl) (t0 I0 I1 I2)
end F163
namespace F122
noncomputable def body:Code:=bodyOf Tryz.f122
def kt:List (Nat × List Nat):=[]
variable (I0 I1 I2:Int)
abbrev l0:List (Nat × Value):=[eU 0 I0,eU 1 I1,eU 2 I2]
def v0:VP:=fun B ds w K=>∃ w1,∃ x2,True∧∃ x3,True∧Sem.run Tryz.prog (callFunc 153 #[(.int .u64 I0),(.int .u64 I1),(.int .u64 I2)]) w=.ok (.value (.tuple #[(.int .u64 x2),(.int .u64 x3)])) w1∧Kd K .ret [eU 6 x2,eU 7 x3] ds w1
theorem t0:VZ 35 body (l0 I0 I1 I2) (v0 I0 I1 I2):=tz kt [6,7] fun B ds w K=>by kernel_rfl
theorem call:VCl 122 [.tmp 6,.tmp 7] #[.int .u64 I0,.int .u64 I1,.int .u64 I2] (v0 I0 I1 I2):=cz Tryz.func122 (by kernel_rfl) Tryz.ntmps122 Tryz.results122 (by kernel_rfl) (t0 I0 I1 I2)
end F122
namespace F112
noncomputable def body:Code:=bodyOf Tryz.f112
def kt:List (Nat × List Nat):=[]
variable (I0:Int)
abbrev l0:List (Nat × Value):=[eU 0 I0]
def v0:VP:=fun B ds w K=>Cl 84 #[(.int .u64 I0)] w fun r1 w2=>∃ x3,r1=.returned (.int .i64 x3)∧inI64 (64-x3)∧Kd K .ret [eI 2 (64-x3)] ds w2
theorem t0:VZ 6 body (l0 I0) (v0 I0):=tz kt [2] fun B ds w K=>by kernel_rfl
theorem call:VCl 112 [.tmp 2] #[.int .u64 I0] (v0 I0):=cz Tryz.func112 (by kernel_rfl) Tryz.ntmps112 Tryz.results112 (by kernel_rfl) (t0 I0)
end F112
namespace F78
noncomputable def body:Code:=bodyOf Tryz.f78
def kt:List (Nat × List Nat):=[]
variable (I0:Int)
abbrev l0:List (Nat × Value):=[eU 0 I0]
def v0:VP:=fun B ds w K=>Cl 112 #[(.int .u64 I0)] w fun r1 w2=>∃ x3,r1=.returned (.int .i64 x3)∧Kd K .ret [eU 2 (IntKind.wrap .u64 x3)] ds w2
theorem t0:VZ 6 body (l0 I0) (v0 I0):=tz kt [2] fun B ds w K=>by kernel_rfl
theorem call:VCl 78 [.tmp 2] #[.int .u64 I0] (v0 I0):=cz Tryz.func78 (by kernel_rfl) Tryz.ntmps78 Tryz.results78 (by kernel_rfl) (t0 I0)
end F78
namespace F113
noncomputable def body:Code:=bodyOf Tryz.f113
def kt:List (Nat × List Nat):=[]
variable (I0 I1:Int)
abbrev l0:List (Nat × Value):=[eU 0 I0,eU 1 I1]
def v0:VP:=fun B ds w K=>Cl 148 #[(.int .u64 I0),(.int .u64 I1)] w fun r1 w2=>∃ x3,True∧∃ x4,True∧r1=.returned (.tuple #[(.int .u64 x3),(.int .u64 x4)])∧Kd K .ret [eU 4 x3,eU 5 x4] ds w2
theorem t0:VZ 16 body (l0 I0 I1) (v0 I0 I1):=tz kt [4,5] fun B ds w K=>by kernel_rfl
theorem call:VCl 113 [.tmp 4,.tmp 5] #[.int .u64 I0,.int .u64 I1] (v0 I0 I1):=cz Tryz.func113 (by kernel_rfl) Tryz.ntmps113 Tryz.results113 (by kernel_rfl) (t0 I0 I1)
end F113
namespace F158
noncomputable def body:Code:=bodyOf Tryz.f158
def kt:List (Nat × List Nat):=[]
variable (I0 I1 I2:Int)
abbrev l0:List (Nat × Value):=[eU 0 I0,eU 1 I1,eU 2 I2]
def v0:VP:=fun B ds w K=>Cl 148 #[(.int .u64 I0),(.int .u64 I1)] w fun r1 w2=>∃ x3,True∧∃ x4,True∧r1=.returned (.tuple #[(.int .u64 x3),(.int .u64 x4)])∧Cl 163 #[(.int .u64 x4),(.int .u64 I2),(.int .u64 0)] w2 fun r5 w6=>∃ x7,True∧∃ x8,True∧r5=.returned (.tuple #[(.int .u64 x7),(.int .u64 x8)])∧Kd K .ret [eU 6 (IntKind.wrap .u64 (x3+x8)),eU 7 x7] ds w6
theorem t0:VZ 27 body (l0 I0 I1 I2) (v0 I0 I1 I2):=tz kt [6,7] fun B ds w K=>by kernel_rfl
theorem call:VCl 158 [.tmp 6,.tmp 7] #[.int .u64 I0,.int .u64 I1,.int .u64 I2] (v0 I0 I1 I2):=cz Tryz.func158 (by kernel_rfl) Tryz.ntmps158 Tryz.results158 (by kernel_rfl) (t0 I0 I1 I2)
end F158
namespace F91
noncomputable def body:Code:=bodyOf Tryz.f91
def kt:List (Nat × List Nat):=[]
variable (A0:Option Addr) (N0 C0:Nat) (A1:Option Addr) (N1 C1:Nat) (I2 I3:Int)
abbrev l0:List (Nat × Value):=[eS 0 A0 N0 C0,eS 1 A1 N1 C1,eU 2 I2,eU 3 I3]
def v0:VP:=fun B ds w K=>Cl 127 #[(.slice A0 N0 C0),(.slice A1 N1 C1),(.int .u64 I2),(.int .u64 I3)] w fun r1 w2=>∃ x3,r1=.returned (.int .u64 x3)∧Kd K .ret [eU 8 x3] ds w2
theorem t0:VZ 14 body (l0 A0 N0 C0 A1 N1 C1 I2 I3) (v0 A0 N0 C0 A1 N1 C1 I2 I3):=tz kt [8] fun B ds w K=>by kernel_rfl
theorem call:VCl 91 [.tmp 8] #[.slice A0 N0 C0,.slice A1 N1 C1,.int .u64 I2,.int .u64 I3] (v0 A0 N0 C0 A1 N1 C1 I2 I3):=cz Tryz.func91 (by kernel_rfl) Tryz.ntmps91 Tryz.results91 (by kernel_rfl) (t0 A0 N0 C0 A1 N1 C1 I2 I3)
end F91
namespace F145
noncomputable def body:Code:=bodyOf Tryz.f145
def kt:List (Nat × List Nat):=[]
variable (A0:Option Addr) (N0 C0:Nat) (A1:Option Addr) (N1 C1:Nat) (I2:Int)
abbrev l0:List (Nat × Value):=[eS 0 A0 N0 C0,eS 1 A1 N1 C1,eU 2 I2]
def v0:VP:=fun B ds w K=>Cl 165 #[(.slice A0 N0 C0),(.slice A1 N1 C1),(.int .u64 I2)] w fun r1 w2=>∃ x3,r1=.returned (.int .u64 x3)∧Kd K .ret [eU 6 x3] ds w2
theorem t0:VZ 11 body (l0 A0 N0 C0 A1 N1 C1 I2) (v0 A0 N0 C0 A1 N1 C1 I2):=tz kt [6] fun B ds w K=>by kernel_rfl
theorem call:VCl 145 [.tmp 6] #[.slice A0 N0 C0,.slice A1 N1 C1,.int .u64 I2] (v0 A0 N0 C0 A1 N1 C1 I2):=cz Tryz.func145 (by kernel_rfl) Tryz.ntmps145 Tryz.results145 (by kernel_rfl) (t0 A0 N0 C0 A1 N1 C1 I2)
end F145
namespace F147
noncomputable def body:Code:=bodyOf Tryz.f147
def kt:List (Nat × List Nat):=[]
variable (A0:Option Addr) (N0 C0:Nat) (A1:Option Addr) (N1 C1:Nat) (I2:Int)
abbrev l0:List (Nat × Value):=[eS 0 A0 N0 C0,eS 1 A1 N1 C1,eU 2 I2]
def v0:VP:=fun B ds w K=>Cl 167 #[(.slice A0 N0 C0),(.slice A1 N1 C1),(.int .u64 I2)] w fun r1 w2=>∃ x3,r1=.returned (.int .u64 x3)∧Kd K .ret [eU 6 x3] ds w2
theorem t0:VZ 11 body (l0 A0 N0 C0 A1 N1 C1 I2) (v0 A0 N0 C0 A1 N1 C1 I2):=tz kt [6] fun B ds w K=>by kernel_rfl
theorem call:VCl 147 [.tmp 6] #[.slice A0 N0 C0,.slice A1 N1 C1,.int .u64 I2] (v0 A0 N0 C0 A1 N1 C1 I2):=cz Tryz.func147 (by kernel_rfl) Tryz.ntmps147 Tryz.results147 (by kernel_rfl) (t0 A0 N0 C0 A1 N1 C1 I2)
end F147
namespace F82
noncomputable def body:Code:=bodyOf Tryz.f82
def kt:List (Nat × List Nat):=[]
variable (A0:Option Addr) (N0 C0:Nat) (A1:Option Addr) (N1 C1:Nat) (A2:Option Addr) (N2 C2:Nat)
abbrev l0:List (Nat × Value):=[eS 0 A0 N0 C0,eS 1 A1 N1 C1,eS 2 A2 N2 C2]
def v0:VP:=fun B ds w K=>Cl 121 #[(.slice A0 N0 C0),(.slice A1 N1 C1),(.slice A2 N2 C2)] w fun r1 w2=>∃ x3,r1=.returned (.int .u64 x3)∧Kd K .ret [eU 6 x3] ds w2
theorem t0:VZ 11 body (l0 A0 N0 C0 A1 N1 C1 A2 N2 C2) (v0 A0 N0 C0 A1 N1 C1 A2 N2 C2):=tz kt [6] fun B ds w K=>by kernel_rfl
theorem call:VCl 82 [.tmp 6] #[.slice A0 N0 C0,.slice A1 N1 C1,.slice A2 N2 C2] (v0 A0 N0 C0 A1 N1 C1 A2 N2 C2):=cz Tryz.func82 (by kernel_rfl) Tryz.ntmps82 Tryz.results82 (by kernel_rfl) (t0 A0 N0 C0 A1 N1 C1 A2 N2 C2)
end F82
namespace F138
noncomputable def body:Code:=bodyOf Tryz.f138
def kt:List (Nat × List Nat):=[]
variable (A0:Option Addr) (N0 C0:Nat) (A1:Option Addr) (N1 C1:Nat) (A2:Option Addr) (N2 C2:Nat)
abbrev l0:List (Nat × Value):=[eS 0 A0 N0 C0,eS 1 A1 N1 C1,eS 2 A2 N2 C2]
def v0:VP:=fun B ds w K=>Cl 162 #[(.slice A0 N0 C0),(.slice A1 N1 C1),(.slice A2 N2 C2)] w fun r1 w2=>∃ x3,r1=.returned (.int .u64 x3)∧Kd K .ret [eU 6 x3] ds w2
theorem t0:VZ 11 body (l0 A0 N0 C0 A1 N1 C1 A2 N2 C2) (v0 A0 N0 C0 A1 N1 C1 A2 N2 C2):=tz kt [6] fun B ds w K=>by kernel_rfl
theorem call:VCl 138 [.tmp 6] #[.slice A0 N0 C0,.slice A1 N1 C1,.slice A2 N2 C2] (v0 A0 N0 C0 A1 N1 C1 A2 N2 C2):=cz Tryz.func138 (by kernel_rfl) Tryz.ntmps138 Tryz.results138 (by kernel_rfl) (t0 A0 N0 C0 A1 N1 C1 A2 N2 C2)
end F138
namespace F146
noncomputable def body:Code:=bodyOf Tryz.f146
def kt:List (Nat × List Nat):=[]
variable (A0:Option Addr) (N0 C0:Nat) (A1:Option Addr) (N1 C1:Nat) (A2:Option Addr) (N2 C2:Nat) (I3 I4:Int)
abbrev l0:List (Nat × Value):=[eS 0 A0 N0 C0,eS 1 A1 N1 C1,eS 2 A2 N2 C2,eU 3 I3,eU 4 I4]
def v0:VP:=fun B ds w K=>Cl 166 #[(.slice A0 N0 C0),(.slice A1 N1 C1),(.slice A2 N2 C2),(.int .u64 I3),(.int .u64 I4)] w fun r1 w2=>∃ x3,r1=.returned (.int .u64 x3)∧Kd K .ret [eU 10 x3] ds w2
theorem t0:VZ 17 body (l0 A0 N0 C0 A1 N1 C1 A2 N2 C2 I3 I4) (v0 A0 N0 C0 A1 N1 C1 A2 N2 C2 I3 I4):=tz kt [10] fun B ds w K=>by kernel_rfl
theorem call:VCl 146 [.tmp 10] #[.slice A0 N0 C0,.slice A1 N1 C1,.slice A2 N2 C2,.int .u64 I3,.int .u64 I4] (v0 A0 N0 C0 A1 N1 C1 A2 N2 C2 I3 I4):=cz Tryz.func146 (by kernel_rfl) Tryz.ntmps146 Tryz.results146 (by kernel_rfl) (t0 A0 N0 C0 A1 N1 C1 A2 N2 C2 I3 I4)
end F146
namespace F84
noncomputable def body:Code:=bodyOf Tryz.f84
def kt:List (Nat × List Nat):=[]
variable (I0:Int)
abbrev l0:List (Nat × Value):=[eU 0 I0]
def v0:VP:=fun B ds w K=>Cl 124 #[(.int .u64 I0)] w fun r1 w2=>∃ x3,r1=.returned (.int .i64 x3)∧Kd K .ret [eI 2 x3] ds w2
theorem t0:VZ 8 body (l0 I0) (v0 I0):=tz kt [2] fun B ds w K=>by kernel_rfl
theorem call:VCl 84 [.tmp 2] #[.int .u64 I0] (v0 I0):=cz Tryz.func84 (by kernel_rfl) Tryz.ntmps84 Tryz.results84 (by kernel_rfl) (t0 I0)
end F84
end Go.Proofs.YtlkjiiibmfpbcaaGreatDoor
