/- Contracts: the table of divisors, an entry; the whole. Conditions: bases 2 to 62, numbers of 9 to 260 words. -/
import Derived.ArgAppend
import Derived.Test.YtlkjiiibmfpbcaaGreatDoorR36
import Derived.Test.YtlkjiiibmfpbcaaGreatDoorR35
import Derived.Test.YtlkjiiibmfpbcaaGreatDoorR22
namespace Go.Proofs.YtlkjiiibmfpbcaaGreatDoor
open Go
theorem rowMade (w : World) (hg : GB ≤ w.heap.size) (z : Array Value) (n : Nat) (t : TypeId) {L : List Item} (h : Bank w L) : Bank (w.alloc (.cells (madeCells z n) t)) (row w.heap.size n (fun j => z[j % z.size]!) :: L) ∧ Chg w (w.alloc (.cells (madeCells z n) t)) none2 := by
 have hh : (w.alloc (.cells (madeCells z n) t)).heap[w.heap.size]? = some (.cells (madeCells z n) t (0, 0)) := heap_alloc_new ..
 have hc : Chg w (w.alloc (.cells (madeCells z n) t)) none2 := Chg.alloc _ _ (fun a => RowKit.frozen?_alloc_cells _ _ _ _) _
 refine ⟨h.new hc ⟨⟨hg, _, _, hh⟩, fun i hi => ?_, fun i hi => by rw [frozen_eq, hh]; simp⟩ fun _ _ hm => Nat.le_of_eq (Eq.symm hm), hc⟩
 rw [cell_eq, hh]
 show (madeCells z n)[i]? = _
 simp [madeCells, hi]
theorem len_of {w : World} {s : Sl} {V l : Nat} (h : Nz w s V) (h1 : BB ^ (l - 1) ≤ V) (h2 : V < BB ^ l) (h3 : 1 ≤ l) : s.l = l := by
 have a := h.nm l h2
 have b := (Nat.pow_lt_pow_iff_right (show 1 < BB by unfold BB; omega)).1 (Nat.lt_of_le_of_lt h1 h.lt)
 omega
section
variable {w : World} {K : SK} {tb k3 b nd bb k i : Nat} {f : Nat → Value} {L : List Item}
theorem ent59 {rc : Sl} {V dd l0 : Nat} (tl tc : Nat) (hb : Bank w (nmz rc V :: row tb k3 f :: L)) (hk3 : i * 3 + 3 ≤ k3) (hi : i < tl) (f0 : f (i * 3) = rc.v) (f2 : f (i * 3 + 2) = .int .i64 (dd : Int)) (hV : V = b ^ dd) (hb2 : 2 ≤ b) (hb62 : b ≤ 62) (hVl : BB ^ (l0 - 1) ≤ V) (hVu : V < BB ^ l0) (hl0 : 1 ≤ l0) (hl1 : l0 ≤ 1000)
  {e : Env} {sp : Option Addr} {K0 : Kont} (ha : agree e (F59.l10 sp b nd bb k (some ⟨tb, 0, none⟩) tl tc i))
  (q : ∀ e' w' (rc' : Sl) (dd' : Nat) (f' : Nat → Value), Bank w' (nmz rc' (b ^ dd') :: row tb k3 f' :: L) → b ^ dd' < BB ^ l0 → BB ^ l0 ≤ b ^ dd' * b → rc'.l = l0 → f' (i * 3) = rc'.v → f' (i * 3 + 1) = .int .i64 (blen (b ^ dd') : Int) → f' (i * 3 + 2) = .int .i64 (dd' : Int) → (∀ j, j ≠ i * 3 → j ≠ i * 3 + 1 → j ≠ i * 3 + 2 → f' j = f j) →
   Chg w w' (un (fp rc) (fun b' _ => b' = tb)) → agree e' (F59.l7 sp b nd bb k (some ⟨tb, 0, none⟩) tl tc i) → e'.defers = e.defers → K0 .normal e' w') :
  W Tryz.prog 136 F59.p10 e w K0 := by
 have rcN : Nz w rc V := hb.head
 have hrl := len_of rcN hVl hVu hl0
 have R0 : RowAt w tb k3 f := hb.tail.head
 have e0 : 0 + i * 3 + 0 = i * 3 := by omega
 refine F59.t10 sp b nd bb k (some ⟨tb, 0, none⟩) tl tc i ha fun B1 => ⟨tb, 0, rfl, i, rfl, hi, rc.a, rc.l, rc.c, by rw [e0, R0.cell _ (by omega), f0], ?_⟩
 refine ResE.pass (c60 (nilS w) rc V w (nilSt w rcN.gb) rcN (by unfold Len; omega)) fun lg w1 n1 f1 c1 => ⟨_, _, _, rfl, fun B2 => ?_⟩
 have lgnew : lg.c ≠ 0 → w.heap.size ≤ lg.b := fun h0 => by
  rcases f1 with ⟨_, _, e, _⟩ | h
  ·exact Nat.le_of_eq e.symm
  ·exact h
 have c1' : Chg w w1 none2 := c1.mono fun b i _ hm => by have h1 : 0 ≤ i := hm.2.1; have h2 : i < 0 + 0 := hm.2.2; omega
 have b1 : Bank w1 (nmz lg V :: nmz rc V :: row tb k3 f :: L) := hb.new c1' n1 fun b i hm => by rw [hm.1]; exact lgnew (by have := hm.2.1; have := hm.2.2; omega)
 refine grow59 tl tc b1 hk3 hi f0 f2 hV hb2 hb62 (len_of n1 hVl hVu hl0) hVl hVu hl0 hl1 ⟨rfl, rfl, rfl, rfl, rfl, rfl, rfl, rfl, trivial⟩ fun e' w2 rc2 V2 d2 f2 b2 hV2 u1 u2 hl2 g0 g2 gf c2 ha2 hd2 => ?_
 have rc2N : Nz w2 rc2 V2 := b2.head
 have R2 : RowAt w2 tb k3 f2 := b2.tail.head
 have e1 : 0 + i * 3 + 1 = i * 3 + 1 := by omega
 refine F59.t11 sp b nd bb k (some ⟨tb, 0, none⟩) tl tc i ha2 fun B3 => ⟨tb, 0, rfl, i, rfl, hi, rc2.a, rc2.l, rc2.c, by rw [e0, R2.cell _ (by omega), g0], (c53 rc2 V2 w2 rc2N (by unfold Len; omega)).mono ?_⟩
 rintro e'' w3 ⟨_, rfl, rfl, hw⟩
 have hw := hw.symm
 subst hw
 have b3 := setRow (show Bank w2 (row tb k3 f2 :: nmz rc2 V2 :: L) from b2.perm (List.Perm.swap _ _ _)) (i := i * 3 + 1) (by omega) (.int .i64 (blen V2 : Int))
 obtain ⟨R3, c3⟩ := RowAt.set R2 (i := i * 3 + 1) (by omega) (.int .i64 (blen V2 : Int))
 refine ⟨_, rfl, tb, 0, rfl, i, rfl, hi, ⟨_, by rw [e1]; exact R2.cell _ (by omega)⟩, by rw [e1]; exact R2.fr _ (by omega), fun B4 => ?_⟩
 rw [e1]
 subst hV2
 refine q _ _ rc2 d2 _ (b3.perm (List.Perm.swap _ _ _)) u1 u2 hl2 (by rw [setF_ne _ _ (by omega)]; exact g0) (setF_self _ _ _) (by rw [setF_ne _ _ (by omega)]; exact g2) (fun j h1 h2 h3 => by rw [setF_ne _ _ h2]; exact gf j h1 h3) ?_ ⟨rfl, rfl, rfl, rfl, rfl, rfl, rfl, trivial⟩ hd2
 refine ((c1'.none (un (fp rc) (fun b' _ => b' = tb))).via c2 fun b i hb hm => ?_).via c3 fun b i _ hm => .inr hm
 rcases hm with (hm | hm) | hm
 ·have := lgnew (by have := hm.2.1; have := hm.2.2; omega); have := hm.1; omega
 ·exact .inl hm
 ·exact .inr hm
end
theorem pow8 {bb b : Nat} (hb : b ≤ 62) (h : BB ≤ bb * b) : BB ^ 7 ≤ bb ^ 8 := by
 rcases Nat.lt_or_ge (bb ^ 8) (BB ^ 7) with h1 | h1
 ·have h2 : BB ^ 8 ≤ (bb * b) ^ 8 := Nat.pow_le_pow_left h 8
  have h3 : b ^ 8 ≤ 62 ^ 8 := Nat.pow_le_pow_left hb 8
  rw [Nat.mul_pow] at h2
  have h4 : bb ^ 8 * b ^ 8 ≤ bb ^ 8 * 62 ^ 8 := Nat.mul_le_mul_left _ h3
  have h5 : bb ^ 8 * 62 ^ 8 ≤ bb ^ 8 * BB := Nat.mul_le_mul_left _ (by rw [BB_eq]; decide)
  have h6 : bb ^ 8 * BB < BB ^ 7 * BB := Nat.mul_lt_mul_of_pos_right h1 BB_pos
  have h7 : BB ^ 8 = BB ^ 7 * BB := BBpow_succ 7
  rw [← h7] at h6
  omega
 ·exact h1
theorem sq_low {V b l : Nat} (hb : b ≤ 62) (h : BB ^ l ≤ V * b) (hl : 1 ≤ l) : BB ^ (2 * l - 1) ≤ V * V := by
 rcases Nat.lt_or_ge (V * V) (BB ^ (2 * l - 1)) with h1 | h1
 ·have h2 : BB ^ l * BB ^ l ≤ (V * b) * (V * b) := Nat.mul_le_mul h h
  have e1 : BB ^ l * BB ^ l = BB ^ (2 * l - 1) * BB := by rw [← Nat.pow_add, ← BBpow_succ, show 2 * l - 1 + 1 = l + l by omega]
  have e2 : (V * b) * (V * b) = (V * V) * (b * b) := by rw [Nat.mul_mul_mul_comm]
  have h3 : b * b ≤ 62 * 62 := Nat.mul_le_mul hb hb
  have h4 : (V * V) * (b * b) ≤ (V * V) * (62 * 62) := Nat.mul_le_mul_left _ h3
  have h5 : (V * V) * (62 * 62) ≤ (V * V) * BB := Nat.mul_le_mul_left _ (by rw [BB_eq]; decide)
  have h6 : (V * V) * BB < BB ^ (2 * l - 1) * BB := Nat.mul_lt_mul_of_pos_right h1 BB_pos
  omega
 ·exact h1
structure LD (w0 : World) (K : SK) (tb b k i : Nat) (L : List Item) (w : World) (K' : SK) (r : Nat → Sl) (d : Nat → Nat) (f : Nat → Value) : Prop where
 bank : Bank w (stk K' :: row tb (k * 3) f :: (ents b r d i ++ L))
 tf : TabF b r d i f
 rest : ∀ j, i ≤ j → j < k → f (j * 3 + 2) = .int .i64 0
 ok : EntOk b r d i
 ka : K'.a = K.a
 kl : K'.s.l = K.s.l
 nx : Nxt w0 K K'
 ch : Chg w0 w K.free
section
variable {w0 w : World} {K K' : SK} {tb b nd bb k i m : Nat} {f : Nat → Value} {L : List Item}
theorem round59 {r : Nat → Sl} {d : Nat → Nat} (h : LD w0 K tb b k i L w K' r d f) (hi : i < k) (hk6 : k ≤ 6) (htb : w0.heap.size ≤ tb) (hbb : bb = b ^ nd) (hb2 : 2 ≤ b) (hb62 : b ≤ 62) (hbb1 : bb < BB) (hbb2 : BB ≤ bb * b) (hnd : 1 ≤ nd ∧ nd ≤ 64) (hKa : K.a ≠ none) (hL : K.s.l ≤ 549755813888) (hg : Glc w0)
  {e : Env} {K0 : Kont} (ha : agree e (F59.l8 K.a b nd bb k (some ⟨tb, 0, none⟩) k k i))
  (q : ∀ e' w' K'' r' d' f', LD w0 K tb b k (i + 1) L w' K'' r' d' f' → agree e' (F59.l7 K.a b nd bb k (some ⟨tb, 0, none⟩) k k i) → e'.defers = e.defers → K0 .normal e' w') :
  W Tryz.prog 136 F59.p8 e w K0 := by
 have hgw := h.ch.glc hg
 have R0 : RowAt w tb (k * 3) f := h.bank.tail.head
 have e2 : 0 + i * 3 + 2 = i * 3 + 2 := by omega
 have e0 : 0 + i * 3 + 0 = i * 3 := by omega
 have hKa' := h.ka
 have hKl := h.kl
 have fin : ∀ (w1 : World) (K1 : SK) (rc : Sl) (dd : Nat) (f1 : Nat → Value) (e1 : Env), Bank w1 (nmz rc (b ^ dd) :: row tb (k * 3) f1 :: stk K1 :: (ents b r d i ++ L)) → f1 (i * 3) = rc.v → f1 (i * 3 + 2) = .int .i64 (dd : Int) → (∀ j, j ≠ i * 3 → j ≠ i * 3 + 2 → f1 j = f j) → BB ^ (8 * 2 ^ i - 1) ≤ b ^ dd → b ^ dd < BB ^ (8 * 2 ^ i) →
   K1.a = K.a → K1.s.l = K.s.l → Nxt w0 K K1 → Chg w0 w1 K.free → (rc.c ≠ 0 → w0.heap.size ≤ rc.b) → agree e1 (F59.l10 K.a b nd bb k (some ⟨tb, 0, none⟩) k k i) → e1.defers = e.defers → W Tryz.prog 136 F59.p10 e1 w1 K0 := by
  intro w1 K1 rc dd f1 e1 hb g0 g2 gf lo up a1 a2 a3 a4 hnew ha1 hd1
  have hl8 : 8 * 2 ^ i ≤ 1000 := by
   have : 2 ^ i ≤ 2 ^ 5 := Nat.pow_le_pow_right (by omega) (by omega)
   omega
  have hp : 0 < 2 ^ i := Nat.two_pow_pos i
  refine ent59 k k hb (by omega) hi g0 g2 rfl hb2 hb62 lo up (by omega) hl8 ha1 fun e' w2 rc2 d2 f2 b2 u1 u2 hl2 s0 s1 s2 sf c2 ha2 hd2 => ?_
  have hd2' : d2 ≤ 512 * 2 ^ i := by
   rcases Nat.lt_or_ge (512 * 2 ^ i) d2 with h | h
   ·have h2 : 2 ^ (512 * 2 ^ i) ≤ b ^ d2 := Nat.le_trans (Nat.pow_le_pow_left hb2 _) (Nat.pow_le_pow_right (by omega) (by omega))
    rw [show 512 * 2 ^ i = 64 * (8 * 2 ^ i) by omega, ← BB2] at h2
    omega
   ·exact h
  have hce : ents b (fun j => if j = i then rc2 else r j) (fun j => if j = i then d2 else d j) i = ents b r d i := ents_congr fun j hj => ⟨if_neg (by omega), if_neg (by omega)⟩
  refine q e' w2 K1 (fun j => if j = i then rc2 else r j) (fun j => if j = i then d2 else d j) f2 ⟨?_, ⟨fun j hj => ?_, fun j hj => ?_, fun j hj => ?_⟩, fun j h1 h2 => ?_, ⟨fun j hj => ?_, fun j hj => ?_, fun j hj => ?_, fun j hj => ?_⟩, a1, a2, a3, ?_⟩ ha2 (hd2.trans hd1)
  ·show Bank w2 (stk K1 :: row tb (k * 3) f2 :: (nmz (if i = i then rc2 else r i) (b ^ (if i = i then d2 else d i)) :: ents b _ _ i ++ L))
   rw [if_pos rfl, if_pos rfl, hce]
   exact b2.pick 3 [2, 1, 0] rfl
  ·by_cases hji : j = i
   ·subst hji; rw [if_pos rfl]; exact s0
   ·rw [if_neg hji, sf _ (by omega) (by omega) (by omega), gf _ (by omega) (by omega)]; exact h.tf.c0 j (by omega)
  ·by_cases hji : j = i
   ·subst hji; rw [if_pos rfl]; exact s1
   ·rw [if_neg hji, sf _ (by omega) (by omega) (by omega), gf _ (by omega) (by omega)]; exact h.tf.c1 j (by omega)
  ·by_cases hji : j = i
   ·subst hji; rw [if_pos rfl]; exact s2
   ·rw [if_neg hji, sf _ (by omega) (by omega) (by omega), gf _ (by omega) (by omega)]; exact h.tf.c2 j (by omega)
  ·rw [sf _ (by omega) (by omega) (by omega), gf _ (by omega) (by omega)]; exact h.rest j (by omega) h2
  ·by_cases hji : j = i
   ·subst hji; rw [if_pos rfl]; exact hl2
   ·rw [if_neg hji]; exact h.ok.len j (by omega)
  ·by_cases hji : j = i
   ·subst hji; rw [if_pos rfl]; exact u1
   ·rw [if_neg hji]; exact h.ok.lo j (by omega)
  ·by_cases hji : j = i
   ·subst hji; rw [if_pos rfl]; exact u2
   ·rw [if_neg hji]; exact h.ok.up j (by omega)
  ·by_cases hji : j = i
   ·subst hji; rw [if_pos rfl]; exact hd2'
   ·rw [if_neg hji]; exact h.ok.d1 j (by omega)
  ·refine a4.via c2 fun x j hx hm => ?_
   rcases hm with hm | hm
   ·have := hnew (by have := hm.2.1; have := hm.2.2; omega); have := hm.1; omega
   ·omega
 refine F59.t8 K.a b nd bb k (some ⟨tb, 0, none⟩) k k i ha fun B1 => ⟨tb, 0, rfl, i, rfl, hi, 0, by rw [e2, R0.cell _ (by omega), h.rest i (Nat.le_refl _) hi], bc_true rfl (bc_intro (fun hb => ?_) (fun hb => ?_))⟩
 ·have hi0 : i = 0 := by have := eqE hb; omega
  subst hi0
  refine ⟨8, hgw.t2, ?_⟩
  rw [show IntKind.wrap .u64 8 = ((8 : Nat) : Int) from wrapN 8 (by omega), ← hKa']
  have hbb8 : bb ^ 8 < BB ^ 39 := lt_pow_of_le (n := 8) (Nat.pow_lt_pow_left hbb1 (by omega)) (by omega)
  have hbb2' : 2 ≤ bb := by
   rcases Nat.lt_or_ge bb 2 with h1 | h1
   ·have : bb * b ≤ 1 * 62 := Nat.mul_le_mul (by omega) hb62
    rw [BB_eq] at hbb2; omega
   ·exact h1
  refine c90 h.bank hbb2' (by omega) hbb1 (by rw [BB_eq]; omega) hbb8 (by rw [hKa']; exact hKa) (by omega) hgw.toGlb fun rc K1 w1 b1 ka1 kl1 nx1 hnew1 c1 => ?_
  have b2 : Bank w1 (row tb (k * 3) f :: nmz rc (bb ^ 8) :: stk K1 :: (ents b r d 0 ++ L)) := b1.pick 3 [2, 1, 0] rfl
  have R1 : RowAt w1 tb (k * 3) f := b2.head
  obtain ⟨R2, c2⟩ := RowAt.set R1 (i := 0) (by omega) rc.v
  have b3 := setRow b2 (i := 0) (by omega) rc.v
  obtain ⟨R3, c3⟩ := RowAt.set R2 (i := 2) (by omega) (.int .i64 ((nd * 8 : Nat) : Int))
  have b4 := setRow b3 (i := 2) (by omega) (.int .i64 ((nd * 8 : Nat) : Int))
  have g1 : Glc w1 := c1.glc hgw
  have g2 : Glc (w1.setCell ⟨tb, 0, none⟩ rc.v) := c2.glc g1
  have chT : Chg w0 ((w1.setCell ⟨tb, 0, none⟩ rc.v).setCell ⟨tb, 2, none⟩ (.int .i64 ((nd * 8 : Nat) : Int))) K.free :=
   ((h.ch.via c1 fun x j hx hm => h.nx.free hx hm).via c2 fun x j hx hm => by omega).via c3 fun x j hx hm => by omega
  refine ⟨_, _, _, rfl, tb, 0, rfl, 0, rfl, by omega, ⟨_, R1.cell 0 (by omega)⟩, R1.fr 0 (by omega), 8, g2.t2, by unfold inI64; omega, tb, 0, rfl, 0, rfl, by omega, ⟨_, R2.cell 2 (by omega)⟩, R2.fr 2 (by omega), fun B2 => ?_⟩
  show W Tryz.prog 136 F59.p10 _ ((w1.setCell ⟨tb, 0, none⟩ rc.v).setCell ⟨tb, 2, none⟩ (.int .i64 ((nd : Int) * 8))) K0
  rw [show ((nd : Int) * 8) = ((nd * 8 : Nat) : Int) by omega]
  have hbd : bb ^ 8 = b ^ (nd * 8) := by rw [hbb, ← Nat.pow_mul]
  refine fin _ K1 rc (nd * 8) (setF (setF f 0 rc.v) 2 (.int .i64 ((nd * 8 : Nat) : Int))) _ ?_ (by show setF (setF f 0 rc.v) 2 _ 0 = _; rw [setF_ne _ _ (by omega), setF_self]) (setF_self _ _ _) (fun j h1 h2 => by rw [setF_ne _ _ (show j ≠ 2 by omega), setF_ne _ _ (show j ≠ 0 by omega)]) ?_ ?_ (ka1.trans hKa') (kl1.trans hKl) (h.nx.trans nx1 h.ch.size) chT (fun h0 => Nat.le_trans h.ch.size (hnew1 h0)) ⟨by rw [hKa']; rfl, rfl, rfl, rfl, rfl, rfl, rfl, trivial⟩ rfl
  ·rw [← hbd]; exact b4.pick 3 [1, 0, 2] rfl
  ·rw [← hbd]; exact pow8 hb62 hbb2
  ·rw [← hbd]; exact Nat.pow_lt_pow_left hbb1 (by omega)
 ·have hi1 : 1 ≤ i := by have := eqN hb; omega
  obtain ⟨p, hp⟩ : ∃ p, i = p + 1 := ⟨i - 1, by omega⟩
  have ep0 : 0 + p * 3 + 0 = p * 3 := by omega
  have ep2 : 0 + p * 3 + 2 = p * 3 + 2 := by omega
  have hpk : p < k := by omega
  have hpi : p < i := by omega
  rw [show ((i : Int) - 1) = (p : Int) by omega, ← hKa']
  have hp2 : 0 < 2 ^ p := Nat.two_pow_pos p
  have hle : 2 ^ p ≤ 2 ^ 4 := Nat.pow_le_pow_right (by omega) (by omega)
  have hrl := h.ok.len p hpi
  have hmem : nmz (r p) (b ^ d p) ∈ (row tb (k * 3) f :: (ents b r d i ++ L)) := by
   have := ents_mem (b := b) (r := r) (d := d) hpi
   simp [this]
  have hsz : (r p).l < 80 ∨ (80 ≤ (r p).l ∧ (r p).l ≤ 158) := by
   rw [hrl]
   have hc : 8 * 2 ^ p < 80 ∨ p = 4 := by
    rcases Nat.lt_or_ge p 4 with h | h
    ·have : 2 ^ p ≤ 2 ^ 3 := Nat.pow_le_pow_right (by omega) (by omega)
     omega
    ·exact .inr (by omega)
   rcases hc with h | h
   ·exact .inl h
   ·subst h; exact .inr (by decide)
  refine ⟨by unfold inI64; omega, tb, 0, rfl, p, rfl, hpk, (r p).a, (r p).l, (r p).c, by rw [ep0, R0.cell _ (by omega), h.tf.c0 p hpi], ?_⟩
  refine sqrN h.bank hmem hsz (by omega) hgw.toGlb fun rc K1 w1 b1 ka1 kl1 nx1 hnew1 c1 => ?_
  have b2 : Bank w1 (row tb (k * 3) f :: nmz rc (b ^ d p * b ^ d p) :: stk K1 :: (ents b r d i ++ L)) := b1.pick 3 [2, 0, 1] rfl
  have R1 : RowAt w1 tb (k * 3) f := b2.head
  obtain ⟨R2, c2⟩ := RowAt.set R1 (i := i * 3) (by omega) rc.v
  have b3 := setRow b2 (i := i * 3) (by omega) rc.v
  obtain ⟨R3, c3⟩ := RowAt.set R2 (i := i * 3 + 2) (by omega) (.int .i64 ((2 * d p : Nat) : Int))
  have b4 := setRow b3 (i := i * 3 + 2) (by omega) (.int .i64 ((2 * d p : Nat) : Int))
  have hdp := h.ok.d1 p hpi
  have chT : Chg w0 ((w1.setCell ⟨tb, i * 3, none⟩ rc.v).setCell ⟨tb, i * 3 + 2, none⟩ (.int .i64 ((2 * d p : Nat) : Int))) K.free :=
   ((h.ch.via c1 fun x j hx hm => h.nx.free hx hm).via c2 fun x j hx hm => by omega).via c3 fun x j hx hm => by omega
  refine ⟨_, _, _, rfl, tb, 0, rfl, i, rfl, hi, ⟨_, by rw [e0]; exact R1.cell _ (by omega)⟩, by rw [e0]; exact R1.fr _ (by omega), by unfold inI64; omega, tb, 0, rfl, p, rfl, hpk, (d p : Int), ?_, by unfold inI64; omega, tb, 0, rfl, i, rfl, hi, ⟨_, by rw [e2, e0]; exact R2.cell _ (by omega)⟩, by rw [e2, e0]; exact R2.fr _ (by omega), fun B2 => ?_⟩
  ·rw [ep2, e0, R2.cell _ (by omega), setF_ne _ _ (by omega), h.tf.c2 p hpi]
  rw [e2, e0, show (2 * (d p : Int)) = ((2 * d p : Nat) : Int) by omega]
  have hbd : b ^ d p * b ^ d p = b ^ (2 * d p) := by rw [← Nat.pow_add, Nat.two_mul]
  have e8 : 8 * 2 ^ i = 2 * (8 * 2 ^ p) := by rw [hp, Nat.pow_succ]; omega
  refine fin _ K1 rc (2 * d p) (setF (setF f (i * 3) rc.v) (i * 3 + 2) (.int .i64 ((2 * d p : Nat) : Int))) _ ?_ (by rw [setF_ne _ _ (by omega), setF_self]) (setF_self _ _ _) (fun j h1 h2 => by rw [setF_ne _ _ h2, setF_ne _ _ h1]) ?_ ?_ (ka1.trans hKa') (kl1.trans hKl) (h.nx.trans nx1 h.ch.size) chT (fun h0 => Nat.le_trans h.ch.size (hnew1 h0)) ⟨by rw [hKa']; rfl, rfl, rfl, rfl, rfl, rfl, rfl, trivial⟩ rfl
  ·rw [← hbd]; exact b4.pick 3 [1, 0, 2] rfl
  ·rw [← hbd, e8]; exact sq_low hb62 (h.ok.up p hpi) (by omega)
  ·rw [← hbd, e8]
   have := prod_lt (h.ok.lo p hpi) (h.ok.lo p hpi)
   rwa [← Nat.two_mul] at this
end
end Go.Proofs.YtlkjiiibmfpbcaaGreatDoor
namespace Go.Proofs.YtlkjiiibmfpbcaaGreatDoor
open Go
theorem c59n (w : World) (sp : Option Addr) (m b nd bb : Nat) (hm : m ≤ 8) (hg : Glc w) : Calls Tryz.prog 59 #[.pointer sp, .int .i64 (m : Int), .int .u64 (b : Int), .int .i64 (nd : Int), .int .u64 (bb : Int)] w fun e w' => e = .returned (.slice none 0 0) ∧ w' = w :=
 (F59.call sp m b nd bb w (fun v w' => v = .slice none 0 0 ∧ w' = w) fun B => ⟨8, hg.t2, bc_false rfl ⟨8, hg.t2, bc_true (decT (by omega)) fun B1 => ret1 rfl rfl ⟨rfl, rfl⟩⟩⟩).mono fun e w' ⟨v, h1, h2, h3⟩ => ⟨by rw [h1, h2], h3⟩
theorem c59 {w : World} {K : SK} {m b nd bb : Nat} {L : List Item} (h : Bank w (stk K :: L)) (hm : 9 ≤ m) (hm2 : m ≤ 260) (hbb : bb = b ^ nd) (hb2 : 2 ≤ b) (hb62 : b ≤ 62) (hbb1 : bb < BB) (hbb2 : BB ≤ bb * b) (hnd : 1 ≤ nd ∧ nd ≤ 64) (hKa : K.a ≠ none) (hL : K.s.l ≤ 549755813888) (hg : Glc w) {Q : Ending → World → Prop}
  (q : ∀ tb k (K' : SK) r d f w', 1 ≤ k → k ≤ 6 → LD w K tb b k k L w' K' r d f → w.heap.size ≤ tb → Q (.returned (.slice (some ⟨tb, 0, none⟩) k k)) w') :
  Calls Tryz.prog 59 #[.pointer K.a, .int .i64 (m : Int), .int .u64 (b : Int), .int .i64 (nd : Int), .int .u64 (bb : Int)] w Q := by
 refine (F59.call K.a m b nd bb w (fun v w' => Q (.returned v) w') fun B => ⟨8, hg.t2, bc_false rfl ⟨8, hg.t2, bc_false (decF (by omega)) ⟨8, hg.t2, fun B1 => ?_⟩⟩⟩).mono fun e w' ⟨v, h1, h2⟩ => by rw [h1]; exact h2
 rw [F59.q3]
 refine W_for' (σ := Nat) (fun i => F59.l2 K.a m b nd bb (i + 1 : Nat) (8 * 2 ^ i : Nat)) (fun i w' => i ≤ 5 ∧ w' = w) (fun i => 6 - i) 0 ⟨rfl, rfl, rfl, rfl, rfl, rfl, rfl, trivial⟩ ⟨by omega, rfl⟩ ?_
 rintro i B2 w1 K0 ⟨hi, hw⟩ hnext hexit -
 subst hw
 have h2i : 2 ^ i ≤ 2 ^ 5 := Nat.pow_le_pow_right (by omega) hi
 have fin : ∀ (e : Env), agree e (F59.l1 K.a b nd bb (i + 1 : Nat)) → e.defers = [] → W Tryz.prog 136 F59.p1 e w1 (retK Tryz.prog [.tmp 10] fun v w' => Q (.returned v) w') := by
  intro e ha hd
  refine F59.t1 K.a b nd bb (i + 1 : Nat) ha fun B3 => ?_
  obtain ⟨b1, c1⟩ := rowMade w1 hg.gb #[(Value.slice none 0 0), (Value.int IntKind.i64 0), (Value.int IntKind.i64 0)] ((i + 1) * 3) 128 h
  have R1 : RowAt _ w1.heap.size ((i + 1) * 3) _ := b1.head
  have hz : ∀ j, (fun j => #[(Value.slice none 0 0), (Value.int IntKind.i64 0), (Value.int IntKind.i64 0)][j % #[(Value.slice none 0 0), (Value.int IntKind.i64 0), (Value.int IntKind.i64 0)].size]!) (j * 3 + 2) = Value.int IntKind.i64 0 := fun j => by
   show #[(Value.slice none 0 0), (Value.int IntKind.i64 0), (Value.int IntKind.i64 0)][(j * 3 + 2) % 3]! = _
   rw [show (j * 3 + 2) % 3 = 2 by omega]; rfl
  refine ⟨i + 1, i + 1, rfl, rfl, Nat.le_refl _, by omega, by omega, by unfold inI64; omega, w1.heap.size, 0, rfl, i, by omega, by omega, 0, ?_, bc_true rfl fun B4 => ?_⟩
  ·rw [show 0 + i * 3 + 2 = i * 3 + 2 by omega, R1.cell _ (by omega)]; exact congrArg some (hz i)
  generalize hw2 : World.alloc w1 (.cells (madeCells #[(Value.slice none 0 0), (Value.int IntKind.i64 0), (Value.int IntKind.i64 0)] ((i + 1) * 3)) 128) = w2 at b1 c1 R1 ⊢
  generalize hfe : (fun j => #[(Value.slice none 0 0), (Value.int IntKind.i64 0), (Value.int IntKind.i64 0)][j % #[(Value.slice none 0 0), (Value.int IntKind.i64 0), (Value.int IntKind.i64 0)].size]!) = f0 at b1 hz
  rw [hd]
  rw [F59.q6]
  have ld : LD w1 K w1.heap.size b (i + 1) 0 L w2 K (fun _ => nilS w1) (fun _ => 0) f0 := ⟨b1.perm (List.Perm.swap _ _ _), ⟨fun j hj => by omega, fun j hj => by omega, fun j hj => by omega⟩, fun j _ _ => hz j, ⟨fun j hj => by omega, fun j hj => by omega, fun j hj => by omega, fun j hj => by omega⟩, rfl, rfl, Nxt.refl _ _, c1.none _⟩
  refine W_for' (σ := Nat) (fun j => F59.l5 K.a b nd bb (i + 1 : Nat) (some ⟨w1.heap.size, 0, none⟩) (i + 1) (i + 1) j) (fun j w' => j ≤ i + 1 ∧ ∃ K' r d f, LD w1 K w1.heap.size b (i + 1) j L w' K' r d f) (fun j => i + 1 - j) 0 ⟨rfl, rfl, rfl, rfl, rfl, rfl, rfl, trivial⟩ ⟨Nat.zero_le _, _, _, _, _, ld⟩ ?_
  rintro j B5 w3 K1 ⟨hj, K', r, d, f, hld⟩ hnext1 hexit1 -
  refine F59.t5 K.a b nd bb (i + 1 : Nat) (some ⟨w1.heap.size, 0, none⟩) (i + 1) (i + 1) j ⟨rfl, rfl, rfl, rfl, rfl, rfl, rfl, trivial⟩ fun B6 => bc_intro (fun hb B7 => ?_) (fun hb B7 => hexit1 _ _ ?_)
  ·have hj1 : j < i + 1 := by have := dT hb; omega
   rw [F59.q9]
   refine W_block ?_
   refine round59 hld hj1 (by omega) (Nat.le_refl _) hbb hb2 hb62 hbb1 hbb2 hnd hKa hL hg ⟨rfl, rfl, rfl, rfl, rfl, rfl, rfl, trivial⟩ fun e' w4 K'' r' d' f' h1 h2 h3 => ?_
   refine F59.t7 K.a b nd bb (i + 1 : Nat) (some ⟨w1.heap.size, 0, none⟩) (i + 1) (i + 1) j h2 fun B8 => ⟨by unfold inI64; omega, fun B9 => hnext1 _ _ (j + 1) ⟨rfl, rfl, rfl, rfl, rfl, rfl, intv (by omega), trivial⟩ h3 ⟨by omega, _, _, _, _, h1⟩ (by omega)⟩
  ·have hj1 : j = i + 1 := by have := dF hb; omega
   subst hj1
   exact F59.t4 (some ⟨w1.heap.size, 0, none⟩) (i + 1) (i + 1) ⟨rfl, trivial⟩ fun B8 B9 => ret1 rfl rfl (q _ _ _ _ _ _ _ (by omega) (by omega) hld (Nat.le_refl _))
 have eS : iShr .i64 (m : Int) 1 = ((m / 2 : Nat) : Int) := iShrI m 1 (by omega)
 have eL : iShl .i64 ((8 * 2 ^ i : Nat) : Int) 1 = ((8 * 2 ^ (i + 1) : Nat) : Int) := by
  have := iShlI (8 * 2 ^ i) 1 (by omega) (by omega)
  rw [Nat.pow_succ, ← Nat.mul_assoc]; exact this
 refine F59.t2 K.a m b nd bb (i + 1 : Nat) (8 * 2 ^ i : Nat) ⟨rfl, rfl, rfl, rfl, rfl, rfl, rfl, trivial⟩ fun B3 => ⟨by omega, bc_intro (fun hb => bc_true (decT (by omega)) ⟨by unfold inI64; omega, by omega, fun B4 => hnext _ _ (i + 1) ⟨rfl, rfl, rfl, rfl, rfl, intv (by omega), intv eL, trivial⟩ rfl ⟨?_, rfl⟩ (by omega)⟩) (fun hb B4 => hexit _ _ ?_)⟩
 ·rw [eS] at hb
  have := dT hb
  have hc : i = 5 ∨ i ≤ 4 := by omega
  rcases hc with h5 | h5
  ·subst h5
   have : ((8 * 2 ^ 5 : Nat) : Int) = 256 := by decide
   omega
  ·omega
 ·exact fin _ ⟨rfl, rfl, rfl, rfl, rfl, trivial⟩ rfl
end Go.Proofs.YtlkjiiibmfpbcaaGreatDoor
namespace Go.Proofs.YtlkjiiibmfpbcaaGreatDoor
open Go
theorem Bank.mid {w : World} {A C : List Item} {b : Item} (h : Bank w (A ++ b :: C)) : Bank w (b :: (A ++ C)) := h.perm List.perm_middle
theorem alloc_nt (w : World) (hg : GB ≤ w.heap.size) (n : Nat) (hc : n ≤ 281474976710656) :
  Nt (w.alloc (.cells (madeCells #[(Value.int IntKind.u64 0)] n) 61)) ⟨some ⟨w.heap.size, 0, none⟩, n, n, w.heap.size, 0⟩ 0 := by
 refine { alloc_st w hg n n (Nat.le_refl _) hc with sg := fun i hi => ?_, lt := BBpow_pos _ }
 have hi : i < n := hi
 have hh : (w.alloc (.cells (madeCells #[(Value.int IntKind.u64 0)] n) 61)).heap[w.heap.size]? = some (.cells (madeCells #[(Value.int IntKind.u64 0)] n) 61 (0, 0)) := heap_alloc_new ..
 rw [cell_eq]
 show (match (w.alloc (.cells (madeCells #[(Value.int IntKind.u64 0)] n) 61)).heap[w.heap.size]? with
  | some (.cells c _ _) => c[0 + i]?
  | _ => none) = _
 rw [hh, dg_zero]
 simp [madeCells, hi, Nat.mod_one]
theorem Bank.alloc {w : World} {L : List Item} (h : Bank w L) (hg : GB ≤ w.heap.size) (n : Nat) (hc : n ≤ 281474976710656) :
  Bank (w.alloc (.cells (madeCells #[(Value.int IntKind.u64 0)] n) 61)) (num ⟨some ⟨w.heap.size, 0, Option.none⟩, n, n, w.heap.size, 0⟩ 0 :: L) :=
 h.new (Chg.alloc _ _ (alloc_froz w _) _) (alloc_nt w hg n hc) fun _ _ hm => Nat.le_of_eq hm.1.symm
theorem pow_split (B : Nat) {k n : Nat} (h : k ≤ n) : B ^ n = B ^ k * B ^ (n - k) := by rw [← Nat.pow_add, Nat.add_sub_cancel' h]
end Go.Proofs.YtlkjiiibmfpbcaaGreatDoor
namespace Go.Proofs.YtlkjiiibmfpbcaaGreatDoor
open Go
def Cell1 (t e : TypeId) (z : Value) : Prop := Tryz.prog.underlying t = some (.slice e) ∧ (∃ ie, Tryz.prog.info? e = some ie ∧ ie.size = 1 ∧ ie.bytes ≤ 8 ∧ ie.zero = some z) ∧ z.cells = #[z]
def Cs (w : World) (b o n : Nat) (f : Nat → Value) : Prop := ∀ i, i < n → w.cell? ⟨b, o + i, none⟩ = some (f i)
theorem row_st (w : World) (hg : GB ≤ w.heap.size) (C : Array Value) (e n : Nat) (hn : n ≤ C.size) (hc : C.size ≤ 9223372036854775807) :
  St (w.alloc (.cells C e)) ⟨some ⟨w.heap.size, 0, none⟩, n, C.size, w.heap.size, 0⟩ := by
 have hh : (w.alloc (.cells C e)).heap[w.heap.size]? = some (.cells C e (0, 0)) := heap_alloc_new ..
 refine ⟨hn, fun _ => rfl, fun i hi => ⟨?_, ?_⟩, fun _ => ⟨hg, _, _, hh⟩, hc, by simp; omega⟩
 ·have hi' : i < C.size := hi
  refine ⟨C[i], ?_⟩
  rw [cell_eq, hh]
  simp [hi']
 ·rw [frozen_eq, hh]; simp
theorem app1 {t e : TypeId} {z : Value} (ht : Cell1 t e z) (s : Sl) (v : Value) (w : World) (hs : St w s) (src : Addr) (c0 : Nat) (hsrc : w.cell? src = some v) (h1 : v.oneCell' = true) (hl : s.l ≤ 1099511627776) (f : Nat → Value) (hf : Cs w s.b s.o s.l f) :
  ∃ (r : Sl) (w' : World), Sem.run Tryz.prog (builtin .append #[t, t] t #[false, false] #[s.v, .slice (some src) 1 c0]) w = .ok (.value r.v) w' ∧ r.l = s.l + 1 ∧ St w' r ∧ Cs w' r.b r.o (s.l + 1) (setF f s.l v) ∧ From w s r ∧ (w.heap.size ≤ r.b ∨ r.c = s.c) ∧
   Chg w w' (fp s) := by
 obtain ⟨hu, ⟨ie, hi, hsz, hby, hzz⟩, hzc⟩ := ht
 have hlc := hs.lc
 have hcm := hs.cm
 have key : ∀ (r : Sl) (w' : World), (Builtin.append_ #[t, t] t #[s.v, .slice (some src) 1 c0]).run Tryz.prog w = .ok r.v w' → Sem.run Tryz.prog (builtin .append #[t, t] t #[false, false] #[s.v, .slice (some src) 1 c0]) w = .ok (.value r.v) w' := fun r w' h => by
  rw [BigFrame.builtin_append]
  simp only [Sem.run_bind, h]
  rfl
 have hnews : ∀ j u, ([v] : List Value)[j]? = some u → w.cell? (src.add j) = some u := fun j u hj => by
  cases j with
  | zero =>
   simp at hj; subst hj
   rw [show src.add 0 = src by unfold Addr.add; split <;> simp_all]; exact hsrc
  | succ j => simp at hj
 by_cases hroom : s.l + 1 ≤ s.c
 ·have ha := hs.at_ (by omega)
  obtain ⟨⟨u, hu1⟩, hu2⟩ := hs.wr s.l (by omega)
  have hr := run_append_room_cells (P := Tryz.prog) w t t e ie hu hi s.b s.o s.l s.c src 1 c0 [v] (by simp [hsz]) hnews (by simp [h1]) hroom
   (fun j hj => by
    have : j = 0 := by simpa using hj
    subst this
    rw [hsz, Nat.mul_one, Nat.add_zero, hu1]; rfl)
   (fun j hj => by
    have : j = 0 := by simpa using hj
    subst this
    rw [hsz, Nat.mul_one, Nat.add_zero]; exact hu2)
  rw [hsz, Nat.mul_one] at hr
  have hc : Chg w (w.setCell ⟨s.b, s.o + s.l, none⟩ v) (inR s.b (s.o + s.l) (s.o + s.l + 1)) := Chg.setCell (hs.pl (by omega)) _ ⟨rfl, Nat.le_refl _, by omega⟩
  have hrv : (s.to (s.l + 1)).v = .slice (some ⟨s.b, s.o, none⟩) (s.l + 1) s.c := by rw [← ha]; rfl
  refine ⟨s.to (s.l + 1), w.setCell ⟨s.b, s.o + s.l, none⟩ v, key _ _ ?_, rfl, (hc.st hs).to_st _ hroom, fun i hi => ?_, From.self _ _ _, .inr rfl, hc.mono fun b i _ hm => ⟨hm.1, by have := hm.2.1; omega, by have := hm.2.2; omega⟩⟩
  ·rw [hrv]
   unfold Sl.v
   rw [ha]; exact hr
  ·show (w.setCell ⟨s.b, s.o + s.l, none⟩ v).cell? ⟨s.b, s.o + i, none⟩ = _
   by_cases h : i = s.l
   ·subst h
    rw [setF_self]
    exact World.cell?_setCell_same _ _ _ hu1
   ·rw [setF_ne _ _ h, hc.cell (lt_of_cell (hf i (by omega))) (fun hm => by have := hm.2.1; omega)]
    exact hf i (by omega)
 ·have hlc' : s.l = s.c := by omega
  obtain ⟨olds, hol, hold⟩ := exists_cells (w := w) (b := s.b) s.l s.o (fun i hi => ⟨_, hf i hi⟩)
  have holds : ∀ i, i < s.l → olds[i]? = some (f i) := fun i hi => by
   have h1 : olds[i]? = some (olds[i]'(by omega)) := List.getElem?_eq_getElem (by omega)
   have h2 := hold i _ h1
   rw [hf i hi] at h2
   rw [h1, ← h2]
  have fin : ∀ cap, s.l + 1 ≤ cap → cap ≤ maxLen → (Builtin.append_ #[t, t] t #[s.v, .slice (some src) 1 c0]).run Tryz.prog w = .ok (.slice (some ⟨w.heap.size, 0, none⟩) (s.l + 1) cap) (w.drew.alloc (.cells (olds.toArray ++ #[v] ++ Builtin.zeroCells z.cells (cap - (s.l + 1))) e)) → _ := fun cap hc1 hc2 hr => by
   unfold maxLen at hc2
   have hsize : (olds.toArray ++ #[v] ++ Builtin.zeroCells z.cells (cap - (s.l + 1))).size = cap := by
    rw [hzc]; simp [Builtin.zeroCells, hol]; omega
   have hst := row_st w.drew hs.gb (olds.toArray ++ #[v] ++ Builtin.zeroCells z.cells (cap - (s.l + 1))) e (s.l + 1) (by rw [hsize]; exact hc1) (by rw [hsize]; omega)
   rw [hsize] at hst
   have hh : (w.drew.alloc (.cells (olds.toArray ++ #[v] ++ Builtin.zeroCells z.cells (cap - (s.l + 1))) e)).heap[w.heap.size]? = some (.cells (olds.toArray ++ #[v] ++ Builtin.zeroCells z.cells (cap - (s.l + 1))) e (0, 0)) := heap_alloc_new w.drew _
   exact (⟨⟨some ⟨w.heap.size, 0, none⟩, s.l + 1, cap, w.heap.size, 0⟩, _, key ⟨some ⟨w.heap.size, 0, none⟩, s.l + 1, cap, w.heap.size, 0⟩ _ hr, rfl, hst, fun i hi => by
    show (w.drew.alloc _).cell? ⟨w.heap.size, 0 + i, none⟩ = _
    rw [cell_eq, hh, Nat.zero_add]
    show (olds.toArray ++ #[v] ++ _)[i]? = _
    rw [Array.getElem?_append_left (by simp [hol]; omega)]
    by_cases h : i = s.l
    ·subst h
     rw [setF_self, Array.getElem?_append_right (by simp [hol])]
     simp [hol]
    ·rw [setF_ne _ _ h, Array.getElem?_append_left (by simp [hol]; omega)]
     simpa using holds i (by omega), .inr (Nat.le_refl _), .inl (Nat.le_refl _), (Chg.drew0 w _).trans' (Chg.alloc w.drew _ (fun a => RowKit.frozen?_alloc_cells w.drew _ _ a) _)⟩ :
    ∃ (r : Sl) (w' : World), Sem.run Tryz.prog (builtin .append #[t, t] t #[false, false] #[s.v, .slice (some src) 1 c0]) w = .ok (.value r.v) w' ∧ r.l = s.l + 1 ∧ St w' r ∧ Cs w' r.b r.o (s.l + 1) (setF f s.l v) ∧ From w s r ∧ (w.heap.size ≤ r.b ∨ r.c = s.c) ∧
     Chg w w' (fp s))
  cases hsa : s.a with
  | none =>
   have h0 : s.c = 0 := by
    rcases Nat.eq_zero_or_pos s.c with h | h
    ·exact h
    ·have := hs.at_ (by omega); rw [hsa] at this; cases this
   have h0l : s.l = 0 := by omega
   obtain rfl : olds = [] := List.length_eq_zero_iff.1 (by omega)
   have hr := run_append_nil (P := Tryz.prog) w t t e ie z hu hi hzz src 1 c0 [v] (by simp [hsz]) hnews (by omega) (by omega) (by omega)
   refine fin (grownCap w 1 0 e) (by have := grownCap_ge w 1 0 e; omega) (grownCap_le_maxLen w 1 0 e (by decide)) ?_
   unfold Sl.v
   rw [hsa, h0l, h0]
   simpa using hr
  | some b =>
   have hb : s.c ≠ 0 → b = ⟨s.b, s.o, none⟩ := fun h => by have := hs.at_ h; rw [hsa] at this; exact Option.some.inj this
   have hr := run_append_grow (P := Tryz.prog) w t t e ie z hu hi hzz b s.l s.c olds (by rw [hsz, hol, Nat.mul_one]) (fun j u hj => by
    have hj' : j < olds.length := (List.getElem?_eq_some_iff.1 hj).1
    rw [hb (by omega), addr_add]
    exact hold j u hj) src 1 c0 [v] (by simp [hsz]) hnews (by omega) (by omega) (growslice_fits (by omega) (Nat.le_trans (Nat.mul_le_mul_left _ hby) (by omega)))
   refine fin (grownCap w (s.l + 1) s.c e) (grownCap_ge w (s.l + 1) s.c e) (grownCap_le_maxLen w (s.l + 1) s.c e (by unfold maxLen; omega)) ?_
   unfold Sl.v
   rw [hsa]
   simpa using hr
end Go.Proofs.YtlkjiiibmfpbcaaGreatDoor
namespace Go.Proofs.YtlkjiiibmfpbcaaGreatDoor
open Go
def setD (V k d : Nat) : Nat := V % BB ^ k + BB ^ k * (d + BB ^ 1 * (V / BB ^ (k + 1)))
theorem setD_lo (V k d : Nat) (hd : d < BB) : setD V k d % BB ^ (k + 1) = V % BB ^ k + BB ^ k * d := by
 unfold setD
 have h1 := Nat.mod_lt V (BBpow_pos k)
 rw [Nat.mul_add, ← Nat.mul_assoc, ← Nat.pow_add, ← Nat.add_assoc, Nat.add_mul_mod_self_left]
 refine Nat.mod_eq_of_lt ?_
 have : BB ^ k * d + BB ^ k ≤ BB ^ (k + 1) := by rw [BBpow_succ, ← Nat.mul_succ]; exact Nat.mul_le_mul_left _ hd
 omega
theorem setD_hi (V k d : Nat) (hd : d < BB) : setD V k d / BB ^ (k + 1) = V / BB ^ (k + 1) := by
 unfold setD
 have h1 := Nat.mod_lt V (BBpow_pos k)
 rw [Nat.mul_add, ← Nat.mul_assoc, ← Nat.pow_add, ← Nat.add_assoc, Nat.add_mul_div_left _ _ (BBpow_pos _)]
 have : BB ^ k * d + BB ^ k ≤ BB ^ (k + 1) := by rw [BBpow_succ, ← Nat.mul_succ]; exact Nat.mul_le_mul_left _ hd
 rw [Nat.div_eq_of_lt (by omega), Nat.zero_add]
theorem setD_bank {w : World} {s : Sl} {V k d : Nat} {L : List Item} (h : Bank w (num s V :: L)) (hk : k < s.l) (hd : d < BB) :
  Bank (w.setCell ⟨s.b, s.o + k, none⟩ (.int .u64 (d : Int))) (num s (setD V k d) :: L) ∧ Chg w (w.setCell ⟨s.b, s.o + k, none⟩ (.int .u64 (d : Int))) (fp s) := by
 have hs : Nt w s V := h.head
 have hlc := hs.lc
 have hp := hs.pl (by omega)
 have hc : Chg w (w.setCell ⟨s.b, s.o + k, none⟩ (.int .u64 (d : Int))) (inR s.b (s.o + k) (s.o + k + 1)) := Chg.setCell hp _ ⟨rfl, by omega, by omega⟩
 have hc' : Chg w (w.setCell ⟨s.b, s.o + k, none⟩ (.int .u64 (d : Int))) (fp s) := hc.mono fun b i _ hm => ⟨hm.1, by have := hm.2.1; omega, by have := hm.2.2; omega⟩
 refine ⟨h.upd hc' (fun _ _ _ hm => hm) ?_ fun _ _ _ hm => hm, hc'⟩
 have h0 : Sg (w.setCell ⟨s.b, s.o + k, none⟩ (.int .u64 (d : Int))) s.b s.o k (V % BB ^ k) := hc.sg ((hs.sg.le (by omega)).mod) fun i hi hm => by have := hm.2.1; omega
 have h1 : Sg (w.setCell ⟨s.b, s.o + k, none⟩ (.int .u64 (d : Int))) s.b (s.o + k) 1 d := fun i hi => by
  obtain rfl : i = 0 := by omega
  rw [dg_self d hd]
  exact World.cell?_setCell_same _ _ _ (hs.sg k hk)
 have h2 : Sg (w.setCell ⟨s.b, s.o + k, none⟩ (.int .u64 (d : Int))) s.b (s.o + k + 1) (s.l - (k + 1)) (V / BB ^ (k + 1)) := by
  have := hs.sg.hi (k + 1) (s.l - (k + 1)) (by omega)
  rw [← Nat.add_assoc] at this
  exact hc.sg this fun i _ hm => by have := hm.2.2; omega
 have h3 := h1.join h2 (by rw [Nat.pow_one]; exact hd)
 have h4 := h0.join h3 (Nat.mod_lt _ (BBpow_pos k))
 rw [show k + (1 + (s.l - (k + 1))) = s.l by omega] at h4
 refine { hc.st hs.toSt with sg := h4, lt := ?_ }
 have h5 : V / BB ^ (k + 1) < BB ^ (s.l - (k + 1)) := by rw [Nat.div_lt_iff_lt_mul (BBpow_pos _), ← Nat.pow_add, Nat.sub_add_cancel (by omega)]; exact hs.lt
 have h6 := pow_split BB (show k + 1 ≤ s.l by omega)
 have h7 := Nat.mod_add_div (setD V k d) (BB ^ (k + 1))
 rw [setD_hi V k d hd] at h7
 have h8 := Nat.mod_lt (setD V k d) (BBpow_pos (k + 1))
 rw [h6]
 have h9 : BB ^ (k + 1) * (V / BB ^ (k + 1)) + BB ^ (k + 1) ≤ BB ^ (k + 1) * BB ^ (s.l - (k + 1)) := by rw [← Nat.mul_succ]; exact Nat.mul_le_mul_left _ h5
 omega
end Go.Proofs.YtlkjiiibmfpbcaaGreatDoor
