/- itoa: the leading noughts left out; the buffer made; what is returned; how many figures there is room for. Condition: the number is not nought. -/
import Derived.Lib.SlBytesConst
import Derived.Test.YtlkjiiibmfpbcaaGreatDoorR42
import Derived.Test.YtlkjiiibmfpbcaaGreatDoorR44
import Derived.Test.YtlkjiiibmfpbcaaGreatDoorR39
import Derived.Test.YtlkjiiibmfpbcaaGreatDoorR38
namespace Go.Proofs.YtlkjiiibmfpbcaaGreatDoor
open Go
theorem chr_48 {d : Nat} (h : chr d = 48) (hd : d < 62) : d = 0 := by
 unfold chr at h
 split at h
 ·omega
 ·split at h <;> omega
section
variable {w : World} {s : Sl} {X b : Nat} {L : List Item}
theorem strip9 (hb : Bank w (seg s (fig b s.l X) :: L)) (hsl : s.l ≤ 1000000) (hb2 : 2 ≤ b) (hb62 : b ≤ 62) (hX0 : X ≠ 0) (hX : X < b ^ s.l) {e : Env} {K0 : Kont} (ha : agree e (F41.l8 false 0 s.a s.l s.c))
  (q : ∀ e' i, IsN b X (s.l - i) → i ≤ s.l → agree e' (F41.l5 false (i : Nat) s.a s.l s.c) → e'.defers = e.defers → K0 .normal e' w) :
  W Tryz.prog 176 F41.p9 e w K0 := by
 have hS : SegAt w s (fig b s.l X) := hb.head
 have hlc := hS.lc
 rw [F41.q9]
 refine W_for' (σ := Nat) (fun i => F41.l8 false (i : Nat) s.a s.l s.c) (fun i w' => w' = w ∧ i ≤ s.l ∧ X < b ^ (s.l - i)) (fun i => s.l - i) 0 ⟨ha.1, ha.2.1, ha.2.2.1, trivial⟩ ⟨rfl, Nat.zero_le _, hX⟩ ?_
 rintro i B1 w1 K1 ⟨rfl, hi, hXi⟩ hnext hexit -
 have hi2 : i < s.l := by
  rcases Nat.lt_or_ge i s.l with h | h
  ·exact h
  ·exfalso
   rw [show s.l - i = 0 by omega, Nat.pow_zero] at hXi
   omega
 have hc := hS.cs i hi2
 obtain ⟨d, hd⟩ : ∃ d, d = X / b ^ (s.l - 1 - i) := ⟨_, rfl⟩
 have hdb : d < b := by
  rw [hd, Nat.div_lt_iff_lt_mul (Nat.pow_pos (by omega)), Nat.mul_comm, ← Nat.pow_succ, show (s.l - 1 - i).succ = s.l - i by omega]; exact hXi
 have hf : fgs b X (s.l - 1 - i) = chr d := by
  unfold fgs
  rw [← hd, Nat.mod_eq_of_lt hdb]
 have hc2 : w1.cell? ⟨s.b, s.o + i, none⟩ = some (.int .u8 (chr d : Int)) := by rw [hc]; unfold fig; rw [hf]
 refine F41.t8 false (i : Nat) s.a s.l s.c ⟨rfl, rfl, rfl, trivial⟩ fun B2 => ⟨s.b, s.o, hS.toSt.wt.at_ (by omega), i, rfl, hi2, _, hc2, bc_intro (fun h => ?_) (fun h => ?_)⟩
 ·have hd0 : d = 0 := chr_48 (by have := eqE h; omega) (by omega)
  refine ⟨by unfold inI64; omega, fun B3 => hnext _ _ (i + 1) ⟨rfl, intv (by omega), rfl, trivial⟩ rfl ⟨rfl, by omega, ?_⟩ (by omega)⟩
  rw [hd0] at hd
  have h1 := (Nat.div_eq_zero_iff_lt (Nat.pow_pos (n := s.l - 1 - i) (show 0 < b by omega))).1 hd.symm
  rw [show s.l - (i + 1) = s.l - 1 - i by omega]; exact h1
 ·have hd0 : d ≠ 0 := fun h0 => by
   subst h0
   exact eqN h rfl
  intro B3
  refine hexit _ _ (q _ i ⟨hXi, by omega, fun _ => ?_⟩ (by omega) ⟨rfl, rfl, rfl, trivial⟩ rfl)
  rw [show s.l - i - 1 = s.l - 1 - i by omega]
  rcases Nat.lt_or_ge X (b ^ (s.l - 1 - i)) with h1 | h1
  ·exact absurd (hd.trans (Nat.div_eq_of_lt h1)) hd0
  ·exact h1
theorem madeSeg (h : Bank w L) (hg : GB ≤ w.heap.size) (n : Nat) (hn : n ≤ 281474976710656) :
  Bank (w.alloc (.cells (madeCells #[(Value.int IntKind.u8 0)] n) 5)) (seg ⟨some ⟨w.heap.size, 0, none⟩, n, n, w.heap.size, 0⟩ (fun _ => .int .u8 0) :: L) ∧ Chg w (w.alloc (.cells (madeCells #[(Value.int IntKind.u8 0)] n) 5)) none2 := by
 have hh : (w.alloc (.cells (madeCells #[(Value.int IntKind.u8 0)] n) 5)).heap[w.heap.size]? = some (.cells (madeCells #[(Value.int IntKind.u8 0)] n) 5 (0, 0)) := heap_alloc_new ..
 have hc : Chg w (w.alloc (.cells (madeCells #[(Value.int IntKind.u8 0)] n) 5)) none2 := Chg.alloc _ _ (fun a => RowKit.frozen?_alloc_cells _ _ _ _) _
 have hcell : ∀ i, i < n → (w.alloc (.cells (madeCells #[(Value.int IntKind.u8 0)] n) 5)).cell? ⟨w.heap.size, 0 + i, none⟩ = some (.int .u8 0) := fun i hi => by
  rw [cell_eq, hh]
  show (madeCells #[(Value.int IntKind.u8 0)] n)[0 + i]? = _
  simp [madeCells, hi, Nat.mod_one]
 refine ⟨h.new hc ⟨⟨Nat.le_refl _, fun _ => rfl, fun i hi => ⟨⟨_, hcell i hi⟩, by rw [frozen_eq, hh]; simp⟩, fun _ => ⟨hg, _, _, hh⟩, by show n ≤ _; omega, by simp; omega⟩, hcell⟩ fun _ _ hm => Nat.le_of_eq hm.1.symm, hc⟩
theorem fin5 {g : Nat → Value} {i : Nat} (hb : Bank w (seg s g :: L)) (hi : i ≤ s.l) (hd : Done b X s i g) {e : Env} {K0 : Kont} (ha : agree e (F41.l5 false i s.a s.l s.c))
  (q : ∀ e' (r : Sl), r.l = s.l - i → Bank w (seg r (fun j => .int .u8 (fgs b X (s.l - i - 1 - j) : Int)) :: L) → e'.get 6 = r.v → e'.defers = e.defers → K0 .ret e' w) : W Tryz.prog 176 F41.p5 e w K0 := by
 refine F41.t5 false i s.a s.l s.c ha fun B1 => bc_false rfl fun B2 => F41.t10 i s.a s.l s.c ⟨rfl, rfl, trivial⟩ fun B3 => ⟨i, rfl, hi, fun B4 => q _ (s.sub i s.l) rfl ?_ rfl rfl⟩
 refine (hb.segSplit hi).tail.segCongr fun j hj => ?_
 have hj : j < s.l - i := hj
 show _ = g (i + j)
 rw [hd (i + j) (by omega) (by omega)]
 unfold fig
 rw [show s.l - 1 - (i + j) = s.l - i - 1 - j by omega]
end
theorem nearest_f {n : Nat} (h1 : 1 ≤ n) (h2 : n < 32768) : floatOfInt .f64 (n : Int) = fbits n := by
 have h := (fbits_read h1 h2).1
 show FloatKind.encode .f64 (.number (decide ((n : Int) < 0)) (n : Int).natAbs 0) = _
 rw [decF (by omega), Int.natAbs_natCast]
 exact h
theorem room {b X z n J : Nat} (hb2 : 2 ≤ b) (hbl : blen X ≤ 16640) (hJ : 4503599627370496 ≤ n)
  (hl : (∃ p q p' q', p * q' = p' * q + 1 ∧ 2 ^ p' ≤ b ^ q' ∧ 16700 ≤ q + q' ∧ n * q ≤ p * 2 ^ J) ∨ ∃ s, b = 2 ^ s ∧ n = s * 2 ^ J)
  (hz : ∀ t, t * n ≤ blen X * 2 ^ J → t ≤ z) : X < b ^ (z + 1) := by
 have hXb : X < 2 ^ blen X := blen_lt X
 rcases hl with ⟨p, q, p', q', h1, h2, h3, h4⟩ | ⟨s, rfl, rfl⟩
 ·rcases Nat.lt_or_ge X (b ^ (z + 1)) with h | h
  ·exact h
  ·exfalso
   have hlt : b ^ (z + 1) < 2 ^ blen X := Nat.lt_of_le_of_lt h hXb
   have hz1 : z + 1 < blen X := by
    have h5 : 2 ^ (z + 1) ≤ b ^ (z + 1) := Nat.pow_le_pow_left hb2 _
    exact (Nat.pow_lt_pow_iff_right (show 1 < 2 by omega)).1 (Nat.lt_of_le_of_lt h5 hlt)
   have h6 := dio h1 h2 hlt (by omega)
   have hq0 : 0 < q := by
    rcases Nat.eq_zero_or_pos q with h0 | h0
    ·subst h0
     rw [Nat.mul_zero, Nat.zero_add] at h1
     rw [Nat.mul_zero] at h6
     have h7 : p ≠ 0 := fun e => by rw [e, Nat.zero_mul] at h1; omega
     have h8 := Nat.mul_pos (show 0 < z + 1 by omega) (Nat.pos_of_ne_zero h7)
     omega
    ·exact h0
   have h7 : (z + 1) * n ≤ blen X * 2 ^ J := by
    refine Nat.le_of_mul_le_mul_right ?_ hq0
    calc (z + 1) * n * q = (z + 1) * (n * q) := Nat.mul_assoc ..
     _ ≤ (z + 1) * (p * 2 ^ J) := Nat.mul_le_mul_left _ h4
     _ = (z + 1) * p * 2 ^ J := (Nat.mul_assoc ..).symm
     _ ≤ blen X * q * 2 ^ J := Nat.mul_le_mul_right _ h6
     _ = blen X * 2 ^ J * q := by rw [Nat.mul_assoc, Nat.mul_comm q, Nat.mul_assoc]
   have := hz _ h7
   omega
 ·have hs : s ≠ 0 := fun e => by rw [e, Nat.pow_zero] at hb2; omega
  have h1 := hz (blen X / s) (by
   rw [← Nat.mul_assoc]
   exact Nat.mul_le_mul_right _ (Nat.div_mul_le_self _ _))
  refine Nat.lt_of_lt_of_le hXb ?_
  rw [← Nat.pow_mul]
  refine Nat.pow_le_pow_right (by omega) ?_
  have h2 := Nat.lt_mul_div_succ (blen X) (show 0 < s by omega)
  have h3 : s * (blen X / s + 1) ≤ s * (z + 1) := Nat.mul_le_mul_left _ (by omega)
  omega
end Go.Proofs.YtlkjiiibmfpbcaaGreatDoor
namespace Go.Proofs.YtlkjiiibmfpbcaaGreatDoor
open Go
def figV (b X n : Nat) : Nat → Value := fun j => .int .u8 (fgs b X (n - 1 - j) : Int)
section
variable {w : World} {s x : Sl} {X t : Nat} {L : List Item}
theorem two41 {g : Nat → Value} (hb : Bank w (seg s g :: nmz x X :: L)) (hX0 : X ≠ 0) (hx : x.l ≤ 260) (hsl : s.l ≤ 1000000) (ht1 : 1 ≤ t) (ht : t ≤ 5) (hX : X < (2 ^ t) ^ s.l) {e : Env} {R : Value → World → Prop}
  (ha : agree e (F41.l6 x.a x.l x.c false s.l s.a s.l s.c t (2 ^ t - 1 : Nat) (dg X 0 : Nat) 64 1)) (hdf : e.defers = [])
  (q : ∀ (r : Sl) n w', IsN (2 ^ t) X n → r.l = n → Bank w' (seg r (figV (2 ^ t) X n) :: nmz x X :: L) → Chg w w' (wds s) → R r.v w') :
  W Tryz.prog 176 F41.p7 e w (thenW Tryz.prog 176 F41.p4 (thenW Tryz.prog 176 F41.p5 (retK Tryz.prog [.tmp 6] R))) := by
 have hN : Nz w x X := hb.tail.head
 have hxl0 : x.l ≠ 0 := fun h0 => by
  have := hN.lt
  rw [h0, Nat.pow_zero] at this; omega
 have htop : BB ^ (x.l - 1) ≤ X := by
  rcases Nat.lt_or_ge X (BB ^ (x.l - 1)) with h | h
  ·have := hN.nm _ h; omega
  ·exact h
 have b0 : Bank w (nmz x X :: seg s g :: L) := hb.pick 2 [1, 0] rfl
 have b1 : Bank w (nmz x X :: [seg s g]) := b0.sub (.cons_cons _ (.cons_cons _ (List.nil_sublist _)))
 have b2 : Bank w (nl x X :: [seg s g]) := b1.map1 hN.toNt fun b i hm => ⟨hm.1, hm.2.1, by have := hm.2.2; have := hN.lc; omega⟩
 refine words7 (L := []) (b2.pick 2 [1, 0] rfl) hxl0 htop (by omega) hsl ht1 ht hX ha fun e1 w1 i1 g1 bb1 hd1 hi1 htop1 h64 c1 ha1 hdf1 => ?_
 show W Tryz.prog 176 F41.p4 e1 w1 _
 refine last4 bb1 hd1 hi1 hsl ht1 ht hX h64 htop1 ha1 fun e2 w2 i2 g2 bb2 hd2 hi2 hz htop2 c2 ha2 hdf2 => ?_
 show W Tryz.prog 176 F41.p5 e2 w2 _
 have c12 := c1.trans' c2
 have b3 : Bank w2 (seg s g2 :: nmz x X :: L) := hb.upd c12 (fun _ _ _ h => h) bb2.head fun _ _ _ h => h
 have hn : IsN (2 ^ t) X (s.l - i2) := by
  refine ⟨?_, ?_, fun hne => ?_⟩
  ·rw [pow_eq]
   exact (Nat.div_eq_zero_iff_lt (Nat.two_pow_pos _)).1 hz
  ·rcases Nat.lt_or_ge i2 s.l with h | h
   ·omega
   ·exfalso
    rw [show s.l - i2 = 0 by omega, Nat.mul_zero, Nat.pow_zero, Nat.div_one] at hz
    exact hX0 hz
  ·rw [pow_eq]
   rcases Nat.lt_or_ge X (2 ^ (t * (s.l - i2 - 1))) with h | h
   ·rcases Nat.lt_or_ge i2 s.l with h1 | h1
    ·exact absurd (Nat.div_eq_of_lt h) (htop2 (by omega))
    ·exfalso
     rw [show s.l - i2 = 0 by omega, Nat.mul_zero, Nat.pow_zero, Nat.div_one] at hz
     exact hX0 hz
   ·exact h
 refine fin5 b3 hi2 hd2 ha2 fun e3 r hr b4 hv hdf3 => ret1 ?_ hv (q r _ w2 hn hr b4 c12)
 rw [hdf3, hdf2, hdf1]; exact hdf
end
end Go.Proofs.YtlkjiiibmfpbcaaGreatDoor
namespace Go.Proofs.YtlkjiiibmfpbcaaGreatDoor
open Go
theorem low_and {x t q : Nat} (hx : x < 18446744073709551616) (h : x = 2 ^ t * (2 * q + 1)) : iAnd .u64 (x : Int) (IntKind.wrap .u64 (0 - x)) = ((2 ^ t : Nat) : Int) := by
 have hx0 : x ≠ 0 := by have := Nat.two_pow_pos t; have : 2 ^ t * 1 ≤ 2 ^ t * (2 * q + 1) := Nat.mul_le_mul_left _ (by omega); omega
 rw [wrapE, show (0 - (x : Int)) % 18446744073709551616 = ((18446744073709551616 - x : Nat) : Int) by omega, iAndN _ _ hx (by omega)]
 have := and_low t q (by rw [← h]; exact hx)
 rw [← h] at this
 rw [show 18446744073709551616 - x = 2 ^ 64 - x from rfl, this]
theorem ret1f {w : World} {K : SK} {a : Option Addr} {t : Nat} {e : Env} {R : Value → World → Prop} {v : Value} (hd : e.defers = [⟨.fn (.func 57) #[], #[.pointer a]⟩]) (hka : K.a = a) (hv : e.get t = v) (hk : StkAt w K) (h : ∀ w', Chg w w' K.free → R v w') :
  retK Tryz.prog [.tmp t] R .ret e w := by
 show runD Tryz.prog e.defers w _
 rw [hd, ← hka]
 refine ⟨rfl, Tryz.call57, d57 w K hk _ fun w' c => ?_⟩
 simp only [runD, resOne, hv]
 exact h w' c
section
variable {w : World} {x : Sl} {X b N : Nat} {L : List Item}
theorem tail41 {w0 : World} {s : Sl} {K : SK} {a : Option Addr} (hb : Bank w (stk K :: seg s (fig b s.l X) :: nmz x X :: L)) (hsl : s.l ≤ 1000000) (hb2 : 2 ≤ b) (hb62 : b ≤ 62) (hX0 : X ≠ 0) (hX : X < b ^ s.l) (hka : K.a = a)
  (hc : Chg w0 w none2) (hfree : ∀ c i, c < w0.heap.size → ¬ K.free c i) {e : Env} {R : Value → World → Prop}
  (ha : agree e (F41.l8 false 0 s.a s.l s.c)) (hdf : e.defers = [⟨.fn (.func 57) #[], #[.pointer a]⟩])
  (q : ∀ (r : Sl) n w', IsN b X n → r.l = n → Bank w' (seg r (figV b X n) :: nmz x X :: L) → Chg w0 w' none2 → R r.v w') :
  W Tryz.prog 176 F41.p9 e w (thenW Tryz.prog 176 F41.p5 (retK Tryz.prog [.tmp 6] R)) := by
 refine strip9 hb.tail hsl hb2 hb62 hX0 hX ha fun e1 i hn hi ha1 hdf1 => ?_
 show W Tryz.prog 176 F41.p5 e1 w _
 refine fin5 (b := b) (X := X) (L := stk K :: nmz x X :: L) (hb.pick 2 [1, 0] rfl) hi (fun j _ _ => rfl) ha1 fun e2 r hr b2 hv hdf2 => ?_
 refine ret1f (K := K) (by rw [hdf2, hdf1]; exact hdf) hka hv b2.tail.head fun w' c => ?_
 have b3 : Bank w (stk K :: seg r (figV b X (s.l - i)) :: nmz x X :: L) := b2.pick 2 [1, 0] rfl
 refine q r _ w' hn hr (b3.tail.keep c fun y hy b' i' h1 h2 => b3.hdj hy b' i' h2 h1) (hc.trans c (fun _ _ _ h => h) fun b' i' hb' hm => (hfree b' i' hb' hm).elim)
theorem p2_41 (hb : Bank w (nmz x X :: L)) (hX0 : X ≠ 0) (hx : x.l ≤ 260) (hb2 : 2 ≤ b) (hb62 : b ≤ 62) (hN : N ≤ 65537) (hX : X < b ^ N) (hg : Glc w) {e : Env} {R : Value → World → Prop} (ha : agree e (F41.l2 x.a x.l x.c false b N)) (hdf : e.defers = [])
  (q : ∀ (r : Sl) n w', IsN b X n → r.l = n → Bank w' (seg r (figV b X n) :: nmz x X :: L) → Chg w w' none2 → R r.v w') : W Tryz.prog 176 F41.p2 e w (retK Tryz.prog [.tmp 6] R) := by
 refine F41.t2 x.a x.l x.c false b N ha fun B1 => ⟨N, N, rfl, rfl, Nat.le_refl _, by omega, by omega, ?_⟩
 rw [hdf]
 have hxN : Nz w x X := hb.head
 have hxl0 : x.l ≠ 0 := fun h0 => by
  have := hxN.lt
  rw [h0, Nat.pow_zero] at this; omega
 obtain ⟨t, u, hbt⟩ := odd_split b (by omega)
 have e0 : IntKind.wrap .u64 (b : Int) = (b : Int) := wrapN b (by omega)
 have e1 := low_and (x := b) (by omega) hbt
 rw [e0, e1]
 obtain ⟨wA, hwA⟩ : ∃ wA, wA = w.alloc (.cells (madeCells #[(Value.int IntKind.u8 0)] N) 5) := ⟨_, rfl⟩
 obtain ⟨s, hs⟩ : ∃ s : Sl, s = ⟨some ⟨w.heap.size, 0, none⟩, N, N, w.heap.size, 0⟩ := ⟨_, rfl⟩
 obtain ⟨bA, cA⟩ := madeSeg hb hg.gb N (by omega)
 rw [← hwA, ← hs] at bA
 rw [← hwA] at cA ⊢
 have hsl : s.l = N := by rw [hs]
 have hsa : s.a = some ⟨w.heap.size, 0, none⟩ := by rw [hs]
 have hsc : s.c = N := by rw [hs]
 have hsb : s.b = w.heap.size := by rw [hs]
 have hsv : s.v = .slice (some ⟨w.heap.size, 0, none⟩) N N := by rw [hs]
 have gA := cA.glc hg
 have xA : Nz wA x X := bA.tail.head
 refine bc_intro (fun h => ?_) (fun h => ?_)
 ·have hb2t : b = 2 ^ t := by have := eqE h; omega
  have ht5 : t ≤ 5 := by
   rcases Nat.lt_or_ge t 6 with h1 | h1
   ·omega
   ·have := Nat.pow_le_pow_right (show 0 < 2 by omega) h1
    have : (2 : Nat) ^ 6 = 64 := by decide
    omega
  have ht1 : 1 ≤ t := by
   rcases Nat.eq_zero_or_pos t with h1 | h1
   ·rw [h1, Nat.pow_zero] at hb2t; omega
   ·exact h1
  refine (c55 b wA (by omega) gA.tabs t u hbt).mono ?_
  rintro e4 w4 ⟨rfl, rfl⟩
  have et : IntKind.wrap .u64 (t : Int) = (t : Int) := wrapN t (by omega)
  refine ⟨_, rfl, ?_⟩
  rw [et]
  refine ⟨by omega, x.b, x.o, xA.toSt.wt.at_ (by omega), 0, rfl, by omega, _, by have := xA.sg 0 (by omega); exact this, fun B2 => ?_⟩
  have em : IntKind.wrap .u64 (iShl .u64 1 (t : Int) - 1) = ((2 ^ t - 1 : Nat) : Int) := by
   have h1 := iShlN 1 t
   have h2 : 2 ^ t ≤ 2 ^ 5 := Nat.pow_le_pow_right (by omega) ht5
   have h3 := Nat.two_pow_pos t
   have h4 : (2 : Nat) ^ 5 = 32 := by decide
   rw [show min t 64 = t by omega, Nat.one_mul, Nat.mod_eq_of_lt (by omega)] at h1
   rw [show iShl .u64 1 (t : Int) = ((2 ^ t : Nat) : Int) from h1, show (((2 ^ t : Nat) : Int) - 1) = ((2 ^ t - 1 : Nat) : Int) by omega]
   exact wrapN _ (by omega)
  rw [em]
  subst hb2t
  refine two41 (s := s) bA hX0 hx (by omega) ht1 ht5 (by rw [hsl]; exact hX) ?_ rfl fun r n w' hn hr b3 c3 => q r n w' hn hr b3 (cA.trans c3 (fun _ _ _ h => h) fun b' i' hb' hm => by
   have := hm.1
   omega)
  rw [hsl, hsa, hsc]
  exact ⟨rfl, rfl, rfl, rfl, rfl, rfl, rfl, rfl, rfl, trivial⟩
 ·refine (c56 wA gA.gb).mono ?_
  rintro e2 w2 ⟨_, rfl, K, rfl, hk, hl0, hq0, hnew, c2⟩
  have hsc0 : K.s.c = 0 := (hk.nil hq0).2
  have hfree : ∀ c i, c < wA.heap.size → ¬ K.free c i := by
   intro c i hc hf
   rcases hf with e | e | ⟨e, h1, h2⟩
   ·omega
   ·rw [hq0] at e; cases e
   ·omega
  have hKa : K.a ≠ none := by unfold SK.a; exact Option.some_ne_none _
  have b2 : Bank w2 (stk K :: seg s (fun _ => .int .u8 0) :: nmz x X :: L) := bA.new c2 hk fun c i hm => by
   rcases Nat.lt_or_ge c wA.heap.size with h1 | h1
   ·exact (hfree c i h1 hm).elim
   ·exact h1
  have g2 := c2.glc gA
  have cA2 := cA.trans' c2
  have hs0 : w.heap.size ≤ w2.heap.size := cA2.size
  have hfree0 : ∀ c i, c < w.heap.size → ¬ K.free c i := fun c i hc => hfree c i (Nat.lt_of_lt_of_le hc cA.size)
  refine ⟨_, rfl, (c58 b hb2 hb62 w2).mono ?_⟩
  rintro e3 w3 ⟨nd, rfl, hnd1, hnd2, hbb1, hbb2, rfl⟩
  refine ⟨_, trivial, _, trivial, rfl, ?_⟩
  obtain ⟨bb, hbb⟩ : ∃ bb, bb = b ^ nd := ⟨_, rfl⟩
  rw [← hbb] at hbb1 hbb2 ⊢
  rcases Nat.lt_or_ge x.l 9 with h9 | h9
  ·
   refine (c59n w3 K.a x.l b nd bb (by omega) g2).mono ?_
   rintro e4 w4 ⟨rfl, rfl⟩
   refine ⟨_, _, _, rfl, ResE.pass (c60 (nilS w4) x X w4 (nilSt w4 g2.gb) (b2.tail.tail.head) (by unfold Len; omega)) fun qs w5 hq fq c5 => ⟨_, _, _, rfl, ?_⟩⟩
   have c5n : Chg w4 w5 none2 := c5.mono fun c i hc hm => by
    have h1 : 0 ≤ i := hm.2.1
    have h2 : i < 0 + 0 := hm.2.2
    omega
   have b5 : Bank w5 (nmz qs X :: stk K :: seg s (fun _ => .int .u8 0) :: nmz x X :: L) := b2.fresh c5n hq rfl fq.nil
   have hqc : Chg w w5 none2 := cA2.trans' c5n
   have hql := hq.nm _ xA.lt
   have hcall := c61n (K := K) (s := s) (b5.pick 3 [2, 0, 1] rfl) K.a (by rw [hsl]; exact hX) (by omega) (by unfold Len; omega) hb2 hb62 hbb hbb1 ⟨hnd1, hnd2⟩ (P := fun r_24 w_25 => r_24 = .returned undef ∧ (∀ B_26, W Tryz.prog 176 F41.p9 (E [(1, (.bool false)), (7, (.int .i64 0)), (8, (.slice (some ⟨(World.heap w).size, 0, none⟩) N N))] B_26 (⟨.fn (.func 57) #[], #[(.pointer K.a)]⟩ :: [])) w_25 (thenW Tryz.prog 176 F41.p5 (retK Tryz.prog [.tmp 6] R)))) fun w6 b6 c6 => ⟨rfl, fun B6 => ?_⟩
   ·rw [hsv] at hcall
    exact hcall
   ·have c06 : Chg w w6 none2 := hqc.trans c6 (fun _ _ _ h => h) fun c i hc hm => by
     rcases hm with hm | hm
     ·have := hm.1
      omega
     ·have := hm.1
      have h1 := fq.nil (by have := hm.2.1; have := hm.2.2; omega)
      omega
    refine tail41 (w0 := w) (K := K) (s := s) (x := x) (L := L) (a := K.a) (by rw [hsl]; rw [hsl] at b6; exact b6.pick 2 [1, 0] rfl) (by omega) hb2 hb62 hX0 (by rw [hsl]; exact hX) rfl c06 hfree0 ?_ rfl q
    rw [hsa, hsl, hsc]
    exact ⟨rfl, rfl, rfl, trivial⟩
  ·
   refine c59 b2 h9 hx hbb hb2 hb62 hbb1 hbb2 ⟨hnd1, hnd2⟩ hKa (by omega) g2 fun tb k K4 r d f w4 hk1 hk6 ld htb => ⟨_, _, _, rfl, ?_⟩
   have b4 := ld.bank
   have hx4 : Nz w4 x X := b4.all (nmz x X) (by simp)
   have g4 := ld.ch.glc g2
   refine ResE.pass (c60 (nilS w4) x X w4 (nilSt w4 g4.gb) hx4 (by unfold Len; omega)) fun qs w5 hq fq c5 => ⟨_, _, _, rfl, ?_⟩
   have c5n : Chg w4 w5 none2 := c5.mono fun c i hc hm => by
    have h1 : 0 ≤ i := hm.2.1
    have h2 : i < 0 + 0 := hm.2.2
    omega
   have b5 : Bank w5 (nmz qs X :: stk K4 :: row tb (k * 3) f :: (ents b r d k ++ (seg s (fun _ => .int .u8 0) :: nmz x X :: L))) := b4.fresh c5n hq rfl fq.nil
   have b5' : Bank w5 (stk K4 :: seg s (fun _ => .int .u8 0) :: nmz qs X :: row tb (k * 3) f :: (ents b r d k ++ (nmz x X :: L))) := by
    refine b5.perm ?_
    refine (List.Perm.swap _ _ _).trans (List.Perm.cons _ ?_)
    refine List.Perm.trans (List.Perm.cons _ (List.Perm.cons _ List.perm_middle)) ?_
    refine List.Perm.trans (List.Perm.cons _ (List.Perm.swap _ _ _)) (List.Perm.swap _ _ _)
   have hql := hq.nm _ xA.lt
   have g5 := c5n.glc g4
   have hcall := d61 k w5 K4 qs s _ X k (some ⟨tb, 0, none⟩) tb b nd bb k r d f (nmz x X :: L) b5' rfl (Nat.le_refl _) (Nat.le_refl _) ld.tf ld.ok hk6 (by rw [hsl]; exact hX) (by omega) (by omega) (by omega) hb2 hb62 hbb hbb1 ⟨hnd1, hnd2⟩ (by have := ld.kl; omega) g5
    (fun r_24 w_25 => r_24 = .returned undef ∧ (∀ B_26, W Tryz.prog 176 F41.p9 (E [(1, (.bool false)), (7, (.int .i64 0)), (8, (.slice (some ⟨(World.heap w).size, 0, none⟩) N N))] B_26 (⟨.fn (.func 57) #[], #[(.pointer K.a)]⟩ :: [])) w_25 (thenW Tryz.prog 176 F41.p5 (retK Tryz.prog [.tmp 6] R)))) fun K6 w6 b6 ka6 kl6 nx6 c6 => ⟨rfl, fun B6 => ?_⟩
   ·rw [ld.ka, hsv] at hcall
    exact hcall
   ·have hf4 : ∀ c i, c < w.heap.size → ¬ K4.free c i := fun c i hc hm => hfree0 c i hc (ld.nx.free (Nat.lt_of_lt_of_le hc hs0) hm)
    have c04 : Chg w w4 none2 := cA2.trans ld.ch (fun _ _ _ h => h) fun c i hc hm => (hfree0 c i hc hm).elim
    have c05 := c04.trans' c5n
    have hf6 : ∀ c i, c < w.heap.size → ¬ K6.free c i := fun c i hc hm => hf4 c i hc (nx6.free (Nat.lt_of_lt_of_le hc c05.size) hm)
    have c06 : Chg w w6 none2 := c05.trans c6 (fun _ _ _ h => h) fun c i hc hm => by
     rcases hm with (hm | hm) | hm
     ·have := hm.1
      omega
     ·have := hm.1
      have h1 := fq.nil (by have := hm.2.1; have := hm.2.2; omega)
      have := c04.size
      omega
     ·exact (hf4 c i hc hm).elim
    have b7 : Bank w6 (stk K6 :: seg s (fig b s.l X) :: nmz x X :: L) := b6.sub (.cons_cons _ (.cons_cons _ (.cons _ (.cons _ (List.sublist_append_right _ _)))))
    refine tail41 (w0 := w) (K := K6) (s := s) (x := x) (L := L) (a := K.a) b7 (by omega) hb2 hb62 hX0 (by rw [hsl]; exact hX) (ka6.trans ld.ka) c06 hf6 ?_ rfl q
    rw [hsa, hsl, hsc]
    exact ⟨rfl, rfl, rfl, trivial⟩
end
end Go.Proofs.YtlkjiiibmfpbcaaGreatDoor
namespace Go.Proofs.YtlkjiiibmfpbcaaGreatDoor
open Go
theorem quoRun (w : World) {x y r : Nat} {o1 o2 : Operand} (h : floatBits .quo .f64 x y = some r) : Sem.run Tryz.prog (do eqGuard .quo 80 o1 o2 (.float .f64 x) (.float .f64 y); Go.binOp .quo 80 (.float .f64 x) (.float .f64 y)) w = .ok (.float .f64 r) w := by
 have h1 := run_float_arith (P := Tryz.prog) w .quo 80 .f64 x y r h
 simpa [eqGuard] using h1
structure Qt (w w' : World) : Prop where
 size : w.heap.size ≤ w'.heap.size
 heap : ∀ b, b < w.heap.size → w'.heap[b]? = w.heap[b]?
 os : w'.os = w.os
 output : w'.output = w.output
theorem Chg.qt {w w' : World} (h : Chg w w' none2) : Qt w w' := ⟨h.size, fun _ hb => h.heap hb fun _ h => h, h.os, h.output⟩
theorem Qt.trans {w w1 w2 : World} (h : Qt w w1) (k : Qt w1 w2) : Qt w w2 := ⟨Nat.le_trans h.size k.size, fun b hb => (k.heap b (Nat.lt_of_lt_of_le hb h.size)).trans (h.heap b hb), k.os.trans h.os, k.output.trans h.output⟩
theorem Qt.cell {w w' : World} (h : Qt w w') {b i : Nat} {v : Value} (hv : w.cell? ⟨b, i, none⟩ = some v) : w'.cell? ⟨b, i, none⟩ = some v := by
 rw [cell_eq, h.heap b (lt_of_cell hv), ← cell_eq]; exact hv
theorem Qt.rd {w w' : World} (h : Qt w w') {s : Sl} {V : Nat} (hs : Rd w s V) : Rd w' s V := ⟨hs.at_, fun i hi => h.cell (hs.sg i hi), hs.lt⟩
section
variable {w : World} {x : Sl} {X b : Nat} {L : List Item}
theorem c41 (hb : Bank w (nmz x X :: L)) (hx : x.l ≤ 260) (hb2 : 2 ≤ b) (hb62 : b ≤ 62) (hg : Glc w) {Q : Ending → World → Prop}
  (q : ∀ (r : Sl) n w', IsN b X n → r.l = n → r.a = some ⟨r.b, r.o, none⟩ → Cs w' r.b r.o n (figV b X n) → Qt w w' → Q (.returned r.v) w') : Calls Tryz.prog 41 #[x.v, .bool false, .int .i64 (b : Int)] w Q := by
 have hxN : Nz w x X := hb.head
 refine (F41.call x.a x.l x.c false b w (fun v w' => Q (.returned v) w') fun B => bc_false (decF (by omega)) (bc_false (decF (by omega)) fun B1 => F41.t1 x.a x.l x.c false b ⟨rfl, rfl, rfl, trivial⟩ fun B2 => bc_intro (fun h0 => ?_) (fun h0 => ?_))).mono fun e w' ⟨v, h1, h2⟩ => by rw [h1]; exact h2
 ·have hl0 : x.l = 0 := by have := eqE h0; omega
  have hX : X = 0 := by
   have := hxN.lt
   rw [hl0, Nat.pow_zero] at this; omega
  subst hX
  obtain ⟨w2, hw2⟩ : ∃ w2, w2 = w.alloc (.cells #[(.int .u8 48 : Value)] 5 (1, 2)) := ⟨_, rfl⟩
  have hh : w2.heap[w.heap.size]? = some (.cells #[.int .u8 48] 5 (1, 2)) := by rw [hw2]; exact heap_alloc_new ..
  have hq : Qt w w2 := by
   rw [hw2]
   refine ⟨by simp, fun k hk => ?_, rfl, rfl⟩
   simp only [World.alloc, Array.getElem?_push, Nat.ne_of_lt hk, if_false]
  have hcv := Lib.run_convert_bytes_const (P := Tryz.prog) w 55 5 #[(.int .u8 48 : Value)] 1 1 Tryz.underlying55 Tryz.underlying5
  rw [show w.alloc (.cells #[(.int .u8 48 : Value)] 5 ((#[(.int .u8 48 : Value)] : Array Value).size, (#[(.int .u8 48 : Value)] : Array Value).size + 1)) = w2 from hw2.symm] at hcv
  refine ⟨_, _, _, _, build1 cell55 w _ rfl, w2, _, _, _, hcv, fun B3 => ret1 (v := Sl.v ⟨some ⟨w.heap.size, 0, none⟩, 1, 1, w.heap.size, 0⟩) rfl rfl (q _ 1 _ ⟨Nat.pow_pos (by omega), Nat.le_refl _, fun h => absurd rfl h⟩ rfl rfl (fun i hi => ?_) hq)⟩
  obtain rfl : i = 0 := by omega
  have : fgs b 0 (1 - 1 - 0) = 48 := by unfold fgs; rw [Nat.zero_div, Nat.zero_mod]; rfl
  show _ = some (Value.int .u8 (fgs b 0 (1 - 1 - 0) : Int))
  rw [this, cell_eq]
  show (match w2.heap[w.heap.size]? with
   | some (.cells c _ _) => c[0 + 0]?
   | _ => none) = _
  rw [hh]; rfl
 ·have hl0 : x.l ≠ 0 := fun e => eqN h0 (by rw [e]; rfl)
  have hX0 : X ≠ 0 := fun e => by
   subst e
   have := hxN.nm 0 (by rw [Nat.pow_zero]; omega)
   omega
  have hbl0 : ∀ M, 64 * x.l ≤ M → blen X ≤ M := fun M hM => blen_le_of_lt (Nat.lt_of_lt_of_le hxN.lt (by rw [BB2]; exact Nat.pow_le_pow_right (by omega) hM))
  have hbl := hbl0 16640 (by omega)
  have hbl1 : 1 ≤ blen X := by have := blen_ne X hX0; omega
  obtain ⟨c, n, J, hT, hr, hn1, hn2, hJ1, hJ2, hpq⟩ := logAt b hb2 hb62
  obtain ⟨r, z, hq1, hq2, hz1, hz2⟩ := quo_cut hbl1 (by omega) hr hn1 hn2 hJ1 hJ2
  refine (c53 x X w hxN (by unfold Len; omega)).mono ?_
  rintro e1 w1 ⟨_, rfl, rfl, rfl⟩
  have i1 := run_convert_int_float (P := Tryz.prog) w1 3 80 .i64 .f64 (blen X : Int) (by rw [Tryz.underlying3]; rfl) Tryz.underlying80
  have i2 := run_convert_int_float (P := Tryz.prog) w1 3 80 .i64 .f64 (b : Int) (by rw [Tryz.underlying3]; rfl) Tryz.underlying80
  rw [nearest_f hbl1 (by omega)] at i1
  rw [nearest_f (by omega) (by omega)] at i2
  refine ⟨_, rfl, w1, _, i1, w1, _, i2, (hT w1).mono ?_⟩
  rintro e2 w2 ⟨rfl, rfl⟩
  refine ⟨_, rfl, w2, _, quoRun w2 hq1, w2, _, run_convert_float_int (P := Tryz.prog) w2 80 3 .f64 .i64 r z (by rw [Tryz.underlying80]; rfl) Tryz.underlying3 hq2, by unfold inI64; omega, bc_false rfl fun B3 => ?_⟩
  exact p2_41 (N := z + 1) hb hX0 hx hb2 hb62 (by omega) (room hb2 hbl hn1 hpq hz2) hg ⟨rfl, rfl, rfl, intv (by omega), trivial⟩ rfl fun r n w' hn hr b2 c2 => by
   have hS : SegAt w' r (figV b X n) := b2.head
   have hn1 := hn.2.1
   exact q r n w' hn hr (hS.toSt.wt.at_ (by omega)) (fun i hi => hS.cs i (by omega)) c2.qt
end
theorem c26 (x : Sl) (X b : Nat) (w : World) (hg : Glc w) (hx : Nz w x X) (hl : x.l ≤ 260) (hb2 : 2 ≤ b) (hb62 : b ≤ 62) :
  Calls Tryz.prog 26 #[x.v, .int .i64 (b : Int)] w fun e w' => ∃ n, IsN b X n ∧ e = .returned (.string (strOfNums (figs b n X))) ∧ Qt w w' := by
 refine (F26.call x.a x.l x.c (b : Int) w (fun v w' => ∃ n, IsN b X n ∧ v = .string (strOfNums (figs b n X)) ∧ Qt w w') fun B0 => ?_).mono fun e w' ⟨v, h1, n, h2, h3, h4⟩ => ⟨n, h2, by rw [h1, h3], h4⟩
 refine (c40 x X w hg.gb hx.toNt.rd (by omega)).mono ?_
 rintro e1 w1 ⟨r1, rfl, n1, l1, g1, c1⟩
 have b1 : Bank w1 (nmz r1 X :: []) := Bank.one { n1 with nm := hx.nm.of_len l1 }
 refine ⟨_, _, _, rfl, c41 b1 (by omega) hb2 hb62 (c1.glc hg) fun r n w2 hn hr hat hcs c2 => ⟨_, _, _, rfl, ?_⟩⟩
 have hcv := run_convert_bytes_arg (P := Tryz.prog) w2 55 5 Tryz.underlying55 Tryz.underlying5 r.b r.o r.l r.c (figs b n X) (by simp [figs, hr]) (fun j hj => by
  rw [hcs j (by omega)]
  have e : (figs b n X).getD j 0 = (fgs b X (n - 1 - j) : Int) := by simp [figs, List.getD, show j < n by omega]
  rw [e]; rfl) 9 Tryz.underlying9
 rw [← hat] at hcv
 exact ⟨w2, _, hcv, fun B1 => ret1 rfl rfl ⟨n, hn, rfl, c1.qt.trans c2⟩⟩
theorem c12 (x : Sl) (X b : Nat) (w : World) (hg : Glc w) (hx : Rd w x X) (hl : x.l ≤ 260) (hb2 : 2 ≤ b) (hb62 : b ≤ 62) :
  Calls Tryz.prog 12 #[x.v, .int .i64 (b : Int)] w fun e w' => ∃ n, IsN b X n ∧ e = .returned (.string (strOfNums (figs b n X))) ∧ Qt w w' := by
 refine (F12.call x.a x.l x.c (b : Int) w (fun v w' => ∃ n, IsN b X n ∧ v = .string (strOfNums (figs b n X)) ∧ Qt w w') fun B0 => bc_false (decF (by omega)) (bc_false (decF (by omega)) ?_)).mono fun e w' ⟨v, h1, n, h2, h3, h4⟩ => ⟨n, h2, by rw [h1, h3], h4⟩
 refine (c27 x X w hg.gb hx (by omega)).mono ?_
 rintro e1 w1 ⟨r1, rfl, n1, l1, g1, c1⟩
 refine ⟨_, _, _, rfl, (c26 r1 X b w1 (c1.glc hg) n1 (by omega) hb2 hb62).mono ?_⟩
 rintro e2 w2 ⟨n, hn, rfl, c2⟩
 exact ⟨_, rfl, fun B1 => ret1 rfl rfl ⟨n, hn, rfl, c1.qt.trans c2⟩⟩
end Go.Proofs.YtlkjiiibmfpbcaaGreatDoor
namespace Go.Proofs.YtlkjiiibmfpbcaaGreatDoor
open Go
theorem bb16 (n : Nat) : BB ^ n = 65536 ^ (4 * n) := by rw [Nat.pow_mul]; rfl
theorem hg_dg (X i k : Nat) (hk : k < 4) : hg (dg X i) k = hg X (4 * i + k) := by
 unfold dg
 rw [show BB = 65536 ^ 4 from rfl, hg_mod _ _ _ hk, ← Nat.pow_mul]
 unfold hg
 rw [Nat.div_div_eq_div_mul, ← Nat.pow_add]
theorem mask16 (a : Nat) (ha : a < 18446744073709551616) : iAnd .u64 (a : Int) 65535 = ((a % 65536 : Nat) : Int) := iAndMask a 16 (by omega) ha
theorem c8 (x : Sl) (X : Nat) (w : World) (hG : GB ≤ w.heap.size) (hx : Rd w x X) (hl : x.l ≤ 100000) :
  Calls Tryz.prog 8 #[x.v] w fun e w' => ∃ r : Sl, e = .returned r.v ∧ Hn w' r X ∧ r.l ≤ 4 * x.l ∧ Chg w w' none2 := by
 refine (F8.call x.a x.l x.c w (fun v w' => ∃ r : Sl, v = r.v ∧ Hn w' r X ∧ r.l ≤ 4 * x.l ∧ Chg w w' none2) fun B0 => ?_).mono fun e w' ⟨v, h1, r, h2, h3⟩ => ⟨r, by rw [h1, h2], h3⟩
 obtain ⟨s0, w1, e1, l1, h1, c1⟩ := Ho.empty hG (Chg.refl w none2)
 refine ⟨w1, _, _, _, e1, fun B1 => ?_⟩
 rw [F8.q3]
 refine W_for' (σ := Nat × Sl) (fun s => F8.l2 s.2.a s.2.l s.2.c x.a x.l x.c (x.l : Int) (s.1 : Int)) (fun s w' => s.1 ≤ x.l ∧ s.2.l = 4 * s.1 ∧ Ho w w' s.2 (X % 65536 ^ (4 * s.1))) (fun s => x.l - s.1) (0, s0)
  ⟨rfl, rfl, rfl, rfl, trivial⟩ ⟨Nat.zero_le _, by rw [l1]; rfl, by rw [Nat.mul_zero, Nat.pow_zero, Nat.mod_one]; exact h1⟩ ?_
 rintro ⟨i, out⟩ B2 wr K2 ⟨hi, hol, ho⟩ hKn hKe _
 simp only at hi hol ho
 refine F8.t2 out.a out.l out.c x.a x.l x.c _ _ ⟨rfl, rfl, rfl, rfl, trivial⟩ fun B3 => bc_intro (fun h3 B4 => ?_) (fun h3 B4 => ?_)
 ·have hlt : i < x.l := by have := dT h3; omega
  have rx := ho.ch.rd hx (fun _ _ h => h)
  obtain ⟨d, hd⟩ : ∃ d, d = dg X i := ⟨_, rfl⟩
  have hd2 : d < 18446744073709551616 := by rw [hd]; exact dg_lt' X i
  rw [F8.q6]
  refine W_block (F8.t5 out.a out.l out.c x.a x.l x.c _ _ ⟨rfl, rfl, rfl, rfl, trivial⟩ fun B5 => rdC (k := i) (hx.at_ (by omega)) rfl hlt (rx.sg i hlt) fun B6 => ?_)
  rw [← hd, F8.q8]
  refine W_for' (σ := Nat × Sl) (fun s => F8.l7 s.2.a s.2.l s.2.c (d : Int) (s.1 : Int) x.a x.l x.c (x.l : Int) (i : Int)) (fun s w' => s.1 ≤ 4 ∧ s.2.l = 4 * i + s.1 ∧ Ho w w' s.2 (X % 65536 ^ (4 * i + s.1))) (fun s => 4 - s.1) (0, out)
   ⟨rfl, rfl, rfl, rfl, rfl, rfl, trivial⟩ ⟨Nat.zero_le _, hol, ho⟩ ?_
  rintro ⟨k, o2⟩ B7 wq K3 ⟨hk, hol2, ho2⟩ hKn3 hKe3 _
  simp only at hk hol2 ho2
  refine F8.t7 o2.a o2.l o2.c (d : Int) (k : Int) x.a x.l x.c _ _ ⟨rfl, rfl, rfl, rfl, rfl, rfl, trivial⟩ fun B8 => bc_intro (fun h4 => ?_) (fun h4 B9 => ?_)
  ·have hk4 : k < 4 := by have := dT h4; omega
   have hdig : IntKind.wrap .i64 (iAnd .u64 (iShr .u64 (d : Int) (16 * (k : Int))) 65535) = ((hg X (4 * i + k) : Nat) : Int) := by
    rw [show (16 * (k : Int)) = ((16 * k : Nat) : Int) by omega, iShrN, show min (16 * k) 64 = 16 * k by omega, mask16 _ (Nat.lt_of_le_of_lt (Nat.div_le_self _ _) hd2), wrapIN _ (by omega), ← hg_dg X i k hk4, ← hd]
    unfold hg
    rw [p16]
   obtain ⟨w2, a2, l2, c2, e2, r, w3, e3, l3, h3⟩ := ho2.push (d := hg X (4 * i + k)) hdig (hg_lt _ _) (by omega)
   refine ⟨by unfold inI64; omega, by omega, w2, a2, l2, c2, e2, w3, r.a, r.l, r.c, e3, by unfold inI64; omega, fun B9 => hKn3 _ _ (k + 1, r) ⟨rfl, rfl, intv (by omega), rfl, rfl, rfl, trivial⟩ rfl ⟨hk4, by show r.l = 4 * i + (k + 1); omega, ?_⟩ (by show 4 - (k + 1) < 4 - k; omega)⟩
   show Ho w w3 r (X % 65536 ^ (4 * i + k + 1))
   rw [hmod_succ, ← hol2]; rw [hol2] at h3 ⊢; exact h3
  ·have hk4 : k = 4 := by have := dF h4; omega
   refine hKe3 _ _ ?_
   show W Tryz.prog 30 F8.p4 _ wq K2
   refine F8.t4 o2.a o2.l o2.c x.a x.l x.c _ _ ⟨rfl, rfl, rfl, rfl, trivial⟩ fun B10 => ⟨by unfold inI64; omega, fun B11 => hKn _ _ (i + 1, o2) ⟨rfl, rfl, rfl, intv (by omega), trivial⟩ rfl ⟨hlt, by show o2.l = 4 * (i + 1); omega, ?_⟩ (by show x.l - (i + 1) < x.l - i; omega)⟩
   show Ho w wq o2 (X % 65536 ^ (4 * (i + 1)))
   rw [show 4 * (i + 1) = 4 * i + k by omega]; exact ho2
 ·have hil : i = x.l := by have := dF h3; omega
  rw [hil, Nat.mod_eq_of_lt (by rw [← bb16]; exact hx.lt)] at ho
  refine hKe _ _ ?_
  show W Tryz.prog 30 F8.p1 _ wr _
  refine F8.t1 out.a out.l out.c ⟨rfl, trivial⟩ fun B4 => (c16 out X wr ho.rh (by omega)).mono ?_
  rintro e4 w4 ⟨r4, rfl, h4, hw⟩
  subst hw
  exact ⟨_, _, _, rfl, fun B5 => ret1 rfl rfl ⟨r4, rfl, h4, h4.nm _ (by rw [← bb16]; exact hx.lt), ho.ch⟩⟩
end Go.Proofs.YtlkjiiibmfpbcaaGreatDoor
namespace Go.Proofs.YtlkjiiibmfpbcaaGreatDoor
open Go
theorem c6 (k : Nat) (s : Sl) (f : Nat → Sl) (w : World) (hat : s.l ≠ 0 → s.a = some ⟨s.b, s.o, none⟩) (hl : s.l ≤ 1000) (hf : ∀ i, i < s.l → w.cell? ⟨s.b, s.o + i, none⟩ = some (f i).v) :
  Calls Tryz.prog 6 #[.int .i64 (k : Int), s.v] w fun e w' => ∃ b : Bool, e = .returned (.bool b) ∧ (b = true → ∀ i, i < s.l → (f i).l ≤ k) ∧ w' = w := by
 refine (F6.call (k : Int) s.a s.l s.c w (fun v w' => ∃ b : Bool, v = .bool b ∧ (b = true → ∀ i, i < s.l → (f i).l ≤ k) ∧ w' = w) fun B0 B1 => ?_).mono fun e w' ⟨v, h1, b, h2, h3⟩ => ⟨b, by rw [h1, h2], h3⟩
 rw [F6.q3]
 refine W_for' (σ := Nat) (fun i => F6.l2 (k : Int) s.a s.l s.c (s.l : Int) (i : Int)) (fun i w' => i ≤ s.l ∧ w' = w ∧ ∀ j, j < i → (f j).l ≤ k) (fun i => s.l - i) 0 ⟨rfl, rfl, rfl, rfl, trivial⟩ ⟨Nat.zero_le _, rfl, fun j h => by omega⟩ ?_
 rintro i B2 wr K2 ⟨hi, hw, hall⟩ hKn hKe hKr
 subst hw
 refine F6.t2 (k : Int) s.a s.l s.c _ _ ⟨rfl, rfl, rfl, rfl, trivial⟩ fun B3 => bc_intro (fun h3 => ?_) (fun h3 B4 => ?_)
 ·have hlt : i < s.l := by have := dT h3; omega
  refine ⟨s.b, s.o, hat (by omega), i, rfl, hlt, (f i).a, (f i).l, (f i).c, hf i hlt, bc_intro (fun h4 B5 => hKr _ _ ?_) (fun h4 => ⟨by unfold inI64; omega, fun B5 => hKn _ _ (i + 1) ⟨rfl, rfl, rfl, intv (by omega), trivial⟩ rfl ⟨hlt, rfl, fun j hj => ?_⟩ (by omega)⟩)⟩
  ·exact ret1 rfl rfl ⟨false, rfl, fun h => absurd h (by decide), rfl⟩
  ·by_cases hji : j = i
   ·subst hji; have := dF h4; omega
   ·exact hall j (by omega)
 ·have hil : i = s.l := by have := dF h3; omega
  refine hKe _ _ ?_
  show W Tryz.prog 18 F6.p1 _ wr _
  exact F6.t1 trivial fun B4 B5 => ret1 rfl rfl ⟨true, rfl, fun _ j hj => hall j (by omega), rfl⟩
theorem info22 : (Tryz.prog.info? 22).map (fun i => (i.size, i.zero)) = some (1, some (.slice none 0 0)) := by kernel_rfl
theorem buildL (w : World) (n : Nat) (parts : Array (Nat × Value)) (cells : Array Value) (h0 : n ≠ 0) (h1 : n ≤ 1000)
  (h : Instr.fill (fun i => some (i * 1, 1)) ((Array.range (n * 1)).map ((#[.slice none 0 0] : Array Value)[· % 1]!)) parts.toList = some cells) :
  (Instr.buildSlice 37 n parts).run Tryz.prog w = .ok (.slice (some ⟨w.heap.size, 0, none⟩) n n) (w.alloc (.cells cells 22)) := by
 cases hi : Tryz.prog.info? 22 with
 | none => have := info22; rw [hi] at this; simp at this
 | some ie =>
  have h2 := info22
  rw [hi] at h2
  simp only [Option.map_some, Option.some.injEq, Prod.mk.injEq] at h2
  refine run_buildSlice w 37 22 n parts cells ie (.slice none 0 0) Tryz.underlying37 hi h2.2 (by rw [h2.1]; omega) (by rw [h2.1]; omega) ?_
  rw [h2.1]
  exact h
theorem fillA1 (x : Value) (hx : x.cells = #[x]) : Instr.fill (fun i => some (i * 1, 1)) ((Array.range (1 * 1)).map ((#[.slice none 0 0] : Array Value)[· % 1]!)) [(0, x)] = some #[x] := by
 simp [Instr.fill, hx]
 apply Array.ext
 ·simp
 ·intro i h1 h2
  have h2 : i < 1 := by simpa using h2
  obtain rfl : i = 0 := by omega
  simp
theorem build1L (w : World) (x : Sl) : Sem.run Tryz.prog (Instr.buildSlice 37 1 #[(0, x.v)]) w = .ok (.slice (some ⟨w.heap.size, 0, none⟩) 1 1) (w.alloc (.cells #[x.v] 22)) :=
 buildL w 1 _ _ (by omega) (by omega) (fillA1 x.v rfl)
end Go.Proofs.YtlkjiiibmfpbcaaGreatDoor
namespace Go.Proofs.YtlkjiiibmfpbcaaGreatDoor
open Go
theorem c4 (x : Sl) (X u : Nat) (w : World) (hg : Glc w) (hx : Rd w x X) (hu : u < 256) :
  Calls Tryz.prog 4 #[x.v, .int .u8 (u : Int)] w fun e w' => e = .returned (.bool true) ∧ Qt w w' := by
 refine (F4.call x.a x.l x.c (u : Int) w (fun v w' => v = .bool true ∧ Qt w w') fun B0 => bc_intro (fun h B1 => ?_) (fun h1 => ?_)).mono fun e w' ⟨v, h1, h2, h3⟩ => ⟨by rw [h1, h2], h3⟩
 ·exact ret1 rfl rfl ⟨rfl, (Chg.refl _ _).qt⟩
 have hG := hg.gb
 obtain ⟨b, hb⟩ : ∃ b, b = 2 + u % 61 := ⟨_, rfl⟩
 have eb : (2 : Int) + IntKind.wrap .i64 (iRem (u : Int) 61) = (b : Int) := by
  rw [show iRem (u : Int) 61 = ((u % 61 : Nat) : Int) from iRemN u 61, wrapIN _ (by omega)]; omega
 have hb2 : 2 ≤ b := by omega
 have hb62 : b ≤ 62 := by omega
 rw [eb]
 have a1 : Chg w (w.alloc (.cells #[x.v] 22)) none2 := Chg.alloc _ _ (fun a => RowKit.frozen?_alloc_cells _ _ _ _) _
 have hh : (w.alloc (.cells #[x.v] 22)).heap[w.heap.size]? = some (.cells #[x.v] 22 (0, 0)) := heap_alloc_new ..
 obtain ⟨w1, hw1⟩ : ∃ w1, w1 = w.alloc (.cells #[x.v] 22) := ⟨_, rfl⟩
 refine ⟨by omega, by unfold inI64; omega, _, _, _, _, build1L w x, ?_⟩
 rw [← hw1] at a1 hh ⊢
 refine (c6 260 ⟨some ⟨w.heap.size, 0, none⟩, 1, 1, w.heap.size, 0⟩ (fun _ => x) w1 (fun _ => rfl) (by show 1 ≤ 1000; omega) (fun i hi => ?_)).mono ?_
 ·have hi : i < 1 := hi
  rw [cell_eq]
  show (match w1.heap[w.heap.size]? with
   | some (.cells c _ _) => c[0 + i]?
   | _ => none) = _
  rw [hh]
  obtain rfl : i = 0 := by omega
  rfl
 rintro e1 w2 ⟨q, rfl, hq, hw⟩
 have hw := hw.symm
 subst hw
 refine ⟨_, rfl, bc_intro (fun h B1 => ret1 rfl rfl ⟨rfl, a1.qt⟩) (fun h => ?_)⟩
 have lx : x.l ≤ 260 := hq (by simpa using h) 0 (by show 0 < 1; omega)
 refine (c12 x X b w1 (a1.glc hg) (a1.qt.rd hx) lx hb2 hb62).mono ?_
 rintro e2 w2 ⟨n, hn, rfl, k2⟩
 have k02 := a1.qt.trans k2
 refine ⟨_, rfl, (c8 x X w2 (Nat.le_trans hG k02.size) (k02.rd hx) (by omega)).mono ?_⟩
 rintro e3 w3 ⟨d, rfl, hd, ld, c3⟩
 have k03 := k02.trans c3.qt
 refine ⟨_, _, _, rfl, (c13 d X b w3 (Nat.le_trans hG k03.size) hd (by omega) hb2 hb62).mono ?_⟩
 rintro e4 w4 ⟨m, hm, rfl, c4'⟩
 obtain rfl := IsN.uniq hb2 hn hm
 exact ⟨_, rfl, fun B2 => ret1 rfl (congrArg Value.bool (beq_self_eq_true _)) ⟨rfl, k03.trans c4'.qt⟩⟩
end Go.Proofs.YtlkjiiibmfpbcaaGreatDoor
