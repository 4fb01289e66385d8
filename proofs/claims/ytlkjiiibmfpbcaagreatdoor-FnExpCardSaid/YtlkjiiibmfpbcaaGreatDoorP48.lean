/- Contracts: words into digits and back. Condition: lengths up to a million. -/
import Derived.Test.YtlkjiiibmfpbcaaGreatDoorP47
import Derived.Test.YtlkjiiibmfpbcaaGreatDoorP42
namespace Go.Proofs.YtlkjiiibmfpbcaaGreatDoor
open Go
theorem bb16 (n : Nat) : BB ^ n = 65536 ^ (4 * n) := by rw [Nat.pow_mul]; rfl
theorem hg_dg (X i k : Nat) (hk : k < 4) : hg (dg X i) k = hg X (4 * i + k) := by
 unfold dg
 rw [show BB = 65536 ^ 4 from rfl, hg_mod _ _ _ hk, ← Nat.pow_mul]
 unfold hg
 rw [Nat.div_div_eq_div_mul, ← Nat.pow_add]
theorem mask16 (a : Nat) (ha : a < 18446744073709551616) : iAnd .u64 (a : Int) 65535 = ((a % 65536 : Nat) : Int) := iAndMask a 16 (by omega) ha
theorem c8 (x : Sl) (X : Nat) (w : World) (hG : GB ≤ w.heap.size) (hx : Rd w x X) (hl : x.l ≤ 100000) :
  Calls Tryz.prog 8 #[x.v] w fun e w' => ∃ r : Sl, e = .returned r.v ∧ Hn w' r X ∧ r.l ≤ 4 * x.l ∧ Chg w w' none2 := by
 refine (F8.call x.a x.l x.c w (fun v w' => ∃ r : Sl, v = r.v ∧ Hn w' r X ∧ r.l ≤ 4 * x.l ∧ Chg w w' none2) fun B0 => ?_).mono fun e w' ⟨v, h1, r, h2, h3⟩ => ⟨r, by rw [h1, h2], h3⟩
 obtain ⟨s0, w1, e1, l1, h1, c1⟩ := Ho.empty hG (Chg.refl w none2)
 refine ⟨w1, _, _, _, e1, fun B1 => ?_⟩
 rw [F8.q3]
 refine W_for' (σ := Nat × Sl) (fun s => F8.l2 s.2.a s.2.l s.2.c x.a x.l x.c (x.l : Int) (s.1 : Int)) (fun s w' => s.1 ≤ x.l ∧ s.2.l = 4 * s.1 ∧ Ho w w' s.2 (X % 65536 ^ (4 * s.1))) (fun s => x.l - s.1) (0, s0)
  ⟨rfl, rfl, rfl, rfl, trivial⟩ ⟨Nat.zero_le _, by rw [l1]; rfl, by rw [Nat.mul_zero, Nat.pow_zero, Nat.mod_one]; exact h1⟩ ?_
 rintro ⟨i, out⟩ B2 wr K2 ⟨hi, hol, ho⟩ hKn hKe _
 simp only at hi hol ho
 refine F8.t2 out.a out.l out.c x.a x.l x.c _ _ ⟨rfl, rfl, rfl, rfl, trivial⟩ fun B3 => bc_intro (fun h3 B4 => ?_) (fun h3 B4 => ?_)
 ·have hlt : i < x.l := by have := dT h3; omega
  have rx := ho.ch.rd hx (fun _ _ h => h)
  obtain ⟨d, hd⟩ : ∃ d, d = dg X i := ⟨_, rfl⟩
  have hd2 : d < 18446744073709551616 := by rw [hd]; exact dg_lt' X i
  rw [F8.q6]
  refine W_block (F8.t5 out.a out.l out.c x.a x.l x.c _ _ ⟨rfl, rfl, rfl, rfl, trivial⟩ fun B5 => rdC (k := i) (hx.at_ (by omega)) rfl hlt (rx.sg i hlt) fun B6 => ?_)
  rw [← hd, F8.q8]
  refine W_for' (σ := Nat × Sl) (fun s => F8.l7 s.2.a s.2.l s.2.c (d : Int) (s.1 : Int) x.a x.l x.c (x.l : Int) (i : Int)) (fun s w' => s.1 ≤ 4 ∧ s.2.l = 4 * i + s.1 ∧ Ho w w' s.2 (X % 65536 ^ (4 * i + s.1))) (fun s => 4 - s.1) (0, out)
   ⟨rfl, rfl, rfl, rfl, rfl, rfl, trivial⟩ ⟨Nat.zero_le _, hol, ho⟩ ?_
  rintro ⟨k, o2⟩ B7 wq K3 ⟨hk, hol2, ho2⟩ hKn3 hKe3 _
  simp only at hk hol2 ho2
  refine F8.t7 o2.a o2.l o2.c (d : Int) (k : Int) x.a x.l x.c _ _ ⟨rfl, rfl, rfl, rfl, rfl, rfl, trivial⟩ fun B8 => bc_intro (fun h4 => ?_) (fun h4 B9 => ?_)
  ·have hk4 : k < 4 := by have := dT h4; omega
   have hdig : IntKind.wrap .i64 (iAnd .u64 (iShr .u64 (d : Int) (16 * (k : Int))) 65535) = ((hg X (4 * i + k) : Nat) : Int) := by
    rw [show (16 * (k : Int)) = ((16 * k : Nat) : Int) by omega, iShrN, show min (16 * k) 64 = 16 * k by omega, mask16 _ (Nat.lt_of_le_of_lt (Nat.div_le_self _ _) hd2), wrapIN _ (by omega), ← hg_dg X i k hk4, ← hd]
    unfold hg
    rw [p16]
   obtain ⟨w2, a2, l2, c2, e2, r, w3, e3, l3, h3⟩ := ho2.push (d := hg X (4 * i + k)) hdig (hg_lt _ _) (by omega)
   refine ⟨by unfold inI64; omega, by omega, w2, a2, l2, c2, e2, w3, r.a, r.l, r.c, e3, by unfold inI64; omega, fun B9 => hKn3 _ _ (k + 1, r) ⟨rfl, rfl, intv (by omega), rfl, rfl, rfl, trivial⟩ rfl ⟨hk4, by show r.l = 4 * i + (k + 1); omega, ?_⟩ (by show 4 - (k + 1) < 4 - k; omega)⟩
   show Ho w w3 r (X % 65536 ^ (4 * i + k + 1))
   rw [hmod_succ, ← hol2]; rw [hol2] at h3 ⊢; exact h3
  ·have hk4 : k = 4 := by have := dF h4; omega
   refine hKe3 _ _ ?_
   show W Tryz.prog 30 F8.p4 _ wq K2
   refine F8.t4 o2.a o2.l o2.c x.a x.l x.c _ _ ⟨rfl, rfl, rfl, rfl, trivial⟩ fun B10 => ⟨by unfold inI64; omega, fun B11 => hKn _ _ (i + 1, o2) ⟨rfl, rfl, rfl, intv (by omega), trivial⟩ rfl ⟨hlt, by show o2.l = 4 * (i + 1); omega, ?_⟩ (by show x.l - (i + 1) < x.l - i; omega)⟩
   show Ho w wq o2 (X % 65536 ^ (4 * (i + 1)))
   rw [show 4 * (i + 1) = 4 * i + k by omega]; exact ho2
 ·have hil : i = x.l := by have := dF h3; omega
  rw [hil, Nat.mod_eq_of_lt (by rw [← bb16]; exact hx.lt)] at ho
  refine hKe _ _ ?_
  show W Tryz.prog 30 F8.p1 _ wr _
  refine F8.t1 out.a out.l out.c ⟨rfl, trivial⟩ fun B4 => (c16 out X wr ho.rh (by omega)).mono ?_
  rintro e4 w4 ⟨r4, rfl, h4, hw⟩
  subst hw
  exact ⟨_, _, _, rfl, fun B5 => ret1 rfl rfl ⟨r4, rfl, h4, h4.nm _ (by rw [← bb16]; exact hx.lt), ho.ch⟩⟩
theorem setD_add (v k d : Nat) : setD v k d + BB ^ k * dg v k = v + BB ^ k * d := by
 have h1 := Nat.mod_add_div v (BB ^ (k + 1))
 rw [mod_succ] at h1
 unfold setD
 rw [Nat.mul_add, ← Nat.mul_assoc, ← Nat.pow_add]
 omega
theorem or_high (x d s : Nat) (h : x < 2 ^ s) : x ||| d * 2 ^ s = x + d * 2 ^ s := by
 rw [Nat.or_comm, ← Nat.shiftLeft_eq, ← Nat.shiftLeft_add_eq_or_of_lt h, Nat.add_comm]
theorem c34 (a : Sl) (A : Nat) (w : World) (hgl : Glb w) (ha : Hn w a A) (hl : a.l ≤ 100000) :
  Calls Tryz.prog 34 #[a.v] w fun e w' => ∃ r : Sl, e = .returned r.v ∧ Nz w' r A ∧ Chg w w' none2 := by
 refine (F34.call a.a a.l a.c w (fun v w' => ∃ r : Sl, v = r.v ∧ Nz w' r A ∧ Chg w w' none2) fun B0 => ?_).mono fun e w' ⟨v, h1, r, h2, h3⟩ => ⟨r, by rw [h1, h2], h3⟩
 have hG := hgl.gb
 have c1 : Chg w (w.alloc (.cells #[] 38)) none2 := Chg.alloc _ _ (fun a => RowKit.frozen?_alloc_cells _ _ _ _) _
 obtain ⟨s0, hs0⟩ : ∃ s : Sl, s = ⟨some ⟨w.heap.size, 0, none⟩, 0, 0, w.heap.size, 0⟩ := ⟨_, rfl⟩
 have n0 : Nt (w.alloc (.cells #[] 38)) s0 0 := by
  rw [hs0]
  exact { lc := Nat.le_refl _, at_ := fun h => absurd rfl h, wr := Wr.zero, pl := fun h => absurd rfl h, cm := Nat.zero_le _, gb := Nat.le_trans hG c1.size, sg := Sg.zero, lt := BBpow_pos _ }
 have g0 : G w (w.alloc (.cells #[] 38)) [num s0 0] := ⟨⟨by simp; exact n0, by simp⟩, c1, hgl⟩
 refine ⟨_, _, _, _, build0e cell22 w, fun B1 => ?_⟩
 have hzv : Value.slice (some ⟨w.heap.size, 0, none⟩) 0 0 = s0.v := by rw [hs0]
 have hs0l : s0.l = 0 := by rw [hs0]
 have hs0c : s0.c = 0 := by rw [hs0]
 rw [F34.q3]
 refine W_for' (σ := Nat × Sl) (fun s => F34.l2 s.2.a s.2.l s.2.c a.a a.l a.c (a.l : Int) (s.1 : Int)) (fun s w' => s.1 ≤ a.l ∧ s.2.l = (s.1 + 3) / 4 ∧ (s.2.c ≠ 0 → w.heap.size ≤ s.2.b) ∧ G w w' [num s.2 (A % 65536 ^ s.1)]) (fun s => a.l - s.1) (0, s0)
  ⟨hzv, rfl, rfl, rfl, trivial⟩ ⟨Nat.zero_le _, by rw [hs0l]; show 0 = (0 + 3) / 4; decide, fun h => absurd hs0c h, by rw [Nat.pow_zero, Nat.mod_one]; exact g0⟩ ?_
 rintro ⟨i, out⟩ B2 wr K2 ⟨hi, hol, hn, g⟩ hKn hKe _
 simp only at hi hol hn g
 obtain ⟨V, hV⟩ : ∃ V, V = A % 65536 ^ i := ⟨_, rfl⟩
 rw [← hV] at g
 have hVlt : V < 65536 ^ i := by rw [hV]; exact Nat.mod_lt _ (hpos i)
 refine F34.t2 out.a out.l out.c a.a a.l a.c _ _ ⟨rfl, rfl, rfl, rfl, trivial⟩ fun B3 => bc_intro (fun h3 => ?_) (fun h3 B4 => ?_)
 ·have hlt : i < a.l := by have := dT h3; omega
  have ra := ha.toRh.keep g.ch
  obtain ⟨d, hd⟩ : ∃ d, d = hg A i := ⟨_, rfl⟩
  have hd2 : d < 65536 := by rw [hd]; exact hg_lt A i
  obtain ⟨k, hk⟩ : ∃ k, k = i / 4 := ⟨_, rfl⟩
  obtain ⟨j, hj⟩ : ∃ j, j = i % 4 := ⟨_, rfl⟩
  have hij : i = 4 * k + j := by omega
  have last : ∀ (o2 : Sl) (w2 : World) (B' : Nat → Value), G w w2 [num o2 V] → o2.l = k + 1 → (o2.c ≠ 0 → w.heap.size ≤ o2.b) →
    W Tryz.prog 35 F34.p5 (E [(3, o2.v), (4, .int .i64 (i : Int)), (5, .int .i64 (d : Int)), (7, a.v), (8, .int .i64 (a.l : Int)), (9, .int .i64 (i : Int))] B' []) w2 (blockK 1 (thenW Tryz.prog 35 F34.p4 K2)) := by
   intro o2 w2 B' g2 hl2 hn2
   refine F34.t5 o2.a o2.l o2.c (i : Int) (d : Int) a.a a.l a.c _ _ ⟨rfl, rfl, rfl, rfl, rfl, rfl, trivial⟩ fun B4 => ?_
   unfold F34.v5
   have cd : Chg w2 w2.drew none2 := Chg.drew0 w2 _
   have g3 := g2.none cd
   have oP : Nt w2.drew o2 V := g3.bank.head
   rw [show iQuo .i64 (i : Int) 4 = (k : Int) by rw [hk]; exact iQuoI i 4 (by omega), show iRem (i : Int) 4 = (j : Int) by rw [hj]; exact iRemN i 4, show (16 * (j : Int)) = ((16 * j : Nat) : Int) by omega]
   obtain ⟨x, hx⟩ : ∃ x, x = dg V k := ⟨_, rfl⟩
   have hxlt : x < 2 ^ (16 * j) := by
    rw [hx]
    unfold dg
    refine Nat.lt_of_le_of_lt (Nat.mod_le _ _) ?_
    rw [Nat.div_lt_iff_lt_mul (BBpow_pos k), bb16, ← p16, ← Nat.pow_add, Nat.add_comm j, ← hij]
    exact hVlt
   have hp48 : 2 ^ (16 * j) ≤ 2 ^ 48 := Nat.pow_le_pow_right (by omega) (by omega)
   have hdm : d * 2 ^ (16 * j) ≤ 65535 * 2 ^ 48 := Nat.mul_le_mul (by omega) hp48
   have hsum : x + d * 2 ^ (16 * j) < 18446744073709551616 := by omega
   have hor : iOr .u64 (x : Int) (iShl .u64 (IntKind.wrap .u64 (d : Int)) ((16 * j : Nat) : Int)) = ((x + d * 2 ^ (16 * j) : Nat) : Int) := by
    rw [wrapN d (by omega), iShlN, show min (16 * j) 64 = 16 * j by omega, Nat.mod_eq_of_lt (by omega), iOrN _ _ (by omega) (by omega), or_high _ _ _ hxlt]
   obtain ⟨b4, c4⟩ := setD_bank (k := k) (d := x + d * 2 ^ (16 * j)) g3.bank (by omega) hsum
   refine ⟨by decide, rdC (k := k) (oP.at_ (by have := oP.lc; omega)) rfl (by omega) (oP.sg k (by omega)) ⟨by decide, by unfold inI64; omega, by omega, wtC (k := k) oP.wt rfl (by omega) fun B5 => ?_⟩⟩
   rw [← hx, hor]
   show W Tryz.prog 35 F34.p4 _ _ K2
   refine F34.t4 o2.a o2.l o2.c a.a a.l a.c _ _ ⟨rfl, rfl, rfl, rfl, trivial⟩ fun B6 => ⟨by unfold inI64; omega, fun B7 => hKn _ _ (i + 1, o2) ⟨rfl, rfl, rfl, intv (by omega), trivial⟩ rfl ⟨hlt, by show o2.l = (i + 1 + 3) / 4; omega, hn2, ?_⟩ (by show a.l - (i + 1) < a.l - i; omega)⟩
   have hval : setD V k (x + d * 2 ^ (16 * j)) = A % 65536 ^ (i + 1) := by
    have e1 := setD_add V k (x + d * 2 ^ (16 * j))
    rw [← hx, Nat.mul_add] at e1
    have e2 : BB ^ k * (d * 2 ^ (16 * j)) = 65536 ^ i * d := by
     rw [bb16, ← p16, hij, Nat.pow_add]
     simp only [Nat.mul_assoc, Nat.mul_comm]
    rw [hmod_succ, ← hV, ← hd, ← e2]
    omega
   rw [hval] at b4
   refine ⟨b4, g3.ch.trans c4 (fun _ _ _ h => h) fun b q hb hm => ?_, g.hg⟩
   have := hn2 (by have := hm.2.1; have := hm.2.2; omega)
   have := hm.1; omega
  refine rdR (k := i) ra rfl hlt ⟨by decide, bc_intro (fun h4 => ?_) (fun h4 B4 => ?_)⟩
  ·rw [show iRem (i : Int) 4 = (j : Int) by rw [hj]; exact iRemN i 4] at h4
   have hj0 : j = 0 := by have := eqE h4; omega
   have hVk : V < BB ^ k := by rw [bb16, show 4 * k = i by omega]; exact hVlt
   obtain ⟨w2, r2, w3, e2, e3, l3, g3, n3⟩ := push cell22 (X := V) (i := k) g hn (by omega) (by omega) (Nat.mod_eq_of_lt hVk).symm
   rw [Nat.mod_eq_of_lt (lt_pow_of_le hVk (by omega))] at g3
   rw [dg_of_lt V k hVk] at e2
   rw [← hd]
   exact ⟨w2, _, _, _, e2, w3, r2.a, r2.l, r2.c, e3, fun B4 => last r2 w3 B4 g3 l3 n3⟩
  ·rw [show iRem (i : Int) 4 = (j : Int) by rw [hj]; exact iRemN i 4] at h4
   have hj0 : j ≠ 0 := fun e => eqN h4 (by rw [e]; rfl)
   rw [← hd]
   exact last out wr B4 g (by omega) hn
 ·have hil : i = a.l := by have := dF h3; omega
  have hVA : V = A := by rw [hV, hil, Nat.mod_eq_of_lt ha.lt]
  rw [hVA] at g
  have oP : Nt wr out A := g.bank.head
  refine hKe _ _ ?_
  show W Tryz.prog 35 F34.p1 _ wr _
  refine F34.t1 out.a out.l out.c ⟨rfl, trivial⟩ fun B4 B5 => ret1 rfl rfl ⟨out, rfl, { oP with nm := fun n hn => ?_ }, g.ch⟩
  have := ha.nm (4 * n) (by rw [← bb16]; exact hn)
  omega
theorem c21 (x a : Sl) (X A : Nat) (w : World) (hgl : Glb w) (hx : Nz w x X) (ha : Hn w a A) (hl : a.l ≤ 100000) (hXA : X = A) :
  Calls Tryz.prog 21 #[x.v, a.v] w fun e w' => e = .returned (.bool true) ∧ Chg w w' none2 := by
 subst hXA
 refine (F21.call x.a x.l x.c a.a a.l a.c w (fun v w' => v = .bool true ∧ Chg w w' none2) fun B0 => ?_).mono fun e w' ⟨v, h1, h2, h3⟩ => ⟨by rw [h1, h2], h3⟩
 refine (c34 a X w hgl ha hl).mono ?_
 rintro e1 w1 ⟨r, rfl, hr, c1⟩
 have hx1 : Nt w1 x X := c1.nt_none hx.toNt
 have hll : x.l = r.l := Nm.uniq hx.nm hr.nm hx1 hr.toNt
 refine ⟨_, _, _, rfl, bc_false (neF (by omega)) fun B1 => ?_⟩
 rw [F21.q3]
 refine W_for' (σ := Nat) (fun i => F21.l2 x.a x.l x.c r.a r.l r.c (r.l : Int) (i : Int)) (fun i w' => i ≤ r.l ∧ Chg w1 w' none2) (fun i => r.l - i) 0 ⟨rfl, rfl, rfl, rfl, trivial⟩ ⟨Nat.zero_le _, Chg.refl _ _⟩ ?_
 rintro i B2 wr K2 ⟨hi, hc⟩ hKn hKe _
 refine F21.t2 x.a x.l x.c r.a r.l r.c _ _ ⟨rfl, rfl, rfl, rfl, trivial⟩ fun B3 => bc_intro (fun h3 => ?_) (fun h3 B4 => ?_)
 ·have hlt : i < r.l := by have := dT h3; omega
  have cd : Chg w1 wr.drew none2 := hc.drew
  have x2 := cd.nt_none hx1
  have r2 := cd.nt_none hr.toNt
  exact rdC (k := i) (x2.at_ (by have := x2.lc; omega)) rfl (by omega) (x2.sg i (by omega)) (rdC (k := i) (r2.at_ (by have := r2.lc; omega)) rfl hlt (r2.sg i hlt) (bc_false (neF rfl) ⟨by unfold inI64; have := r2.cm; have := r2.lc; omega, fun B4 => hKn _ _ (i + 1) ⟨rfl, rfl, rfl, intv (by omega), trivial⟩ rfl ⟨hlt, cd⟩ (by omega)⟩))
 ·refine hKe _ _ ?_
  show W Tryz.prog 29 F21.p1 _ wr _
  exact F21.t1 trivial fun B4 B5 => ret1 rfl rfl ⟨rfl, c1.trans' hc⟩
theorem c10 (x a : Sl) (X A : Nat) (w : World) (hgl : Glb w) (hx : Nz w x X) (ha : Hn w a A) (hl : a.l ≤ 100000) (hXA : X = A) :
  Calls Tryz.prog 10 #[x.v, a.v] w fun e w' => e = .returned (.bool true) ∧ Chg w w' none2 := by
 refine (F10.call x.a x.l x.c a.a a.l a.c w (fun v w' => v = .bool true ∧ Chg w w' none2) fun B0 => ?_).mono fun e w' ⟨v, h1, h2, h3⟩ => ⟨by rw [h1, h2], h3⟩
 refine (c21 x a X A w hgl hx ha hl hXA).mono ?_
 rintro e1 w1 ⟨rfl, c1⟩
 exact ⟨_, rfl, fun B1 => ret1 rfl rfl ⟨rfl, c1⟩⟩
end Go.Proofs.YtlkjiiibmfpbcaaGreatDoor
namespace Go.Proofs.YtlkjiiibmfpbcaaGreatDoor
open Go
theorem sgn_le {A B : Nat} : sgn A B ≤ 0 ↔ A ≤ B := by
 unfold sgn
 split
 ·omega
 ·split
  ·omega
  ·omega
theorem c22 (a b : Sl) (A B : Nat) (w : World) (hG : GB ≤ w.heap.size) (ha : Hn w a A) (hb : Hn w b B) (hl : a.l ≤ 10000) (hl2 : b.l ≤ 10000) (hB : B ≠ 0) :
  Calls Tryz.prog 22 #[a.v, b.v] w fun e w' => ∃ q r : Sl, e = .returned (.tuple #[q.v, r.v]) ∧ Hn w' q (A / B) ∧ Hn w' r (A % B) ∧ q.l ≤ a.l ∧ r.l ≤ b.l ∧ Chg w w' none2 := by
 refine (F22.call a.a a.l a.c b.a b.l b.c w (fun v w' => ∃ q r : Sl, v = .tuple #[q.v, r.v] ∧ Hn w' q (A / B) ∧ Hn w' r (A % B) ∧ q.l ≤ a.l ∧ r.l ≤ b.l ∧ Chg w w' none2) fun B0 => ?_).mono fun e w' ⟨v, h1, q, r, h2, h3⟩ => ⟨q, r, by rw [h1, h2], h3⟩
 have hb0 : b.l ≠ 0 := fun h => hB (hb.zero_iff.1 h)
 have hBp : 0 < B := Nat.pos_of_ne_zero hB
 have hrB := Nat.mod_lt A hBp
 have hqA := Nat.div_le_self A B
 have fin : ∀ {w' : World} {q r : Sl}, Hn w' q (A / B) → Hn w' r (A % B) → q.l ≤ a.l ∧ r.l ≤ b.l := fun hq hr =>
  ⟨hq.nm _ (Nat.lt_of_le_of_lt hqA ha.lt), hr.nm _ (Nat.lt_trans hrB hb.lt)⟩
 refine bc_intro (fun h => ?_) (fun h => ?_)
 ·have h1 : b.l = 1 := by have := eqE h; omega
  have hB2 : B < 65536 := by have := hb.lt; rw [h1, Nat.pow_one] at this; exact this
  refine rdR (k := 0) hb.toRh rfl (by omega) ?_
  rw [hg_self B hB2]
  refine (c28 a A B w hG ha.toRh (by omega) hBp hB2).mono ?_
  rintro e1 w1 ⟨q, rfl, hq, c1⟩
  refine ⟨_, _, _, trivial, _, trivial, rfl, (c23 (A % B) w1 (Nat.le_trans hG c1.size) (by omega)).mono ?_⟩
  rintro e2 w2 ⟨r, rfl, hr, c2⟩
  have hq2 := hq.keep c2
  exact ⟨_, _, _, rfl, fun B1 => ret2 rfl rfl rfl ⟨q, r, rfl, hq2, hr, (fin hq2 hr).1, (fin hq2 hr).2, c1.trans' c2⟩⟩
 ·obtain ⟨s0, w1, e1, l1, h1, c1⟩ := Ho.empty hG (Chg.refl w none2)
  refine ⟨w1, _, _, _, e1, (c15 a A w1 (ha.keep c1) (by omega)).mono ?_⟩
  rintro e2 w2 ⟨na, rfl, ⟨ba1, ba2⟩, la, hw⟩
  subst hw
  refine ⟨_, rfl, (c15 b B w2 (hb.keep c1) (by omega)).mono ?_⟩
  rintro e3 w3 ⟨nb, rfl, ⟨bb1, bb2⟩, lb, hw⟩
  subst hw
  refine ⟨_, rfl, by unfold inI64; omega, fun B1 => ?_⟩
  have s0n : Hn w3 s0 0 := ⟨h1.rh, fun k _ => by omega⟩
  rw [F22.q3]
  refine W_for' (σ := Int × Sl × Sl) (fun s => F22.l2 s.2.1.a s.2.1.l s.2.1.c b.a b.l b.c s.2.2.a s.2.2.l s.2.2.c s.1)
   (fun s w' => s.1 ≤ 160000 ∧ -160001 ≤ s.1 ∧ Chg w w' none2 ∧ ∃ A' Q', Hn w' s.2.1 A' ∧ Hn w' s.2.2 Q' ∧ A = Q' * B + A' ∧ (s.1 < 0 → A' < B) ∧ (0 ≤ s.1 → A' < B * 2 ^ (s.1.toNat + 1))) (fun s => (s.1 + 1).toNat) ((na : Int) - (nb : Int), a, s0)
   ⟨rfl, rfl, rfl, rfl, trivial⟩ ⟨by show (na : Int) - nb ≤ 160000; omega, by show -160001 ≤ (na : Int) - nb; omega, c1, A, 0, ha.keep c1, s0n, by omega, fun h => ?_, fun h => ?_⟩ ?_
  ·have h : (na : Int) - nb < 0 := h
   exact Nat.lt_of_lt_of_le ba1 (Nat.le_trans (Nat.pow_le_pow_right (by omega) (by omega)) (bb2 (by omega)))
  ·have h : 0 ≤ (na : Int) - nb := h
   show A < B * 2 ^ (((na : Int) - nb).toNat + 1)
   have hnb : nb ≠ 0 := fun e => by rw [e, Nat.pow_zero] at bb1; omega
   have h5 := Nat.mul_le_mul_right (2 ^ (((na : Int) - nb).toNat + 1)) (bb2 hnb)
   rw [← Nat.pow_add, show nb - 1 + (((na : Int) - nb).toNat + 1) = na by omega] at h5
   omega
  ·rintro ⟨i, a1, q1⟩ B2 wr K2 ⟨hi1, hi2, hc, A', Q', hA, hQ, hAQ, hneg, hpos1⟩ hKn hKe _
   simp only at hi1 hi2 hc hA hQ hAQ hneg hpos1
   have hG1 : GB ≤ wr.heap.size := Nat.le_trans hG hc.size
   refine F22.t2 a1.a a1.l a1.c b.a b.l b.c q1.a q1.l q1.c i ⟨rfl, rfl, rfl, rfl, trivial⟩ fun B3 => bc_intro (fun h3 => ?_) (fun h3 B4 => ?_)
   ·have h3 := dT h3
    obtain ⟨n, rfl⟩ : ∃ n : Nat, i = (n : Int) := ⟨i.toNat, by omega⟩
    have hA'A : A' ≤ A := by rw [hAQ]; exact Nat.le_add_left _ _
    have hQ'A : Q' ≤ A := by rw [hAQ]; exact Nat.le_trans (Nat.le_mul_of_pos_right _ hBp) (Nat.le_add_right _ _)
    have la1 : a1.l ≤ a.l := hA.nm _ (Nat.lt_of_le_of_lt hA'A ha.lt)
    have lq1 : q1.l ≤ a.l := hQ.nm _ (Nat.lt_of_le_of_lt hQ'A ha.lt)
    have hlt := hpos1 (by omega)
    rw [show ((n : Int).toNat + 1) = n + 1 by omega] at hlt
    have step : ∀ (a2 q2 : Sl) (A2 Q2 : Nat) (w2 : World) (B' : Nat → Value), Chg w w2 none2 → Hn w2 a2 A2 → Hn w2 q2 Q2 → A = Q2 * B + A2 → A2 < B * 2 ^ n →
      W Tryz.prog 51 F22.p4 (E [(0, a2.v), (1, b.v), (8, q2.v), (9, .int .i64 (n : Int))] B' []) w2 K2 := by
     intro a2 q2 A2 Q2 w2 B' hc2 hA2 hQ2 heq hlt2
     refine F22.t4 a2.a a2.l a2.c b.a b.l b.c q2.a q2.l q2.c (n : Int) ⟨rfl, rfl, rfl, rfl, trivial⟩ fun B4 => ⟨by unfold inI64; omega, fun B5 => hKn _ _ ((n : Int) - 1, a2, q2) ⟨rfl, rfl, rfl, rfl, trivial⟩ rfl ⟨by show (n : Int) - 1 ≤ _; omega, by show -160001 ≤ (n : Int) - 1; omega, hc2, A2, Q2, hA2, hQ2, heq, fun h => ?_, fun h => ?_⟩ (by show ((n : Int) - 1 + 1).toNat < ((n : Int) + 1).toNat; omega)⟩
     ·have h : (n : Int) - 1 < 0 := h
      obtain rfl : n = 0 := by omega
      rw [Nat.pow_zero, Nat.mul_one] at hlt2; exact hlt2
     ·have h : 0 ≤ (n : Int) - 1 := h
      show A2 < B * 2 ^ (((n : Int) - 1).toNat + 1)
      rw [show ((n : Int) - 1).toNat + 1 = n by omega]; exact hlt2
    refine (c35 b B n wr hG1 (hb.keep hc) (by omega) (by omega)).mono ?_
    rintro e4 w4 ⟨s, rfl, hs, ls, c4⟩
    have hA4 := hA.keep c4
    have hQ4 := hQ.keep c4
    refine ⟨_, _, _, rfl, (c36 s a1 (B * 2 ^ n) A' w4 hs hA4 (by omega)).mono ?_⟩
    rintro e5 w5 ⟨rfl, c5⟩
    have c45 := hc.trans' (c4.trans' c5)
    refine ⟨_, rfl, bc_intro (fun h6 => ?_) (fun h6 B6 => ?_)⟩
    ·have hle : B * 2 ^ n ≤ A' := sgn_le.1 (dT h6)
     have hG5 : GB ≤ w5.heap.size := Nat.le_trans hG c45.size
     refine (c37 a1 s A' (B * 2 ^ n) w5 hG5 (hA4.keep c5).toRh (hs.keep c5).toRh (by omega) hle).mono ?_
     rintro e6 w6 ⟨a2, rfl, ha2, c6⟩
     have hG6 : GB ≤ w6.heap.size := Nat.le_trans hG5 c6.size
     refine ⟨_, _, _, rfl, (c39 n w6 hG6 (by omega)).mono ?_⟩
     rintro e7 w7 ⟨bt, rfl, hbt, c7⟩
     have lbt : bt.l ≤ n / 16 + 1 := hbt.nm _ (by rw [p16]; exact Nat.pow_lt_pow_right (by omega) (by omega))
     refine ⟨_, _, _, rfl, (c38 q1 bt Q' (2 ^ n) w7 (Nat.le_trans hG6 c7.size) ((hQ4.keep c5).keep (c6.trans' c7)).toRh hbt.toRh (by omega) (by omega)).mono ?_⟩
     rintro e8 w8 ⟨q2, rfl, hq2, c8⟩
     refine ⟨_, _, _, rfl, fun B6 => step a2 q2 (A' - B * 2 ^ n) (Q' + 2 ^ n) w8 B6 ((c45.trans' (c6.trans' c7)).trans' c8) (ha2.keep (c7.trans' c8)) hq2 ?_ ?_⟩
     ·rw [Nat.add_mul, Nat.mul_comm (2 ^ n) B]; omega
     ·rw [Nat.pow_succ, ← Nat.mul_assoc] at hlt; omega
    ·have hnle : ¬ B * 2 ^ n ≤ A' := fun h => dF h6 (sgn_le.2 h)
     exact step a1 q1 A' Q' w5 B6 c45 (hA4.keep c5) (hQ4.keep c5) hAQ (by omega)
   ·have h3 := dF h3
    have hlt := hneg (by omega)
    have hQe : Q' = A / B := by
     rw [hAQ, Nat.add_comm, Nat.add_mul_div_right _ _ hBp, Nat.div_eq_of_lt hlt, Nat.zero_add]
    have hAe : A' = A % B := by
     rw [hAQ, Nat.add_comm, Nat.add_mul_mod_self_right, Nat.mod_eq_of_lt hlt]
    rw [hQe] at hQ
    rw [hAe] at hA
    refine hKe _ _ ?_
    show W Tryz.prog 51 F22.p1 _ wr _
    exact F22.t1 a1.a a1.l a1.c q1.a q1.l q1.c ⟨rfl, rfl, trivial⟩ fun B4 B5 => ret2 rfl rfl rfl ⟨q1, a1, rfl, hQ, hA, (fin hQ hA).1, (fin hQ hA).2, hc⟩
theorem div2 (E i : Nat) : E / 2 ^ i = 2 * (E / 2 ^ (i + 1)) + E / 2 ^ i % 2 := by
 rw [Nat.pow_succ, ← Nat.div_div_eq_div_mul]; omega
theorem c11 (a x m : Sl) (A X M : Nat) (w : World) (hG : GB ≤ w.heap.size) (ha : Hn w a A) (hx : Hn w x X) (hm : Hn w m M) (la : a.l ≤ 4000) (lx : x.l ≤ 4000) (lm : m.l ≤ 4000) (hM : M ≠ 0) :
  Calls Tryz.prog 11 #[a.v, x.v, m.v] w fun e w' => ∃ r : Sl, e = .returned r.v ∧ Hn w' r (A ^ X % M) ∧ r.l ≤ m.l ∧ Chg w w' none2 := by
 refine (F11.call a.a a.l a.c x.a x.l x.c m.a m.l m.c w (fun v w' => ∃ r : Sl, v = r.v ∧ Hn w' r (A ^ X % M) ∧ r.l ≤ m.l ∧ Chg w w' none2) fun B0 => ?_).mono fun e w' ⟨v, h1, r, h2, h3⟩ => ⟨r, by rw [h1, h2], h3⟩
 refine (c23 1 w hG (by omega)).mono ?_
 rintro e1 w1 ⟨s1, rfl, h1, c1⟩
 have l1 : s1.l ≤ 1 := h1.nm 1 (by omega)
 refine ⟨_, _, _, rfl, (c22 s1 m 1 M w1 (Nat.le_trans hG c1.size) h1 (hm.keep c1) (by omega) (by omega) hM).mono ?_⟩
 rintro e2 w2 ⟨q2, r2, rfl, hq2, hr2, lq2, lr2, c2⟩
 have c12 := c1.trans' c2
 refine ⟨_, _, _, trivial, _, _, _, trivial, rfl, (c15 x X w2 (hx.keep c12) (by omega)).mono ?_⟩
 rintro e3 w3 ⟨n, rfl, ⟨hn1, hn2⟩, ln, hw⟩
 subst hw
 refine ⟨_, rfl, by unfold inI64; omega, fun B1 => ?_⟩
 rw [F11.q3]
 refine W_for' (σ := Nat × Sl) (fun s => F11.l2 a.a a.l a.c x.a x.l x.c m.a m.l m.c s.2.a s.2.l s.2.c ((s.1 : Int) - 1)) (fun s w' => s.1 ≤ n ∧ Chg w w' none2 ∧ s.2.l ≤ m.l ∧ Hn w' s.2 (A ^ (X / 2 ^ s.1) % M)) (fun s => s.1) (n, r2)
  ⟨rfl, rfl, rfl, rfl, rfl, trivial⟩ ⟨Nat.le_refl _, c12, lr2, by show Hn w3 r2 (A ^ (X / 2 ^ n) % M); rw [Nat.div_eq_of_lt hn1, Nat.pow_zero]; exact hr2⟩ ?_
 rintro ⟨j, o⟩ B2 wr K2 ⟨hj, hc, lo, ho⟩ hKn hKe _
 simp only at hj hc lo ho
 have hG1 : GB ≤ wr.heap.size := Nat.le_trans hG hc.size
 refine F11.t2 a.a a.l a.c x.a x.l x.c m.a m.l m.c o.a o.l o.c _ ⟨rfl, rfl, rfl, rfl, rfl, trivial⟩ fun B3 => bc_intro (fun h3 => ?_) (fun h3 B4 => ?_)
 ·have h3 := dT h3
  obtain ⟨i, rfl⟩ : ∃ i, j = i + 1 := ⟨j - 1, by omega⟩
  obtain ⟨q, hq⟩ : ∃ q, q = X / 2 ^ (i + 1) := ⟨_, rfl⟩
  rw [← hq] at ho
  have step : ∀ (o2 : Sl) (w2 : World) (B' : Nat → Value), Chg w w2 none2 → o2.l ≤ m.l → Hn w2 o2 (A ^ (X / 2 ^ i) % M) →
    W Tryz.prog 43 F11.p4 (E [(0, a.v), (1, x.v), (2, m.v), (8, o2.v), (9, .int .i64 (((i + 1 : Nat) : Int) - 1))] B' []) w2 K2 := by
   intro o2 w2 B' hc2 lo2 ho2
   exact F11.t4 a.a a.l a.c x.a x.l x.c m.a m.l m.c o2.a o2.l o2.c _ ⟨rfl, rfl, rfl, rfl, rfl, trivial⟩ fun B4 => ⟨by unfold inI64; omega, fun B5 => hKn _ _ (i, o2) ⟨rfl, rfl, rfl, rfl, intv (by omega), trivial⟩ rfl ⟨by show i ≤ n; omega, hc2, lo2, ho2⟩ (by show i < i + 1; omega)⟩
  refine (c24 o o (A ^ q % M) (A ^ q % M) wr hG1 ho.toRh ho.toRh (by omega) (by omega)).mono ?_
  rintro e4 w4 ⟨p4, rfl, hp4, lp4, c4⟩
  have hc4 := hc.trans' c4
  refine ⟨_, _, _, rfl, (c22 p4 m _ M w4 (Nat.le_trans hG hc4.size) hp4 (hm.keep hc4) (by omega) (by omega) hM).mono ?_⟩
  rintro e5 w5 ⟨q5, r5, rfl, hq5, hr5, lq5, lr5, c5⟩
  have hc5 := hc4.trans' c5
  have v5 : A ^ q % M * (A ^ q % M) % M = A ^ (2 * q) % M := by rw [← Nat.mul_mod, ← Nat.pow_add, Nat.two_mul]
  rw [v5] at hr5
  refine ⟨_, _, _, trivial, _, _, _, trivial, rfl, ?_⟩
  have hii : (((i + 1 : Nat) : Int) - 1) = (i : Int) := by omega
  have c25' : Calls Tryz.prog 25 #[x.v, .int .i64 (((i + 1 : Nat) : Int) - 1)] w5 fun e w' => e = .returned (.bool (X / 2 ^ i % 2 == 1)) ∧ w' = w5 := by
   rw [hii]; exact c25 x X i w5 (hx.keep hc5).toRh (by omega) (by omega)
  refine c25'.mono ?_
  rintro e6 w6 ⟨rfl, hw⟩
  subst hw
  have hd := div2 X i
  rw [← hq] at hd
  refine ⟨_, rfl, bc_intro (fun h6 => ?_) (fun h6 B6 => ?_)⟩
  ·have hb1 : X / 2 ^ i % 2 = 1 := by simpa using h6
   rw [hb1] at hd
   refine (c24 r5 a (A ^ (2 * q) % M) A w6 (Nat.le_trans hG hc5.size) hr5.toRh (ha.keep hc5).toRh (by omega) (by omega)).mono ?_
   rintro e7 w7 ⟨p7, rfl, hp7, lp7, c7⟩
   have hc7 := hc5.trans' c7
   refine ⟨_, _, _, rfl, (c22 p7 m _ M w7 (Nat.le_trans hG hc7.size) hp7 (hm.keep hc7) (by omega) (by omega) hM).mono ?_⟩
   rintro e8 w8 ⟨q8, r8, rfl, hq8, hr8, lq8, lr8, c8⟩
   have v8 : A ^ (2 * q) % M * A % M = A ^ (X / 2 ^ i) % M := by rw [hd, Nat.pow_succ, Nat.mod_mul_mod]
   rw [v8] at hr8
   exact ⟨_, _, _, trivial, _, _, _, trivial, rfl, fun B7 => step r8 w8 B7 (hc7.trans' c8) lr8 hr8⟩
  ·have hb0 : X / 2 ^ i % 2 = 0 := by
    have h7 : X / 2 ^ i % 2 ≠ 1 := by simpa using h6
    have := Nat.mod_lt (X / 2 ^ i) (show 0 < 2 by omega)
    omega
   rw [hb0, Nat.add_zero] at hd
   rw [← hd] at hr5
   exact step r5 w6 B6 hc5 lr5 hr5
 ·have h3 := dF h3
  obtain rfl : j = 0 := by omega
  rw [Nat.pow_zero, Nat.div_one] at ho
  refine hKe _ _ ?_
  show W Tryz.prog 43 F11.p1 _ wr _
  exact F11.t1 o.a o.l o.c ⟨rfl, trivial⟩ fun B4 B5 => ret1 rfl rfl ⟨o, rfl, ho, lo, hc⟩
theorem c6 (k : Nat) (s : Sl) (f : Nat → Sl) (w : World) (hat : s.l ≠ 0 → s.a = some ⟨s.b, s.o, none⟩) (hl : s.l ≤ 1000) (hf : ∀ i, i < s.l → w.cell? ⟨s.b, s.o + i, none⟩ = some (f i).v) :
  Calls Tryz.prog 6 #[.int .i64 (k : Int), s.v] w fun e w' => ∃ b : Bool, e = .returned (.bool b) ∧ (b = true → ∀ i, i < s.l → (f i).l ≤ k) ∧ w' = w := by
 refine (F6.call (k : Int) s.a s.l s.c w (fun v w' => ∃ b : Bool, v = .bool b ∧ (b = true → ∀ i, i < s.l → (f i).l ≤ k) ∧ w' = w) fun B0 B1 => ?_).mono fun e w' ⟨v, h1, b, h2, h3⟩ => ⟨b, by rw [h1, h2], h3⟩
 rw [F6.q3]
 refine W_for' (σ := Nat) (fun i => F6.l2 (k : Int) s.a s.l s.c (s.l : Int) (i : Int)) (fun i w' => i ≤ s.l ∧ w' = w ∧ ∀ j, j < i → (f j).l ≤ k) (fun i => s.l - i) 0 ⟨rfl, rfl, rfl, rfl, trivial⟩ ⟨Nat.zero_le _, rfl, fun j h => by omega⟩ ?_
 rintro i B2 wr K2 ⟨hi, hw, hall⟩ hKn hKe hKr
 subst hw
 refine F6.t2 (k : Int) s.a s.l s.c _ _ ⟨rfl, rfl, rfl, rfl, trivial⟩ fun B3 => bc_intro (fun h3 => ?_) (fun h3 B4 => ?_)
 ·have hlt : i < s.l := by have := dT h3; omega
  refine ⟨s.b, s.o, hat (by omega), i, rfl, hlt, (f i).a, (f i).l, (f i).c, hf i hlt, bc_intro (fun h4 B5 => hKr _ _ ?_) (fun h4 => ⟨by unfold inI64; omega, fun B5 => hKn _ _ (i + 1) ⟨rfl, rfl, rfl, intv (by omega), trivial⟩ rfl ⟨hlt, rfl, fun j hj => ?_⟩ (by omega)⟩)⟩
  ·exact ret1 rfl rfl ⟨false, rfl, fun h => absurd h (by decide), rfl⟩
  ·by_cases hji : j = i
   ·subst hji; have := dF h4; omega
   ·exact hall j (by omega)
 ·have hil : i = s.l := by have := dF h3; omega
  refine hKe _ _ ?_
  show W Tryz.prog 18 F6.p1 _ wr _
  exact F6.t1 trivial fun B4 B5 => ret1 rfl rfl ⟨true, rfl, fun _ j hj => hall j (by omega), rfl⟩
theorem info22 : (Tryz.prog.info? 22).map (fun i => (i.size, i.zero)) = some (1, some (.slice none 0 0)) := by kernel_rfl
theorem buildL (w : World) (n : Nat) (parts : Array (Nat × Value)) (cells : Array Value) (h0 : n ≠ 0) (h1 : n ≤ 1000)
  (h : Instr.fill (fun i => some (i * 1, 1)) ((Array.range (n * 1)).map ((#[.slice none 0 0] : Array Value)[· % 1]!)) parts.toList = some cells) :
  (Instr.buildSlice 37 n parts).run Tryz.prog w = .ok (.slice (some ⟨w.heap.size, 0, none⟩) n n) (w.alloc (.cells cells 22)) := by
 cases hi : Tryz.prog.info? 22 with
 | none => have := info22; rw [hi] at this; simp at this
 | some ie =>
  have h2 := info22
  rw [hi] at h2
  simp only [Option.map_some, Option.some.injEq, Prod.mk.injEq] at h2
  refine run_buildSlice w 37 22 n parts cells ie (.slice none 0 0) Tryz.underlying37 hi h2.2 (by rw [h2.1]; omega) (by rw [h2.1]; omega) ?_
  rw [h2.1]
  exact h
end Go.Proofs.YtlkjiiibmfpbcaaGreatDoor
namespace Go.Proofs.YtlkjiiibmfpbcaaGreatDoor
open Go
theorem fillA2 (x m : Value) (hx : x.cells = #[x]) (hm : m.cells = #[m]) : Instr.fill (fun i => some (i * 1, 1)) ((Array.range (2 * 1)).map ((#[.slice none 0 0] : Array Value)[· % 1]!)) [(0, x), (1, m)] = some #[x, m] := by
 simp [Instr.fill, hx, hm]
 apply Array.ext
 ·simp
 ·intro i h1 h2
  have h2 : i < 2 := by simpa using h2
  rcases (show i = 0 ∨ i = 1 by omega) with h | h <;> subst h <;> simp
theorem fillA1 (x : Value) (hx : x.cells = #[x]) : Instr.fill (fun i => some (i * 1, 1)) ((Array.range (1 * 1)).map ((#[.slice none 0 0] : Array Value)[· % 1]!)) [(0, x)] = some #[x] := by
 simp [Instr.fill, hx]
 apply Array.ext
 ·simp
 ·intro i h1 h2
  have h2 : i < 1 := by simpa using h2
  obtain rfl : i = 0 := by omega
  simp
theorem build2L (w : World) (x m : Sl) : Sem.run Tryz.prog (Instr.buildSlice 37 2 #[(0, x.v), (1, m.v)]) w = .ok (.slice (some ⟨w.heap.size, 0, none⟩) 2 2) (w.alloc (.cells #[x.v, m.v] 22)) :=
 buildL w 2 _ _ (by omega) (by omega) (fillA2 x.v m.v rfl rfl)
theorem build1L (w : World) (x : Sl) : Sem.run Tryz.prog (Instr.buildSlice 37 1 #[(0, x.v)]) w = .ok (.slice (some ⟨w.heap.size, 0, none⟩) 1 1) (w.alloc (.cells #[x.v] 22)) :=
 buildL w 1 _ _ (by omega) (by omega) (fillA1 x.v rfl)
theorem bits0 {M : Nat} (h : BitsOf M 0) : M = 0 := by have := h.1; rw [Nat.pow_zero] at this; omega
theorem bitsP {M n : Nat} (h : BitsOf M n) (hn : n ≠ 0) : M ≠ 0 := by
 have := h.2 hn
 have := Nat.two_pow_pos (n - 1)
 omega
theorem c3 (x y m : Sl) (X Y N : Nat) (w : World) (hgl : Glb w) (hx : Rd w x X) (hy : Rd w y Y) (hm : Rd w m N) :
  Calls Tryz.prog 3 #[x.v, y.v, m.v] w fun e w' => e = .returned (.bool true) ∧ Chg w w' none2 := by
 refine (F3.call x.a x.l x.c y.a y.l y.c m.a m.l m.c w (fun v w' => v = .bool true ∧ Chg w w' none2) fun B0 => bc_intro (fun h B1 => ?_) (fun h1 => bc_intro (fun h B1 => ?_) (fun h2 => bc_intro (fun h B1 => ?_) (fun h3 => ?_)))).mono fun e w' ⟨v, h1, h2, h3⟩ => ⟨by rw [h1, h2], h3⟩
 ·exact ret1 rfl rfl ⟨rfl, Chg.refl _ _⟩
 ·exact ret1 rfl rfl ⟨rfl, Chg.refl _ _⟩
 ·exact ret1 rfl rfl ⟨rfl, Chg.refl _ _⟩
 have hG := hgl.gb
 have a1 : Chg w (w.alloc (.cells #[x.v, m.v] 22)) none2 := Chg.alloc _ _ (fun a => RowKit.frozen?_alloc_cells _ _ _ _) _
 have hh : (w.alloc (.cells #[x.v, m.v] 22)).heap[w.heap.size]? = some (.cells #[x.v, m.v] 22 (0, 0)) := heap_alloc_new ..
 obtain ⟨w1, hw1⟩ : ∃ w1, w1 = w.alloc (.cells #[x.v, m.v] 22) := ⟨_, rfl⟩
 refine ⟨_, _, _, _, build2L w x m, ?_⟩
 rw [← hw1] at a1 hh ⊢
 refine (c6 12 ⟨some ⟨w.heap.size, 0, none⟩, 2, 2, w.heap.size, 0⟩ (fun i => if i = 0 then x else m) w1 (fun _ => rfl) (by show 2 ≤ 1000; omega) (fun i hi => ?_)).mono ?_
 ·have hi : i < 2 := hi
  rw [cell_eq]
  show (match w1.heap[w.heap.size]? with
   | some (.cells c _ _) => c[0 + i]?
   | _ => none) = _
  rw [hh]
  rcases (show i = 0 ∨ i = 1 by omega) with h | h <;> subst h <;> rfl
 rintro e1 w2 ⟨b, rfl, hb, hw⟩
 have hw := hw.symm
 subst hw
 refine ⟨_, rfl, bc_intro (fun h B1 => ret1 rfl rfl ⟨rfl, a1⟩) (fun h => ?_)⟩
 have hbt : b = true := by simpa using h
 have lx : x.l ≤ 12 := hb hbt 0 (by show 0 < 2; omega)
 have lm : m.l ≤ 12 := hb hbt 1 (by show 1 < 2; omega)
 have a2 : Chg w1 (w1.alloc (.cells #[y.v] 22)) none2 := Chg.alloc _ _ (fun a => RowKit.frozen?_alloc_cells _ _ _ _) _
 have hh2 : (w1.alloc (.cells #[y.v] 22)).heap[w1.heap.size]? = some (.cells #[y.v] 22 (0, 0)) := heap_alloc_new ..
 obtain ⟨w3, hw3⟩ : ∃ w3, w3 = w1.alloc (.cells #[y.v] 22) := ⟨_, rfl⟩
 refine ⟨_, _, _, _, build1L w1 y, ?_⟩
 rw [← hw3] at a2 hh2 ⊢
 have a12 := a1.trans' a2
 refine (c6 4 ⟨some ⟨w1.heap.size, 0, none⟩, 1, 1, w1.heap.size, 0⟩ (fun _ => y) w3 (fun _ => rfl) (by show 1 ≤ 1000; omega) (fun i hi => ?_)).mono ?_
 ·have hi : i < 1 := hi
  rw [cell_eq]
  show (match w3.heap[w1.heap.size]? with
   | some (.cells c _ _) => c[0 + i]?
   | _ => none) = _
  rw [hh2]
  obtain rfl : i = 0 := by omega
  rfl
 rintro e2 w4 ⟨b2, rfl, hb2, hw⟩
 have hw := hw.symm
 subst hw
 refine ⟨_, rfl, bc_intro (fun h B1 => ret1 rfl rfl ⟨rfl, a12⟩) (fun h' => ?_)⟩
 have ly : y.l ≤ 4 := hb2 (by simpa using h') 0 (by show 0 < 1; omega)
 have kx : ∀ {w' : World} {s : Sl} {V : Nat}, Chg w w' none2 → Rd w s V → Rd w' s V := fun c h => c.rd h (fun _ _ h => h)
 refine (c8 m N w3 (Nat.le_trans hG a12.size) (kx a12 hm) (by omega)).mono ?_
 rintro e3 w5 ⟨d, rfl, hd, ld, c5⟩
 have a5 := a12.trans' c5
 refine ⟨_, _, _, rfl, (c7 d N w5 hd (by omega)).mono ?_⟩
 rintro e4 w6 ⟨n, rfl, hn, ln, hw⟩
 have hw := hw.symm
 subst hw
 refine ⟨_, rfl, bc_intro (fun h B1 => ret1 rfl rfl ⟨rfl, a5⟩) (fun h4 => ?_)⟩
 have hN : N ≠ 0 := bitsP hn fun e => eqN h4 (by rw [e]; rfl)
 have g0 : G w w5 [] := ⟨Bank.nil _, a5, hgl⟩
 refine c9 g0 (kx a5 hx) (kx a5 hy) (kx a5 hm) (by omega) (by omega) (by omega) hN fun r w7 g7 => ⟨_, _, _, trivial, _, trivial, rfl, bc_true rfl ?_⟩
 have a7 := g7.ch
 have hr : Nz w7 r (X ^ Y % N) := g7.bank.head
 have sz : ∀ {w' : World}, Chg w w' none2 → GB ≤ w'.heap.size := fun c => Nat.le_trans hG c.size
 refine (c8 x X w7 (sz a7) (kx a7 hx) (by omega)).mono ?_
 rintro e8 w8 ⟨dx, rfl, hdx, ldx, c8'⟩
 have a8 := a7.trans' c8'
 refine ⟨_, _, _, rfl, (c8 y Y w8 (sz a8) (kx a8 hy) (by omega)).mono ?_⟩
 rintro e9 w9 ⟨dy, rfl, hdy, ldy, c9'⟩
 have a9 := a8.trans' c9'
 refine ⟨_, _, _, rfl, (c8 m N w9 (sz a9) (kx a9 hm) (by omega)).mono ?_⟩
 rintro e10 w10 ⟨dm, rfl, hdm, ldm, c10'⟩
 have a10 := a9.trans' c10'
 refine ⟨_, _, _, rfl, (c11 dx dy dm X Y N w10 (sz a10) (hdx.keep (c9'.trans' c10')) (hdy.keep c10') hdm (by omega) (by omega) (by omega) hN).mono ?_⟩
 rintro e11 w11 ⟨q, rfl, hq, lq, c11'⟩
 have a11 := a10.trans' c11'
 have hr11 : Nz w11 r (X ^ Y % N) := { ((c8'.trans' c9').trans' (c10'.trans' c11')).nt_none hr.toNt with nm := hr.nm }
 refine ⟨_, _, _, rfl, (c10 r q _ _ w11 (a11.glb hgl) hr11 hq (by omega) rfl).mono ?_⟩
 rintro e12 w12 ⟨rfl, c12⟩
 exact ⟨_, rfl, fun B1 => ret1 rfl rfl ⟨rfl, a11.trans' c12⟩⟩
end Go.Proofs.YtlkjiiibmfpbcaaGreatDoor
