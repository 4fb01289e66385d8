/- Contracts: Montgomery's product. Conditions: the rows have one length; the storage does not meet them; k is the negated inverse of the modulus' lowest word. -/
import Derived.Test.YtlkjiiibmfpbcaaGreatDoorP24
namespace Go.Proofs.YtlkjiiibmfpbcaaGreatDoor
open Go
theorem mont_zero {L M k : Nat} (hk : (k * M + 1) % BB = 0) : (L + M * (L % BB * k % BB)) % BB = 0 := by
 have h1 : (L + M * (L % BB * k % BB)) % BB = (L * (k * M + 1)) % BB := by
  rw [Nat.add_mod, Nat.mul_mod M, Nat.mod_mod, ← Nat.mul_mod M, ← Nat.add_mod]
  have : M * (L % BB * k) % BB = M * (L * k) % BB := by rw [Nat.mul_mod, Nat.mul_mod (L % BB), Nat.mod_mod, ← Nat.mul_mod L, ← Nat.mul_mod M]
  rw [Nat.add_mod, this, ← Nat.add_mod]
  congr 1
  rw [Nat.mul_add, Nat.mul_one, Nat.mul_left_comm, Nat.mul_comm M k, Nat.add_comm]
 rw [h1, Nat.mul_mod, hk, Nat.mul_zero, Nat.zero_mod]
theorem carry3 {c c2 c3 : Nat} (hc : c ≤ 1) (h2 : c2 < 18446744073709551616) (h3 : c3 < 18446744073709551616) :
  c + c2 + c3 = (c + c2 + c3) % 18446744073709551616 + 18446744073709551616 * (if (c + c2) % 18446744073709551616 < c2 then 1 else if (c + c2 + c3) % 18446744073709551616 < c3 then 1 else 0) := by
 split
 ·omega
 ·split <;> omega
theorem mont_bound {A X M d t n A' : Nat} (hX : X < BB ^ n) (hA : A < BB ^ n + M) (hd : d < BB) (ht : t < BB) (h : A' * BB = A + X * d + M * t) : A' < BB ^ n + M := by
 have h1 : X * d + d ≤ BB ^ n * d := by
  have := Nat.mul_le_mul_right d hX
  rw [Nat.succ_mul] at this; exact this
 have h2 : BB ^ n * d + BB ^ n ≤ BB ^ n * BB := by rw [← Nat.mul_succ]; exact Nat.mul_le_mul_left _ hd
 have h3 : M * t + M ≤ M * BB := by rw [← Nat.mul_succ]; exact Nat.mul_le_mul_left _ ht
 have : A' * BB < (BB ^ n + M) * BB := by rw [Nat.add_mul]; omega
 exact Nat.lt_of_mul_lt_mul_right this
theorem c106 (z x y m : Sl) (X Y M k n : Nat) (w : World) (hz : St w z) (hx : Nt w x X) (hy : Nt w y Y) (hm : Nt w m M) (lx : x.l = n) (ly : y.l = n) (lm : m.l = n) (hn0 : n ≠ 0) (hn : n ≤ 1000000) (hkB : k < 18446744073709551616) (hk : (k * M + 1) % BB = 0)
  (ax : Apart z x) (ay : Apart z y) (am : Apart z m) :
  Calls Tryz.prog 106 #[z.v, x.v, y.v, m.v, .int .u64 (k : Int), .int .i64 (n : Int)] w fun e w' => ∃ v, e = .returned v ∧ ∃ (r : Sl) (Z : Nat), v = r.v ∧ r.l = n ∧ Nt w' r Z ∧ Z * BB ^ n % M = X * Y % M ∧ From w z r ∧ Chg w w' (fp z) := by
 have hX : X < BB ^ n := by rw [← lx]; exact hx.lt
 have hY : Y < BB ^ n := by rw [← ly]; exact hy.lt
 have hM : M < BB ^ n := by rw [← lm]; exact hm.lt
 refine F106.call z.a z.l z.c x.a x.l x.c y.a y.l y.c m.a m.l m.c k n w _ fun B => bc_false (neF (by omega)) (bc_false (neF (by omega)) (bc_false (neF (by omega)) fun B1 => F106.t1 z.a z.l z.c x.a x.l x.c y.a y.l y.c m.a m.l m.c k n ⟨rfl, rfl, rfl, rfl, rfl, rfl, trivial⟩ fun B2 => ⟨by unfold inI64; omega, ?_⟩))
 rw [show ((n : Int) * 2) = ((2 * n : Nat) : Int) by omega]
 refine (c73 z (2 * n) w hz (by omega)).mono ?_
 rintro e w1 ⟨_, rfl, r, rfl, hrl, hr, hf, hc⟩
 have hrc := hr.lc
 obtain ⟨w2, r1, r2, r3⟩ := clearW 45 Tryz.underlying45 r w1 hr.wt
 refine ⟨_, _, _, rfl, w2, r1, fun B3 => ?_⟩
 have dx : Dis r (2 * n) x := ax.dis hf hx (by omega) (by omega)
 have dy : Dis r (2 * n) y := ay.dis hf hy (by omega) (by omega)
 have dm : Dis r (2 * n) m := am.dis hf hm (by omega) (by omega)
 have hx1 := hc.nt_none hx
 have hy1 := hc.nt_none hy
 have hm1 := hc.nt_none hm
 rw [hrl] at r2 r3
 rw [F106.q4]
 refine W_for' (σ := Nat × Nat × Nat) (fun s => [(0, r.v), (1, x.v), (2, y.v), (3, m.v), (4, .int .u64 (k : Int)), (5, .int .i64 (n : Int)), (13, .int .u64 (s.2.1 : Int)), (14, .int .i64 (s.1 : Int))])
  (fun s wr => s.1 ≤ n ∧ s.2.1 ≤ 1 ∧ s.2.2 < BB ^ n ∧ (∃ q, (s.2.2 + BB ^ n * s.2.1) * BB ^ s.1 = X * (Y % BB ^ s.1) + M * q) ∧ s.2.2 + BB ^ n * s.2.1 < BB ^ n + M ∧ Sg wr r.b (r.o + s.1) n s.2.2 ∧ Chg w1 wr (inR r.b r.o (r.o + 2 * n)))
  (fun s => n - s.1) (0, 0, 0) ⟨rfl, rfl, rfl, rfl, rfl, rfl, rfl, rfl, trivial⟩ ⟨Nat.zero_le _, Nat.zero_le _, BBpow_pos _, ⟨0, by simp [Nat.mod_one]⟩, by have := BBpow_pos n; simp; omega, by rw [Nat.add_zero]; exact r2.le (by omega), r3⟩ ?_
 rintro ⟨i, c, L⟩ B4 wr K0 ⟨hi, hc1, hL, ⟨q, hq⟩, hA, hs, hch⟩ hKn hKe _
 simp only at hi hc1 hL hq hA hs hch
 have hrr := hch.st hr
 refine F106.t3 r.a r.l r.c x.a x.l x.c y.a y.l y.c m.a m.l m.c k n c i ⟨rfl, rfl, rfl, rfl, rfl, rfl, rfl, rfl, trivial⟩ fun B5 => bc_intro (fun hb => ?_) (fun hb B6 => ?_)
 ·have hlt : i < n := by have := dT hb; omega
  have hd := dg_lt' Y i
  have ej : ((n : Int) + (i : Int)) = ((n + i : Nat) : Int) := by omega
  refine rdC (k := i) (hy.at_ (by have := hy.lc; omega)) rfl (by omega) (chgAt hch hy1.rd (by omega) (dy.not (Nat.le_refl _) (Nat.le_refl _) (by omega))) ?_
  rw [ej]
  have cd : Chg wr wr.drew none2 := Chg.drew0 wr _
  have hchd := hch.drew
  have hrd := hchd.st hr
  have hxd : Rd wr.drew x X := hchd.rd hx1.rd fun j hj => dx.not (Nat.le_refl _) (Nat.le_refl _) hj
  have elen : (r.sub i (n + i)).l = n := by show n + i - i = n; omega
  have hr1 : Rd wr.drew (r.sub i (n + i)) L := ⟨fun h0 => at_sub hrd.at_ (by omega) h0, by rw [elen]; exact cd.sg hs fun _ _ h => h, by rw [elen]; exact hL⟩
  refine ⟨by unfold inI64; omega, i, n + i, rfl, rfl, by omega, by omega, by unfold inI64; omega, i, n + i, rfl, rfl, by omega, by omega, ?_⟩
  refine Vec.pass (c146 (r.sub i (n + i)) (r.sub i (n + i)) x L X (dg Y i) 0 wr.drew (hrd.sub_wt _ _ (by omega) (by omega)) hr1 hxd rfl (by rw [elen]; exact lx) (.inr (.inr (.inl (Nat.le_refl _)))) ?_ hd (by omega)) ?_
  ·unfold Ov; unfold Dis at dx
   show x.l = 0 ∨ x.b ≠ r.b ∨ r.o + i ≤ x.o ∨ x.o + x.l ≤ r.o + i
   omega
  rintro c2 L1 w3 ⟨t1, t2⟩ hZ hsg hc3
  rw [elen] at t1 hZ hsg hc3
  have hsg : Sg w3 r.b (r.o + i) n L1 := hsg
  have hc3 : Chg wr.drew w3 (inR r.b (r.o + i) (r.o + i + n)) := hc3
  have hch3 : Chg w1 w3 (inR r.b r.o (r.o + 2 * n)) := hchd.trans' (hc3.mono fun b j _ hm => ⟨hm.1, by have := hm.2.1; omega, by have := hm.2.2; omega⟩)
  have hcell : w3.cell? ⟨r.b, r.o + i, none⟩ = some (.int .u64 (dg L1 0 : Int)) := hsg 0 (by omega)
  refine ⟨_, rfl, rdC (k := i) (hr.at_ (by omega)) rfl (by omega) hcell ?_⟩
  have hd0 : dg L1 0 = L1 % BB := by rw [dg, Nat.pow_zero, Nat.div_one]
  have et : IntKind.wrap .u64 ((dg L1 0 : Int) * (k : Int)) = ((L1 % BB * k % BB : Nat) : Int) := by rw [hd0, mulN, wrapM]; rfl
  rw [et]
  obtain ⟨t, hte⟩ : ∃ t, t = L1 % BB * k % BB := ⟨_, rfl⟩
  have htB : t < 18446744073709551616 := by rw [hte]; exact Nat.mod_lt _ BB_pos
  have hzero := mont_zero (L := L1) hk
  rw [← hte] at hzero ⊢
  have cd3 : Chg w3 w3.drew none2 := Chg.drew0 w3 _
  have hch3d := hch3.drew
  have hr3 := hch3d.st hr
  have hm3 : Rd w3.drew m M := hch3d.rd hm1.rd fun j hj => dm.not (Nat.le_refl _) (Nat.le_refl _) hj
  have hr2 : Rd w3.drew (r.sub i (n + i)) L1 := ⟨fun h0 => at_sub hr3.at_ (by omega) h0, by rw [elen]; exact cd3.sg hsg fun _ _ h => h, by rw [elen]; exact hZ⟩
  refine ⟨by unfold inI64; omega, i, n + i, rfl, rfl, by omega, by omega, by unfold inI64; omega, i, n + i, rfl, rfl, by omega, by omega, ?_⟩
  refine Vec.pass (c146 (r.sub i (n + i)) (r.sub i (n + i)) m L1 M t 0 w3.drew (hr3.sub_wt _ _ (by omega) (by omega)) hr2 hm3 rfl (by rw [elen]; exact lm) (.inr (.inr (.inl (Nat.le_refl _)))) ?_ htB (by omega)) ?_
  ·unfold Ov; unfold Dis at dm
   show m.l = 0 ∨ m.b ≠ r.b ∨ r.o + i ≤ m.o ∨ m.o + m.l ≤ r.o + i
   omega
  rintro c3 L2 w4 ⟨t3, t4⟩ hZ2 hsg2 hc4
  rw [elen] at t3 hZ2 hsg2 hc4
  have hsg2 : Sg w4 r.b (r.o + i) n L2 := hsg2
  have hc4 : Chg w3.drew w4 (inR r.b (r.o + i) (r.o + i + n)) := hc4
  have hch4 : Chg w1 w4 (inR r.b r.o (r.o + 2 * n)) := hch3d.trans' (hc4.mono fun b j _ hm => ⟨hm.1, by have := hm.2.1; omega, by have := hm.2.2; omega⟩)
  have hr4 := hch4.st hr
  have hp := hr4.pl (by omega)
  rw [Nat.add_zero] at t1 t3
  have hcar := carry3 hc1 t2 t4
  have ecx : IntKind.wrap .u64 ((c : Int) + (c2 : Int)) = (((c + c2) % 18446744073709551616 : Nat) : Int) := by rw [addN, wrapM]
  have ecy : IntKind.wrap .u64 ((((c + c2) % 18446744073709551616 : Nat) : Int) + (c3 : Int)) = (((c + c2 + c3) % 18446744073709551616 : Nat) : Int) := by
   rw [addN, wrapM]; exact congrArg (fun a : Nat => (a : Int)) (by omega)
  rw [ecx]
  refine ⟨_, rfl, by unfold inI64; omega, wtC (k := n + i) hr4.wt rfl (by omega) ?_⟩
  rw [ecy]
  have hcyB : (c + c2 + c3) % 18446744073709551616 < 18446744073709551616 := Nat.mod_lt _ (by omega)
  obtain ⟨cy, hcy⟩ : ∃ cy, cy = (c + c2 + c3) % 18446744073709551616 := ⟨_, rfl⟩
  rw [← hcy] at hcar hcyB ⊢
  obtain ⟨n', rfl⟩ : ∃ n', n = n' + 1 := ⟨n - 1, by omega⟩
  have hc5 : Chg w4 (w4.setCell ⟨r.b, r.o + (n' + 1 + i), none⟩ (.int .u64 (cy : Int))) (inR r.b (r.o + (n' + 1 + i)) (r.o + (n' + 1 + i) + 1)) := Chg.setCell hp _ ⟨rfl, by omega, by omega⟩
  have hL2 : L2 % BB = 0 := by
   have h1 : (L1 + M * t) % BB = L2 % BB := by
    rw [← t3, BBpow_succ, Nat.mul_right_comm, Nat.mul_comm _ BB, Nat.add_mul_mod_self_left]
   rw [← h1]; exact hzero
  have hL2d : L2 / BB < BB ^ n' := by rw [Nat.div_lt_iff_lt_mul BB_pos, ← BBpow_succ]; exact hZ2
  have hs5 : Sg (w4.setCell ⟨r.b, r.o + (n' + 1 + i), none⟩ (.int .u64 (cy : Int))) r.b (r.o + (i + 1)) (n' + 1) (L2 / BB + BB ^ n' * cy) := by
   have h1 : Sg w4 r.b (r.o + (i + 1)) n' (L2 / BB) := by
    have := hsg2.hi 1 n' (by omega)
    rw [Nat.pow_one] at this
    exact this
   have := h1.step hL2d (d := cy) (w2 := w4) (by rw [BB_eq]; exact hcyB) rfl hp (by rw [show r.o + (i + 1) + n' = r.o + (n' + 1 + i) by omega]; exact (hr4.wr (n' + 1 + i) (by omega)).1)
   rw [show r.o + (i + 1) + n' = r.o + (n' + 1 + i) by omega] at this; exact this
  have hchN : Chg w1 (w4.setCell ⟨r.b, r.o + (n' + 1 + i), none⟩ (.int .u64 (cy : Int))) (inR r.b r.o (r.o + 2 * (n' + 1))) := hch4.trans' (hc5.mono fun b j _ hm => ⟨hm.1, by have := hm.2.1; omega, by have := hm.2.2; omega⟩)
  have hL3 : L2 / BB + BB ^ n' * cy < BB ^ (n' + 1) := dlt hL2d hcyB
  have next : ∀ (c' : Nat) (B7 : Nat → Value), c' ≤ 1 → c + c2 + c3 = cy + 18446744073709551616 * c' → W Tryz.prog 128 F106.p6 (E [(0, r.v), (1, x.v), (2, y.v), (3, m.v), (4, .int .u64 (k : Int)), (5, .int .i64 ((n' + 1 : Nat) : Int)), (13, .int .u64 (c' : Int)), (14, .int .i64 (i : Int))] B7 []) (w4.setCell ⟨r.b, r.o + (n' + 1 + i), none⟩ (.int .u64 (cy : Int))) K0 := by
   intro c' B7 hc' hsum
   have hstep : (L2 / BB + BB ^ n' * cy + BB ^ (n' + 1) * c') * BB = L + BB ^ (n' + 1) * c + X * dg Y i + M * t := by
    have h1 : L2 / BB * BB = L2 := by have := Nat.div_add_mod L2 BB; rw [Nat.mul_comm]; omega
    have h2 : BB ^ n' * cy * BB = BB ^ (n' + 1) * cy := by rw [Nat.mul_right_comm, ← BBpow_succ]
    have h3 : BB ^ (n' + 1) * (c + c2 + c3) = BB ^ (n' + 1) * (cy + BB * c') := by rw [hsum]; rfl
    rw [Nat.add_mul, Nat.add_mul, h1, h2, Nat.mul_assoc, Nat.mul_comm c' BB]
    rw [Nat.mul_add, Nat.mul_add, Nat.mul_add] at h3
    omega
   refine F106.t6 r.a r.l r.c x.a x.l x.c y.a y.l y.c m.a m.l m.c k (n' + 1 : Nat) c' i ⟨rfl, rfl, rfl, rfl, rfl, rfl, rfl, rfl, trivial⟩ fun B8 => ⟨by unfold inI64; omega, fun B9 => hKn _ _ (i + 1, c', L2 / BB + BB ^ n' * cy) ⟨rfl, rfl, rfl, rfl, rfl, rfl, rfl, rfl, trivial⟩ rfl ⟨hlt, hc', hL3, ⟨q + BB ^ i * t, ?_⟩, mont_bound hX hA hd htB hstep, hs5, hchN⟩ (by show n' + 1 - (i + 1) < n' + 1 - i; omega)⟩
   show (L2 / BB + BB ^ n' * cy + BB ^ (n' + 1) * c') * BB ^ (i + 1) = X * (Y % BB ^ (i + 1)) + M * (q + BB ^ i * t)
   rw [mod_succ, BBpow_succ i, Nat.mul_comm (BB ^ i) BB, ← Nat.mul_assoc, hstep, Nat.add_mul, Nat.add_mul, hq, Nat.mul_add, Nat.mul_add, Nat.mul_assoc X, Nat.mul_comm (dg Y i), Nat.mul_assoc M, Nat.mul_comm t]
   omega
  refine bc_intro (fun hb => fun B7 => ?_) (fun hb => bc_intro (fun hb2 => fun B7 => ?_) (fun hb2 => fun B7 => ?_))
  ·exact next 1 B7 (Nat.le_refl _) (by rw [if_pos (by have := dT hb; omega)] at hcar; exact hcar)
  ·exact next 1 B7 (Nat.le_refl _) (by rw [if_neg (by have := dF hb; omega), if_pos (by have := dT hb2; omega)] at hcar; exact hcar)
  ·exact next 0 B7 (Nat.zero_le _) (by rw [if_neg (by have := dF hb; omega), if_neg (by have := dF hb2; omega)] at hcar; exact hcar)
 ·have hin : i = n := by have := dF hb; omega
  subst hin
  rw [Nat.mod_eq_of_lt hY] at hq
  refine hKe _ _ (F106.t2 r.a r.l r.c m.a m.l m.c i c ⟨rfl, rfl, rfl, rfl, trivial⟩ fun B7 => ?_)
  have cd : Chg wr wr.drew none2 := Chg.drew0 wr _
  have hchd := hch.drew
  have hrd := hchd.st hr
  have elen : (r.sub i r.l).l = i := by show r.l - i = i; omega
  have hr1 : Rd wr.drew (r.sub i r.l) L := ⟨fun h0 => at_sub hrd.at_ (by omega) h0, by rw [elen]; exact cd.sg hs fun _ _ h => h, by rw [elen]; exact hL⟩
  have fin : ∀ (w5 : World) (Z : Nat) (B8 : Nat → Value), Z < BB ^ i → Sg w5 r.b r.o i Z → Chg w1 w5 (inR r.b r.o (r.o + 2 * i)) → Z * BB ^ i % M = X * Y % M → W Tryz.prog 128 F106.p5 (E [(0, r.v), (5, .int .i64 (i : Int))] B8 []) w5 (retK Tryz.prog [.tmp 12] fun v w' => ∃ (r : Sl) (Z : Nat), v = r.v ∧ r.l = i ∧ Nt w' r Z ∧ Z * BB ^ i % M = X * Y % M ∧ From w z r ∧ Chg w w' (fp z)) := by
   intro w5 Z B8 h1 h2 h3 h4
   exact F106.t5 r.a r.l r.c i ⟨rfl, rfl, trivial⟩ fun B9 => ⟨i, rfl, by omega, fun B10 => ret1 rfl rfl ⟨r.to i, Z, rfl, rfl, { (h3.st hr).to_st i (by omega) with sg := h2, lt := h1 }, h4, hf, hf.chg (hc.none _) h3 (Nat.le_refl _) (by omega)⟩⟩
  refine bc_intro (fun hb => ?_) (fun hb => ?_)
  ·have hc1' : c = 1 := by have := neN hb; omega
   subst hc1'
   have hmd : Rd wr.drew m M := hchd.rd hm1.rd fun j hj => dm.not (Nat.le_refl _) (Nat.le_refl _) hj
   refine ⟨i, rfl, by omega, i, rfl, by omega, Vec.pass (c82 (r.to i) (r.sub i r.l) m L M wr.drew (hrd.to_wt i (by omega)) hr1 hmd elen (by show m.l = i; exact lm) ?_ ?_) ?_⟩
   ·unfold Ov
    show r.l - i = 0 ∨ r.b ≠ r.b ∨ r.o ≤ r.o + i ∨ _
    exact .inr (.inr (.inl (by omega)))
   ·unfold Ov; unfold Dis at dm
    show m.l = 0 ∨ m.b ≠ r.b ∨ r.o ≤ m.o ∨ m.o + m.l ≤ r.o
    omega
   rintro c' Z w5 ⟨t1, t2⟩ hZ hsg hc5
   have hZ : Z < BB ^ i := hZ
   have t1 : Z + M = L + BB ^ i * c' := t1
   have hsg : Sg w5 r.b r.o i Z := hsg
   have hc5 : Chg wr.drew w5 (inR r.b r.o (r.o + i)) := hc5
   rw [Nat.mul_one] at hA hq
   have hZe : Z + M = L + BB ^ i := by
    rcases (show c' = 0 ∨ c' = 1 by omega) with h | h
    ·subst h; rw [Nat.mul_zero, Nat.add_zero] at t1; omega
    ·subst h; rw [Nat.mul_one] at t1; exact t1
   refine ⟨_, rfl, fun B8 => fin w5 Z B8 hZ hsg (hchd.trans' (hc5.mono fun b j _ hm => ⟨hm.1, hm.2.1, by have := hm.2.2; omega⟩)) ?_⟩
   rw [← hZe, Nat.add_mul] at hq
   have := congrArg (· % M) hq
   simp only [Nat.add_mul_mod_self_left] at this
   exact this
  ·have hc0 : c = 0 := by have := neE hb; omega
   subst hc0
   rw [Nat.mul_zero, Nat.add_zero] at hq
   obtain ⟨w5, u1, u2, u3⟩ := copyT 45 Tryz.underlying45 (r.to i) (r.sub i r.l) i (by rw [elen]; show i = min i i; omega) L wr.drew (hrd.to_wt i (by omega)) ⟨fun h => hr1.at_ (by rw [elen]; exact h), by have := hr1.sg; rw [elen] at this; exact this, hL⟩
   have u3 : Chg wr.drew w5 (inR r.b r.o (r.o + i)) := u3
   refine ⟨i, rfl, by omega, i, rfl, by omega, w5, _, u1, fun B8 => fin w5 L B8 hL u2 (hchd.trans' (u3.mono fun b j _ hm => ⟨hm.1, hm.2.1, by have := hm.2.2; omega⟩)) ?_⟩
   have := congrArg (· % M) hq
   simp only [Nat.add_mul_mod_self_left] at this
   exact this
end Go.Proofs.YtlkjiiibmfpbcaaGreatDoor
namespace Go.Proofs.YtlkjiiibmfpbcaaGreatDoor
open Go
def Dj (S T : Set2) : Prop := ∀ b i, S b i → T b i → False
theorem Dj.symm {S T : Set2} (h : Dj S T) : Dj T S := fun b i h1 h2 => h b i h2 h1
structure Item where
 fp : Set2
 P : World → Prop
 keep : ∀ {w w' : World} {S : Set2}, P w → Chg w w' S → (∀ b i, fp b i → ¬ S b i) → P w'
 old : ∀ {w : World} {b i : Nat}, P w → fp b i → b < w.heap.size
def num (s : Sl) (V : Nat) : Item where
 fp := fp s
 P w := Nt w s V
 keep h hc hd := hc.nt h fun i hi hS => hd _ _ ⟨rfl, by omega, by have := h.lc; omega⟩ hS
 old h hf := by have h1 := hf.2.1; have h2 := hf.2.2; rw [hf.1]; exact h.toSt.blk (by omega)
def nmz (s : Sl) (V : Nat) : Item where
 fp := fp s
 P w := Nz w s V
 keep h hc hd := hc.nz h fun i hi hS => hd _ _ ⟨rfl, by omega, by have := h.lc; omega⟩ hS
 old h hf := by have h1 := hf.2.1; have h2 := hf.2.2; rw [hf.1]; exact h.toSt.blk (by omega)
def sto (s : Sl) : Item where
 fp := fp s
 P w := St w s
 keep h hc _ := hc.st h
 old h hf := by have h1 := hf.2.1; have h2 := hf.2.2; rw [hf.1]; exact h.blk (by omega)
def stk (K : SK) : Item where
 fp := K.free
 P w := StkAt w K
 keep h hc hd := h.chg hc (fun hS => hd _ _ (.inl rfl) hS) fun b hb hS => hd _ _ (.inr (.inl hb)) hS
 old h hf := by
  rcases hf with e | e | ⟨e, h1, h2⟩
  ·rw [e]; exact plain_lt h.own.2
  ·exact plain_lt (h.inn _ e).1.2
  ·rw [e]; exact h.st.blk (by omega)
structure Bank (w : World) (L : List Item) : Prop where
 all : ∀ a ∈ L, a.P w
 dj : L.Pairwise fun a b => Dj a.fp b.fp
theorem Bank.head {w : World} {a : Item} {L : List Item} (h : Bank w (a :: L)) : a.P w := h.all a (by simp)
theorem Bank.tail {w : World} {a : Item} {L : List Item} (h : Bank w (a :: L)) : Bank w L := ⟨fun b hb => h.all b (by simp [hb]), (List.pairwise_cons.1 h.dj).2⟩
theorem Bank.hdj {w : World} {a : Item} {L : List Item} (h : Bank w (a :: L)) {b : Item} (hb : b ∈ L) : Dj a.fp b.fp := (List.pairwise_cons.1 h.dj).1 b hb
theorem Bank.perm {w : World} {L M : List Item} (h : Bank w L) (hp : L.Perm M) : Bank w M :=
 ⟨fun a ha => h.all a (hp.mem_iff.2 ha), (hp.pairwise_iff (fun h => Dj.symm h)).1 h.dj⟩
theorem front_perm {α : Type} : ∀ (L : List α) (i : Nat) (hi : i < L.length), (L[i] :: L.eraseIdx i).Perm L
 | a :: L, 0, _ => List.Perm.refl _
 | a :: L, i + 1, hi => by
  have ih := front_perm L i (by simpa using hi)
  simp only [List.getElem_cons_succ, List.eraseIdx_cons_succ]
  exact (List.Perm.swap _ _ _).trans (ih.cons a)
theorem Bank.front {w : World} {L : List Item} (h : Bank w L) (i : Nat) (hi : i < L.length) : Bank w (L[i] :: L.eraseIdx i) :=
 h.perm (front_perm L i hi).symm
theorem Bank.keep {w w' : World} {S : Set2} {L : List Item} (h : Bank w L) (hc : Chg w w' S) (hd : ∀ a ∈ L, ∀ b i, a.fp b i → ¬ S b i) : Bank w' L :=
 ⟨fun a ha => a.keep (h.all a ha) hc (hd a ha), h.dj⟩
theorem Bank.none {w w' : World} {L : List Item} (h : Bank w L) (hc : Chg w w' none2) : Bank w' L := h.keep hc fun _ _ _ _ _ h => h
theorem Bank.nil (w : World) : Bank w [] := ⟨by simp, .nil⟩
theorem Bank.upd {w w' : World} {a a' : Item} {L : List Item} {S : Set2} (h : Bank w (a :: L)) (hc : Chg w w' S) (hS : ∀ b i, b < w.heap.size → S b i → a.fp b i) (ha : a'.P w') (hf : ∀ b i, b < w.heap.size → a'.fp b i → a.fp b i) : Bank w' (a' :: L) := by
 have hL := h.tail
 refine ⟨fun x hx => ?_, List.pairwise_cons.2 ⟨fun x hx b i h1 h2 => ?_, hL.dj⟩⟩
 ·rcases List.mem_cons.1 hx with rfl | hx
  ·exact ha
  ·exact x.keep (hL.all x hx) hc fun b i h1 h2 => h.hdj hx b i (hS b i (x.old (hL.all x hx) h1) h2) h1
 ·exact h.hdj hx b i (hf b i (x.old (hL.all x hx) h2) h1) h2
theorem Bank.upd2 {w w' : World} {a b a' b' : Item} {L : List Item} {S : Set2} (h : Bank w (a :: b :: L)) (hc : Chg w w' S) (hS : ∀ x i, x < w.heap.size → S x i → a.fp x i ∨ b.fp x i) (ha : a'.P w') (hb : b'.P w')
  (hfa : ∀ x i, x < w.heap.size → a'.fp x i → a.fp x i ∨ b.fp x i) (hfb : ∀ x i, x < w.heap.size → b'.fp x i → a.fp x i ∨ b.fp x i) (hab : Dj a'.fp b'.fp) : Bank w' (a' :: b' :: L) := by
 have hL := h.tail.tail
 have key : ∀ x ∈ L, ∀ y i, (a.fp y i ∨ b.fp y i) → x.fp y i → False := fun x hx y i h1 h2 => h1.elim (fun h1 => h.hdj (List.mem_cons_of_mem _ hx) y i h1 h2) (fun h1 => h.tail.hdj hx y i h1 h2)
 refine ⟨fun x hx => ?_, List.pairwise_cons.2 ⟨fun x hx => ?_, List.pairwise_cons.2 ⟨fun x hx y i h1 h2 => ?_, hL.dj⟩⟩⟩
 ·rcases List.mem_cons.1 hx with rfl | hx
  ·exact ha
  ·rcases List.mem_cons.1 hx with rfl | hx
   ·exact hb
   ·exact x.keep (hL.all x hx) hc fun y i h1 h2 => key x hx y i (hS y i (x.old (hL.all x hx) h1) h2) h1
 ·rcases List.mem_cons.1 hx with rfl | hx
  ·exact hab
  ·exact fun y i h1 h2 => key x hx y i (hfa y i (x.old (hL.all x hx) h2) h1) h2
 ·exact key x hx y i (hfb y i (x.old (hL.all x hx) h2) h1) h2
theorem Bank.new {w w' : World} {a : Item} {L : List Item} (h : Bank w L) (hc : Chg w w' none2) (ha : a.P w') (hf : ∀ b i, a.fp b i → w.heap.size ≤ b) : Bank w' (a :: L) := by
 have hL := h.none hc
 refine ⟨fun x hx => ?_, List.pairwise_cons.2 ⟨fun x hx b i h1 h2 => ?_, hL.dj⟩⟩
 ·rcases List.mem_cons.1 hx with rfl | hx
  ·exact ha
  ·exact hL.all x hx
 ·have := x.old (h.all x hx) h2
  have := hf b i h1
  omega
theorem Dj.spc {a b : Sl} (h : Dj (fp a) (fp b)) : SpC a b := by
 unfold SpC Sp
 by_cases h1 : a.c = 0
 ·exact .inl h1
 by_cases h2 : b.c = 0
 ·exact .inr (.inl h2)
 by_cases h3 : a.b = b.b
 ·by_cases h4 : a.o + a.c ≤ b.o
  ·exact .inr (.inr (.inr (.inl h4)))
  ·by_cases h5 : b.o + b.c ≤ a.o
   ·exact .inr (.inr (.inr (.inr h5)))
   ·exact (h a.b (max a.o b.o) ⟨rfl, by omega, by omega⟩ ⟨h3, by omega, by omega⟩).elim
 ·exact .inr (.inr (.inl h3))
theorem SpC.dj {a b : Sl} (h : SpC a b) : Dj (fp a) (fp b) := fun x i h1 h2 => by
 obtain ⟨a1, a2, a3⟩ := h1
 obtain ⟨b1, b2, b3⟩ := h2
 unfold SpC Sp at h; omega
theorem Dj.off {K : SK} {x : Sl} (h : Dj K.free (fp x)) : Off K x := fun i h1 h2 h3 => h _ _ h3 ⟨rfl, h1, h2⟩
theorem Off.dj {K : SK} {x : Sl} (h : Off K x) : Dj K.free (fp x) := fun b i h1 h2 => h i h2.2.1 h2.2.2 (by rw [← h2.1]; exact h1)
theorem Dj.offl {w : World} {K : SK} {x : Sl} (h : Dj K.free (fp x)) (hx : St w x) : OffL K x := (Dj.off h).l hx
theorem Dj.apart {w : World} {z x : Sl} (h : Dj (fp z) (fp x)) (hx : St w x) : Apart z x := (Dj.spc h).apart hx.lc
theorem Dj.al {w : World} {z x : Sl} (h : Dj (fp z) (fp x)) (hx : St w x) : Al z x := (Dj.apart h hx).al
theorem from_sub {w : World} {z r : Sl} (hf : From w z r) : ∀ b i, b < w.heap.size → fp r b i → fp z b i := fun b i hb hm => by
 obtain ⟨h1, h2, h3⟩ := hm
 rcases hf with ⟨_, e2, e3, e4⟩ | h
 ·exact ⟨by rw [h1, e3], by omega, by omega⟩
 ·omega
end Go.Proofs.YtlkjiiibmfpbcaaGreatDoor
namespace Go.Proofs.YtlkjiiibmfpbcaaGreatDoor
open Go
structure RowAt (w : World) (b n : Nat) (f : Nat → Value) : Prop where
 own : Own w b
 cell : ∀ i, i < n → w.cell? ⟨b, i, none⟩ = some (f i)
 fr : ∀ i, i < n → w.frozen? ⟨b, i, none⟩ = false
def row (b n : Nat) (f : Nat → Value) : Item where
 fp := fun b' _ => b' = b
 P w := RowAt w b n f
 keep h hc hd := ⟨hc.own h.own, fun i hi => by have h1 := h.cell i hi; rw [hc.cell (lt_of_cell h1) (hd b i rfl)]; exact h1, fun i hi => by rw [hc.froz]; exact h.fr i hi⟩
 old h hf := by rw [show _ = _ from hf]; exact plain_lt h.own.2
def setF (f : Nat → Value) (i : Nat) (v : Value) : Nat → Value := fun j => if j = i then v else f j
theorem setF_self (f : Nat → Value) (i : Nat) (v : Value) : setF f i v i = v := by simp [setF]
theorem setF_ne (f : Nat → Value) {i j : Nat} (v : Value) (h : j ≠ i) : setF f i v j = f j := by simp [setF, h]
theorem RowAt.set {w : World} {b n i : Nat} {f : Nat → Value} (h : RowAt w b n f) (hi : i < n) (v : Value) : RowAt (w.setCell ⟨b, i, none⟩ v) b n (setF f i v) ∧ Chg w (w.setCell ⟨b, i, none⟩ v) (fun b' _ => b' = b) := by
 have hc : Chg w (w.setCell ⟨b, i, none⟩ v) (fun b' _ => b' = b) := Chg.setCell h.own _ rfl
 refine ⟨⟨hc.own h.own, fun j hj => ?_, fun j hj => by rw [hc.froz]; exact h.fr j hj⟩, hc⟩
 by_cases hji : j = i
 ·subst hji
  rw [setF_self]
  exact World.cell?_setCell_same _ _ _ (h.cell j hj)
 ·rw [setF_ne _ _ hji, World.cell?_setCell_other _ _ _ _ (by simp <;> omega)]
  exact h.cell j hj
theorem setRow {w : World} {b n i : Nat} {f : Nat → Value} {L : List Item} (h : Bank w (row b n f :: L)) (hi : i < n) (v : Value) : Bank (w.setCell ⟨b, i, none⟩ v) (row b n (setF f i v) :: L) :=
 h.upd (RowAt.set h.head hi v).2 (fun _ _ _ h => h) (RowAt.set h.head hi v).1 fun _ _ _ h => h
theorem Bank.res {w w' : World} {z r : Sl} {a a' : Item} {L : List Item} (h : Bank w (a :: L)) (ha : a.fp = fp z) (hf : From w z r) (hc : Chg w w' (fp z)) (ha' : a'.P w') (hfp : a'.fp = fp r) : Bank w' (a' :: L) :=
 h.upd hc (fun _ _ _ hm => by rw [ha]; exact hm) ha' fun b i hb hm => by rw [ha]; rw [hfp] at hm; exact from_sub hf b i hb hm
theorem Bank.fresh {w w' : World} {r : Sl} {a' : Item} {L : List Item} (h : Bank w L) (hc : Chg w w' none2) (ha' : a'.P w') (hfp : a'.fp = fp r) (hr : r.c ≠ 0 → w.heap.size ≤ r.b) : Bank w' (a' :: L) :=
 h.new hc ha' fun b i hm => by rw [hfp] at hm; rw [hm.1]; exact hr (by have := hm.2.1; have := hm.2.2; omega)
theorem From.nil {w : World} {r : Sl} (h : From w (nilS w) r) : r.c ≠ 0 → w.heap.size ≤ r.b := fun _ => by
 rcases h with ⟨_, _, e, _⟩ | h
 ·exact Nat.le_of_eq e.symm
 ·exact h
theorem mont_bank {w : World} {z x y m : Sl} {X Y M k n : Nat} {a : Item} {L : List Item} (h : Bank w (a :: L)) (ha : a.fp = fp z) (hz : St w z) (hx : num x X ∈ L) (hy : num y Y ∈ L) (hm : num m M ∈ L) (lx : x.l = n) (ly : y.l = n) (lm : m.l = n) (hn0 : n ≠ 0) (hn : n ≤ 1000000)
  (hkB : k < 18446744073709551616) (hk : (k * M + 1) % BB = 0) {Q : Ending → World → Prop}
  (q : ∀ (r : Sl) (Z : Nat) w', r.l = n → Z * BB ^ n % M = X * Y % M → Bank w' (num r Z :: L) → Chg w w' (fp z) → From w z r → Q (.returned r.v) w') :
  Calls Tryz.prog 106 #[z.v, x.v, y.v, m.v, .int .u64 (k : Int), .int .i64 (n : Int)] w Q := by
 have dj : ∀ {s V}, num s V ∈ L → Apart z s := fun {s V} hs => Dj.apart (by have := h.hdj hs; rw [ha] at this; exact this) (h.tail.all _ hs).toSt
 refine (c106 z x y m X Y M k n w hz (h.tail.all _ hx) (h.tail.all _ hy) (h.tail.all _ hm) lx ly lm hn0 hn hkB hk (dj hx) (dj hy) (dj hm)).mono ?_
 rintro e w' ⟨_, rfl, r, Z, rfl, hrl, hr, he, hf, hc⟩
 exact q r Z w' hrl he (h.res ha hf hc hr rfl) hc hf
end Go.Proofs.YtlkjiiibmfpbcaaGreatDoor
namespace Go.Proofs.YtlkjiiibmfpbcaaGreatDoor
open Go
theorem Bank.updN {w w' : World} {A A' L : List Item} {S : Set2} (h : Bank w (A ++ L)) (hc : Chg w w' S) (hS : ∀ b i, b < w.heap.size → S b i → ∃ a ∈ A, a.fp b i) (hA : Bank w' A') (hf : ∀ a' ∈ A', ∀ b i, b < w.heap.size → a'.fp b i → ∃ a ∈ A, a.fp b i) : Bank w' (A' ++ L) := by
 have hd := (List.pairwise_append.1 h.dj).2.2
 refine ⟨fun x hx => ?_, List.pairwise_append.2 ⟨hA.dj, (List.pairwise_append.1 h.dj).2.1, fun x hx y hy b i h1 h2 => ?_⟩⟩
 ·rcases List.mem_append.1 hx with hx | hx
  ·exact hA.all x hx
  ·refine x.keep (h.all x (List.mem_append_right _ hx)) hc fun b i h1 h2 => ?_
   obtain ⟨a, ha, h3⟩ := hS b i (x.old (h.all x (List.mem_append_right _ hx)) h1) h2
   exact hd a ha x hx b i h3 h1
 ·obtain ⟨a, ha, h3⟩ := hf x hx b i (y.old (h.all y (List.mem_append_right _ hy)) h2) h1
  exact hd a ha y hy b i h3 h2
theorem Bank.two {w : World} {a b : Item} (ha : a.P w) (hb : b.P w) (h : Dj a.fp b.fp) : Bank w [a, b] :=
 ⟨by simp [ha, hb], by simp [h]⟩
theorem Bank.three {w : World} {a b c : Item} (ha : a.P w) (hb : b.P w) (hc : c.P w) (h1 : Dj a.fp b.fp) (h2 : Dj a.fp c.fp) (h3 : Dj b.fp c.fp) : Bank w [a, b, c] :=
 ⟨by simp [ha, hb, hc], by simp [h1, h2, h3]⟩
theorem stk_sub {w : World} {K K' : SK} (hn : Nxt w K K') : ∀ b i, b < w.heap.size → K'.free b i → K.free b i := fun _ _ hb hf => hn.free hb hf
theorem sqr_bank {w : World} {K : SK} {z x : Sl} {X : Nat} {a : Item} {L : List Item} (h : Bank w (stk K :: a :: L)) (ha : a.fp = fp z) (hz : St w z) (hx : nmz x X ∈ L) (lx : x.l < 80) (hL : K.s.l ≤ 2199023255552) (hg : Glb w) {Q : Ending → World → Prop}
  (q : ∀ (r : Sl) (K' : SK) w', Bank w' (stk K' :: nmz r (X * X) :: L) → K'.a = K.a → K'.s.l = K.s.l → Nxt w K K' → From w z r → Chg w w' (un (fp z) K.free) → Q (.returned r.v) w') :
  Calls Tryz.prog 79 #[z.v, .pointer K.a, x.v] w Q := by
 have hxP : Nz w x X := h.all (nmz x X) (by simp [hx])
 have dz : Dj K.free (fp z) := by have := h.hdj (b := a) (by simp); rw [ha] at this; exact this
 have dx : Dj K.free (fp x) := h.hdj (b := nmz x X) (by simp [hx])
 have dzx : Dj (fp z) (fp x) := by have := h.tail.hdj (b := nmz x X) hx; rw [ha] at this; exact this
 refine ResKE.pass (c79 K z x X w h.head hz hxP (dzx.al hxP.toSt) dz.off (dx.offl hxP.toSt) lx hL hg) fun r K' w' h1 h2 h3 h4 h5 h6 _ h7 => q r K' w' ?_ (by unfold SK.a; rw [h4.p]) h5 h4 h2 h7
 refine Bank.updN (A := [stk K, a]) (A' := [stk K', nmz r (X * X)]) h h7 (fun b i _ hm => ?_) (Bank.two h3 h1 h6.dj) fun a' ha' b i hb hf => ?_
 ·rcases hm with hm | hm
  ·exact ⟨a, by simp, by rw [ha]; exact hm⟩
  ·exact ⟨stk K, by simp, hm⟩
 ·simp only [List.mem_cons, List.not_mem_nil, or_false] at ha'
  rcases ha' with rfl | rfl
  ·exact ⟨stk K, by simp, stk_sub h4 b i hb hf⟩
  ·exact ⟨a, by simp, by rw [ha]; exact from_sub h2 b i hb hf⟩
theorem mul_bank {w : World} {z x y : Sl} {X Y : Nat} {p : Option Addr} {a : Item} {L : List Item} (h : Bank w (a :: L)) (ha : a.fp = fp z) (hz : St w z) (hx : nmz x X ∈ L) (hy : nmz y Y ∈ L) (lx : Len x) (ly : Len y) (hs : x.l < 40 ∨ y.l < 40) (hg : Glb w) {Q : Ending → World → Prop}
  (q : ∀ (r : Sl) w', Bank w' (nmz r (X * Y) :: L) → From w z r → Chg w w' (fp z) → Q (.returned r.v) w') :
  Calls Tryz.prog 80 #[z.v, .pointer p, x.v, y.v] w Q := by
 have hxP : Nz w x X := h.tail.all _ hx
 have hyP : Nz w y Y := h.tail.all _ hy
 have dzx : Dj (fp z) (fp x) := by have := h.hdj (b := nmz x X) hx; rw [ha] at this; exact this
 have dzy : Dj (fp z) (fp y) := by have := h.hdj (b := nmz y Y) hy; rw [ha] at this; exact this
 exact ResE.pass (c80 z x y X Y p w hz hxP hyP (dzx.al hxP.toSt) (dzy.al hyP.toSt) lx ly hs hg) fun r w' h1 h2 h3 => q r w' (h.res ha h2 h3 h1 rfl) h2 h3
theorem div_bank {w : World} {K : SK} {z u x y : Sl} {U V : Nat} {a b : Item} {L : List Item} (h : Bank w (stk K :: a :: b :: L)) (ha : a.fp = fp z) (hb : b.fp = fp u) (hz : St w z) (hu : St w u) (hx : nmz x U ∈ L) (hy : nmz y V ∈ L) (hV : V ≠ 0) (ly : y.l < 40) (lx : x.l ≤ 1000000000) (hL : K.s.l ≤ 1099511627776) (hg : Glb w) {Q : Ending → World → Prop}
  (q : ∀ (c r : Sl) (K' : SK) w', Bank w' (stk K' :: nmz c (U / V) :: nmz r (U % V) :: L) → K'.a = K.a → K'.s.l = K.s.l → Nxt w K K' → From w z c → From w u r → Chg w w' (un (un (fp z) (fp u)) K.free) → Q (.returned (.tuple #[c.v, r.v])) w') :
  Calls Tryz.prog 81 #[z.v, .pointer K.a, u.v, x.v, y.v] w Q := by
 have hxP : Nz w x U := h.all (nmz x U) (by simp [hx])
 have hyP : Nz w y V := h.all (nmz y V) (by simp [hy])
 have dz : Dj K.free (fp z) := by have := h.hdj (b := a) (by simp); rw [ha] at this; exact this
 have du : Dj K.free (fp u) := by have := h.hdj (b := b) (by simp); rw [hb] at this; exact this
 have dx : Dj K.free (fp x) := h.hdj (b := nmz x U) (by simp [hx])
 have dy : Dj K.free (fp y) := h.hdj (b := nmz y V) (by simp [hy])
 have dzu : Dj (fp z) (fp u) := by have := h.tail.hdj (b := b) (by simp); rw [ha, hb] at this; exact this
 have dzx : Dj (fp z) (fp x) := by have := h.tail.hdj (b := nmz x U) (by simp [hx]); rw [ha] at this; exact this
 have dux : Dj (fp u) (fp x) := by have := h.tail.tail.hdj (b := nmz x U) hx; rw [hb] at this; exact this
 refine (c81 K z u x y U V w h.head hz hu hxP hyP hV ly lx dzu.spc (dzx.al hxP.toSt).sep (dux.al hxP.toSt).sep dz.off du.off (dx.offl hxP.toSt) (dy.offl hyP.toSt) hL hg).mono ?_
 rintro e w' ⟨_, rfl, c, r, K', rfl, p1, p2, p3, p4, p5, p6, p7, p8, p9, p10, _, _, p13⟩
 refine q c r K' w' ?_ (by unfold SK.a; rw [p7.p]) p8 p7 p3 p4 p13
 refine Bank.updN (A := [stk K, a, b]) (A' := [stk K', nmz c (U / V), nmz r (U % V)]) h p13 (fun x' i _ hm => ?_) (Bank.three p6 p1 p2 p9.dj p10.dj p5.dj) fun a' ha' x' i hx' hf => ?_
 ·rcases hm with (hm | hm) | hm
  ·exact ⟨a, by simp, by rw [ha]; exact hm⟩
  ·exact ⟨b, by simp, by rw [hb]; exact hm⟩
  ·exact ⟨stk K, by simp, hm⟩
 ·simp only [List.mem_cons, List.not_mem_nil, or_false] at ha'
  rcases ha' with rfl | rfl | rfl
  ·exact ⟨stk K, by simp, stk_sub p7 x' i hx' hf⟩
  ·exact ⟨a, by simp, by rw [ha]; exact from_sub p3 x' i hx' hf⟩
  ·exact ⟨b, by simp, by rw [hb]; exact from_sub p4 x' i hx' hf⟩
end Go.Proofs.YtlkjiiibmfpbcaaGreatDoor
