/- Contracts: shifts of numbers, the lower bits of a number. Conditions: normal form; lengths up to 2^40, counts below 2^40; what is read lies apart from the storage, or begins where it begins. -/
import Derived.Lib.SliceRun
import Derived.Great.BuildSlice
import Derived.Test.YtlkjiiibmfpbcaaGreatDoorP13
namespace Go.Proofs.YtlkjiiibmfpbcaaGreatDoor
open Go
theorem quo64 (n : Nat) (h : n ≤ 1099511627776) : iQuo .u64 (n : Int) 64 = ((n / 64 : Nat) : Int) := iQuoN n 64 (by omega)
theorem rem64 (n : Nat) : iRem (n : Int) 64 = ((n % 64 : Nat) : Int) := iRemN n 64
theorem BB2 (n : Nat) : BB ^ n = 2 ^ (64 * n) := by rw [show BB = 2 ^ 64 from rfl, ← Nat.pow_mul]
theorem c107g (z x : Sl) (X n : Nat) (w : World) (hz : St w z) (hx : Nt w x X) (hxn : x.l < (n + 63) / 64 → Nz w x X) (hl : Len x) (hn : n ≤ 1099511627776) :
  Calls Tryz.prog 107 #[z.v, x.v, .int .u64 (n : Int)] w (ResE w z (X % 2 ^ n)) := by
 have hl' := hl
 unfold Len at hl'
 have hxc := hx.lc
 have eW : iQuo .u64 (IntKind.wrap .u64 ((IntKind.wrap .u64 ((n : Int) + 64)) - 1)) 64 = (((n + 63) / 64 : Nat) : Int) := by
  rw [show ((n : Int) + 64) = ((n + 64 : Nat) : Int) by omega, wrapN _ (by omega), show (((n + 64 : Nat) : Int) - 1) = ((n + 63 : Nat) : Int) by omega, wrapN _ (by omega)]
  exact iQuoN _ 64 (by omega)
 refine F107.call z.a z.l z.c x.a x.l x.c n w _ fun B => ?_
 unfold F107.v0
 rw [eW, wrapN x.l (by omega)]
 refine ⟨by omega, bc_intro (fun hb => ?_) (fun hb => ?_)⟩
 ·have hlt : x.l < (n + 63) / 64 := by have := dT hb; omega
  have hX : X < 2 ^ n := by
   refine Nat.lt_of_lt_of_le hx.lt ?_
   rw [BB2]; exact Nat.pow_le_pow_right (by omega) (by omega)
  rw [Nat.mod_eq_of_lt hX]
  exact ResE.pass (c60 z x X w hz (hxn hlt) hl) fun r w' h1 h2 h3 => ⟨_, _, _, rfl, fun B2 => ret1 rfl rfl (Res.of h1 h2 h3)⟩
 ·have hge : (n + 63) / 64 ≤ x.l := by have := dF hb; omega
  rw [wrapIN _ (by omega)]
  refine (c73 z ((n + 63) / 64) w hz (by omega)).mono ?_
  rintro e w1 ⟨_, rfl, r, rfl, hrl, hr, hf, hc⟩
  have hrc := hr.lc
  have hx1 := hc.nt_none hx
  have hx2 := hx1.lo r.l (by omega)
  obtain ⟨w', r1, r2, r3⟩ := copyT 45 Tryz.underlying45 r x r.l (by omega) (X % BB ^ r.l) w1 hr.wt ⟨hx2.at_, hx2.sg, hx2.lt⟩
  have hr' := r3.st hr
  have hw' : Chg w w' (fp z) := hf.chg (hc.none _) r3 (Nat.le_refl _) (by omega)
  rw [rem64]
  refine ⟨_, _, _, rfl, w', _, r1, by omega, bc_intro (fun hb => ?_) (fun hb B2 => ?_)⟩
  ·have hm : n % 64 ≠ 0 := by have := neN hb; omega
   obtain ⟨m, hm1⟩ : ∃ m, r.l = m + 1 := ⟨r.l - 1, by omega⟩
   have hp := hr'.pl (by omega)
   have d1 := dg_lt' X m
   have ed : dg (X % BB ^ r.l) m = dg X m := dg_mod _ _ _ (by omega)
   have r2m := r2 m (by omega)
   rw [ed] at r2m
   refine ⟨by unfold inI64; omega, rdC (k := m) (hr.at_ (by omega)) (by omega) (by omega) r2m ⟨by omega, by omega, wtC (k := m) hr'.wt (by omega) (by omega) fun B2 => ?_⟩⟩
   have ev : iAnd .u64 (dg X m : Int) (IntKind.wrap .u64 (iShl .u64 1 ((n % 64 : Nat) : Int) - 1)) = ((dg X m % 2 ^ (n % 64) : Nat) : Int) := by
    have h2 : 2 ^ (n % 64) < 2 ^ 64 := Nat.pow_lt_pow_right (by omega) (by omega)
    have h3 : 0 < 2 ^ (n % 64) := Nat.two_pow_pos _
    have : iShl .u64 1 ((n % 64 : Nat) : Int) = ((2 ^ (n % 64) : Nat) : Int) := by
     rw [show (1 : Int) = ((1 : Nat) : Int) from rfl, iShlN, Nat.min_eq_left (by omega), Nat.one_mul, Nat.mod_eq_of_lt h2]
    rw [this, show (((2 ^ (n % 64) : Nat) : Int) - 1) = ((2 ^ (n % 64) - 1 : Nat) : Int) by omega, wrapN _ (by omega), iAndMask _ _ (by omega) d1]
   rw [ev]
   have hcell := (hr'.wr m (by omega)).1
   have hsg : Sg (w'.setCell ⟨r.b, r.o + m, none⟩ (.int .u64 ((dg X m % 2 ^ (n % 64) : Nat) : Int))) r.b r.o (m + 1) (X % BB ^ m + BB ^ m * (dg X m % 2 ^ (n % 64))) := by
    refine Sg.step ?_ (Nat.mod_lt _ (BBpow_pos m)) (Nat.lt_of_le_of_lt (Nat.mod_le _ _) (by rw [BB_eq]; exact d1)) rfl hp hcell
    refine (r2.le (show m ≤ r.l by omega)).congr fun i hi => ?_
    rw [dg_mod _ _ _ hi, dg_mod _ _ _ (by omega)]
   have hV : X % BB ^ m + BB ^ m * (dg X m % 2 ^ (n % 64)) = X % 2 ^ n := by
    have e1 : 2 ^ n = BB ^ m * 2 ^ (n % 64) := by rw [BB2, ← Nat.pow_add]; exact congrArg (fun k => 2 ^ k) (show n = 64 * m + n % 64 by omega)
    have e2 : dg X m % 2 ^ (n % 64) = X / BB ^ m % 2 ^ (n % 64) := Nat.mod_mod_of_dvd _ (by rw [show BB = 2 ^ 64 from rfl]; exact Nat.pow_dvd_pow 2 (by omega))
    rw [e1, Nat.mod_mul, e2]
   have hc4 : Chg w' (w'.setCell ⟨r.b, r.o + m, none⟩ (.int .u64 ((dg X m % 2 ^ (n % 64) : Nat) : Int))) (inR r.b (r.o + m) (r.o + m + 1)) := Chg.setCell hp _ ⟨rfl, by omega, by omega⟩
   rw [hV] at hsg
   refine F107.t1 r.a r.l r.c ⟨rfl, trivial⟩ fun B3 => normR (w := w) (z := z) (r := r) (V := X % 2 ^ n) { hc4.st hr' with sg := by rw [hm1]; exact hsg, lt := ?_ } hf (hf.chg hw' hc4 (by omega) (by omega)) fun k hres => ⟨_, _, _, rfl, fun B6 => ret1 rfl rfl hres⟩
   refine Nat.lt_of_lt_of_le (Nat.mod_lt _ (Nat.two_pow_pos n)) ?_
   rw [BB2]; exact Nat.pow_le_pow_right (by omega) (by omega)
  ·have hm : n % 64 = 0 := by have := neE hb; omega
   have hV : X % 2 ^ n = X % BB ^ r.l := by rw [BB2]; exact congrArg (fun k => X % 2 ^ k) (show n = 64 * r.l by omega)
   rw [hV]
   refine F107.t1 r.a r.l r.c ⟨rfl, trivial⟩ fun B3 => normR (w := w) (z := z) (r := r) (V := X % BB ^ r.l) { hr' with sg := r2, lt := Nat.mod_lt _ (BBpow_pos _) } hf hw' fun k hres => ⟨_, _, _, rfl, fun B6 => ret1 rfl rfl hres⟩
theorem c107 (z x : Sl) (X n : Nat) (w : World) (hz : St w z) (hx : Nz w x X) (hl : Len x) (hn : n ≤ 1099511627776) :
  Calls Tryz.prog 107 #[z.v, x.v, .int .u64 (n : Int)] w (ResE w z (X % 2 ^ n)) := c107g z x X n w hz hx.toNt (fun _ => hx) hl hn
theorem c49 (x y : Sl) (w : World) (hx : x.c ≠ 0 → x.a = some ⟨x.b, x.o, none⟩ ∧ plainAt w x.b) (hy : y.c ≠ 0 → y.a = some ⟨y.b, y.o, none⟩ ∧ plainAt w y.b) (mx : x.c ≤ 9223372036854775807) (my : y.c ≤ 9223372036854775807) :
  Calls Tryz.prog 49 #[x.v, y.v] w fun e w' => ∃ v, e = .returned v ∧ ∃ q : Bool, v = .bool q ∧ w' = w.drew ∧ (q = true ↔ (x.c ≠ 0 ∧ y.c ≠ 0 ∧ x.b = y.b ∧ x.o + x.c = y.o + y.c)) := by
 refine F49.call x.a x.l x.c y.a y.l y.c w _ fun B => bc_intro (fun hb => bc_intro (fun hb' => ?_) (fun hb' B1 => ret1 rfl rfl ⟨false, rfl, rfl, ?_⟩)) (fun hb B1 => ret1 rfl rfl ⟨false, rfl, rfl, ?_⟩)
 ·have h1 : x.c ≠ 0 := by have := dT hb; omega
  have h2 : y.c ≠ 0 := by have := dT hb'; omega
  refine ⟨0, x.c, rfl, rfl, Nat.zero_le _, Nat.le_refl _, by unfold inI64; omega, x.b, x.o, by rw [(hx h1).1]; exact shifted_zero .., x.c - 1, by omega, by omega,
   0, y.c, rfl, rfl, Nat.zero_le _, Nat.le_refl _, by unfold inI64; omega, y.b, y.o, by rw [(hy h2).1]; exact shifted_zero .., y.c - 1, by omega, by omega, _,
   ptrIs (z := ⟨none, 0, 0, x.b, x.o + (x.c - 1)⟩) (x := ⟨none, 0, 0, y.b, y.o + (y.c - 1)⟩) (hx h1).2 (hy h2).2, fun B1 => ret1 rfl rfl ⟨_, rfl, rfl, ?_⟩⟩
  simp [h1, h2]; omega
 ·have := dF hb'; simp; omega
 ·have := dF hb; simp; omega
end Go.Proofs.YtlkjiiibmfpbcaaGreatDoor
namespace Go.Proofs.YtlkjiiibmfpbcaaGreatDoor
open Go
theorem clearW (t : TypeId) (ht : Tryz.prog.underlying t = some (.slice 61)) (z : Sl) (w : World) (hz : Wt w z) :
  ∃ w', Sem.run Tryz.prog (builtin .clear #[t] 0 #[false] #[z.v]) w = .ok (.value undef) w' ∧ Sg w' z.b z.o z.l 0 ∧ Chg w w' (inR z.b z.o (z.o + z.l)) := by
 by_cases h0 : z.l = 0
 ·refine ⟨w, ?_, by rw [h0]; exact Sg.zero, Chg.refl _ _⟩
  rw [BigFrame.builtin_clear]
  cases ha : z.a <;> simp [Sl.v, ha, h0, Builtin.clear_, run_underlying ht, undef]
 ·have := Lib.run_clear_slice (P := Tryz.prog) w t 61 0 (.int .u64 0) ht (fun w => Tryz.zeroValue61 w) rfl rfl z.b z.o z.l z.c (by omega) (fun j hj => by obtain ⟨u, hu⟩ := (hz.wr j hj).1; exact Option.isSome_iff_exists.2 ⟨u, hu⟩) (fun j hj => (hz.wr j hj).2)
  refine ⟨_, ?_, ?_, Chg.setCells _ (List.replicate z.l (.int .u64 0)) z.o w (hz.pl h0) fun j hj => by rw [List.length_replicate] at hj; exact ⟨rfl, by omega, by omega⟩⟩
  ·rw [BigFrame.builtin_clear]
   simp only [Sem.run_bind, Sl.v, hz.at_ h0, this]
   rfl
  ·intro i hi
   have := World.cell?_setCells_in z.b (List.replicate z.l (.int .u64 0)) z.o w (fun j hj => by rw [List.length_replicate] at hj; obtain ⟨u, hu⟩ := (hz.wr j hj).1; exact Option.isSome_iff_exists.2 ⟨u, hu⟩) i (by rw [List.length_replicate]; exact hi)
   rw [this, dg_zero]; simp
theorem Nt.same {w : World} {z x : Sl} {X : Nat} (hz : St w z) (hx : Nz w x X) (h : z.l = x.l ∧ z.l ≠ 0 ∧ z.b = x.b ∧ z.o = x.o) : Nz w (z.to z.l) X := by
 refine ⟨⟨hz.to_st z.l hz.lc, ?_, ?_⟩, hx.nm.of_len h.1⟩
 ·show Sg w z.b z.o z.l X
  rw [h.1, h.2.2.1, h.2.2.2]; exact hx.sg
 ·show X < BB ^ z.l
  rw [h.1]; exact hx.lt
theorem St.pp {w : World} {s : Sl} (h : St w s) : (s.l ≠ 0 → s.a = some ⟨s.b, s.o, none⟩ ∧ plainAt w s.b) := fun h0 => ⟨h.at_ (by have := h.lc; omega), (h.pl (by have := h.lc; omega)).2⟩
theorem St.pc {w : World} {s : Sl} (h : St w s) : (s.c ≠ 0 → s.a = some ⟨s.b, s.o, none⟩ ∧ plainAt w s.b) := fun h0 => ⟨h.at_ h0, (h.pl h0).2⟩
theorem subL (s : Sl) (i h : Nat) : (s.sub i h).l = h - i := rfl
theorem c109p (z x : Sl) (X s : Nat) (w w0 : World) (h0 : Chg w0 w none2) (hz : St w z) (hx : Nz w x X) (sx : Sep z x) (hl : Len x) (hs : s ≤ 1099511627776) (e : Env) (ha : agree e (F109.l1 z.a z.l z.c x.a x.l x.c s)) (hd : e.defers = []) :
  W Tryz.prog 57 F109.p1 e w (retK Tryz.prog [.tmp 6] (Res w0 z (X / 2 ^ s))) := by
 have hl' := hl
 unfold Len at hl'
 have hxc := hx.lc
 refine F109.t1 z.a z.l z.c x.a x.l x.c s ha fun B => ?_
 unfold F109.v1
 rw [quo64 s hs, rem64, wrapIN _ (by omega)]
 refine ⟨by omega, by unfold inI64; omega, bc_intro (fun hb => ?_) (fun hb => ?_)⟩
 ·have hle : x.l ≤ s / 64 := by have := dT hb; omega
  have hX : X / 2 ^ s = 0 := by
   refine Nat.div_eq_of_lt (Nat.lt_of_lt_of_le hx.lt ?_)
   rw [BB2]; exact Nat.pow_le_pow_right (by omega) (by omega)
  rw [hX]
  exact ⟨0, rfl, Nat.zero_le _, fun B2 => ret1 hd rfl (Res.of (nz_zero hz) (From.self w0 z 0) (h0.none _))⟩
 ·have hgt : s / 64 < x.l := by have := dF hb; omega
  have e1 : ((x.l : Int) - ((s / 64 : Nat) : Int)) = ((x.l - s / 64 : Nat) : Int) := by omega
  rw [e1]
  refine (c73 z (x.l - s / 64) w hz (by omega)).mono ?_
  rintro e' w1 ⟨_, rfl, r, rfl, hrl, hr, hf, hc⟩
  have hf0 := hf.later h0
  have hrc := hr.lc
  have hx1 := hc.nz_none hx
  have hxh := hx1.toNt.hi (s / 64) (by omega)
  have elen : (x.sub (s / 64) x.l).l = r.l := by rw [hrl]; rfl
  have e2 : 2 ^ s = BB ^ (s / 64) * 2 ^ (s % 64) := by rw [BB2, ← Nat.pow_add]; exact congrArg (fun k => 2 ^ k) (show s = 64 * (s / 64) + s % 64 by omega)
  have hV : X / 2 ^ s = X / BB ^ (s / 64) / 2 ^ (s % 64) := by rw [e2, Nat.div_div_eq_div_mul]
  have hlt : X / 2 ^ s < BB ^ r.l := by
   rw [hV]
   exact Nat.lt_of_le_of_lt (Nat.div_le_self _ _) (by rw [← elen]; exact hxh.lt)
  refine ⟨_, _, _, rfl, by omega, bc_intro (fun hb => ⟨by unfold inI64; omega, s / 64, by omega, by omega, ?_⟩) (fun hb => ⟨by unfold inI64; omega, s / 64, by omega, by omega, ?_⟩)⟩
  ·have h64 : s % 64 = 0 := by have := eqE hb; omega
   obtain ⟨w', r1, r2, r3⟩ := copyT 45 Tryz.underlying45 r (x.sub (s / 64) x.l) r.l (by omega) (X / BB ^ (s / 64)) w1 hr.wt ⟨fun h => hxh.at_ (by rw [elen]; exact h), by rw [← elen]; exact hxh.sg, by rw [← elen]; exact hxh.lt⟩
   refine ⟨w', _, r1, fun B2 => F109.t2 r.a r.l r.c ⟨rfl, trivial⟩ fun B3 => ?_⟩
   rw [h64, Nat.pow_zero, Nat.div_one] at hV
   refine normR (w := w0) (z := z) (r := r) (V := X / 2 ^ s) { r3.st hr with sg := by rw [hV]; exact r2, lt := hlt } hf0 (hf0.chg ((h0.trans' hc).none _) r3 (Nat.le_refl _) (by omega)) fun k hres => ⟨_, _, _, rfl, fun B6 => ret1 hd rfl hres⟩
  ·refine Vec.pass (c147 r (x.sub (s / 64) x.l) (X / BB ^ (s / 64)) (s % 64) w1 hr.wt hxh elen ?_ (by omega)) ?_
   ·unfold Ov
    show x.l - s / 64 = 0 ∨ x.b ≠ r.b ∨ r.o ≤ x.o + s / 64 ∨ x.o + s / 64 + (x.l - s / 64) ≤ r.o
    have := hx.toNt.blk (by omega)
    rcases hf with ⟨_, e2, e3, e4⟩ | hf
    ·unfold Sep at sx; omega
    ·omega
   ·rintro c Z w2 t1 hZ hsg hch
    subst t1
    refine ⟨_, rfl, fun B2 => F109.t2 r.a r.l r.c ⟨rfl, trivial⟩ fun B3 => ?_⟩
    refine normR (w := w0) (z := z) (r := r) (V := X / 2 ^ s) { hch.st hr with sg := by rw [hV]; exact hsg, lt := hlt } hf0 (hf0.chg ((h0.trans' hc).none _) hch (Nat.le_refl _) (by omega)) fun k hres => ⟨_, _, _, rfl, fun B6 => ret1 hd rfl hres⟩
theorem c109 (z x : Sl) (X s : Nat) (w : World) (hz : St w z) (hx : Nz w x X) (sx : Sep z x) (hl : Len x) (hs : s ≤ 1099511627776) :
  Calls Tryz.prog 109 #[z.v, x.v, .int .u64 (s : Int)] w (ResE w z (X / 2 ^ s)) := by
 refine F109.call z.a z.l z.c x.a x.l x.c s w _ fun B => bc_intro (fun hb => ?_) (fun hb B1 => c109p z x X s w w (Chg.refl _ _) hz hx sx hl hs _ ⟨rfl, rfl, rfl, trivial⟩ rfl)
 have h0 : s = 0 := by have := eqE hb; omega
 subst h0
 refine (c144 z x 0 0 w hz.pp hx.pp).mono ?_
 rintro e w1 ⟨_, rfl, q, rfl, rfl, hq⟩
 refine ⟨_, rfl, bc_intro (fun h => fun B1 => ?_) (fun h => ?_)⟩
 ·have hs := Nt.same hz hx (hq.1 h)
  have := (Chg.drew0 w none2).nz_none hs
  refine ret1 rfl rfl (Res.of (r := z.to z.l) (by simpa using this) (From.self w z z.l) (Chg.drew0 w _))
 ·have cd : Chg w w.drew none2 := Chg.drew0 w _
  have hz1 := cd.st hz
  have hx1 := cd.nz_none hx
  refine (c49 z x w.drew hz1.pc hx1.pc hz.cm hx.cm).mono ?_
  rintro e w1 ⟨_, rfl, q2, rfl, rfl, hq2⟩
  have cd2 : Chg w w.drew.drew none2 := cd.drew
  refine ⟨_, rfl, bc_intro (fun h2 => ?_) (fun h2 B1 => c109p z x X 0 w.drew.drew w cd2 (cd2.st hz) (cd2.nz_none hx) sx hl hs _ ⟨rfl, rfl, rfl, trivial⟩ rfl)⟩
  refine ResE.pass (c60 z x X w.drew.drew (cd2.st hz) (cd2.nz_none hx) hl) fun r w' h1 h2 h3 => ⟨_, _, _, rfl, fun B2 => ret1 rfl rfl (Res.of (by simpa using h1) (h2.later cd2) ((cd2.none _).trans' h3))⟩
end Go.Proofs.YtlkjiiibmfpbcaaGreatDoor
namespace Go.Proofs.YtlkjiiibmfpbcaaGreatDoor
open Go
theorem f105end {w0 w2 : World} {z r : Sl} {k m Z c V : Nat} (hr : St w2 r) (hf : From w0 z r) (hrl : r.l = k + m + 1) (hZ : Z < BB ^ m) (hc : c < 18446744073709551616) (hsg : Sg w2 r.b (r.o + k) m Z)
  (hch : Chg w0 w2 (fp z)) (hV : BB ^ k * (Z + BB ^ m * c) = V) (hm : m ≤ 1099511627776) (hk : k ≤ 1099511627776) (B4 : Nat → Value) (ds : List Deferred) (hds : ds = []) :
  W Tryz.prog 71 F105.p2 (E [(0, r.v), (7, (.int .i64 (m : Int))), (8, (.int .i64 ((k + m : Nat) : Int)))] B4 ds) (w2.setCell ⟨r.b, r.o + (k + m), none⟩ (.int .u64 (c : Int))) (retK Tryz.prog [.tmp 6] (Res w0 z V)) := by
 subst hds
 have hrc := hr.lc
 have hp := hr.pl (by omega)
 have c3 : Chg w2 (w2.setCell ⟨r.b, r.o + (k + m), none⟩ (.int .u64 (c : Int))) (inR r.b (r.o + (k + m)) (r.o + (k + m) + 1)) := Chg.setCell hp _ ⟨rfl, by omega, by omega⟩
 have s3 : Sg (w2.setCell ⟨r.b, r.o + (k + m), none⟩ (.int .u64 (c : Int))) r.b (r.o + k) (m + 1) (Z + BB ^ m * c) := by
  have := hsg.step hZ (d := c) (w2 := w2) (by rw [BB_eq]; exact hc) rfl hp (by rw [Nat.add_assoc]; exact (hr.wr (k + m) (by omega)).1)
  rw [Nat.add_assoc] at this; exact this
 generalize w2.setCell ⟨r.b, r.o + (k + m), none⟩ (.int .u64 (c : Int)) = w3 at c3 s3
 have hr3 := c3.st hr
 refine F105.t2 r.a r.l r.c m (k + m : Nat) ⟨rfl, rfl, rfl, trivial⟩ fun B5 => ⟨by unfold inI64; omega, 0, k, rfl, by omega, by omega, by omega, ?_⟩
 have hw := hr3.sub_wt 0 k (by omega) (by omega)
 obtain ⟨w4, r1, r2, r3⟩ := clearW 45 Tryz.underlying45 (r.sub 0 k) w3 hw
 have r2 : Sg w4 r.b (r.o + 0) (k - 0) 0 := r2
 have r3 : Chg w3 w4 (inR r.b (r.o + 0) (r.o + 0 + (k - 0))) := r3
 rw [Nat.add_zero, Nat.sub_zero] at r2 r3
 refine ⟨w4, r1, ?_⟩
 have s4 := Sg.join r2 (r3.sg s3 fun i hi hm => by have := hm.2.2; omega) (BBpow_pos k)
 rw [Nat.zero_add, hV] at s4
 refine normR (w := w0) (z := z) (r := r) (V := V) { r3.st hr3 with sg := by rw [hrl]; exact s4, lt := ?_ } hf (hf.chg (hf.chg hch c3 (by omega) (by omega)) r3 (Nat.le_refl _) (by omega)) fun k hres => ⟨_, _, _, rfl, fun B6 => ret1 rfl rfl hres⟩
 rw [hrl, ← hV, Nat.add_assoc, Nat.pow_add]
 exact Nat.mul_lt_mul_of_pos_left (dlt hZ hc) (BBpow_pos k)
theorem c105p (z x : Sl) (X s : Nat) (w w0 : World) (h0 : Chg w0 w none2) (hz : St w z) (hx : Nz w x X) (sx : Sep z x) (hl : Len x) (hs : s ≤ 1099511627776) (e : Env) (ha : agree e (F105.l1 z.a z.l z.c x.a x.l x.c s)) (hd : e.defers = []) :
  W Tryz.prog 71 F105.p1 e w (retK Tryz.prog [.tmp 6] (Res w0 z (X * 2 ^ s))) := by
 have hl' := hl
 unfold Len at hl'
 have hxc := hx.lc
 refine F105.t1 z.a z.l z.c x.a x.l x.c s ha fun B => ?_
 unfold F105.v1
 rw [quo64 s hs, rem64, wrapIN _ (by omega)]
 refine bc_intro (fun hb => ?_) (fun hb => ?_)
 ·have hX : X = 0 := Nz.zero hx.toNt (by have := eqE hb; omega)
  rw [hX, Nat.zero_mul]
  exact ⟨0, rfl, Nat.zero_le _, fun B2 => ret1 hd rfl (Res.of (nz_zero hz) (From.self w0 z 0) (h0.none _))⟩
 ·have hx0 : x.l ≠ 0 := by have := eqN hb; omega
  have e1 : ((x.l : Int) + ((s / 64 : Nat) : Int)) = ((s / 64 + x.l : Nat) : Int) := by omega
  rw [e1, show (((s / 64 + x.l : Nat) : Int) + 1) = ((s / 64 + x.l + 1 : Nat) : Int) by omega]
  refine ⟨by omega, by unfold inI64; omega, by unfold inI64; omega, (c73 z (s / 64 + x.l + 1) w hz (by omega)).mono ?_⟩
  rintro e' w1 ⟨_, rfl, r, rfl, hrl, hr, hf, hc⟩
  have hf0 := hf.later h0
  have hrc := hr.lc
  have hx1 := hc.nz_none hx
  have hxr := hx1.toNt.rd
  have elen : (r.sub (s / 64) (s / 64 + x.l)).l = x.l := by show s / 64 + x.l - s / 64 = _; omega
  have e2 : 2 ^ s = BB ^ (s / 64) * 2 ^ (s % 64) := by rw [BB2, ← Nat.pow_add]; exact congrArg (fun k => 2 ^ k) (show s = 64 * (s / 64) + s % 64 by omega)
  have hw := hr.sub_wt (s / 64) (s / 64 + x.l) (by omega) (by omega)
  refine ⟨_, _, _, rfl, by omega, bc_intro (fun hb => ⟨by unfold inI64; omega, s / 64, s / 64 + x.l, by omega, rfl, by omega, by omega, ?_⟩) (fun hb => ⟨by unfold inI64; omega, s / 64, s / 64 + x.l, by omega, rfl, by omega, by omega, ?_⟩)⟩
  ·have h64 : s % 64 = 0 := by have := eqE hb; omega
   obtain ⟨w', r1, r2, r3⟩ := copyT 45 Tryz.underlying45 (r.sub (s / 64) (s / 64 + x.l)) x x.l (by omega) X w1 ⟨fun h => hw.at_ (by omega), by have := hw.wr; rw [elen] at this; exact this, fun h => hw.pl (by omega), by have := hw.lm; rw [elen] at this; exact this⟩ ⟨hxr.at_, hxr.sg, hxr.lt⟩
   have hr' := r3.st hr
   have r2 : Sg w' r.b (r.o + s / 64) x.l X := r2
   refine ⟨w', _, r1, wtC (k := s / 64 + x.l) hr'.wt rfl (by omega) fun B2 => ?_⟩
   refine f105end (w0 := w0) (z := z) (r := r) (k := s / 64) (m := x.l) (Z := X) (c := 0) hr' hf0 (by omega) hx.lt (by omega) r2 (hf0.chg ((h0.trans' hc).none _) r3 (show r.o ≤ r.o + s / 64 by omega) (by show r.o + s / 64 + x.l ≤ _; omega)) ?_ hl' (by omega) B2 _ hd
   rw [e2, h64]; simp [Nat.mul_comm]
  ·have h64 : s % 64 ≠ 0 := by have := eqN hb; omega
   refine Vec.pass (c145 (r.sub (s / 64) (s / 64 + x.l)) x X (s % 64) w1 hw hxr elen.symm ?_ (by omega)) ?_
   ·unfold OvUp
    show x.l = 0 ∨ x.b ≠ r.b ∨ x.o ≤ r.o + s / 64 ∨ r.o + s / 64 + (s / 64 + x.l - s / 64) ≤ x.o
    have := hx.toNt.blk (by omega)
    rcases hf with ⟨_, e2, e3, e4⟩ | hf
    ·unfold Sep at sx; omega
    ·omega
   ·rintro c Z w2 t1 hZ hsg hch
    rw [elen] at t1 hZ hsg hch
    have hsg : Sg w2 r.b (r.o + s / 64) x.l Z := hsg
    have hch : Chg w1 w2 (inR r.b (r.o + s / 64) (r.o + s / 64 + x.l)) := hch
    have hr' := hch.st hr
    refine ⟨_, rfl, wtC (k := s / 64 + x.l) hr'.wt rfl (by omega) fun B2 => ?_⟩
    refine f105end (w0 := w0) (z := z) (r := r) (k := s / 64) (m := x.l) (Z := Z) (c := c) hr' hf0 (by omega) hZ ?_ hsg (hf0.chg ((h0.trans' hc).none _) hch (by omega) (by omega)) ?_ hl' (by omega) B2 _ hd
    ·have h1 : X * 2 ^ (s % 64) < BB ^ x.l * 2 ^ 64 := by
      have h2 : 2 ^ (s % 64) ≤ 2 ^ 64 := Nat.pow_le_pow_right (by omega) (by omega)
      exact Nat.lt_of_le_of_lt (Nat.mul_le_mul_left _ h2) (Nat.mul_lt_mul_of_pos_right hx.lt (by omega))
     have h3 : BB ^ x.l * c < BB ^ x.l * 2 ^ 64 := by omega
     exact Nat.lt_of_mul_lt_mul_left h3
    ·rw [t1, e2, ← Nat.mul_assoc, Nat.mul_comm (BB ^ (s / 64)) X, Nat.mul_assoc]
theorem c105 (z x : Sl) (X s : Nat) (w : World) (hz : St w z) (hx : Nz w x X) (sx : Sep z x) (hl : Len x) (hs : s ≤ 1099511627776) :
  Calls Tryz.prog 105 #[z.v, x.v, .int .u64 (s : Int)] w (ResE w z (X * 2 ^ s)) := by
 refine F105.call z.a z.l z.c x.a x.l x.c s w _ fun B => bc_intro (fun hb => ?_) (fun hb B1 => c105p z x X s w w (Chg.refl _ _) hz hx sx hl hs _ ⟨rfl, rfl, rfl, trivial⟩ rfl)
 have h0 : s = 0 := by have := eqE hb; omega
 subst h0
 refine (c144 z x 0 0 w hz.pp hx.pp).mono ?_
 rintro e w1 ⟨_, rfl, q, rfl, rfl, hq⟩
 refine ⟨_, rfl, bc_intro (fun h => fun B1 => ?_) (fun h => ?_)⟩
 ·have hs := Nt.same hz hx (hq.1 h)
  have := (Chg.drew0 w none2).nz_none hs
  refine ret1 rfl rfl (Res.of (r := z.to z.l) (by simpa using this) (From.self w z z.l) (Chg.drew0 w _))
 ·have cd : Chg w w.drew none2 := Chg.drew0 w _
  have hz1 := cd.st hz
  have hx1 := cd.nz_none hx
  refine (c49 z x w.drew hz1.pc hx1.pc hz.cm hx.cm).mono ?_
  rintro e w1 ⟨_, rfl, q2, rfl, rfl, hq2⟩
  have cd2 : Chg w w.drew.drew none2 := cd.drew
  refine ⟨_, rfl, bc_intro (fun h2 => ?_) (fun h2 B1 => c105p z x X 0 w.drew.drew w cd2 (cd2.st hz) (cd2.nz_none hx) sx hl hs _ ⟨rfl, rfl, rfl, trivial⟩ rfl)⟩
  refine ResE.pass (c60 z x X w.drew.drew (cd2.st hz) (cd2.nz_none hx) hl) fun r w' h1 h2 h3 => ⟨_, _, _, rfl, fun B2 => ret1 rfl rfl (Res.of (by simpa using h1) (h2.later cd2) ((cd2.none _).trans' h3))⟩
end Go.Proofs.YtlkjiiibmfpbcaaGreatDoor
namespace Go.Proofs.YtlkjiiibmfpbcaaGreatDoor
open Go
theorem alloc1_st (w : World) (hg : GB ≤ w.heap.size) (v : Value) : St (w.alloc (.cells #[v] 61)) ⟨some ⟨w.heap.size, 0, none⟩, 1, 1, w.heap.size, 0⟩ := by
 have hh : (w.alloc (.cells #[v] 61)).heap[w.heap.size]? = some (.cells #[v] 61 (0, 0)) := heap_alloc_new ..
 refine ⟨Nat.le_refl _, fun _ => rfl, fun i hi => ⟨⟨v, ?_⟩, ?_⟩, fun _ => ⟨hg, _, _, hh⟩, by show 1 ≤ _; omega, by simp; omega⟩
 ·have hi' : i < 1 := hi
  have : i = 0 := by omega
  subst this
  rw [cell_eq, hh]; rfl
 ·rw [frozen_eq, hh]; simp
theorem info61z : (Tryz.prog.info? 61).map (fun i => (i.size, i.zero)) = some (1, some (.int .u64 0)) := by kernel_rfl
theorem run_build61 (w : World) (t : TypeId) (ht : Tryz.prog.underlying t = some (.slice 61)) (len : Nat) (parts : Array (Nat × Value)) (cells : Array Value) (h0 : len ≠ 0) (h1 : len ≤ 2 ^ 24)
  (h : Instr.fill (fun i => some (i * 1, 1)) ((Array.range (len * 1)).map ((#[.int .u64 0] : Array Value)[· % 1]!)) parts.toList = some cells) :
  (Instr.buildSlice t len parts).run Tryz.prog w = .ok (.slice (some ⟨w.heap.size, 0, none⟩) len len) (w.alloc (.cells cells 61)) := by
 cases hi : Tryz.prog.info? 61 with
 | none => have := info61z; rw [hi] at this; simp at this
 | some ie =>
  have h2 := info61z
  rw [hi] at h2
  simp only [Option.map_some, Option.some.injEq, Prod.mk.injEq] at h2
  refine run_buildSlice w t 61 len parts cells ie (.int .u64 0) ht hi h2.2 (by rw [h2.1]; omega) (by rw [h2.1]; omega) ?_
  rw [h2.1]; exact h
theorem c100 (w : World) (hg : GB ≤ w.heap.size) : Calls Tryz.prog 100 #[] w fun e w' => ∃ v, e = .returned v ∧ ∃ r : Sl, v = r.v ∧ Nz w' r 1 ∧ w.heap.size ≤ r.b ∧ Chg w w' none2 := by
 refine F100.call w _ fun B => ?_
 refine ⟨w.alloc (.cells #[.int .u64 1] 61), some ⟨w.heap.size, 0, none⟩, 1, 1, ?_, fun B1 => ret1 rfl rfl ⟨⟨_, 1, 1, w.heap.size, 0⟩, rfl, ⟨⟨alloc1_st w hg _, ?_, ?_⟩, ?_⟩, Nat.le_refl _, Chg.alloc _ _ (RowKit.frozen?_alloc_cells _ _ _) _⟩⟩
 ·exact run_build61 w 45 Tryz.underlying45 1 #[(0, .int .u64 1)] #[.int .u64 1] (by decide) (by decide) (by kernel_rfl)
 ·intro i hi
  have hi' : i < 1 := hi
  have : i = 0 := by omega
  subst this
  rw [cell_eq, show (w.alloc (.cells #[(Value.int IntKind.u64 1)] 61)).heap[w.heap.size]? = some (.cells #[(Value.int IntKind.u64 1)] 61 (0, 0)) from heap_alloc_new ..]
  rfl
 ·show 1 < BB ^ 1
  rw [Nat.pow_one, BB_eq]; omega
 ·exact Nm.top fun _ => by show BB ^ (1 - 1) ≤ 1; simp
theorem blen_or (x y : Nat) (h : blen y ≤ blen x) : blen (x ||| y) = blen x := by
 refine blen_eq (Nat.or_lt_two_pow (blen_lt x) (Nat.lt_of_lt_of_le (blen_lt y) (Nat.pow_le_pow_right (by omega) h))) (fun h0 => ?_) (fun h0 => ?_)
 ·have hx : x ≠ 0 := by
   rintro rfl
   rw [blen_zero] at h
   have : y = 0 := by have := blen_lt y; rw [show blen y = 0 by omega] at this; simpa using this
   subst this
   exact h0 (by simp)
  exact Nat.le_trans (blen_le x hx) Nat.left_le_or
 ·have : x = 0 := by have := @Nat.left_le_or x y; omega
  rw [this, blen_zero]
theorem blen_mono {x y : Nat} (h : x ≤ y) : blen x ≤ blen y := blen_le_of_lt (Nat.lt_of_le_of_lt h (blen_lt y))
theorem smear (x n : Nat) (hn : n ≤ 64) (hx : x < 18446744073709551616) : ∃ y, iOr .u64 (x : Int) (iShr .u64 (x : Int) (n : Int)) = ((y : Nat) : Int) ∧ y < 18446744073709551616 ∧ blen y = blen x := by
 have h1 : x / 2 ^ n < 18446744073709551616 := Nat.lt_of_le_of_lt (Nat.div_le_self _ _) hx
 refine ⟨x ||| x / 2 ^ n, ?_, Nat.or_lt_two_pow (n := 64) hx h1, blen_or _ _ (blen_mono (Nat.div_le_self _ _))⟩
 rw [shr64 _ _ hn, iOrN _ _ hx h1]
theorem blen_top {X n : Nat} (h : BB ^ n ≤ X) : blen X = n * 64 + blen (X / BB ^ n) := by
 rw [BB2] at h ⊢
 rw [blen_shift X (64 * n) h]; omega
theorem blen_le64 (x : Nat) (h : x < 18446744073709551616) : blen x ≤ 64 := blen_le_of_lt (n := 64) h
theorem dg_top {X n : Nat} (h : X < BB ^ (n + 1)) : dg X n = X / BB ^ n := Nat.mod_eq_of_lt (by rw [Nat.div_lt_iff_lt_mul (BBpow_pos n), Nat.mul_comm, ← BBpow_succ]; exact h)
theorem c53 (x : Sl) (X : Nat) (w : World) (hx : Nz w x X) (hl : Len x) : Calls Tryz.prog 53 #[x.v] w fun e w' => ∃ v, e = .returned v ∧ v = .int .i64 (blen X : Int) ∧ w' = w := by
 unfold Len at hl
 refine F53.call x.a x.l x.c w _ fun B => ⟨by unfold inI64; omega, bc_intro (fun hb => ?_) (fun hb B1 => ?_)⟩
 ·obtain ⟨n, hn⟩ : ∃ n, x.l = n + 1 := ⟨x.l - 1, by have := dT hb; omega⟩
  have hd := dg_lt' X n
  have hX : X < BB ^ (n + 1) := by rw [← hn]; exact hx.lt
  refine rdC (k := n) (hx.at_ (by have := hx.lc; omega)) (by omega) (by omega) (hx.sg n (by omega)) ⟨by omega, by omega, by omega, by omega, by omega, by omega, by omega, by unfold inI64; omega, ?_⟩
  obtain ⟨y1, e1, h1, b1⟩ := smear (dg X n) 1 (by omega) hd
  obtain ⟨y2, e2, h2, b2⟩ := smear y1 2 (by omega) h1
  obtain ⟨y3, e3, h3, b3⟩ := smear y2 4 (by omega) h2
  obtain ⟨y4, e4, h4, b4⟩ := smear y3 8 (by omega) h3
  obtain ⟨y5, e5, h5, b5⟩ := smear y4 16 (by omega) h4
  have e6 : iOr .u64 (y5 : Int) (iShr .u64 (iShr .u64 (y5 : Int) ((16 : Nat) : Int)) ((16 : Nat) : Int)) = ((y5 ||| y5 / 2 ^ 16 / 2 ^ 16 : Nat) : Int) := by
   rw [shr64 _ _ (by omega), shr64 _ _ (by omega), iOrN _ _ h5 (Nat.lt_of_le_of_lt (Nat.le_trans (Nat.div_le_self _ _) (Nat.div_le_self _ _)) h5)]
  have b6 : blen (y5 ||| y5 / 2 ^ 16 / 2 ^ 16) = blen y5 := blen_or _ _ (blen_mono (Nat.le_trans (Nat.div_le_self _ _) (Nat.div_le_self _ _)))
  have h6 : (y5 ||| y5 / 2 ^ 16 / 2 ^ 16) < 18446744073709551616 := Nat.or_lt_two_pow (n := 64) h5 (Nat.lt_of_le_of_lt (Nat.le_trans (Nat.div_le_self _ _) (Nat.div_le_self _ _)) h5)
  have e1 : iOr .u64 (dg X n : Int) (iShr .u64 (dg X n : Int) 1) = (y1 : Int) := e1
  have e2 : iOr .u64 (y1 : Int) (iShr .u64 (y1 : Int) 2) = (y2 : Int) := e2
  have e3 : iOr .u64 (y2 : Int) (iShr .u64 (y2 : Int) 4) = (y3 : Int) := e3
  have e4 : iOr .u64 (y3 : Int) (iShr .u64 (y3 : Int) 8) = (y4 : Int) := e4
  have e5 : iOr .u64 (y4 : Int) (iShr .u64 (y4 : Int) 16) = (y5 : Int) := e5
  have e6 : iOr .u64 (y5 : Int) (iShr .u64 (iShr .u64 (y5 : Int) 16) 16) = ((y5 ||| y5 / 2 ^ 16 / 2 ^ 16 : Nat) : Int) := e6
  rw [e1, e2, e3, e4, e5, e6]
  refine (c84 _ h6 w).mono ?_
  rintro e w' ⟨rfl, rfl⟩
  have hb6 : blen (y5 ||| y5 / 2 ^ 16 / 2 ^ 16) = blen (dg X n) := by rw [b6, b5, b4, b3, b2, b1]
  have hle := blen_le64 _ hd
  have hbx : blen X = n * 64 + blen (dg X n) := by
   rw [dg_top hX]; refine blen_top ?_
   have := hx.nm.le (by omega)
   rw [hn] at this; exact this
  rw [hb6]
  refine ⟨_, rfl, by unfold inI64; omega, fun B2 => ret1 rfl (intv ?_) ⟨rfl, rfl⟩⟩
  rw [hbx]; omega
 ·have : X = 0 := Nz.zero hx.toNt (by have := dF hb; omega)
  subst this
  exact ret1 rfl rfl ⟨by rw [blen_zero]; rfl, rfl⟩
theorem and_pred (t q : Nat) : (2 ^ t * (2 * q + 1)) &&& (2 ^ t * (2 * q + 1) - 1) = 0 ↔ q = 0 := by
 have hp := Nat.two_pow_pos t
 constructor
 ·intro h
  have h1 : ((2 ^ t * (2 * q + 1)) &&& (2 ^ t * (2 * q + 1) - 1)) / 2 ^ t = 0 := by rw [h]; simp
  rw [← Nat.shiftRight_eq_div_pow, Nat.shiftRight_and_distrib, Nat.shiftRight_eq_div_pow, Nat.shiftRight_eq_div_pow, Nat.mul_div_cancel_left _ hp,
   show 2 ^ t * (2 * q + 1) - 1 = 2 ^ t - 1 + 2 ^ t * (2 * q) by rw [Nat.mul_add, Nat.mul_one]; omega, Nat.add_mul_div_left _ _ hp, Nat.div_eq_of_lt (by omega), Nat.zero_add] at h1
  have h2 : ((2 * q + 1) &&& (2 * q)) / 2 = 0 := by rw [h1]
  rw [← Nat.pow_one 2, ← Nat.shiftRight_eq_div_pow, Nat.shiftRight_and_distrib, Nat.shiftRight_eq_div_pow, Nat.shiftRight_eq_div_pow, Nat.pow_one, show (2 * q + 1) / 2 = q by omega, show 2 * q / 2 = q by omega, Nat.and_self] at h2
  exact h2
 ·rintro rfl
  rw [show 2 ^ t * (2 * 0 + 1) = 2 ^ t by simp, Nat.and_two_pow_sub_one_eq_mod, Nat.mod_self]
theorem c75 (x : Sl) (X : Nat) (w : World) (hx : Nz w x X) (hl : Len x) (ht : Tabs w) (hX : X ≠ 0) :
  Calls Tryz.prog 75 #[x.v] w fun e w' => ∃ v, e = .returned v ∧ ∃ (k : Nat) (q : Bool), v = .tuple #[.int .u64 (k : Int), .bool q] ∧ (q = true → X = 2 ^ k ∧ k < x.l * 64) ∧ (q = false → ∃ k u, X = 2 ^ k * (2 * u + 1) ∧ u ≠ 0) ∧ w' = w.drew := by
 have hl' := hl
 unfold Len at hl'
 have h0 : x.l ≠ 0 := fun h => hX (Nz.zero hx.toNt h)
 have hxc := hx.lc
 refine F75.call x.a x.l x.c w _ fun B B1 => ?_
 rw [F75.q3]
 refine W_for (σ := Nat) (fun i => [(0, x.v), (4, .int .u64 (i : Int))]) (fun i wr => X % BB ^ i = 0 ∧ i < x.l ∧ wr = w) (fun i => x.l - i) 0 ⟨rfl, rfl, trivial⟩ ⟨by simp [Nat.mod_one], by omega, rfl⟩ ?_
 rintro i B wr ⟨hq, hi, he⟩
 have he := he.symm
 subst he
 have hd := dg_lt' X i
 refine F75.t2 x.a x.l x.c i ⟨rfl, rfl, trivial⟩ fun B2 => rdC (k := i) (hx.at_ (by omega)) rfl hi (hx.sg i hi) (bc_intro (fun hb B3 => ?_) (fun hb B3 => ?_))
 ·have hd0 : dg X i = 0 := by have := eqE hb; omega
  have hq1 : X % BB ^ (i + 1) = 0 := by rw [mod_succ, hq, hd0]; simp
  have hi1 : i + 1 < x.l := by
   rcases Nat.lt_or_ge (i + 1) x.l with h | h
   ·exact h
   ·exfalso; have : i + 1 = x.l := by omega
    rw [this, Nat.mod_eq_of_lt hx.lt] at hq1; exact hX hq1
  refine ⟨i + 1, ⟨rfl, intv ?_, trivial⟩, rfl, ⟨hq1, hi1, rfl⟩, by show x.l - (i + 1) < x.l - i; omega⟩
  rw [show ((i : Int) + 1) = ((i + 1 : Nat) : Int) by omega, wrapN _ (by omega)]
 ·have hd0 : dg X i ≠ 0 := by have := eqN hb; omega
  obtain ⟨t, q, e⟩ := odd_split _ hd0
  obtain ⟨u, hu⟩ := low_word (n := 0) hq e (dg_lt X i)
  have ht64 : t < 64 := by
   rcases Nat.lt_or_ge t 64 with h1 | h1
   ·exact h1
   ·have := Nat.pow_le_pow_right (show 0 < 2 by omega) h1
    have : 2 ^ t * 1 ≤ 2 ^ t * (2 * q + 1) := Nat.mul_le_mul_left _ (by omega)
    omega
  have cd : Chg w w.drew none2 := Chg.drew0 w _
  have hxd := cd.nz_none hx
  refine F75.t1 x.a x.l x.c i ⟨rfl, rfl, trivial⟩ fun B4 => bc_intro (fun hb => ?_) (fun hb B5 => ret2 rfl rfl rfl ⟨0, false, rfl, fun h => by simp at h, fun _ => ⟨_, u, hu, ?_⟩, rfl⟩)
  ·have hil : x.l = i + 1 := by
    have := eqE hb
    rw [wrapN _ (by omega), show ((x.l : Int) - 1) = ((x.l - 1 : Nat) : Int) by omega, wrapN _ (by omega)] at this
    omega
   have hXt : X = BB ^ i * dg X i := by
    have h1 := split_at X i
    rw [hq, Nat.div_eq_of_lt (by rw [← hil]; exact hx.lt)] at h1
    omega
   refine rdC (k := i) (hx.at_ (by omega)) rfl hi (hxd.sg i hi) (rdC (k := i) (hx.at_ (by omega)) rfl hi (hxd.sg i hi) ?_)
   have ea : iAnd .u64 (dg X i : Int) (IntKind.wrap .u64 ((dg X i : Int) - 1)) = ((dg X i &&& (dg X i - 1) : Nat) : Int) := by
    rw [show ((dg X i : Int) - 1) = ((dg X i - 1 : Nat) : Int) by omega, wrapN _ (by omega), iAndN _ _ hd (by omega)]
   rw [ea]
   refine bc_intro (fun hz => ?_) (fun hz B5 => ret2 rfl rfl rfl ⟨0, false, rfl, fun h => by simp at h, fun _ => ⟨_, u, hu, ?_⟩, rfl⟩)
   ·have hz0 : dg X i &&& (dg X i - 1) = 0 := by have := eqE hz; omega
    rw [e] at hz0
    have hq0 := (and_pred t q).1 hz0
    refine rdC (k := i) (hx.at_ (by omega)) rfl hi (hxd.sg i hi) ((c55 _ w.drew hd (cd.tabs ht) t q e).mono ?_)
    rintro e' w' ⟨h1, h2⟩
    refine ⟨_, h1, fun B5 => ret2 rfl (intv ?_) rfl ⟨i * 64 + t, true, rfl, fun _ => ⟨?_, by omega⟩, fun h => by simp at h, h2⟩⟩
    ·rw [show ((i : Int) * 64) = ((i * 64 : Nat) : Int) by omega, wrapN _ (by omega), wrapN t (by omega), addN, wrapN _ (by omega)]
    ·rw [hXt, e, hq0, BB2, Nat.pow_add, Nat.mul_comm i 64]; simp
   ·rintro rfl
    have hz0 : dg X i &&& (dg X i - 1) ≠ 0 := by have := eqN hz; omega
    apply hz0
    have : 2 ^ (i * 64) * dg X i = 2 ^ (i * 64) * 2 ^ t := by
     rw [← Nat.pow_add]
     have : X = 2 ^ (i * 64) * dg X i := by rw [Nat.mul_comm i 64, ← BB2]; exact hXt
     rw [← this, hu]; simp
    have h2 : dg X i = 2 ^ t := Nat.eq_of_mul_eq_mul_left (Nat.two_pow_pos _) this
    rw [h2]
    simp
  ·rintro rfl
   have hne : x.l ≠ i + 1 := by
    have := eqN hb
    rw [wrapN _ (by omega), show ((x.l : Int) - 1) = ((x.l - 1 : Nat) : Int) by omega, wrapN _ (by omega)] at this
    omega
   have h1 := hx.nm.le h0
   have h2 : X < BB ^ (i + 1) := by
    rw [hu, BB2, show 2 * 0 + 1 = 1 from rfl, Nat.mul_one]; exact Nat.pow_lt_pow_right (by omega) (by omega)
   have h3 : BB ^ (i + 1) ≤ BB ^ (x.l - 1) := Nat.pow_le_pow_right BB_pos (by omega)
   omega
end Go.Proofs.YtlkjiiibmfpbcaaGreatDoor
