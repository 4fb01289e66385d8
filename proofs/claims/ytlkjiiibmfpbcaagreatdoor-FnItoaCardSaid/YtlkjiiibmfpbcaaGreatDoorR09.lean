/- Contracts: sums, differences and products of words one behind the other. Conditions: the slices are of one length; what is read does not begin below what is written. -/
import Derived.Test.YtlkjiiibmfpbcaaGreatDoorR08
import Derived.Test.YtlkjiiibmfpbcaaGreatDoorR06
namespace Go.Proofs.YtlkjiiibmfpbcaaGreatDoor
open Go
def VecR (w : World) (z : Sl) (T : Nat → Nat → Prop) (v : Value) (w' : World) : Prop :=
 ∃ c Z : Nat, v = .int .u64 (c : Int) ∧ T c Z ∧ Z < BB ^ z.l ∧ Sg w' z.b z.o z.l Z ∧ Chg w w' (inR z.b z.o (z.o + z.l))
abbrev Vec (w : World) (z : Sl) (T : Nat → Nat → Prop) (e : Ending) (w' : World) : Prop := ∃ v, e = .returned v ∧ VecR w z T v w'
theorem Vec.pass {f : FuncId} {args : Array Value} {w : World} {z : Sl} {T : Nat → Nat → Prop} {Q : Ending → World → Prop} (h : Calls Tryz.prog f args w (Vec w z T)) (q : ∀ c Z w', T c Z → Z < BB ^ z.l → Sg w' z.b z.o z.l Z → Chg w w' (inR z.b z.o (z.o + z.l)) → Q (.returned (.int .u64 (c : Nat))) w') :
  Calls Tryz.prog f args w Q := h.mono fun e w' ⟨v, h1, c, Z, h2, h3, h4, h5, h6⟩ => by subst h1; subst h2; exact q c Z w' h3 h4 h5 h6
theorem c162 (z x y : Sl) (X Y : Nat) (w : World) (hz : Wt w z) (hx : Rd w x X) (hy : Rd w y Y) (lx : x.l = z.l) (ly : y.l = z.l) (ox : Ov z x) (oy : Ov z y) :
  Calls Tryz.prog 162 #[z.v, x.v, y.v] w (Vec w z fun c Z => Z + BB ^ z.l * c = X + Y ∧ c ≤ 1) := by
 have lm := hz.lm
 refine F162.call z.a z.l z.c x.a x.l x.c y.a y.l y.c w _
  fun B => bc_false (neF (by omega)) (bc_false (neF (by omega)) fun B1 => F162.t1 _ _ _ _ _ _ _ _ _ _ ⟨rfl, rfl, rfl, rfl, trivial⟩ fun B2 B3 => ?_)
 rw [F162.q4]
 refine W_for (σ := Nat × Nat × Nat)
  (fun s => [(0, z.v), (1, x.v), (2, y.v), (6, .int .u64 (s.2.1 : Int)), (24, .int .i64 (z.l : Int)), (25, .int .i64 (s.1 : Int))])
  (fun s wr => s.1 ≤ z.l ∧ s.2.1 ≤ 1 ∧ s.2.2 < BB ^ s.1 ∧ s.2.2 + BB ^ s.1 * s.2.1 = X % BB ^ s.1 + Y % BB ^ s.1 ∧ Sg wr z.b z.o s.1 s.2.2 ∧ Chg w wr (inR z.b z.o (z.o + s.1)))
  (fun s => z.l - s.1) (0, 0, 0) ⟨rfl, rfl, rfl, rfl, rfl, rfl, trivial⟩
  ⟨Nat.zero_le _, Nat.zero_le _, by simp, by simp [Nat.mod_one], Sg.zero, Chg.refl _ _⟩ ?_
 rintro ⟨k, c, Z⟩ B wr ⟨hk, hc, hZ, hS, hsg, hch⟩
 simp only at hk hc hZ hS hsg hch
 refine F162.t3 z.a z.l z.c x.a x.l x.c y.a y.l y.c c z.l k ⟨rfl, rfl, rfl, rfl, rfl, rfl, trivial⟩ fun B1 => bc_intro (fun hb => ?_) (fun hb B2 => ?_)
 ·have hlt : k < z.l := by have := dT hb; omega
  refine rdC (hx.at_ (by omega)) rfl (by omega) (chgAt hch.drew hx (by omega) (ox.not (Nat.le_refl k) (by omega))) ?_
  refine rdC (hy.at_ (by omega)) rfl (by omega) (chgAt hch.drew hy (by omega) (oy.not (Nat.le_refl k) (by omega))) ?_
  refine (c163 (dg X k) (dg Y k) c hc wr.drew).mono ?_
  rintro e w1 ⟨rfl, rfl⟩
  refine ⟨_, trivial, _, trivial, rfl, wtC (hch.drew.wt hz) rfl hlt ⟨by unfold inI64; omega, fun B3 => ?_⟩⟩
  have hp := hch.own (hz.pl (by omega))
  have hu := (hch.wr hz.wr k hlt).1
  have dx := dg_lt' X k
  have dy := dg_lt' Y k
  refine ⟨(k + 1, (dg X k + dg Y k + c) / 18446744073709551616, Z + BB ^ k * ((dg X k + dg Y k + c) % 18446744073709551616)), ⟨rfl, rfl, rfl, rfl, rfl, rfl, trivial⟩, rfl, ⟨hlt, ?_, dlt hZ (Nat.mod_lt _ (by omega)), ?_, hsg.step hZ (Nat.mod_lt _ (by omega)) rfl hp hu, hch.step rfl hp⟩, ?_⟩
  ·show (dg X k + dg Y k + c) / 18446744073709551616 ≤ 1
   omega
  ·show Z + BB ^ k * ((dg X k + dg Y k + c) % 18446744073709551616) + BB ^ (k + 1) * ((dg X k + dg Y k + c) / 18446744073709551616) = X % BB ^ (k + 1) + Y % BB ^ (k + 1)
   rw [mod_succ, mod_succ]
   have h6 := dsum (BB ^ k) (dg X k + dg Y k + c)
   rw [← BBpow_succ, Nat.mul_add, Nat.mul_add] at h6
   omega
  ·show z.l - (k + 1) < z.l - k
   omega
 ·have hk' : k = z.l := by have := dF hb; omega
  subst hk'
  refine F162.t2 _ ⟨rfl, trivial⟩ fun B3 B4 => ret1 rfl rfl ⟨c, Z, rfl, ⟨?_, hc⟩, hZ, hsg, hch⟩
  rw [hS, Nat.mod_eq_of_lt (by rw [← lx]; exact hx.lt), Nat.mod_eq_of_lt (by rw [← ly]; exact hy.lt)]
theorem c138 (z x y : Sl) (X Y : Nat) (w : World) (hz : Wt w z) (hx : Rd w x X) (hy : Rd w y Y) (lx : x.l = z.l) (ly : y.l = z.l) (ox : Ov z x) (oy : Ov z y) :
  Calls Tryz.prog 138 #[z.v, x.v, y.v] w (Vec w z fun c Z => Z + BB ^ z.l * c = X + Y ∧ c ≤ 1) :=
 F138.call z.a z.l z.c x.a x.l x.c y.a y.l y.c w _ fun B => Vec.pass (c162 z x y X Y w hz hx hy lx ly ox oy) fun c Z w' a1 a2 a3 a4 => ⟨_, rfl, fun B => ret1 rfl rfl ⟨c, Z, rfl, a1, a2, a3, a4⟩⟩
theorem c121 (z x y : Sl) (X Y : Nat) (w : World) (hz : Wt w z) (hx : Rd w x X) (hy : Rd w y Y) (lx : x.l = z.l) (ly : y.l = z.l) (ox : Ov z x) (oy : Ov z y) :
  Calls Tryz.prog 121 #[z.v, x.v, y.v] w (Vec w z fun c Z => Z + Y = X + BB ^ z.l * c ∧ c ≤ 1) := by
 have lm := hz.lm
 refine F121.call z.a z.l z.c x.a x.l x.c y.a y.l y.c w _
  fun B => bc_false (neF (by omega)) (bc_false (neF (by omega)) fun B1 => F121.t1 _ _ _ _ _ _ _ _ _ _ ⟨rfl, rfl, rfl, rfl, trivial⟩ fun B2 B3 => ?_)
 rw [F121.q4]
 refine W_for (σ := Nat × Nat × Nat)
  (fun s => [(0, z.v), (1, x.v), (2, y.v), (6, .int .u64 (s.2.1 : Int)), (24, .int .i64 (z.l : Int)), (25, .int .i64 (s.1 : Int))])
  (fun s wr => s.1 ≤ z.l ∧ s.2.1 ≤ 1 ∧ s.2.2 < BB ^ s.1 ∧ s.2.2 + Y % BB ^ s.1 = X % BB ^ s.1 + BB ^ s.1 * s.2.1 ∧ Sg wr z.b z.o s.1 s.2.2 ∧ Chg w wr (inR z.b z.o (z.o + s.1)))
  (fun s => z.l - s.1) (0, 0, 0) ⟨rfl, rfl, rfl, rfl, rfl, rfl, trivial⟩
  ⟨Nat.zero_le _, Nat.zero_le _, by simp, by simp [Nat.mod_one], Sg.zero, Chg.refl _ _⟩ ?_
 rintro ⟨k, c, Z⟩ B wr ⟨hk, hc, hZ, hS, hsg, hch⟩
 simp only at hk hc hZ hS hsg hch
 refine F121.t3 z.a z.l z.c x.a x.l x.c y.a y.l y.c c z.l k ⟨rfl, rfl, rfl, rfl, rfl, rfl, trivial⟩ fun B1 => bc_intro (fun hb => ?_) (fun hb B2 => ?_)
 ·have hlt : k < z.l := by have := dT hb; omega
  have dx := dg_lt' X k
  have dy := dg_lt' Y k
  refine rdC (hx.at_ (by omega)) rfl (by omega) (chgAt hch.drew hx (by omega) (ox.not (Nat.le_refl k) (by omega))) ?_
  refine rdC (hy.at_ (by omega)) rfl (by omega) (chgAt hch.drew hy (by omega) (oy.not (Nat.le_refl k) (by omega))) ?_
  refine (c122 (dg X k) (dg Y k) c hc dy wr.drew).mono ?_
  rintro e w1 ⟨rfl, rfl⟩
  refine ⟨_, trivial, _, trivial, rfl, wtC (hch.drew.wt hz) rfl hlt ⟨by unfold inI64; omega, fun B3 => ?_⟩⟩
  have hp := hch.own (hz.pl (by omega))
  have hu := (hch.wr hz.wr k hlt).1
  have hD : (dg X k + 18446744073709551616 - (dg Y k + c)) % 18446744073709551616 + (dg Y k + c) = dg X k + 18446744073709551616 * (if dg X k < dg Y k + c then 1 else 0) := by split <;> omega
  have hC : (if dg X k < dg Y k + c then 1 else 0) ≤ 1 := by split <;> omega
  generalize hd : (dg X k + 18446744073709551616 - (dg Y k + c)) % 18446744073709551616 = d at hD
  generalize (if dg X k < dg Y k + c then 1 else 0) = c' at hD hC
  have hdl : d < 18446744073709551616 := by omega
  refine ⟨(k + 1, c', Z + BB ^ k * d), ⟨rfl, rfl, rfl, rfl, rfl, rfl, trivial⟩, rfl, ⟨hlt, hC, dlt hZ hdl, ?_, hsg.step hZ hdl rfl hp hu, hch.step rfl hp⟩, ?_⟩
  ·show Z + BB ^ k * d + Y % BB ^ (k + 1) = X % BB ^ (k + 1) + BB ^ (k + 1) * c'
   rw [mod_succ, mod_succ, BBpow_succ, Nat.mul_assoc]
   have h6 : BB ^ k * (d + (dg Y k + c)) = BB ^ k * (dg X k + BB * c') := congrArg _ hD
   rw [Nat.mul_add, Nat.mul_add, Nat.mul_add] at h6
   omega
  ·show z.l - (k + 1) < z.l - k
   omega
 ·have hk' : k = z.l := by have := dF hb; omega
  subst hk'
  refine F121.t2 _ ⟨rfl, trivial⟩ fun B3 B4 => ret1 rfl rfl ⟨c, Z, rfl, ⟨?_, hc⟩, hZ, hsg, hch⟩
  rw [Nat.mod_eq_of_lt (by rw [← ly]; exact hy.lt), Nat.mod_eq_of_lt (by rw [← lx]; exact hx.lt)] at hS
  exact hS
theorem c82 (z x y : Sl) (X Y : Nat) (w : World) (hz : Wt w z) (hx : Rd w x X) (hy : Rd w y Y) (lx : x.l = z.l) (ly : y.l = z.l) (ox : Ov z x) (oy : Ov z y) :
  Calls Tryz.prog 82 #[z.v, x.v, y.v] w (Vec w z fun c Z => Z + Y = X + BB ^ z.l * c ∧ c ≤ 1) :=
 F82.call z.a z.l z.c x.a x.l x.c y.a y.l y.c w _ fun B => Vec.pass (c121 z x y X Y w hz hx hy lx ly ox oy) fun c Z w' a1 a2 a3 a4 => ⟨_, rfl, fun B => ret1 rfl rfl ⟨c, Z, rfl, a1, a2, a3, a4⟩⟩
theorem c127 (z x : Sl) (X m r : Nat) (w : World) (hz : Wt w z) (hx : Rd w x X) (lx : x.l = z.l) (ox : Ov z x) (hm : m < 18446744073709551616) (hr : r < 18446744073709551616) :
  Calls Tryz.prog 127 #[z.v, x.v, .int .u64 (m : Int), .int .u64 (r : Int)] w (Vec w z fun c Z => Z + BB ^ z.l * c = X * m + r ∧ c < 18446744073709551616) := by
 have lm := hz.lm
 refine F127.call z.a z.l z.c x.a x.l x.c m r w _
  fun B => bc_false (neF (by omega)) fun B1 => F127.t1 _ _ _ _ _ _ _ _ ⟨rfl, rfl, rfl, rfl, trivial⟩ fun B2 B3 => ?_
 rw [F127.q4]
 refine W_for (σ := Nat × Nat × Nat)
  (fun s => [(0, z.v), (1, x.v), (2, .int .u64 (m : Int)), (8, .int .u64 (s.2.1 : Int)), (18, .int .i64 (z.l : Int)), (19, .int .i64 (s.1 : Int))])
  (fun s wr => s.1 ≤ z.l ∧ s.2.1 < 18446744073709551616 ∧ s.2.2 < BB ^ s.1 ∧ s.2.2 + BB ^ s.1 * s.2.1 = X % BB ^ s.1 * m + r ∧ Sg wr z.b z.o s.1 s.2.2 ∧ Chg w wr (inR z.b z.o (z.o + s.1)))
  (fun s => z.l - s.1) (0, r, 0) ⟨rfl, rfl, rfl, rfl, rfl, rfl, trivial⟩
  ⟨Nat.zero_le _, hr, by simp, by simp [Nat.mod_one], Sg.zero, Chg.refl _ _⟩ ?_
 rintro ⟨k, c, Z⟩ B wr ⟨hk, hc, hZ, hS, hsg, hch⟩
 simp only at hk hc hZ hS hsg hch
 refine F127.t3 z.a z.l z.c x.a x.l x.c m c z.l k ⟨rfl, rfl, rfl, rfl, rfl, rfl, trivial⟩ fun B1 => bc_intro (fun hb => ?_) (fun hb B2 => ?_)
 ·have hlt : k < z.l := by have := dT hb; omega
  have dx := dg_lt' X k
  refine rdC (hx.at_ (by omega)) rfl (by omega) (chgAt hch hx (by omega) (ox.not (Nat.le_refl k) (by omega))) ?_
  refine (c158 (dg X k) m c dx hm hc wr).mono ?_
  rintro e w1 ⟨rfl, rfl⟩
  refine ⟨_, trivial, _, trivial, rfl, wtC (hch.wt hz) rfl hlt ⟨by unfold inI64; omega, fun B3 => ?_⟩⟩
  have hp := hch.own (hz.pl (by omega))
  have hu := (hch.wr hz.wr k hlt).1
  have hsq := mul_lt_sq _ _ dx hm
  refine ⟨(k + 1, (dg X k * m + c) / 18446744073709551616, Z + BB ^ k * ((dg X k * m + c) % 18446744073709551616)), ⟨rfl, rfl, rfl, rfl, rfl, rfl, trivial⟩, rfl, ⟨hlt, ?_, dlt hZ (Nat.mod_lt _ (by omega)), ?_, hsg.step hZ (Nat.mod_lt _ (by omega)) rfl hp hu, hch.step rfl hp⟩, ?_⟩
  ·show (dg X k * m + c) / 18446744073709551616 < 18446744073709551616
   omega
  ·show Z + BB ^ k * ((dg X k * m + c) % 18446744073709551616) + BB ^ (k + 1) * ((dg X k * m + c) / 18446744073709551616) = X % BB ^ (k + 1) * m + r
   rw [mod_succ, Nat.add_mul, Nat.mul_assoc]
   have h6 := dsum (BB ^ k) (dg X k * m + c)
   rw [← BBpow_succ, Nat.mul_add] at h6
   omega
  ·show z.l - (k + 1) < z.l - k
   omega
 ·have hk' : k = z.l := by have := dF hb; omega
  subst hk'
  refine F127.t2 _ ⟨rfl, trivial⟩ fun B3 B4 => ret1 rfl rfl ⟨c, Z, rfl, ⟨?_, hc⟩, hZ, hsg, hch⟩
  rw [hS, Nat.mod_eq_of_lt (by rw [← lx]; exact hx.lt)]
theorem c91 (z x : Sl) (X m r : Nat) (w : World) (hz : Wt w z) (hx : Rd w x X) (lx : x.l = z.l) (ox : Ov z x) (hm : m < 18446744073709551616) (hr : r < 18446744073709551616) :
  Calls Tryz.prog 91 #[z.v, x.v, .int .u64 (m : Int), .int .u64 (r : Int)] w (Vec w z fun c Z => Z + BB ^ z.l * c = X * m + r ∧ c < 18446744073709551616) :=
 F91.call z.a z.l z.c x.a x.l x.c m r w _ fun B => Vec.pass (c127 z x X m r w hz hx lx ox hm hr) fun c Z w' a1 a2 a3 a4 => ⟨_, rfl, fun B => ret1 rfl rfl ⟨c, Z, rfl, a1, a2, a3, a4⟩⟩
theorem c166 (z x y : Sl) (X Y m r : Nat) (w : World) (hz : Wt w z) (hx : Rd w x X) (hy : Rd w y Y) (lx : x.l = z.l) (ly : y.l = z.l) (ox : Ov z x) (oy : Ov z y) (hm : m < 18446744073709551616) (hr : r < 18446744073709551616) :
  Calls Tryz.prog 166 #[z.v, x.v, y.v, .int .u64 (m : Int), .int .u64 (r : Int)] w (Vec w z fun c Z => Z + BB ^ z.l * c = X + Y * m + r ∧ c < 18446744073709551616) := by
 have lm := hz.lm
 refine F166.call z.a z.l z.c x.a x.l x.c y.a y.l y.c m r w _
  fun B => bc_false (neF (by omega)) (bc_false (neF (by omega)) fun B1 => F166.t1 _ _ _ _ _ _ _ _ _ _ _ ⟨rfl, rfl, rfl, rfl, rfl, trivial⟩ fun B2 B3 => ?_)
 rw [F166.q4]
 refine W_for (σ := Nat × Nat × Nat)
  (fun s => [(0, z.v), (1, x.v), (2, y.v), (3, .int .u64 (m : Int)), (10, .int .u64 (s.2.1 : Int)), (31, .int .i64 (z.l : Int)), (32, .int .i64 (s.1 : Int))])
  (fun s wr => s.1 ≤ z.l ∧ s.2.1 < 18446744073709551616 ∧ s.2.2 < BB ^ s.1 ∧ s.2.2 + BB ^ s.1 * s.2.1 = X % BB ^ s.1 + Y % BB ^ s.1 * m + r ∧ Sg wr z.b z.o s.1 s.2.2 ∧ Chg w wr (inR z.b z.o (z.o + s.1)))
  (fun s => z.l - s.1) (0, r, 0) ⟨rfl, rfl, rfl, rfl, rfl, rfl, rfl, trivial⟩
  ⟨Nat.zero_le _, hr, by simp, by simp [Nat.mod_one], Sg.zero, Chg.refl _ _⟩ ?_
 rintro ⟨k, c, Z⟩ B wr ⟨hk, hc, hZ, hS, hsg, hch⟩
 simp only at hk hc hZ hS hsg hch
 refine F166.t3 z.a z.l z.c x.a x.l x.c y.a y.l y.c m c z.l k ⟨rfl, rfl, rfl, rfl, rfl, rfl, rfl, trivial⟩ fun B1 => bc_intro (fun hb => ?_) (fun hb B2 => ?_)
 ·have hlt : k < z.l := by have := dT hb; omega
  have dx := dg_lt' X k
  have dy := dg_lt' Y k
  refine rdC (hy.at_ (by omega)) rfl (by omega) (chgAt hch.drew hy (by omega) (oy.not (Nat.le_refl k) (by omega))) ?_
  refine rdC (hx.at_ (by omega)) rfl (by omega) (chgAt hch.drew hx (by omega) (ox.not (Nat.le_refl k) (by omega))) ?_
  refine (c158 (dg Y k) m (dg X k) dy hm dx wr.drew).mono ?_
  rintro e w1 ⟨rfl, rfl⟩
  refine ⟨_, trivial, _, trivial, rfl, (c163 ((dg Y k * m + dg X k) % 18446744073709551616) c 0 (by omega) wr.drew).mono ?_⟩
  rintro e w1 ⟨rfl, rfl⟩
  refine ⟨_, trivial, _, trivial, rfl, wtC (hch.drew.wt hz) rfl hlt ⟨by unfold inI64; omega, fun B3 => ?_⟩⟩
  have hp := hch.own (hz.pl (by omega))
  have hu := (hch.wr hz.wr k hlt).1
  have hsq := mul_lt_sq _ _ dy hm
  have hA : ((dg Y k * m + dg X k) % 18446744073709551616 + c + 0) % 18446744073709551616 = (dg Y k * m + dg X k + c) % 18446744073709551616 := by omega
  have hB : IntKind.wrap .u64 ((((((dg Y k * m + dg X k) % 18446744073709551616 + c + 0) / 18446744073709551616 : Nat)) : Int) + (((dg Y k * m + dg X k) / 18446744073709551616 : Nat) : Int)) = (((dg Y k * m + dg X k + c) / 18446744073709551616 : Nat) : Int) := by
   rw [addN, wrapN _ (by omega)]; omega
  rw [hA]
  refine ⟨(k + 1, (dg Y k * m + dg X k + c) / 18446744073709551616, Z + BB ^ k * ((dg Y k * m + dg X k + c) % 18446744073709551616)), ⟨rfl, rfl, rfl, rfl, intv hB, rfl, rfl, trivial⟩, rfl, ⟨hlt, ?_, dlt hZ (Nat.mod_lt _ (by omega)), ?_, hsg.step hZ (Nat.mod_lt _ (by omega)) rfl hp hu, hch.step rfl hp⟩, ?_⟩
  ·show (dg Y k * m + dg X k + c) / 18446744073709551616 < 18446744073709551616
   omega
  ·show Z + BB ^ k * ((dg Y k * m + dg X k + c) % 18446744073709551616) + BB ^ (k + 1) * ((dg Y k * m + dg X k + c) / 18446744073709551616) = X % BB ^ (k + 1) + Y % BB ^ (k + 1) * m + r
   rw [mod_succ, mod_succ, Nat.add_mul, Nat.mul_assoc]
   have h6 := dsum (BB ^ k) (dg Y k * m + dg X k + c)
   rw [← BBpow_succ, Nat.mul_add, Nat.mul_add] at h6
   omega
  ·show z.l - (k + 1) < z.l - k
   omega
 ·have hk' : k = z.l := by have := dF hb; omega
  subst hk'
  refine F166.t2 _ ⟨rfl, trivial⟩ fun B3 B4 => ret1 rfl rfl ⟨c, Z, rfl, ⟨?_, hc⟩, hZ, hsg, hch⟩
  rw [hS, Nat.mod_eq_of_lt (by rw [← lx]; exact hx.lt), Nat.mod_eq_of_lt (by rw [← ly]; exact hy.lt)]
theorem c146 (z x y : Sl) (X Y m r : Nat) (w : World) (hz : Wt w z) (hx : Rd w x X) (hy : Rd w y Y) (lx : x.l = z.l) (ly : y.l = z.l) (ox : Ov z x) (oy : Ov z y) (hm : m < 18446744073709551616) (hr : r < 18446744073709551616) :
  Calls Tryz.prog 146 #[z.v, x.v, y.v, .int .u64 (m : Int), .int .u64 (r : Int)] w (Vec w z fun c Z => Z + BB ^ z.l * c = X + Y * m + r ∧ c < 18446744073709551616) :=
 F146.call z.a z.l z.c x.a x.l x.c y.a y.l y.c m r w _ fun B => Vec.pass (c166 z x y X Y m r w hz hx hy lx ly ox oy hm hr) fun c Z w' a1 a2 a3 a4 => ⟨_, rfl, fun B => ret1 rfl rfl ⟨c, Z, rfl, a1, a2, a3, a4⟩⟩
end Go.Proofs.YtlkjiiibmfpbcaaGreatDoor
