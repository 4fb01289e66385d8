/- Contracts: shifts of numbers. Conditions: normal form; lengths up to 2^40, counts up to 2^40; what is read lies apart from the storage, or begins where it begins. -/
import Derived.Lib.SliceRun
import Derived.Great.BuildSlice
import Derived.Test.YtlkjiiibmfpbcaaGreatDoorR12
namespace Go.Proofs.YtlkjiiibmfpbcaaGreatDoor
open Go
theorem clearW (t : TypeId) (ht : Tryz.prog.underlying t = some (.slice 61)) (z : Sl) (w : World) (hz : Wt w z) :
  ∃ w', Sem.run Tryz.prog (builtin .clear #[t] 0 #[false] #[z.v]) w = .ok (.value undef) w' ∧ Sg w' z.b z.o z.l 0 ∧ Chg w w' (inR z.b z.o (z.o + z.l)) := by
 by_cases h0 : z.l = 0
 ·refine ⟨w, ?_, by rw [h0]; exact Sg.zero, Chg.refl _ _⟩
  rw [BigFrame.builtin_clear]
  cases ha : z.a <;> simp [Sl.v, ha, h0, Builtin.clear_, run_underlying ht, undef]
 ·have := Lib.run_clear_slice (P := Tryz.prog) w t 61 0 (.int .u64 0) ht (fun w => Tryz.zeroValue61 w) rfl rfl z.b z.o z.l z.c (by omega) (fun j hj => by obtain ⟨u, hu⟩ := (hz.wr j hj).1; exact Option.isSome_iff_exists.2 ⟨u, hu⟩) (fun j hj => (hz.wr j hj).2)
  refine ⟨_, ?_, ?_, Chg.setCells _ (List.replicate z.l (.int .u64 0)) z.o w (hz.pl h0) fun j hj => by rw [List.length_replicate] at hj; exact ⟨rfl, by omega, by omega⟩⟩
  ·rw [BigFrame.builtin_clear]
   simp only [Sem.run_bind, Sl.v, hz.at_ h0, this]
   rfl
  ·intro i hi
   have := World.cell?_setCells_in z.b (List.replicate z.l (.int .u64 0)) z.o w (fun j hj => by rw [List.length_replicate] at hj; obtain ⟨u, hu⟩ := (hz.wr j hj).1; exact Option.isSome_iff_exists.2 ⟨u, hu⟩) i (by rw [List.length_replicate]; exact hi)
   rw [this, dg_zero]; simp
theorem Nt.same {w : World} {z x : Sl} {X : Nat} (hz : St w z) (hx : Nz w x X) (h : z.l = x.l ∧ z.l ≠ 0 ∧ z.b = x.b ∧ z.o = x.o) : Nz w (z.to z.l) X := by
 refine ⟨⟨hz.to_st z.l hz.lc, ?_, ?_⟩, hx.nm.of_len h.1⟩
 ·show Sg w z.b z.o z.l X
  rw [h.1, h.2.2.1, h.2.2.2]; exact hx.sg
 ·show X < BB ^ z.l
  rw [h.1]; exact hx.lt
theorem St.pc {w : World} {s : Sl} (h : St w s) : (s.c ≠ 0 → s.a = some ⟨s.b, s.o, none⟩ ∧ plainAt w s.b) := fun h0 => ⟨h.at_ h0, (h.pl h0).2⟩
end Go.Proofs.YtlkjiiibmfpbcaaGreatDoor
namespace Go.Proofs.YtlkjiiibmfpbcaaGreatDoor
open Go
end Go.Proofs.YtlkjiiibmfpbcaaGreatDoor
namespace Go.Proofs.YtlkjiiibmfpbcaaGreatDoor
open Go
theorem info61z : (Tryz.prog.info? 61).map (fun i => (i.size, i.zero)) = some (1, some (.int .u64 0)) := by kernel_rfl
theorem blen_or (x y : Nat) (h : blen y ≤ blen x) : blen (x ||| y) = blen x := by
 refine blen_eq (Nat.or_lt_two_pow (blen_lt x) (Nat.lt_of_lt_of_le (blen_lt y) (Nat.pow_le_pow_right (by omega) h))) (fun h0 => ?_) (fun h0 => ?_)
 ·have hx : x ≠ 0 := by
   rintro rfl
   rw [blen_zero] at h
   have : y = 0 := by have := blen_lt y; rw [show blen y = 0 by omega] at this; simpa using this
   subst this
   exact h0 (by simp)
  exact Nat.le_trans (blen_le x hx) Nat.left_le_or
 ·have : x = 0 := by have := @Nat.left_le_or x y; omega
  rw [this, blen_zero]
theorem blen_mono {x y : Nat} (h : x ≤ y) : blen x ≤ blen y := blen_le_of_lt (Nat.lt_of_le_of_lt h (blen_lt y))
theorem smear (x n : Nat) (hn : n ≤ 64) (hx : x < 18446744073709551616) : ∃ y, iOr .u64 (x : Int) (iShr .u64 (x : Int) (n : Int)) = ((y : Nat) : Int) ∧ y < 18446744073709551616 ∧ blen y = blen x := by
 have h1 : x / 2 ^ n < 18446744073709551616 := Nat.lt_of_le_of_lt (Nat.div_le_self _ _) hx
 refine ⟨x ||| x / 2 ^ n, ?_, Nat.or_lt_two_pow (n := 64) hx h1, blen_or _ _ (blen_mono (Nat.div_le_self _ _))⟩
 rw [shr64 _ _ hn, iOrN _ _ hx h1]
theorem blen_top {X n : Nat} (h : BB ^ n ≤ X) : blen X = n * 64 + blen (X / BB ^ n) := by
 rw [BB2] at h ⊢
 rw [blen_shift X (64 * n) h]; omega
theorem blen_le64 (x : Nat) (h : x < 18446744073709551616) : blen x ≤ 64 := blen_le_of_lt (n := 64) h
theorem dg_top {X n : Nat} (h : X < BB ^ (n + 1)) : dg X n = X / BB ^ n := Nat.mod_eq_of_lt (by rw [Nat.div_lt_iff_lt_mul (BBpow_pos n), Nat.mul_comm, ← BBpow_succ]; exact h)
theorem c53 (x : Sl) (X : Nat) (w : World) (hx : Nz w x X) (hl : Len x) : Calls Tryz.prog 53 #[x.v] w fun e w' => ∃ v, e = .returned v ∧ v = .int .i64 (blen X : Int) ∧ w' = w := by
 unfold Len at hl
 refine F53.call x.a x.l x.c w _ fun B => ⟨by unfold inI64; omega, bc_intro (fun hb => ?_) (fun hb B1 => ?_)⟩
 ·obtain ⟨n, hn⟩ : ∃ n, x.l = n + 1 := ⟨x.l - 1, by have := dT hb; omega⟩
  have hd := dg_lt' X n
  have hX : X < BB ^ (n + 1) := by rw [← hn]; exact hx.lt
  refine rdC (k := n) (hx.at_ (by have := hx.lc; omega)) (by omega) (by omega) (hx.sg n (by omega)) ⟨by omega, by omega, by omega, by omega, by omega, by omega, by omega, by unfold inI64; omega, ?_⟩
  obtain ⟨y1, e1, h1, b1⟩ := smear (dg X n) 1 (by omega) hd
  obtain ⟨y2, e2, h2, b2⟩ := smear y1 2 (by omega) h1
  obtain ⟨y3, e3, h3, b3⟩ := smear y2 4 (by omega) h2
  obtain ⟨y4, e4, h4, b4⟩ := smear y3 8 (by omega) h3
  obtain ⟨y5, e5, h5, b5⟩ := smear y4 16 (by omega) h4
  have e6 : iOr .u64 (y5 : Int) (iShr .u64 (iShr .u64 (y5 : Int) ((16 : Nat) : Int)) ((16 : Nat) : Int)) = ((y5 ||| y5 / 2 ^ 16 / 2 ^ 16 : Nat) : Int) := by
   rw [shr64 _ _ (by omega), shr64 _ _ (by omega), iOrN _ _ h5 (Nat.lt_of_le_of_lt (Nat.le_trans (Nat.div_le_self _ _) (Nat.div_le_self _ _)) h5)]
  have b6 : blen (y5 ||| y5 / 2 ^ 16 / 2 ^ 16) = blen y5 := blen_or _ _ (blen_mono (Nat.le_trans (Nat.div_le_self _ _) (Nat.div_le_self _ _)))
  have h6 : (y5 ||| y5 / 2 ^ 16 / 2 ^ 16) < 18446744073709551616 := Nat.or_lt_two_pow (n := 64) h5 (Nat.lt_of_le_of_lt (Nat.le_trans (Nat.div_le_self _ _) (Nat.div_le_self _ _)) h5)
  have e1 : iOr .u64 (dg X n : Int) (iShr .u64 (dg X n : Int) 1) = (y1 : Int) := e1
  have e2 : iOr .u64 (y1 : Int) (iShr .u64 (y1 : Int) 2) = (y2 : Int) := e2
  have e3 : iOr .u64 (y2 : Int) (iShr .u64 (y2 : Int) 4) = (y3 : Int) := e3
  have e4 : iOr .u64 (y3 : Int) (iShr .u64 (y3 : Int) 8) = (y4 : Int) := e4
  have e5 : iOr .u64 (y4 : Int) (iShr .u64 (y4 : Int) 16) = (y5 : Int) := e5
  have e6 : iOr .u64 (y5 : Int) (iShr .u64 (iShr .u64 (y5 : Int) 16) 16) = ((y5 ||| y5 / 2 ^ 16 / 2 ^ 16 : Nat) : Int) := e6
  rw [e1, e2, e3, e4, e5, e6]
  refine (c84 _ h6 w).mono ?_
  rintro e w' ⟨rfl, rfl⟩
  have hb6 : blen (y5 ||| y5 / 2 ^ 16 / 2 ^ 16) = blen (dg X n) := by rw [b6, b5, b4, b3, b2, b1]
  have hle := blen_le64 _ hd
  have hbx : blen X = n * 64 + blen (dg X n) := by
   rw [dg_top hX]; refine blen_top ?_
   have := hx.nm.le (by omega)
   rw [hn] at this; exact this
  rw [hb6]
  refine ⟨_, rfl, by unfold inI64; omega, fun B2 => ret1 rfl (intv ?_) ⟨rfl, rfl⟩⟩
  rw [hbx]; omega
 ·have : X = 0 := Nz.zero hx.toNt (by have := dF hb; omega)
  subst this
  exact ret1 rfl rfl ⟨by rw [blen_zero]; rfl, rfl⟩
end Go.Proofs.YtlkjiiibmfpbcaaGreatDoor
namespace Go.Proofs.YtlkjiiibmfpbcaaGreatDoor
open Go
def KI (y1 y0 u q r : Nat) (U : Nat) : Prop := q * y1 + r = u ∧ U / (y1 * 4294967296 + y0) ≤ q ∧ q ≤ 4294967297 ∧ r < 4294967296
theorem knuth0 {y1 y0 u u0 : Nat} (hy : 2147483648 ≤ y1) (hy1 : y1 < 4294967296) (h0 : y0 < 4294967296) (hu : u < y1 * 4294967296 + y0) (hu0 : u0 < 4294967296) : KI y1 y0 u (u / y1) (u % y1) (u * 4294967296 + u0) := by
 have hm := Nat.mod_lt u (show 0 < y1 by omega)
 refine ⟨by rw [Nat.mul_comm]; exact Nat.div_add_mod u y1, ?_, ?_, by omega⟩
 ·have h1 : (u * 4294967296 + u0) / (y1 * 4294967296 + y0) ≤ (u * 4294967296 + u0) / (y1 * 4294967296) := Nat.div_le_div_left (by omega) (by omega)
  have h2 : (u * 4294967296 + u0) / (y1 * 4294967296) = u / y1 := by
   rw [Nat.mul_comm y1, ← Nat.div_div_eq_div_mul]
   congr 1; omega
  omega
 ·have : u / y1 < 4294967298 := by
   rw [Nat.div_lt_iff_lt_mul (by omega)]; omega
  omega
theorem knuth_q {y1 y0 u u0 : Nat} (hy : 2147483648 ≤ y1) (hu : u < y1 * 4294967296 + y0) (hu0 : u0 < 4294967296) : (u * 4294967296 + u0) / (y1 * 4294967296 + y0) < 4294967296 := by
 rw [Nat.div_lt_iff_lt_mul (by omega)]
 have : (u + 1) * 4294967296 ≤ (y1 * 4294967296 + y0) * 4294967296 := Nat.mul_le_mul_right _ hu
 omega
theorem knuth_down {y1 y0 u u0 q r : Nat} (hy : 2147483648 ≤ y1) (hy1 : y1 < 4294967296) (h : KI y1 y0 u q r (u * 4294967296 + u0)) (hu : u < y1 * 4294967296 + y0) (hu0 : u0 < 4294967296)
  (hc : 4294967296 ≤ q ∨ 4294967296 * r + u0 < q * y0) : 0 < q ∧ (q - 1) * y1 + (r + y1) = u ∧ (u * 4294967296 + u0) / (y1 * 4294967296 + y0) ≤ q - 1 ∧ q - 1 ≤ 4294967296 := by
 obtain ⟨h1, h2, h3, h4⟩ := h
 have hq := knuth_q hy hu hu0
 have hlt : (u * 4294967296 + u0) / (y1 * 4294967296 + y0) < q := by
  rcases hc with hc | hc
  ·omega
  ·rw [Nat.div_lt_iff_lt_mul (by omega), Nat.mul_add, ← Nat.mul_assoc, ← h1]
   omega
 have h0 : 0 < q := Nat.lt_of_le_of_lt (Nat.zero_le _) hlt
 refine ⟨h0, ?_, by omega, by omega⟩
 obtain ⟨p, rfl⟩ : ∃ p, q = p + 1 := ⟨q - 1, by omega⟩
 rw [Nat.add_mul, Nat.one_mul] at h1
 rw [Nat.add_sub_cancel]; omega
theorem knuth_end {y1 y0 u u0 q r : Nat} (hy : 2147483648 ≤ y1) (h1 : q * y1 + r = u) (h2 : (u * 4294967296 + u0) / (y1 * 4294967296 + y0) ≤ q) (hc : q * y0 ≤ 4294967296 * r + u0) :
  q = (u * 4294967296 + u0) / (y1 * 4294967296 + y0) := by
 refine Nat.le_antisymm ?_ h2
 rw [Nat.le_div_iff_mul_le (by omega), Nat.mul_add, ← Nat.mul_assoc, ← h1, Nat.add_mul]
 omega
theorem knuth_brk {y0 q r u0 : Nat} (h0 : y0 < 4294967296) (hq : q ≤ 4294967296) (hr : 4294967296 ≤ r) : q * y0 ≤ 4294967296 * r + u0 := by
 have h1 : q * y0 ≤ 4294967296 * y0 := Nat.mul_le_mul_right _ hq
 omega
def Told2 (f : FuncId) (args : Array Value) (v : Value) : Prop := ∀ w, Calls Tryz.prog f args w fun e w' => e = .returned v ∧ Chg w w' none2
theorem told2 {f : FuncId} {args : Array Value} {w : World} {v : Value} (h : Calls Tryz.prog f args w fun x w' => ∃ u, x = .returned u ∧ (u = v ∧ Chg w w' none2)) :
  Calls Tryz.prog f args w fun e w' => e = .returned v ∧ Chg w w' none2 :=
 h.mono fun _ _ ⟨_, hx, hu, hw⟩ => ⟨by rw [hx, hu], hw⟩
theorem or_shift (a b s : Nat) (h : b < 2 ^ s) : a * 2 ^ s ||| b = a * 2 ^ s + b := by
 have := Nat.shiftLeft_add_eq_or_of_lt h a
 rw [Nat.shiftLeft_eq] at this; exact this.symm
theorem shift2 (hi lo s : Nat) (hs : s < 64) (hl : lo < 18446744073709551616) (hh : hi * 2 ^ s + lo / 2 ^ (64 - s) < 18446744073709551616) :
  iOr .u64 (iShl .u64 (hi : Int) (s : Int)) (iShr .u64 (lo : Int) ((64 - s : Nat) : Int)) = ((hi * 2 ^ s + lo / 2 ^ (64 - s) : Nat) : Int) := by
 have h1 : lo / 2 ^ (64 - s) < 2 ^ s := by
  rw [Nat.div_lt_iff_lt_mul (Nat.two_pow_pos _), ← Nat.pow_add, show s + (64 - s) = 64 by omega]; exact hl
 rw [shl64 _ _ (by omega), shr64 _ _ (by omega), iOrN _ _ (Nat.mod_lt _ (by omega)) (Nat.lt_of_le_of_lt (Nat.le_add_left _ _) hh), Nat.mod_eq_of_lt (Nat.lt_of_le_of_lt (Nat.le_add_right _ _) hh), or_shift _ _ _ h1]
theorem shift2_eq (hi lo s : Nat) (hs : s < 64) : (hi * 2 ^ s + lo / 2 ^ (64 - s)) * 18446744073709551616 + lo * 2 ^ s % 18446744073709551616 = (hi * 18446744073709551616 + lo) * 2 ^ s := by
 have e : 2 ^ (64 - s) * 2 ^ s = 18446744073709551616 := by rw [← Nat.pow_add, show 64 - s + s = 64 by omega]
 have h2 := Nat.mod_add_div lo (2 ^ (64 - s))
 have h1 : lo * 2 ^ s % (2 ^ (64 - s) * 2 ^ s) = lo % 2 ^ (64 - s) * 2 ^ s := Nat.mul_mod_mul_right ..
 rw [e] at h1
 rw [h1]
 generalize 2 ^ (64 - s) = P at *
 generalize 2 ^ s = Q at *
 have h3 : lo * Q = lo % P * Q + P * Q * (lo / P) := by
  have := congrArg (· * Q) h2
  simp only [Nat.add_mul] at this
  rw [← this, Nat.mul_right_comm]
 rw [e] at h3
 have h4 : hi * Q * 18446744073709551616 = hi * 18446744073709551616 * Q := Nat.mul_right_comm ..
 rw [Nat.add_mul, Nat.add_mul, h4, h3]
 omega
theorem scale (y : Nat) (hy : y ≠ 0) (h : y < 18446744073709551616) : y * 2 ^ (64 - blen y) < 18446744073709551616 ∧ 9223372036854775808 ≤ y * 2 ^ (64 - blen y) := by
 have hb := blen_le64 y h
 have h1 := blen_lt y
 have h2 := blen_le y hy
 have hb0 : blen y ≠ 0 := fun h0 => by rw [h0] at h1; simp at h1; omega
 constructor
 ·have := Nat.mul_lt_mul_of_pos_right h1 (Nat.two_pow_pos (64 - blen y))
  rw [← Nat.pow_add, show blen y + (64 - blen y) = 64 by omega] at this
  exact this
 ·have := Nat.mul_le_mul_right (2 ^ (64 - blen y)) h2
  rw [← Nat.pow_add, show blen y - 1 + (64 - blen y) = 63 by omega] at this
  exact this
theorem hi_fits {hi lo y s : Nat} (hs : s < 64) (hl : lo < 18446744073709551616) (hh : hi < y) : hi * 2 ^ s + lo / 2 ^ (64 - s) < y * 2 ^ s := by
 have h1 : lo / 2 ^ (64 - s) < 2 ^ s := by
  rw [Nat.div_lt_iff_lt_mul (Nat.two_pow_pos _), ← Nat.pow_add, show s + (64 - s) = 64 by omega]; exact hl
 have : (hi + 1) * 2 ^ s ≤ y * 2 ^ s := Nat.mul_le_mul_right _ hh
 rw [Nat.add_mul, Nat.one_mul] at this
 omega
end Go.Proofs.YtlkjiiibmfpbcaaGreatDoor
namespace Go.Proofs.YtlkjiiibmfpbcaaGreatDoor
open Go
theorem wSub1 (q : Nat) (h0 : 0 < q) (h : q < 18446744073709551616) : IntKind.wrap .u64 ((q : Int) - 1) = ((q - 1 : Nat) : Int) := by
 rw [show ((q : Int) - 1) = ((q - 1 : Nat) : Int) by omega, wrapN _ (by omega)]
theorem wAdd (a b : Nat) (h : a + b < 18446744073709551616) : IntKind.wrap .u64 ((a : Int) + b) = ((a + b : Nat) : Int) := by
 rw [addN, wrapN _ h]
theorem quoW (a b : Nat) (h : a < 18446744073709551616) : iQuo .u64 (a : Int) (b : Int) = ((a / b : Nat) : Int) := iQuoN a b h
theorem remq (u y : Nat) (hu : u < 18446744073709551616) : IntKind.wrap .u64 ((u : Int) - IntKind.wrap .u64 (((u / y : Nat) : Int) * (y : Int))) = ((u % y : Nat) : Int) := by
 have h1 := Nat.div_add_mod u y
 have h2 : u / y * y ≤ u := Nat.div_mul_le_self u y
 have h3 : u / y * y + u % y = u := by rw [Nat.mul_comm]; exact h1
 rw [mulN, wrapN _ (by omega), wrapE]; omega
theorem un21 (u u1 q y : Nat) (h : q = (u * 4294967296 + u1) / y) (hy : y < 18446744073709551616) (hy0 : 0 < y) :
  IntKind.wrap .u64 (IntKind.wrap .u64 (IntKind.wrap .u64 ((u : Int) * 4294967296) + (u1 : Int)) - IntKind.wrap .u64 ((q : Int) * (y : Int))) = (((u * 4294967296 + u1) % y : Nat) : Int) := by
 have h1 : q * y + (u * 4294967296 + u1) % y = u * 4294967296 + u1 := by rw [h, Nat.mul_comm]; exact Nat.div_add_mod _ _
 have h2 := Nat.mod_lt (u * 4294967296 + u1) hy0
 rw [show ((u : Int) * 4294967296) = ((u * 4294967296 : Nat) : Int) by omega, mulN, wrapM, wrapM, addN, wrapM, wrapE]
 omega
theorem c179 (hi lo y : Nat) (hh : hi < y) (hl : lo < 18446744073709551616) (hy : y < 18446744073709551616) : Told2 179 #[.int .u64 (hi : Int), .int .u64 (lo : Int), .int .u64 (y : Int)]
  (.tuple #[.int .u64 (((hi * 18446744073709551616 + lo) / y : Nat) : Int), .int .u64 (((hi * 18446744073709551616 + lo) % y : Nat) : Int)]) := by
 intro w
 refine told2 (F179.call hi lo y w _ fun B => bc_false (eqF (by omega)) fun B1 => F179.t1 hi lo y ⟨rfl, rfl, rfl, trivial⟩ fun B2 => bc_false (decF (by omega)) fun B3 => F179.t2 hi lo y ⟨rfl, rfl, rfl, trivial⟩ fun B4 => bc_intro (fun hb => ?_) (fun hb => ?_))
 ·have h0 : hi = 0 := by have := eqE hb; omega
  subst h0
  rw [Nat.zero_mul, Nat.zero_add]
  exact ⟨by omega, by omega, fun B5 => ret2 rfl (intv (quoW _ _ hl)) (intv (iRemN _ _)) ⟨rfl, Chg.drew0 w _⟩⟩
 ·obtain ⟨sc1, sc2⟩ := scale y (by omega) hy
  have hbl : blen y ≠ 0 := fun h0 => by have := blen_lt y; rw [h0] at this; simp at this; omega
  have hb64 := blen_le64 y hy
  refine (c183 y hy w).mono ?_
  rintro e w' ⟨rfl, hw⟩
  have hw := hw.symm
  subst hw
  generalize hs : 64 - blen y = s at sc1 sc2
  have s64 : s < 64 := by omega
  have hu := hi_fits s64 hl hh
  have hu2 := Nat.lt_trans hu sc1
  have hsum := shift2_eq hi lo s s64
  have hsh := shift2 hi lo s s64 hl hu2
  generalize hi * 2 ^ s + lo / 2 ^ (64 - s) = u at hu hu2 hsum hsh
  have hL : lo * 2 ^ s % 18446744073709551616 < 18446744073709551616 := Nat.mod_lt _ (by omega)
  have eL := shl64 lo s (by omega)
  generalize lo * 2 ^ s % 18446744073709551616 = L at hsum hL eL
  have eY := shl64 y s (by omega)
  rw [Nat.mod_eq_of_lt sc1] at eY
  have hq : (hi * 18446744073709551616 + lo) / y = (u * 18446744073709551616 + L) / (y * 2 ^ s) := by rw [hsum, Nat.mul_div_mul_right _ _ (Nat.two_pow_pos s)]
  have hr : (hi * 18446744073709551616 + lo) % y = (u * 18446744073709551616 + L) % (y * 2 ^ s) / 2 ^ s := by rw [hsum, Nat.mul_mod_mul_right, Nat.mul_div_cancel _ (Nat.two_pow_pos s)]
  rw [hq, hr]
  generalize y * 2 ^ s = Y at sc1 sc2 hu eY
  have ec : (64 - (s : Int)) = ((64 - s : Nat) : Int) := by omega
  have y1 : 2147483648 ≤ Y / 4294967296 := by omega
  have y2 : Y / 4294967296 < 4294967296 := by omega
  have y3 : Y % 4294967296 < 4294967296 := by omega
  have hYY : Y = Y / 4294967296 * 4294967296 + Y % 4294967296 := by omega
  have hLL : L = L / 4294967296 * 4294967296 + L % 4294967296 := by omega
  have l1 : L / 4294967296 < 4294967296 := by omega
  have l2 : L % 4294967296 < 4294967296 := by omega
  refine ⟨_, rfl, ?_⟩
  rw [wrapN s (by omega), ec, wrapN (64 - s) (by omega), eY, eL, hsh, shr32, shr32, mask32 _ sc1, mask32 _ hL, quoW _ _ hu2, remq _ _ hu2]
  refine ⟨by omega, by omega, by omega, by omega, by omega, by omega, by omega, fun B5 => ?_⟩
  generalize Y / 4294967296 = a1 at y1 y2 hYY
  generalize Y % 4294967296 = a0 at y3 hYY
  generalize L / 4294967296 = b1 at l1 hLL
  generalize L % 4294967296 = b0 at l2 hLL
  have hu' : u < a1 * 4294967296 + a0 := by rw [← hYY]; exact hu
  have fin6 : ∀ (q1 v q0 : Nat) (e : Env), e.defers = [] → q1 = (u * 4294967296 + b1) / Y → v = (u * 4294967296 + b1) % Y → q0 = (v * 4294967296 + b0) / Y → agree e (F179.l6 Y s b0 q1 v q0) →
    W Tryz.prog 135 F179.p6 e w (retK Tryz.prog [.tmp 6, .tmp 7] fun v w' => v = .tuple #[.int .u64 (((u * 18446744073709551616 + L) / Y : Nat) : Int), .int .u64 (((u * 18446744073709551616 + L) % Y / 2 ^ s : Nat) : Int)] ∧ Chg w w' none2) := by
   intro q1 v q0 e he e1 e2 e3 ha
   have hv : v < Y := by rw [e2]; exact Nat.mod_lt _ (by omega)
   have h1 : q1 * Y + v = u * 4294967296 + b1 := by rw [e1, e2, Nat.mul_comm]; exact Nat.div_add_mod _ _
   have h2 : q0 * Y + (v * 4294967296 + b0) % Y = v * 4294967296 + b0 := by rw [e3, Nat.mul_comm]; exact Nat.div_add_mod _ _
   have hN : u * 18446744073709551616 + L = (q1 * 4294967296 + q0) * Y + (v * 4294967296 + b0) % Y := by
    rw [Nat.add_mul, Nat.mul_right_comm]; omega
   have hm : (v * 4294967296 + b0) % Y < Y := Nat.mod_lt _ (by omega)
   have hQ : (u * 18446744073709551616 + L) / Y = q1 * 4294967296 + q0 := by
    rw [hN, Nat.mul_comm, Nat.mul_add_div (by omega), Nat.div_eq_of_lt hm, Nat.add_zero]
   have hR : (u * 18446744073709551616 + L) % Y = (v * 4294967296 + b0) % Y := by
    rw [hN, Nat.mul_comm, Nat.mul_add_mod, Nat.mod_mod]
   have hq1 : q1 < 4294967296 := by rw [e1, hYY]; exact knuth_q y1 hu' l1
   have hq0 : q0 < 4294967296 := by rw [e3, hYY]; exact knuth_q y1 (by rw [← hYY]; exact hv) l2
   refine F179.t6 Y s b0 q1 v q0 ha fun B6 => ⟨by omega, fun B7 => ret2 he (intv ?_) (intv ?_) ⟨rfl, Chg.refl _ _⟩⟩
   ·rw [hQ, show ((q1 : Int) * 4294967296) = ((q1 * 4294967296 : Nat) : Int) by omega, wrapN _ (by omega), wAdd _ _ (by omega)]
   ·rw [hR, un21 v b0 q0 Y e3 sc1 (by omega), shr64 _ _ (by omega)]
  have fin3 : ∀ (q1 : Nat) (e : Env), e.defers = [] → q1 = (u * 4294967296 + b1) / Y → agree e (F179.l3 Y s a1 a0 u b1 b0 q1) →
    W Tryz.prog 135 F179.p3 e w (retK Tryz.prog [.tmp 6, .tmp 7] fun v w' => v = .tuple #[.int .u64 (((u * 18446744073709551616 + L) / Y : Nat) : Int), .int .u64 (((u * 18446744073709551616 + L) % Y / 2 ^ s : Nat) : Int)] ∧ Chg w w' none2) := by
   intro q1 e he e1 ha
   have hv : (u * 4294967296 + b1) % Y < Y := Nat.mod_lt _ (by omega)
   have eu := un21 u b1 q1 Y e1 sc1 (by omega)
   obtain ⟨v, hve⟩ : ∃ v, v = (u * 4294967296 + b1) % Y := ⟨_, rfl⟩
   rw [← hve] at hv eu
   refine F179.t3 Y s a1 a0 u b1 b0 q1 ha fun B6 => ?_
   unfold F179.v3
   rw [eu, quoW v a1 (by omega), remq v a1 (by omega)]
   refine ⟨by omega, fun B7 => ?_⟩
   rw [F179.q8]
   have hv' : v < a1 * 4294967296 + a0 := by rw [← hYY]; exact hv
   refine W_for (σ := Nat × Nat) (fun t => [(2, .int .u64 (Y : Int)), (8, .int .u64 (s : Int)), (9, .int .u64 (a1 : Int)), (10, .int .u64 (a0 : Int)), (14, .int .u64 (b0 : Int)), (15, .int .u64 (q1 : Int)), (16, .int .u64 (t.2 : Int)), (17, .int .u64 (v : Int)), (18, .int .u64 (t.1 : Int))])
    (fun t wr => KI a1 a0 v t.1 t.2 (v * 4294967296 + b0) ∧ wr = w) (fun t => t.1) (v / a1, v % a1) ⟨rfl, rfl, rfl, rfl, rfl, rfl, rfl, rfl, rfl, trivial⟩ ⟨knuth0 y1 y2 y3 hv' l2, rfl⟩ ?_
   rintro ⟨q, r⟩ B8 wr ⟨hk, hwr⟩
   simp only at hk hwr
   have hwr := hwr.symm
   subst hwr
   have hk' := hk
   obtain ⟨k1, k2, k3, k4⟩ := hk'
   have e4 : IntKind.wrap .u64 ((r : Int) + a1) = ((r + a1 : Nat) : Int) := wAdd _ _ (by omega)
   have hqa : q * a0 ≤ 4294967297 * 4294967295 := Nat.mul_le_mul k3 (by omega)
   refine F179.t7 Y s a1 a0 b0 q1 r v q ⟨rfl, rfl, rfl, rfl, rfl, rfl, rfl, rfl, rfl, trivial⟩ fun B9 => ?_
   unfold F179.v7
   rw [e4, mulN, wrapN (q * a0) (by omega), show ((4294967296 : Int) * (r : Int)) = ((4294967296 * r : Nat) : Int) by omega, wrapN (4294967296 * r) (by omega), wAdd (4294967296 * r) b0 (by omega)]
   have step : (4294967296 ≤ q ∨ 4294967296 * r + b0 < q * a0) → 0 < q ∧ (q - 1) * a1 + (r + a1) = v ∧ (v * 4294967296 + b0) / (a1 * 4294967296 + a0) ≤ q - 1 ∧ q - 1 ≤ 4294967296 := fun hc => knuth_down y1 y2 hk hv' l2 hc
   have brk : ∀ (hc : 4294967296 ≤ q ∨ 4294967296 * r + b0 < q * a0) (h : 4294967296 ≤ r + a1), q - 1 = (v * 4294967296 + b0) / Y := fun hc h => by
    obtain ⟨d0, d1, d2, d3⟩ := step hc
    rw [hYY]; exact knuth_end y1 d1 d2 (knuth_brk y3 d3 h)
   refine bc_intro (fun hc => ?_) (fun hc => bc_intro (fun hc2 => ?_) (fun hc2 B10 => ?_))
   ·have hc' : 4294967296 ≤ q := by have := dT hc; omega
    obtain ⟨d0, d1, d2, d3⟩ := step (.inl hc')
    refine bc_intro (fun hd B10 => ?_) (fun hd B10 => ?_)
    ·have hd' : 4294967296 ≤ r + a1 := by have := dT hd; omega
     exact fin6 q1 v (q - 1) _ he e1 hve (brk (.inl hc') hd') ⟨rfl, rfl, rfl, rfl, rfl, intv (wSub1 q d0 (by omega)), trivial⟩
    ·have hd' : r + a1 < 4294967296 := by have := dF hd; omega
     exact ⟨(q - 1, r + a1), ⟨rfl, rfl, rfl, rfl, rfl, rfl, rfl, rfl, intv (wSub1 q d0 (by omega)), trivial⟩, rfl, ⟨⟨d1, d2, by show q - 1 ≤ _; omega, hd'⟩, rfl⟩, by show q - 1 < q; omega⟩
   ·have hc' : 4294967296 * r + b0 < q * a0 := by have := dT hc2; omega
    obtain ⟨d0, d1, d2, d3⟩ := step (.inr hc')
    refine bc_intro (fun hd B10 => ?_) (fun hd B10 => ?_)
    ·have hd' : 4294967296 ≤ r + a1 := by have := dT hd; omega
     exact fin6 q1 v (q - 1) _ he e1 hve (brk (.inr hc') hd') ⟨rfl, rfl, rfl, rfl, rfl, intv (wSub1 q d0 (by omega)), trivial⟩
    ·have hd' : r + a1 < 4294967296 := by have := dF hd; omega
     exact ⟨(q - 1, r + a1), ⟨rfl, rfl, rfl, rfl, rfl, rfl, rfl, rfl, intv (wSub1 q d0 (by omega)), trivial⟩, rfl, ⟨⟨d1, d2, by show q - 1 ≤ _; omega, hd'⟩, rfl⟩, by show q - 1 < q; omega⟩
   ·have hc' : q * a0 ≤ 4294967296 * r + b0 := by have := dF hc2; omega
    exact fin6 q1 v q _ he e1 hve (by rw [hYY]; exact knuth_end y1 k1 k2 hc') ⟨rfl, rfl, rfl, rfl, rfl, rfl, trivial⟩
  rw [F179.q5]
  refine W_for (σ := Nat × Nat) (fun t => [(2, .int .u64 (Y : Int)), (8, .int .u64 (s : Int)), (9, .int .u64 (a1 : Int)), (10, .int .u64 (a0 : Int)), (11, .int .u64 (u : Int)), (13, .int .u64 (b1 : Int)), (14, .int .u64 (b0 : Int)), (15, .int .u64 (t.1 : Int)), (16, .int .u64 (t.2 : Int))])
   (fun t wr => KI a1 a0 u t.1 t.2 (u * 4294967296 + b1) ∧ wr = w) (fun t => t.1) (u / a1, u % a1) ⟨rfl, rfl, rfl, rfl, rfl, rfl, rfl, rfl, rfl, trivial⟩ ⟨knuth0 y1 y2 y3 hu' l1, rfl⟩ ?_
  rintro ⟨q, r⟩ B8 wr ⟨hk, hwr⟩
  simp only at hk hwr
  have hwr := hwr.symm
  subst hwr
  have hk' := hk
  obtain ⟨k1, k2, k3, k4⟩ := hk'
  have e4 : IntKind.wrap .u64 ((r : Int) + a1) = ((r + a1 : Nat) : Int) := wAdd _ _ (by omega)
  have hqa : q * a0 ≤ 4294967297 * 4294967295 := Nat.mul_le_mul k3 (by omega)
  refine F179.t4 Y s a1 a0 u b1 b0 q r ⟨rfl, rfl, rfl, rfl, rfl, rfl, rfl, rfl, rfl, trivial⟩ fun B9 => ?_
  unfold F179.v4
  rw [e4, mulN, wrapN (q * a0) (by omega), show ((4294967296 : Int) * (r : Int)) = ((4294967296 * r : Nat) : Int) by omega, wrapN (4294967296 * r) (by omega), wAdd (4294967296 * r) b1 (by omega)]
  have step : (4294967296 ≤ q ∨ 4294967296 * r + b1 < q * a0) → 0 < q ∧ (q - 1) * a1 + (r + a1) = u ∧ (u * 4294967296 + b1) / (a1 * 4294967296 + a0) ≤ q - 1 ∧ q - 1 ≤ 4294967296 := fun hc => knuth_down y1 y2 hk hu' l1 hc
  have brk : ∀ (hc : 4294967296 ≤ q ∨ 4294967296 * r + b1 < q * a0) (h : 4294967296 ≤ r + a1), q - 1 = (u * 4294967296 + b1) / Y := fun hc h => by
   obtain ⟨d0, d1, d2, d3⟩ := step hc
   rw [hYY]; exact knuth_end y1 d1 d2 (knuth_brk y3 d3 h)
  refine bc_intro (fun hc => ?_) (fun hc => bc_intro (fun hc2 => ?_) (fun hc2 B10 => ?_))
  ·have hc' : 4294967296 ≤ q := by have := dT hc; omega
   obtain ⟨d0, d1, d2, d3⟩ := step (.inl hc')
   refine bc_intro (fun hd B10 => ?_) (fun hd B10 => ?_)
   ·have hd' : 4294967296 ≤ r + a1 := by have := dT hd; omega
    exact fin3 (q - 1) _ rfl (brk (.inl hc') hd') ⟨rfl, rfl, rfl, rfl, rfl, rfl, rfl, intv (wSub1 q d0 (by omega)), trivial⟩
   ·have hd' : r + a1 < 4294967296 := by have := dF hd; omega
    exact ⟨(q - 1, r + a1), ⟨rfl, rfl, rfl, rfl, rfl, rfl, rfl, intv (wSub1 q d0 (by omega)), rfl, trivial⟩, rfl, ⟨⟨d1, d2, by show q - 1 ≤ _; omega, hd'⟩, rfl⟩, by show q - 1 < q; omega⟩
  ·have hc' : 4294967296 * r + b1 < q * a0 := by have := dT hc2; omega
   obtain ⟨d0, d1, d2, d3⟩ := step (.inr hc')
   refine bc_intro (fun hd B10 => ?_) (fun hd B10 => ?_)
   ·have hd' : 4294967296 ≤ r + a1 := by have := dT hd; omega
    exact fin3 (q - 1) _ rfl (brk (.inr hc') hd') ⟨rfl, rfl, rfl, rfl, rfl, rfl, rfl, intv (wSub1 q d0 (by omega)), trivial⟩
   ·have hd' : r + a1 < 4294967296 := by have := dF hd; omega
    exact ⟨(q - 1, r + a1), ⟨rfl, rfl, rfl, rfl, rfl, rfl, rfl, intv (wSub1 q d0 (by omega)), rfl, trivial⟩, rfl, ⟨⟨d1, d2, by show q - 1 ≤ _; omega, hd'⟩, rfl⟩, by show q - 1 < q; omega⟩
  ·have hc' : q * a0 ≤ 4294967296 * r + b1 := by have := dF hc2; omega
   exact fin3 q _ rfl (by rw [hYY]; exact knuth_end y1 k1 k2 hc') ⟨rfl, rfl, rfl, rfl, rfl, rfl, rfl, rfl, trivial⟩
theorem c159 (hi lo y : Nat) (hh : hi < y) (hl : lo < 18446744073709551616) (hy : y < 18446744073709551616) : Told2 159 #[.int .u64 (hi : Int), .int .u64 (lo : Int), .int .u64 (y : Int)]
  (.tuple #[.int .u64 (((hi * 18446744073709551616 + lo) / y : Nat) : Int), .int .u64 (((hi * 18446744073709551616 + lo) % y : Nat) : Int)]) := fun w =>
 told2 (F159.call hi lo y w _ fun B => (c179 hi lo y hh hl hy w).mono fun e w' ⟨h1, h2⟩ => ⟨_, trivial, _, trivial, h1, fun B2 => ret2 rfl rfl rfl ⟨rfl, h2⟩⟩)
end Go.Proofs.YtlkjiiibmfpbcaaGreatDoor
namespace Go.Proofs.YtlkjiiibmfpbcaaGreatDoor
open Go
def nrm (y : Nat) : Nat := y * 2 ^ (64 - blen y)
def rcp (y : Nat) : Nat := ((18446744073709551615 - nrm y) * 18446744073709551616 + 18446744073709551615) / nrm y
theorem blen_ne (y : Nat) (h : y ≠ 0) : blen y ≠ 0 := fun h0 => by have := blen_lt y; rw [h0] at this; simp at this; omega
theorem c160 (y : Nat) (h0 : y ≠ 0) (hy : y < 18446744073709551616) : Told2 160 #[.int .u64 (y : Int)] (.int .u64 (rcp y : Int)) := by
 intro w
 obtain ⟨s1, s2⟩ := scale y h0 hy
 have hb := blen_le64 y hy
 have hb0 := blen_ne y h0
 refine told2 (F160.call y w _ fun B => (c78 y hy w).mono ?_)
 rintro e w' ⟨rfl, hw⟩
 have hw := hw.symm
 subst hw
 have eY := shl64 y (64 - blen y) (by omega)
 rw [Nat.mod_eq_of_lt s1] at eY
 refine ⟨_, rfl, by omega, ?_⟩
 have e1 : iNot .u64 (iShl .u64 (y : Int) ((64 - blen y : Nat) : Int)) = ((18446744073709551615 - nrm y : Nat) : Int) := by
  rw [eY]; exact iNotN _ s1
 rw [e1, eY]
 refine (c159 (18446744073709551615 - nrm y) 18446744073709551615 (nrm y) (by unfold nrm; omega) (by omega) s1 w).mono ?_
 rintro e w' ⟨rfl, h2⟩
 exact ⟨_, trivial, _, trivial, rfl, fun B2 => ret1 rfl rfl ⟨rfl, h2⟩⟩
theorem rcp_law {d V x1 x0 : Nat} (hd : 9223372036854775808 ≤ d) (hd2 : d < 18446744073709551616) (h1 : x1 < d) (h0 : x0 < 18446744073709551616)
  (hV : d * V ≤ 18446744073709551616 * 18446744073709551616 - 1) (hV2 : 18446744073709551616 * 18446744073709551616 ≤ d * V + d) :
  (x1 * V + x0) / 18446744073709551616 < 18446744073709551616 ∧ d * ((x1 * V + x0) / 18446744073709551616) ≤ x1 * 18446744073709551616 + x0 ∧
  x1 * 18446744073709551616 + x0 < d * ((x1 * V + x0) / 18446744073709551616) + 18446744073709551616 + d := by
 have hN := Nat.mod_add_div (x1 * V + x0) 18446744073709551616
 have hr := Nat.mod_lt (x1 * V + x0) (show 0 < 18446744073709551616 by omega)
 generalize (x1 * V + x0) / 18446744073709551616 = t at *
 generalize (x1 * V + x0) % 18446744073709551616 = ρ at *
 have e1 : d * (x1 * V + x0) = x1 * (d * V) + d * x0 := by rw [Nat.mul_add, Nat.mul_left_comm]
 have e2 : d * (ρ + 18446744073709551616 * t) = d * ρ + 18446744073709551616 * (d * t) := by rw [Nat.mul_add, Nat.mul_left_comm]
 rw [hN, e1] at e2
 have a1 : x1 * (d * V) ≤ x1 * (18446744073709551616 * 18446744073709551616 - 1) := Nat.mul_le_mul_left _ hV
 have a2 : x1 * (18446744073709551616 * 18446744073709551616) ≤ x1 * (d * V + d) := Nat.mul_le_mul_left _ hV2
 have a3 : d * x0 ≤ 18446744073709551616 * x0 := Nat.mul_le_mul_right _ (by omega)
 have a4 : x1 * d + d ≤ d * d := by rw [← Nat.succ_mul]; exact Nat.mul_le_mul_right _ h1
 have a5 : d * ρ + d ≤ d * 18446744073709551616 := by rw [← Nat.mul_succ]; exact Nat.mul_le_mul_left _ hr
 have a6 : (18446744073709551616 - d) * x0 ≤ (18446744073709551616 - d) * 18446744073709551615 := Nat.mul_le_mul_left _ (by omega)
 have a7 : d * d ≤ d * 18446744073709551616 := Nat.mul_le_mul_left _ (by omega)
 have a8 : d * x0 + (18446744073709551616 - d) * x0 = 18446744073709551616 * x0 := by rw [← Nat.add_mul, Nat.add_sub_cancel' (by omega)]
 have a9 : (x1 + 1) * V ≤ d * V := Nat.mul_le_mul_right _ h1
 rw [Nat.mul_add] at a2
 rw [Nat.add_mul, Nat.one_mul] at a9
 have a10 : 18446744073709551616 ≤ V := by
  rcases Nat.lt_or_ge V 18446744073709551616 with h | h
  ·have : d * (V + 1) ≤ 18446744073709551615 * 18446744073709551616 := Nat.mul_le_mul (by omega) h
   rw [Nat.mul_add, Nat.mul_one] at this
   omega
  ·exact h
 refine ⟨by omega, by omega, by omega⟩
theorem rcp_V (y : Nat) (h0 : y ≠ 0) (hy : y < 18446744073709551616) : nrm y * (rcp y + 18446744073709551616) ≤ 18446744073709551616 * 18446744073709551616 - 1 ∧
  18446744073709551616 * 18446744073709551616 ≤ nrm y * (rcp y + 18446744073709551616) + nrm y ∧ rcp y < 18446744073709551616 := by
 obtain ⟨s1, s2⟩ := scale y h0 hy
 have h1 := Nat.div_add_mod ((18446744073709551615 - nrm y) * 18446744073709551616 + 18446744073709551615) (nrm y)
 have s1 : nrm y < 18446744073709551616 := s1
 have s2 : 9223372036854775808 ≤ nrm y := s2
 have h2 := Nat.mod_lt ((18446744073709551615 - nrm y) * 18446744073709551616 + 18446744073709551615) (show 0 < nrm y by omega)
 have h3 : rcp y < 18446744073709551616 := by
  unfold rcp
  rw [Nat.div_lt_iff_lt_mul (by omega)]; omega
 unfold rcp at *
 rw [Nat.mul_add]
 refine ⟨?_, ?_, h3⟩ <;> omega
theorem c161 (x1 x0 y : Nat) (h1 : x1 < y) (h0 : x0 < 18446744073709551616) (hy : y < 18446744073709551616) : Told 161 #[.int .u64 (x1 : Int), .int .u64 (x0 : Int), .int .u64 (y : Int), .int .u64 (rcp y : Int)]
  (.tuple #[.int .u64 (((x1 * 18446744073709551616 + x0) / y : Nat) : Int), .int .u64 (((x1 * 18446744073709551616 + x0) % y : Nat) : Int)]) := by
 intro w
 obtain ⟨V1, V2, V3⟩ := rcp_V y (by omega) hy
 obtain ⟨s1, s2⟩ := scale y (by omega) hy
 have hb := blen_le64 y hy
 have hb0 := blen_ne y (by omega)
 unfold nrm at V1 V2
 generalize rcp y = m at V1 V2 V3
 refine told (F161.call x1 x0 y m w _ fun B => (c78 y hy w).mono ?_)
 rintro e w' ⟨rfl, hw⟩
 have hw := hw.symm
 subst hw
 refine ⟨_, rfl, ?_⟩
 generalize hs : 64 - blen y = s at V1 V2 s1 s2
 have s64 : s < 64 := by omega
 have main : ∀ (u L d : Nat) (e : Env), e.defers = [] → 9223372036854775808 ≤ d → d < 18446744073709551616 → u < d → L < 18446744073709551616 → d * (m + 18446744073709551616) ≤ 18446744073709551616 * 18446744073709551616 - 1 → 18446744073709551616 * 18446744073709551616 ≤ d * (m + 18446744073709551616) + d →
   u * 18446744073709551616 + L = (x1 * 18446744073709551616 + x0) * 2 ^ s → d = y * 2 ^ s → agree e (F161.l1 u L d m s) →
   W Tryz.prog 100 F161.p1 e w (retK Tryz.prog [.tmp 8, .tmp 9] fun v w' => v = .tuple #[.int .u64 (((x1 * 18446744073709551616 + x0) / y : Nat) : Int), .int .u64 (((x1 * 18446744073709551616 + x0) % y : Nat) : Int)] ∧ w' = w) := by
  intro u L d e he hd hd2 hu hL hV hV2 hN hdy ha
  obtain ⟨t1, t2, t3⟩ := rcp_law hd hd2 hu hL hV hV2
  have hq : (x1 * 18446744073709551616 + x0) / y = (u * 18446744073709551616 + L) / d := by rw [hN, hdy, Nat.mul_div_mul_right _ _ (Nat.two_pow_pos s)]
  have hr : (x1 * 18446744073709551616 + x0) % y = (u * 18446744073709551616 + L) % d / 2 ^ s := by rw [hN, hdy, Nat.mul_mod_mul_right, Nat.mul_div_cancel _ (Nat.two_pow_pos s)]
  rw [hq, hr]
  have hmu : u * (m + 18446744073709551616) = m * u + u * 18446744073709551616 := by rw [Nat.mul_add, Nat.mul_comm u m]
  rw [hmu] at t1 t2 t3
  have hsq := mul_lt_sq _ _ V3 (Nat.lt_trans hu hd2)
  have hNB : u * 18446744073709551616 + L < d * 18446744073709551616 := by
   have : (u + 1) * 18446744073709551616 ≤ d * 18446744073709551616 := Nat.mul_le_mul_right _ hu
   omega
  obtain ⟨N, hNe⟩ : ∃ N, N = u * 18446744073709551616 + L := ⟨_, rfl⟩
  rw [← hNe] at t2 t3 hNB ⊢
  have fin : ∀ (q r : Nat) (e : Env), e.defers = [] → q * d + r = N → r < 2 * d → r < 18446744073709551616 → agree e (F161.l2 s d q r) →
    W Tryz.prog 100 F161.p2 e w (retK Tryz.prog [.tmp 8, .tmp 9] fun v w' => v = .tuple #[.int .u64 ((N / d : Nat) : Int), .int .u64 ((N % d / 2 ^ s : Nat) : Int)] ∧ w' = w) := by
   intro q r e he h1 h2 h3 ha
   have fin2 : ∀ (q r : Nat) (e : Env), e.defers = [] → q * d + r = N → r < d → agree e (F161.l3 s q r) →
     W Tryz.prog 100 F161.p3 e w (retK Tryz.prog [.tmp 8, .tmp 9] fun v w' => v = .tuple #[.int .u64 ((N / d : Nat) : Int), .int .u64 ((N % d / 2 ^ s : Nat) : Int)] ∧ w' = w) := by
    intro q r e he h1 h2 ha
    have hQ : N / d = q := by rw [← h1, Nat.mul_comm, Nat.mul_add_div (by omega), Nat.div_eq_of_lt h2, Nat.add_zero]
    have hR : N % d = r := by rw [← h1, Nat.mul_comm, Nat.mul_add_mod, Nat.mod_eq_of_lt h2]
    rw [hQ, hR]
    exact F161.t3 s q r ha fun B6 => ⟨by omega, fun B7 => ret2 he rfl (intv (shr64 _ _ (by omega))) ⟨rfl, rfl⟩⟩
   have hqB : q < 18446744073709551616 := by
    have : q * d < 18446744073709551616 * d := by rw [Nat.mul_comm 18446744073709551616]; omega
    exact Nat.lt_of_mul_lt_mul_right this
   refine F161.t2 s d q r ha fun B6 => bc_intro (fun hb B7 => ?_) (fun hb B7 => ?_)
   ·have hge : d ≤ r := by have := dT hb; omega
    have h5 : (q + 1) * d + (r - d) = N := by rw [Nat.add_mul, Nat.one_mul]; omega
    have hqB : q + 1 < 18446744073709551616 := by
     have : (q + 1) * d < 18446744073709551616 * d := by rw [Nat.mul_comm 18446744073709551616]; omega
     exact Nat.lt_of_mul_lt_mul_right this
    refine fin2 (q + 1) (r - d) _ he h5 (by omega) ⟨rfl, intv (wAdd q 1 hqB), intv ?_, trivial⟩
    rw [show ((r : Int) - (d : Int)) = ((r - d : Nat) : Int) by omega, wrapN _ (by omega)]
   ·exact fin2 q r _ he h1 (by have := dF hb; omega) ⟨rfl, rfl, rfl, trivial⟩
  refine F161.t1 u L d m s ha fun B2 => (c148 m u V3 (by omega) w).mono ?_
  rintro e' w' ⟨rfl, hw⟩
  have hw := hw.symm
  subst hw
  refine ⟨_, trivial, _, trivial, rfl, (c163 (m * u % 18446744073709551616) L 0 (by omega) w).mono ?_⟩
  rintro e' w' ⟨rfl, hw⟩
  have hw := hw.symm
  subst hw
  refine ⟨_, trivial, _, trivial, rfl, (c163 (m * u / 18446744073709551616) u _ (by omega) w).mono ?_⟩
  rintro e' w' ⟨rfl, hw⟩
  have hw := hw.symm
  subst hw
  have ht : (m * u / 18446744073709551616 + u + (m * u % 18446744073709551616 + L + 0) / 18446744073709551616) % 18446744073709551616 = (m * u + u * 18446744073709551616 + L) / 18446744073709551616 := by omega
  rw [ht]
  obtain ⟨t, hte⟩ : ∃ t, t = (m * u + u * 18446744073709551616 + L) / 18446744073709551616 := ⟨_, rfl⟩
  rw [← hte] at t1 t2 t3 ⊢
  refine ⟨_, trivial, _, trivial, rfl, (c148 d t hd2 t1 w).mono ?_⟩
  rintro e' w' ⟨rfl, hw⟩
  have hw := hw.symm
  subst hw
  refine ⟨_, trivial, _, trivial, rfl, (c122 L (d * t % 18446744073709551616) 0 (by omega) (Nat.mod_lt _ (by omega)) w).mono ?_⟩
  rintro e' w' ⟨rfl, hw⟩
  have hw := hw.symm
  subst hw
  refine ⟨_, trivial, _, trivial, rfl, (c122 u (d * t / 18446744073709551616) _ (by split <;> omega) (by omega) w).mono ?_⟩
  rintro e' w' ⟨rfl, hw⟩
  have hw := hw.symm
  subst hw
  have r0 : (L + 18446744073709551616 - (d * t % 18446744073709551616 + 0)) % 18446744073709551616 = (N - d * t) % 18446744073709551616 := by omega
  have r1 : (u + 18446744073709551616 - (d * t / 18446744073709551616 + (if L < d * t % 18446744073709551616 + 0 then 1 else 0))) % 18446744073709551616 = (N - d * t) / 18446744073709551616 := by split <;> omega
  rw [r0, r1]
  have hrr : d * t + (N - d * t) = N := Nat.add_sub_cancel' t2
  have hrl : N - d * t < 18446744073709551616 + d := by omega
  generalize N - d * t = r at hrr hrl ⊢
  refine ⟨_, trivial, _, trivial, rfl, bc_intro (fun hb B3 => ?_) (fun hb B3 => ?_)⟩
  ·have hge : 18446744073709551616 ≤ r := by have := neN hb; omega
   have h5 : (t + 1) * d + (r - d) = N := by rw [Nat.add_mul, Nat.one_mul, Nat.mul_comm t d]; omega
   have hqB : t + 1 < 18446744073709551616 := by
    have : (t + 1) * d < 18446744073709551616 * d := by rw [Nat.mul_comm 18446744073709551616]; omega
    exact Nat.lt_of_mul_lt_mul_right this
   refine fin (t + 1) (r - d) _ he h5 (by omega) (by omega) ⟨rfl, rfl, intv (wAdd t 1 hqB), intv ?_, trivial⟩
   rw [wrapE]; omega
  ·have hlt : r < 18446744073709551616 := by have := neE hb; omega
   refine fin t r _ he (by rw [Nat.mul_comm]; exact hrr) (by omega) hlt ⟨rfl, rfl, rfl, intv ?_, trivial⟩
   omega
 have hu := hi_fits s64 h0 h1
 have hu2 := Nat.lt_trans hu s1
 have eY := shl64 y s (by omega)
 rw [Nat.mod_eq_of_lt s1] at eY
 refine bc_intro (fun hb => ?_) (fun hb B1 => ?_)
 ·rw [show (64 - (s : Int)) = ((64 - s : Nat) : Int) by omega, wrapN (64 - s) (by omega), shift2 x1 x0 s s64 h0 hu2, shl64 x0 s (by omega), eY]
  exact ⟨by omega, by omega, by omega, by omega, fun B1 => main _ _ _ _ rfl s2 s1 hu (Nat.mod_lt _ (by omega)) V1 V2 (shift2_eq x1 x0 s s64) rfl ⟨rfl, rfl, rfl, rfl, rfl, trivial⟩⟩
 ·have hs0 : s = 0 := by have := neE hb; omega
  rw [hs0, Nat.pow_zero, Nat.mul_one] at s1 s2 V1 V2
  refine main x1 x0 y _ rfl s2 s1 h1 h0 V1 V2 (by rw [hs0]; simp) (by rw [hs0]; simp) ⟨rfl, rfl, rfl, rfl, rfl, trivial⟩
end Go.Proofs.YtlkjiiibmfpbcaaGreatDoor
