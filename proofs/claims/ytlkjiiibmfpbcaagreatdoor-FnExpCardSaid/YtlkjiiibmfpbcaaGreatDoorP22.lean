/- Verification conditions, printed by wip/gen/gen.py and shrink.py; each is held against vc by the kernel. No condition. -/
import Derived.Test.YtlkjiiibmfpbcaaGreatDoorP05
import Derived.Test.YtlkjiiibmfpbcaaGreatDoorP20
import Derived.Test.YtlkjiiibmfpbcaaGreatDoorP21
namespace Go.Proofs.YtlkjiiibmfpbcaaGreatDoor
open Go
set_option maxRecDepth 100000
set_option linter.unusedVariables false
namespace F170
noncomputable def body : Code := bodyOf Tryz.f170
def kt : List (Nat × List Nat) := []
variable (I0 I1 I2 I3 : Int)
abbrev l0 : List (Nat × Value) := [eU 0 I0,eU 1 I1,eU 2 I2,eU 3 I3]
def v0 : VP := fun B ds w K => bc (decide (I0 > (I2:Int))) (Kd K .ret [eB 8 true] ds w) (bc (I0 == (I2:Int)) (Kd K .ret [eB 8 (decide (I1 > (I3:Int)))] ds w) (Kd K .ret [eB 8 false] ds w))
theorem t0 : VZ 22 body (l0 I0 I1 I2 I3) (v0 I0 I1 I2 I3) := tz kt [8] fun B ds w K => by kernel_rfl
theorem call : VCl 170 [.tmp 8] #[.int .u64 I0, .int .u64 I1, .int .u64 I2, .int .u64 I3] (v0 I0 I1 I2 I3) := cz Tryz.func170 (by kernel_rfl) Tryz.ntmps170 Tryz.results170 (by kernel_rfl) (t0 I0 I1 I2 I3)
end F170
end Go.Proofs.YtlkjiiibmfpbcaaGreatDoor
namespace Go.Proofs.YtlkjiiibmfpbcaaGreatDoor
open Go
def GI (v1 v2 u N3 q r : Nat) : Prop := q * v1 + r = u ∧ N3 / (v1 * 18446744073709551616 + v2) ≤ q ∧ q < 18446744073709551616 ∧ r < 18446744073709551616
theorem gi_start {v1 v2 u0 u1 u2 : Nat} (hv : 9223372036854775808 ≤ v1) (h0 : u0 < v1) (h1 : u1 < 18446744073709551616) (h2 : u2 < 18446744073709551616) (hv1 : v1 < 18446744073709551616) :
  GI v1 v2 (u0 * 18446744073709551616 + u1) ((u0 * 18446744073709551616 + u1) * 18446744073709551616 + u2) ((u0 * 18446744073709551616 + u1) / v1) ((u0 * 18446744073709551616 + u1) % v1) := by
 have hm := Nat.mod_lt (u0 * 18446744073709551616 + u1) (show 0 < v1 by omega)
 refine ⟨by rw [Nat.mul_comm]; exact Nat.div_add_mod _ _, ?_, ?_, by omega⟩
 ·obtain ⟨u, hu⟩ : ∃ u, u = u0 * 18446744073709551616 + u1 := ⟨_, rfl⟩
  rw [← hu]
  have h1 : (u * 18446744073709551616 + u2) / (v1 * 18446744073709551616 + v2) ≤ (u * 18446744073709551616 + u2) / (v1 * 18446744073709551616) := Nat.div_le_div_left (by omega) (by omega)
  have h2 : (u * 18446744073709551616 + u2) / (v1 * 18446744073709551616) = u / v1 := by
   rw [Nat.mul_comm v1, ← Nat.div_div_eq_div_mul]
   have : (u * 18446744073709551616 + u2) / 18446744073709551616 = u := by omega
   rw [this]
  omega
 ·rw [Nat.div_lt_iff_lt_mul (by omega)]
  have : (u0 + 1) * 18446744073709551616 ≤ v1 * 18446744073709551616 := Nat.mul_le_mul_right _ h0
  rw [Nat.mul_comm 18446744073709551616 v1]; omega
theorem gi_down' {D v1 v2 u u2 q r : Nat} (h1 : q * v1 + r = u) (hd : 0 < v1 * D + v2) (hc : r * D + u2 < q * v2) : (u * D + u2) / (v1 * D + v2) < q := by
 rw [Nat.div_lt_iff_lt_mul hd, Nat.mul_add, ← Nat.mul_assoc, ← h1, Nat.add_mul]
 omega
theorem gi_end' {D v1 v2 u u2 q r : Nat} (h1 : q * v1 + r = u) (hd : 0 < v1 * D + v2) (hc : q * v2 ≤ r * D + u2) : q ≤ (u * D + u2) / (v1 * D + v2) := by
 rw [Nat.le_div_iff_mul_le hd, Nat.mul_add, ← Nat.mul_assoc, ← h1, Nat.add_mul]
 omega
theorem gi_down {v1 v2 u u2 q r : Nat} (hv : 0 < v1) (h : GI v1 v2 u (u * 18446744073709551616 + u2) q r) (hc : r * 18446744073709551616 + u2 < q * v2) :
  0 < q ∧ (q - 1) * v1 + (r + v1) = u ∧ (u * 18446744073709551616 + u2) / (v1 * 18446744073709551616 + v2) ≤ q - 1 := by
 obtain ⟨h1, h2, h3, h4⟩ := h
 have hlt := gi_down' (D := 18446744073709551616) h1 (by omega) hc
 have h0 : 0 < q := Nat.lt_of_le_of_lt (Nat.zero_le _) hlt
 refine ⟨h0, ?_, by omega⟩
 obtain ⟨p, rfl⟩ : ∃ p, q = p + 1 := ⟨q - 1, by omega⟩
 rw [Nat.add_mul, Nat.one_mul] at h1
 rw [Nat.add_sub_cancel]; omega
theorem gi_end {v1 v2 u u2 q r : Nat} (hv : 0 < v1) (h1 : q * v1 + r = u) (h2 : (u * 18446744073709551616 + u2) / (v1 * 18446744073709551616 + v2) ≤ q) (hc : q * v2 ≤ r * 18446744073709551616 + u2) :
  q = (u * 18446744073709551616 + u2) / (v1 * 18446744073709551616 + v2) :=
 Nat.le_antisymm (gi_end' (D := 18446744073709551616) h1 (by omega) hc) h2
theorem gi_brk {v2 q r u2 : Nat} (h0 : v2 < 18446744073709551616) (hq : q < 18446744073709551616) (hr : 18446744073709551616 ≤ r) : q * v2 ≤ r * 18446744073709551616 + u2 := by
 have h1 : q * v2 ≤ 18446744073709551616 * 18446744073709551616 := Nat.mul_le_mul (by omega) (by omega)
 omega
def Guess (N V q : Nat) : Prop := N / V ≤ q ∧ q ≤ N / V + 1 ∧ q < 18446744073709551616
theorem guess3 {N V k : Nat} (hV : BB ^ (k + 1) ≤ V) (hq : N / BB ^ k / (V / BB ^ k) < 18446744073709551616) : Guess N V (N / BB ^ k / (V / BB ^ k)) := by
 have hk := BBpow_pos k
 have hV0 : 0 < V := Nat.lt_of_lt_of_le (BBpow_pos _) hV
 have hVk : 0 < V / BB ^ k := by
  rw [Nat.div_pos_iff]
  exact ⟨hk, Nat.le_trans (Nat.pow_le_pow_right BB_pos (by omega)) hV⟩
 refine ⟨?_, ?_, hq⟩
 ·rw [Nat.le_div_iff_mul_le hVk]
  rw [Nat.le_div_iff_mul_le hk, Nat.mul_assoc]
  exact Nat.le_trans (Nat.mul_le_mul_left _ (Nat.div_mul_le_self V (BB ^ k))) (Nat.div_mul_le_self N V)
 ·generalize hqe : N / BB ^ k / (V / BB ^ k) = q at hq ⊢
  rcases Nat.eq_zero_or_pos q with h0 | h0
  ·rw [h0]; exact Nat.zero_le _
  obtain ⟨p, rfl⟩ : ∃ p, q = p + 1 := ⟨q - 1, by omega⟩
  have h1 : (p + 1) * (V / BB ^ k) ≤ N / BB ^ k := by rw [← hqe]; exact Nat.div_mul_le_self _ _
  have h2 : (p + 1) * (V / BB ^ k) * BB ^ k ≤ N := Nat.le_trans (Nat.mul_le_mul_right _ h1) (Nat.div_mul_le_self _ _)
  have h3 := Nat.div_add_mod V (BB ^ k)
  have h4 := Nat.mod_lt V hk
  have h5 : (p + 1) * (V % BB ^ k) ≤ BB * BB ^ k := Nat.mul_le_mul (by rw [BB_eq]; omega) (Nat.le_of_lt h4)
  have h6 : (p + 1) * V = (p + 1) * (V / BB ^ k) * BB ^ k + (p + 1) * (V % BB ^ k) := by
   conv => lhs; rw [← h3]
   rw [Nat.mul_add, Nat.mul_comm (BB ^ k), Nat.mul_assoc]
  have h7 : BB * BB ^ k ≤ V := by rw [Nat.mul_comm, ← BBpow_succ]; exact hV
  have : p ≤ N / V := by
   rw [Nat.le_div_iff_mul_le hV0]
   rw [Nat.add_mul, Nat.one_mul] at h6; omega
  omega
theorem guessM {N V n u0 : Nat} (hN : N < V * BB) (h0 : u0 * BB ^ (n + 1) ≤ N) (hV : V < (u0 + 1) * BB ^ n) (hu : 9223372036854775808 ≤ u0) : Guess N V 18446744073709551615 := by
 have hV0 : 0 < V := by
  rcases Nat.eq_zero_or_pos V with h | h
  ·subst h; omega
  ·exact h
 have h1 : N / V < 18446744073709551616 := by
  rw [Nat.div_lt_iff_lt_mul hV0, Nat.mul_comm]; exact hN
 refine ⟨by omega, ?_, by omega⟩
 have : 18446744073709551614 ≤ N / V := by
  rw [Nat.le_div_iff_mul_le hV0]
  refine Nat.le_trans ?_ h0
  have h2 : 18446744073709551614 * V ≤ 18446744073709551614 * ((u0 + 1) * BB ^ n) := Nat.mul_le_mul_left _ (Nat.le_of_lt hV)
  have h3 : 18446744073709551614 * ((u0 + 1) * BB ^ n) ≤ u0 * BB ^ (n + 1) := by
   rw [BBpow_succ, Nat.mul_comm (BB ^ n) BB, ← Nat.mul_assoc, ← Nat.mul_assoc]
   exact Nat.mul_le_mul_right _ (show 18446744073709551614 * (u0 + 1) ≤ u0 * BB by rw [BB_eq]; omega)
  exact Nat.le_trans h2 h3
 omega
theorem long_step {U V k : Nat} (hV : 0 < V) : U / BB ^ k / V = (U / BB ^ (k + 1) % V * BB + dg U k) / V + BB * (U / BB ^ (k + 1) / V) ∧ U / BB ^ k % V = (U / BB ^ (k + 1) % V * BB + dg U k) % V := by
 have h1 := div_split U k
 have h2 := Nat.div_add_mod (U / BB ^ (k + 1)) V
 generalize U / BB ^ (k + 1) = T at *
 have h5 : U / BB ^ k = (T % V * BB + dg U k) + V * (BB * (T / V)) := by
  rw [h1, Nat.mul_left_comm]
  have : BB * T = BB * (V * (T / V)) + BB * (T % V) := by rw [← Nat.mul_add, h2]
  rw [this, Nat.mul_comm (T % V) BB]; omega
 exact ⟨by rw [h5, Nat.add_mul_div_left _ _ hV], by rw [h5, Nat.add_mul_mod_self_left]⟩
theorem Sg.splice {w w' : World} {b o L A j p N : Nat} (h : Sg w b o L A) (hc : Chg w w' (inR b (o + j) (o + j + p))) (hn : Sg w' b (o + j) p N) (hA : A < BB ^ (j + p)) (hN : N < BB ^ p) (hL : j + p ≤ L) : Sg w' b o L (A % BB ^ j + BB ^ j * N) := by
 have h1 : Sg w' b o j (A % BB ^ j) := hc.sg (h.le (by omega)).mod fun i hi hm => by have := hm.2.1; omega
 have h2 := Sg.join h1 hn (Nat.mod_lt _ (BBpow_pos j))
 have h3 : Sg w' b (o + (j + p)) (L - (j + p)) 0 := by
  have := h.hi (j + p) (L - (j + p)) (by omega)
  rw [Nat.div_eq_of_lt hA] at this
  exact hc.sg this fun i hi hm => by have := hm.2.2; omega
 have hlt : A % BB ^ j + BB ^ j * N < BB ^ (j + p) := by
  have a1 := Nat.mod_lt A (BBpow_pos j)
  have a2 : BB ^ j * N + BB ^ j ≤ BB ^ j * BB ^ p := by rw [← Nat.mul_succ]; exact Nat.mul_le_mul_left _ hN
  rw [Nat.pow_add]; omega
 have h4 := Sg.join h2 h3 hlt
 rw [Nat.mul_zero, Nat.add_zero, Nat.add_sub_cancel' hL] at h4
 exact h4
theorem c170 (x1 x2 y1 y2 : Nat) (h2 : x2 < 18446744073709551616) (h4 : y2 < 18446744073709551616) : Told 170 #[.int .u64 (x1 : Int), .int .u64 (x2 : Int), .int .u64 (y1 : Int), .int .u64 (y2 : Int)]
  (.bool (decide (y1 * 18446744073709551616 + y2 < x1 * 18446744073709551616 + x2))) := fun w =>
 told <| F170.call x1 x2 y1 y2 w _ fun B => bc_intro (fun hb B1 => ret1 rfl (congrArg Value.bool (decT (by have := dT hb; omega)).symm) ⟨rfl, rfl⟩) (fun hb => bc_intro (fun hb' B1 => ret1 rfl (congrArg Value.bool (decide_eq_decide.2 (by
   have := eqE hb'
   have := dF hb
   omega))) ⟨rfl, rfl⟩) (fun hb' B1 => ret1 rfl (congrArg Value.bool (decF (by have := dF hb; have := eqN hb'; omega)).symm) ⟨rfl, rfl⟩))
end Go.Proofs.YtlkjiiibmfpbcaaGreatDoor
