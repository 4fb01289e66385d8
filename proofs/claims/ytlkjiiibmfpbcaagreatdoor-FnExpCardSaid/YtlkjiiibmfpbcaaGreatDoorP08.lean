/- Contracts: the functions of math/bits on words, and the package's words. Conditions: each number is a word. -/
import Derived.Laws.IdiomCopy
import Derived.BigFrame
import Derived.Test.YtlkjiiibmfpbcaaGreatDoorP06
import Derived.Test.YtlkjiiibmfpbcaaGreatDoorP07
namespace Go.Proofs.YtlkjiiibmfpbcaaGreatDoor
open Go
theorem ret1 {t : Nat} {e : Env} {w : World} {R : Value → World → Prop} {v : Value} (hd : e.defers = []) (hv : e.get t = v) (h : R v w) : retK Tryz.prog [.tmp t] R .ret e w := by
 simp only [retK, hd, runD, resOne, hv]; exact h
theorem ret2 {t u : Nat} {e : Env} {w : World} {R : Value → World → Prop} {v v' : Value} (hd : e.defers = []) (hv : e.get t = v) (hv' : e.get u = v') (h : R (.tuple #[v, v']) w) :
  retK Tryz.prog [.tmp t, .tmp u] R .ret e w := by
 simp only [retK, hd, runD, resOne, hv, hv']; exact h
theorem ret0 {e : Env} {w : World} {R : Value → World → Prop} (hd : e.defers = []) (h : R (.tuple #[]) w) : retK Tryz.prog [] R .normal e w := by
 simp only [retK, hd, runD, resOne]; exact h
theorem ret0' {e : Env} {w : World} {R : Value → World → Prop} (hd : e.defers = []) (h : R (.tuple #[]) w) : retK Tryz.prog [] R .ret e w := by
 simp only [retK, hd, runD, resOne]; exact h
theorem told {f : FuncId} {args : Array Value} {w : World} {v : Value} (h : Calls Tryz.prog f args w fun x w' => ∃ u, x = .returned u ∧ (u = v ∧ w' = w)) :
  Calls Tryz.prog f args w fun e w' => e = .returned v ∧ w' = w :=
 h.mono fun _ _ ⟨_, hx, hu, hw⟩ => ⟨by rw [hx, hu], hw⟩
theorem c163 (x y c : Nat) (hc : c ≤ 1) : Told 163 #[.int .u64 (x : Int), .int .u64 (y : Int), .int .u64 (c : Int)]
  (.tuple #[.int .u64 (((x + y + c) % 18446744073709551616 : Nat) : Int), .int .u64 (((x + y + c) / 18446744073709551616 : Nat) : Int)]) := fun w =>
 told <| F163.call _ _ _ w _ fun B => ⟨w, _, trivial, _, trivial, add64_run x y c hc w, fun _ => ret2 rfl rfl rfl ⟨rfl, rfl⟩⟩
theorem c122 (x y c : Nat) (hc : c ≤ 1) (hy : y < 18446744073709551616) : Told 122 #[.int .u64 (x : Int), .int .u64 (y : Int), .int .u64 (c : Int)]
  (.tuple #[.int .u64 (((x + 18446744073709551616 - (y + c)) % 18446744073709551616 : Nat) : Int), .int .u64 ((if x < y + c then 1 else 0 : Nat) : Int)]) := fun w =>
 told <| F122.call _ _ _ w _ fun B => ⟨w, _, trivial, _, trivial, sub64_run x y c hc hy w, fun _ => ret2 rfl rfl rfl ⟨rfl, rfl⟩⟩
theorem dT {p : Prop} [Decidable p] (h : decide p = true) : p := of_decide_eq_true h
theorem dF {p : Prop} [Decidable p] (h : decide p = false) : ¬ p := of_decide_eq_false h
theorem mask32 (a : Nat) (ha : a < 18446744073709551616) : iAnd .u64 (a : Int) 4294967295 = ((a % 4294967296 : Nat) : Int) := iAndMask a 32 (by omega) ha
theorem shr32 (a : Nat) : iShr .u64 (a : Int) 32 = ((a / 4294967296 : Nat) : Int) := iShrN a 32
theorem mulN (a b : Nat) : (a : Int) * (b : Int) = ((a * b : Nat) : Int) := (Int.natCast_mul a b).symm
theorem addN (a b : Nat) : (a : Int) + (b : Int) = ((a + b : Nat) : Int) := (Int.natCast_add a b).symm
theorem intv {k : IntKind} {a b : Int} (h : a = b) : Value.int k a = .int k b := by rw [h]
theorem c169 (x y : Nat) (hx : x < 18446744073709551616) (hy : y < 18446744073709551616) : Told 169 #[.int .u64 (x : Int), .int .u64 (y : Int)]
  (.tuple #[.int .u64 ((x * y / 18446744073709551616 : Nat) : Int), .int .u64 ((x * y % 18446744073709551616 : Nat) : Int)]) := fun w =>
 told <| F169.call _ _ w _ fun B => ⟨by omega, by omega, by omega, by omega, by omega, fun _ => by
  obtain ⟨bd, bt, bw, hhi⟩ := Lib.mul64_hi x y hx hy
  have ba := Lib.half_mul_le (a := x / 4294967296) (b := y / 4294967296) (by omega) (by omega)
  have bb := Lib.half_mul_le (a := x / 4294967296) (b := y % 4294967296) (by omega) (by omega)
  have bc := Lib.half_mul_le (a := x % 4294967296) (b := y / 4294967296) (by omega) (by omega)
  have ba' : x / 4294967296 * (y / 4294967296) < 18446744073709551616 := by omega
  have bb' : x / 4294967296 * (y % 4294967296) < 18446744073709551616 := by omega
  have bc' : x % 4294967296 * (y / 4294967296) < 18446744073709551616 := by omega
  have bh1 : x / 4294967296 * (y / 4294967296) + (x / 4294967296 * (y % 4294967296) + x % 4294967296 * (y % 4294967296) / 4294967296) / 4294967296 < 18446744073709551616 := by omega
  have bh : x / 4294967296 * (y / 4294967296) + (x / 4294967296 * (y % 4294967296) + x % 4294967296 * (y % 4294967296) / 4294967296) / 4294967296 + ((x / 4294967296 * (y % 4294967296) + x % 4294967296 * (y % 4294967296) / 4294967296) % 4294967296 + x % 4294967296 * (y / 4294967296)) / 4294967296 < 18446744073709551616 := by omega
  refine ret2 (v := .int .u64 ((x * y / 18446744073709551616 : Nat) : Int)) (v' := .int .u64 ((x * y % 18446744073709551616 : Nat) : Int)) rfl (intv ?_) (intv ?_) ⟨rfl, rfl⟩
  ·simp only [mask32 x hx, mask32 y hy, shr32, mulN, addN, wrapN _ bd, wrapN _ bb', wrapN _ bt, mask32 _ bt, wrapN _ bc', wrapN _ bw, wrapN _ ba', wrapN _ bh1, wrapN _ bh]
   rw [hhi]
  ·rw [mulN, wrapM]⟩
theorem c148 (x y : Nat) (hx : x < 18446744073709551616) (hy : y < 18446744073709551616) : Told 148 #[.int .u64 (x : Int), .int .u64 (y : Int)]
  (.tuple #[.int .u64 ((x * y / 18446744073709551616 : Nat) : Int), .int .u64 ((x * y % 18446744073709551616 : Nat) : Int)]) := fun w =>
 told <| F148.call _ _ w _ fun B => (c169 x y hx hy w).mono fun _ _ ⟨h1, h2⟩ => ⟨_, trivial, _, trivial, h1, fun _ => ret2 rfl rfl rfl ⟨rfl, h2⟩⟩
theorem c113 (x y : Nat) (hx : x < 18446744073709551616) (hy : y < 18446744073709551616) : Told 113 #[.int .u64 (x : Int), .int .u64 (y : Int)]
  (.tuple #[.int .u64 ((x * y / 18446744073709551616 : Nat) : Int), .int .u64 ((x * y % 18446744073709551616 : Nat) : Int)]) := fun w =>
 told <| F113.call _ _ w _ fun B => (c148 x y hx hy w).mono fun _ _ ⟨h1, h2⟩ => ⟨_, trivial, _, trivial, h1, fun _ => ret2 rfl rfl rfl ⟨rfl, h2⟩⟩
theorem mul_lt_sq (x y : Nat) (hx : x < 18446744073709551616) (hy : y < 18446744073709551616) : x * y ≤ 18446744073709551615 * 18446744073709551615 := Nat.mul_le_mul (by omega) (by omega)
theorem c158 (x y c : Nat) (hx : x < 18446744073709551616) (hy : y < 18446744073709551616) (hc : c < 18446744073709551616) : Told 158 #[.int .u64 (x : Int), .int .u64 (y : Int), .int .u64 (c : Int)]
  (.tuple #[.int .u64 (((x * y + c) / 18446744073709551616 : Nat) : Int), .int .u64 (((x * y + c) % 18446744073709551616 : Nat) : Int)]) := fun w =>
 told <| F158.call _ _ _ w _ fun B => (c148 x y hx hy w).mono fun _ w1 ⟨h1, h2⟩ => ⟨_, trivial, _, trivial, h1,
  (c163 (x * y % 18446744073709551616) c 0 (by omega) w1).mono fun _ w2 ⟨h3, h4⟩ => ⟨_, trivial, _, trivial, h3, fun _ => by
   have := mul_lt_sq x y hx hy
   refine ret2 rfl (intv ?_) (intv ?_) ⟨rfl, h4.trans h2⟩
   ·rw [addN, wrapN _ (by omega)]; omega
   ·omega⟩⟩
def blen (x : Nat) : Nat := if x = 0 then 0 else x.log2 + 1
theorem blen_lt (x : Nat) : x < 2 ^ blen x := by
 unfold blen; split
 ·omega
 ·exact Nat.lt_log2_self
theorem blen_le (x : Nat) (h : x ≠ 0) : 2 ^ (blen x - 1) ≤ x := by
 unfold blen; rw [if_neg h]; exact Nat.log2_self_le h
theorem blen_eq {x n : Nat} (h1 : x < 2 ^ n) (h2 : x ≠ 0 → 2 ^ (n - 1) ≤ x) (h3 : x = 0 → n = 0) : blen x = n := by
 by_cases h : x = 0
 ·rw [h3 h]; simp [blen, h]
 ·have a := blen_lt x
  have b := blen_le x h
  have c := h2 h
  have hb : blen x ≠ 0 := by unfold blen; rw [if_neg h]; omega
  have hn : n ≠ 0 := by intro e; subst e; omega
  have d1 : 2 ^ (blen x - 1) < 2 ^ n := Nat.lt_of_le_of_lt b h1
  have d2 : 2 ^ (n - 1) < 2 ^ blen x := Nat.lt_of_le_of_lt c a
  have e1 := (Nat.pow_lt_pow_iff_right (by omega : 1 < 2)).1 d1
  have e2 := (Nat.pow_lt_pow_iff_right (by omega : 1 < 2)).1 d2
  omega
theorem blen_zero : blen 0 = 0 := rfl
theorem blen_shift (x k : Nat) (h : 2 ^ k ≤ x) : blen x = blen (x / 2 ^ k) + k := by
 have hp := Nat.two_pow_pos k
 have hq : x / 2 ^ k ≠ 0 := by have := Nat.div_pos h hp; omega
 have a := blen_lt (x / 2 ^ k)
 have b := blen_le (x / 2 ^ k) hq
 have hb : blen (x / 2 ^ k) ≠ 0 := by unfold blen; rw [if_neg hq]; omega
 refine blen_eq ?_ (fun _ => ?_) (fun h0 => by subst h0; omega)
 ·rw [Nat.pow_add]; exact (Nat.div_lt_iff_lt_mul hp).1 a
 ·rw [show blen (x / 2 ^ k) + k - 1 = (blen (x / 2 ^ k) - 1) + k by omega, Nat.pow_add]
  exact (Nat.le_div_iff_mul_le hp).1 b
theorem blen_le_of_lt {x n : Nat} (h : x < 2 ^ n) : blen x ≤ n := by
 by_cases h0 : x = 0
 ·subst h0; simp [blen]
 ·have b := blen_le x h0
  have := (Nat.pow_lt_pow_iff_right (by omega : 1 < 2)).1 (Nat.lt_of_le_of_lt b h)
  omega
abbrev len8 : ByteArray := strK7
def blen8 (x : Nat) : Nat := if x = 0 then 0 else if x < 2 then 1 else if x < 4 then 2 else if x < 8 then 3 else if x < 16 then 4 else if x < 32 then 5 else if x < 64 then 6 else if x < 128 then 7 else 8
theorem blen8_eq (x : Nat) (h : x < 256) : blen x = blen8 x := by
 refine blen_eq ?_ (fun h0 => ?_) (fun h0 => by subst h0; rfl) <;> unfold blen8 <;> repeat' split
 all_goals (first | omega | (simp only [Nat.reducePow, Nat.reduceSub]; omega))
set_option maxRecDepth 100000 in
theorem len8_all : (List.range 256).all (fun k => match len8[k]? with
  | some c => Nat.beq c.toNat (blen8 k)
  | none => false) = true := by kernel_rfl
theorem len8_at (k : Nat) (h : k < 256) : ∃ c : UInt8, len8[k]? = some c ∧ c.toNat = blen k := by
 have := List.all_eq_true.1 len8_all k (List.mem_range.2 h)
 generalize len8[k]? = r at this ⊢
 cases r with
 | none => cases this
 | some c => exact ⟨c, rfl, by rw [blen8_eq k h]; exact Nat.eq_of_beq_eq_true this⟩
theorem wrapU8 (a : Nat) (h : a < 256) : IntKind.wrap .u8 (a : Int) = a := IntWalk.u8_in _ (by omega)
set_option maxRecDepth 100000 in
theorem p124_3 (x n : Nat) (hx : x < 256) (hn : n ≤ 64) (e : Env) (w : World) (R : Value → World → Prop) (ha : agree e (F124.l3 x n)) (hd : e.defers = []) (hR : R (.int .i64 ((n + blen x : Nat) : Int)) w) :
  W Tryz.prog 25 F124.p3 e w (retK Tryz.prog [.tmp 2] R) := by
 obtain ⟨c, hc, hb⟩ := len8_at x hx
 have hb8 : blen x ≤ 8 := blen_le_of_lt (by omega)
 refine F124.t3 _ _ ha fun B => ⟨x, c, wrapU8 x hx, hc, ?_, fun _ => ret1 hd rfl ?_⟩
 ·rw [hb, wrapIN _ (by omega)]; unfold inI64; omega
 ·rw [hb, wrapIN _ (by omega)]; exact hR
theorem c124 (x : Nat) (hx : x < 18446744073709551616) : Told 124 #[.int .u64 (x : Int)] (.int .i64 (blen x : Int)) := fun w =>
 told <| F124.call _ w _ fun B => by
  have s2 : ∀ (x n m : Nat) (e : Env), x < 65536 → n ≤ 48 → n + blen x = m → agree e (F124.l2 x n) → e.defers = [] →
    W Tryz.prog 25 F124.p2 e w (retK Tryz.prog [.tmp 2] fun u w' => u = Value.int .i64 (m : Int) ∧ w' = w) := by
   intro x n m e hx hn hm ha hd
   refine F124.t2 _ _ ha fun B => bc_intro (fun hb => ⟨by omega, by unfold inI64; omega, fun B1 => ?_⟩) (fun hb B1 => ?_)
   ·have h1 : 256 ≤ x := by have := dT hb; omega
    have hs := blen_shift x 8 (by omega)
    refine p124_3 (x / 256) (n + 8) (by omega) (by omega) _ w _ ⟨intv (iShrN x 8), rfl, trivial⟩ hd ⟨intv ?_, rfl⟩
    rw [show x / 256 = x / 2 ^ 8 from rfl]; omega
   ·have h1 : x < 256 := by have := dF hb; omega
    exact p124_3 x n h1 (by omega) _ w _ ⟨rfl, rfl, trivial⟩ hd ⟨by rw [hm], rfl⟩
  have s1 : ∀ (x n m : Nat) (e : Env), x < 4294967296 → n ≤ 32 → n + blen x = m → agree e (F124.l1 x n) → e.defers = [] →
    W Tryz.prog 25 F124.p1 e w (retK Tryz.prog [.tmp 2] fun u w' => u = Value.int .i64 (m : Int) ∧ w' = w) := by
   intro x n m e hx hn hm ha hd
   refine F124.t1 _ _ ha fun B => bc_intro (fun hb => ⟨by omega, by unfold inI64; omega, fun B1 => ?_⟩) (fun hb B1 => ?_)
   ·have h1 : 65536 ≤ x := by have := dT hb; omega
    have hs := blen_shift x 16 (by omega)
    exact s2 (x / 65536) (n + 16) m _ (by omega) (by omega) (by rw [show x / 65536 = x / 2 ^ 16 from rfl]; omega) ⟨intv (iShrN x 16), rfl, trivial⟩ hd
   ·have h1 : x < 65536 := by have := dF hb; omega
    exact s2 x n m _ h1 (by omega) hm ⟨rfl, rfl, trivial⟩ hd
  refine bc_intro (fun hb => ⟨by omega, fun B1 => ?_⟩) (fun hb B1 => ?_)
  ·have h1 : 4294967296 ≤ x := by have := dT hb; omega
   have hs := blen_shift x 32 (by omega)
   exact s1 (x / 4294967296) 32 _ _ (by omega) (by omega) (by rw [show x / 4294967296 = x / 2 ^ 32 from rfl]; omega) ⟨intv (iShrN x 32), rfl, trivial⟩ rfl
  ·have h1 : x < 4294967296 := by have := dF hb; omega
   exact s1 x 0 _ _ h1 (by omega) (by omega) ⟨rfl, rfl, trivial⟩ rfl
theorem c84 (x : Nat) (hx : x < 18446744073709551616) : Told 84 #[.int .u64 (x : Int)] (.int .i64 (blen x : Int)) := fun w =>
 told <| F84.call _ w _ fun B => (c124 x hx w).mono fun _ _ ⟨h1, h2⟩ => ⟨_, h1, fun _ => ret1 rfl rfl ⟨rfl, h2⟩⟩
theorem c112 (x : Nat) (hx : x < 18446744073709551616) : Told 112 #[.int .u64 (x : Int)] (.int .i64 ((64 - blen x : Nat) : Int)) := fun w =>
 have h := blen_le_of_lt (show x < 2 ^ 64 from hx)
 told <| F112.call _ w _ fun B => (c84 x hx w).mono fun _ _ ⟨h1, h2⟩ => ⟨_, h1, by unfold inI64; omega, fun _ => ret1 rfl (intv (show (64 : Int) - blen x = _ by omega)) ⟨rfl, h2⟩⟩
theorem c183 (x : Nat) (hx : x < 18446744073709551616) : Told 183 #[.int .u64 (x : Int)] (.int .i64 ((64 - blen x : Nat) : Int)) := fun w =>
 have h := blen_le_of_lt (show x < 2 ^ 64 from hx)
 told <| F183.call _ w _ fun B => (c124 x hx w).mono fun _ _ ⟨h1, h2⟩ => ⟨_, h1, by unfold inI64; omega, fun _ => ret1 rfl (intv (show (64 : Int) - blen x = _ by omega)) ⟨rfl, h2⟩⟩
theorem c78 (x : Nat) (hx : x < 18446744073709551616) : Told 78 #[.int .u64 (x : Int)] (.int .u64 ((64 - blen x : Nat) : Int)) := fun w =>
 told <| F78.call _ w _ fun B => (c112 x hx w).mono fun _ _ ⟨h1, h2⟩ => ⟨_, h1, fun _ => ret1 rfl (intv (wrapN _ (by omega))) ⟨rfl, h2⟩⟩
end Go.Proofs.YtlkjiiibmfpbcaaGreatDoor
namespace Go.Proofs.YtlkjiiibmfpbcaaGreatDoor
open Go
theorem neF {a b : Int} (h : a = b) : (a != b) = false := by subst h; simp
theorem eqT {a b : Int} (h : a = b) : (a == b) = true := by subst h; simp
theorem neT {a b : Int} (h : a ≠ b) : (a != b) = true := by simpa using h
theorem eqF {a b : Int} (h : a ≠ b) : (a == b) = false := by simpa using h
theorem eqE {a b : Int} (h : (a == b) = true) : a = b := by simpa using h
theorem neE {a b : Int} (h : (a != b) = false) : a = b := by simpa using h
theorem eqN {a b : Int} (h : (a == b) = false) : a ≠ b := by simpa using h
theorem neN {a b : Int} (h : (a != b) = true) : a ≠ b := by simpa using h
theorem decT {p : Prop} [Decidable p] (h : p) : decide p = true := decide_eq_true h
theorem decF {p : Prop} [Decidable p] (h : ¬ p) : decide p = false := decide_eq_false h
theorem dlt {Z k d : Nat} (hZ : Z < BB ^ k) (hd : d < 18446744073709551616) : Z + BB ^ k * d < BB ^ (k + 1) := by
 have : BB ^ k * d + BB ^ k ≤ BB ^ (k + 1) := by rw [BBpow_succ, ← Nat.mul_succ]; exact Nat.mul_le_mul_left _ hd
 omega
theorem dsum (p s : Nat) : p * (s % 18446744073709551616) + p * BB * (s / 18446744073709551616) = p * s := by
 show p * (s % BB) + p * BB * (s / BB) = p * s
 rw [Nat.mul_assoc, ← Nat.mul_add, Nat.mod_add_div]
theorem rdC {w : World} {s : Sl} {i : Int} {k d : Nat} {Q : Nat → Nat → Nat → Int → Prop} (ha : s.a = some ⟨s.b, s.o, none⟩) (hi : i = (k : Int)) (hk : k < s.l) (hc : w.cell? ⟨s.b, s.o + k, none⟩ = some (.int .u64 (d : Int)))
  (q : Q s.b s.o k d) : nc s.a fun b o => ∃ k' : Nat, i = (k' : Int) ∧ k' < s.l ∧ ∃ x, w.cell? ⟨b, o + k', none⟩ = some (.int .u64 x) ∧ Q b o k' x :=
 ⟨s.b, s.o, ha, k, hi, hk, _, hc, q⟩
theorem wtC {w : World} {s : Sl} {i : Int} {k : Nat} {Q : Nat → Nat → Nat → Prop} (hs : Wt w s) (hi : i = (k : Int)) (hk : k < s.l)
  (q : Q s.b s.o k) : nc s.a fun b o => ∃ k' : Nat, i = (k' : Int) ∧ k' < s.l ∧ ((∃ u, w.cell? ⟨b, o + k', none⟩ = some u) ∧ w.frozen? ⟨b, o + k', none⟩ = false ∧ Q b o k') :=
 ⟨s.b, s.o, hs.at_ (by omega), k, hi, hk, (hs.wr k hk).1, (hs.wr k hk).2, q⟩
theorem chgAt {w wr : World} {S : Set2} {x : Sl} {X k : Nat} (h : Chg w wr S) (hx : Rd w x X) (hk : k < x.l) (hd : ¬ S x.b (x.o + k)) : wr.cell? ⟨x.b, x.o + k, none⟩ = some (.int .u64 (dg X k : Int)) := by
 have := hx.sg k hk
 rw [h.cell (lt_of_cell this) hd]; exact this
theorem Rd.at0 {w : World} {x : Sl} {X k : Nat} (hx : Rd w x X) (hk : k < x.l) : x.a = some ⟨x.b, x.o, none⟩ := hx.at_ (by omega)
def digs (v n : Nat) : List Value := (List.range n).map fun j => .int .u64 (dg v j : Int)
theorem digs_len (v n : Nat) : (digs v n).length = n := by simp [digs]
theorem digs_get (v n j : Nat) (h : j < n) : (digs v n)[j]? = some (.int .u64 (dg v j : Int)) := by simp [digs, h]
theorem Chg.setCells {b : Nat} (S : Set2) : ∀ (vs : List Value) (o : Nat) (w : World), Own w b → (∀ j, j < vs.length → S b (o + j)) → Chg w (w.setCells b o vs) S
 | [], _, w, _, _ => Chg.refl w S
 | v :: r, o, w, hp, h => by
  refine (Chg.setCell hp S (by simpa using h 0 (by simp))).trans' (Chg.setCells S r (o + 1) _ (own_setCell hp) fun j hj => ?_)
  have := h (j + 1) (by simp; omega)
  rwa [show o + (j + 1) = o + 1 + j by omega] at this
theorem info61 : (Tryz.prog.info? 61).map (·.size) = some 1 := by kernel_rfl
theorem addr_add (b o j : Nat) : (⟨b, o, none⟩ : Addr).add j = ⟨b, o + j, none⟩ := by unfold Addr.add; split <;> simp_all
theorem copyT (t : TypeId) (ht : Tryz.prog.underlying t = some (.slice 61)) (z x : Sl) (n : Nat) (hn : n = min x.l z.l) (X : Nat) (w : World) (hz : Wt w (z.to n)) (hx : Rd w (x.to n) X) :
  ∃ w', Sem.run Tryz.prog (builtin .copy #[t, t] 3 #[false, false] #[z.v, x.v]) w = .ok (.value (.int .i64 (n : Int))) w' ∧ Sg w' z.b z.o n X ∧ Chg w w' (inR z.b z.o (z.o + n)) := by
 by_cases h0 : n = 0
 ·subst h0
  have := run_copy_none (P := Tryz.prog) w t t 3 61 z.a x.a z.l z.c x.l x.c ht info61 hn.symm
  refine ⟨w, ?_, Sg.zero, Chg.refl _ _⟩
  rw [BigFrame.builtin_copy]
  simp only [Sem.run_bind, Sl.v, this]
  rfl
 ·have za : z.a = some ⟨z.b, z.o, none⟩ := hz.at_ h0
  have xa : x.a = some ⟨x.b, x.o, none⟩ := hx.at_ h0
  have hp : Own w z.b := hz.pl h0
  have hd := run_copy_cells (P := Tryz.prog) w t t 3 61 z.b z.o z.l z.c ⟨x.b, x.o, none⟩ x.l x.c (digs X n) ht info61 (by rw [digs_len]; exact hn)
   (fun j v hv => by
    by_cases hj : j < n
    ·have hv := Option.some.inj ((digs_get X n j hj).symm.trans hv); subst hv
     rw [addr_add]
     exact hx.sg j hj
    ·rw [List.getElem?_eq_none (by rw [digs_len]; omega)] at hv; exact absurd hv (by simp))
   (fun j hj => by rw [digs_len] at hj; obtain ⟨u, hu⟩ := (hz.wr j hj).1; exact Option.isSome_iff_exists.2 ⟨u, hu⟩)
   (fun j hj => by rw [digs_len] at hj; exact (hz.wr j hj).2)
   (fun v hv => by simp only [digs, List.mem_map] at hv; obtain ⟨j, _, rfl⟩ := hv; rfl)
  refine ⟨_, ?_, ?_, Chg.setCells _ (digs X n) z.o w hp fun j hj => by rw [digs_len] at hj; exact ⟨rfl, by omega, by omega⟩⟩
  ·rw [BigFrame.builtin_copy]
   simp only [Sem.run_bind, Sl.v, za, xa, hd]
   rw [digs_len]; rfl
  ·intro i hi
   have := World.cell?_setCells_in z.b (digs X n) z.o w (fun j hj => by rw [digs_len] at hj; obtain ⟨u, hu⟩ := (hz.wr j hj).1; exact Option.isSome_iff_exists.2 ⟨u, hu⟩) i (by rw [digs_len]; exact hi)
   rw [this]; simp [digs]
theorem copyW (z x : Sl) (n : Nat) (hn : n = min x.l z.l) (X : Nat) (w : World) (hz : Wt w (z.to n)) (hx : Rd w (x.to n) X) :
  ∃ w', Sem.run Tryz.prog (builtin .copy #[44, 44] 3 #[false, false] #[z.v, x.v]) w = .ok (.value (.int .i64 (n : Int))) w' ∧ Sg w' z.b z.o n X ∧ Chg w w' (inR z.b z.o (z.o + n)) := copyT 44 Tryz.underlying44 z x n hn X w hz hx
end Go.Proofs.YtlkjiiibmfpbcaaGreatDoor
