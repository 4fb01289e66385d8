/- Laws of a power by squaring; what one step of the slow exponentiation does to a bank of four numbers and a stack. -/
import Derived.Test.YtlkjiiibmfpbcaaGreatDoorP25
import Derived.Test.YtlkjiiibmfpbcaaGreatDoorP26
namespace Go.Proofs.YtlkjiiibmfpbcaaGreatDoor
open Go
theorem pow_sq {Z X e M : Nat} (h : Z % M = X ^ e % M) : Z * Z % M = X ^ (2 * e) % M := by
 rw [Nat.mul_mod, h, ← Nat.mul_mod, ← Nat.pow_add, Nat.two_mul]
theorem pow_sq1 {Z X e M : Nat} (h : Z % M = X ^ e % M) : Z * Z * X % M = X ^ (2 * e + 1) % M := by
 rw [Nat.mul_mod, pow_sq h, ← Nat.mul_mod, Nat.pow_succ]
theorem topbit (v : Nat) (h : v < 18446744073709551616) : iAnd .u64 (v : Int) 9223372036854775808 = ((v / 9223372036854775808 * 9223372036854775808 : Nat) : Int) := by
 rw [show (9223372036854775808 : Int) = ((9223372036854775808 : Nat) : Int) from rfl, iAndN _ _ h (by omega)]
 refine congrArg (fun a : Nat => (a : Int)) (Nat.eq_of_testBit_eq fun i => ?_)
 rw [show v / 9223372036854775808 * 9223372036854775808 = v / 2 ^ 63 * 2 ^ 63 from rfl, Nat.testBit_and, show (9223372036854775808 : Nat) = 2 ^ 63 from rfl, Nat.testBit_two_pow, Nat.testBit_mul_two_pow, Nat.testBit_div_two_pow]
 by_cases hi : i = 63
 ·subst hi; simp
 ·by_cases h63 : 63 ≤ i
  ·have : v.testBit i = false := Nat.testBit_lt_two_pow (Nat.lt_of_lt_of_le (show v < 2 ^ 64 from h) (Nat.pow_le_pow_right (by omega) (by omega)))
   rw [show i - 63 + 63 = i by omega, this]; simp
  ·have h2 : ¬ (63 = i) := fun e => hi e.symm
   simp [h63, h2]
theorem shl1 (v : Nat) : iShl .u64 (v : Int) 1 = ((v * 2 % 18446744073709551616 : Nat) : Int) := shl64 v 1 (by omega)
theorem bits_step {v n j : Nat} (hn : n ≤ 64) (hj : j < n) (hv : v < 2 ^ n) :
  (v * 2 ^ (64 - n + j) % 18446744073709551616) / 9223372036854775808 = v / 2 ^ (n - (j + 1)) % 2 ∧ v * 2 ^ (64 - n + j) % 18446744073709551616 * 2 % 18446744073709551616 = v * 2 ^ (64 - n + (j + 1)) % 18446744073709551616 ∧
  v / 2 ^ (n - (j + 1)) = 2 * (v / 2 ^ (n - j)) + v / 2 ^ (n - (j + 1)) % 2 := by
 refine ⟨?_, ?_, ?_⟩
 ·refine Nat.eq_of_testBit_eq fun i => ?_
  rw [show (18446744073709551616 : Nat) = 2 ^ 64 from rfl, show (9223372036854775808 : Nat) = 2 ^ 63 from rfl, Nat.testBit_div_two_pow, Nat.testBit_mod_two_pow, Nat.testBit_mul_two_pow]
  rw [show v / 2 ^ (n - (j + 1)) % 2 = v / 2 ^ (n - (j + 1)) % 2 ^ 1 from rfl, Nat.testBit_mod_two_pow, Nat.testBit_div_two_pow]
  by_cases hi : i = 0
  ·subst hi
   have e1 : 64 - n + j ≤ 0 + 63 := by omega
   have e2 : 0 + 63 - (64 - n + j) = 0 + (n - (j + 1)) := by omega
   simp [e1, e2]
  ·have e1 : ¬ (i + 63 < 64) := by omega
   have e2 : ¬ (i < 1) := by omega
   simp [e1, e2]
 ·rw [show 64 - n + (j + 1) = (64 - n + j) + 1 by omega, Nat.pow_succ, ← Nat.mul_assoc]
  exact Nat.mod_mul_mod _ _ _
 ·have h1 : v / 2 ^ (n - j) = v / 2 ^ (n - (j + 1)) / 2 := by
   rw [Nat.div_div_eq_div_mul, ← Nat.pow_succ, show (n - (j + 1)).succ = n - j by omega]
  rw [h1]; omega
theorem bp_swap {a b c : Item} {L : List Item} : (a :: b :: c :: L).Perm (a :: c :: b :: L) := (List.Perm.swap _ _ _).cons _
theorem bp_mul {s z zz : Item} {L : List Item} : (s :: z :: zz :: L).Perm (zz :: s :: z :: L) := (bp_swap).trans (List.Perm.swap _ _ _)
theorem bp_mul' {s z r : Item} {L : List Item} : (r :: s :: z :: L).Perm (s :: r :: z :: L) := List.Perm.swap _ _ _
theorem bp_div {s z zz r q : Item} {L : List Item} : (s :: z :: zz :: r :: q :: L).Perm (s :: zz :: r :: z :: q :: L) :=
 ((List.Perm.swap _ _ _).trans ((List.Perm.swap _ _ _).cons _)).cons _
theorem bp_div' {s c rr z q : Item} {L : List Item} : (s :: c :: rr :: z :: q :: L).Perm (s :: rr :: q :: z :: c :: L) := by
 refine List.Perm.cons _ ?_
 refine (List.Perm.swap _ _ _).trans (List.Perm.cons _ ?_)
 exact ((List.Perm.swap _ _ _).cons _).trans ((List.Perm.swap _ _ _).trans ((List.Perm.swap _ _ _).cons _))
end Go.Proofs.YtlkjiiibmfpbcaaGreatDoor
namespace Go.Proofs.YtlkjiiibmfpbcaaGreatDoor
open Go
def Sub (w0 : World) (z0 s : Sl) : Prop := ∀ b i, b < w0.heap.size → fp s b i → fp z0 b i
theorem Sub.from_ {w0 w : World} {z0 s r : Sl} (h : Sub w0 z0 s) (hf : From w s r) (hs : w0.heap.size ≤ w.heap.size) : Sub w0 z0 r := fun b i hb hm => h b i hb (from_sub hf b i (Nat.lt_of_lt_of_le hb hs) hm)
theorem Sub.self (w0 : World) (z0 : Sl) : Sub w0 z0 z0 := fun _ _ _ h => h
structure Ex (w0 w : World) (K0 K : SK) (z0 z zz r q : Sl) (Z A B C : Nat) (L : List Item) : Prop where
 bank : Bank w (stk K :: nmz z Z :: nmz zz A :: nmz r B :: nmz q C :: L)
 ka : K.a = K0.a
 kl : K.s.l = K0.s.l
 kn : Nxt w0 K0 K
 ch : Chg w0 w (un (fp z0) K0.free)
 glb : Glb w0
 sz : Sub w0 z0 z
 szz : Sub w0 z0 zz
 sr : Sub w0 z0 r
 sq : Sub w0 z0 q
variable {w0 w : World} {K0 K : SK} {z0 z zz r q : Sl} {Z A B C : Nat} {L : List Item}
theorem Ex.chg (h : Ex w0 w K0 K z0 z zz r q Z A B C L) {w' : World} {s : Sl} (hs : Sub w0 z0 s) (hc : Chg w w' (un (fp s) K.free)) : Chg w0 w' (un (fp z0) K0.free) :=
 h.ch.trans hc (fun _ _ _ h => h) fun b i hb hm => hm.elim (fun hm => .inl (hs b i hb hm)) fun hm => .inr (h.kn.free hb hm)
theorem Ex.sqr (h : Ex w0 w K0 K z0 z zz r q Z A B C L) (lz : z.l < 80) (hL : K0.s.l ≤ 1099511627776) {Q : Ending → World → Prop}
  (c : ∀ (z' : Sl) (K' : SK) w', Ex w0 w' K0 K' z0 z' z r q (Z * Z) Z B C L → Q (.returned z'.v) w') : Calls Tryz.prog 79 #[zz.v, .pointer K0.a, z.v] w Q := by
 have hb := h.bank.perm (bp_swap (a := stk K))
 have hzz : St w zz := (hb.all (nmz zz A) (by simp)).toSt
 have := sqr_bank (z := zz) (x := z) (X := Z) hb rfl hzz (by simp) lz (by rw [h.kl]; omega) (h.ch.glb h.glb) (Q := Q) fun r' K' w' h1 h2 h3 h4 h5 h6 =>
  c r' K' w' ⟨h1, h2.trans h.ka, h3.trans h.kl, h.kn.trans h4 h.ch.size, h.chg h.szz h6, h.glb, h.szz.from_ h5 h.ch.size, h.sz, h.sr, h.sq⟩
 rw [h.ka] at this
 exact this
theorem Ex.mul (h : Ex w0 w K0 K z0 z zz r q Z A B C L) {x : Sl} {X : Nat} {p : Option Addr} (hx : nmz x X ∈ L) (lz : z.l ≤ 1000) (lx : x.l < 40) {Q : Ending → World → Prop}
  (c : ∀ (z' : Sl) w', Ex w0 w' K0 K z0 z' z r q (Z * X) Z B C L → Q (.returned z'.v) w') : Calls Tryz.prog 80 #[zz.v, .pointer p, z.v, x.v] w Q := by
 have hb := h.bank.perm bp_mul
 have hzz : St w zz := (hb.all (nmz zz A) (by simp)).toSt
 exact mul_bank (z := zz) (x := z) (y := x) (X := Z) (Y := X) hb rfl hzz (by simp) (by simp [hx]) (by unfold Len; omega) (by unfold Len; omega) (.inr lx) (h.ch.glb h.glb) fun r' w' h1 h2 h3 =>
  c r' w' ⟨h1.perm bp_mul', h.ka, h.kl, h.kn, h.chg h.szz (h3.l _), h.glb, h.szz.from_ h2 h.ch.size, h.sz, h.sr, h.sq⟩
theorem Ex.div (h : Ex w0 w K0 K z0 z zz r q Z A B C L) {m : Sl} {M : Nat} (hm : nmz m M ∈ L) (hM : M ≠ 0) (lz : z.l ≤ 1000000) (lm : m.l < 40) (hL : K0.s.l ≤ 1099511627776) {Q : Ending → World → Prop}
  (c : ∀ (q' z' : Sl) (K' : SK) w', Ex w0 w' K0 K' z0 z' q z q' (Z % M) C Z (Z / M) L → Q (.returned (.tuple #[q'.v, z'.v])) w') : Calls Tryz.prog 81 #[zz.v, .pointer K0.a, r.v, z.v, m.v] w Q := by
 have hb := h.bank.perm bp_div
 have hzz : St w zz := (hb.all (nmz zz A) (by simp)).toSt
 have hr : St w r := (hb.all (nmz r B) (by simp)).toSt
 have := div_bank (z := zz) (u := r) (x := z) (y := m) (U := Z) (V := M) hb rfl rfl hzz hr (by simp) (by simp [hm]) hM lm (by omega) (by rw [h.kl]; exact hL) (h.ch.glb h.glb) (Q := Q) fun q' z' K' w' h1 h2 h3 h4 h5 h6 h7 =>
  c q' z' K' w' ⟨h1.perm bp_div', h2.trans h.ka, h3.trans h.kl, h.kn.trans h4 h.ch.size, h.ch.trans h7 (fun _ _ _ h => h) (fun b i hb hm => ?_), h.glb, h.sr.from_ h6 h.ch.size, h.sq, h.sz, h.szz.from_ h5 h.ch.size⟩
 ·rw [h.ka] at this
  exact this
 ·rcases hm with (hm | hm) | hm
  ·exact .inl (h.szz b i hb hm)
  ·exact .inl (h.sr b i hb hm)
  ·exact .inr (h.kn.free hb hm)
theorem Ex.z_ (h : Ex w0 w K0 K z0 z zz r q Z A B C L) : Nz w z Z := h.bank.all (nmz z Z) (by simp)
theorem Ex.mem (h : Ex w0 w K0 K z0 z zz r q Z A B C L) {a : Item} (ha : a ∈ L) : a.P w := h.bank.all a (by simp [ha])
end Go.Proofs.YtlkjiiibmfpbcaaGreatDoor
namespace Go.Proofs.YtlkjiiibmfpbcaaGreatDoor
open Go
theorem nil_nz (w : World) (hg : GB ≤ w.heap.size) (w' : World) (hc : Chg w w' none2) : Nz w' (nilS w) 0 := hc.nz_none (by have := nz_zero (nilSt w hg); exact this)
theorem nil_dj (w : World) (S : Set2) : Dj S (fp (nilS w)) := fun b i _ hm => by
 have h1 : 0 ≤ i := hm.2.1
 have h2 : i < 0 + 0 := hm.2.2
 omega
theorem Bank.addNil {w : World} {L : List Item} (h : Bank w L) (w0 : World) (hg : GB ≤ w0.heap.size) (hn : Nz w (nilS w0) 0) : Bank w (nmz (nilS w0) 0 :: L) :=
 ⟨fun a ha => by
  rcases List.mem_cons.1 ha with rfl | ha
  ·exact hn
  ·exact h.all a ha, List.pairwise_cons.2 ⟨fun b _ => Dj.symm (nil_dj w0 _), h.dj⟩⟩
theorem len_of_lt {w : World} {s : Sl} {V n : Nat} (h : Nz w s V) (hV : V < BB ^ n) : s.l ≤ n := h.nm n hV
theorem slow51 {w : World} {K0 : SK} {z x y m : Sl} {X Y M : Nat} {a : Item} {L : List Item} (h : Bank w (stk K0 :: a :: L)) (ha : a.fp = fp z) (hz : St w z) (hx : nmz x X ∈ L) (hy : nmz y Y ∈ L) (hm : nmz m M ∈ L) (hM : M ≠ 0) (hxl : x.l < 40) (hml : m.l < 40) (hyl : y.l = 1) (hY2 : 2 ≤ Y) (hL : K0.s.l ≤ 1099511627776) (hg : Glb w)
  (e : Env) (R : Value → World → Prop) (hR : ∀ (r : Sl) (K' : SK) w', Bank w' (stk K' :: nmz r (X ^ Y % M) :: L) → K'.a = K0.a → K'.s.l = K0.s.l → Nxt w K0 K' → Sub w z r → Chg w w' (un (fp z) K0.free) → runD Tryz.prog e.defers w' fun w'' => R r.v w'') (hag : agree e (F51.l3 z.a z.l z.c K0.a x.a x.l x.c y.a y.l y.c m.a m.l m.c)) :
  W Tryz.prog 250 F51.p3 e w (retK Tryz.prog [.tmp 12] R) := by
 have hxP : Nz w x X := h.all (nmz x X) (by simp [hx])
 have hyP : Nz w y Y := h.all (nmz y Y) (by simp [hy])
 have hmP : Nz w m M := h.all (nmz m M) (by simp [hm])
 have hm0 : m.l ≠ 0 := fun h0 => hM (Nz.zero hmP.toNt h0)
 have hYB : Y < 18446744073709551616 := by have := hyP.lt; rw [hyl, Nat.pow_one] at this; exact this
 have hY0 : Y ≠ 0 := by
  have := hyP.nm.le (by omega)
  rw [hyl] at this; simp at this; omega
 have hbl := blen_le64 Y hYB
 have hbl0 := blen_ne Y hY0
 have hYd : dg Y 0 = Y := dg_self Y hYB
 refine F51.t3 z.a z.l z.c K0.a x.a x.l x.c y.a y.l y.c m.a m.l m.c hag fun B => ResE.pass (c60 z x X w hz hxP (by unfold Len; omega)) fun r w1 h1 h2 h3 => ⟨_, _, _, rfl, by unfold inI64; omega, ?_⟩
 have hb1 : Bank w1 (nmz r X :: stk K0 :: L) := (h.perm (List.Perm.swap _ _ _)).res ha h2 h3 h1 rfl
 have hy1 : Nz w1 y Y := hb1.all (nmz y Y) (by simp [hy])
 have hcell := hy1.sg 0 (by omega)
 rw [hYd] at hcell
 refine rdC (k := 0) (hy1.at_ (by have := hy1.lc; omega)) (by omega) (by omega) hcell ((c78 Y hYB w1).mono ?_)
 rintro e' w2 ⟨rfl, hw⟩
 have hw := hw.symm
 subst hw
 have es : IntKind.wrap .u64 (((64 - blen Y : Nat) : Int) + 1) = ((64 - blen Y + 1 : Nat) : Int) := by
  rw [show ((((64 - blen Y : Nat) : Int)) + 1) = ((64 - blen Y + 1 : Nat) : Int) by omega, wrapN _ (by omega)]
 refine ⟨_, rfl, ?_⟩
 rw [es, wrapIN _ (by omega)]
 refine ⟨by omega, by unfold inI64; omega, fun B1 => ?_⟩
 have hgw : GB ≤ w.heap.size := hg.gb
 have n0 : Nz w1 (nilS w) 0 := by
  have h0 := nz_zero (nilSt w hgw)
  exact h3.nz h0 fun i hi => absurd hi (Nat.not_lt_zero i)
 have hb2 : Bank w1 (stk K0 :: nmz r X :: nmz (nilS w) 0 :: nmz (nilS w) 0 :: nmz (nilS w) 0 :: L) := by
  have a1 := hb1.addNil w hgw n0
  have a2 := a1.addNil w hgw n0
  have a3 := a2.addNil w hgw n0
  refine a3.perm ?_
  have p1 : ∀ (n1 n2 n3 r s : Item) (L : List Item), (n1 :: n2 :: n3 :: r :: s :: L).Perm (s :: r :: n1 :: n2 :: n3 :: L) := fun n1 n2 n3 r s L => by
   have q1 : ([n1, n2, n3] ++ (r :: s :: L)).Perm (r :: ([n1, n2, n3] ++ (s :: L))) := List.perm_middle
   have q2 : ([n1, n2, n3] ++ (s :: L)).Perm (s :: ([n1, n2, n3] ++ L)) := List.perm_middle
   exact q1.trans ((q2.cons r).trans (List.Perm.swap _ _ _))
  exact p1 _ _ _ _ _ _
 have subn : Sub w z (nilS w) := fun b i _ hm' => by
  have h1 : 0 ≤ i := hm'.2.1
  have h2 : i < 0 + 0 := hm'.2.2
  omega
 have ex0 : Ex w w1 K0 K0 z r (nilS w) (nilS w) (nilS w) X 0 0 0 L := ⟨hb2, rfl, rfl, Nxt.refl _ _, h3.l _, hg, (Sub.self w z).from_ h2 (Nat.le_refl _), subn, subn, subn⟩
 obtain ⟨nb, hnb⟩ : ∃ nb, blen Y = nb + 1 := ⟨blen Y - 1, by omega⟩
 have hYlt : Y < 2 ^ (nb + 1) := by rw [← hnb]; exact blen_lt Y
 have hYge : 2 ^ nb ≤ Y := by have := blen_le Y hY0; rw [hnb] at this; exact this
 have hmM : M < BB ^ m.l := hmP.lt
 rw [F51.q6]
 refine W_for' (σ := Nat × Sl × Sl × Sl × Sl) (fun s => [(0, s.2.1.v), (1, .pointer K0.a), (2, x.v), (3, y.v), (4, m.v), (15, .int .u64 ((Y * 2 ^ (64 - (nb + 1) + (s.1 + 1)) % 18446744073709551616 : Nat) : Int)), (17, s.2.2.2.2.v), (18, .int .i64 (nb : Int)), (19, s.2.2.1.v), (20, s.2.2.2.1.v), (21, .int .i64 (s.1 : Int))])
  (fun s wr => s.1 ≤ nb ∧ s.2.1.l < 40 ∧ ∃ K Z A B C, Ex w wr K0 K z s.2.1 s.2.2.1 s.2.2.2.1 s.2.2.2.2 Z A B C L ∧ Z % M = X ^ (Y / 2 ^ (nb + 1 - (s.1 + 1))) % M ∧ (s.1 ≠ 0 → Z < M))
  (fun s => nb - s.1) (0, r, nilS w, nilS w, nilS w) ⟨rfl, rfl, rfl, rfl, rfl, intv ?_, rfl, intv (by omega), rfl, rfl, rfl, trivial⟩ ⟨Nat.zero_le _, ?_, K0, X, 0, 0, 0, ex0, ?_, fun h => absurd rfl h⟩ ?_
 ·rw [shl64 _ _ (by omega), hnb]
 ·exact Nat.lt_of_le_of_lt (h1.nm _ hxP.lt) hxl
 ·show X % M = X ^ (Y / 2 ^ (nb + 1 - (0 + 1))) % M
  have : Y / 2 ^ (nb + 1 - (0 + 1)) = 1 := by
   rw [show nb + 1 - (0 + 1) = nb by omega]
   refine Nat.div_eq_of_lt_le (by omega) ?_
   rw [Nat.pow_succ] at hYlt; omega
  rw [this, Nat.pow_one]
 rintro ⟨j, z1, zz, rr, qq⟩ B2 wr K2 ⟨hj, hzl, K, Z, A, B', C, ex, hZ, hlt⟩ hKn hKe _
 simp only at hj hzl ex hZ hlt
 obtain ⟨v15, hv15⟩ : ∃ v15, v15 = Y * 2 ^ (64 - (nb + 1) + (j + 1)) % 18446744073709551616 := ⟨_, rfl⟩
 have hv15B : v15 < 18446744073709551616 := by rw [hv15]; exact Nat.mod_lt _ (by omega)
 rw [← hv15]
 refine F51.t5 z1.a z1.l z1.c K0.a x.a x.l x.c y.a y.l y.c m.a m.l m.c v15 qq.a qq.l qq.c nb zz.a zz.l zz.c rr.a rr.l rr.c j ⟨rfl, rfl, rfl, rfl, rfl, rfl, rfl, rfl, rfl, rfl, rfl, trivial⟩ fun B3 => bc_intro (fun hb => ?_) (fun hb B4 => ?_)
 ·have hjn : j < nb := by have := dT hb; omega
  obtain ⟨b1, b2, b3⟩ := bits_step (v := Y) (n := nb + 1) (j := j + 1) (by omega) (by omega) hYlt
  rw [← hv15] at b1 b2
  have fin : ∀ (z' zz' : Sl) (K' : SK) (w' : World) (Z' A' e' : Nat) (B6 : Nat → Value), z'.l ≤ 200 → Ex w w' K0 K' z z' zz' rr qq Z' A' B' C L → Z' % M = X ^ e' % M → e' = Y / 2 ^ (nb + 1 - (j + 1 + 1)) →
    W Tryz.prog 250 F51.p11 (E [(0, z'.v), (1, .pointer K0.a), (2, x.v), (3, y.v), (4, m.v), (15, .int .u64 (v15 : Int)), (17, qq.v), (18, .int .i64 (nb : Int)), (19, zz'.v), (20, rr.v), (21, .int .i64 (j : Int))] B6 e.defers) w' (blockK 1 (thenW Tryz.prog 250 F51.p10 K2)) := by
   intro z' zz' K' w' Z' A' e' B6 hl ex' hz' he'
   refine F51.t11 z'.a z'.l z'.c K0.a x.a x.l x.c y.a y.l y.c m.a m.l m.c v15 qq.a qq.l qq.c nb zz'.a zz'.l zz'.c rr.a rr.l rr.c j ⟨rfl, rfl, rfl, rfl, rfl, rfl, rfl, rfl, rfl, rfl, rfl, trivial⟩ fun B7 => bc_true (neT (by omega)) (ex'.div hm hM (by omega) hml hL fun q' z'' K'' w'' ex'' => ⟨_, _, _, trivial, _, _, _, trivial, rfl, fun B8 => ?_⟩)
   refine F51.t15 z''.a z''.l z''.c K0.a x.a x.l x.c y.a y.l y.c m.a m.l m.c v15 q'.a q'.l q'.c nb qq.a qq.l qq.c z'.a z'.l z'.c j ⟨rfl, rfl, rfl, rfl, rfl, rfl, rfl, rfl, rfl, rfl, rfl, trivial⟩ fun B9 => ⟨by omega, fun B10 => ?_⟩
   have hlt' : Z' % M < M := Nat.mod_lt _ (by omega)
   refine F51.t10 z''.a z''.l z''.c K0.a x.a x.l x.c y.a y.l y.c m.a m.l m.c _ q'.a q'.l q'.c nb qq.a qq.l qq.c z'.a z'.l z'.c j ⟨rfl, rfl, rfl, rfl, rfl, rfl, rfl, rfl, rfl, rfl, rfl, trivial⟩ fun B11 => ⟨by unfold inI64; omega, fun B12 => hKn _ _ (j + 1, z'', qq, z', q') ⟨rfl, rfl, rfl, rfl, rfl, intv (by rw [shl1, b2]), rfl, rfl, rfl, rfl, rfl, trivial⟩ rfl ⟨hjn, ?_, K'', Z' % M, C, Z', Z' / M, ex'', ?_, fun _ => hlt'⟩ (by show nb - (j + 1) < nb - j; omega)⟩
   ·exact Nat.lt_of_le_of_lt (ex''.z_.nm _ (Nat.lt_trans hlt' hmM)) hml
   ·show Z' % M % M = X ^ (Y / 2 ^ (nb + 1 - (j + 1 + 1))) % M
    rw [Nat.mod_mod, hz', he']
  refine ex.sqr (by omega) hL fun z' K' w' ex' => ⟨_, _, _, rfl, ?_⟩
  have hzz1 : Z < BB ^ z1.l := ex.z_.lt
  have hl1 : z'.l ≤ z1.l + z1.l := ex'.z_.nm _ (prod_lt hzz1 hzz1)
  rw [topbit v15 hv15B, b1]
  refine bc_intro (fun hb => ?_) (fun hb B4 => ?_)
  ·have hbit : Y / 2 ^ (nb + 1 - (j + 1 + 1)) % 2 = 1 := by have := neN hb; omega
   refine ex'.mul hx (by omega) hxl fun z'' w'' ex'' => ⟨_, _, _, rfl, fun B5 => fin z'' z' K' w'' _ _ _ B5 ?_ ex'' (pow_sq1 hZ) (by rw [b3, hbit])⟩
   have : z''.l ≤ z'.l + x.l := ex''.z_.nm _ (prod_lt ex'.z_.lt (ex'.mem hx : Nz w' x X).lt)
   omega
  ·have hbit : Y / 2 ^ (nb + 1 - (j + 1 + 1)) % 2 = 0 := by have := neE hb; omega
   exact fin z' z1 K' w' _ _ _ B4 (by omega) ex' (pow_sq hZ) (by rw [b3, hbit]; rfl)
 ·have hjn : j = nb := by have := dF hb; omega
  subst hjn
  have hj0 : j ≠ 0 := by
   rintro rfl
   rw [Nat.pow_succ, Nat.pow_zero] at hYlt; omega
  have hZe : Z = X ^ Y % M := by
   have := hZ
   rw [Nat.sub_self, Nat.pow_zero, Nat.div_one, Nat.mod_eq_of_lt (hlt hj0)] at this
   exact this
  subst hZe
  have hz1 := ex.z_
  refine hKe _ _ (F51.t4 z1.a z1.l z1.c K0.a x.a x.l x.c y.a y.l y.c m.a m.l m.c qq.a qq.l qq.c zz.a zz.l zz.c rr.a rr.l rr.c ⟨rfl, rfl, rfl, rfl, rfl, rfl, rfl, rfl, trivial⟩ fun B5 => ⟨by unfold inI64; omega, fun B6 => ?_⟩)
  rw [F51.q9]
  refine W_for' (σ := Unit) (fun _ => [(0, z1.v), (1, .pointer K0.a), (2, x.v), (3, y.v), (4, m.v), (17, qq.v), (19, zz.v), (20, rr.v), (22, .int .i64 (-1))]) (fun _ w' => w' = wr) (fun _ => 0) () ⟨rfl, rfl, rfl, rfl, rfl, rfl, rfl, rfl, intv (by rw [hyl]; rfl), trivial⟩ rfl ?_
  rintro _ B7 w' K3 hw _ hKe3 _
  have hw := hw.symm
  subst hw
  refine F51.t8 z1.a z1.l z1.c K0.a x.a x.l x.c y.a y.l y.c m.a m.l m.c qq.a qq.l qq.c zz.a zz.l zz.c rr.a rr.l rr.c (-1) ⟨rfl, rfl, rfl, rfl, rfl, rfl, rfl, rfl, rfl, trivial⟩ fun B8 => bc_false (decF (by omega)) fun B9 => hKe3 _ _ (F51.t7 z1.a z1.l z1.c ⟨rfl, trivial⟩ fun B10 => (c46 z1 (X ^ Y % M) wr hz1.toNt (by omega)).mono ?_)
  rintro e' w' ⟨_, rfl, k, hk, rfl, hw, hnz⟩
  have hw := hw.symm
  subst hw
  refine ⟨_, _, _, rfl, fun B11 => ?_⟩
  have hbk : Bank wr (stk K :: nmz (z1.to k) (X ^ Y % M) :: L) := by
   have hA : Bank wr [stk K, nmz (z1.to k) (X ^ Y % M)] := Bank.two ex.bank.head hnz (ex.bank.hdj (b := nmz z1 (X ^ Y % M)) (by simp))
   have hL' : Bank wr L := ex.bank.tail.tail.tail.tail.tail
   refine ⟨fun t ht => ?_, ?_⟩
   ·rcases List.mem_cons.1 ht with rfl | ht
    ·exact ex.bank.head
    ·rcases List.mem_cons.1 ht with rfl | ht
     ·exact hnz
     ·exact hL'.all t ht
   ·refine List.pairwise_cons.2 ⟨fun t ht => ?_, List.pairwise_cons.2 ⟨fun t ht => ex.bank.tail.hdj (b := t) (by simp [ht]), hL'.dj⟩⟩
    rcases List.mem_cons.1 ht with rfl | ht
    ·exact ex.bank.hdj (b := nmz z1 (X ^ Y % M)) (by simp)
    ·exact ex.bank.hdj (b := t) (by simp [ht])
  exact hR (z1.to k) K wr hbk ex.ka ex.kl ex.kn ex.sz ex.ch
end Go.Proofs.YtlkjiiibmfpbcaaGreatDoor
namespace Go.Proofs.YtlkjiiibmfpbcaaGreatDoor
open Go
theorem odd_pow {x : Nat} (hx : x % 2 = 1) : ∀ L : Nat, x ^ 2 ^ L % 2 ^ (L + 1) = 1
 | 0 => by simpa using hx
 | L + 1 => by
  have ih := odd_pow hx L
  have h1 := Nat.mod_add_div (x ^ 2 ^ L) (2 ^ (L + 1))
  rw [ih] at h1
  have h2 : x ^ 2 ^ (L + 1) = x ^ 2 ^ L * x ^ 2 ^ L := by rw [Nat.pow_succ 2 L, Nat.mul_two, Nat.pow_add]
  rw [h2, ← h1]
  generalize x ^ 2 ^ L / 2 ^ (L + 1) = k
  have h3 : (1 + 2 ^ (L + 1) * k) * (1 + 2 ^ (L + 1) * k) = 1 + 2 ^ (L + 1 + 1) * (k + 2 ^ L * (k * k)) := by
   have e1 : 2 ^ (L + 1 + 1) = 2 * 2 ^ (L + 1) := by rw [Nat.pow_succ, Nat.mul_comm]
   have e2 : 2 ^ (L + 1) * k * (2 ^ (L + 1) * k) = 2 * 2 ^ (L + 1) * (2 ^ L * (k * k)) := by
    rw [Nat.mul_mul_mul_comm, Nat.pow_succ, Nat.mul_comm (2 ^ L) 2]
    simp only [Nat.mul_assoc, Nat.mul_left_comm]
   rw [e1, Nat.add_mul, Nat.one_mul, Nat.mul_add, Nat.mul_one, e2, Nat.mul_add, Nat.mul_assoc 2, Nat.mul_assoc 2]
   omega
  rw [h3, Nat.add_mul_mod_self_left]
  exact Nat.mod_eq_of_lt (Nat.one_lt_two_pow (by omega))
theorem odd_pow_mod {x : Nat} (hx : x % 2 = 1) (L y : Nat) : x ^ y % 2 ^ (L + 1) = x ^ (y % 2 ^ L) % 2 ^ (L + 1) := by
 have h1 : x ^ y = x ^ (y % 2 ^ L) * (x ^ 2 ^ L) ^ (y / 2 ^ L) := by
  rw [← Nat.pow_mul, ← Nat.pow_add, Nat.mod_add_div]
 have h2 : (x ^ 2 ^ L) ^ (y / 2 ^ L) % 2 ^ (L + 1) = 1 % 2 ^ (L + 1) := by rw [Nat.pow_mod, odd_pow hx L, Nat.one_pow]
 rw [h1, Nat.mul_mod, h2, ← Nat.mul_mod, Nat.mul_one]
theorem even_pow_mod {x : Nat} (hx : x % 2 = 0) {L y : Nat} (h : L ≤ y) : x ^ y % 2 ^ L = 0 := by
 obtain ⟨t, rfl⟩ : ∃ t, x = 2 * t := ⟨x / 2, by omega⟩
 have hd : 2 ^ L ∣ (2 * t) ^ y := Nat.dvd_trans (Nat.pow_dvd_pow 2 h) ⟨t ^ y, by rw [Nat.mul_pow]⟩
 exact Nat.mod_eq_zero_of_dvd hd
end Go.Proofs.YtlkjiiibmfpbcaaGreatDoor
namespace Go.Proofs.YtlkjiiibmfpbcaaGreatDoor
open Go
theorem newton_id (k t m : Int) : k * (t * t + 1) * m + t * t * (t * t) - 1 = (k * m + t * t - 1) * (t * t + 1) := by grind
theorem newton_step {k t m B k' t' : Int} (h : B ∣ k * m + t * t - 1) (hk : B ∣ k * (t' + 1) - k') (ht : B ∣ t * t - t') : B ∣ k' * m + t' * t' - 1 := by
 obtain ⟨q, hq⟩ := h
 obtain ⟨a, ha⟩ := hk
 obtain ⟨b, hb⟩ := ht
 refine ⟨q * (t * t + 1) - m * a - m * k * b - b * (t * t + t'), ?_⟩
 grind
theorem sq_dvd {a t : Nat} (h : a ∣ t) : a * a ∣ t * t := Nat.mul_dvd_mul h h
theorem two_pow_sq (c : Nat) : 2 ^ 2 ^ c * 2 ^ 2 ^ c = 2 ^ 2 ^ (c + 1) := by rw [← Nat.pow_add, Nat.pow_succ 2 c, Nat.mul_two]
theorem shl_i64 (c : Nat) (hc : c ≤ 6) : iShl .i64 ((2 ^ c : Nat) : Int) 1 = ((2 ^ (c + 1) : Nat) : Int) := by
 rcases (show c = 0 ∨ c = 1 ∨ c = 2 ∨ c = 3 ∨ c = 4 ∨ c = 5 ∨ c = 6 by omega) with rfl | rfl | rfl | rfl | rfl | rfl | rfl <;> rfl
theorem k0loop (z x y m : Sl) (stk : Option Addr) (n m0 : Nat) (hm : m0 % 2 = 1) (hmB : m0 < 18446744073709551616) (e : Env) (w : World) (K : Kont) (ha : agree e (F74.l4 z.a z.l z.c stk x.a x.l x.c y.a y.l y.c m.a m.l m.c n (IntKind.wrap .u64 (2 - (m0 : Int))) (IntKind.wrap .u64 ((m0 : Int) - 1)) 1))
  (hK : ∀ (k0 : Nat) (e' : Env), k0 < 18446744073709551616 → k0 * m0 % 18446744073709551616 = 1 → agree e' (F74.l3 z.a z.l z.c stk x.a x.l x.c y.a y.l y.c m.a m.l m.c n k0) → e'.defers = e.defers → K .normal e' w) : W Tryz.prog 239 F74.p5 e w K := by
 rw [F74.q5]
 have e1 : IntKind.wrap .u64 (2 - (m0 : Int)) = (((2 + 18446744073709551616 - m0) % 18446744073709551616 : Nat) : Int) := by rw [wrapE]; omega
 have e2 : IntKind.wrap .u64 ((m0 : Int) - 1) = ((m0 - 1 : Nat) : Int) := by rw [show ((m0 : Int) - 1) = ((m0 - 1 : Nat) : Int) by omega, wrapN _ (by omega)]
 rw [e1, e2] at ha
 refine W_for' (σ := Nat × Nat × Nat) (fun s => [(0, z.v), (1, .pointer stk), (2, x.v), (3, y.v), (4, m.v), (11, .int .i64 (n : Int)), (13, .int .u64 (s.2.1 : Int)), (14, .int .u64 (s.2.2 : Int)), (15, .int .i64 ((2 ^ s.1 : Nat) : Int))])
  (fun s w' => s.1 ≤ 6 ∧ s.2.1 < 18446744073709551616 ∧ s.2.2 < 18446744073709551616 ∧ (18446744073709551616 : Int) ∣ (s.2.1 : Int) * m0 + (s.2.2 : Int) * s.2.2 - 1 ∧ 2 ^ 2 ^ s.1 ∣ s.2.2 ∧ w' = w) (fun s => 6 - s.1) (0, (2 + 18446744073709551616 - m0) % 18446744073709551616, m0 - 1) ha
  ⟨Nat.zero_le _, Nat.mod_lt _ (by omega), by show m0 - 1 < _; omega, ?_, ?_, rfl⟩ ?_
 ·obtain ⟨q, hq⟩ : ∃ q : Int, (((2 + 18446744073709551616 - m0) % 18446744073709551616 : Nat) : Int) = 2 - m0 + 18446744073709551616 * q := by
   rcases Nat.lt_or_ge 2 m0 with h | h
   ·exact ⟨1, by omega⟩
   ·exact ⟨0, by omega⟩
  show (18446744073709551616 : Int) ∣ (((2 + 18446744073709551616 - m0) % 18446744073709551616 : Nat) : Int) * m0 + ((m0 - 1 : Nat) : Int) * ((m0 - 1 : Nat) : Int) - 1
  rw [hq, show ((m0 - 1 : Nat) : Int) = (m0 : Int) - 1 by omega]
  exact ⟨q * m0, by grind⟩
 ·show 2 ^ 2 ^ 0 ∣ m0 - 1
  exact ⟨(m0 - 1) / 2, by simp; omega⟩
 rintro ⟨c, k, t⟩ B wr K0 ⟨hc, hkB, htB, hd, h2, hw⟩ hKn hKe _
 simp only at hc hkB htB hd h2 hw
 have hw := hw.symm
 subst hw
 refine F74.t4 z.a z.l z.c stk x.a x.l x.c y.a y.l y.c m.a m.l m.c n k t ((2 ^ c : Nat) : Int) ⟨rfl, rfl, rfl, rfl, rfl, rfl, rfl, rfl, rfl, trivial⟩ fun B1 => bc_intro (fun hb => ⟨by omega, fun B2 => ?_⟩) (fun hb B2 => ?_)
 ·have hc6 : c < 6 := by
   have := dT hb
   rcases Nat.lt_or_ge c 6 with h | h
   ·exact h
   ·have : c = 6 := by omega
    subst this; omega
  have et : IntKind.wrap .u64 ((t : Int) * (t : Int)) = ((t * t % 18446744073709551616 : Nat) : Int) := by rw [mulN, wrapM]
  rw [et]
  have ek : IntKind.wrap .u64 ((k : Int) * IntKind.wrap .u64 (((t * t % 18446744073709551616 : Nat) : Int) + 1)) = ((k * ((t * t % 18446744073709551616 + 1) % 18446744073709551616) % 18446744073709551616 : Nat) : Int) := by
   rw [show (((t * t % 18446744073709551616 : Nat) : Int) + 1) = ((t * t % 18446744073709551616 + 1 : Nat) : Int) by omega, wrapM, mulN, wrapM]
  refine hKn _ _ (c + 1, k * ((t * t % 18446744073709551616 + 1) % 18446744073709551616) % 18446744073709551616, t * t % 18446744073709551616) ⟨rfl, rfl, rfl, rfl, rfl, rfl, intv ek, rfl, intv (shl_i64 c hc), trivial⟩ rfl ⟨hc6, Nat.mod_lt _ (by omega), Nat.mod_lt _ (by omega), ?_, ?_, rfl⟩ (by show 6 - (c + 1) < 6 - c; omega)
  ·refine newton_step (k := (k : Int)) (t := (t : Int)) hd ?_ ?_
   ·obtain ⟨T, hT⟩ : ∃ T, T = t * t % 18446744073709551616 := ⟨_, rfl⟩
    show (18446744073709551616 : Int) ∣ (k : Int) * (((t * t % 18446744073709551616 : Nat) : Int) + 1) - ((k * ((t * t % 18446744073709551616 + 1) % 18446744073709551616) % 18446744073709551616 : Nat) : Int)
    rw [← hT]
    have h1 := Nat.div_add_mod (T + 1) 18446744073709551616
    have h3 := Nat.div_add_mod (k * ((T + 1) % 18446744073709551616)) 18446744073709551616
    obtain ⟨r, hr⟩ : ∃ r, r = (T + 1) % 18446744073709551616 := ⟨_, rfl⟩
    obtain ⟨d, hde⟩ : ∃ d, d = (T + 1) / 18446744073709551616 := ⟨_, rfl⟩
    rw [← hr] at h3 ⊢
    rw [← hr, ← hde] at h1
    obtain ⟨d2, hd2⟩ : ∃ d2, d2 = k * r / 18446744073709551616 := ⟨_, rfl⟩
    obtain ⟨r2, hr2⟩ : ∃ r2, r2 = k * r % 18446744073709551616 := ⟨_, rfl⟩
    rw [← hd2, ← hr2] at h3
    rw [← hr2]
    have i1 : (18446744073709551616 : Int) * d + r = T + 1 := by omega
    have i3 : (18446744073709551616 : Int) * d2 + r2 = (k : Int) * r := by rw [mulN, ← h3]; omega
    exact ⟨k * d + d2, by grind⟩
   ·have h1 := Nat.div_add_mod (t * t) 18446744073709551616
    refine ⟨((t * t / 18446744073709551616 : Nat) : Int), ?_⟩
    show (t : Int) * (t : Int) - ((t * t % 18446744073709551616 : Nat) : Int) = _
    rw [mulN]; omega
  ·show 2 ^ 2 ^ (c + 1) ∣ t * t % 18446744073709551616
   have h3 : 2 ^ 2 ^ (c + 1) ∣ t * t := by rw [← two_pow_sq]; exact sq_dvd h2
   refine (Nat.dvd_mod_iff ?_).2 h3
   show 2 ^ 2 ^ (c + 1) ∣ 2 ^ 64
   exact Nat.pow_dvd_pow 2 (show 2 ^ (c + 1) ≤ 2 ^ 6 from Nat.pow_le_pow_right (by omega) (by omega))
 ·have hc6 : c = 6 := by
   have := dF hb
   rcases Nat.lt_or_ge c 6 with h | h
   ·exfalso
    have : 2 ^ c ≤ 2 ^ 5 := Nat.pow_le_pow_right (by omega) (by omega)
    omega
   ·omega
  subst hc6
  have ht0 : t = 0 := Nat.eq_zero_of_dvd_of_lt h2 htB
  subst ht0
  refine hKe _ _ (hK k _ hkB ?_ ⟨rfl, rfl, rfl, rfl, rfl, rfl, rfl, trivial⟩ rfl)
  have hd' : (18446744073709551616 : Int) ∣ (k : Int) * m0 - 1 := by simpa using hd
  rw [mulN] at hd'
  omega
end Go.Proofs.YtlkjiiibmfpbcaaGreatDoor
namespace Go.Proofs.YtlkjiiibmfpbcaaGreatDoor
open Go
theorem odd_cop {M : Nat} (h : M % 2 = 1) (n : Nat) : Nat.Coprime M (BB ^ n) := by
 rw [BB2]
 refine Nat.Coprime.pow_right _ ?_
 rw [Nat.coprime_comm, Nat.Coprime, Nat.gcd_rec, h]; rfl
theorem cancel_mod {M R a b : Nat} (hR : Nat.Coprime M R) (h : a * R % M = b * R % M) : a % M = b % M := by
 rcases Nat.le_total a b with hab | hab
 ·obtain ⟨d, rfl⟩ : ∃ d, b = a + d := ⟨b - a, by omega⟩
  rw [Nat.add_mul] at h
  have h1 : M ∣ d * R := by
   have := (Nat.dvd_iff_mod_eq_zero ..).2 (Nat.sub_mod_eq_zero_of_mod_eq h.symm)
   rwa [Nat.add_sub_cancel_left] at this
  obtain ⟨q, hq⟩ := hR.dvd_of_dvd_mul_right h1
  rw [hq, Nat.add_mul_mod_self_left]
 ·obtain ⟨d, rfl⟩ : ∃ d, a = b + d := ⟨a - b, by omega⟩
  rw [Nat.add_mul] at h
  have h1 : M ∣ d * R := by
   have := (Nat.dvd_iff_mod_eq_zero ..).2 (Nat.sub_mod_eq_zero_of_mod_eq h)
   rwa [Nat.add_sub_cancel_left] at this
  obtain ⟨q, hq⟩ := hR.dvd_of_dvd_mul_right h1
  rw [hq, Nat.add_mul_mod_self_left]
def Mg (M R X a e : Nat) : Prop := a % M = X ^ e * R % M
theorem Mg.mul {M R X a b c d e : Nat} (hR : Nat.Coprime M R) (ha : Mg M R X a d) (hb : Mg M R X b e) (hc : c * R % M = a * b % M) : Mg M R X c (d + e) := by
 refine cancel_mod hR ?_
 rw [hc, Nat.mul_mod, ha, hb, ← Nat.mul_mod, Nat.pow_add]
 congr 1
 grind
theorem Mg.one {M R X c rr : Nat} (hR : Nat.Coprime M R) (hrr : rr % M = R * R % M) (hc : c * R % M = 1 * rr % M) : Mg M R X c 0 := by
 refine cancel_mod hR ?_
 rw [hc, Nat.one_mul, hrr, Nat.pow_zero, Nat.one_mul]
theorem Mg.base {M R X c rr x : Nat} (hR : Nat.Coprime M R) (hx : x % M = X % M) (hrr : rr % M = R * R % M) (hc : c * R % M = x * rr % M) : Mg M R X c 1 := by
 refine cancel_mod hR ?_
 rw [hc, Nat.mul_mod, hx, hrr, ← Nat.mul_mod, Nat.pow_one, Nat.mul_assoc]
theorem Mg.back {M R X a c e : Nat} (hR : Nat.Coprime M R) (ha : Mg M R X a e) (hc : c * R % M = a * 1 % M) : c % M = X ^ e % M := by
 refine cancel_mod hR ?_
 rw [hc, Nat.mul_one, ha]
theorem Mg.congr {M R X a d e : Nat} (h : Mg M R X a d) (hd : d = e) : Mg M R X a e := hd ▸ h
end Go.Proofs.YtlkjiiibmfpbcaaGreatDoor
namespace Go.Proofs.YtlkjiiibmfpbcaaGreatDoor
open Go
def Has (L : List Item) (s : Sl) (V : Nat) : Prop := num s V ∈ L ∨ nmz s V ∈ L
theorem Has.nt {w : World} {L : List Item} {s : Sl} {V : Nat} (h : Has L s V) (hb : Bank w L) : Nt w s V := by
 rcases h with h | h
 ·exact hb.all _ h
 ·have h1 : Nz w s V := hb.all _ h
  exact h1.toNt
theorem Has.dj {w : World} {L : List Item} {a : Item} {s : Sl} {V : Nat} (h : Has L s V) (hb : Bank w (a :: L)) : Dj a.fp (fp s) := by
 rcases h with h | h
 ·exact hb.hdj h
 ·exact hb.hdj h
theorem Has.cons {L : List Item} {s : Sl} {V : Nat} (h : Has L s V) (a : Item) : Has (a :: L) s V := h.imp (List.mem_cons_of_mem _) (List.mem_cons_of_mem _)
theorem Has.num (L : List Item) (s : Sl) (V : Nat) : Has (num s V :: L) s V := .inl (by simp)
theorem Has.nmz (L : List Item) (s : Sl) (V : Nat) : Has (nmz s V :: L) s V := .inr (by simp)
theorem mont_has {w : World} {z x y m : Sl} {X Y M k n : Nat} {a : Item} {L : List Item} (h : Bank w (a :: L)) (ha : a.fp = fp z) (hz : St w z) (hx : Has L x X) (hy : Has L y Y) (hm : Has L m M) (lx : x.l = n) (ly : y.l = n) (lm : m.l = n) (hn0 : n ≠ 0) (hn : n ≤ 1000000)
  (hkB : k < 18446744073709551616) (hk : (k * M + 1) % BB = 0) {Q : Ending → World → Prop}
  (q : ∀ (r : Sl) (Z : Nat) w', r.l = n → Z * BB ^ n % M = X * Y % M → Bank w' (Go.Proofs.YtlkjiiibmfpbcaaGreatDoor.num r Z :: L) → Chg w w' (fp z) → From w z r → Q (.returned r.v) w') :
  Calls Tryz.prog 106 #[z.v, x.v, y.v, m.v, .int .u64 (k : Int), .int .i64 (n : Int)] w Q := by
 have dj : ∀ {s V}, Has L s V → Apart z s := fun {s V} hs => Dj.apart (by have := hs.dj h; rw [ha] at this; exact this) (hs.nt h.tail).toSt
 refine (c106 z x y m X Y M k n w hz (hx.nt h.tail) (hy.nt h.tail) (hm.nt h.tail) lx ly lm hn0 hn hkB hk (dj hx) (dj hy) (dj hm)).mono ?_
 rintro e w' ⟨_, rfl, r, Z, rfl, hrl, hr, he, hf, hc⟩
 exact q r Z w' hrl he (h.res ha hf hc hr rfl) hc hf
theorem nz_of_ge {w : World} {r m : Sl} {Z M : Nat} (hr : Nt w r Z) (hm : Nz w m M) (hl : r.l = m.l) (h : M ≤ Z) : Nz w r Z :=
 { hr with nm := fun k hk => by rw [hl]; exact hm.nm k (Nat.lt_of_le_of_lt h hk) }
end Go.Proofs.YtlkjiiibmfpbcaaGreatDoor
