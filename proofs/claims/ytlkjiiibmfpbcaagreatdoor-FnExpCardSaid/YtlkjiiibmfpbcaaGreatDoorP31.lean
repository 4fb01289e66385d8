/- The windowed exponentiation's state: storage that lies apart from what was taken from the stack; squaring and multiplying with truncation. Conditions: exponents of two up to 39 words. -/
import Derived.Test.YtlkjiiibmfpbcaaGreatDoorP30
namespace Go.Proofs.YtlkjiiibmfpbcaaGreatDoor
open Go
theorem Nxt.cuts {w : World} {K K' : SK} (h : Nxt w K K') (n : Nat) : Nxt w (K.cut n) (K'.cut n) := ⟨h.p, h.q, h.s, Nat.le_refl _, h.c⟩
structure AC (w0 : World) (K0 : SK) (z0 : Sl) (K : SK) (s : Sl) : Prop where
 off : Off (K.cut K0.s.l) s
 sub : Sub w0 z0 s
theorem AC.next {w0 w : World} {K0 K K' : SK} {z0 s : Sl} (h : AC w0 K0 z0 K s) (hs : St w s) (hn : Nxt w K K') : AC w0 K0 z0 K' s := ⟨h.off.nxt (hn.cuts _) hs.blk, h.sub⟩
theorem AC.from_ {w0 w : World} {K0 K K' : SK} {z0 s r : Sl} (h : AC w0 K0 z0 K s) (hs : St w s) (hn : Nxt w K K') (hf : From w s r) (hb : w.heap.size ≤ r.b → r.c ≠ 0 → NoB K' r) (hsz : w0.heap.size ≤ w.heap.size) : AC w0 K0 z0 K' r := by
 refine ⟨?_, h.sub.from_ hf hsz⟩
 have h1 := (h.next hs hn).off
 rcases hf with ⟨_, e2, e3, e4⟩ | hf
 ·intro i a1 a2; rw [e3]; exact h1 i (by omega) (by omega)
 ·intro i a1 a2
  exact ((hb hf (by omega)).cut K0.s.l).off i a1 a2
theorem take_bank {w : World} {K : SK} {n : Nat} {L : List Item} (h : Bank w (stk K :: L)) (hn : n ≤ 4398046511104) (hL : K.s.l ≤ 2199023255552) {Q : Ending → World → Prop}
  (q : ∀ (x : Sl) (K' : SK) w', Bank w' (stk K' :: sto x :: L) → K'.a = K.a → K.s.l ≤ K'.s.l → K'.s.l ≤ K.s.l + n + 4 → Nxt w K K' → (∀ b i, b < w.heap.size → fp x b i → K.free b i) → Chg w w' K.free → Q (.returned x.v) w') :
  Calls Tryz.prog 104 #[.pointer K.a, .int .i64 (n : Int)] w Q := by
 refine (c104 w K h.head n hn hL).mono ?_
 rintro e w' ⟨_, rfl, x, K', rfl, h1, h2, h3, h4, h5, h6, h7, h8⟩
 have hx : ∀ b i, b < w.heap.size → fp x b i → K.free b i := fun b i hb hm => by
  obtain ⟨e1, e2, e3⟩ := hm
  rcases h4 i e2 e3 with h | h
  ·rw [e1]; exact h
  ·omega
 refine q x K' w' ?_ (by unfold SK.a; rw [h6.p]) h6.l h8 h6 hx h7
 refine Bank.updN (A := [stk K]) (A' := [stk K', sto x]) h h7 (fun b i _ hm => ⟨stk K, by simp, hm⟩) (Bank.two h5 h2 h3.dj) fun a' ha' b i hb hf => ⟨stk K, by simp, ?_⟩
 simp only [List.mem_cons, List.not_mem_nil, or_false] at ha'
 rcases ha' with rfl | rfl
 ·exact stk_sub h6 b i hb hf
 ·exact hx b i hb hf
theorem sqrC {w : World} {K : SK} {z x : Sl} {X : Nat} {a : Item} {L : List Item} (h : Bank w (stk K :: a :: L)) (ha : a.fp = fp z) (hz : St w z) (hx : nmz x X ∈ L) (lx : x.l < 80) (hL : K.s.l ≤ 2199023255552) (hg : Glb w) {Q : Ending → World → Prop}
  (q : ∀ (r : Sl) (K' : SK) w', Bank w' (stk K' :: nmz r (X * X) :: L) → K'.a = K.a → K'.s.l = K.s.l → Nxt w K K' → From w z r → (w.heap.size ≤ r.b → r.c ≠ 0 → NoB K' r) → Chg w w' (un (fp z) K.free) → Q (.returned r.v) w') :
  Calls Tryz.prog 79 #[z.v, .pointer K.a, x.v] w Q := by
 have hxP : Nz w x X := h.all (nmz x X) (by simp [hx])
 have dz : Dj K.free (fp z) := by have := h.hdj (b := a) (by simp); rw [ha] at this; exact this
 have dx : Dj K.free (fp x) := h.hdj (b := nmz x X) (by simp [hx])
 have dzx : Dj (fp z) (fp x) := by have := h.tail.hdj (b := nmz x X) hx; rw [ha] at this; exact this
 refine ResKE.pass (c79 K z x X w h.head hz hxP (dzx.al hxP.toSt) dz.off (dx.offl hxP.toSt) lx hL hg) fun r K' w' h1 h2 h3 h4 h5 h6 hnb h7 => q r K' w' ?_ (by unfold SK.a; rw [h4.p]) h5 h4 h2 hnb h7
 refine Bank.updN (A := [stk K, a]) (A' := [stk K', nmz r (X * X)]) h h7 (fun b i _ hm => ?_) (Bank.two h3 h1 h6.dj) fun a' ha' b i hb hf => ?_
 ·rcases hm with hm | hm
  ·exact ⟨a, by simp, by rw [ha]; exact hm⟩
  ·exact ⟨stk K, by simp, hm⟩
 ·simp only [List.mem_cons, List.not_mem_nil, or_false] at ha'
  rcases ha' with rfl | rfl
  ·exact ⟨stk K, by simp, stk_sub h4 b i hb hf⟩
  ·exact ⟨a, by simp, by rw [ha]; exact from_sub h2 b i hb hf⟩
theorem trunc_bank {w : World} {z x : Sl} {X n : Nat} {a : Item} {L : List Item} (h : Bank w (a :: L)) (ha : a.fp = fp z) (hz : St w z) (hx : nmz x X ∈ (a :: L)) (lx : Len x) (hn : n ≤ 1099511627776) {Q : Ending → World → Prop}
  (q : ∀ (r : Sl) w', Bank w' (nmz r (X % 2 ^ n) :: L) → From w z r → Chg w w' (fp z) → Q (.returned r.v) w') : Calls Tryz.prog 107 #[z.v, x.v, .int .u64 (n : Int)] w Q :=
 ResE.pass (c107 z x X n w hz (h.all _ hx) lx hn) fun r w' h1 h2 h3 => q r w' (h.res ha h2 h3 h1 rfl) h2 h3
theorem fin_bank {w0 w' : World} {K0 K' : SK} {z r : Sl} {V : Nat} {a : Item} {L : List Item} (h : Bank w0 (stk K0 :: a :: L)) (ha : a.fp = fp z) (hc : Chg w0 w' (un (fp z) K0.free)) (hk : StkAt w' K') (hn : Nxt w0 K0 K') (hr : Nz w' r V) (hs : Sub w0 z r) (ho : Off K' r) : Bank w' (stk K' :: nmz r V :: L) := by
 refine Bank.updN (A := [stk K0, a]) (A' := [stk K', nmz r V]) h hc (fun b i _ hm => ?_) (Bank.two hk hr ho.dj) fun a' ha' b i hb hf => ?_
 ·rcases hm with hm | hm
  ·exact ⟨a, by simp, by rw [ha]; exact hm⟩
  ·exact ⟨stk K0, by simp, hm⟩
 ·simp only [List.mem_cons, List.not_mem_nil, or_false] at ha'
  rcases ha' with rfl | rfl
  ·exact ⟨stk K0, by simp, stk_sub hn b i hb hf⟩
  ·exact ⟨a, by simp, by rw [ha]; exact hs b i hb hf⟩
def In2 (w0 : World) (S : Set2) (s : Sl) : Prop := ∀ b i, b < w0.heap.size → fp s b i → S b i
theorem In2.from_ {w0 w : World} {S : Set2} {s r : Sl} (h : In2 w0 S s) (hf : From w s r) (hs : w0.heap.size ≤ w.heap.size) : In2 w0 S r := fun b i hb hm => h b i hb (from_sub hf b i (Nat.lt_of_lt_of_le hb hs) hm)
structure KS (w0 w : World) (z0 : Sl) (K0 K : SK) (top : Nat) : Prop where
 ch : Chg w0 w (un (fp z0) K0.free)
 kn : Nxt w0 K0 K
 ka : K.a = K0.a
 top : K.s.l ≤ top
 hg : Glb w0
theorem KS.free {w0 w : World} {z0 : Sl} {K0 K : SK} {top b i : Nat} (h : KS w0 w z0 K0 K top) (hb : b < w0.heap.size) (hf : K.free b i) : un (fp z0) K0.free b i := .inr (h.kn.free hb hf)
theorem KS.step {w0 w w' : World} {z0 s : Sl} {K0 K K' : SK} {top : Nat} (h : KS w0 w z0 K0 K top) (hs : In2 w0 (un (fp z0) K0.free) s) (hc : Chg w w' (un (fp s) K.free)) (hn : Nxt w K K') (ka : K'.a = K.a) (kl : K'.s.l ≤ top) : KS w0 w' z0 K0 K' top :=
 ⟨h.ch.trans hc (fun _ _ _ h => h) fun b i hb hm => hm.elim (fun hm => hs b i hb hm) fun hm => h.free hb hm, h.kn.trans hn h.ch.size, ka.trans h.ka, kl, h.hg⟩
theorem KS.one {w0 w w' : World} {z0 s : Sl} {K0 K : SK} {top : Nat} (h : KS w0 w z0 K0 K top) (hs : In2 w0 (un (fp z0) K0.free) s) (hc : Chg w w' (fp s)) : KS w0 w' z0 K0 K top := h.step hs (hc.l _) (Nxt.refl _ _) rfl h.top
structure Z76 (w0 w : World) (K0 K : SK) (z0 z zz : Sl) (Z X k e top : Nat) (d : Bool) (R : List Item) : Prop where
 bank : Bank w (stk K :: nmz z Z :: sto zz :: R)
 ks : KS w0 w z0 K0 K top
 iz : In2 w0 (un (fp z0) K0.free) z
 izz : In2 w0 (un (fp z0) K0.free) zz
 cz : d = true → AC w0 K0 z0 K z
 czz : d = false → AC w0 K0 z0 K zz
 hz : Z = X ^ e % 2 ^ k
variable {w0 w : World} {K0 K : SK} {z0 z zz : Sl} {Z X k e top : Nat} {d : Bool} {R : List Item}
theorem lenP {w : World} {s : Sl} {V k : Nat} (h : Nz w s V) (hV : V < 2 ^ k) (hk : k ≤ 2496) : s.l ≤ 39 := h.nm 39 (Nat.lt_of_lt_of_le hV (Nat.le_trans (Nat.pow_le_pow_right (by omega) (show k ≤ 64 * 39 by omega)) (Nat.le_of_eq (BB2 39).symm)))
theorem Z76.sqr (h : Z76 w0 w K0 K z0 z zz Z X k e top d R) (hk : k ≤ 2496) (ht : top ≤ 2199023255552) {G : Option Addr → Nat → Nat → World → Prop}
  (q : ∀ (r : Sl) (K' : SK) (V : Nat) w', Z76 w0 w' K0 K' z0 r z V X k (2 * e) top (!d) R → G r.a r.l r.c w') :
  Calls Tryz.prog 79 #[zz.v, .pointer K0.a, z.v] w fun r_1 w_2 => ∃ x_3a, ∃ x_3l, ∃ x_3c, r_1 = .returned (.slice x_3a x_3l x_3c) ∧ Calls Tryz.prog 107 #[(.slice x_3a x_3l x_3c), (.slice x_3a x_3l x_3c), (.int .u64 (k : Int))] w_2 fun r_4 w_5 => ∃ x_6a, ∃ x_6l, ∃ x_6c, r_4 = .returned (.slice x_6a x_6l x_6c) ∧ G x_6a x_6l x_6c w_5 := by
 have hb : Bank w (stk K :: sto zz :: nmz z Z :: R) := h.bank.pick 3 [0, 2, 1] rfl
 have hzz : St w zz := hb.tail.head
 have hz : Nz w z Z := h.bank.tail.head
 have hlt : Z < 2 ^ k := by rw [h.hz]; exact Nat.mod_lt _ (Nat.pow_pos (by omega))
 have lz := lenP hz hlt hk
 rw [← h.ks.ka]
 refine sqrC (z := zz) (x := z) (X := Z) hb rfl hzz (by simp) (by omega) (by have := h.ks.top; omega) (h.ks.ch.glb h.ks.hg) fun r K' w1 b1 ka kl kn hf hnb hc => ⟨_, _, _, rfl, ?_⟩
 have ks1 : KS w0 w1 z0 K0 K' top := h.ks.step h.izz hc kn ka (by rw [kl]; exact h.ks.top)
 have b2 : Bank w1 (nmz r (Z * Z) :: stk K' :: nmz z Z :: R) := b1.perm (List.Perm.swap _ _ _)
 have hr1 : Nz w1 r (Z * Z) := b2.head
 have lr : r.l ≤ 78 := hr1.nm _ (by have := prod_lt hz.lt hz.lt; exact Nat.lt_of_lt_of_le this (Nat.pow_le_pow_right BB_pos (by omega)))
 have ir := h.izz.from_ hf h.ks.ch.size
 refine trunc_bank (z := r) (x := r) (X := Z * Z) b2 rfl hr1.toSt (by simp) (by unfold Len; omega) (by omega) fun r2 w2 b3 hf2 hc2 => ⟨_, _, _, rfl, q r2 K' (Z * Z % 2 ^ k) w2 ⟨?_, ks1.one ir hc2, ir.from_ hf2 ks1.ch.size, h.iz, fun hd => ?_, fun hd => ?_, ?_⟩⟩
 ·exact (((b3.pick 3 [2, 1, 0] rfl : Bank w2 (nmz z Z :: stk K' :: nmz r2 (Z * Z % 2 ^ k) :: R)).weaken (a' := sto z) rfl fun h => h.toSt).pick 3 [1, 2, 0] rfl)
 ·have hd : d = false := by cases d <;> simp_all
  have a1 := (h.czz hd).from_ hzz kn hf hnb h.ks.ch.size
  exact a1.from_ hr1.toSt (Nxt.refl _ _) hf2 (fun h _ => NoB.new b2.tail.head h) ks1.ch.size
 ·have hd : d = true := by cases d <;> simp_all
  exact (h.cz hd).next hz.toSt kn
 ·rw [h.hz, ← Nat.mul_mod, ← Nat.pow_add, Nat.two_mul]
theorem Z76.mul (h : Z76 w0 w K0 K z0 z zz Z X k e top d R) (hk : k ≤ 2496) {p : Sl} {P i : Nat} (hp : nmz p P ∈ R) (hP : P = X ^ i % 2 ^ k) {G : Option Addr → Nat → Nat → World → Prop}
  (q : ∀ (r : Sl) (V : Nat) w', Z76 w0 w' K0 K z0 r z V X k (e + i) top (!d) R → G r.a r.l r.c w') :
  Calls Tryz.prog 80 #[zz.v, .pointer K0.a, z.v, p.v] w fun r_1 w_2 => ∃ x_3a, ∃ x_3l, ∃ x_3c, r_1 = .returned (.slice x_3a x_3l x_3c) ∧ Calls Tryz.prog 107 #[(.slice x_3a x_3l x_3c), (.slice x_3a x_3l x_3c), (.int .u64 (k : Int))] w_2 fun r_4 w_5 => ∃ x_6a, ∃ x_6l, ∃ x_6c, r_4 = .returned (.slice x_6a x_6l x_6c) ∧ G x_6a x_6l x_6c w_5 := by
 have hb : Bank w (sto zz :: stk K :: nmz z Z :: R) := h.bank.pick 3 [2, 0, 1] rfl
 have hzz : St w zz := hb.head
 have hz : Nz w z Z := h.bank.tail.head
 have hkA : StkAt w K := h.bank.head
 have hpP : Nz w p P := hb.all (nmz p P) (by simp [hp])
 have lz := lenP hz (by rw [h.hz]; exact Nat.mod_lt _ (Nat.pow_pos (by omega))) hk
 have lp := lenP hpP (by rw [hP]; exact Nat.mod_lt _ (Nat.pow_pos (by omega))) hk
 refine mul_bank (z := zz) (x := z) (y := p) (X := Z) (Y := P) hb rfl hzz (by simp) (by simp [hp]) (by unfold Len; omega) (by unfold Len; omega) (.inl (by omega)) (h.ks.ch.glb h.ks.hg) fun r w1 b1 hf hc => ⟨_, _, _, rfl, ?_⟩
 have ks1 : KS w0 w1 z0 K0 K top := h.ks.one h.izz hc
 have hr1 : Nz w1 r (Z * P) := b1.head
 have lr : r.l ≤ 78 := hr1.nm _ (by have := prod_lt hz.lt hpP.lt; exact Nat.lt_of_lt_of_le this (Nat.pow_le_pow_right BB_pos (by omega)))
 have ir := h.izz.from_ hf h.ks.ch.size
 refine trunc_bank (z := r) (x := r) (X := Z * P) b1 rfl hr1.toSt (by simp) (by unfold Len; omega) (by omega) fun r2 w2 b3 hf2 hc2 => ⟨_, _, _, rfl, q r2 (Z * P % 2 ^ k) w2 ⟨?_, ks1.one ir hc2, ir.from_ hf2 ks1.ch.size, h.iz, fun hd => ?_, fun hd => ?_, ?_⟩⟩
 ·exact (((b3.pick 3 [2, 1, 0] rfl : Bank w2 (nmz z Z :: stk K :: nmz r2 (Z * P % 2 ^ k) :: R)).weaken (a' := sto z) rfl fun h => h.toSt).pick 3 [1, 2, 0] rfl)
 ·have hd : d = false := by cases d <;> simp_all
  have a1 := (h.czz hd).from_ hzz (Nxt.refl _ _) hf (fun h _ => NoB.new hkA h) h.ks.ch.size
  exact a1.from_ hr1.toSt (Nxt.refl _ _) hf2 (fun h _ => NoB.new b1.tail.head h) ks1.ch.size
 ·have hd : d = true := by cases d <;> simp_all
  exact h.cz hd
 ·rw [h.hz, hP, ← Nat.mul_mod, ← Nat.pow_add]
end Go.Proofs.YtlkjiiibmfpbcaaGreatDoor
namespace Go.Proofs.YtlkjiiibmfpbcaaGreatDoor
open Go
structure C76 (R : List Item) (y : Sl) (pb X Y k top : Nat) : Prop where
 hk : k ≤ 2496
 ht : top ≤ 2199023255552
 hy : nmz y Y ∈ R
 hyl : y.l ≤ 1000000
 hpw : ∃ f, row pb 16 f ∈ R ∧ ∀ i, i < 16 → ∃ s P, f i = s.v ∧ nmz s P ∈ R ∧ P = X ^ i % 2 ^ k
variable {w0 w : World} {K0 K : SK} {z0 z zz y : Sl} {Z X Y k H top pb : Nat} {R : List Item}
theorem Z76.congr {w0 w : World} {K0 K : SK} {z0 z zz : Sl} {Z X k e e' top : Nat} {d d' : Bool} {R : List Item} (h : Z76 w0 w K0 K z0 z zz Z X k e top d R) (he : e = e') (hd : d = d') : Z76 w0 w K0 K z0 z zz Z X k e' top d' R := by subst he; subst hd; exact h
theorem word76 (h : Z76 w0 w K0 K z0 z zz Z X k H top true R) (c : C76 R y pb X Y k top) {i : Nat} {D : Nat} {mtop mmask : Int} {adv : Bool} (hD : D < 18446744073709551616) (hadv : adv = false → H = 0) (e : Env) (Kt : Kont)
  (hag : agree e (F76.l19 z.a z.l z.c K0.a y.a y.l y.c k zz.a zz.l zz.c pb 0 (i : Int) mtop mmask adv (D : Int) 0))
  (hK : ∀ (z' zz' : Sl) (K' : SK) (Z' : Nat) (w' : World) (e' : Env) (yi' j' : Int), Z76 w0 w' K0 K' z0 z' zz' Z' X k (H * 18446744073709551616 + D) top true R → agree e' (F76.l19 z'.a z'.l z'.c K0.a y.a y.l y.c k zz'.a zz'.l zz'.c pb 0 (i : Int) mtop mmask true yi' j') → e'.defers = e.defers → Kt .normal e' w') :
  W Tryz.prog 223 F76.p20 e w Kt := by
 rw [F76.q20]
 refine W_for' (σ := Nat × Sl × Sl × Bool) (fun s => F76.l19 s.2.1.a s.2.1.l s.2.1.c K0.a y.a y.l y.c k s.2.2.1.a s.2.2.1.l s.2.2.1.c pb 0 (i : Int) mtop mmask s.2.2.2 ((D * 2 ^ s.1 % 18446744073709551616 : Nat) : Int) (s.1 : Int))
  (fun s w' => s.1 % 4 = 0 ∧ s.1 ≤ 64 ∧ (s.1 ≠ 0 → s.2.2.2 = true) ∧ (s.2.2.2 = false → H * 2 ^ s.1 + D / 2 ^ (64 - s.1) = 0) ∧ ∃ K Z, Z76 w0 w' K0 K z0 s.2.1 s.2.2.1 Z X k (H * 2 ^ s.1 + D / 2 ^ (64 - s.1)) top (decide (s.1 / 4 % 2 = 0)) R) (fun s => 64 - s.1) (0, z, zz, adv) ?_ ⟨rfl, Nat.zero_le _, fun h => absurd rfl h, ?_, K, Z, ?_⟩ ?_
 ·rw [Nat.pow_zero, Nat.mul_one, Nat.mod_eq_of_lt hD]; exact hag
 ·intro ha
  have := hadv ha
  subst this
  rw [Nat.zero_mul, Nat.zero_add, Nat.sub_zero]
  exact Nat.div_eq_of_lt hD
 ·refine h.congr ?_ (decT (show 0 / 4 % 2 = 0 by omega)).symm
  rw [Nat.pow_zero, Nat.mul_one, Nat.sub_zero, Nat.div_eq_of_lt hD]; rfl
 rintro ⟨j, z1, zz1, av⟩ B wr K2 ⟨hj4, hj, hav, hav0, K1, Z1, hw⟩ hKn hKe _
 simp only at hj4 hj hav hav0 hw
 obtain ⟨yi, hyi⟩ : ∃ yi, yi = D * 2 ^ j % 18446744073709551616 := ⟨_, rfl⟩
 rw [← hyi]
 refine F76.t19 z1.a z1.l z1.c K0.a y.a y.l y.c k zz1.a zz1.l zz1.c pb 0 i mtop mmask av yi j ⟨rfl, rfl, rfl, rfl, rfl, rfl, rfl, rfl, rfl, rfl, rfl, rfl, trivial⟩ fun B3 => bc_intro (fun hb => ?_) (fun hb B4 => ?_)
 ·have hj60 : j + 4 ≤ 64 := by have := dT hb; omega
  obtain ⟨b1, b2, b3⟩ := bits4 (v := D) hj60
  rw [← hyi] at b1 b2
  have hflip : decide ((j + 4) / 4 % 2 = 0) = !(decide (j / 4 % 2 = 0)) := by
   by_cases hh : j / 4 % 2 = 0
   ·have : ¬ ((j + 4) / 4 % 2 = 0) := by omega
    rw [decF this, decT hh]; rfl
   ·have : (j + 4) / 4 % 2 = 0 := by omega
    rw [decT this, decF hh]; rfl
  have tail : ∀ (z2 zz2 : Sl) (K2' : SK) (Z2 : Nat) (w2 : World) (B : Nat → Value), Z76 w0 w2 K0 K2' z0 z2 zz2 Z2 X k (16 * (H * 2 ^ j + D / 2 ^ (64 - j))) top (decide (j / 4 % 2 = 0)) R →
    W Tryz.prog 223 F76.p22 (E (F76.l22 z2.a z2.l z2.c K0.a y.a y.l y.c k zz2.a zz2.l zz2.c pb 0 (i : Int) mtop mmask (yi : Int) (j : Int)) B e.defers) w2 (blockK 7 (thenW Tryz.prog 223 F76.p21 K2)) := by
   intro z2 zz2 K2' Z2 w2 B h2
   obtain ⟨f, hrow, hpw⟩ := c.hpw
   have hrowP : RowAt w2 pb 16 f := h2.bank.all (row pb 16 f) (by simp [hrow])
   have hd16 : D / 2 ^ (64 - (j + 4)) % 16 < 16 := Nat.mod_lt _ (by omega)
   obtain ⟨s, P, e1, hp1, hp2⟩ := hpw _ hd16
   have es : iShr .u64 (yi : Int) 60 = ((D / 2 ^ (64 - (j + 4)) % 16 : Nat) : Int) := (shr64 yi 60 (by omega)).trans (by rw [b1])
   refine F76.t22 z2.a z2.l z2.c K0.a y.a y.l y.c k zz2.a zz2.l zz2.c pb 0 i mtop mmask yi j ⟨rfl, rfl, rfl, rfl, rfl, rfl, rfl, rfl, rfl, rfl, rfl, trivial⟩ fun B4 => ⟨by omega, _, es, hd16, s.a, s.l, s.c, by rw [Nat.zero_add, hrowP.cell _ hd16, e1], ?_⟩
   refine h2.mul c.hk hp1 hp2 fun r Z3 w3 h3 => ⟨by omega, fun B5 => ?_⟩
   refine F76.t21 r.a r.l r.c K0.a y.a y.l y.c k z2.a z2.l z2.c pb 0 i mtop mmask true (iShl .u64 yi 4) j ⟨rfl, rfl, rfl, rfl, rfl, rfl, rfl, rfl, rfl, rfl, rfl, rfl, trivial⟩ fun B6 => ⟨by unfold inI64; omega, fun B7 => hKn _ _ (j + 4, r, z2, true) ⟨rfl, rfl, rfl, rfl, rfl, rfl, rfl, rfl, rfl, rfl, intv ?_, intv (by omega), trivial⟩ rfl ⟨by show (j + 4) % 4 = 0; omega, hj60, fun _ => rfl, (fun h => by cases h), K2', Z3, h3.congr ?_ hflip.symm⟩ (by show 64 - (j + 4) < 64 - j; omega)⟩
   ·exact (shl64 yi 4 (by omega)).trans (by rw [b2])
   ·show _ = H * 2 ^ (j + 4) + D / 2 ^ (64 - (j + 4))
    rw [Nat.pow_add, ← Nat.mul_assoc]
    omega
  refine bc_intro (fun hb => ?_) (fun hb B4 => ?_)
  ·refine hw.sqr c.hk c.ht fun r1 K1 Z1 w1 h1 => ?_
   refine h1.sqr c.hk c.ht fun r2 K2 Z2 w2 h2 => ?_
   refine h2.sqr c.hk c.ht fun r3 K3 Z3 w3 h3 => ?_
   refine h3.sqr c.hk c.ht fun r4 K4 Z4 w4 h4 B5 => ?_
   exact tail r4 r3 K4 Z4 w4 B5 (h4.congr (by omega) (by simp))
  ·have h0 := hav0 hb
   exact tail z1 zz1 K1 Z1 wr B4 (hw.congr (by rw [h0]) rfl)
 ·have hj64 : j = 64 := by have := dF hb; omega
  subst hj64
  have := hav (by omega)
  subst this
  exact hKe _ _ (hK z1 zz1 K1 Z1 _ _ _ _ (hw.congr (by rw [Nat.sub_self, Nat.pow_zero, Nat.div_one]) (decT (show 64 / 4 % 2 = 0 by omega))) ⟨rfl, rfl, rfl, rfl, rfl, rfl, rfl, rfl, rfl, rfl, rfl, rfl, trivial⟩ rfl)
theorem words76 (h : Z76 w0 w K0 K z0 z zz Z X k 0 top true R) (c : C76 R y pb X Y k top) {i0 mt Y' : Nat} {mmask : Int} (hi0 : i0 < y.l) (hY' : Y' < BB ^ (i0 + 1)) (hdig : ∀ i, i ≤ i0 → (if i = mt then iAnd .u64 (dg Y i : Int) mmask else (dg Y i : Int)) = (dg Y' i : Int)) (e : Env) (Kt : Kont)
  (hag : agree e (F76.l13 z.a z.l z.c K0.a y.a y.l y.c k zz.a zz.l zz.c pb 0 (i0 : Int) (mt : Int) mmask false))
  (hK : ∀ (z' zz' : Sl) (K' : SK) (Z' : Nat) (w' : World) (e' : Env), Z76 w0 w' K0 K' z0 z' zz' Z' X k Y' top true R → agree e' (F76.l12 z'.a z'.l z'.c) → e'.defers = e.defers → Kt .normal e' w') :
  W Tryz.prog 223 F76.p14 e w Kt := by
 rw [F76.q14]
 have hyl := c.hyl
 refine W_for' (σ := Nat × Sl × Sl × Bool) (fun s => F76.l13 s.2.1.a s.2.1.l s.2.1.c K0.a y.a y.l y.c k s.2.2.1.a s.2.2.1.l s.2.2.1.c pb 0 ((s.1 : Int) - 1) (mt : Int) mmask s.2.2.2)
  (fun s w' => s.1 ≤ i0 + 1 ∧ (s.2.2.2 = false → s.1 = i0 + 1) ∧ ∃ K Z, Z76 w0 w' K0 K z0 s.2.1 s.2.2.1 Z X k (Y' / BB ^ s.1) top true R) (fun s => s.1) (i0 + 1, z, zz, false) ?_ ⟨Nat.le_refl _, fun _ => rfl, K, Z, h.congr (Nat.div_eq_of_lt hY').symm rfl⟩ ?_
 ·have e1 : (((i0 + 1 : Nat) : Int) - 1) = (i0 : Int) := by omega
  show agree e (F76.l13 z.a z.l z.c K0.a y.a y.l y.c k zz.a zz.l zz.c pb 0 (((i0 + 1 : Nat) : Int) - 1) (mt : Int) mmask false)
  rw [e1]; exact hag
 rintro ⟨i, z1, zz1, av⟩ B wr K2 ⟨hi, hav, K1, Z1, hw⟩ hKn hKe _
 simp only at hi hav hw
 have hyP : Nz wr y Y := hw.bank.all (nmz y Y) (by simp [c.hy])
 refine F76.t13 z1.a z1.l z1.c K0.a y.a y.l y.c k zz1.a zz1.l zz1.c pb 0 ((i : Int) - 1) mt mmask av ⟨rfl, rfl, rfl, rfl, rfl, rfl, rfl, rfl, rfl, rfl, trivial⟩ fun B3 => bc_intro (fun hb B4 => ?_) (fun hb B4 => ?_)
 ·obtain ⟨i', rfl⟩ : ∃ i', i = i' + 1 := ⟨i - 1, by have := dT hb; omega⟩
  have ei : (((i' + 1 : Nat) : Int) - 1) = (i' : Int) := by omega
  rw [ei, F76.q17]
  refine W_block ?_
  have fin : ∀ (B5 : Nat → Value) (D : Int), D = (dg Y' i' : Int) → W Tryz.prog 223 F76.p18 (E (F76.l18 z1.a z1.l z1.c K0.a y.a y.l y.c k zz1.a zz1.l zz1.c pb 0 (i' : Int) mt mmask av D) B5 e.defers) wr (blockK 5 (thenW Tryz.prog 223 F76.p15 K2)) := by
   intro B5 D hD
   rw [hD]
   refine F76.t18 z1.a z1.l z1.c K0.a y.a y.l y.c k zz1.a zz1.l zz1.c pb 0 (i' : Int) mt mmask av (dg Y' i' : Int) ⟨rfl, rfl, rfl, rfl, rfl, rfl, rfl, rfl, rfl, rfl, rfl, trivial⟩ fun B6 B7 => ?_
   refine word76 hw c (D := dg Y' i') (dg_lt' Y' i') (fun ha => ?_) _ _ ⟨rfl, rfl, rfl, rfl, rfl, rfl, rfl, rfl, rfl, rfl, rfl, rfl, trivial⟩ fun z2 zz2 K3 Z2 w2 e2 yi j h2 ha hd => ?_
   ·rw [hav ha]; exact Nat.div_eq_of_lt hY'
   ·obtain ⟨a0, a1, a3, a4, a12, a13, a19, a20, a21, a23, _⟩ := ha
    show W Tryz.prog 223 F76.p15 e2 w2 K2
    refine F76.t15 z2.a z2.l z2.c K0.a y.a y.l y.c k zz2.a zz2.l zz2.c pb 0 (i' : Int) mt mmask true ⟨a0, a1, a3, a4, a12, a13, a19, a20, a21, a23, trivial⟩ fun B7 => ⟨by unfold inI64; omega, fun B8 => hKn _ _ (i', z2, zz2, true) ⟨rfl, rfl, rfl, rfl, rfl, rfl, rfl, rfl, rfl, rfl, trivial⟩ hd ⟨by show i' ≤ i0 + 1; omega, (fun h => by cases h), K3, Z2, h2.congr ?_ rfl⟩ (by show i' < i' + 1; omega)⟩
    show _ = Y' / BB ^ i'
    have := div_split Y' i'
    rw [this, Nat.add_comm, Nat.mul_comm]
    rfl
  refine F76.t16 z1.a z1.l z1.c K0.a y.a y.l y.c k zz1.a zz1.l zz1.c pb 0 (i' : Int) mt mmask av ⟨rfl, rfl, rfl, rfl, rfl, rfl, rfl, rfl, rfl, rfl, trivial⟩ fun B5 => ?_
  refine rdC (k := i') (hyP.at_ (by have := hyP.lc; omega)) (by omega) (by omega) (hyP.sg i' (by omega)) ?_
  have hdi := hdig i' (by omega)
  refine bc_intro (fun hb => fun B6 => fin B6 _ ?_) (fun hb => fun B6 => fin B6 _ ?_)
  ·have : i' = mt := by have := eqE hb; omega
   rw [if_pos this] at hdi; exact hdi
  ·have : i' ≠ mt := by have := eqN hb; omega
   rw [if_neg this] at hdi; exact hdi
 ·have h0 : i = 0 := by have := dF hb; omega
  subst h0
  exact hKe _ _ (hK z1 zz1 K1 Z1 _ _ (hw.congr (by rw [Nat.pow_zero, Nat.div_one]) rfl) ⟨rfl, trivial⟩ rfl)
end Go.Proofs.YtlkjiiibmfpbcaaGreatDoor
