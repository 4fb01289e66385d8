/- Contracts: a power modulo an even number, put together from an odd modulus and a power of two. Conditions: base and modulus below 40 words; the modulus below 27 words. -/
import Derived.Test.YtlkjiiibmfpbcaaGreatDoorP40
namespace Go.Proofs.YtlkjiiibmfpbcaaGreatDoor
open Go
theorem alias_no {w : World} {z x : Sl} (d : Dj (fp z) (fp x)) (hz : St w z) (hx : St w x) : Calls Tryz.prog 49 #[z.v, x.v] w fun e w' => e = .returned (.bool false) ∧ w' = w.drew := by
 refine (c49 z x w hz.pc hx.pc hz.cm hx.cm).mono ?_
 rintro e w1 ⟨_, rfl, qq, rfl, hw, hq⟩
 have hqf : qq = false := by
  cases qq with
  | false => rfl
  | true =>
   obtain ⟨h1, h2, h3, h4⟩ := hq.1 rfl
   exact (d z.b (z.o + z.c - 1) ⟨rfl, by omega, by omega⟩ ⟨h3, by omega, by omega⟩).elim
 exact ⟨by rw [hqf], hw⟩
theorem pow2_odd {a b u : Nat} (h : 2 ^ a = 2 ^ b * (2 * u + 1)) : u = 0 := by
 have hd : (2 * u + 1) ∣ 2 ^ a := ⟨2 ^ b, by rw [h, Nat.mul_comm]⟩
 have hc : Nat.Coprime (2 * u + 1) (2 ^ a) := by
  refine Nat.Coprime.pow_right _ ?_
  rw [Nat.coprime_comm, Nat.Coprime, Nat.gcd_rec, show (2 * u + 1) % 2 = 1 by omega]; rfl
 have h1 : 2 * u + 1 = 1 := by
  have h2 : 2 * u + 1 ∣ Nat.gcd (2 * u + 1) (2 ^ a) := Nat.dvd_gcd (Nat.dvd_refl _) hd
  rw [hc] at h2
  exact Nat.dvd_one.1 h2
 omega
section
variable {w : World} {K : SK} {z x y m : Sl} {X Y M : Nat} {a : Item} {L : List Item}
theorem c51s (h : Bank w (stk K :: a :: L)) (ha : a.fp = fp z) (hz : ∀ w', a.P w' → St w' z) (hx : nmz x X ∈ L) (hy : nmz y Y ∈ L) (hm : nmz m M ∈ L) (hM0 : M ≠ 0) (h77 : (∃ k u, M = 2 ^ k * (2 * u + 1) ∧ u ≠ 0) → M % 2 = 0 → C77 M)
  (lm : m.l < 28) (lx : x.l < 40) (ly : y.l ≤ 1000000) (hL : K.s.l ≤ 549755813888) (hg : Glb w) {Q : Ending → World → Prop}
  (q : ∀ (r : Sl) (K' : SK) w', Bank w' (stk K' :: nmz r (X ^ Y % M) :: L) → K'.a = K.a → K'.s.l = K.s.l → Nxt w K K' → Sub w z r → Chg w w' (un (fp z) K.free) → Q (.returned r.v) w') :
  Calls Tryz.prog 51 #[z.v, .pointer K.a, x.v, y.v, m.v, .bool false] w Q := by
 refine (F51.call z.a z.l z.c K.a x.a x.l x.c y.a y.l y.c m.a m.l m.c false w (fun v w' => Q (.returned v) w') fun B => ?_).mono fun e w' ⟨v, h1, h2⟩ => by rw [h1]; exact h2
 have dzx : Dj (fp z) (fp x) := by have := h.tail.hdj (b := nmz x X) hx; rw [ha] at this; exact this
 have dzy : Dj (fp z) (fp y) := by have := h.tail.hdj (b := nmz y Y) hy; rw [ha] at this; exact this
 have hxP : Nz w x X := h.all (nmz x X) (by simp [hx])
 have hyP : Nz w y Y := h.all (nmz y Y) (by simp [hy])
 have hzP : St w z := hz w (h.all a (by simp))
 have cd : Chg w w.drew none2 := Chg.drew0 w _
 have cd2 : Chg w w.drew.drew none2 := cd.trans' (Chg.drew0 w.drew _)
 refine (alias_no dzx hzP hxP.toSt).mono ?_
 rintro e1 w1 ⟨rfl, hw⟩
 subst hw
 refine ⟨_, rfl, bc_false rfl ((alias_no dzy (cd.st hzP) (cd.st hyP.toSt)).mono ?_)⟩
 rintro e1 w1 ⟨rfl, hw⟩
 subst hw
 refine ⟨_, rfl, bc_false rfl fun B1 => ?_⟩
 have b2 := h.none cd2
 have hR : Fin51 w.drew.drew K z L (X ^ Y % M) [] (fun v w' => Q (.returned v) w') := fun r K' w' k1 k2 k3 k4 k5 k6 => q r K' w' k1 k2 k3 (k4.mono cd2.size) (fun b i hb hm => k5 b i (Nat.lt_of_lt_of_le hb cd2.size) hm) ((cd2.none _).trans' k6)
 refine p1_51 (st := K.a) (hz _ (b2.all a (by simp))) (b2.all (nmz x X) (by simp [hx])) (b2.all (nmz y Y) (by simp [hy])) (b2.all (nmz m M) (by simp [hm])) hM0 _ _ (fun V hV hVB => ?_) (fun hM1 hX0 hY0 => ⟨false, rfl, bc_false rfl fun B2 => p2_51 b2 ha hz hx hy hm hM0 hX0 hY0 h77 lm lx ly hL (cd2.glb hg) _ _ hR ⟨rfl, rfl, rfl, rfl, rfl, rfl, trivial⟩⟩) ⟨rfl, rfl, rfl, rfl, rfl, rfl, trivial⟩
 refine ResE.pass (c71 z V _ (hz _ (b2.all a (by simp))) hVB) fun r w3 h3 hf hc => ⟨_, _, _, rfl, fun B3 => ret1 rfl rfl ?_⟩
 have b3 := ((b2.perm (List.Perm.swap _ _ _)).res ha hf hc (a' := nmz r V) h3 rfl).perm (List.Perm.swap _ _ _)
 rw [hV] at b3
 exact q r K w3 b3 rfl rfl (Nxt.refl _ _) (fun b i hb hm => from_sub hf b i (Nat.lt_of_lt_of_le hb cd2.size) hm) ((cd2.none _).trans' (hc.l _))
end
theorem crt {p q R V : Nat} (hc : Nat.Coprime p q) (h1 : R % p = V % p) (h2 : R % q = V % q) (hR : R < p * q) : R = V % (p * q) := by
 have h3 : V % (p * q) % p = V % p := Nat.mod_mul_right_mod _ _ _
 have h4 : V % (p * q) % q = V % q := Nat.mod_mul_left_mod _ _ _
 have hpq : 0 < p * q := by omega
 have hV := Nat.mod_lt V hpq
 have e1 : R % p = V % (p * q) % p := h1.trans h3.symm
 have e2 : R % q = V % (p * q) % q := h2.trans h4.symm
 generalize V % (p * q) = T at e1 e2 hV
 rcases Nat.le_total R T with hle | hle
 ·have d1 : p ∣ T - R := (Nat.dvd_iff_mod_eq_zero ..).2 (Nat.sub_mod_eq_zero_of_mod_eq e1.symm)
  have d2 : q ∣ T - R := (Nat.dvd_iff_mod_eq_zero ..).2 (Nat.sub_mod_eq_zero_of_mod_eq e2.symm)
  have d3 := hc.mul_dvd_of_dvd_of_dvd d1 d2
  have := Nat.eq_zero_of_dvd_of_lt d3 (by omega)
  omega
 ·have d1 : p ∣ R - T := (Nat.dvd_iff_mod_eq_zero ..).2 (Nat.sub_mod_eq_zero_of_mod_eq e1)
  have d2 : q ∣ R - T := (Nat.dvd_iff_mod_eq_zero ..).2 (Nat.sub_mod_eq_zero_of_mod_eq e2)
  have d3 := hc.mul_dvd_of_dvd_of_dvd d1 d2
  have := Nat.eq_zero_of_dvd_of_lt d3 (by omega)
  omega
theorem crt_put {T q Z1 Z2 I V : Nat} (hc : Nat.Coprime T q) (hT : 0 < T) (h1 : Z1 = V % T) (h2 : Z2 = V % q) (hq : 0 < q) (hI : (T : Int) ∣ (I : Int) * q - 1) : Z2 + (Z1 + T - Z2 % T) % T * I % T * q = V % (T * q) := by
 refine crt hc ?_ ?_ ?_
 ·
  have hZ2 := Nat.mod_lt Z2 hT
  have hm2 := Nat.div_add_mod Z2 T
  obtain ⟨c, hcI⟩ := hI
  obtain ⟨D, hD⟩ : ∃ D, D = Z1 + T - Z2 % T := ⟨_, rfl⟩
  have e1 : (Z2 + D % T * I % T * q) % T = (Z2 + D * I * q) % T := by
   rw [Nat.add_mod, Nat.mod_mul_mod, Nat.mul_assoc, Nat.mod_mul_mod, ← Nat.add_mod, Nat.mul_assoc]
  rw [← hD, e1]
  have hi : ((Z2 + D * I * q : Nat) : Int) % T = (V : Int) % T := by
   have hVZ : (T : Int) ∣ (V : Int) - Z1 := by
    have := Nat.div_add_mod V T
    rw [← h1] at this
    exact ⟨((V / T : Nat) : Int), by rw [← Int.natCast_mul]; omega⟩
   obtain ⟨d, hd⟩ := hVZ
   have hDi : (D : Int) = Z1 + T - (Z2 : Int) + T * ((Z2 / T : Nat) : Int) := by
    rw [← Int.natCast_mul]; omega
   have : ((Z2 + D * I * q : Nat) : Int) - V = T * (D * c + 1 + ((Z2 / T : Nat) : Int) - d) := by
    simp only [Int.natCast_add, Int.natCast_mul]
    grind
   have h3 : ((Z2 + D * I * q : Nat) : Int) = V + T * (D * c + 1 + ((Z2 / T : Nat) : Int) - d) := by omega
   rw [h3, Int.add_mul_emod_self_left]
  have := hi
  rw [← Int.natCast_emod, ← Int.natCast_emod] at this
  exact Int.ofNat.inj this
 ·rw [Nat.add_mul_mod_self_right, h2, Nat.mod_mod]
 ·have h3 : Z2 < q := by rw [h2]; exact Nat.mod_lt _ hq
  have h4 : (Z1 + T - Z2 % T) % T * I % T < T := Nat.mod_lt _ hT
  have h5 : ((Z1 + T - Z2 % T) % T * I % T) * q + q ≤ T * q := by rw [← Nat.succ_mul]; exact Nat.mul_le_mul_right _ h4
  omega
theorem c77 {M : Nat} (hu : ∃ k u, M = 2 ^ k * (2 * u + 1) ∧ u ≠ 0) (hev : M % 2 = 0) : C77 M := by
 intro w K z x y m X Y a L h ha hz hx hy hm hX0 hy1 lm lx ly hL hg Q q
 have hM0 : M ≠ 0 := by
  obtain ⟨k, u, e, _⟩ := hu
  rw [e]; exact Nat.ne_of_gt (Nat.mul_pos (Nat.two_pow_pos k) (by omega))
 have hmP : Nz w m M := h.all (nmz m M) (by simp [hm])
 have hMB : M < BB ^ 28 := lt_pow_of_le hmP.lt (by omega)
 refine (F77.call z.a z.l z.c K.a x.a x.l x.c y.a y.l y.c m.a m.l m.c w (fun v w' => Q (.returned v) w') fun B => ?_).mono fun e w' ⟨v, h1, h2⟩ => by rw [h1]; exact h2
 refine (c108 m M w hmP (by unfold Len; omega) hg.tabs hM0).mono ?_
 rintro e1 w1 ⟨_, rfl, n, v, rfl, hMn, hnl, hw⟩
 have hw := hw.symm
 subst hw
 have hv : v ≠ 0 := by
  rintro rfl
  obtain ⟨k, u, e, h0⟩ := hu
  rw [hMn, Nat.mul_zero, Nat.zero_add, Nat.mul_one] at e
  exact h0 (pow2_odd e)
 obtain ⟨T, hT⟩ : ∃ T, T = 2 ^ n := ⟨_, rfl⟩
 obtain ⟨d, hd⟩ : ∃ d, d = 2 * v + 1 := ⟨_, rfl⟩
 have hTpos : 0 < T := by rw [hT]; exact Nat.two_pow_pos n
 have hMT : M = T * d := by rw [hT, hd]; exact hMn
 have hTB : T < BB ^ 28 := by
  have : T * 1 ≤ T * d := Nat.mul_le_mul_left _ (by omega)
  omega
 have hdB : d < BB ^ 28 := by
  have : 1 * d ≤ T * d := Nat.mul_le_mul_right _ hTpos
  omega
 have hcop : Nat.Coprime d T := by
  rw [hT]
  refine Nat.Coprime.pow_right _ ?_
  rw [Nat.coprime_comm, Nat.Coprime, Nat.gcd_rec, show d % 2 = 1 by omega]; rfl
 have hn : n ≤ 28 * 64 := by omega
 refine ⟨_, rfl, (c100 w hg.gb).mono ?_⟩
 rintro e2 w2 ⟨_, rfl, one, rfl, hone, hnew, c2⟩
 have b2 : Bank w2 (nmz one 1 :: stk K :: a :: L) := h.new c2 hone fun b i hm' => by rw [hm'.1]; exact hnew
 have hg2 := c2.glb hg
 refine ⟨_, _, _, rfl, ResE.pass (c105 (nilS w2) one 1 n w2 (nilSt w2 hg2.gb) hone (.inl rfl) (by have := hone.nm 1 (by decide); unfold Len; omega) (by omega)) fun m1 w3 h3 f3 c3 => ⟨_, _, _, rfl, ?_⟩⟩
 rw [Nat.one_mul, ← hT] at h3
 have b3 : Bank w3 (nmz m1 T :: nmz one 1 :: stk K :: a :: L) := (b2.nilF hg2.gb).res (a' := nmz m1 T) rfl f3 c3 h3 rfl
 have hg3 := c3.glb hg2
 have hm3 : Nz w3 m M := b3.all (nmz m M) (by simp [hm])
 refine ResE.pass (c109 (nilS w3) m M n w3 (nilSt w3 hg3.gb) hm3 (.inl rfl) (by unfold Len; omega) (by omega)) fun m2 w4 h4 f4 c4 => ⟨_, _, _, rfl, ?_⟩
 rw [← hT, hMT, Nat.mul_div_cancel_left d hTpos] at h4
 have b4 : Bank w4 (nmz m2 d :: nmz m1 T :: nmz one 1 :: stk K :: a :: L) := (b3.nilF hg3.gb).res (a' := nmz m2 d) rfl f4 c4 h4 rfl
 have hg4 := c4.glb hg3
 have c04 : Chg w w4 none2 := (c2.trans' (c3.nil _)).trans' (c4.nil _)
 have b5 : Bank w4 (stk K :: nmz (nilS w4) 0 :: nmz m1 T :: nmz m2 d :: a :: L) := (b4.nilF hg4.gb).pick 6 [4, 0, 2, 1, 5] rfl
 have l1 : m1.l ≤ 28 := (b4.all (nmz m1 T) (by simp) : Nz w4 m1 T).nm 28 hTB
 have l2 : m2.l ≤ 28 := h4.nm 28 hdB
 have lmM : M < BB ^ m.l := hmP.lt
 have l1' : m1.l ≤ m.l := (b4.all (nmz m1 T) (by simp) : Nz w4 m1 T).nm _ (by
  have : T * 1 ≤ T * d := Nat.mul_le_mul_left _ (by omega)
  omega)
 have l2' : m2.l ≤ m.l := h4.nm _ (by
  have : 1 * d ≤ T * d := Nat.mul_le_mul_right _ hTpos
  omega)
 have no1 : (∃ k u, T = 2 ^ k * (2 * u + 1) ∧ u ≠ 0) → T % 2 = 0 → C77 T := fun ⟨k, u, e, h0⟩ _ => (h0 (pow2_odd (hT ▸ e))).elim
 have no2 : (∃ k u, d = 2 ^ k * (2 * u + 1) ∧ u ≠ 0) → d % 2 = 0 → C77 d := fun _ h0 => by omega
 have ks4 : KS w w4 z K K K.s.l := ⟨c04.none _, Nxt.refl _ _, rfl, Nat.le_refl _, hg⟩
 have fresh : ∀ {wk : World} {r : Sl}, Sub wk (nilS wk) r → w.heap.size ≤ wk.heap.size → In2 w (un (fp z) K.free) r := fun {wk r} hs hsz b i hb hm' => (nil_dj wk (fun _ _ => True) b i trivial (hs b i (Nat.lt_of_lt_of_le hb hsz) hm')).elim
 have fnil : ∀ wk : World, In2 w (un (fp z) K.free) (nilS wk) := fun wk b i _ hm' => (nil_dj wk (fun _ _ => True) b i trivial hm').elim
 refine c51s (z := nilS w4) (x := x) (y := y) (m := m1) (X := X) (Y := Y) (M := T) b5 rfl (fun _ hh => (hh : Nz _ (nilS w4) 0).toSt) (by simp [hx]) (by simp [hy]) (by simp) (by omega) no1 (by omega) lx ly hL hg4 fun z1 K1 w5 b6 ka1 kl1 kn1 s1 c5 => ⟨_, _, _, rfl, ?_⟩
 have ks5 : KS w w5 z K K1 K.s.l := ks4.step (fnil w4) c5 kn1 ka1 (by omega)
 have iz1 := fresh s1 c04.size
 have hg5 := ks5.ch.glb hg
 obtain ⟨Z1, hZ1⟩ : ∃ Z1, Z1 = X ^ Y % T := ⟨_, rfl⟩
 rw [← hZ1] at b6
 have b7 : Bank w5 (stk K1 :: nmz (nilS w5) 0 :: nmz m2 d :: nmz z1 Z1 :: nmz m1 T :: a :: L) := (b6.nilF hg5.gb).pick 6 [1, 0, 4, 2, 3, 5] rfl
 rw [← ka1]
 refine c51s (z := nilS w5) (x := x) (y := y) (m := m2) (X := X) (Y := Y) (M := d) b7 rfl (fun _ hh => (hh : Nz _ (nilS w5) 0).toSt) (by simp [hx]) (by simp [hy]) (by simp) (by omega) no2 (by omega) lx ly (by omega) hg5 fun z2 K2 w6 b8 ka2 kl2 kn2 s2 c6 => ⟨_, _, _, rfl, ?_⟩
 have ks6 : KS w w6 z K K2 K.s.l := ks5.step (fnil w5) c6 kn2 ka2 (by omega)
 have iz2 := fresh s2 ks5.ch.size
 have hg6 := ks6.ch.glb hg
 obtain ⟨Z2, hZ2⟩ : ∃ Z2, Z2 = X ^ Y % d := ⟨_, rfl⟩
 rw [← hZ2] at b8
 have hZ1T : Z1 < T := by rw [hZ1]; exact Nat.mod_lt _ hTpos
 have hZ2d : Z2 < d := by rw [hZ2]; exact Nat.mod_lt _ (by omega)
 have b9 : Bank w6 (a :: nmz z2 Z2 :: nmz z1 Z1 :: nmz m1 T :: nmz m2 d :: stk K2 :: L) := b8.pick 6 [5, 1, 3, 4, 2, 0] rfl
 have lz2 : z2.l ≤ 28 := (b9.all (nmz z2 Z2) (by simp) : Nz w6 z2 Z2).nm 28 (by omega)
 have lz1 : z1.l ≤ 28 := (b9.all (nmz z1 Z1) (by simp) : Nz w6 z1 Z1).nm 28 (by omega)
 refine ResE.pass (c60 z z2 Z2 w6 (hz w6 b9.head) (b9.all (nmz z2 Z2) (by simp)) (by unfold Len; omega)) fun zr w7 h7 f7 c7 => ⟨_, _, _, rfl, ?_⟩
 have b10 : Bank w7 (nmz zr Z2 :: nmz z2 Z2 :: nmz z1 Z1 :: nmz m1 T :: nmz m2 d :: stk K2 :: L) := b9.res ha f7 c7 h7 rfl
 have iz : In2 w (un (fp z) K.free) z := fun _ _ _ hh => .inl hh
 have ks7 := ks6.one iz c7
 have hg7 := ks7.ch.glb hg
 have szr : Sub w z zr := (Sub.self w z).from_ f7 ks6.ch.size
 have izr : In2 w (un (fp z) K.free) zr := fun b i hb hm' => .inl (szr b i hb hm')
 have b11 : Bank w7 (nmz z1 Z1 :: nmz z2 Z2 :: nmz zr Z2 :: nmz m1 T :: nmz m2 d :: stk K2 :: L) := b10.pick 3 [2, 1, 0] rfl
 refine c110 (n := n) (Y := Z2) b11 (by simp) (by rw [← hT]; exact hZ1T) (by omega) (by omega) (by omega) hg7 fun z3 w8 b12 s3 c8 => ⟨_, _, _, rfl, ?_⟩
 rw [← hT] at b12
 have ks8 := ks7.one iz1 c8
 have iz3 : In2 w (un (fp z) K.free) z3 := fun b i hb hm' => iz1 b i hb (s3 b i (Nat.lt_of_lt_of_le hb ks7.ch.size) hm')
 obtain ⟨Z3, hZ3⟩ : ∃ Z3, Z3 = (Z1 + T - Z2 % T) % T := ⟨_, rfl⟩
 rw [← hZ3] at b12
 have hZ3T : Z3 < T := by rw [hZ3]; exact Nat.mod_lt _ hTpos
 have b13 : Bank w8 (nmz m2 d :: nmz m1 T :: nmz z3 Z3 :: nmz z2 Z2 :: nmz zr Z2 :: stk K2 :: L) := b12.pick 5 [4, 3, 0, 1, 2] rfl
 refine c111 b13 (by omega) hTpos hdB hTB hcop (ks8.ch.glb hg) fun iv I w9 b14 hI1 hI2 c9 => ⟨_, _, _, rfl, ?_⟩
 have ks9 := ks8.none c9
 have b15 : Bank w9 (nmz z2 Z2 :: nmz z3 Z3 :: nmz iv I :: nmz m2 d :: nmz zr Z2 :: stk K2 :: L) := b14.pick 6 [4, 3, 0, 1, 5] rfl
 have lz3 : z3.l ≤ 28 := (b15.all (nmz z3 Z3) (by simp) : Nz w9 z3 Z3).nm 28 (by omega)
 have liv : iv.l ≤ 28 := (b15.all (nmz iv I) (by simp) : Nz w9 iv I).nm 28 (by omega)
 refine mul_bank (z := z2) (x := z3) (y := iv) (X := Z3) (Y := I) b15 rfl (b15.head : Nz _ z2 Z2).toSt (by simp) (by simp) (by unfold Len; omega) (by unfold Len; omega) (.inl (by omega)) (ks9.ch.glb hg) fun r1 w10 b16 f10 c10 => ⟨_, _, _, rfl, ?_⟩
 have ks10 := ks9.one iz2 c10
 have ir1 := iz2.from_ f10 ks9.ch.size
 have lr1 : r1.l ≤ 56 := (b16.head : Nz _ r1 (Z3 * I)).nm 56 (by
  have h1 : Z3 < BB ^ 28 := by omega
  have h2 : I < BB ^ 28 := by omega
  rw [show (56 : Nat) = 28 + 28 from rfl]; exact prod_lt h1 h2)
 refine trunc_bank (z := r1) (x := r1) (X := Z3 * I) (n := n) b16 rfl (b16.head : Nz _ r1 (Z3 * I)).toSt (by simp) (by unfold Len; omega) (by omega) fun r2 w11 b17 f11 c11 => ⟨_, _, _, rfl, ?_⟩
 rw [← hT] at b17
 have ks11 := ks10.one ir1 c11
 have hPT : Z3 * I % T < T := Nat.mod_lt _ hTpos
 obtain ⟨P, hP⟩ : ∃ P, P = Z3 * I % T := ⟨_, rfl⟩
 rw [← hP] at b17 hPT
 have b18 : Bank w11 (nmz z3 Z3 :: nmz r2 P :: nmz m2 d :: nmz zr Z2 :: stk K2 :: L) := b17.pick 5 [1, 0, 3, 4] rfl
 have lr2 : r2.l ≤ 28 := (b18.all (nmz r2 P) (by simp) : Nz w11 r2 P).nm 28 (by omega)
 refine mul_bank (z := z3) (x := r2) (y := m2) (X := P) (Y := d) b18 rfl (b18.head : Nz _ z3 Z3).toSt (by simp) (by simp) (by unfold Len; omega) (by unfold Len; omega) (.inl (by omega)) (ks11.ch.glb hg) fun r3 w12 b19 f12 c12 => ⟨_, _, _, rfl, ?_⟩
 have ks12 := ks11.one iz3 c12
 have b20 : Bank w12 (nmz zr Z2 :: nmz r3 (P * d) :: stk K2 :: L) := b19.pick 4 [3, 0] rfl
 have hzr : Nz w12 zr Z2 := b20.head
 have hr3 : Nz w12 r3 (P * d) := b20.all (nmz r3 (P * d)) (by simp)
 have dzr : Dj (fp zr) (fp r3) := b20.hdj (b := nmz r3 (P * d)) (by simp)
 have lr3 : r3.l ≤ 56 := hr3.nm 56 (by
  have h1 : P < BB ^ 28 := by omega
  rw [show (56 : Nat) = 28 + 28 from rfl]; exact prod_lt h1 hdB)
 have lzr : zr.l ≤ 28 := hzr.nm 28 (by omega)
 refine ResE.pass (c101 zr zr r3 Z2 (P * d) w12 hzr.toSt hzr hr3 (.inr (.inr (.inr (.inr (.inr rfl))))) (dzr.al hr3.toSt).sep (by unfold Len; omega) (by unfold Len; omega)) fun rf w13 h13 f13 c13 => ⟨_, _, _, rfl, fun B3 => ret1 rfl rfl ?_⟩
 have ks13 := ks12.one izr c13
 have b21 : Bank w13 (nmz rf (Z2 + P * d) :: nmz r3 (P * d) :: stk K2 :: L) := b20.res rfl f13 c13 h13 rfl
 have hval : Z2 + P * d = X ^ Y % M := by
  rw [hP, hZ3, hMT]
  exact crt_put (Nat.coprime_comm.1 hcop) hTpos hZ1 hZ2 (by omega) hI2
 rw [hval] at b21
 exact q rf K2 w13 (b21.pick 3 [2, 0] rfl) (ka2.trans ka1) (by omega) ks13.kn (szr.from_ f13 ks12.ch.size) ks13.ch
section
variable {w : World} {z x y m : Sl} {X Y M : Nat} {a : Item} {L : List Item}
theorem h77 (M : Nat) : (∃ k u, M = 2 ^ k * (2 * u + 1) ∧ u ≠ 0) → M % 2 = 0 → C77 M := fun h1 h2 => c77 h1 h2
theorem c51n (h : Bank w (a :: L)) (ha : a.fp = fp z) (hz : ∀ w', a.P w' → St w' z) (hx : nmz x X ∈ L) (hy : nmz y Y ∈ L) (hm : nmz m M ∈ L) (hM0 : M ≠ 0) (lm : m.l < 28) (lx : x.l < 40) (ly : y.l ≤ 1000000) (hg : Glb w) {Q : Ending → World → Prop}
  (q : ∀ (r : Sl) w', Bank w' (nmz r (X ^ Y % M) :: L) → Sub w z r → Chg w w' (fp z) → Q (.returned r.v) w') :
  Calls Tryz.prog 51 #[z.v, .pointer none, x.v, y.v, m.v, .bool false] w Q := by
 refine (F51.call z.a z.l z.c none x.a x.l x.c y.a y.l y.c m.a m.l m.c false w (fun v w' => Q (.returned v) w') fun B => ?_).mono fun e w' ⟨v, h1, h2⟩ => by rw [h1]; exact h2
 have dzx : Dj (fp z) (fp x) := by have := h.hdj (b := nmz x X) hx; rw [ha] at this; exact this
 have dzy : Dj (fp z) (fp y) := by have := h.hdj (b := nmz y Y) hy; rw [ha] at this; exact this
 have hxP : Nz w x X := h.all (nmz x X) (by simp [hx])
 have hyP : Nz w y Y := h.all (nmz y Y) (by simp [hy])
 have hzP : St w z := hz w (h.all a (by simp))
 have cd : Chg w w.drew none2 := Chg.drew0 w _
 have cd2 : Chg w w.drew.drew none2 := cd.trans' (Chg.drew0 w.drew _)
 refine (alias_no dzx hzP hxP.toSt).mono ?_
 rintro e1 w1 ⟨rfl, hw⟩
 subst hw
 refine ⟨_, rfl, bc_false rfl ((alias_no dzy (cd.st hzP) (cd.st hyP.toSt)).mono ?_)⟩
 rintro e1 w1 ⟨rfl, hw⟩
 subst hw
 refine ⟨_, rfl, bc_false rfl fun B1 => ?_⟩
 have b2 := h.none cd2
 refine p1_51 (st := none) (hz _ (b2.all a (by simp))) (b2.all (nmz x X) (by simp [hx])) (b2.all (nmz y Y) (by simp [hy])) (b2.all (nmz m M) (by simp [hm])) hM0 _ _ (fun V hV hVB => ?_) (fun hM1 hX0 hY0 => ⟨true, rfl, bc_true rfl ?_⟩) ⟨rfl, rfl, rfl, rfl, rfl, rfl, trivial⟩
 ·refine ResE.pass (c71 z V _ (hz _ (b2.all a (by simp))) hVB) fun r w3 h3 hf hc => ⟨_, _, _, rfl, fun B3 => ret1 rfl rfl ?_⟩
  have b3 := b2.res ha hf hc (a' := nmz r V) h3 rfl
  rw [hV] at b3
  exact q r w3 b3 (fun b i hb hm => from_sub hf b i (Nat.lt_of_lt_of_le hb cd2.size) hm) ((cd2.none _).trans' hc)
 ·refine (c56 w.drew.drew (cd2.glb hg).gb).mono ?_
  rintro e2 w3 ⟨_, rfl, K, rfl, hk, hl0, hq0, hnew, c3⟩
  have hsc : K.s.c = 0 := (hk.nil hq0).2
  have hfree : ∀ b i, b < w.heap.size → ¬ K.free b i := by
   intro b i hb hf
   have := cd2.size
   rcases hf with e | e | ⟨e, h1, h2⟩
   ·omega
   ·rw [hq0] at e; cases e
   ·omega
  have hfree2 : ∀ b i, K.free b i → w.drew.drew.heap.size ≤ b := by
   intro b i hf
   rcases hf with e | e | ⟨e, h1, h2⟩
   ·omega
   ·rw [hq0] at e; cases e
   ·omega
  have b3 : Bank w3 (stk K :: a :: L) := b2.new c3 hk fun b i hm => hfree2 b i hm
  refine ⟨_, rfl, fun B2 => ?_⟩
  refine p2_51 b3 ha hz hx hy hm hM0 hX0 hY0 (h77 M) lm lx ly (by omega) ((cd2.trans' c3).glb hg) _ _ ?_ ⟨rfl, rfl, rfl, rfl, rfl, rfl, trivial⟩
  intro r K' w4 b4 ka kl kn hs hc
  refine ⟨rfl, Tryz.call57, ?_⟩
  rw [← ka]
  refine d57 w4 K' b4.head _ fun w5 c5 => ?_
  have c03 : Chg w w3 none2 := cd2.trans' c3
  have c04 : Chg w w4 (fp z) := (c03.none _).trans hc (fun _ _ _ h => h) fun b i hb hm => hm.elim id fun hm => (hfree b i hb hm).elim
  have c05 : Chg w w5 (fp z) := c04.trans c5 (fun _ _ _ h => h) fun b i hb hm => (hfree b i hb (kn.free (Nat.lt_of_lt_of_le hb c03.size) hm)).elim
  refine q r w5 (b4.tail.keep c5 fun x hx b i hf hfr => b4.hdj hx b i hfr hf) (fun b i hb hm => hs b i (Nat.lt_of_lt_of_le hb c03.size) hm) c05
end
end Go.Proofs.YtlkjiiibmfpbcaaGreatDoor
