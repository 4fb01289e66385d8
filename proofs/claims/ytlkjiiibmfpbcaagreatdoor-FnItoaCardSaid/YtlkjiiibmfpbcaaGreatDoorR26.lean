/- Contracts: Karatsuba's product of two numbers of one length. Conditions: 40 to 78 words, storages apart. -/
import Derived.Test.YtlkjiiibmfpbcaaGreatDoorR25
import Derived.Test.YtlkjiiibmfpbcaaGreatDoorR08
namespace Go.Proofs.YtlkjiiibmfpbcaaGreatDoor
open Go
theorem Dj.sp {a b : Sl} (h : Dj (wds a) (fp b)) (hb : b.l ≤ b.c) : Sp a.b a.o a.l b.b b.o b.l := by
 have := Dj.apl (z := b) (x := a) h.symm
 unfold Apart at this; unfold Sp
 omega
section
variable {w wm : World} {K : SK} {z x0 x1 y0 y1 : Sl} {X0 X1 Y0 Y1 m n px0 px1 py0 py1 pz0 pz2 pz1 : Nat}
theorem karEnd {w3 : World} {K1 : SK} {r : Sl} {V P0 P2 k0 k2 : Nat} {ng : Bool} {L : List Item} (hz : St w z) (h2m : 2 * m ≤ z.l) (k0m : k0 ≤ 2 * m) (k2m : k2 ≤ z.l - 2 * m)
  (b : Bank w3 (hdr pz1 ng r :: nmz r V :: nlz ((z.sub (2 * m) z.l).to k2) P2 :: nl ((z.sub (2 * m) z.l).sub k2 (z.l - 2 * m)) 0 :: nlz ((z.sub 0 (2 * m)).to k0) P0 :: nl ((z.sub 0 (2 * m)).sub k0 (2 * m)) 0 :: stk K1 :: L))
  (ch : Chg w w3 (un (fp z) K.free)) (hKa : K1.a = K.a) (hnx : Nxt w K K1) (hlt : P0 + BB ^ (2 * m) * P2 + BB ^ m * V < BB ^ z.l) (R : Value → World → Prop)
  (hR : ∀ w', Back w w' K → Sg w' z.b z.o z.l (P0 + BB ^ (2 * m) * P2 + BB ^ m * V) → Chg w w' (un (fp z) K.free) → R undef w') :
  (∃ i_38 : Nat, (m : Int) = (i_38 : Int) ∧ i_38 ≤ z.l ∧ (nc (ptr pz1) fun b_41 o_42 => (∃ x_43a, ∃ x_43l, ∃ x_43c, World.cell? (World.drew w3) ⟨b_41, (o_42 + 1), none⟩ = some (.slice x_43a x_43l x_43c) ∧ (Calls Tryz.prog 119 #[(.slice (shifted z.a i_38 z.c 1) (z.l - i_38) (z.c - i_38)), (.slice x_43a x_43l x_43c)] (World.drew w3) fun r_44 w_45 => (r_44 = .returned undef ∧ (∀ B_46, retK Tryz.prog [] R .normal (E [] B_46 [Dr K.a (K.s.l : Int)]) w_45)))))) := by
 have hzc := hz.lc
 have cd : Chg w3 w3.drew none2 := Chg.drew0 w3 _
 have b1 := b.none cd
 have H1 : HdrAt w3.drew pz1 ng r := b1.head
 have b2 : Bank w3.drew (nlz ((z.sub 0 (2 * m)).to k0) P0 :: nl ((z.sub 0 (2 * m)).sub k0 (2 * m)) 0 :: nlz ((z.sub (2 * m) z.l).to k2) P2 :: nl ((z.sub (2 * m) z.l).sub k2 (z.l - 2 * m)) 0 :: nmz r V :: stk K1 :: []) :=
  (b1.pick 7 [4, 5, 2, 3, 1, 6] rfl).left (A := [_, _, _, _, _, _])
 have b3 : Bank w3.drew (nl (z.sub 0 (2 * m)) P0 :: nlz ((z.sub (2 * m) z.l).to k2) P2 :: nl ((z.sub (2 * m) z.l).sub k2 (z.l - 2 * m)) 0 :: nmz r V :: stk K1 :: []) := b2.unnorm k0m
 have b4 : Bank w3.drew [nlz ((z.sub (2 * m) z.l).to k2) P2, nl ((z.sub (2 * m) z.l).sub k2 (z.l - 2 * m)) 0, nl (z.sub 0 (2 * m)) P0, nmz r V, stk K1] := b3.pick 5 [1, 2, 0, 3, 4] rfl
 have b5 : Bank w3.drew [nl (z.sub (2 * m) z.l) P2, nl (z.sub 0 (2 * m)) P0, nmz r V, stk K1] := b4.unnorm k2m
 have b6 : Bank w3.drew [nl (z.sub 0 (2 * m)) P0, nl (z.sub (2 * m) z.l) P2, nmz r V, stk K1] := b5.pick 4 [1, 0, 2, 3] rfl
 rw [hz.sub0] at b6
 have b7 := b6.join h2m
 have b8 := b7.split m (by omega)
 generalize hZt : P0 + BB ^ (2 * m) * P2 = Zt at b8 hlt hR
 have lo : Nt w3.drew (z.to m) (Zt % BB ^ m) := b8.head
 have hi : Nt w3.drew (z.sub m z.l) (Zt / BB ^ m) := b8.tail.head
 have rz : Nz w3.drew r V := b8.tail.tail.head
 have hk : StkAt w3.drew K1 := b8.tail.tail.tail.head
 have hsplit := Nat.mod_add_div Zt (BB ^ m)
 have hpow : BB ^ z.l = BB ^ m * BB ^ (z.l - m) := by rw [← Nat.pow_add]; congr 1; omega
 have hm0 := Nat.zero_le (Zt % BB ^ m)
 have hs : Zt / BB ^ m + V < BB ^ (z.l - m) := by
  rw [hpow] at hlt
  rcases Nat.lt_or_ge (Zt / BB ^ m + V) (BB ^ (z.l - m)) with h | h
  ·exact h
  ·have := Nat.mul_le_mul_left (BB ^ m) h
   rw [Nat.mul_add] at this
   omega
 have hrl : r.l ≤ z.l - m := rz.nm _ (Nat.lt_of_le_of_lt (Nat.le_add_left _ _) hs)
 have dzr : Dj (wds (z.sub m z.l)) (fp r) := b8.tail.hdj (b := nmz r V) (by simp)
 have dzk : Dj (wds (z.sub m z.l)) K1.free := b8.tail.hdj (b := stk K1) (by simp)
 have dlk : Dj (wds (z.to m)) K1.free := b8.hdj (b := stk K1) (by simp)
 refine ⟨m, rfl, by omega, pz1, 0, rfl, r.a, r.l, r.c, H1.c1, (c119 (z.sub m z.l) r (Zt / BB ^ m) V w3.drew hi rz.toNt.rd rz.lc hrl (dzr.sp rz.lc) hs).mono ?_⟩
 rintro e w6 ⟨rfl, h6, c6⟩
 have c6 : Chg w3.drew w6 (wds (z.sub m z.l)) := c6
 have lo6 : Nt w6 (z.to m) (Zt % BB ^ m) := c6.nt lo fun i hi hm => cut_dj z m _ _ ⟨rfl, Nat.le_add_right _ _, by show z.o + i < z.o + m; have : i < m := hi; omega⟩ hm
 have z6 : Nt w6 z (Zt + BB ^ m * V) := by
  have := lo6.join h6 (by omega)
  rwa [Nat.mul_add, ← Nat.add_assoc, hsplit] at this
 have hk6 : StkAt w6 K1 := (stk K1).keep hk c6 fun b i h1 h2 => dzk b i h2 h1
 have ch6 := (ch.via cd fun _ _ _ h => h.elim).via c6 fun b i hb hm => .inl ⟨hm.1, by have : z.o + m ≤ i := hm.2.1; omega, by have : i < z.o + m + (z.l - m) := hm.2.2; omega⟩
 refine ⟨rfl, fun B => retR0n (K := K1) (n := K.s.l) (by rw [hKa]) hk6 hnx.l fun w7 hk7 c7 => hR w7 ⟨K1.cut K.s.l, hk7, hnx.cut' _ (Nat.le_refl _), rfl⟩ ?_ (ch6.via c7 fun b i hb hm => .inr (hnx.free hb hm))⟩
 refine c7.sg z6.sg fun i hi hm => ?_
 rcases Nat.lt_or_ge i m with h | h
 ·exact dlk _ _ ⟨rfl, by show z.o ≤ z.o + i; omega, by show z.o + i < z.o + m; omega⟩ hm
 ·exact dzk _ _ ⟨rfl, by show z.o + m ≤ z.o + i; omega, by show z.o + i < z.o + m + (z.l - m); omega⟩ hm
theorem karC (hz : St w z) (hzl : z.l = 2 * n) (hmn : m ≤ n) (hnm : n ≤ 2 * m) (hm : m ≤ 39) (hkm : KarMid w K z x0 x1 y0 y1 X0 X1 Y0 Y1 m px0 px1 py0 py1 pz0 pz2 pz1 wm)
  (x0b : X0 < BB ^ m) (x1b : X1 < BB ^ (n - m)) (y0b : Y0 < BB ^ m) (y1b : Y1 < BB ^ (n - m)) (spx0 : SpC z x0) (spx1 : SpC z x1) (spy0 : SpC z y0) (spy1 : SpC z y1) (hg : Glb w) (R : Value → World → Prop)
  (hR : ∀ w', Back w w' K → Sg w' z.b z.o z.l ((X0 + BB ^ m * X1) * (Y0 + BB ^ m * Y1)) → Chg w w' (un (fp z) K.free) → R undef w') :
  (∃ w_27, (Sem.run Tryz.prog (builtin .clear #[45] 0 #[false] #[(.slice z.a z.l z.c)]) wm = .ok (.value undef) w_27 ∧ (Calls Tryz.prog 149 #[(.pointer (ptr pz0)), (.pointer K.a), (.pointer (ptr px0)), (.pointer (ptr py0))] w_27 fun r_28 w_29 => (r_28 = .returned undef ∧ (Calls Tryz.prog 149 #[(.pointer (ptr pz2)), (.pointer K.a), (.pointer (ptr px1)), (.pointer (ptr py1))] w_29 fun r_30 w_31 => (r_30 = .returned undef ∧ (Calls Tryz.prog 70 #[(.pointer (ptr pz1)), (.pointer (ptr pz1)), (.pointer (ptr pz0))] w_31 fun r_32 w_33 => (∃ x_34, r_32 = .returned (.pointer x_34) ∧ (Calls Tryz.prog 70 #[(.pointer (ptr pz1)), (.pointer (ptr pz1)), (.pointer (ptr pz2))] w_33 fun r_35 w_36 => (∃ x_37, r_35 = .returned (.pointer x_37) ∧ (∃ i_38 : Nat, (m : Int) = (i_38 : Int) ∧ i_38 ≤ z.l ∧ (nc (ptr pz1) fun b_41 o_42 => (∃ x_43a, ∃ x_43l, ∃ x_43c, World.cell? (World.drew w_36) ⟨b_41, (o_42 + 1), none⟩ = some (.slice x_43a x_43l x_43c) ∧ (Calls Tryz.prog 119 #[(.slice (shifted z.a i_38 z.c 1) (z.l - i_38) (z.c - i_38)), (.slice x_43a x_43l x_43c)] (World.drew w_36) fun r_44 w_45 => (r_44 = .returned undef ∧ (∀ B_46, retK Tryz.prog [] R .normal (E [] B_46 [Dr K.a (K.s.l : Int)]) w_45)))))))))))))))) := by
 obtain ⟨K1, ng, r, V, d, e, hd, he, hiv, hVb, hKa, hnx, ch, hr, sp1, sp0, sp2, b⟩ := hkm
 have hzc := hz.lc
 have zm : St wm z := b.head
 have X0z : Nz wm x0 X0 := (b.pick 14 [12] rfl : Bank wm [nlz x0 X0]).head
 have X1z : Nz wm x1 X1 := (b.pick 14 [13] rfl : Bank wm [nlz x1 X1]).head
 have Y0z : Nz wm y0 Y0 := (b.pick 14 [8] rfl : Bank wm [nlz y0 Y0]).head
 have Y1z : Nz wm y1 Y1 := (b.pick 14 [9] rfl : Bank wm [nlz y1 Y1]).head
 have lx0 : x0.l ≤ m := X0z.nm m x0b
 have lx1 : x1.l ≤ n - m := X1z.nm _ x1b
 have ly0 : y0.l ≤ m := Y0z.nm m y0b
 have ly1 : y1.l ≤ n - m := Y1z.nm _ y1b
 obtain ⟨w1, r1, b1, c1⟩ := clearB b zm (fun b i hm => wds_fp zm.lc b i hm)
 have ch1 := ch.via c1 fun b i _ hm => .inl (wds_fp hzc b i hm)
 have b2 := b1.split (2 * m) (by omega)
 rw [Nat.zero_mod, Nat.zero_div, ← hz.sub0] at b2
 have b3 : Bank w1 [hdr pz0 false (z.sub 0 (2 * m)), nl (z.sub 0 (2 * m)) 0, nl (z.sub (2 * m) z.l) 0, hdr pz1 ng r, nmz r V, stk K1, hdr pz2 false (z.sub (2 * m) z.l), hdr py0 false y0, hdr py1 false y1, nlz y0 Y0, nlz y1 Y1, hdr px0 false x0, hdr px1 false x1, nlz x0 X0, nlz x1 X1] :=
  b2.pick 15 [6, 0, 1, 2, 3, 4, 5, 7, 8, 9, 10, 11, 12, 13, 14] rfl
 have ne0 : px0 ≠ py0 := HdrAt.ne (ng := false) (s := x0) (nq := false) (t := y0) (L := [hdr py0 false y0]) (b3.pick 15 [11, 7] rfl).left (by simp)
 have ne1 : px1 ≠ py1 := HdrAt.ne (ng := false) (s := x1) (nq := false) (t := y1) (L := [hdr py1 false y1]) (b3.pick 15 [12, 8] rfl).left (by simp)
 have so : ∀ {s : Sl} (i h : Nat), SpC z s → i ≤ z.c → SpC (z.sub i h) s := fun {s} i h hs hi => by
  unfold SpC Sp at *
  show z.c - i = 0 ∨ s.c = 0 ∨ z.b ≠ s.b ∨ z.o + i + (z.c - i) ≤ s.o ∨ s.o + s.c ≤ z.o + i
  omega
 refine ⟨w1, r1, (c149i b3 (px := px0) (py := py0) (sx := x0) (sy := y0) (X := X0) (Y := Y0) (by simp) (by simp) (by simp) (by simp) ne0 (by omega) (by show x0.l + y0.l ≤ 2 * m; omega) (so 0 _ spx0 (by omega)) (so 0 _ spy0 (by omega)) (ch1.glb hg) K.a).mono ?_⟩
 rintro e' w2 ⟨rfl, k0, hk0, b4, c4⟩
 have hk0 : k0 ≤ 2 * m := hk0
 have ch2 := ch1.via c4 fun b i hb hm => hm.elim (fun hm => by have : b = pz0 := hm; omega) fun hm => .inl ⟨hm.1, hm.2.1, by have : i < z.o + 0 + (2 * m - 0) := hm.2.2; omega⟩
 have b5 : Bank w2 [hdr pz2 false (z.sub (2 * m) z.l), nl (z.sub (2 * m) z.l) 0, nlz ((z.sub 0 (2 * m)).to k0) (X0 * Y0), nl ((z.sub 0 (2 * m)).sub k0 (2 * m)) 0, hdr pz0 false ((z.sub 0 (2 * m)).to k0), hdr pz1 ng r, nmz r V, stk K1, hdr py0 false y0, hdr py1 false y1, nlz y0 Y0, nlz y1 Y1, hdr px0 false x0, hdr px1 false x1, nlz x0 X0, nlz x1 X1] :=
  b4.pick 16 [7, 3, 0, 1, 2, 4, 5, 6, 8, 9, 10, 11, 12, 13, 14, 15] rfl
 refine ⟨rfl, (c149i b5 (px := px1) (py := py1) (sx := x1) (sy := y1) (X := X1) (Y := Y1) (by simp) (by simp) (by simp) (by simp) ne1 (by omega) (by show x1.l + y1.l ≤ z.l - 2 * m; omega) (so _ _ spx1 (by omega)) (so _ _ spy1 (by omega)) (ch2.glb hg) K.a).mono ?_⟩
 rintro e' w3 ⟨rfl, k2, hk2, b6, c6⟩
 have hk2 : k2 ≤ z.l - 2 * m := hk2
 have ch3 := ch2.via c6 fun b i hb hm => hm.elim (fun hm => by have : b = pz2 := hm; omega) fun hm => .inl ⟨hm.1, by have : z.o + 2 * m ≤ i := hm.2.1; omega, by have : i < z.o + 2 * m + (z.l - 2 * m) := hm.2.2; omega⟩
 have b7 : Bank w3 [hdr pz1 ng r, nmz r V, nlz ((z.sub (2 * m) z.l).to k2) (X1 * Y1), nl ((z.sub (2 * m) z.l).sub k2 (z.l - 2 * m)) 0, nlz ((z.sub 0 (2 * m)).to k0) (X0 * Y0), nl ((z.sub 0 (2 * m)).sub k0 (2 * m)) 0, stk K1, hdr pz0 false ((z.sub 0 (2 * m)).to k0), hdr pz2 false ((z.sub (2 * m) z.l).to k2)] :=
  (b6.pick 17 [6, 7, 0, 1, 3, 4, 8, 5, 2] rfl).left (A := [_, _, _, _, _, _, _, _, _])
 have rz : Nz w3 r V := b7.tail.head
 have lr : r.l ≤ m + m := rz.nm _ hVb
 refine ⟨rfl, (c70x b7 (Tg.nmz r V) (px := pz1) (py := pz0) (nx := ng) (ny := false) (sx := r) (sy := (z.sub 0 (2 * m)).to k0) (X := V) (Y := X0 * Y0) Opx.self (.inr ⟨by simp, .inr (by simp)⟩) (by unfold Len; omega) (by unfold Len; show k0 ≤ _; omega)).mono ?_⟩
 rintro e' w4 ⟨rfl, ng4, r4, V4, b8, hv4, -, f4, c8⟩
 have ch4 := ch3.via c8 fun b i hb hm => hm.elim (fun hm => by have : b = pz1 := hm; omega) fun hm => .inr (hr b i hb hm)
 have hv4' : iv ng4 V4 = iv ng V + ((X0 * Y0 : Nat) : Int) := hv4
 have P0b : X0 * Y0 < BB ^ (m + m) := prod_lt x0b y0b
 have V4b : V4 < BB ^ (m + m + 1) := by
  have := iv_add hv4'
  rw [BBpow_succ]
  have : BB ^ (m + m) * 2 ≤ BB ^ (m + m) * BB := Nat.mul_le_mul_left _ (by rw [BB_eq]; omega)
  omega
 have r4z : Nz w4 r4 V4 := b8.tail.head
 have lr4 : r4.l ≤ m + m + 1 := r4z.nm _ V4b
 refine ⟨_, rfl, (c70x b8 (Tg.nmz r4 V4) (px := pz1) (py := pz2) (nx := ng4) (ny := false) (sx := r4) (sy := (z.sub (2 * m) z.l).to k2) (X := V4) (Y := X1 * Y1) Opx.self (.inr ⟨by simp, .inr (by simp)⟩) (by unfold Len; omega) (by unfold Len; show k2 ≤ _; omega)).mono ?_⟩
 rintro e' w5 ⟨rfl, ng5, r5, V5, b9, hv5, hz5, f5, c9⟩
 have ch5 := ch4.via c9 fun b i hb hm => hm.elim (fun hm => by have : b = pz1 := hm; omega) fun hm => .inr (hr b i hb (from_old (f4.later (w := w) ch3) (S := fp r) (fun _ _ _ h => h) b i hb hm))
 have hmid : V5 = X0 * Y1 + X1 * Y0 := kar_mid hd he (by rw [hv5, hv4', hiv]; rfl) hz5
 have hval := kar_val X0 X1 Y0 Y1 (BB ^ m)
 rw [← hmid, ← Nat.pow_add, ← Nat.two_mul] at hval
 refine ⟨_, rfl, karEnd (L := [hdr pz0 false ((z.sub 0 (2 * m)).to k0), hdr pz2 false ((z.sub (2 * m) z.l).to k2)]) hz (by omega) hk0 hk2 b9 ch5 hKa hnx ?_ R ?_⟩
 ·rw [hval]
  have e1 : X0 + BB ^ m * X1 < BB ^ n := by
   have := Nat.mul_le_mul_left (BB ^ m) x1b
   rw [← Nat.pow_add, show m + (n - m) = n by omega, Nat.mul_succ] at this
   omega
  have e2 : Y0 + BB ^ m * Y1 < BB ^ n := by
   have := Nat.mul_le_mul_left (BB ^ m) y1b
   rw [← Nat.pow_add, show m + (n - m) = n by omega, Nat.mul_succ] at this
   omega
  have := prod_lt e1 e2
  rw [hzl, Nat.two_mul]; exact this
 ·rw [hval]; exact hR
end
end Go.Proofs.YtlkjiiibmfpbcaaGreatDoor
namespace Go.Proofs.YtlkjiiibmfpbcaaGreatDoor
open Go
theorem iQuoI (a b : Nat) (ha : a ≤ 9223372036854775807) : iQuo .i64 (a : Int) (b : Int) = ((a / b : Nat) : Int) := by
 unfold iQuo
 have h : (a : Int).tdiv b = ((a / b : Nat) : Int) := by rw [Int.tdiv_eq_ediv_of_nonneg (by omega), Int.natCast_ediv]
 rw [h, wrapIN _ (Nat.le_trans (Nat.div_le_self _ _) ha)]
theorem iShlI (a k : Nat) (hk : k ≤ 64) (h : a * 2 ^ k ≤ 9223372036854775807) : iShl .i64 (a : Int) (k : Int) = ((a * 2 ^ k : Nat) : Int) := by
 unfold iShl
 have e : ((a : Int) * 2 ^ (min (k : Int).toNat IntKind.i64.bits)) = ((a * 2 ^ k : Nat) : Int) := by
  rw [show min (k : Int).toNat IntKind.i64.bits = k by show min (k : Int).toNat 64 = k; omega]
  simp
 rw [e, wrapIN _ h]
theorem iShrI (a k : Nat) (hk : k ≤ 64) : iShr .i64 (a : Int) (k : Int) = ((a / 2 ^ k : Nat) : Int) := by
 unfold iShr
 rw [show min (k : Int).toNat IntKind.i64.bits = k by show min (k : Int).toNat 64 = k; omega]
 rw [Int.fdiv_eq_ediv_of_nonneg _ (Int.pow_nonneg (by omega)), Int.natCast_ediv, Int.natCast_pow]
 rfl
theorem rem16 (a : Nat) : iRem (a : Int) 65536 = ((a % 65536 : Nat) : Int) := iRemN a 65536
theorem quo16 (a : Nat) (ha : a ≤ 9223372036854775807) : iQuo .i64 (a : Int) 65536 = ((a / 65536 : Nat) : Int) := iQuoI a 65536 ha
end Go.Proofs.YtlkjiiibmfpbcaaGreatDoor
namespace Go.Proofs.YtlkjiiibmfpbcaaGreatDoor
open Go
theorem SpC.subR {z s : Sl} {i h : Nat} (hs : SpC z s) (hi : i ≤ s.c) : SpC z (s.sub i h) := by
 unfold SpC Sp at *
 show z.c = 0 ∨ s.c - i = 0 ∨ z.b ≠ s.b ∨ z.o + z.c ≤ s.o + i ∨ s.o + i + (s.c - i) ≤ z.o
 omega
theorem Back.from_ {w w1 w' : World} {K : SK} (h : Back w1 w' K) (hs : w.heap.size ≤ w1.heap.size) : Back w w' K := by
 obtain ⟨K', h1, h2, h3⟩ := h
 exact ⟨K', h1, h2.mono hs, h3⟩
theorem c118 {w : World} {K : SK} {z x y : Sl} {X Y n : Nat} (hb : Bank w [stk K, sto z, nl x X, nl y Y]) (spx : SpC z x) (spy : SpC z y) (lz : z.l = 2 * n) (lx : x.l = n) (ly : y.l = n) (hn : 40 ≤ n) (hn2 : n ≤ 78) (hL : K.s.l ≤ 2199023255552) (hg : Glb w) :
  Calls Tryz.prog 118 #[.pointer K.a, z.v, x.v, y.v] w fun e w' => e = .returned undef ∧ Back w w' K ∧ Sg w' z.b z.o z.l (X * Y) ∧ Chg w w' (un (fp z) K.free) := by
 refine (F118.call K.a z.a z.l z.c x.a x.l x.c y.a y.l y.c w (fun v w' => v = undef ∧ Back w w' K ∧ Sg w' z.b z.o z.l (X * Y) ∧ Chg w w' (un (fp z) K.free)) fun B => bc_false (neF (by omega)) ⟨by unfold inI64; omega, bc_false (neF (by omega)) fun B1 => ?_⟩).mono fun e w' ⟨v, h1, h2, h3⟩ => ⟨by rw [h1, h2], h3⟩
 have hx0 : Nt w x X := (hb.pick 4 [2] rfl : Bank w [nl x X]).head
 have hy0 : Nt w y Y := (hb.pick 4 [3] rfl : Bank w [nl y Y]).head
 have hz0 : St w z := (hb.pick 4 [1] rfl : Bank w [sto z]).head
 have hxc := hx0.lc
 have hyc := hy0.lc
 have hgb := hz0.gb
 obtain ⟨m, hm⟩ : ∃ m, m = (n + 1) / 2 := ⟨_, rfl⟩
 have hq : iQuo .i64 ((y.l : Int) + 1) 2 = (m : Int) := by rw [hm, ly]; exact iQuoI (n + 1) 2 (by omega)
 have b0 : Bank w [nl x X, nl y Y, stk K, sto z] := hb.pick 4 [2, 3, 0, 1] rfl
 obtain ⟨k0, k1, C1, C2, C3, H1, H2⟩ := halvesC b0 (show m ≤ x.l by omega) hgb
 have fin : ∀ (e : Env) (p0 p1 : Option Addr) (w1 : World), agree e (F118.l2 K.a z.a z.l z.c y.a y.l y.c m p0 p1) → e.defers = [] → Halves w x X m [nl y Y, stk K, sto z] p0 p1 w1 → W Tryz.prog 145 F118.p2 e w1 (retK Tryz.prog [] fun v w' => v = undef ∧ Back w w' K ∧ Sg w' z.b z.o z.l (X * Y) ∧ Chg w w' (un (fp z) K.free)) := by
  rintro e p0 p1 w1 ha hd ⟨px0, px1, kx0, kx1, rfl, rfl, hkx0, hkx1, sx0, sx1, cx, bx⟩
  have bx' : Bank w1 [nl y Y, hdr px0 false (x.to kx0), hdr px1 false ((x.sub m x.l).to kx1), nlz (x.to kx0) (X % BB ^ m), nlz ((x.sub m x.l).to kx1) (X / BB ^ m), stk K, sto z] := bx.pick 7 [4, 0, 1, 2, 3, 5, 6] rfl
  obtain ⟨j0, j1, D1, D2, D3, G1, G2⟩ := halvesC bx' (show m ≤ y.l by omega) (Nat.le_trans hgb cx.size)
  have fin2 : ∀ (e : Env) (p0 p1 : Option Addr) (w2 : World), agree e (F118.l4 K.a z.a z.l z.c m (ptr px0) (ptr px1) p0 p1) → e.defers = [] → Halves w1 y Y m [hdr px0 false (x.to kx0), hdr px1 false ((x.sub m x.l).to kx1), nlz (x.to kx0) (X % BB ^ m), nlz ((x.sub m x.l).to kx1) (X / BB ^ m), stk K, sto z] p0 p1 w2 → W Tryz.prog 145 F118.p4 e w2 (retK Tryz.prog [] fun v w' => v = undef ∧ Back w w' K ∧ Sg w' z.b z.o z.l (X * Y) ∧ Chg w w' (un (fp z) K.free)) := by
   rintro e p0 p1 w2 ha hd ⟨py0, py1, ky0, ky1, rfl, rfl, hky0, hky1, sy0, sy1, cy, bY⟩
   have c02 := cx.trans' cy
   have X1b : X / BB ^ m < BB ^ (n - m) := by rw [Nat.div_lt_iff_lt_mul (BBpow_pos m), ← Nat.pow_add, show n - m + m = x.l by omega]; exact hx0.lt
   have Y1b : Y / BB ^ m < BB ^ (n - m) := by rw [Nat.div_lt_iff_lt_mul (BBpow_pos m), ← Nat.pow_add, show n - m + m = y.l by omega]; exact hy0.lt
   refine karA bY lz (by omega) (by omega) (by omega) (Nat.mod_lt _ (BBpow_pos m)) (lt_pow_of_le X1b (by omega)) (Nat.mod_lt _ (BBpow_pos m)) (lt_pow_of_le Y1b (by omega)) hL (c02.glb hg) e hd _ (fun w' pz0 pz2 pz1 hk => ?_) ha
   refine karC (c02.st hz0) lz (by omega) (by omega) (by omega) hk (Nat.mod_lt _ (BBpow_pos m)) X1b (Nat.mod_lt _ (BBpow_pos m)) Y1b spx (spx.subR (h := x.l) (by omega)) spy (spy.subR (h := y.l) (by omega)) (c02.glb hg) _ fun w3 h1 h2 h3 => ⟨rfl, h1.from_ c02.size, ?_, (c02.none _).trans' h3⟩
   rwa [Nat.mod_add_div, Nat.mod_add_div] at h2
  refine F118.t2 K.a z.a z.l z.c y.a y.l y.c m (ptr px0) (ptr px1) ha fun B2 B3 => F118.t5 K.a z.a z.l z.c y.a y.l y.c m (ptr px0) (ptr px1) ⟨rfl, rfl, rfl, rfl, rfl, rfl, trivial⟩ fun B4 => ⟨m, rfl, by omega, D1 _ ⟨_, _, _, rfl, m, rfl, by omega, D3 _ ⟨_, _, _, rfl, ?_⟩, D2 _ ⟨_, _, _, rfl, ?_, ?_⟩⟩⟩
  ·exact fin2 _ _ _ _ ⟨rfl, rfl, rfl, rfl, rfl, rfl, rfl, trivial⟩ hd G1
  ·exact fin2 _ _ _ _ ⟨rfl, rfl, rfl, rfl, rfl, rfl, rfl, trivial⟩ hd G1
  ·exact fin2 _ _ _ _ ⟨rfl, rfl, rfl, rfl, rfl, rfl, rfl, trivial⟩ hd G2
 refine F118.t1 K.a z.a z.l z.c x.a x.l x.c y.a y.l y.c y.l ⟨rfl, rfl, rfl, rfl, rfl, trivial⟩ fun B2 => ⟨_, hg.t5, bc_false (decF (by omega)) (bc_false (decF (by omega)) ⟨by unfold inI64; omega, by omega, fun B3 => ?_⟩)⟩
 refine F118.t3 K.a z.a z.l z.c x.a x.l x.c y.a y.l y.c m ⟨rfl, rfl, rfl, rfl, intv hq, trivial⟩ fun B4 => ⟨m, rfl, by omega, C1 _ ⟨_, _, _, rfl, m, rfl, by omega, C3 _ ⟨_, _, _, rfl, ?_⟩, C2 _ ⟨_, _, _, rfl, ?_, ?_⟩⟩⟩
 ·exact fin _ _ _ _ ⟨rfl, rfl, rfl, rfl, rfl, rfl, trivial⟩ rfl H1
 ·exact fin _ _ _ _ ⟨rfl, rfl, rfl, rfl, rfl, rfl, trivial⟩ rfl H1
 ·exact fin _ _ _ _ ⟨rfl, rfl, rfl, rfl, rfl, rfl, trivial⟩ rfl H2
end Go.Proofs.YtlkjiiibmfpbcaaGreatDoor
