/- Contracts: quotient and remainder with a stack of its own; the method of whole numbers. Conditions: divisors below 40 words. -/
import Derived.Test.YtlkjiiibmfpbcaaGreatDoorP36
namespace Go.Proofs.YtlkjiiibmfpbcaaGreatDoor
open Go
def DivN (w : World) (z u : Sl) (U V : Nat) (v : Value) (w' : World) : Prop :=
 ∃ q r : Sl, v = .tuple #[q.v, r.v] ∧ Nz w' q (U / V) ∧ Nz w' r (U % V) ∧ From w z q ∧ From w u r ∧ SpC q r ∧ Chg w w' (un (fp z) (fp u))
theorem DivR.n {w : World} {K : SK} {z u : Sl} {U V : Nat} {v : Value} {w' : World} (h : DivR w K z u U V v w') (hf : ∀ b i, b < w.heap.size → ¬ K.free b i) : DivN w z u U V v w' := by
 obtain ⟨q, r, K', h1, h2, h3, h4, h5, h6, _, _, _, _, _, _, _, h7⟩ := h
 exact ⟨q, r, h1, h2, h3, h4, h5, h6, h7.mono fun b i hb hm => hm.elim id fun hm => (hf b i hb hm).elim⟩
theorem c81n (z u a b : Sl) (U V : Nat) (w : World) (hz : St w z) (hu : St w u) (hx : Nz w a U) (hy : Nz w b V) (hV : V ≠ 0) (hb40 : b.l < 40) (hal : a.l ≤ 1000000000) (szu : SpC z u) (sza : Sep z a) (sua : Sep u a) (hg : Glb w) :
  Calls Tryz.prog 81 #[z.v, .pointer none, u.v, a.v, b.v] w fun e w' => ∃ v, e = .returned v ∧ DivN w z u U V v w' := by
 have hb0 : b.l ≠ 0 := fun h => hV (Nz.zero hy.toNt h)
 have hLa : Len a := by unfold Len; omega
 refine F81.call z.a z.l z.c none u.a u.l u.c a.a a.l a.c b.a b.l b.c w _ fun B => bc_false (eqF (by omega)) fun B1 => F81.t1 z.a z.l z.c none u.a u.l u.c a.a a.l a.c b.a b.l b.c ⟨rfl, rfl, rfl, rfl, rfl, trivial⟩ fun B2 => bc_intro (fun hb => ?_) (fun hb => ?_)
 ·have hb1 : b.l = 1 := by have := eqE hb; omega
  have d0 := dg_lt' V 0
  have hVd : V = dg V 0 := (dg_self V (by have := hy.lt; rw [hb1] at this; simpa using this)).symm
  refine rdC (k := 0) (hy.at_ (by have := hy.lc; omega)) rfl (by omega) (hy.sg 0 (by omega)) ?_
  rw [← hVd] at d0 ⊢
  refine (c93 z a U V w hz hx sza hLa hV d0).mono ?_
  rintro e w1 ⟨_, rfl, q, rfl, hq, fq, c1⟩
  refine ⟨_, _, _, trivial, _, trivial, rfl, ?_⟩
  have sqz : SpC u q := SpC.symm (from_spc fq szu (fun h => hu.blk h))
  refine ResE.pass (c71 u (U % V) w1 (c1.st hu) (Nat.lt_trans (Nat.mod_lt _ (by omega)) d0)) fun r w2 hr fr c2 => ⟨_, _, _, rfl, fun B3 => ret2 rfl rfl rfl ⟨q, r, rfl, c2.nz_fp hq (sqz.apart hq.lc), hr, fq, fr.later c1, SpC.symm (from_spc fr sqz (fun h => hq.toNt.toSt.blk h)), (c1.l (fp u)).trans' (c2.r (fp z))⟩⟩
 ·have hb2 : 2 ≤ b.l := by have := eqN hb; omega
  refine (c92 a b U V w hx hy).mono ?_
  rintro e w1 ⟨_, rfl, rfl, hc⟩
  refine ⟨_, rfl, bc_intro (fun hb => ?_) (fun hb => ⟨true, rfl, bc_true rfl ?_⟩)⟩
  ·have hlt : U < V := by
    have := dT hb
    unfold sgn at this
    split at this
    ·assumption
    ·split at this <;> omega
   have hz1 := hc.st hz
   refine ⟨0, rfl, Nat.zero_le _, ?_⟩
   refine ResE.pass (c60 u a U w1 (hc.st hu) (hc.nz_none hx) hLa) fun r w2 hr fr c2 => ⟨_, _, _, rfl, fun B3 => ret2 rfl rfl rfl ⟨z.to 0, r, rfl, ?_, ?_, From.self w z 0, fr.later hc, ?_, ((hc.none _).trans' (c2.r _))⟩⟩
   ·rw [Nat.div_eq_of_lt hlt]; exact nz_zero (c2.st hz1)
   ·rw [Nat.mod_eq_of_lt hlt]; exact hr
   ·exact SpC.symm (from_spc fr (SpC.symm szu) (fun h => hz1.blk h))
  ·have hge : V ≤ U := by
    have := dF hb
    unfold sgn at this
    split at this
    ·omega
    ·split at this <;> omega
   have hba : b.l ≤ a.l := hy.nm _ (Nat.lt_of_le_of_lt hge hx.lt)
   refine (c56 w1 (hc.glb hg).gb).mono ?_
   rintro e w2 ⟨_, rfl, K, rfl, hk, hl0, hq0, hnew, c2⟩
   have hsc : K.s.c = 0 := (hk.nil hq0).2
   have hfree : ∀ b i, b < w1.heap.size → ¬ K.free b i := by
    intro b i hb hf
    rcases hf with e | e | ⟨e, h1, h2⟩
    ·omega
    ·rw [hq0] at e; cases e
    ·omega
   have c12 := hc.trans' c2
   have off : ∀ {s : Sl}, St w1 s → Off K s := fun {s} hs i h1 h2 hf => hfree _ _ (hs.blk (by omega)) hf
   refine ⟨_, rfl, fun B3 => F81.t2 z.a z.l z.c K.a u.a u.l u.c a.a a.l a.c b.a b.l b.c ⟨rfl, rfl, rfl, rfl, rfl, trivial⟩ fun B4 => (c120 K z u a b U V w2 hk (c12.st hz) (c12.st hu) (c12.nz_none hx) (c12.nz_none hy) hb2 hb40 hba hal szu sua (off (hc.st hz)) (off (hc.st hu)) ((off (hc.st hx.toSt)).l (hc.st hx.toSt)) ((off (hc.st hy.toSt)).l (hc.st hy.toSt)) (by omega) (c12.glb hg)).mono ?_⟩
   rintro e w3 ⟨_, rfl, q, r, K', rfl, p1, p2, p3, p4, p5, p6, p7, p8, p9, p10, p11, p12, p13⟩
   refine ⟨_, _, _, trivial, _, _, _, trivial, rfl, fun B5 => ?_⟩
   have hka : K'.a = K.a := by unfold SK.a; rw [p7.p]
   show runD Tryz.prog [⟨.fn (.func 57) #[], #[.pointer K.a]⟩] w3 _
   refine ⟨rfl, Tryz.call57, ?_⟩
   rw [← hka]
   refine d57 w3 K' p6 _ fun w4 c4 => ?_
   show DivN w z u U V _ w4
   refine ⟨q, r, rfl, c4.nz_off p1 (p9.l p1.toSt), c4.nz_off p2 (p10.l p2.toSt), p3.later c12, p4.later c12, p5, ?_⟩
   have c13 : Chg w w3 (un (fp z) (fp u)) := (c12.none (un (fp z) (fp u))).trans p13 (fun _ _ _ h => h) fun b i hb hm => hm.elim id fun hm => (hfree b i (Nat.lt_of_lt_of_le hb hc.size) hm).elim
   exact c13.trans c4 (fun _ _ _ h => h) fun b i hb hm => (hfree b i (Nat.lt_of_lt_of_le hb hc.size) (p7.free (Nat.lt_of_lt_of_le hb c12.size) hm)).elim
section
variable {w : World} {p p2 px py : Nat} {ng n2 : Bool} {s s2 sx sy : Sl} {V V2 X Y : Nat} {L : List Item}
theorem c96 (h : Bank w (hdr p ng s :: nmz s V :: hdr p2 n2 s2 :: nmz s2 V2 :: L)) (hx1 : hdr px false sx ∈ L) (hx2 : nmz sx X ∈ L) (hy1 : hdr py false sy ∈ L) (hy2 : nmz sy Y ∈ L) (hY : Y ≠ 0) (lx : sx.l ≤ 1000000) (ly : sy.l < 40) (hg : Glb w) :
  Calls Tryz.prog 96 #[.pointer (ptr p), .pointer (ptr px), .pointer (ptr py), .pointer (ptr p2)] w fun e w' => e = .returned (.tuple #[.pointer (ptr p), .pointer (ptr p2)]) ∧
   ∃ q r, Bank w' (hdr p false q :: nmz q (X / Y) :: hdr p2 false r :: nmz r (X % Y) :: L) ∧ From w s q ∧ From w s2 r ∧ Chg w w' (un (un (blk p) (fp s)) (un (blk p2) (fp s2))) := by
 refine (F96.call (ptr p) (ptr px) (ptr py) (ptr p2) w (fun v w' => v = .tuple #[.pointer (ptr p), .pointer (ptr p2)] ∧ ∃ q r, Bank w' (hdr p false q :: nmz q (X / Y) :: hdr p2 false r :: nmz r (X % Y) :: L) ∧ From w s q ∧ From w s2 r ∧ Chg w w' (un (un (blk p) (fp s)) (un (blk p2) (fp s2)))) fun B => ?_).mono fun e w' ⟨v, h1, h2, h3⟩ => ⟨by rw [h1, h2], h3⟩
 have c1 : Chg w w.drew none2 := Chg.drew0 w _
 have b1 := h.none c1
 have Z1 : HdrAt w.drew p ng s := b1.head
 have R1 : HdrAt w.drew p2 n2 s2 := b1.all (hdr p2 n2 s2) (by simp)
 have X1 : HdrAt w.drew px false sx := b1.all (hdr px false sx) (by simp [hx1])
 have Y1 : HdrAt w.drew py false sy := b1.all (hdr py false sy) (by simp [hy1])
 have xz : Nz w.drew sx X := b1.all (nmz sx X) (by simp [hx2])
 have yz : Nz w.drew sy Y := b1.all (nmz sy Y) (by simp [hy2])
 have sz : Nz w.drew s V := b1.tail.head
 have rz : Nz w.drew s2 V2 := b1.tail.tail.tail.head
 have dsr : Dj (fp s) (fp s2) := b1.tail.hdj (b := nmz s2 V2) (by simp)
 have dsx : Dj (fp s) (fp sx) := b1.tail.hdj (b := nmz sx X) (by simp [hx2])
 have drx : Dj (fp s2) (fp sx) := b1.tail.tail.tail.hdj (b := nmz sx X) (by simp [hx2])
 refine ⟨p, 0, rfl, s.a, s.l, s.c, Z1.c1, p2, 0, rfl, s2.a, s2.l, s2.c, R1.c1, px, 0, rfl, sx.a, sx.l, sx.c, X1.c1, py, 0, rfl, sy.a, sy.l, sy.c, Y1.c1, (c81n s s2 sx sy X Y w.drew sz.toSt rz.toSt xz yz hY ly (by omega) dsr.spc (dsx.al xz.toSt).sep (drx.al xz.toSt).sep (c1.glb hg)).mono ?_⟩
 rintro e w2 ⟨_, rfl, q, r, rfl, hq, hr, fq, fr, sqr, hc⟩
 have b2 : Bank w.drew (nmz s V :: nmz s2 V2 :: hdr p ng s :: hdr p2 n2 s2 :: L) := b1.pick 4 [1, 3, 0, 2] rfl
 have b3 : Bank w2 (nmz q (X / Y) :: nmz r (X % Y) :: hdr p ng s :: hdr p2 n2 s2 :: L) := b2.upd2 hc (fun _ _ _ hm => hm) hq hr (fun b i hb hm => .inl (from_sub fq b i hb hm)) (fun b i hb hm => .inr (from_sub fr b i hb hm)) sqr.dj
 have b4 : Bank w2 (hdr p ng s :: hdr p2 n2 s2 :: nmz q (X / Y) :: nmz r (X % Y) :: L) := b3.pick 4 [2, 3, 0, 1] rfl
 have Z4 : HdrAt w2 p ng s := b4.head
 obtain ⟨b5, c5⟩ := hset1 b4 q
 have b6 := b5.perm (List.Perm.swap _ _ _)
 have R6 : HdrAt (w2.setCell ⟨p, 1, none⟩ q.v) p2 n2 s2 := b6.head
 obtain ⟨b7, c7⟩ := hset1 b6 r
 have c8 : Chg ((w2.setCell ⟨p, 1, none⟩ q.v).setCell ⟨p2, 1, none⟩ r.v) ((w2.setCell ⟨p, 1, none⟩ q.v).setCell ⟨p2, 1, none⟩ r.v).drew none2 := Chg.drew0 _ _
 have b8 := b7.none c8
 obtain ⟨w8, hw8⟩ : ∃ w8, w8 = ((w2.setCell ⟨p, 1, none⟩ q.v).setCell ⟨p2, 1, none⟩ r.v).drew := ⟨_, rfl⟩
 rw [← hw8] at b8 c8
 have Z8 : HdrAt w8 p ng q := b8.tail.head
 have R8 : HdrAt w8 p2 n2 r := b8.head
 have X8 : HdrAt w8 px false sx := b8.all (hdr px false sx) (by simp [hx1])
 have Y8 : HdrAt w8 py false sy := b8.all (hdr py false sy) (by simp [hy1])
 obtain ⟨b9, c9⟩ := hset0 (b8.perm (List.Perm.swap _ _ _)) false
 have R9 : HdrAt (w8.setCell ⟨p, 0, none⟩ (.bool false)) p2 n2 r := b9.tail.head
 obtain ⟨b10, c10⟩ := hset0 (b9.perm (List.Perm.swap _ _ _)) false
 refine ⟨_, _, _, trivial, _, _, _, trivial, rfl, p, 0, rfl, ⟨_, Z4.c1⟩, Z4.f1, p2, 0, rfl, ⟨_, R6.c1⟩, R6.f1, ?_⟩
 show nc (ptr p) fun b_23 o_24 => ∃ x_25a, ∃ x_25l, ∃ x_25c, World.cell? ((w2.setCell ⟨p, 1, none⟩ q.v).setCell ⟨p2, 1, none⟩ r.v).drew ⟨b_23, (o_24 + 1), none⟩ = some (.slice x_25a x_25l x_25c) ∧ _
 rw [← hw8]
 have fin : ∀ B', retK Tryz.prog [.tmp 8, .tmp 9] (fun v w' => v = .tuple #[.pointer (ptr p), .pointer (ptr p2)] ∧ ∃ q r, Bank w' (hdr p false q :: nmz q (X / Y) :: hdr p2 false r :: nmz r (X % Y) :: L) ∧ From w s q ∧ From w s2 r ∧ Chg w w' (un (un (blk p) (fp s)) (un (blk p2) (fp s2)))) .ret
   (E [(8, .pointer (ptr p)), (9, .pointer (ptr p2))] B' []) ((w8.setCell ⟨p, 0, none⟩ (.bool false)).setCell ⟨p2, 0, none⟩ (.bool false)) := by
  intro B'
  refine ret2 rfl rfl rfl ⟨rfl, q, r, b10.pick 4 [1, 2, 0, 3] rfl, fq.later c1, fr.later c1, ?_⟩
  refine (((((c1.none _).trans' (hc.mono fun b i _ hm => ?_)).trans' (c5.mono fun b i _ hm => ?_)).trans' (c7.mono fun b i _ hm => ?_)).trans' (c8.none _)).trans' ((c9.mono fun b i _ hm => ?_).trans' (c10.mono fun b i _ hm => ?_))
  ·exact hm.elim (fun hm => .inl (.inr hm)) fun hm => .inr (.inr hm)
  ·exact .inl (.inl hm)
  ·exact .inr (.inl hm)
  ·exact .inl (.inl hm)
  ·exact .inr (.inl hm)
 refine ⟨p, 0, rfl, q.a, q.l, q.c, Z8.c1, bc_intro (fun hb => ?_) (fun hb => ?_)⟩
 ·refine ⟨px, 0, rfl, false, X8.c0, py, 0, rfl, false, Y8.c0, p2, 0, rfl, r.a, r.l, r.c, R8.c1, bc_intro (fun hb => ?_) (fun hb => ?_)⟩
  ·exact ⟨px, 0, rfl, false, X8.c0, p, 0, rfl, ⟨_, Z8.c0⟩, Z8.f0, p2, 0, rfl, ⟨_, R9.c0⟩, R9.f0, fin⟩
  ·exact ⟨p, 0, rfl, ⟨_, Z8.c0⟩, Z8.f0, p2, 0, rfl, ⟨_, R9.c0⟩, R9.f0, fin⟩
 ·refine ⟨p2, 0, rfl, r.a, r.l, r.c, R8.c1, bc_intro (fun hb => ?_) (fun hb => ?_)⟩
  ·exact ⟨px, 0, rfl, false, X8.c0, p, 0, rfl, ⟨_, Z8.c0⟩, Z8.f0, p2, 0, rfl, ⟨_, R9.c0⟩, R9.f0, fin⟩
  ·exact ⟨p, 0, rfl, ⟨_, Z8.c0⟩, Z8.f0, p2, 0, rfl, ⟨_, R9.c0⟩, R9.f0, fin⟩
end
end Go.Proofs.YtlkjiiibmfpbcaaGreatDoor
namespace Go.Proofs.YtlkjiiibmfpbcaaGreatDoor
open Go
structure SI (c d a1 a2 u1 u2 v1 v2 : Nat) (e : Bool) : Prop where
 f : e = false → a1 + v1 * d = u1 * c ∧ a2 + u2 * c = v2 * d ∧ u1 * v2 = u2 * v1 + 1
 t : e = true → a1 + u1 * c = v1 * d ∧ a2 + v2 * d = u2 * c ∧ u2 * v1 = u1 * v2 + 1
 s1 : a1 * v2 + a2 * v1 = c
 s2 : a1 * u2 + a2 * u1 = d
 l2 : u2 ≤ v2
 p2 : 1 ≤ v2
 l1 : v1 ≠ 0 → u1 ≤ v1
 q2 : v1 ≠ 0 → 1 ≤ u2
 z1 : v1 = 0 → u2 = 0
 mo : v1 ≠ 0 → u1 ≤ u2 ∧ v1 ≤ v2
 le : a2 ≤ a1
theorem SI.start {c d : Nat} (h : d ≤ c) : SI c d c d 1 0 0 1 false :=
 ⟨fun _ => ⟨by omega, by omega, by omega⟩, (fun h => by cases h), by omega, by omega, by omega, by omega, by omega, by omega, fun _ => rfl, fun hh => absurd rfl hh, h⟩
theorem SI.next {c d a1 a2 u1 u2 v1 v2 : Nat} {e : Bool} (h : SI c d a1 a2 u1 u2 v1 v2 e) (h0 : a2 ≠ 0) :
  SI c d a2 (a1 % a2) u2 (u1 + a1 / a2 * u2) v2 (v1 + a1 / a2 * v2) (!e) := by
 have hq : 1 ≤ a1 / a2 := (Nat.one_le_div_iff (by omega)).2 h.le
 have hm := Nat.div_add_mod a1 a2
 obtain ⟨q, hqe⟩ : ∃ q, q = a1 / a2 := ⟨_, rfl⟩
 obtain ⟨r, hre⟩ : ∃ r, r = a1 % a2 := ⟨_, rfl⟩
 rw [← hqe, ← hre] at hm
 rw [← hqe] at hq
 rw [← hqe, ← hre]
 have s1 := h.s1
 have s2 := h.s2
 refine ⟨fun he => ?_, fun he => ?_, by grind, by grind, ?_, ?_, fun _ => h.l2, fun _ => ?_, fun hh => absurd hh (by have := h.p2; omega), fun _ => ?_, ?_⟩
 ·have he : e = true := by cases e <;> simp_all
  obtain ⟨i1, i2, i3⟩ := h.t he
  exact ⟨by grind, by grind, by grind⟩
 ·have he : e = false := by cases e <;> simp_all
  obtain ⟨i1, i2, i3⟩ := h.f he
  exact ⟨by grind, by grind, by grind⟩
 ·have h1 : q * u2 ≤ q * v2 := Nat.mul_le_mul_left _ h.l2
  by_cases hv : v1 = 0
  ·subst hv
   have hu : u1 ≤ q * (v2 - u2) := by
    cases e with
    | false =>
     have := (h.f rfl).2.2
     rw [Nat.mul_zero] at this
     have hu1 : u1 = 1 := Nat.eq_one_of_mul_eq_one_right (by omega)
     have hv2 : v2 = 1 := by rw [hu1] at this; omega
     have hu2 : u2 = 0 := h.z1 rfl
     rw [hu1, hv2, hu2]; omega
    | true => have := (h.t rfl).2.2; omega
   rw [Nat.mul_sub] at hu
   omega
  ·have := h.l1 hv; omega
 ·have := h.p2
  have h1 : 1 * 1 ≤ q * v2 := Nat.mul_le_mul hq this
  omega
 ·by_cases hv : v1 = 0
  ·subst hv
   cases e with
   | false =>
    have := (h.f rfl).2.2
    rw [Nat.mul_zero] at this
    have hu1 : u1 = 1 := Nat.eq_one_of_mul_eq_one_right (by omega)
    omega
   | true => have := (h.t rfl).2.2; omega
  ·have h1 : 1 * 1 ≤ q * u2 := Nat.mul_le_mul hq (h.q2 hv)
   omega
 ·have h1 : 1 * u2 ≤ q * u2 := Nat.mul_le_mul_right _ hq
  have h2 : 1 * v2 ≤ q * v2 := Nat.mul_le_mul_right _ hq
  omega
 ·rw [hre]; exact Nat.le_of_lt (Nat.mod_lt _ (by omega))
def RP (c d u0 u1 v0 v1 : Nat) (e : Bool) : Prop := ∃ p1 p2, SI c d p1 p2 u0 u1 v0 v1 (!e) ∧ v1 ≤ p2 ∧ p2 + v0 + v1 ≤ p1
structure SimOK (A B u0 u1 v0 v1 : Nat) (e : Bool) (A' B' : Nat) : Prop where
 a : (A' : Int) = if e then (u0 : Int) * A - v0 * B else (v0 : Int) * B - u0 * A
 b : (B' : Int) = if e then (v1 : Int) * B - u1 * A else (u1 : Int) * A - v1 * B
 iA : v1 * A' + v0 * B' = A
 iB : u1 * A' + u0 * B' = B
 lt : B' < A'
 pos : 0 < B'
 dec : B' < B
 aB : A' ≤ B
theorem sim_ok {c d T lA lB u0 u1 v0 v1 : Nat} {e : Bool} (h : RP c d u0 u1 v0 v1 e) (hv : v0 ≠ 0) (hA : lA < T) (hB : lB < T) : ∃ A' B', SimOK (c * T + lA) (d * T + lB) u0 u1 v0 v1 e A' B' := by
 obtain ⟨p1, p2, hs, h1, h2⟩ := h
 have l2 := hs.l2
 have q2 := hs.q2 hv
 have l1 := hs.l1 hv
 have pv := hs.p2
 have m1 : u1 * lA ≤ v1 * lA := Nat.mul_le_mul_right _ l2
 have m2 : v1 * lA + v1 ≤ v1 * T := by rw [← Nat.mul_succ]; exact Nat.mul_le_mul_left _ hA
 have m3 : v0 * lB + v0 ≤ v0 * T := by rw [← Nat.mul_succ]; exact Nat.mul_le_mul_left _ hB
 have m4 : u0 * lA ≤ v0 * lA := Nat.mul_le_mul_right _ l1
 have m5 : v0 * lA + v0 ≤ v0 * T := by rw [← Nat.mul_succ]; exact Nat.mul_le_mul_left _ hA
 have m6 : v1 * lB + v1 ≤ v1 * T := by rw [← Nat.mul_succ]; exact Nat.mul_le_mul_left _ hB
 have m7 : v1 * T ≤ p2 * T := Nat.mul_le_mul_right _ h1
 have m8 : p2 * T + v0 * T + v1 * T ≤ p1 * T := by rw [← Nat.add_mul, ← Nat.add_mul]; exact Nat.mul_le_mul_right _ h2
 cases e with
 | true =>
  obtain ⟨i1, i2, i3⟩ := hs.f rfl
  have j1 : u0 * (c * T + lA) = p1 * T + v0 * (d * T) + u0 * lA := by grind
  have j2 : v1 * (d * T + lB) = p2 * T + u1 * (c * T) + v1 * lB := by grind
  have k1 : v0 * (d * T + lB) = v0 * (d * T) + v0 * lB := Nat.mul_add ..
  have k2 : u1 * (c * T + lA) = u1 * (c * T) + u1 * lA := Nat.mul_add ..
  have hA' : ∃ A', A' + v0 * lB = p1 * T + u0 * lA := ⟨p1 * T + u0 * lA - v0 * lB, by omega⟩
  have hB' : ∃ B', B' + u1 * lA = p2 * T + v1 * lB := ⟨p2 * T + v1 * lB - u1 * lA, by omega⟩
  obtain ⟨A', hA'⟩ := hA'
  obtain ⟨B', hB'⟩ := hB'
  have e1 : A' + v0 * (d * T + lB) = u0 * (c * T + lA) := by omega
  have e2 : B' + u1 * (c * T + lA) = v1 * (d * T + lB) := by omega
  obtain ⟨X, hX⟩ : ∃ X, X = c * T + lA := ⟨_, rfl⟩
  obtain ⟨Y, hY⟩ : ∃ Y, Y = d * T + lB := ⟨_, rfl⟩
  rw [← hX, ← hY] at e1 e2 ⊢
  have hlt : B' < A' := by omega
  have hpos : 0 < B' := by omega
  have z1 : v1 * A' + v0 * B' = X := by grind
  have z2 : u1 * A' + u0 * B' = Y := by grind
  refine ⟨A', B', ⟨?_, ?_, z1, z2, hlt, hpos, ?_, ?_⟩⟩
  ·simp only [if_true]; rw [← Int.natCast_mul, ← Int.natCast_mul]; omega
  ·simp only [if_true]; rw [← Int.natCast_mul, ← Int.natCast_mul]; omega
  ·have : 1 * A' ≤ u1 * A' := Nat.mul_le_mul_right _ q2
   omega
  ·have : 1 * A' ≤ u1 * A' := Nat.mul_le_mul_right _ q2
   omega
 | false =>
  obtain ⟨i1, i2, i3⟩ := hs.t rfl
  have j1 : v0 * (d * T + lB) = p1 * T + u0 * (c * T) + v0 * lB := by grind
  have j2 : u1 * (c * T + lA) = p2 * T + v1 * (d * T) + u1 * lA := by grind
  have k1 : u0 * (c * T + lA) = u0 * (c * T) + u0 * lA := Nat.mul_add ..
  have k2 : v1 * (d * T + lB) = v1 * (d * T) + v1 * lB := Nat.mul_add ..
  have hA' : ∃ A', A' + u0 * lA = p1 * T + v0 * lB := ⟨p1 * T + v0 * lB - u0 * lA, by omega⟩
  have hB' : ∃ B', B' + v1 * lB = p2 * T + u1 * lA := ⟨p2 * T + u1 * lA - v1 * lB, by omega⟩
  obtain ⟨A', hA'⟩ := hA'
  obtain ⟨B', hB'⟩ := hB'
  have e1 : A' + u0 * (c * T + lA) = v0 * (d * T + lB) := by omega
  have e2 : B' + v1 * (d * T + lB) = u1 * (c * T + lA) := by omega
  obtain ⟨X, hX⟩ : ∃ X, X = c * T + lA := ⟨_, rfl⟩
  obtain ⟨Y, hY⟩ : ∃ Y, Y = d * T + lB := ⟨_, rfl⟩
  rw [← hX, ← hY] at e1 e2 ⊢
  have hlt : B' < A' := by omega
  have hpos : 0 < B' := by omega
  have z1 : v1 * A' + v0 * B' = X := by grind
  have z2 : u1 * A' + u0 * B' = Y := by grind
  refine ⟨A', B', ⟨?_, ?_, z1, z2, hlt, hpos, ?_, ?_⟩⟩
  ·simp only [Bool.false_eq_true, if_false]; rw [← Int.natCast_mul, ← Int.natCast_mul]; omega
  ·simp only [Bool.false_eq_true, if_false]; rw [← Int.natCast_mul, ← Int.natCast_mul]; omega
  ·have : 1 * A' ≤ u1 * A' := Nat.mul_le_mul_right _ q2
   omega
  ·have : 1 * A' ≤ u1 * A' := Nat.mul_le_mul_right _ q2
   omega
structure LInv (a b A B : Nat) (U W : Int) : Prop where
 le : B ≤ A
 pos : 0 < A
 g : Nat.gcd A B = Nat.gcd a b
 cA : (b : Int) ∣ U * a - A
 cB : (b : Int) ∣ W * a - B
 co : ∃ (σ : Int) (x y : Nat), (σ = 1 ∨ σ = -1) ∧ U = σ * x ∧ W = -σ * y ∧ x * B + y * A = b ∧ x ≤ b ∧ y ≤ b
theorem gcd_of {A B A' B' : Nat} (h1 : Nat.gcd A B ∣ A') (h2 : Nat.gcd A B ∣ B') (h3 : Nat.gcd A' B' ∣ A) (h4 : Nat.gcd A' B' ∣ B) : Nat.gcd A' B' = Nat.gcd A B :=
 Nat.dvd_antisymm (Nat.dvd_gcd h3 h4) (Nat.dvd_gcd h1 h2)
theorem LInv.sim {a b A B A' B' u0 u1 v0 v1 : Nat} {U W : Int} {e : Bool} (h : LInv a b A B U W) (s : SimOK A B u0 u1 v0 v1 e A' B') :
  LInv a b A' B' (if e then (u0 : Int) * U - v0 * W else (v0 : Int) * W - u0 * U) (if e then (v1 : Int) * W - u1 * U else (u1 : Int) * U - v1 * W) := by
 obtain ⟨σ, x, y, hσ, hU, hW, hb, hx, hy⟩ := h.co
 obtain ⟨ca, hca⟩ := h.cA
 obtain ⟨cb, hcb⟩ := h.cB
 have hpos : 0 < A' := by have := s.lt; omega
 have hd : ∀ X : Nat, Nat.gcd A B ∣ X ↔ (Nat.gcd A B : Int) ∣ (X : Int) := fun X => Int.natCast_dvd_natCast.symm
 have gA : (Nat.gcd A B : Int) ∣ (A : Int) := (hd A).1 (Nat.gcd_dvd_left A B)
 have gB : (Nat.gcd A B : Int) ∣ (B : Int) := (hd B).1 (Nat.gcd_dvd_right A B)
 have g1 : Nat.gcd A B ∣ A' := by
  rw [hd, s.a]
  split
  ·exact Int.dvd_sub (Int.dvd_mul_of_dvd_right gA) (Int.dvd_mul_of_dvd_right gB)
  ·exact Int.dvd_sub (Int.dvd_mul_of_dvd_right gB) (Int.dvd_mul_of_dvd_right gA)
 have g2 : Nat.gcd A B ∣ B' := by
  rw [hd, s.b]
  split
  ·exact Int.dvd_sub (Int.dvd_mul_of_dvd_right gB) (Int.dvd_mul_of_dvd_right gA)
  ·exact Int.dvd_sub (Int.dvd_mul_of_dvd_right gA) (Int.dvd_mul_of_dvd_right gB)
 have g3 : Nat.gcd A' B' ∣ A := by
  have := Nat.dvd_add (Nat.dvd_mul_left_of_dvd (Nat.gcd_dvd_left A' B') v1) (Nat.dvd_mul_left_of_dvd (Nat.gcd_dvd_right A' B') v0)
  rwa [s.iA] at this
 have g4 : Nat.gcd A' B' ∣ B := by
  have := Nat.dvd_add (Nat.dvd_mul_left_of_dvd (Nat.gcd_dvd_left A' B') u1) (Nat.dvd_mul_left_of_dvd (Nat.gcd_dvd_right A' B') u0)
  rwa [s.iB] at this
 have hco : (u0 * x + v0 * y) * B' + (u1 * x + v1 * y) * A' = b := by
  have i1 := s.iA
  have i2 := s.iB
  grind
 have hX : u0 * x + v0 * y ≤ b := by
  have : (u0 * x + v0 * y) * 1 ≤ (u0 * x + v0 * y) * B' := Nat.mul_le_mul_left _ s.pos
  omega
 have hY : u1 * x + v1 * y ≤ b := by
  have : (u1 * x + v1 * y) * 1 ≤ (u1 * x + v1 * y) * A' := Nat.mul_le_mul_left _ hpos
  omega
 have sa := s.a
 have sb := s.b
 cases e with
 | true =>
  simp only [if_true] at sa sb ⊢
  refine ⟨Nat.le_of_lt s.lt, hpos, (gcd_of g1 g2 g3 g4).trans h.g, ⟨u0 * ca - v0 * cb, ?_⟩, ⟨v1 * cb - u1 * ca, ?_⟩, σ, u0 * x + v0 * y, u1 * x + v1 * y, hσ, ?_, ?_, hco, hX, hY⟩
  ·rw [sa]; grind
  ·rw [sb]; grind
  ·rw [hU, hW, Int.natCast_add, Int.natCast_mul, Int.natCast_mul]; grind
  ·rw [hU, hW, Int.natCast_add, Int.natCast_mul, Int.natCast_mul]; grind
 | false =>
  simp only [Bool.false_eq_true, if_false] at sa sb ⊢
  refine ⟨Nat.le_of_lt s.lt, hpos, (gcd_of g1 g2 g3 g4).trans h.g, ⟨v0 * cb - u0 * ca, ?_⟩, ⟨u1 * ca - v1 * cb, ?_⟩, -σ, u0 * x + v0 * y, u1 * x + v1 * y, by omega, ?_, ?_, hco, hX, hY⟩
  ·rw [sa]; grind
  ·rw [sb]; grind
  ·rw [hU, hW, Int.natCast_add, Int.natCast_mul, Int.natCast_mul]; grind
  ·rw [hU, hW, Int.natCast_add, Int.natCast_mul, Int.natCast_mul]; grind
theorem LInv.euclid {a b A B : Nat} {U W : Int} (h : LInv a b A B U W) (hB : 0 < B) : LInv a b B (A % B) W (U - (A / B : Nat) * W) := by
 obtain ⟨σ, x, y, hσ, hU, hW, hb, hx, hy⟩ := h.co
 obtain ⟨ca, hca⟩ := h.cA
 obtain ⟨cb, hcb⟩ := h.cB
 have hm := Nat.div_add_mod A B
 obtain ⟨q, hq⟩ : ∃ q, q = A / B := ⟨_, rfl⟩
 obtain ⟨r, hr⟩ : ∃ r, r = A % B := ⟨_, rfl⟩
 have hrl : r < B := by rw [hr]; exact Nat.mod_lt _ hB
 have hg : Nat.gcd B r = Nat.gcd A B := by rw [hr, Nat.gcd_comm A B, Nat.gcd_rec B A, Nat.gcd_comm]
 rw [← hq, ← hr] at hm ⊢
 have hco : y * r + (x + q * y) * B = b := by grind
 have hY : x + q * y ≤ b := by
  have : (x + q * y) * 1 ≤ (x + q * y) * B := Nat.mul_le_mul_left _ hB
  omega
 have hmi : (B : Int) * q + r = A := by rw [← hm]; simp
 refine ⟨by omega, hB, hg.trans h.g, ⟨cb, hcb⟩, ⟨ca - q * cb, ?_⟩, -σ, y, x + q * y, by omega, ?_, ?_, hco, hy, hY⟩
 ·grind
 ·rw [hW]
 ·rw [hU, hW, Int.natCast_add, Int.natCast_mul]; grind
theorem LInv.start1 {a b : Nat} (h : b ≤ a) (hb : 0 < b) : LInv a b a b 1 0 :=
 ⟨h, by omega, rfl, ⟨0, by simp⟩, ⟨-1, by simp⟩, 1, 1, 0, .inl rfl, by simp, by simp, by simp, by omega, by omega⟩
theorem LInv.start2 {a b : Nat} (h : a ≤ b) (hb : 0 < b) : LInv a b b a 0 1 :=
 ⟨h, hb, Nat.gcd_comm _ _, ⟨-1, by simp⟩, ⟨0, by simp⟩, -1, 0, 1, .inr rfl, by simp, by simp, by simp, by omega, by omega⟩
structure LEnd (a b G : Nat) (U : Int) : Prop where
 g : G = Nat.gcd a b
 c : (b : Int) ∣ U * a - G
 lo : -(b : Int) ≤ U
 hi : U ≤ b
theorem LInv.fin {a b A : Nat} {U W : Int} (h : LInv a b A 0 U W) : LEnd a b A U := by
 obtain ⟨σ, x, y, hσ, hU, hW, hb, hx, hy⟩ := h.co
 refine ⟨by rw [← h.g, Nat.gcd_zero_right], h.cA, ?_, ?_⟩
 ·rcases hσ with rfl | rfl <;> omega
 ·rcases hσ with rfl | rfl <;> omega
theorem LInv.word {a b A B G ua ub va vb : Nat} {U W : Int} {e : Bool} (h : LInv a b A B U W) (hB : 0 < B) (s : SI A B G 0 ua ub va vb e) : LEnd a b G (if e then (va : Int) * W - ua * U else (ua : Int) * U - va * W) := by
 obtain ⟨σ, x, y, hσ, hU, hW, hb, hx, hy⟩ := h.co
 obtain ⟨ca, hca⟩ := h.cA
 obtain ⟨cb, hcb⟩ := h.cB
 have s1 := s.s1
 have s2 := s.s2
 rw [Nat.zero_mul, Nat.add_zero] at s1 s2
 have hG : 0 < G := by
  rcases Nat.eq_zero_or_pos G with h0 | h0
  ·subst h0; omega
  ·exact h0
 have hva : va ≠ 0 := by
  intro h0
  subst h0
  cases e with
  | false =>
   obtain ⟨j1, j2⟩ := (s.f rfl).2
   rw [s.z1 rfl, Nat.zero_mul] at j1
   rcases Nat.mul_eq_zero.1 j1.symm with h0 | h0
   ·rw [h0] at j2; simp at j2
   ·omega
  | true => have := (s.t rfl).2.2; rw [Nat.mul_zero] at this; omega
 obtain ⟨m1, m2⟩ := s.mo hva
 have hbd : ua * x + va * y ≤ b := by
  have h1 : ua * x ≤ ub * x := Nat.mul_le_mul_right _ m1
  have h2 : va * y ≤ vb * y := Nat.mul_le_mul_right _ m2
  have h3 : G * (ub * x + vb * y) = b := by grind
  have h4 : 1 * (ub * x + vb * y) ≤ G * (ub * x + vb * y) := Nat.mul_le_mul_right _ hG
  rw [h3, Nat.one_mul] at h4
  omega
 have hd : ∀ X : Nat, Nat.gcd A B ∣ X ↔ (Nat.gcd A B : Int) ∣ (X : Int) := fun X => Int.natCast_dvd_natCast.symm
 have gA : (Nat.gcd A B : Int) ∣ (A : Int) := (hd A).1 (Nat.gcd_dvd_left A B)
 have gB : (Nat.gcd A B : Int) ∣ (B : Int) := (hd B).1 (Nat.gcd_dvd_right A B)
 have hg : ∀ (hG1 : (Nat.gcd A B : Int) ∣ (G : Int)), G = Nat.gcd a b := fun hG1 => by
  rw [← h.g]
  exact Nat.dvd_antisymm (Nat.dvd_gcd ⟨vb, s1.symm⟩ ⟨ub, s2.symm⟩) ((hd G).2 hG1)
 cases e with
 | true =>
  obtain ⟨i1, _, _⟩ := s.t rfl
  have i1 : (G : Int) = va * B - ua * A := by have := congrArg (fun n : Nat => (n : Int)) i1; simp at this; omega
  simp only [if_true]
  have hV : (va : Int) * W - ua * U = -σ * ((ua * x + va * y : Nat) : Int) := by rw [hU, hW, Int.natCast_add, Int.natCast_mul, Int.natCast_mul]; grind
  refine ⟨hg ?_, ⟨va * cb - ua * ca, ?_⟩, ?_, ?_⟩
  ·rw [i1]; exact Int.dvd_sub (Int.dvd_mul_of_dvd_right gB) (Int.dvd_mul_of_dvd_right gA)
  ·rw [i1]; grind
  ·rw [hV]; rcases hσ with rfl | rfl <;> omega
  ·rw [hV]; rcases hσ with rfl | rfl <;> omega
 | false =>
  obtain ⟨i1, _, _⟩ := s.f rfl
  have i1 : (G : Int) = ua * A - va * B := by have := congrArg (fun n : Nat => (n : Int)) i1; simp at this; omega
  simp only [Bool.false_eq_true, if_false]
  have hV : (ua : Int) * U - va * W = σ * ((ua * x + va * y : Nat) : Int) := by rw [hU, hW, Int.natCast_add, Int.natCast_mul, Int.natCast_mul]; grind
  refine ⟨hg ?_, ⟨ua * ca - va * cb, ?_⟩, ?_, ?_⟩
  ·rw [i1]; exact Int.dvd_sub (Int.dvd_mul_of_dvd_right gA) (Int.dvd_mul_of_dvd_right gB)
  ·rw [i1]; grind
  ·rw [hV]; rcases hσ with rfl | rfl <;> omega
  ·rw [hV]; rcases hσ with rfl | rfl <;> omega
end Go.Proofs.YtlkjiiibmfpbcaaGreatDoor
