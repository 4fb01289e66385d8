/- Recursive division: the two loops that correct the guess. -/
import Derived.Test.YtlkjiiibmfpbcaaGreatDoorR29
namespace Go.Proofs.YtlkjiiibmfpbcaaGreatDoor
open Go
def St2 (w0 : World) (qh t vv uu : Sl) (s k M V0 V1 W V : Nat) (L : List Item) (w : World) : Prop :=
 ∃ q qv uv, Bank w (nl qh q :: nl (t.to k) qv :: nl (vv.to s) V0 :: nl (vv.sub s vv.l) V1 :: nl uu uv :: L) ∧ qv ≤ uv ∧ W / V = q ∧ W % V = uv - qv ∧ (Nz w (t.to k) qv ∨ ∀ m, uv < BB ^ m → k ≤ m) ∧ Chg w0 w (un (wds qh) (un (wds (t.to M)) (wds uu)))
theorem cmpU {w : World} {uu t : Sl} {uv qv k : Nat} (hu : Nt w uu uv) (ht : Nt w (t.to k) qv) (hc : Nz w (t.to k) qv ∨ ∀ m, uv < BB ^ m → k ≤ m) {P : Int → World → Prop} (q : ∀ w', Chg w w' none2 → P (sgn qv uv) w') :
  Calls Tryz.prog 46 #[uu.v] w fun r_1 w_2 => (∃ x_3a, ∃ x_3l, ∃ x_3c, r_1 = .returned (.slice x_3a x_3l x_3c) ∧ (Calls Tryz.prog 92 #[(.slice t.a k t.c), (.slice x_3a x_3l x_3c)] w_2 fun r_4 w_5 => (∃ x_6, r_4 = .returned (.int .i64 x_6) ∧ P x_6 w_5))) :=
 normB hu fun m hm hz => ⟨_, _, _, rfl, (c92h (t.to k) (uu.to m) qv uv w ht hz (hc.imp id fun h => h m hz.lt)).mono fun e w' ⟨h1, h2⟩ => ⟨_, h1, q w' h2⟩⟩
section
variable {w0 : World} {z u vv uu qh qz t : Sl} {V0 V1 W0 W1 s k M : Nat} {L : List Item}
structure St1 (w0 : World) (qh t vv uu : Sl) (s k M V0 V1 W0 W1 : Nat) (L : List Item) : Prop where
 bank : Bank w0 (nl qh (W1 / V1) :: nl (t.to M) (W1 / V1 * V0) :: nl (vv.to s) V0 :: nl (vv.sub s vv.l) V1 :: nl uu (W0 + BB ^ s * (W1 % V1)) :: L)
 nz : Nz w0 (t.to k) (W1 / V1 * V0)
 hM : M = max k s
 hs : s ≤ vv.l
 v0 : V0 < BB ^ s
 w0 : W0 < BB ^ s
 v1 : 0 < V1
 hq : W1 / V1 ≤ V1
 top : BB ^ (vv.l - 1) ≤ BB ^ s * V1
 hk : k ≤ vv.l
 hW : W0 + BB ^ s * W1 < BB ^ uu.l
 vl : 0 < vv.l
theorem St1.tv (h : St1 w0 qh t vv uu s k M V0 V1 W0 W1 L) {w : World} (hc : Chg w0 w none2) : Bank w (nl qh (W1 / V1) :: nl (t.to k) (W1 / V1 * V0) :: nl (vv.to s) V0 :: nl (vv.sub s vv.l) V1 :: nl uu (W0 + BB ^ s * (W1 % V1)) :: L) := by
 have b := h.bank.none hc
 have b1 := b.perm (List.Perm.swap _ _ _)
 have hkM : k ≤ M := by have := h.hM; omega
 have b2 := b1.map1 (a' := nl (t.to k) (W1 / V1 * V0)) (hc.nz_none h.nz).toNt (cut_lo (s := t.to M) hkM)
 exact b2.perm (List.Perm.swap _ _ _)
theorem St1.ok (h : St1 w0 qh t vv uu s k M V0 V1 W0 W1 L) {w : World} (hc : Chg w0 w none2) (hle : W1 / V1 * V0 ≤ W0 + BB ^ s * (W1 % V1)) : St2 w0 qh t vv uu s k M V0 V1 (W0 + BB ^ s * W1) (V0 + BB ^ s * V1) L w := by
 obtain ⟨g1, g2⟩ := (guess h.v0 h.w0 h.v1 h.hq).1 hle
 exact ⟨_, _, _, h.tv hc, hle, g1, g2, .inl (hc.nz_none h.nz), hc.none _⟩
theorem St1.fix (h : St1 w0 qh t vv uu s k M V0 V1 W0 W1 L) {w : World} (hc : Chg w0 w none2) (hgt : W0 + BB ^ s * (W1 % V1) < W1 / V1 * V0) {P : World → Prop}
  (q : ∀ w', (∀ (Q : Ending → World → Prop), (∀ w2, St2 w0 qh t vv uu s k M V0 V1 (W0 + BB ^ s * W1) (V0 + BB ^ s * V1) L w2 → Q (.returned undef) w2) → Calls Tryz.prog 119 #[(uu.sub s uu.l).v, (vv.sub s vv.l).v] w'.drew Q) → s ≤ uu.l → P w') :
  Calls Tryz.prog 83 #[qh.v, qh.v, .int .u64 1] w fun r_8 w_9 => (∃ x_10, r_8 = .returned (.int .u64 x_10) ∧ (∃ h_12 : Nat, (s : Int) = (h_12 : Int) ∧ h_12 ≤ t.c ∧ (∃ h_15 : Nat, (s : Int) = (h_15 : Int) ∧ h_15 ≤ t.c ∧ (∃ h_18 : Nat, (s : Int) = (h_18 : Int) ∧ h_18 ≤ vv.c ∧ (Calls Tryz.prog 82 #[(.slice t.a h_12 t.c), (.slice t.a h_15 t.c), (.slice vv.a h_18 vv.c)] (World.drew w_9) fun r_20 w_21 => (∃ x_22, r_20 = .returned (.int .u64 x_22) ∧
   (bc (decide (((k : Nat) : Int) > (s : Int))) (∃ i_23 : Nat, (s : Int) = (i_23 : Int) ∧ i_23 ≤ k ∧ (∃ i_26 : Nat, (s : Int) = (i_26 : Int) ∧ i_26 ≤ k ∧ (Calls Tryz.prog 83 #[(.slice (shifted t.a i_23 t.c 1) (k - i_23) (t.c - i_23)), (.slice (shifted t.a i_26 t.c 1) (k - i_26) (t.c - i_26)), (.int .u64 x_22)] (World.drew w_21) fun r_29 w_30 => (∃ x_31, r_29 = .returned (.int .u64 x_31) ∧ P w_30)))) (P w_21)))))))) := by
 obtain ⟨g1, g2, g3, g4, g5, g6⟩ := (guess h.v0 h.w0 h.v1 h.hq).2 hgt
 have b := h.bank.none hc
 have tM : Nt w (t.to M) (W1 / V1 * V0) := b.tail.head
 have vs : Nt w (vv.to s) V0 := b.tail.tail.head
 have v1s : Nt w (vv.sub s vv.l) V1 := b.tail.tail.tail.head
 have uN : Nt w uu (W0 + BB ^ s * (W1 % V1)) := b.tail.tail.tail.tail.head
 have hlen : vv.l ≤ uu.l := by
  rcases Nat.lt_or_ge uu.l vv.l with h1 | h1
  ·have := Nat.pow_le_pow_right BB_pos (show uu.l ≤ vv.l - 1 by omega)
   have h2 := h.top
   have h3 := h.hW
   have : BB ^ s * V1 ≤ W0 + BB ^ s * W1 := by omega
   omega
  ·exact h1
 refine fix1 b h.hM g1 g2 h.nz.lt tM.lc vs.lc fun w' b1 c1 => q w' (fun Q hQ => ?_) (by have := h.hs; omega)
 have cd : Chg w' w'.drew none2 := Chg.drew0 w' _
 have b2 : Bank w'.drew (nl uu (W0 + BB ^ s * (W1 % V1)) :: nl (vv.sub s vv.l) V1 :: nl qh (W1 / V1 - 1) :: nl (t.to k) (W1 / V1 * V0 - V0) :: nl (vv.to s) V0 :: L) := (b1.none cd).pick 5 [4, 3, 0, 1, 2] rfl
 have v1' : Nt w'.drew (vv.sub s vv.l) V1 := b2.tail.head
 refine add_up b2 (by have := h.hs; omega) (fun _ _ h => h) v1' (by show vv.l - s ≤ uu.l - s; omega) (Nat.lt_of_le_of_lt g4 h.hW) fun w2 b3 c3 => hQ w2 ⟨_, _, _, b3.pick 5 [2, 3, 4, 1, 0] rfl, g3, g5, g6, .inr fun m hm => ?_, ?_⟩
 ·have h1 := h.top
  have h2 : BB ^ (vv.l - 1) < BB ^ m := by omega
  have := (Nat.pow_lt_pow_iff_right (show 1 < BB by unfold BB; omega)).1 h2
  have := h.hk; have := h.vl
  omega
 ·refine ((hc.none _).trans' (c1.mono fun b i _ hm => ?_)).trans' ((cd.none _).trans' (c3.mono fun b i _ hm => .inr (.inr hm)))
  exact hm.elim .inl fun h => .inr (.inl h)
theorem St2.none {w1 : World} {W V : Nat} (h : St2 w0 qh t vv uu s k M V0 V1 W V L w1) {w : World} (hc : Chg w1 w none2) : St2 w0 qh t vv uu s k M V0 V1 W V L w := by
 obtain ⟨q, qv, uv, b, h1, h2, h3, h4, h5⟩ := h
 exact ⟨q, qv, uv, b.none hc, h1, h2, h3, h4.imp (fun h => hc.nz_none h) id, h5.trans' (hc.none _)⟩
theorem loop13 {sp : Option Addr} {dp n B j mk : Int} (h : St1 w0 qh t vv uu s k M V0 V1 W0 W1 L) {e : Env} {K : Kont}
  (ha : agree e (F171.l13 z.a z.l z.c sp u.a u.l u.c vv.a vv.l vv.c dp n B qz.a qz.l qz.c j s uu.a uu.l uu.c qh.a qh.l qh.c mk t.a k t.c 0))
  (q : ∀ e' w', agree e' (F171.l12 z.a z.l z.c sp u.a u.l u.c vv.a vv.l vv.c dp n B qz.a qz.l qz.c j uu.a uu.l uu.c qh.a qh.l qh.c mk t.a k t.c) → e'.defers = e.defers → St2 w0 qh t vv uu s k M V0 V1 (W0 + BB ^ s * W1) (V0 + BB ^ s * V1) L w' → K .normal e' w') :
  W Tryz.prog 297 F171.p14 e w0 K := by
 rw [F171.q14]
 refine W_for' (σ := Nat) (fun i => F171.l13 z.a z.l z.c sp u.a u.l u.c vv.a vv.l vv.c dp n B qz.a qz.l qz.c j s uu.a uu.l uu.c qh.a qh.l qh.c mk t.a k t.c i) (fun i w' => (i = 0 ∧ w' = w0) ∨ (i = 1 ∧ St2 w0 qh t vv uu s k M V0 V1 (W0 + BB ^ s * W1) (V0 + BB ^ s * V1) L w')) (fun i => 2 - i) 0 ha (.inl ⟨rfl, rfl⟩) ?_
 rintro i B1 w' K0 hI hnext hexit -
 rcases hI with ⟨rfl, rfl⟩ | ⟨rfl, h2⟩
 ·refine F171.t13 z.a z.l z.c sp u.a u.l u.c vv.a vv.l vv.c dp n B qz.a qz.l qz.c j s uu.a uu.l uu.c qh.a qh.l qh.c mk t.a k t.c (0 : Nat) ⟨rfl, rfl, rfl, rfl, rfl, rfl, rfl, rfl, rfl, rfl, rfl, rfl, rfl, rfl, rfl, trivial⟩ fun B2 => bc_true (decT (by omega)) ?_
  have uN : Nt w' uu (W0 + BB ^ s * (W1 % V1)) := (h.tv (Chg.refl _ _)).tail.tail.tail.tail.head
  refine cmpU uN h.nz.toNt (.inl h.nz) fun w1 c1 => bc_intro (fun hb B3 => hexit _ _ (q _ _ ⟨rfl, rfl, rfl, rfl, rfl, rfl, rfl, rfl, rfl, rfl, rfl, rfl, rfl, trivial⟩ rfl (h.ok c1 ?_))) (fun hb => h.fix c1 ?_ fun w2 ad hsu B3 => ?_)
  ·have := dT hb
   rcases Nat.lt_or_ge (W0 + BB ^ s * (W1 % V1)) (W1 / V1 * V0) with h1 | h1
   ·have := sgnPos.2 h1; omega
   ·exact h1
  ·have := dF hb
   exact sgnPos.1 (by omega)
  ·refine F171.t18 z.a z.l z.c sp u.a u.l u.c vv.a vv.l vv.c dp n B qz.a qz.l qz.c j s uu.a uu.l uu.c qh.a qh.l qh.c mk t.a k t.c (0 : Nat) ⟨rfl, rfl, rfl, rfl, rfl, rfl, rfl, rfl, rfl, rfl, rfl, rfl, rfl, rfl, rfl, trivial⟩ fun B4 => ⟨s, rfl, hsu, s, rfl, h.hs, ad _ fun w3 h3 => ⟨rfl, fun B5 => ?_⟩⟩
   refine F171.t17 z.a z.l z.c sp u.a u.l u.c vv.a vv.l vv.c dp n B qz.a qz.l qz.c j s uu.a uu.l uu.c qh.a qh.l qh.c mk t.a k t.c (0 : Nat) ⟨rfl, rfl, rfl, rfl, rfl, rfl, rfl, rfl, rfl, rfl, rfl, rfl, rfl, rfl, rfl, trivial⟩ fun B6 => ⟨by unfold inI64; omega, fun B7 => hnext _ _ 1 ⟨rfl, rfl, rfl, rfl, rfl, rfl, rfl, rfl, rfl, rfl, rfl, rfl, rfl, rfl, intv (by omega), trivial⟩ rfl (.inr ⟨rfl, h3⟩) (by omega)⟩
 ·refine F171.t13 z.a z.l z.c sp u.a u.l u.c vv.a vv.l vv.c dp n B qz.a qz.l qz.c j s uu.a uu.l uu.c qh.a qh.l qh.c mk t.a k t.c (1 : Nat) ⟨rfl, rfl, rfl, rfl, rfl, rfl, rfl, rfl, rfl, rfl, rfl, rfl, rfl, rfl, rfl, trivial⟩ fun B2 => bc_true (decT (by omega)) ?_
  obtain ⟨q', qv, uv, b, h3, h4, h5, h6, h7⟩ := h2
  refine cmpU b.tail.tail.tail.tail.head b.tail.head h6 fun w1 c1 => bc_true (decT ?_) fun B3 => hexit _ _ (q _ _ ⟨rfl, rfl, rfl, rfl, rfl, rfl, rfl, rfl, rfl, rfl, rfl, rfl, rfl, trivial⟩ rfl (St2.none ⟨q', qv, uv, b, h3, h4, h5, h6, h7⟩ c1))
  rcases Nat.lt_or_ge 0 1 with _ | _
  ·by_cases hg : sgn qv uv > 0
   ·have := sgnPos.1 hg; omega
   ·omega
  ·omega
theorem loop5 (h : St1 w0 qh t vv uu s k M V0 V1 W0 W1 L) {e : Env} {K : Kont}
  (ha : agree e (F171.l5 z.a z.l z.c uu.a uu.l uu.c vv.a vv.l vv.c s qh.a qh.l qh.c t.a k t.c 0))
  (q : ∀ e' w', agree e' (F171.l4 z.a z.l z.c uu.a uu.l uu.c qh.a qh.l qh.c t.a k t.c) → e'.defers = e.defers → St2 w0 qh t vv uu s k M V0 V1 (W0 + BB ^ s * W1) (V0 + BB ^ s * V1) L w' → K .normal e' w') :
  W Tryz.prog 297 F171.p6 e w0 K := by
 rw [F171.q6]
 refine W_for' (σ := Nat) (fun i => F171.l5 z.a z.l z.c uu.a uu.l uu.c vv.a vv.l vv.c s qh.a qh.l qh.c t.a k t.c i) (fun i w' => (i = 0 ∧ w' = w0) ∨ (1 ≤ i ∧ i ≤ 2 ∧ St2 w0 qh t vv uu s k M V0 V1 (W0 + BB ^ s * W1) (V0 + BB ^ s * V1) L w')) (fun i => 2 - i) 0 ha (.inl ⟨rfl, rfl⟩) ?_
 rintro i B1 w' K0 hI hnext hexit -
 have step : ∀ (e' : Env) (w2 : World) (i : Nat), i ≤ 1 → agree e' (F171.l10 z.a z.l z.c uu.a uu.l uu.c vv.a vv.l vv.c s qh.a qh.l qh.c t.a k t.c i) → e'.defers = e.defers → (∀ e'' , agree e'' (F171.l5 z.a z.l z.c uu.a uu.l uu.c vv.a vv.l vv.c s qh.a qh.l qh.c t.a k t.c (i + 1 : Nat)) → e''.defers = e.defers → K0 .normal e'' w2) → W Tryz.prog 297 F171.p10 e' w2 K0 := by
  intro e' w2 i hi ha hd hk
  exact F171.t10 z.a z.l z.c uu.a uu.l uu.c vv.a vv.l vv.c s qh.a qh.l qh.c t.a k t.c i ha fun B3 => ⟨by unfold inI64; omega, fun B4 => hk _ ⟨rfl, rfl, rfl, rfl, rfl, rfl, intv (by omega), trivial⟩ hd⟩
 rcases hI with ⟨rfl, rfl⟩ | ⟨hi1, hi2, h2⟩
 ·refine F171.t5 z.a z.l z.c uu.a uu.l uu.c vv.a vv.l vv.c s qh.a qh.l qh.c t.a k t.c (0 : Nat) ⟨rfl, rfl, rfl, rfl, rfl, rfl, rfl, trivial⟩ fun B2 => bc_true (decT (by omega)) ?_
  have uN : Nt w' uu (W0 + BB ^ s * (W1 % V1)) := (h.tv (Chg.refl _ _)).tail.tail.tail.tail.head
  refine cmpU uN h.nz.toNt (.inl h.nz) fun w1 c1 => bc_intro (fun hb => h.fix c1 (sgnPos.1 (dT hb)) fun w2 ad hsu B3 => ?_) (fun hb B3 => ?_)
  ·refine F171.t11 z.a z.l z.c uu.a uu.l uu.c vv.a vv.l vv.c s qh.a qh.l qh.c t.a k t.c (0 : Nat) ⟨rfl, rfl, rfl, rfl, rfl, rfl, rfl, trivial⟩ fun B4 => ⟨s, rfl, hsu, s, rfl, h.hs, ad _ fun w3 h3 => ⟨rfl, fun B5 => ?_⟩⟩
   exact step _ w3 0 (by omega) ⟨rfl, rfl, rfl, rfl, rfl, rfl, rfl, trivial⟩ rfl fun e'' h1 h2 => hnext e'' w3 1 h1 h2 (.inr ⟨by omega, by omega, h3⟩) (by omega)
  ·refine step _ w1 0 (by omega) ⟨rfl, rfl, rfl, rfl, rfl, rfl, rfl, trivial⟩ rfl fun e'' h1 h2 => hnext e'' w1 1 h1 h2 (.inr ⟨by omega, by omega, h.ok c1 ?_⟩) (by omega)
   have := dF hb
   rcases Nat.lt_or_ge (W0 + BB ^ s * (W1 % V1)) (W1 / V1 * V0) with h1 | h1
   ·have := sgnPos.2 h1; omega
   ·exact h1
 ·refine F171.t5 z.a z.l z.c uu.a uu.l uu.c vv.a vv.l vv.c s qh.a qh.l qh.c t.a k t.c i ⟨rfl, rfl, rfl, rfl, rfl, rfl, rfl, trivial⟩ fun B2 => bc_intro (fun hb => ?_) (fun hb B3 => hexit _ _ (q _ _ ⟨rfl, rfl, rfl, rfl, trivial⟩ rfl h2))
  have hi : i = 1 := by have := dT hb; omega
  subst hi
  obtain ⟨q', qv, uv, b, h3, h4, h5, h6, h7⟩ := h2
  refine cmpU b.tail.tail.tail.tail.head b.tail.head h6 fun w1 c1 => bc_false (decF ?_) fun B3 => ?_
  ·intro hg
   have := sgnPos.1 hg; omega
  ·exact step _ w1 1 (by omega) ⟨rfl, rfl, rfl, rfl, rfl, rfl, rfl, trivial⟩ rfl fun e'' g1 g2 => hnext e'' w1 2 g1 g2 (.inr ⟨by omega, by omega, St2.none ⟨q', qv, uv, b, h3, h4, h5, h6, h7⟩ c1⟩) (by omega)
end
end Go.Proofs.YtlkjiiibmfpbcaaGreatDoor
namespace Go.Proofs.YtlkjiiibmfpbcaaGreatDoor
open Go
def H63 : Nat := 9223372036854775808
def D171 (n : Nat) : Prop := ∀ (w : World) (K : SK) (z u vv : Sl) (U V : Nat) (L : List Item) (dp : Int), vv.l = n → Bank w (stk K :: nl z 0 :: nl u U :: nl vv V :: L) → 2 ≤ n → BB ^ (n - 1) * H63 ≤ V → 1 ≤ z.l → z.l ≤ 1000000 → u.l ≤ 1000000 →
 U < BB ^ (n + z.l - 1) * H63 → (n ≤ 158 ∨ U < BB ^ (n + 38)) → Off K vv → K.s.l + 16 * n ≤ 549755813888 → (0 ≤ dp ∧ dp + n ≤ 1000000000) → n ≤ 1000000 → Glb w → ∀ Q : Ending → World → Prop,
 (∀ (K' : SK) w', Bank w' (stk K' :: nl z (U / V) :: nl u (U % V) :: nl vv V :: L) → K'.a = K.a → K'.s.l = K.s.l → Nxt w K K' → Chg w w' (un (un (wds z) (wds u)) K.free) → Q (.returned undef) w') →
 Calls Tryz.prog 171 #[z.v, .pointer K.a, u.v, vv.v, .int .i64 dp] w Q
theorem Bank.top0 {w : World} {s : Sl} {V k : Nat} {L : List Item} (h : Bank w (nl s V :: L)) (hk : k ≤ s.l) (hV : V < BB ^ k) : Bank w (nl (s.to k) V :: nl (s.sub k s.l) 0 :: L) := by
 have := h.split k hk
 rwa [Nat.mod_eq_of_lt hV, Nat.div_eq_of_lt hV] at this
theorem Bank.untop0 {w : World} {s : Sl} {V k : Nat} {L : List Item} (h : Bank w (nl (s.to k) V :: nl (s.sub k s.l) 0 :: L)) (hk : k ≤ s.l) : Bank w (nl s V :: L) := by
 have := h.join hk
 rwa [Nat.mul_zero, Nat.add_zero] at this
theorem clearN {w : World} {t : Sl} {L : List Item} (h : Bank w (sto t :: L)) :
  ∃ w', Sem.run Tryz.prog (builtin .clear #[45] 0 #[false] #[t.v]) w = .ok (.value undef) w' ∧ Bank w' (num t 0 :: L) ∧ Chg w w' (wds t) := by
 have hz : St w t := h.head
 obtain ⟨w1, r1, r2, r3⟩ := clearW 45 Tryz.underlying45 t w hz.wt
 exact ⟨w1, r1, h.upd r3 (fun b i _ hm => wds_fp hz.lc b i hm) { r3.st hz with sg := r2, lt := BBpow_pos _ } fun _ _ _ h => h, r3⟩
theorem spcT {w : World} {K : SK} {t x : Sl} (htf : ∀ b i, b < w.heap.size → fp t b i → K.free b i) (ho : Off K x) (hx : St w x) : SpC t x :=
 Dj.spc fun b i h1 h2 => by
  have e1 := h2.1; have e2 := h2.2.1; have e3 := h2.2.2
  exact ho i e2 e3 (by rw [← e1]; exact htf b i (by rw [e1]; exact hx.blk (by omega)) h1)
theorem renew {w w' : World} {K K' : SK} {z u vv qz : Sl} {Z U V Z' U' : Nat} (h : Bank w [stk K, hole (wds qz), nl z Z, nl u U, nl vv V]) (hn : Nxt w K K') (hk : StkAt w' K') (hz : Nt w' z Z') (hu : Nt w' u U') (hc : Chg w w' (un (un (wds z) (wds u)) (un (wds qz) K.free))) :
  Bank w' [stk K', hole (wds qz), nl z Z', nl u U', nl vv V] := by
 have hd : [wds qz, wds z, wds u].Pairwise Dj := by
  have b : Bank w [hole (wds qz), nl z Z, nl u U] := (h.pick 5 [1, 2, 3] rfl).left (A := [_, _, _])
  have := b.dj
  simp only [List.pairwise_cons, List.mem_cons, List.not_mem_nil, or_false, forall_eq_or_imp, forall_eq, List.Pairwise.nil, and_true, false_implies, implies_true] at this ⊢
  exact this
 have ho : ∀ a ∈ [hole (wds qz), nl z Z, nl u U], ∀ b i, a.fp b i → ¬ K'.free b i := fun a ha b i hm hf => by
  have ha' : a ∈ [hole (wds qz), nl z Z, nl u U, nl vv V] := by simp only [List.mem_cons] at ha ⊢; rcases ha with h | h | h | h <;> simp_all
  exact h.hdj ha' b i (hn.free (a.old (h.tail.all a ha') hm) hf) hm
 have o1 : Dj K'.free (wds qz) := fun b i h1 h2 => ho (hole (wds qz)) (by simp) b i h2 h1
 have o2 : Dj K'.free (wds z) := fun b i h1 h2 => ho (nl z Z) (by simp) b i h2 h1
 have o3 : Dj K'.free (wds u) := fun b i h1 h2 => ho (nl u U) (by simp) b i h2 h1
 have hq : (hole (wds qz)).P w := h.tail.head
 have hA : Bank w' [stk K', hole (wds qz), nl z Z', nl u U'] := by
  refine ⟨by simp only [List.mem_cons, List.not_mem_nil, or_false, forall_eq_or_imp, forall_eq]; exact ⟨hk, fun b i hm => Nat.lt_of_lt_of_le (hq b i hm) hc.size, hz, hu⟩, ?_⟩
  simp only [List.pairwise_cons, List.mem_cons, List.not_mem_nil, or_false, forall_eq_or_imp, forall_eq, List.Pairwise.nil, and_true, false_implies, implies_true] at hd ⊢
  exact ⟨⟨o1, o2, o3⟩, hd⟩
 refine Bank.updN (A := [stk K, hole (wds qz), nl z Z, nl u U]) (A' := [stk K', hole (wds qz), nl z Z', nl u U']) h hc (fun b i _ hm => ?_) hA fun a' ha' b i hb hf => ?_
 ·rcases hm with (hm | hm) | hm | hm
  ·exact ⟨nl z Z, by simp, hm⟩
  ·exact ⟨nl u U, by simp, hm⟩
  ·exact ⟨hole (wds qz), by simp, hm⟩
  ·exact ⟨stk K, by simp, hm⟩
 ·simp only [List.mem_cons, List.not_mem_nil, or_false] at ha'
  rcases ha' with rfl | rfl | rfl | rfl
  ·exact ⟨stk K, by simp, stk_sub hn b i hb hf⟩
  ·exact ⟨hole (wds qz), by simp, hf⟩
  ·exact ⟨nl z Z, by simp, hf⟩
  ·exact ⟨nl u U, by simp, hf⟩
structure Ctx (z u vv qz : Sl) (U V n B m s : Nat) (dp : Int) : Prop where
 vl : vv.l = n
 ul : u.l = n + m
 hB : B = n / 2
 hs : s + 1 = B
 n40 : 40 ≤ n
 nM : n ≤ 1000000
 uM : u.l ≤ 1000000
 zM : z.l ≤ 1000000
 ql : qz.l = B + 1
 qc : B + 1 ≤ qz.c
 mz : m ≤ z.l
 top : BB ^ (n - 1) * H63 ≤ V
 hU : U < BB ^ (n + z.l - 1) * H63
 z1 : 1 ≤ z.l
 hP : n ≤ 158 ∨ m ≤ 38
 dp0 : 0 ≤ dp ∧ dp + n ≤ 1000000000
 vB : V < BB ^ n
 ih : ∀ n', n' < n → D171 n'
section
variable {z u vv qz : Sl} {U V n B m s : Nat} {dp : Int}
theorem Ctx.sv (h : Ctx z u vv qz U V n B m s dp) : BB ^ (n - 1) * H63 ≤ BB ^ s * (V / BB ^ s) := by
 have h1 : BB ^ (n - 1) * H63 = BB ^ s * (BB ^ (n - 1 - s) * H63) := by
  rw [← Nat.mul_assoc, ← Nat.pow_add]; congr 2; have := h.hs; have := h.hB; omega
 rw [h1]
 refine Nat.mul_le_mul_left _ ?_
 rw [Nat.le_div_iff_mul_le (BBpow_pos s), Nat.mul_comm, ← h1]
 exact h.top
theorem Ctx.top1 (h : Ctx z u vv qz U V n B m s dp) : BB ^ (n - s - 1) * H63 ≤ V / BB ^ s := by
 rw [Nat.le_div_iff_mul_le (BBpow_pos s), Nat.mul_right_comm, ← Nat.pow_add, show n - s - 1 + s = n - 1 by have := h.hs; have := h.hB; have := h.n40; omega]
 exact h.top
theorem Ctx.v1 (h : Ctx z u vv qz U V n B m s dp) : 0 < V / BB ^ s := by
 have := h.top1
 have h1 : 0 < BB ^ (n - s - 1) * H63 := Nat.mul_pos (BBpow_pos _) (by decide)
 omega
theorem Ctx.room (h : Ctx z u vv qz U V n B m s dp) {j q W : Nat} (hj : j ≤ z.l) (hq : q * (BB ^ s * (V / BB ^ s)) ≤ W) (hW : BB ^ j * W ≤ U) : q < BB ^ (z.l - j) := by
 have h1 := h.sv
 have h2 := h.hU
 have e : BB ^ (n + z.l - 1) * H63 = BB ^ z.l * (BB ^ (n - 1) * H63) := by
  rw [← Nat.mul_assoc, ← Nat.pow_add]; congr 2; have := h.n40; omega
 rw [e] at h2
 have h3 : BB ^ j * q * (BB ^ s * (V / BB ^ s)) ≤ U := by
  rw [Nat.mul_assoc]; exact Nat.le_trans (Nat.mul_le_mul_left _ hq) hW
 have h4 : BB ^ j * q * (BB ^ s * (V / BB ^ s)) < BB ^ z.l * (BB ^ s * (V / BB ^ s)) := Nat.lt_of_le_of_lt h3 (Nat.lt_of_lt_of_le h2 (Nat.mul_le_mul_left _ h1))
 have h5 := Nat.lt_of_mul_lt_mul_right h4
 have e2 : BB ^ z.l = BB ^ j * BB ^ (z.l - j) := by rw [← Nat.pow_add]; congr 1; omega
 rw [e2] at h5
 exact Nat.lt_of_mul_lt_mul_left h5
theorem Ctx.quo (h : Ctx z u vv qz U V n B m s dp) {q : Nat} (hq : q * V ≤ U) : q < BB ^ z.l := by
 have h1 := h.top
 have h2 := h.hU
 have e : BB ^ (n + z.l - 1) * H63 = BB ^ z.l * (BB ^ (n - 1) * H63) := by
  rw [← Nat.mul_assoc, ← Nat.pow_add]; congr 2; have := h.n40; omega
 rw [e] at h2
 exact Nat.lt_of_mul_lt_mul_right (Nat.lt_of_le_of_lt hq (Nat.lt_of_lt_of_le h2 (Nat.mul_le_mul_left _ h1)))
theorem Ctx.gs (h : Ctx z u vv qz U V n B m s dp) {W1 : Nat} (hW : W1 < BB ^ (n - s + B)) : W1 / (V / BB ^ s) ≤ V / BB ^ s ∧ W1 < BB ^ (n - s + (B + 1) - 1) * H63 := by
 have h1 := h.top1
 have hb : n - s + B ≤ (n - s - 1) + (n - s) := by have := h.hs; have := h.hB; have := h.n40; omega
 refine ⟨?_, ?_⟩
 ·refine Nat.le_of_lt (Nat.div_lt_of_lt_mul ?_)
  refine Nat.lt_of_lt_of_le (lt_pow_of_le hW hb) ?_
  have h2 : BB ^ (n - s - 1) ≤ V / BB ^ s := Nat.le_trans (Nat.le_mul_of_pos_right _ (by decide)) h1
  have h3 : BB ^ (n - s) ≤ BB ^ (n - s - 1) * H63 * 2 := by
   rw [Nat.mul_assoc, show H63 * 2 = BB from rfl, ← BBpow_succ]
   exact Nat.pow_le_pow_right BB_pos (by omega)
  rw [Nat.pow_add]
  have h4 : BB ^ (n - s - 1) * 2 ≤ V / BB ^ s := Nat.le_trans (Nat.mul_le_mul_left _ (by decide)) h1
  calc BB ^ (n - s - 1) * BB ^ (n - s) ≤ BB ^ (n - s - 1) * (BB ^ (n - s - 1) * H63 * 2) := Nat.mul_le_mul_left _ h3
   _ = (BB ^ (n - s - 1) * 2) * (BB ^ (n - s - 1) * H63) := by rw [Nat.mul_comm (BB ^ (n - s - 1) * H63) 2, ← Nat.mul_assoc]
   _ ≤ (V / BB ^ s) * (V / BB ^ s) := Nat.mul_le_mul h4 h1
 ·refine Nat.lt_of_lt_of_le hW ?_
  rw [show n - s + (B + 1) - 1 = n - s + B by omega]
  exact Nat.le_mul_of_pos_right _ (by decide)
end
end Go.Proofs.YtlkjiiibmfpbcaaGreatDoor
