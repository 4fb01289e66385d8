/- Contracts: the windowed exponentiation modulo a power of two, whole. Conditions: exponents of two up to 39 words; the exponent has two words or more. -/
import Derived.Test.YtlkjiiibmfpbcaaGreatDoorP33
namespace Go.Proofs.YtlkjiiibmfpbcaaGreatDoor
open Go
variable {w0 w : World} {K0 K : SK} {z zz x y : Sl} {X Y k pb top : Nat} {L : List Item}
theorem p2_76 {zi : Item} {ps : List Sl} (hb : Bank w (stk K :: row pb 16 (fs ps) :: (ps.map sto ++ (sto zz :: zi :: L)))) (hps : ps.length = 16) (hin : ∀ s ∈ ps, In2 w0 (un (fp z) K0.free) s) (hzi : zi.fp = fp z) (hz : ∀ w', zi.P w' → St w' z) (hzs : St w0 z) (hac : AC w0 K0 z K0 z)
  (ks : KS w0 w z K0 K top) (hpb : w0.heap.size ≤ pb) (hx : nmz x X ∈ L) (hxl : x.l ≤ 1000000) (hy : nmz y Y ∈ L) (hyl : y.l ≤ 1000000) (hy1 : 1 < y.l) (hk2 : 2 ≤ k) (hk : k ≤ 2496) (ht : top ≤ 2199023255552) (izz : In2 w0 (un (fp z) K0.free) zz) (hX : X % 2 = 1) (e : Env) (hd : e.defers = [Dr K0.a (K0.s.l : Int)]) (Kt : Kont)
  (hag : agree e (F76.l2 z.a z.l z.c K0.a x.a x.l x.c y.a y.l y.c k zz.a zz.l zz.c pb 0)) (hK : Fin76 w0 K0 z L (X ^ Y % 2 ^ k) Kt) : W Tryz.prog 223 F76.p2 e w Kt := by
 obtain ⟨s0, s1, ts, rfl⟩ : ∃ s0 s1 ts, ps = s0 :: s1 :: ts := by
  cases ps with
  | nil => simp at hps
  | cons s0 r => cases r with
   | nil => simp at hps
   | cons s1 ts => exact ⟨s0, s1, ts, rfl⟩
 have i0 := hin s0 (by simp)
 have i1 := hin s1 (by simp)
 have hg : Glb w := ks.ch.glb ks.hg
 have go5 : ∀ (w3 : World) (r0 : Sl) (e5 : Env), Bank w3 (row pb 16 (setF (fs (s0 :: s1 :: ts)) 0 r0.v) :: nmz r0 1 :: stk K :: (sto s1 :: (ts.map sto ++ (sto zz :: zi :: L)))) → KS w0 w3 z K0 K top → e5.defers = e.defers →
   agree e5 (F76.l5 z.a z.l z.c K0.a x.a x.l x.c y.a y.l y.c k zz.a zz.l zz.c pb 0) → W Tryz.prog 223 F76.p5 e5 w3 Kt := by
  intro w3 r0 e5 b3 ks3 d5 a5
  have hrow : RowAt w3 pb 16 (setF (fs (s0 :: s1 :: ts)) 0 r0.v) := b3.head
  have b4 : Bank w3 (sto s1 :: row pb 16 (setF (fs (s0 :: s1 :: ts)) 0 r0.v) :: nmz r0 1 :: stk K :: (ts.map sto ++ (sto zz :: zi :: L))) := b3.pick 4 [3, 0, 1, 2] rfl
  have hxP : Nz w3 x X := b3.all (nmz x X) (by simp [hx])
  refine F76.t5 z.a z.l z.c K0.a x.a x.l x.c y.a y.l y.c k zz.a zz.l zz.c pb 0 a5 fun B => ⟨1, rfl, by omega, s1.a, s1.l, s1.c, ?_, ?_⟩
  ·rw [hz0, hrow.cell 1 (by omega), setF_ne _ _ (by omega)]; rfl
  refine ResE.pass (c107 s1 x X k w3 b4.head hxP (by unfold Len; omega) (by omega)) fun r1 w4 h4 hf4 hc4 => ⟨_, _, _, rfl, 1, rfl, by omega, ?_⟩
  have b5 := (b4.res (a' := nmz r1 (X % 2 ^ k)) rfl hf4 hc4 h4 rfl).perm (List.Perm.swap _ _ _)
  have hrow4 : RowAt w4 pb 16 (setF (fs (s0 :: s1 :: ts)) 0 r0.v) := b5.head
  simp only [hz0]
  refine ⟨⟨_, hrow4.cell 1 (by omega)⟩, hrow4.fr 1 (by omega), fun B2 => ?_⟩
  have b6 := setRow b5 (i := 1) (by omega) r1.v
  have ks6 := (ks3.one i1 hc4).row (RowAt.set hrow4 (i := 1) (by omega) r1.v).2 hpb
  have b7 : Bank (w4.setCell ⟨pb, 1, none⟩ r1.v) (stk K :: row pb 16 (setF (setF (fs (s0 :: s1 :: ts)) 0 r0.v) 1 r1.v) :: ([nmz r1 (X % 2 ^ k), nmz r0 1] ++ (ts.map sto ++ (sto zz :: zi :: L)))) := b6.pick 4 [3, 0, 1, 2] rfl
  have hlen : ts.length = 14 := by simpa using hps
  refine pows76 (w0 := w0) (z0 := z) (x := x) (X := X) (y := y) (zz := zz) (z := z) b7 hlen (fun j hj => ?_) (fun s hs => hin s (by simp [hs])) (fun j hj => ?_) ks6 hpb (by simp [hx]) hxl hk ht _ _ ⟨rfl, rfl, rfl, rfl, rfl, rfl, rfl, rfl, trivial⟩ fun K' D' g' w7 e7 b8 hD ks7 a7 d7 => ?_
  ·rw [setF_ne _ _ (by omega), setF_ne _ _ (by omega)]
   unfold fs
   rw [show 2 + j = j + 1 + 1 by omega, List.getElem?_cons_succ, List.getElem?_cons_succ, List.getElem?_eq_getElem hj]
  ·rcases (show j = 0 ∨ j = 1 by omega) with rfl | rfl
   ·refine ⟨r0, 1, by rw [setF_ne _ _ (by omega), setF_self], by simp, ?_⟩
    rw [Nat.pow_zero]; exact (Nat.mod_eq_of_lt (Nat.one_lt_two_pow (by omega))).symm
   ·exact ⟨r1, X % 2 ^ k, by rw [setF_self], by simp, by rw [Nat.pow_one]⟩
  ·show W Tryz.prog 223 F76.p7 e7 w7 Kt
   exact p7_76 b8 hzi hz hzs hac hD ks7 hy hyl hy1 hk2 hk ht izz hX e7 ((d7.trans d5).trans hd) Kt a7 hK
 refine F76.t2 z.a z.l z.c K0.a x.a x.l x.c y.a y.l y.c k zz.a zz.l zz.c pb 0 hag fun B B0 => ?_
 have cd : Chg w w.drew none2 := Chg.drew0 w _
 have bd := hb.none cd
 have b1 : Bank w.drew (sto s0 :: stk K :: row pb 16 (fs (s0 :: s1 :: ts)) :: (sto s1 :: (ts.map sto ++ (sto zz :: zi :: L)))) := bd.pick 3 [2, 0, 1] rfl
 have hrowd : RowAt w.drew pb 16 (fs (s0 :: s1 :: ts)) := bd.all (row pb 16 (fs (s0 :: s1 :: ts))) (by simp)
 have go6 : ∀ (w2 : World) (r : Sl), Chg w.drew w2 none2 → Nz w2 r 1 → ∀ {Q : Ending → World → Prop},
   (∀ (r0 : Sl) (w3 : World), Bank w3 (nmz r0 1 :: stk K :: row pb 16 (fs (s0 :: s1 :: ts)) :: (sto s1 :: (ts.map sto ++ (sto zz :: zi :: L)))) → KS w0 w3 z K0 K top → Q (.returned r0.v) w3) → Calls Tryz.prog 60 #[s0.v, r.v] w2 Q := by
  intro w2 r hc hr Q q
  have b2 := b1.none hc
  refine ResE.pass (c60 s0 r 1 w2 b2.head hr (by have := hr.nm 1 (by decide); unfold Len; omega)) fun r0 w3 h3 hf3 hc3 => q r0 w3 (b2.res (a' := nmz r0 1) rfl hf3 hc3 h3 rfl) (((ks.none cd).none hc).one i0 hc3)
 have put : ∀ (r0 : Sl) (w3 : World), Bank w3 (nmz r0 1 :: stk K :: row pb 16 (fs (s0 :: s1 :: ts)) :: (sto s1 :: (ts.map sto ++ (sto zz :: zi :: L)))) → KS w0 w3 z K0 K top →
   (∃ u, World.cell? w3 ⟨pb, 0, none⟩ = some u) ∧ World.frozen? w3 ⟨pb, 0, none⟩ = false ∧ ∀ e5 : Env, e5.defers = e.defers → agree e5 (F76.l5 z.a z.l z.c K0.a x.a x.l x.c y.a y.l y.c k zz.a zz.l zz.c pb 0) → W Tryz.prog 223 F76.p5 e5 (w3.setCell ⟨pb, 0, none⟩ r0.v) Kt := by
  intro r0 w3 b3 ks3
  have b4 : Bank w3 (row pb 16 (fs (s0 :: s1 :: ts)) :: nmz r0 1 :: stk K :: (sto s1 :: (ts.map sto ++ (sto zz :: zi :: L)))) := b3.pick 3 [2, 0, 1] rfl
  have hrow : RowAt w3 pb 16 (fs (s0 :: s1 :: ts)) := b4.head
  exact ⟨⟨_, hrow.cell 0 (by omega)⟩, hrow.fr 0 (by omega), fun e5 d5 a5 => go5 _ r0 e5 (setRow b4 (i := 0) (by omega) r0.v) (ks3.row (RowAt.set hrow (i := 0) (by omega) r0.v).2 hpb) d5 a5⟩
 refine F76.t6 z.a z.l z.c K0.a x.a x.l x.c y.a y.l y.c k zz.a zz.l zz.c pb 0 ⟨rfl, rfl, rfl, rfl, rfl, rfl, rfl, trivial⟩ fun B2 => ⟨0, rfl, by omega, ?_, ?_⟩
 ·simp only [hz0]
  refine ⟨s0.a, s0.l, s0.c, (hrowd.cell 0 (by omega)).trans rfl, (c100 w.drew (cd.glb hg).gb).mono ?_⟩
  rintro e1 w2 ⟨_, rfl, r, rfl, hr, _, hc⟩
  refine ⟨_, _, _, rfl, go6 w2 r hc hr fun r0 w3 b3 ks3 => ?_⟩
  obtain ⟨p1, p2, p3⟩ := put r0 w3 b3 ks3
  exact ⟨_, _, _, rfl, 0, rfl, by omega, p1, p2, p3 _ rfl ⟨rfl, rfl, rfl, rfl, rfl, rfl, rfl, trivial⟩⟩
 ·simp only [hz0]
  refine (c100 w.drew (cd.glb hg).gb).mono ?_
  rintro e1 w2 ⟨_, rfl, r, rfl, hr, _, hc⟩
  have hrow2 : RowAt w2 pb 16 (fs (s0 :: s1 :: ts)) := (bd.none hc).all (row pb 16 (fs (s0 :: s1 :: ts))) (by simp)
  refine ⟨_, _, _, rfl, s0.a, s0.l, s0.c, (hrow2.cell 0 (by omega)).trans rfl, go6 w2 r hc hr fun r0 w3 b3 ks3 => ?_⟩
  obtain ⟨p1, p2, p3⟩ := put r0 w3 b3 ks3
  exact ⟨_, _, _, rfl, 0, rfl, by omega, p1, p2, p3 _ rfl ⟨rfl, rfl, rfl, rfl, rfl, rfl, rfl, trivial⟩⟩
theorem c76 {a : Item} (h : Bank w (stk K :: a :: L)) (ha : a.fp = fp z) (hz : ∀ w', a.P w' → St w' z) (hx : nmz x X ∈ L) (hy : nmz y Y ∈ L) (hX0 : X ≠ 0) (hk1 : 1 ≤ k) (hk : k ≤ 2496) (lx : x.l ≤ 1000000) (ly : y.l ≤ 1000000) (hy1 : 1 < y.l) (hL : K.s.l ≤ 1099511627776) (hg : Glb w) {Q : Ending → World → Prop}
  (q : ∀ (r : Sl) (K' : SK) w', Bank w' (stk K' :: nmz r (X ^ Y % 2 ^ k) :: L) → K'.a = K.a → K'.s.l = K.s.l → Nxt w K K' → Sub w z r → Chg w w' (un (fp z) K.free) → Q (.returned r.v) w') :
  Calls Tryz.prog 76 #[z.v, .pointer K.a, x.v, y.v, .int .u64 (k : Int)] w Q := by
 have hxP : Nz w x X := h.all (nmz x X) (by simp [hx])
 have hyP : Nz w y Y := h.all (nmz y Y) (by simp [hy])
 have hzP : St w z := hz w (h.all a (by simp))
 have hx0 : x.l ≠ 0 := fun h0 => hX0 (Nz.zero hxP.toNt h0)
 have hxc := hxP.lc
 refine (F76.call z.a z.l z.c K.a x.a x.l x.c y.a y.l y.c k w (fun v w' => Q (.returned v) w') fun B => ?_).mono fun e w' ⟨v, h1, h2⟩ => by rw [h1]; exact h2
 refine bc_false (decF (by omega)) fun B1 => F76.t1 z.a z.l z.c K.a x.a x.l x.c y.a y.l y.c k ⟨rfl, rfl, rfl, rfl, rfl, trivial⟩ fun B2 => rdC (k := 0) (hxP.at_ (by omega)) rfl (by omega) (hxP.sg 0 (by omega)) ?_
 have e0 : iAnd .u64 (dg X 0 : Int) 1 = ((dg X 0 % 2 : Nat) : Int) := iAndMask (dg X 0) 1 (by omega) (dg_lt' X 0)
 have d0 : dg X 0 % 2 = X % 2 := by
  have : dg X 0 = X % BB := by simp [dg]
  rw [this, BB_eq]; omega
 rw [e0, d0]
 have word : ∀ (V : Nat), V = X ^ Y % 2 ^ k → V < 18446744073709551616 → Calls Tryz.prog 71 #[z.v, .int .u64 (V : Int)] w fun r_5 w_6 => ∃ x_7a, ∃ x_7l, ∃ x_7c, r_5 = .returned (.slice x_7a x_7l x_7c) ∧ ∀ B_8, retK Tryz.prog [.tmp 10] (fun v w' => Q (.returned v) w') .ret (E [(10, (.slice x_7a x_7l x_7c))] B_8 []) w_6 := by
  intro V hV hVB
  refine ResE.pass (c71 z V w hzP hVB) fun r w1 h1 hf hc => ⟨_, _, _, rfl, fun B3 => ret1 rfl rfl ?_⟩
  have b1 : Bank w (a :: stk K :: L) := h.perm (List.Perm.swap _ _ _)
  have b2 := (b1.res ha hf hc (a' := nmz r V) h1 rfl).perm (List.Perm.swap _ _ _)
  rw [hV] at b2
  exact q r K w1 b2 rfl rfl (Nxt.refl _ _) ((Sub.self w z).from_ hf (Nat.le_refl _)) (hc.l _)
 refine bc_intro (fun hb => ?_) (fun hb => bc_intro (fun hb1 => ?_) (fun hb1 => ?_))
 ·have hev : X % 2 = 0 := by have := eqE hb; omega
  refine word 0 (even_pow_mod hev ?_).symm (by omega)
  have h2 : BB ≤ Y := Nat.le_trans (Nat.le_trans (Nat.le_of_eq (Nat.pow_one BB).symm) (Nat.pow_le_pow_right BB_pos (by omega))) (hyP.nm.le (by omega))
  rw [BB_eq] at h2
  omega
 ·have hod : X % 2 = 1 := by have := eqN hb; omega
  have hk' : k = 1 := by have := eqE hb1; omega
  subst hk'
  refine word 1 ?_ (by omega)
  rw [Nat.pow_one, Nat.pow_mod, hod, Nat.one_pow]
 ·have hod : X % 2 = 1 := by have := eqN hb; omega
  have hk2 : 2 ≤ k := by have := eqN hb1; omega
  refine (c103 w K h.head).mono ?_
  rintro e w1 ⟨_, rfl, rfl, hw⟩
  have hw := hw.symm
  subst hw
  refine ⟨_, rfl, by omega, ?_⟩
  have eW : IntKind.wrap .i64 (iQuo .u64 (IntKind.wrap .u64 ((IntKind.wrap .u64 ((k : Int) + 64)) - 1)) 64) = (((k + 63) / 64 : Nat) : Int) := by
   rw [show ((k : Int) + 64) = ((k + 64 : Nat) : Int) by omega, wrapN _ (by omega), show (((k + 64 : Nat) : Int) - 1) = ((k + 63 : Nat) : Int) by omega, wrapN _ (by omega), quo64 _ (by omega), wrapIN _ (by omega)]
  rw [eW]
  obtain ⟨nw, hnw⟩ : ∃ nw, nw = (k + 63) / 64 := ⟨_, rfl⟩
  rw [← hnw]
  refine take_bank h (by omega) (by omega) fun zz K1 w1 b1 ka1 kl1 kl2 kn1 hs1 hc1 => ⟨_, _, _, rfl, fun B3 => ?_⟩
  have hg1 : Glb w1 := hc1.glb hg
  obtain ⟨b2, c2⟩ := b1.allocRow hg1.gb (#[(Value.slice none 0 0), (Value.slice none 0 0), (Value.slice none 0 0), (Value.slice none 0 0), (Value.slice none 0 0), (Value.slice none 0 0), (Value.slice none 0 0), (Value.slice none 0 0), (Value.slice none 0 0), (Value.slice none 0 0), (Value.slice none 0 0), (Value.slice none 0 0), (Value.slice none 0 0), (Value.slice none 0 0), (Value.slice none 0 0), (Value.slice none 0 0)] : Array Value) 143 16 (fs []) fun i hi => (row16 i hi).trans (by simp [fs])
  have b3 : Bank _ (stk K1 :: row w1.heap.size 16 (fs []) :: (sto zz :: a :: L)) := b2.pick 2 [1, 0] rfl
  have iz1 : In2 w (un (fp z) K.free) zz := fun b i hb hm => .inr (hs1 b i hb hm)
  have ks1 : KS w w1 z K K1 (K.s.l + 100) := ⟨hc1.r _, kn1, ka1, by omega, hg⟩
  have ks2 := ks1.none c2
  have acz : AC w K z K z := ⟨by
   have h1 : Dj K.free (fp z) := by have := h.hdj (b := a) (by simp); rw [ha] at this; exact this
   exact fun i a1 a2 hf => h1.off i a1 a2 hf, Sub.self w z⟩
  refine take76 (w0 := w) (z0 := z) (K0 := K) (x := x) (y := y) (zz := zz) (z := z) (k := k) (nw := nw) b3 ks2 hc1.size (by omega) (by omega) _ _ ⟨rfl, rfl, rfl, rfl, rfl, rfl, rfl, rfl, rfl, trivial⟩ fun K3 ps w3 e3 b4 hps hin ks3 a3 d3 => ?_
  show W Tryz.prog 223 F76.p2 e3 w3 _
  refine p2_76 (w0 := w) (K0 := K) b4 hps hin ha hz hzP acz ks3 hc1.size hx lx hy ly hy1 hk2 hk (by omega) iz1 hod e3 d3 _ a3 fun r K' w' e' hk' hl' ka' kn' hr' hac' hc' g' d' => ?_
  rw [← ka'] at d'
  refine retR1 d' g' hk' hl' fun w4 hk4 hc4 => ?_
  have hoff : OffL K' r := fun i a1 a2 hf => by
   refine hac'.off i a1 (by have := hr'.lc; omega) ?_
   rcases hf with hf | hf | ⟨hf, h1, h2⟩
   ·exact .inl hf
   ·exact .inr (.inl hf)
   ·exact .inr (.inr ⟨hf, by show K'.s.o + K.s.l ≤ i; omega, h2⟩)
  have c04 : Chg w w4 (un (fp z) K.free) := hc'.trans hc4 (fun _ _ _ h => h) fun b i hb hm => .inr (kn'.free hb hm)
  refine q r (K'.cut K.s.l) w4 (fin_bank h ha c04 hk4 kn'.cut (hc4.nz_off hr' hoff) hac'.sub hac'.off) ka' rfl kn'.cut hac'.sub c04
end Go.Proofs.YtlkjiiibmfpbcaaGreatDoor
