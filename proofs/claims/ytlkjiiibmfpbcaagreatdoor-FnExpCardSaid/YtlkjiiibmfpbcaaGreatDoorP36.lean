/- Whole numbers with a sign in memory: a block with the sign and the words; what a change to one leaves. No condition. -/
import Derived.Test.YtlkjiiibmfpbcaaGreatDoorP29
import Derived.Test.YtlkjiiibmfpbcaaGreatDoorP34
import Derived.Test.YtlkjiiibmfpbcaaGreatDoorP21
import Derived.Test.YtlkjiiibmfpbcaaGreatDoorP35
namespace Go.Proofs.YtlkjiiibmfpbcaaGreatDoor
open Go
structure HdrAt (w : World) (p : Nat) (ng : Bool) (s : Sl) : Prop where
 own : Own w p
 c0 : w.cell? ⟨p, 0, none⟩ = some (.bool ng)
 c1 : w.cell? ⟨p, 1, none⟩ = some s.v
 f0 : w.frozen? ⟨p, 0, none⟩ = false
 f1 : w.frozen? ⟨p, 1, none⟩ = false
def blk (p : Nat) : Set2 := fun b _ => b = p
def hdr (p : Nat) (ng : Bool) (s : Sl) : Item where
 fp := blk p
 P w := HdrAt w p ng s
 keep h hc hd := ⟨hc.own h.own, by rw [hc.cell (lt_of_cell h.c0) (hd p 0 rfl)]; exact h.c0, by rw [hc.cell (lt_of_cell h.c1) (hd p 1 rfl)]; exact h.c1, by rw [hc.froz]; exact h.f0, by rw [hc.froz]; exact h.f1⟩
 old h hf := by rw [show _ = _ from hf]; exact plain_lt h.own.2
def ptr (p : Nat) : Option Addr := some ⟨p, 0, none⟩
def iv (ng : Bool) (V : Nat) : Int := if ng then -(V : Int) else V
theorem hset1 {w : World} {p : Nat} {ng : Bool} {s : Sl} {L : List Item} (h : Bank w (hdr p ng s :: L)) (r : Sl) : Bank (w.setCell ⟨p, 1, none⟩ r.v) (hdr p ng r :: L) ∧ Chg w (w.setCell ⟨p, 1, none⟩ r.v) (blk p) := by
 have h0 : HdrAt w p ng s := h.head
 have hc : Chg w (w.setCell ⟨p, 1, none⟩ r.v) (blk p) := Chg.setCell h0.own _ rfl
 refine ⟨h.upd hc (fun _ _ _ h => h) ⟨hc.own h0.own, ?_, World.cell?_setCell_same _ _ _ h0.c1, by rw [hc.froz]; exact h0.f0, by rw [hc.froz]; exact h0.f1⟩ fun _ _ _ h => h, hc⟩
 rw [World.cell?_setCell_other _ _ _ _ (by simp)]; exact h0.c0
theorem hset0 {w : World} {p : Nat} {ng : Bool} {s : Sl} {L : List Item} (h : Bank w (hdr p ng s :: L)) (b : Bool) : Bank (w.setCell ⟨p, 0, none⟩ (.bool b)) (hdr p b s :: L) ∧ Chg w (w.setCell ⟨p, 0, none⟩ (.bool b)) (blk p) := by
 have h0 : HdrAt w p ng s := h.head
 have hc : Chg w (w.setCell ⟨p, 0, none⟩ (.bool b)) (blk p) := Chg.setCell h0.own _ rfl
 refine ⟨h.upd hc (fun _ _ _ h => h) ⟨hc.own h0.own, World.cell?_setCell_same _ _ _ h0.c0, ?_, by rw [hc.froz]; exact h0.f0, by rw [hc.froz]; exact h0.f1⟩ fun _ _ _ h => h, hc⟩
 rw [World.cell?_setCell_other _ _ _ _ (by simp)]; exact h0.c1
def Opd (p : Nat) (ng : Bool) (s : Sl) (V : Nat) (L : List Item) (q : Nat) (nq : Bool) (t : Sl) (U : Nat) : Prop := (q = p ∧ nq = ng ∧ t = s ∧ U = V) ∨ (hdr q nq t ∈ L ∧ nmz t U ∈ L)
section
variable {w : World} {p q : Nat} {ng nq : Bool} {s t r : Sl} {V U : Nat} {L M : List Item}
theorem Opd.self : Opd p ng s V L p ng s V := .inl ⟨rfl, rfl, rfl, rfl⟩
theorem Opd.hdr (h : Opd p ng s V L q nq t U) (hb : Bank w (hdr p ng s :: nmz s V :: L)) : HdrAt w q nq t := by
 rcases h with ⟨rfl, rfl, rfl, rfl⟩ | ⟨h1, _⟩
 ·exact hb.head
 ·exact hb.all (Go.Proofs.YtlkjiiibmfpbcaaGreatDoor.hdr q nq t) (by simp [h1])
theorem Opd.nz (h : Opd p ng s V L q nq t U) (hb : Bank w (Go.Proofs.YtlkjiiibmfpbcaaGreatDoor.hdr p ng s :: nmz s V :: L)) : Nz w t U := by
 rcases h with ⟨rfl, rfl, rfl, rfl⟩ | ⟨_, h1⟩
 ·exact hb.tail.head
 ·exact hb.all (nmz t U) (by simp [h1])
theorem Opd.al (h : Opd p ng s V L q nq t U) (hb : Bank w (Go.Proofs.YtlkjiiibmfpbcaaGreatDoor.hdr p ng s :: nmz s V :: L)) : Al s t := by
 have hz := h.nz hb
 rcases h with ⟨rfl, rfl, rfl, rfl⟩ | ⟨_, h1⟩
 ·exact .inr (.inr (.inr (.inr (.inr ⟨rfl, rfl⟩))))
 ·have d : Dj (fp s) (fp t) := hb.tail.hdj (b := nmz t U) h1
  exact d.al hz.toSt
theorem Opd.neg (h : Opd p ng s V L q nq t U) (hb : Bank w (Go.Proofs.YtlkjiiibmfpbcaaGreatDoor.hdr p ng r :: M)) (hL : ∀ a ∈ L, a ∈ M) : w.cell? ⟨q, 0, none⟩ = some (.bool nq) := by
 rcases h with ⟨rfl, rfl, rfl, rfl⟩ | ⟨h1, _⟩
 ·exact (hb.head : HdrAt w q nq r).c0
 ·exact (hb.all (Go.Proofs.YtlkjiiibmfpbcaaGreatDoor.hdr q nq t) (by simp [hL _ h1]) : HdrAt w q nq t).c0
end
theorem Bank.natres {wd w2 : World} {p : Nat} {ng : Bool} {s r : Sl} {V V' : Nat} {L : List Item} (bd : Bank wd (hdr p ng s :: nmz s V :: L)) (h2 : Nz w2 r V') (f2 : From wd s r) (c2 : Chg wd w2 (fp s)) : Bank w2 (hdr p ng s :: nmz r V' :: L) :=
 ((bd.perm (List.Perm.swap _ _ _)).res (a' := nmz r V') rfl f2 c2 h2 rfl).perm (List.Perm.swap _ _ _)
theorem blt_pos {l : Nat} : decide ((l : Int) > 0) = true ↔ l ≠ 0 := by
 rw [decide_eq_true_iff]; omega
def IQ (w : World) (p : Nat) (s : Sl) (L : List Item) (val : Int) (w' : World) : Prop :=
 ∃ ng' r V', Bank w' (hdr p ng' r :: nmz r V' :: L) ∧ iv ng' V' = val ∧ (V' = 0 → ng' = false) ∧ From w s r ∧ Chg w w' (un (blk p) (fp s))
section
variable {w : World} {p px py : Nat} {ng nx ny : Bool} {s sx sy : Sl} {V X Y : Nat} {L : List Item}
theorem c70 (h : Bank w (hdr p ng s :: nmz s V :: L)) (hx : Opd p ng s V L px nx sx X) (hy : Opd p ng s V L py ny sy Y) (lx : Len sx) (ly : Len sy) :
  Calls Tryz.prog 70 #[.pointer (ptr p), .pointer (ptr px), .pointer (ptr py)] w fun e w' => e = .returned (.pointer (ptr p)) ∧ IQ w p s L (iv nx X + iv ny Y) w' := by
 refine (F70.call (ptr p) (ptr px) (ptr py) w (fun v w' => v = .pointer (ptr p) ∧ IQ w p s L (iv nx X + iv ny Y) w') fun B => ?_).mono fun e w' ⟨v, h1, h2, h3⟩ => ⟨by rw [h1, h2], h3⟩
 have c1 : Chg w w.drew none2 := Chg.drew0 w _
 have c2 : Chg w w.drew.drew none2 := c1.trans' (Chg.drew0 w.drew _)
 have b1 := h.none c1
 have b2 := h.none c2
 have X0 := hx.hdr h; have Y0 := hy.hdr h
 have X1 := hx.hdr b1; have Y1 := hy.hdr b1
 have X2 := hx.hdr b2; have Y2 := hy.hdr b2
 have Z2 : HdrAt w.drew.drew p ng s := b2.head
 have xz := hx.nz b2; have yz := hy.nz b2
 have xa := hx.al b2; have ya := hy.al b2
 have fin : ∀ (wd w2 : World) (r : Sl) (V' : Nat) (neg : Bool) (B : Nat → Value), Chg w wd none2 → Nz w2 r V' → From wd s r → Chg wd w2 (fp s) → (V' ≠ 0 → iv neg V' = iv nx X + iv ny Y) → (V' = 0 → iv nx X + iv ny Y = 0) →
   (∃ u, w2.cell? ⟨p, 0 + 1, none⟩ = some u) ∧ w2.frozen? ⟨p, 0 + 1, none⟩ = false ∧ ∀ B', W Tryz.prog 94 F70.p1 (E [(0, .pointer (ptr p)), (7, .bool neg)] B' []) (w2.setCell ⟨p, 0 + 1, none⟩ r.v) (retK Tryz.prog [.tmp 6] fun v w' => v = .pointer (ptr p) ∧ IQ w p s L (iv nx X + iv ny Y) w') := by
  intro wd w2 r V' neg B cd h2 f2 hc hne h0
  have b3 := (h.none cd).natres h2 f2 hc
  have H3 : HdrAt w2 p ng s := b3.head
  refine ⟨⟨_, H3.c1⟩, H3.f1, fun B' => ?_⟩
  obtain ⟨b4, c4⟩ := hset1 b3 r
  have H4 : HdrAt (w2.setCell ⟨p, 1, none⟩ r.v) p ng r := b4.head
  have rz : Nz (w2.setCell ⟨p, 1, none⟩ r.v) r V' := b4.tail.head
  have ctot : Chg w (w2.setCell ⟨p, 1, none⟩ r.v) (un (blk p) (fp s)) := ((cd.none _).trans' (hc.r _)).trans' (c4.l _)
  refine F70.t1 (ptr p) neg ⟨rfl, rfl, trivial⟩ fun B2 => ⟨p, 0, rfl, r.a, r.l, r.c, H4.c1, bc_intro (fun hb => ?_) (fun hb => ?_)⟩
  ·have hV : V' ≠ 0 := fun hh => (blt_pos.1 hb) ((Nm.zero_iff rz.nm rz.toNt).2 hh)
   obtain ⟨b5, c5⟩ := hset0 b4 neg
   exact ⟨p, 0, rfl, ⟨_, H4.c0⟩, H4.f0, fun B3 => ret1 rfl rfl ⟨rfl, neg, r, V', b5, hne hV, fun hh => absurd hh hV, f2.later cd, ctot.trans' (c5.l _)⟩⟩
  ·have hV : V' = 0 := by
    have : r.l = 0 := by
     rcases Nat.eq_zero_or_pos r.l with h | h
     ·exact h
     ·rw [blt_pos.2 (by omega)] at hb; cases hb
    exact (Nm.zero_iff rz.nm rz.toNt).1 this
   obtain ⟨b5, c5⟩ := hset0 b4 false
   exact ⟨p, 0, rfl, ⟨_, H4.c0⟩, H4.f0, fun B3 => ret1 rfl rfl ⟨rfl, false, r, V', b5, by rw [hV, h0 hV]; rfl, fun _ => rfl, f2.later cd, ctot.trans' (c5.l _)⟩⟩
 refine ⟨px, 0, rfl, nx, X0.c0, px, 0, rfl, nx, X1.c0, py, 0, rfl, ny, Y1.c0, bc_intro (fun hb => ?_) (fun hb => ?_)⟩
 ·have hn : nx = ny := by simpa using hb
  subst hn
  refine ⟨p, 0, rfl, s.a, s.l, s.c, Z2.c1, px, 0, rfl, sx.a, sx.l, sx.c, X2.c1, py, 0, rfl, sy.a, sy.l, sy.c, Y2.c1, ResE.pass (c101 s sx sy X Y _ (b2.tail.head : Nz _ s V).toSt xz yz xa.sep ya.sep lx ly) fun r w2 h2 f2 hc => ⟨_, _, _, rfl, p, 0, rfl, fin _ w2 r (X + Y) nx B c2 h2 f2 hc (fun _ => ?_) fun _ => ?_⟩⟩
  ·cases nx <;> simp [iv] <;> omega
  ·cases nx <;> simp [iv] <;> omega
 ·have hn : nx ≠ ny := by simpa using hb
  refine ⟨px, 0, rfl, sx.a, sx.l, sx.c, X2.c1, py, 0, rfl, sy.a, sy.l, sy.c, Y2.c1, (c92 sx sy X Y _ xz yz).mono ?_⟩
  rintro e w3 ⟨_, rfl, rfl, hc3⟩
  have c4 : Chg w w3.drew none2 := (c2.trans' hc3).trans' (Chg.drew0 w3 _)
  have b4 := h.none c4
  have X4 := hx.hdr b4; have Y4 := hy.hdr b4
  have Z4 : HdrAt w3.drew p ng s := b4.head
  have xz4 := hx.nz b4; have yz4 := hy.nz b4
  refine ⟨_, rfl, bc_intro (fun hb' => ?_) (fun hb' => ?_)⟩
  ·have hge : Y ≤ X := by
    have := dT hb'
    unfold sgn at this
    rcases Nat.lt_or_ge X Y with h1 | h1
    ·rw [if_pos h1] at this; omega
    ·exact h1
   refine ⟨p, 0, rfl, s.a, s.l, s.c, Z4.c1, px, 0, rfl, sx.a, sx.l, sx.c, X4.c1, py, 0, rfl, sy.a, sy.l, sy.c, Y4.c1, ResE.pass (c52 s sx sy X Y _ (b4.tail.head : Nz _ s V).toSt xz4 yz4 (hx.al b4).sep (hy.al b4).sep lx hge) fun r w2 h2 f2 hc => ⟨_, _, _, rfl, p, 0, rfl, fin _ w2 r (X - Y) nx B c4 h2 f2 hc (fun _ => ?_) fun _ => ?_⟩⟩
   ·cases nx <;> cases ny <;> simp [iv] at hn ⊢ <;> omega
   ·cases nx <;> cases ny <;> simp [iv] at hn ⊢ <;> omega
  ·have hlt : X < Y := by
    have := dF hb'
    unfold sgn at this
    rcases Nat.lt_or_ge X Y with h1 | h1
    ·exact h1
    ·rw [if_neg (by omega)] at this
     split at this <;> omega
   refine ⟨p, 0, rfl, s.a, s.l, s.c, Z4.c1, py, 0, rfl, sy.a, sy.l, sy.c, Y4.c1, px, 0, rfl, sx.a, sx.l, sx.c, X4.c1, ResE.pass (c52 s sy sx Y X _ (b4.tail.head : Nz _ s V).toSt yz4 xz4 (hy.al b4).sep (hx.al b4).sep ly (by omega)) fun r w2 h2 f2 hc => ⟨_, _, _, rfl, p, 0, rfl, fin _ w2 r (Y - X) (!nx) B c4 h2 f2 hc (fun _ => ?_) fun _ => ?_⟩⟩
   ·cases nx <;> cases ny <;> simp [iv] at hn ⊢ <;> omega
   ·cases nx <;> cases ny <;> simp [iv] at hn ⊢ <;> omega
end
end Go.Proofs.YtlkjiiibmfpbcaaGreatDoor
namespace Go.Proofs.YtlkjiiibmfpbcaaGreatDoor
open Go
section
variable {w : World} {p px py : Nat} {ng nx ny : Bool} {s sx sy : Sl} {V X Y : Nat} {L : List Item}
theorem c97 (h : Bank w (hdr p ng s :: nmz s V :: L)) (hx : Opd p ng s V L px nx sx X) (hy : Opd p ng s V L py ny sy Y) (lx : Len sx) (ly : Len sy) :
  Calls Tryz.prog 97 #[.pointer (ptr p), .pointer (ptr px), .pointer (ptr py)] w fun e w' => e = .returned (.pointer (ptr p)) ∧ IQ w p s L (iv nx X - iv ny Y) w' := by
 refine (F97.call (ptr p) (ptr px) (ptr py) w (fun v w' => v = .pointer (ptr p) ∧ IQ w p s L (iv nx X - iv ny Y) w') fun B => ?_).mono fun e w' ⟨v, h1, h2, h3⟩ => ⟨by rw [h1, h2], h3⟩
 have c1 : Chg w w.drew none2 := Chg.drew0 w _
 have c2 : Chg w w.drew.drew none2 := c1.trans' (Chg.drew0 w.drew _)
 have b1 := h.none c1
 have b2 := h.none c2
 have X0 := hx.hdr h; have Y0 := hy.hdr h
 have X1 := hx.hdr b1; have Y1 := hy.hdr b1
 have X2 := hx.hdr b2; have Y2 := hy.hdr b2
 have Z2 : HdrAt w.drew.drew p ng s := b2.head
 have xz := hx.nz b2; have yz := hy.nz b2
 have xa := hx.al b2; have ya := hy.al b2
 have fin : ∀ (wd w2 : World) (r : Sl) (V' : Nat) (neg : Bool) (B : Nat → Value), Chg w wd none2 → Nz w2 r V' → From wd s r → Chg wd w2 (fp s) → (V' ≠ 0 → iv neg V' = iv nx X - iv ny Y) → (V' = 0 → iv nx X - iv ny Y = 0) →
   (∃ u, w2.cell? ⟨p, 0 + 1, none⟩ = some u) ∧ w2.frozen? ⟨p, 0 + 1, none⟩ = false ∧ ∀ B', W Tryz.prog 94 F97.p1 (E [(0, .pointer (ptr p)), (7, .bool neg)] B' []) (w2.setCell ⟨p, 0 + 1, none⟩ r.v) (retK Tryz.prog [.tmp 6] fun v w' => v = .pointer (ptr p) ∧ IQ w p s L (iv nx X - iv ny Y) w') := by
  intro wd w2 r V' neg B cd h2 f2 hc hne h0
  have b3 := (h.none cd).natres h2 f2 hc
  have H3 : HdrAt w2 p ng s := b3.head
  refine ⟨⟨_, H3.c1⟩, H3.f1, fun B' => ?_⟩
  obtain ⟨b4, c4⟩ := hset1 b3 r
  have H4 : HdrAt (w2.setCell ⟨p, 1, none⟩ r.v) p ng r := b4.head
  have rz : Nz (w2.setCell ⟨p, 1, none⟩ r.v) r V' := b4.tail.head
  have ctot : Chg w (w2.setCell ⟨p, 1, none⟩ r.v) (un (blk p) (fp s)) := ((cd.none _).trans' (hc.r _)).trans' (c4.l _)
  refine F97.t1 (ptr p) neg ⟨rfl, rfl, trivial⟩ fun B2 => ⟨p, 0, rfl, r.a, r.l, r.c, H4.c1, bc_intro (fun hb => ?_) (fun hb => ?_)⟩
  ·have hV : V' ≠ 0 := fun hh => (blt_pos.1 hb) ((Nm.zero_iff rz.nm rz.toNt).2 hh)
   obtain ⟨b5, c5⟩ := hset0 b4 neg
   exact ⟨p, 0, rfl, ⟨_, H4.c0⟩, H4.f0, fun B3 => ret1 rfl rfl ⟨rfl, neg, r, V', b5, hne hV, fun hh => absurd hh hV, f2.later cd, ctot.trans' (c5.l _)⟩⟩
  ·have hV : V' = 0 := by
    have : r.l = 0 := by
     rcases Nat.eq_zero_or_pos r.l with h | h
     ·exact h
     ·rw [blt_pos.2 (by omega)] at hb; cases hb
    exact (Nm.zero_iff rz.nm rz.toNt).1 this
   obtain ⟨b5, c5⟩ := hset0 b4 false
   exact ⟨p, 0, rfl, ⟨_, H4.c0⟩, H4.f0, fun B3 => ret1 rfl rfl ⟨rfl, false, r, V', b5, by rw [hV, h0 hV]; rfl, fun _ => rfl, f2.later cd, ctot.trans' (c5.l _)⟩⟩
 refine ⟨px, 0, rfl, nx, X0.c0, px, 0, rfl, nx, X1.c0, py, 0, rfl, ny, Y1.c0, bc_intro (fun hb => ?_) (fun hb => ?_)⟩
 ·have hn : nx ≠ ny := by simpa using hb
  refine ⟨p, 0, rfl, s.a, s.l, s.c, Z2.c1, px, 0, rfl, sx.a, sx.l, sx.c, X2.c1, py, 0, rfl, sy.a, sy.l, sy.c, Y2.c1, ResE.pass (c101 s sx sy X Y _ (b2.tail.head : Nz _ s V).toSt xz yz xa.sep ya.sep lx ly) fun r w2 h2 f2 hc => ⟨_, _, _, rfl, p, 0, rfl, fin _ w2 r (X + Y) nx B c2 h2 f2 hc (fun _ => ?_) fun _ => ?_⟩⟩
  ·cases nx <;> cases ny <;> simp [iv] at hn ⊢ <;> omega
  ·cases nx <;> cases ny <;> simp [iv] at hn ⊢ <;> omega
 ·have hn : nx = ny := by simpa using hb
  refine ⟨px, 0, rfl, sx.a, sx.l, sx.c, X2.c1, py, 0, rfl, sy.a, sy.l, sy.c, Y2.c1, (c92 sx sy X Y _ xz yz).mono ?_⟩
  rintro e w3 ⟨_, rfl, rfl, hc3⟩
  have c4 : Chg w w3.drew none2 := (c2.trans' hc3).trans' (Chg.drew0 w3 _)
  have b4 := h.none c4
  have X4 := hx.hdr b4; have Y4 := hy.hdr b4
  have Z4 : HdrAt w3.drew p ng s := b4.head
  have xz4 := hx.nz b4; have yz4 := hy.nz b4
  refine ⟨_, rfl, bc_intro (fun hb' => ?_) (fun hb' => ?_)⟩
  ·have hge : Y ≤ X := by
    have := dT hb'
    unfold sgn at this
    rcases Nat.lt_or_ge X Y with h1 | h1
    ·rw [if_pos h1] at this; omega
    ·exact h1
   refine ⟨p, 0, rfl, s.a, s.l, s.c, Z4.c1, px, 0, rfl, sx.a, sx.l, sx.c, X4.c1, py, 0, rfl, sy.a, sy.l, sy.c, Y4.c1, ResE.pass (c52 s sx sy X Y _ (b4.tail.head : Nz _ s V).toSt xz4 yz4 (hx.al b4).sep (hy.al b4).sep lx hge) fun r w2 h2 f2 hc => ⟨_, _, _, rfl, p, 0, rfl, fin _ w2 r (X - Y) nx B c4 h2 f2 hc (fun _ => ?_) fun _ => ?_⟩⟩
   ·cases nx <;> cases ny <;> simp [iv] at hn ⊢ <;> omega
   ·cases nx <;> cases ny <;> simp [iv] at hn ⊢ <;> omega
  ·have hlt : X < Y := by
    have := dF hb'
    unfold sgn at this
    rcases Nat.lt_or_ge X Y with h1 | h1
    ·exact h1
    ·rw [if_neg (by omega)] at this
     split at this <;> omega
   refine ⟨p, 0, rfl, s.a, s.l, s.c, Z4.c1, py, 0, rfl, sy.a, sy.l, sy.c, Y4.c1, px, 0, rfl, sx.a, sx.l, sx.c, X4.c1, ResE.pass (c52 s sy sx Y X _ (b4.tail.head : Nz _ s V).toSt yz4 xz4 (hy.al b4).sep (hx.al b4).sep ly (by omega)) fun r w2 h2 f2 hc => ⟨_, _, _, rfl, p, 0, rfl, fin _ w2 r (Y - X) (!nx) B c4 h2 f2 hc (fun _ => ?_) fun _ => ?_⟩⟩
   ·cases nx <;> cases ny <;> simp [iv] at hn ⊢ <;> omega
   ·cases nx <;> cases ny <;> simp [iv] at hn ⊢ <;> omega
theorem ptrSame (w : World) (p : Nat) : ptrEq w (ptr p) (ptr p) true := .inl ⟨rfl, by simp⟩
theorem ptrDiff {w : World} {p q : Nat} (hp : plainAt w p) (hq : plainAt w q) (h : p ≠ q) : ptrEq w (ptr p) (ptr q) false := .inr ⟨h, hp, hq, rfl⟩
theorem HdrAt.ne {w : World} {p q : Nat} {ng nq : Bool} {s t : Sl} {L : List Item} (h : Bank w (hdr p ng s :: L)) (hq : hdr q nq t ∈ L) : p ≠ q := fun e => by
 subst e
 exact h.hdj hq p 0 rfl rfl
theorem c135 (h : Bank w (hdr p ng s :: nmz s V :: L)) (hx : Opd p ng s V L px nx sx X) (lx : Len sx) (neg : Bool) {k : Nat} (hk : k < 18446744073709551616) :
  Calls Tryz.prog 135 #[.pointer (ptr p), .pointer (ptr px), .bool neg, .int .u64 (k : Int)] w fun e w' => e = .returned undef ∧ ∃ r, Bank w' (hdr p (nx != neg) r :: nmz r (X * k) :: L) ∧ From w s r ∧ Chg w w' (un (blk p) (fp s)) := by
 refine (F135.call (ptr p) (ptr px) neg k w (fun v w' => v = undef ∧ ∃ r, Bank w' (hdr p (nx != neg) r :: nmz r (X * k) :: L) ∧ From w s r ∧ Chg w w' (un (blk p) (fp s))) fun B => ?_).mono fun e w' ⟨v, h1, h2, h3⟩ => ⟨by rw [h1, h2], h3⟩
 have c1 : Chg w w.drew none2 := Chg.drew0 w _
 have b1 := h.none c1
 have X1 := hx.hdr b1
 have Z1 : HdrAt w.drew p ng s := b1.head
 refine ⟨p, 0, rfl, s.a, s.l, s.c, Z1.c1, px, 0, rfl, sx.a, sx.l, sx.c, X1.c1, ResE.pass (c117 s sx X k 0 w.drew (b1.tail.head : Nz _ s V).toSt (hx.nz b1) (hx.al b1).sep lx hk (by omega)) fun r w2 h2 f2 c2 => ⟨_, _, _, rfl, p, 0, rfl, ?_⟩⟩
 have b3 := b1.natres h2 f2 c2
 have H3 : HdrAt w2 p ng s := b3.head
 obtain ⟨b4, c4⟩ := hset1 b3 r
 have H4 : HdrAt (w2.setCell ⟨p, 1, none⟩ r.v) p ng r := b4.head
 refine ⟨⟨_, H3.c1⟩, H3.f1, px, 0, rfl, nx, hx.neg b4 (fun a ha => List.mem_cons_of_mem _ ha), p, 0, rfl, ⟨_, H4.c0⟩, H4.f0, fun B2 => ret0 rfl ⟨rfl, r, ?_, f2.later c1, ?_⟩⟩
 ·obtain ⟨b5, c5⟩ := hset0 b4 (nx != neg)
  exact b5
 ·exact ((c1.none _).trans' (c2.r _)).trans' ((c4.trans' (hset0 b4 (nx != neg)).2).l _)
theorem c149 (h : Bank w (hdr p ng s :: nmz s V :: L)) (hx : Opd p ng s V L px nx sx X) (hy : Opd p ng s V L py ny sy Y) (hne : px ≠ py) (lx : Len sx) (ly : Len sy) (hs : sx.l < 40 ∨ sy.l < 40) (hg : Glb w) (stk : Option Addr) :
  Calls Tryz.prog 149 #[.pointer (ptr p), .pointer stk, .pointer (ptr px), .pointer (ptr py)] w fun e w' => e = .returned undef ∧ IQ w p s L (iv nx X * iv ny Y) w' := by
 refine (F149.call (ptr p) stk (ptr px) (ptr py) w (fun v w' => v = undef ∧ IQ w p s L (iv nx X * iv ny Y) w') fun B => ?_).mono fun e w' ⟨v, h1, h2, h3⟩ => ⟨by rw [h1, h2], h3⟩
 have c1 : Chg w w.drew none2 := Chg.drew0 w _
 have b1 := h.none c1
 have X0 := hx.hdr h
 have Y0 := hy.hdr h
 have X1 := hx.hdr b1
 have Y1 := hy.hdr b1
 have Z1 : HdrAt w.drew p ng s := b1.head
 refine ⟨false, ptrDiff X0.own.2 Y0.own.2 hne, bc_false rfl ⟨p, 0, rfl, s.a, s.l, s.c, Z1.c1, px, 0, rfl, sx.a, sx.l, sx.c, X1.c1, py, 0, rfl, sy.a, sy.l, sy.c, Y1.c1, ResE.pass (c80 s sx sy X Y stk w.drew (b1.tail.head : Nz _ s V).toSt (hx.nz b1) (hy.nz b1) (hx.al b1) (hy.al b1) lx ly hs (c1.glb hg)) fun r w2 h2 f2 c2 => ⟨_, _, _, rfl, p, 0, rfl, ?_⟩⟩⟩
 have b3 := b1.natres h2 f2 c2
 have H3 : HdrAt w2 p ng s := b3.head
 obtain ⟨b4, c4⟩ := hset1 b3 r
 have c5 : Chg (w2.setCell ⟨p, 1, none⟩ r.v) (w2.setCell ⟨p, 1, none⟩ r.v).drew none2 := Chg.drew0 _ _
 have b5 := b4.none c5
 have H5 : HdrAt (w2.setCell ⟨p, 1, none⟩ r.v).drew p ng r := b5.head
 have rz : Nz (w2.setCell ⟨p, 1, none⟩ r.v).drew r (X * Y) := b5.tail.head
 have ctot : Chg w (w2.setCell ⟨p, 1, none⟩ r.v).drew (un (blk p) (fp s)) := (((c1.none _).trans' (c2.r _)).trans' (c4.l _)).trans' (c5.none _)
 refine ⟨⟨_, H3.c1⟩, H3.f1, p, 0, rfl, r.a, r.l, r.c, H5.c1, bc_intro (fun hb => ?_) (fun hb => ?_)⟩
 ·have hV : X * Y ≠ 0 := fun hh => (blt_pos.1 hb) ((Nm.zero_iff rz.nm rz.toNt).2 hh)
  obtain ⟨b6, c6⟩ := hset0 b5 (!(nx == ny))
  refine ⟨px, 0, rfl, nx, hx.neg b5 (fun a ha => List.mem_cons_of_mem _ ha), py, 0, rfl, ny, hy.neg b5 (fun a ha => List.mem_cons_of_mem _ ha), p, 0, rfl, ⟨_, H5.c0⟩, H5.f0, fun B3 => ret0 rfl ⟨rfl, _, r, _, b6, ?_, fun hh => absurd hh hV, f2.later c1, ctot.trans' (c6.l _)⟩⟩
  cases nx <;> cases ny <;> simp [iv, Int.neg_mul, Int.mul_neg]
 ·have hV : X * Y = 0 := by
   have : r.l = 0 := by
    rcases Nat.eq_zero_or_pos r.l with h | h
    ·exact h
    ·rw [blt_pos.2 (by omega)] at hb; cases hb
   exact (Nm.zero_iff rz.nm rz.toNt).1 this
  obtain ⟨b6, c6⟩ := hset0 b5 false
  refine ⟨p, 0, rfl, ⟨_, H5.c0⟩, H5.f0, fun B3 => ret0 rfl ⟨rfl, _, r, _, b6, ?_, fun _ => rfl, f2.later c1, ctot.trans' (c6.l _)⟩⟩
  rw [hV]
  have hXY : (X : Int) * Y = 0 := by rw [← Int.natCast_mul, hV]; rfl
  cases nx <;> cases ny <;> simp [iv, Int.neg_mul, Int.mul_neg, hXY]
theorem c136 (h : Bank w (hdr p ng s :: nmz s V :: L)) (hx : Opd p ng s V L px nx sx X) (hy : Opd p ng s V L py ny sy Y) (hne : px ≠ py) (lx : Len sx) (ly : Len sy) (hs : sx.l < 40 ∨ sy.l < 40) (hg : Glb w) :
  Calls Tryz.prog 136 #[.pointer (ptr p), .pointer (ptr px), .pointer (ptr py)] w fun e w' => e = .returned (.pointer (ptr p)) ∧ IQ w p s L (iv nx X * iv ny Y) w' := by
 refine (F136.call (ptr p) (ptr px) (ptr py) w (fun v w' => v = .pointer (ptr p) ∧ IQ w p s L (iv nx X * iv ny Y) w') fun B => ?_).mono fun e w' ⟨v, h1, h2, h3⟩ => ⟨by rw [h1, h2], h3⟩
 refine (c149 h hx hy hne lx ly hs hg none).mono ?_
 rintro e w2 ⟨rfl, h2⟩
 exact ⟨rfl, fun B2 => ret1 rfl rfl ⟨rfl, h2⟩⟩
theorem c50 (h : Bank w (hdr p ng s :: nmz s V :: L)) (hx1 : hdr px nx sx ∈ L) (hx2 : nmz sx X ∈ L) (lx : Len sx) :
  Calls Tryz.prog 50 #[.pointer (ptr p), .pointer (ptr px)] w fun e w' => e = .returned (.pointer (ptr p)) ∧ ∃ r, Bank w' (hdr p nx r :: nmz r X :: L) ∧ From w s r ∧ Chg w w' (un (blk p) (fp s)) := by
 refine (F50.call (ptr p) (ptr px) w (fun v w' => v = .pointer (ptr p) ∧ ∃ r, Bank w' (hdr p nx r :: nmz r X :: L) ∧ From w s r ∧ Chg w w' (un (blk p) (fp s))) fun B => ?_).mono fun e w' ⟨v, h1, h2, h3⟩ => ⟨by rw [h1, h2], h3⟩
 have hx : Opd p ng s V L px nx sx X := .inr ⟨hx1, hx2⟩
 have c1 : Chg w w.drew none2 := Chg.drew0 w _
 have b1 := h.none c1
 have Z0 : HdrAt w p ng s := h.head
 have Z1 : HdrAt w.drew p ng s := b1.head
 have X1 := hx.hdr b1
 refine ⟨false, ptrDiff Z0.own.2 (hx.hdr h).own.2 (HdrAt.ne (nq := nx) (t := sx) h (by simp [hx1])), bc_true rfl ⟨p, 0, rfl, s.a, s.l, s.c, Z1.c1, px, 0, rfl, sx.a, sx.l, sx.c, X1.c1, ResE.pass (c60 s sx X w.drew (b1.tail.head : Nz _ s V).toSt (hx.nz b1) lx) fun r w2 h2 f2 c2 => ⟨_, _, _, rfl, p, 0, rfl, ?_⟩⟩⟩
 have b3 := b1.natres h2 f2 c2
 have H3 : HdrAt w2 p ng s := b3.head
 obtain ⟨b4, c4⟩ := hset1 b3 r
 have H4 : HdrAt (w2.setCell ⟨p, 1, none⟩ r.v) p ng r := b4.head
 obtain ⟨b5, c5⟩ := hset0 b4 nx
 exact ⟨⟨_, H3.c1⟩, H3.f1, px, 0, rfl, nx, hx.neg b4 (fun a ha => List.mem_cons_of_mem _ ha), p, 0, rfl, ⟨_, H4.c0⟩, H4.f0, fun B2 => F50.t1 (ptr p) ⟨rfl, trivial⟩ fun B3 B4 => ret1 rfl rfl ⟨rfl, r, b5, f2.later c1, ((c1.none _).trans' (c2.r _)).trans' ((c4.trans' c5).l _)⟩⟩
theorem c131 (h : Bank w (hdr p ng s :: nmz s V :: L)) (hx1 : hdr px nx sx ∈ L) (hx2 : nmz sx X ∈ L) (lx : Len sx) :
  Calls Tryz.prog 131 #[.pointer (ptr p), .pointer (ptr px)] w fun e w' => e = .returned (.pointer (ptr p)) ∧ ∃ r, Bank w' (hdr p false r :: nmz r X :: L) ∧ From w s r ∧ Chg w w' (un (blk p) (fp s)) := by
 refine (F131.call (ptr p) (ptr px) w (fun v w' => v = .pointer (ptr p) ∧ ∃ r, Bank w' (hdr p false r :: nmz r X :: L) ∧ From w s r ∧ Chg w w' (un (blk p) (fp s))) fun B => ?_).mono fun e w' ⟨v, h1, h2, h3⟩ => ⟨by rw [h1, h2], h3⟩
 refine (c50 h hx1 hx2 lx).mono ?_
 rintro e w2 ⟨rfl, r, b2, f2, c2⟩
 have H2 : HdrAt w2 p nx r := b2.head
 obtain ⟨b3, c3⟩ := hset0 b2 false
 exact ⟨_, rfl, p, 0, rfl, ⟨_, H2.c0⟩, H2.f0, fun B2 => ret1 rfl rfl ⟨rfl, r, b3, f2, c2.trans' (c3.l _)⟩⟩
theorem c47 (h : Bank w (hdr p ng s :: nmz s V :: L)) :
  Calls Tryz.prog 47 #[.pointer (ptr p), .int .i64 1] w fun e w' => e = .returned (.pointer (ptr p)) ∧ ∃ r, Bank w' (hdr p false r :: nmz r 1 :: L) ∧ From w s r ∧ Chg w w' (un (blk p) (fp s)) := by
 refine (F47.call (ptr p) 1 w (fun v w' => v = .pointer (ptr p) ∧ ∃ r, Bank w' (hdr p false r :: nmz r 1 :: L) ∧ From w s r ∧ Chg w w' (un (blk p) (fp s))) fun B => ?_).mono fun e w' ⟨v, h1, h2, h3⟩ => ⟨by rw [h1, h2], h3⟩
 have Z0 : HdrAt w p ng s := h.head
 refine bc_false (decF (by omega)) fun B1 => F47.t1 (ptr p) 1 false ⟨rfl, rfl, rfl, trivial⟩ fun B2 => ⟨p, 0, rfl, s.a, s.l, s.c, Z0.c1, ?_⟩
 rw [show IntKind.wrap .u64 1 = ((1 : Nat) : Int) from wrapN 1 (by omega)]
 refine ResE.pass (c64 s 1 w (h.tail.head : Nz _ s V).toSt (by omega)) fun r w2 h2 f2 c2 => ⟨_, _, _, rfl, p, 0, rfl, ?_⟩
 have b3 := h.natres h2 f2 c2
 have H3 : HdrAt w2 p ng s := b3.head
 obtain ⟨b4, c4⟩ := hset1 b3 r
 have H4 : HdrAt (w2.setCell ⟨p, 1, none⟩ r.v) p ng r := b4.head
 obtain ⟨b5, c5⟩ := hset0 b4 false
 exact ⟨⟨_, H3.c1⟩, H3.f1, p, 0, rfl, ⟨_, H4.c0⟩, H4.f0, fun B2 => ret1 rfl rfl ⟨rfl, r, b5, f2, (c2.r _).trans' ((c4.trans' c5).l _)⟩⟩
theorem newInt (h : Bank w L) (hg : GB ≤ w.heap.size) (ng : Bool) (s : Sl) : Bank (w.alloc (.cells #[.bool ng, s.v] 47)) (hdr w.heap.size ng s :: L) ∧ Chg w (w.alloc (.cells #[.bool ng, s.v] 47)) none2 := by
 have hh : (w.alloc (.cells #[.bool ng, s.v] 47)).heap[w.heap.size]? = some (.cells #[.bool ng, s.v] 47 (0, 0)) := heap_alloc_new ..
 have hc : Chg w (w.alloc (.cells #[.bool ng, s.v] 47)) none2 := Chg.alloc _ _ (fun a => RowKit.frozen?_alloc_cells _ _ _ _) _
 refine ⟨h.new hc ⟨⟨hg, _, _, hh⟩, by rw [cell_eq, hh]; rfl, by rw [cell_eq, hh]; rfl, by rw [frozen_eq, hh]; rfl, by rw [frozen_eq, hh]; rfl⟩ fun _ _ hm => Nat.le_of_eq (Eq.symm hm), hc⟩
theorem c69 (h : Bank w L) (hg : GB ≤ w.heap.size) : Calls Tryz.prog 69 #[] w fun e w' => ∃ q r, e = .returned (.pointer (ptr q)) ∧ Bank w' (hdr q false r :: nmz r 1 :: L) ∧ Chg w w' none2 := by
 refine (F69.call w (fun v w' => ∃ q r, v = .pointer (ptr q) ∧ Bank w' (hdr q false r :: nmz r 1 :: L) ∧ Chg w w' none2) fun B => ?_).mono fun e w' ⟨v, h1, q, r, h2, h3⟩ => ⟨q, r, by rw [h1, h2], h3⟩
 refine (c100 w hg).mono ?_
 rintro e w2 ⟨_, rfl, r, rfl, hr, hnew, hc⟩
 have b2 : Bank w2 (nmz r 1 :: L) := h.new hc hr fun b i hm => by rw [hm.1]; exact hnew
 obtain ⟨b3, c3⟩ := newInt b2 (Nat.le_trans hg hc.size) false r
 exact ⟨_, _, _, rfl, fun B2 => ret1 rfl rfl ⟨w2.heap.size, r, rfl, b3, hc.trans' c3⟩⟩
theorem c68 (h : Bank w L) (hx1 : hdr px false sx ∈ L) (hx2 : nmz sx X ∈ L) (hy1 : hdr py false sy ∈ L) (hy2 : nmz sy Y ∈ L) (hne : px ≠ py) :
  Calls Tryz.prog 68 #[.pointer (ptr px), .pointer (ptr py)] w fun e w' => e = .returned (.int .i64 (sgn X Y)) ∧ Chg w w' none2 := by
 refine (F68.call (ptr px) (ptr py) w (fun v w' => v = .int .i64 (sgn X Y) ∧ Chg w w' none2) fun B => ?_).mono fun e w' ⟨v, h1, h2, h3⟩ => ⟨by rw [h1, h2], h3⟩
 have c1 : Chg w w.drew none2 := Chg.drew0 w _
 have c2 : Chg w w.drew.drew none2 := c1.trans' (Chg.drew0 w.drew _)
 have b1 := h.none c1
 have b2 := h.none c2
 have X0 : HdrAt w px false sx := h.all _ hx1
 have Y0 : HdrAt w py false sy := h.all _ hy1
 have X1 : HdrAt w.drew px false sx := b1.all _ hx1
 have Y1 : HdrAt w.drew py false sy := b1.all _ hy1
 have X2 : HdrAt w.drew.drew px false sx := b2.all _ hx1
 have Y2 : HdrAt w.drew.drew py false sy := b2.all _ hy1
 refine ⟨false, ptrDiff X0.own.2 Y0.own.2 hne, bc_false rfl ⟨px, 0, rfl, false, X1.c0, py, 0, rfl, false, Y1.c0, bc_true rfl ⟨px, 0, rfl, sx.a, sx.l, sx.c, X2.c1, py, 0, rfl, sy.a, sy.l, sy.c, Y2.c1, (c92 sx sy X Y _ (b2.all _ hx2) (b2.all _ hy2)).mono ?_⟩⟩⟩
 rintro e w3 ⟨_, rfl, rfl, hc⟩
 have X3 : HdrAt w3 px false sx := (b2.none hc).all _ hx1
 exact ⟨_, rfl, px, 0, rfl, false, X3.c0, bc_false rfl fun B2 => F68.t1 _ ⟨rfl, trivial⟩ fun B3 B4 => ret1 rfl rfl ⟨rfl, c2.trans' hc⟩⟩
end
end Go.Proofs.YtlkjiiibmfpbcaaGreatDoor
