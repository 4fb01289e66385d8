/- Contracts: products of numbers, the school way. Conditions: one factor has fewer than 40 words; storage that overlaps a factor ends where the factor's storage ends. -/
import Derived.Test.YtlkjiiibmfpbcaaGreatDoorR15
import Derived.Test.YtlkjiiibmfpbcaaGreatDoorR16
namespace Go.Proofs.YtlkjiiibmfpbcaaGreatDoor
open Go
structure Glb (w : World) : Prop where
 tabs : Tabs w
 t3 : w.cell? ⟨3, 0, none⟩ = some (.int .i64 12)
 t4 : w.cell? ⟨4, 0, none⟩ = some (.int .i64 80)
 t5 : w.cell? ⟨5, 0, none⟩ = some (.int .i64 40)
 t10 : w.cell? ⟨10, 0, none⟩ = some (.int .i64 40)
theorem chgVar {w w' : World} {S : Set2} (h : Chg w w' S) {b i : Nat} {v : Value} (hv : w.cell? ⟨b, i, none⟩ = some v) (hb : b < GB) : w'.cell? ⟨b, i, none⟩ = some v := by
 rw [cell_eq, h.glob b hb (lt_of_cell hv), ← cell_eq]; exact hv
theorem Chg.glb {w w' : World} {S : Set2} (h : Chg w w' S) (hg : Glb w) : Glb w' :=
 ⟨h.tabs hg.tabs, chgVar h hg.t3 (by decide), chgVar h hg.t4 (by decide), chgVar h hg.t5 (by decide), chgVar h hg.t10 (by decide)⟩
theorem Glb.gb {w : World} (h : Glb w) : GB ≤ w.heap.size := by have := lt_of_cell h.t10; unfold GB; omega
def Dis (z : Sl) (n : Nat) (x : Sl) : Prop := x.l = 0 ∨ x.b ≠ z.b ∨ x.o + x.l ≤ z.o ∨ z.o + n ≤ x.o
theorem Dis.not {z x : Sl} {n : Nat} (h : Dis z n x) {lo hi i : Nat} (h1 : z.o ≤ lo) (h2 : hi ≤ z.o + n) (hi' : i < x.l) : ¬ inR z.b lo hi x.b (x.o + i) := by
 rintro ⟨e1, e2, e3⟩; unfold Dis at h; omega
theorem mod_lt_mul {X Y i n : Nat} (hX : X < BB ^ n) : X * (Y % BB ^ i) < BB ^ (n + i) := by
 have h1 := Nat.mod_lt Y (BBpow_pos i)
 rw [Nat.pow_add]
 rcases Nat.eq_zero_or_pos X with h | h
 ·subst h; rw [Nat.zero_mul]; exact Nat.mul_pos (BBpow_pos n) (BBpow_pos i)
 ·exact Nat.mul_lt_mul_of_lt_of_le hX (Nat.le_of_lt h1) (BBpow_pos i)
theorem c114 (z x y : Sl) (X Y : Nat) (w : World) (hz : St w z) (hx : Rd w x X) (hy : Rd w y Y) (hl : x.l + y.l ≤ z.l) (hsz : z.l ≤ 8796093022208) (dx : Dis z (x.l + y.l) x) (dy : Dis z (x.l + y.l) y) :
  Calls Tryz.prog 114 #[z.v, x.v, y.v] w fun e w' => e = .returned undef ∧ Sg w' z.b z.o (x.l + y.l) (X * Y) ∧ Chg w w' (inR z.b z.o (z.o + (x.l + y.l))) := by
 have hzc := hz.lc
 have hzm := hz.cm
 refine (F114.call z.a z.l z.c x.a x.l x.c y.a y.l y.c w (fun v w' => v = undef ∧ Sg w' z.b z.o (x.l + y.l) (X * Y) ∧ Chg w w' (inR z.b z.o (z.o + (x.l + y.l)))) fun B => ⟨by unfold inI64; omega, 0, x.l + y.l, rfl, by omega, Nat.zero_le _, by omega, ?_⟩).mono
  fun e w' ⟨v, h1, h2, h3⟩ => ⟨by rw [h1, h2], h3⟩
 obtain ⟨w1, r1, r2, r3⟩ := clearW 45 Tryz.underlying45 (z.sub 0 (x.l + y.l)) w (hz.sub_wt 0 _ (Nat.zero_le _) (by omega))
 have r2 : Sg w1 z.b (z.o + 0) (x.l + y.l - 0) 0 := r2
 have r3 : Chg w w1 (inR z.b (z.o + 0) (z.o + 0 + (x.l + y.l - 0))) := r3
 rw [Nat.add_zero, Nat.sub_zero] at r2 r3
 refine ⟨w1, r1, fun B1 => ?_⟩
 rw [F114.q2]
 refine W_for (σ := Nat) (fun i => [(0, z.v), (1, x.v), (15, y.v), (16, .int .i64 (y.l : Int)), (17, .int .i64 (i : Int))])
  (fun i wr => i ≤ y.l ∧ Sg wr z.b z.o (x.l + i) (X * (Y % BB ^ i)) ∧ Sg wr z.b (z.o + (x.l + i)) (y.l - i) 0 ∧ Chg w wr (inR z.b z.o (z.o + (x.l + y.l)))) (fun i => y.l - i) 0 ⟨rfl, rfl, rfl, rfl, rfl, trivial⟩
  ⟨Nat.zero_le _, by rw [Nat.pow_zero, Nat.mod_one, Nat.mul_zero]; exact r2.le (by omega), ?_, r3⟩ ?_
 ·have := r2.hi (x.l + 0) (y.l - 0) (by omega)
  rw [Nat.zero_div] at this; exact this
 rintro i B wr ⟨hi, hs1, hs2, hch⟩
 have hP : X * (Y % BB ^ i) < BB ^ (x.l + i) := mod_lt_mul hx.lt
 refine F114.t1 z.a z.l z.c x.a x.l x.c y.a y.l y.c y.l i ⟨rfl, rfl, rfl, rfl, rfl, trivial⟩ fun B2 => bc_intro (fun hb => ?_) (fun hb B3 => ?_)
 ·have hlt : i < y.l := by have := dT hb; omega
  have hd := dg_lt' Y i
  have next : ∀ (w2 : World) (B4 : Nat → Value) (ds : List Deferred), ds = [] → Sg w2 z.b z.o (x.l + (i + 1)) (X * (Y % BB ^ (i + 1))) → Sg w2 z.b (z.o + (x.l + (i + 1))) (y.l - (i + 1)) 0 → Chg w w2 (inR z.b z.o (z.o + (x.l + y.l))) →
    W Tryz.prog 48 F114.p3 (E [(0, z.v), (1, x.v), (15, y.v), (16, .int .i64 (y.l : Int)), (17, .int .i64 (i : Int))] B4 ds) w2 fun x' e' w' => match x' with
     | .normal => ∃ s' : Nat, agree e' [(0, z.v), (1, x.v), (15, y.v), (16, .int .i64 (y.l : Int)), (17, .int .i64 (s' : Int))] ∧ e'.defers = [] ∧ (s' ≤ y.l ∧ Sg w' z.b z.o (x.l + s') (X * (Y % BB ^ s')) ∧ Sg w' z.b (z.o + (x.l + s')) (y.l - s') 0 ∧ Chg w w' (inR z.b z.o (z.o + (x.l + y.l)))) ∧ y.l - s' < y.l - i
     | .exit j => match Nat.beq j 0 with
      | true => retK Tryz.prog [] (fun v w' => v = undef ∧ Sg w' z.b z.o (x.l + y.l) (X * Y) ∧ Chg w w' (inR z.b z.o (z.o + (x.l + y.l)))) .normal e' w'
      | false => retK Tryz.prog [] (fun v w' => v = undef ∧ Sg w' z.b z.o (x.l + y.l) (X * Y) ∧ Chg w w' (inR z.b z.o (z.o + (x.l + y.l)))) (.exit j) e' w'
     | x' => retK Tryz.prog [] (fun v w' => v = undef ∧ Sg w' z.b z.o (x.l + y.l) (X * Y) ∧ Chg w w' (inR z.b z.o (z.o + (x.l + y.l)))) x' e' w' := by
   intro w2 B4 ds hds n1 n2 n3
   subst hds
   exact F114.t3 z.a z.l z.c x.a x.l x.c y.a y.l y.c y.l i ⟨rfl, rfl, rfl, rfl, rfl, trivial⟩ fun B5 => ⟨by unfold inI64; omega, fun B6 => ⟨i + 1, ⟨rfl, rfl, rfl, rfl, rfl, trivial⟩, rfl, ⟨hlt, n1, n2, n3⟩, by omega⟩⟩
  refine rdC (k := i) (hy.at_ (by omega)) rfl hlt (chgAt hch hy hlt (dy.not (Nat.le_refl _) (Nat.le_refl _) hlt)) (bc_intro (fun hb => ?_) (fun hb B3 => ?_))
  ·have ea : ((x.l : Int) + (i : Int)) = ((x.l + i : Nat) : Int) := by omega
   have eb : ((i : Int) + (x.l : Int)) = ((i + x.l : Nat) : Int) := by omega
   rw [ea, eb]
   refine ⟨by unfold inI64; omega, by unfold inI64; omega, i, i + x.l, rfl, rfl, by omega, by omega, by unfold inI64; omega, i, i + x.l, rfl, rfl, by omega, by omega, ?_⟩
   have cd : Chg wr wr.drew none2 := Chg.drew0 wr _
   have hch1 := hch.drew
   have hz1 := hch1.st hz
   have hx1 : Rd wr.drew x X := hch1.rd hx fun j hj => dx.not (Nat.le_refl _) (Nat.le_refl _) hj
   have elen : (z.sub i (i + x.l)).l = x.l := by show i + x.l - i = _; omega
   have hr1 : Rd wr.drew (z.sub i (i + x.l)) (X * (Y % BB ^ i) / BB ^ i) := by
    refine ⟨fun h0 => at_sub hz1.at_ (by omega) h0, ?_, ?_⟩
    ·rw [elen]; exact cd.sg (hs1.hi i x.l (by omega)) fun _ _ h => h
    ·rw [elen, Nat.div_lt_iff_lt_mul (BBpow_pos i), ← Nat.pow_add]; exact hP
   refine Vec.pass (c146 (z.sub i (i + x.l)) (z.sub i (i + x.l)) x (X * (Y % BB ^ i) / BB ^ i) X (dg Y i) 0 wr.drew (hz1.sub_wt _ _ (by omega) (by omega)) hr1 hx1 rfl elen.symm (.inr (.inr (.inl (Nat.le_refl _)))) ?_ hd (by omega)) ?_
   ·unfold Ov; unfold Dis at dx
    show x.l = 0 ∨ x.b ≠ z.b ∨ z.o + i ≤ x.o ∨ x.o + x.l ≤ z.o + i
    omega
   rintro c Z w2 ⟨t1, t2⟩ hZ hsg hc2
   rw [elen] at t1 hZ hsg hc2
   have hsg : Sg w2 z.b (z.o + i) x.l Z := hsg
   have hc2 : Chg wr.drew w2 (inR z.b (z.o + i) (z.o + i + x.l)) := hc2
   have hz2 := hc2.st hz1
   have hp := hz2.pl (by omega)
   refine ⟨_, rfl, wtC (k := x.l + i) hz2.wt rfl (by omega) fun B3 => ?_⟩
   have hc3 : Chg w2 (w2.setCell ⟨z.b, z.o + (x.l + i), none⟩ (.int .u64 (c : Int))) (inR z.b (z.o + (x.l + i)) (z.o + (x.l + i) + 1)) := Chg.setCell hp _ ⟨rfl, by omega, by omega⟩
   have hmid : Sg (w2.setCell ⟨z.b, z.o + (x.l + i), none⟩ (.int .u64 (c : Int))) z.b (z.o + i) (x.l + 1) (Z + BB ^ x.l * c) := by
    have := hsg.step hZ (d := c) (w2 := w2) (by rw [BB_eq]; exact t2) rfl hp (by rw [show z.o + i + x.l = z.o + (x.l + i) by omega]; exact (hz2.wr (x.l + i) (by omega)).1)
    rw [show z.o + i + x.l = z.o + (x.l + i) by omega] at this; exact this
   have hlow : Sg (w2.setCell ⟨z.b, z.o + (x.l + i), none⟩ (.int .u64 (c : Int))) z.b z.o i (X * (Y % BB ^ i) % BB ^ i) := by
    refine hc3.sg (hc2.sg (cd.sg ((hs1.le (by omega)).mod) fun _ _ h => h) fun j hj hm => ?_) fun j hj hm => ?_
    ·have := hm.2.1; omega
    ·have := hm.2.1; omega
   have hval : X * (Y % BB ^ i) % BB ^ i + BB ^ i * (Z + BB ^ x.l * c) = X * (Y % BB ^ (i + 1)) := by
    rw [t1, mod_succ, Nat.mul_add, Nat.mul_add, Nat.mul_add, Nat.mul_zero, Nat.add_zero]
    have h1 := Nat.mod_add_div (X * (Y % BB ^ i)) (BB ^ i)
    have h2 : BB ^ i * (X * dg Y i) = X * (BB ^ i * dg Y i) := Nat.mul_left_comm ..
    omega
   have hj := Sg.join hlow hmid (Nat.mod_lt _ (BBpow_pos i))
   rw [hval, show i + (x.l + 1) = x.l + (i + 1) by omega] at hj
   refine next _ B3 _ rfl hj ?_ ?_
   ·have h1 := hs2.hi 1 (y.l - (i + 1)) (by omega)
    rw [Nat.zero_div, show z.o + (x.l + i) + 1 = z.o + (x.l + (i + 1)) by omega] at h1
    exact hc3.sg (hc2.sg (cd.sg h1 fun _ _ h => h) fun j hj hm => by have := hm.2.2; omega) fun j hj hm => by have := hm.2.2; omega
   ·exact hch1.trans' ((hc2.mono fun b j _ hm => ⟨hm.1, by have := hm.2.1; omega, by have := hm.2.2; omega⟩).trans' (hc3.mono fun b j _ hm => ⟨hm.1, by have := hm.2.1; omega, by have := hm.2.2; omega⟩))
  ·have hd0 : dg Y i = 0 := by have := neE hb; omega
   have hm : Y % BB ^ (i + 1) = Y % BB ^ i := by rw [mod_succ, hd0, Nat.mul_zero, Nat.add_zero]
   refine next wr B3 _ rfl ?_ ?_ hch
   ·rw [hm, show x.l + (i + 1) = (x.l + i) + 1 by omega]
    have h0 := hs2.le (show 1 ≤ y.l - i by omega)
    have := Sg.join hs1 h0 hP
    rw [Nat.mul_zero, Nat.add_zero] at this; exact this
   ·have h1 := hs2.hi 1 (y.l - (i + 1)) (by omega)
    rw [Nat.zero_div, show z.o + (x.l + i) + 1 = z.o + (x.l + (i + 1)) by omega] at h1
    exact h1
 ·have hk : i = y.l := by have := dF hb; omega
  subst hk
  rw [Nat.mod_eq_of_lt hy.lt] at hs1
  exact ret0 rfl ⟨rfl, hs1, hch⟩
end Go.Proofs.YtlkjiiibmfpbcaaGreatDoor
namespace Go.Proofs.YtlkjiiibmfpbcaaGreatDoor
open Go
def Al (z x : Sl) : Prop := z.c = 0 ∨ x.l = 0 ∨ x.b ≠ z.b ∨ z.o + z.c ≤ x.o ∨ x.o + x.l ≤ z.o ∨ (x.o = z.o ∧ x.c = z.c)
theorem Al.sep {z x : Sl} (h : Al z x) : Sep z x := by unfold Al at h; unfold Sep; omega
theorem Al.apart {z x : Sl} (h : Al z x) (hl : x.l ≤ x.c) (hq : ¬ (z.c ≠ 0 ∧ x.c ≠ 0 ∧ z.b = x.b ∧ z.o + z.c = x.o + x.c)) : Apart z x := by unfold Al at h; unfold Apart; omega
theorem Apart.al {z x : Sl} (h : Apart z x) : Al z x := by unfold Apart at h; unfold Al; omega
theorem Apart.dis {w : World} {z r x : Sl} {X n : Nat} (h : Apart z x) (hf : From w z r) (hx : Nt w x X) (hn : n ≤ r.c) (hn0 : n ≠ 0) : Dis r n x := by
 unfold Dis
 by_cases h0 : x.l = 0
 ·exact .inl h0
 ·have := hx.blk h0
  rcases hf with ⟨_, e2, e3, e4⟩ | hf
  ·unfold Apart at h; omega
  ·omega
theorem Al.from_ {w : World} {z r x : Sl} {X : Nat} (h : Al z x) (hf : From w z r) (hx : Nt w x X) : Al r x := by
 unfold Al
 by_cases h0 : x.l = 0
 ·exact .inr (.inl h0)
 ·have := hx.blk h0
  rcases hf with ⟨_, e2, e3, e4⟩ | hf
  ·unfold Al at h; omega
  ·omega
def nilS (w : World) : Sl := ⟨none, 0, 0, w.heap.size, 0⟩
theorem nilSt (w : World) (hg : GB ≤ w.heap.size) : St w (nilS w) := ⟨Nat.le_refl _, fun h => absurd rfl h, Wr.zero, fun h => absurd rfl h, Nat.zero_le _, hg⟩
theorem nilFrom {w : World} {z r : Sl} (h : From w (nilS w) r) : From w z r := .inr (by
 rcases h with ⟨_, _, e, _⟩ | h
 ·exact Nat.le_of_eq e.symm
 ·exact h)
theorem nilChg {w w' : World} {w0 : World} {S : Set2} (h : Chg w w' (fp (nilS w0))) : Chg w w' S := h.mono fun b i _ hm => by
 have h1 : 0 ≤ i := hm.2.1
 have h2 : i < 0 + 0 := hm.2.2
 omega
theorem nilRes {w w' : World} {z : Sl} {V : Nat} {v : Value} (h : Res w (nilS w) V v w') : Res w z V v w' := by
 obtain ⟨r, h1, h2, h3, h4⟩ := h
 exact ⟨r, h1, h2, nilFrom h3, nilChg h4⟩
theorem nilApart (w : World) (x : Sl) : Apart (nilS w) x := .inl rfl
theorem c117t (z x : Sl) (X y r : Nat) (w : World) (hz : St w z) (hx : Nt w x X) (sx : Sep z x) (hl : Len x) (hy : y < 18446744073709551616) (hr : r < 18446744073709551616) :
  Calls Tryz.prog 117 #[z.v, x.v, .int .u64 (y : Int), .int .u64 (r : Int)] w (ResE w z (X * y + r)) := by
 have hl' := hl
 unfold Len at hl'
 refine F117.call z.a z.l z.c x.a x.l x.c y r w _ fun B => bc_intro (fun hb => ?_) (fun hb => bc_intro (fun hb' => ?_) (fun hb' => ?_))
 ·have hX : X = 0 := Nz.zero hx (by have := eqE hb; omega)
  subst hX
  rw [Nat.zero_mul, Nat.zero_add]
  exact ResE.pass (c71 z r w hz hr) fun r' w' h1 h2 h3 => ⟨_, _, _, rfl, fun B2 => ret1 rfl rfl (Res.of h1 h2 h3)⟩
 ·have hy0 : y = 0 := by have := eqE hb'; omega
  subst hy0
  rw [Nat.mul_zero, Nat.zero_add]
  exact ResE.pass (c71 z r w hz hr) fun r' w' h1 h2 h3 => ⟨_, _, _, rfl, fun B2 => ret1 rfl rfl (Res.of h1 h2 h3)⟩
 ·have hx0 : x.l ≠ 0 := by have := eqN hb; omega
  refine ⟨by unfold inI64; omega, (c73 z (x.l + 1) w hz (by omega)).mono ?_⟩
  rintro e w1 ⟨_, rfl, q, rfl, hql, hq, hf, hc⟩
  have hqc := hq.lc
  have hx1 := hc.nt_none hx
  have elen : (q.sub 0 x.l).l = x.l := rfl
  refine ⟨_, _, _, rfl, 0, x.l, rfl, rfl, by omega, by omega, Vec.pass (c91 (q.sub 0 x.l) x X y r w1 (hq.sub_wt _ _ (by omega) (by omega)) hx1.rd rfl ?_ hy hr) ?_⟩
  ·unfold Ov
   show x.l = 0 ∨ x.b ≠ q.b ∨ q.o + 0 ≤ x.o ∨ x.o + x.l ≤ q.o + 0
   have := hx.blk hx0
   rcases hf with ⟨_, e2, e3, e4⟩ | hf
   ·unfold Sep at sx; omega
   ·omega
  rintro c Z w2 ⟨t1, t2⟩ hZ hsg hch
  have hZ : Z < BB ^ x.l := hZ
  have t1 : Z + BB ^ x.l * c = X * y + r := t1
  have hsg : Sg w2 q.b (q.o + 0) x.l Z := hsg
  have hch : Chg w1 w2 (inR q.b (q.o + 0) (q.o + 0 + x.l)) := hch
  rw [Nat.add_zero] at hsg hch
  have hq2 := hch.st hq
  refine ⟨_, rfl, wtC (k := x.l) hq2.wt rfl (by omega) ?_⟩
  have hp := hq2.pl (by omega)
  have hs4 := hsg.step hZ (d := c) (w2 := w2) (by rw [BB_eq]; exact t2) rfl hp (hq2.wr x.l (by omega)).1
  have hc4 : Chg w2 (w2.setCell ⟨q.b, q.o + x.l, none⟩ (.int .u64 (c : Int))) (inR q.b (q.o + x.l) (q.o + x.l + 1)) := Chg.setCell hp _ ⟨rfl, by omega, by omega⟩
  rw [t1] at hs4
  refine normR (w := w) (z := z) (r := q) (V := X * y + r) { hc4.st hq2 with sg := by rw [hql]; exact hs4, lt := by rw [hql, ← t1]; exact dlt hZ t2 } hf (hf.chg (hf.chg (hc.none _) hch (Nat.le_refl _) (by omega)) hc4 (by omega) (by omega)) fun k hres => ⟨_, _, _, rfl, fun B6 => ret1 rfl rfl hres⟩
theorem prod_lt {X Y n m : Nat} (hX : X < BB ^ n) (hY : Y < BB ^ m) : X * Y < BB ^ (n + m) := by
 rw [Nat.pow_add]
 rcases Nat.eq_zero_or_pos X with h | h
 ·subst h; rw [Nat.zero_mul]; exact Nat.mul_pos (BBpow_pos n) (BBpow_pos m)
 ·exact Nat.mul_lt_mul_of_lt_of_le hX (Nat.le_of_lt hY) (BBpow_pos m)
theorem f80t (z x y : Sl) (X Y : Nat) (stk : Option Addr) (w w0 : World) (h0 : Chg w0 w none2) (hz : St w z) (hx : Nt w x X) (hy : Nt w y Y) (ax : Apart z x) (ay : Apart z y) (lx : Len x) (ly : y.l < 40) (ly0 : y.l ≠ 0) (hg : Glb w) (e : Env) (he : e.defers = []) (R : Value → World → Prop) (hR : ∀ v w', Res w0 z (X * Y) v w' → R v w')
  (ha : agree e (F80.l1 z.a z.l z.c stk x.a x.l x.c y.a y.l y.c x.l y.l)) : W Tryz.prog 121 F80.p1 e w (retK Tryz.prog [.tmp 8] R) := by
 unfold Len at lx
 refine F80.t1 z.a z.l z.c stk x.a x.l x.c y.a y.l y.c x.l y.l ha fun B => ⟨by unfold inI64; omega, (c73 z (x.l + y.l) w hz (by omega)).mono ?_⟩
 rintro e' w1 ⟨_, rfl, r, rfl, hrl, hr, hf, hc⟩
 have hrc := hr.lc
 have hx1 := (hc.nt_none hx).rd
 have hy1 := (hc.nt_none hy).rd
 refine ⟨_, _, _, rfl, _, (hc.glb hg).t5, bc_true (decT (by omega)) ((c114 r x y X Y w1 hr hx1 hy1 (by omega) (by omega) (ax.dis hf hx (by omega) (by omega)) (ay.dis hf hy (by omega) (by omega))).mono ?_)⟩
 rintro e' w2 ⟨rfl, hsg, hch⟩
 refine ⟨rfl, normR (w := w0) (z := z) (r := r) (V := X * Y) { hch.st hr with sg := by rw [hrl]; exact hsg, lt := by rw [hrl]; exact prod_lt hx.lt hy.lt } (hf.later h0) ((hf.later h0).chg ((h0.trans' hc).none _) hch (Nat.le_refl _) (by omega)) fun k hres => ⟨_, _, _, rfl, fun B6 => ret1 he rfl (hR _ _ hres)⟩⟩
theorem c80u (z x y : Sl) (X Y : Nat) (stk : Option Addr) (w : World) (hz : St w z) (hx : Nt w x X) (hy : Nt w y Y) (ax : Al z x) (ay : Al z y) (lx : Len x) (ly : y.l < 40) (hyx : y.l ≤ x.l) (hg : Glb w) :
  Calls Tryz.prog 80 #[z.v, .pointer stk, x.v, y.v] w (ResE w z (X * Y)) := by
 have lx' := lx
 unfold Len at lx'
 refine F80.call z.a z.l z.c stk x.a x.l x.c y.a y.l y.c w _ fun B => bc_false (decF (by omega)) (bc_intro (fun hb => ?_) (fun hb => bc_intro (fun hb1 => ?_) (fun hb1 => bc_intro (fun hb2 => ?_) (fun hb2 => ?_))))
 ·have hX : X = 0 := Nz.zero hx (by have := eqE hb; omega)
  subst hX
  rw [Nat.zero_mul]
  exact ⟨0, rfl, Nat.zero_le _, fun B2 => ret1 rfl rfl (Res.of (nz_zero hz) (From.self w z 0) (Chg.refl _ _))⟩
 ·have hY : Y = 0 := Nz.zero hy (by have := eqE hb1; omega)
  subst hY
  rw [Nat.mul_zero]
  exact ⟨0, rfl, Nat.zero_le _, fun B2 => ret1 rfl rfl (Res.of (nz_zero hz) (From.self w z 0) (Chg.refl _ _))⟩
 ·have hy1 : y.l = 1 := by have := eqE hb2; omega
  have hY : Y = dg Y 0 := (dg_self Y (by have := hy.lt; rw [hy1] at this; simpa using this)).symm
  refine rdC (k := 0) (hy.at_ (by have := hy.lc; omega)) rfl (by omega) (hy.sg 0 (by omega)) ?_
  have := c117t z x X (dg Y 0) 0 w hz hx ax.sep lx (dg_lt' Y 0) (by omega)
  rw [← hY, Nat.add_zero] at this
  rw [← hY]
  exact ResE.pass this fun r w' h1 h2 h3 => ⟨_, _, _, rfl, fun B2 => ret1 rfl rfl (Res.of h1 h2 h3)⟩
 ·refine (c49 z x w hz.pc hx.toSt.pc hz.cm hx.cm).mono ?_
  rintro e w1 ⟨_, rfl, q, rfl, rfl, hq⟩
  have cd : Chg w w.drew none2 := Chg.drew0 w _
  have nilcase : ∀ (w1 : World) (B3 : Nat → Value) (ds : List Deferred), ds = [] → Chg w w1 none2 → w1.heap = w.heap →
    W Tryz.prog 121 F80.p1 (E [(0, (.slice none 0 0)), (1, (.pointer stk)), (2, (.slice x.a x.l x.c)), (3, (.slice y.a y.l y.c)), (9, (.int .i64 ((x.l : Nat) : Int))), (10, (.int .i64 ((y.l : Nat) : Int)))] B3 ds) w1 (retK Tryz.prog [.tmp 8] (Res w z (X * Y))) := by
   intro w1 B3 ds hds hc hh
   subst hds
   have hst : St w1 (nilS w) := hc.st (nilSt w hz.gb)
   exact f80t (nilS w) x y X Y stk w1 w hc hst (hc.nt_none hx) (hc.nt_none hy) (nilApart _ _) (nilApart _ _) lx ly (by have := eqN hb1; omega) (hc.glb hg) _ rfl _ (fun v w' h => nilRes h) ⟨rfl, rfl, rfl, rfl, rfl, rfl, trivial⟩
  refine ⟨_, rfl, bc_intro (fun h B3 => nilcase _ B3 _ rfl cd rfl) (fun h => (c49 z y w.drew (cd.st hz).pc (cd.nt_none hy).toSt.pc hz.cm hy.cm).mono ?_)⟩
  rintro e w1 ⟨_, rfl, q2, rfl, rfl, hq2⟩
  have cd2 := cd.drew
  refine ⟨_, rfl, bc_intro (fun h2 B3 => nilcase _ B3 _ rfl cd2 rfl) (fun h2 B3 => ?_)⟩
  exact f80t z x y X Y stk w.drew.drew w cd2 (cd2.st hz) (cd2.nt_none hx) (cd2.nt_none hy) (ax.apart hx.lc fun hh => by simp [hq.2 hh] at h) (ay.apart hy.lc fun hh => by simp [hq2.2 hh] at h2) lx ly (by have := eqN hb1; omega) (cd2.glb hg) _ rfl _ (fun _ _ h => h) ⟨rfl, rfl, rfl, rfl, rfl, rfl, trivial⟩
theorem c80t (z x y : Sl) (X Y : Nat) (stk : Option Addr) (w : World) (hz : St w z) (hx : Nt w x X) (hy : Nt w y Y) (ax : Al z x) (ay : Al z y) (lx : Len x) (ly : Len y) (hs : x.l < 40 ∨ y.l < 40) (hg : Glb w) :
  Calls Tryz.prog 80 #[z.v, .pointer stk, x.v, y.v] w (ResE w z (X * Y)) := by
 by_cases h : y.l ≤ x.l
 ·exact c80u z x y X Y stk w hz hx hy ax ay lx (by omega) h hg
 ·refine F80.call z.a z.l z.c stk x.a x.l x.c y.a y.l y.c w _ fun B => bc_true (decT (by omega)) ?_
  have := c80u z y x Y X stk w hz hy hx ay ax ly (by omega) (by omega) hg
  rw [Nat.mul_comm] at this
  exact ResE.pass this fun r w' h1 h2 h3 => ⟨_, _, _, rfl, fun B2 => ret1 rfl rfl (Res.of h1 h2 h3)⟩
theorem c80 (z x y : Sl) (X Y : Nat) (stk : Option Addr) (w : World) (hz : St w z) (hx : Nz w x X) (hy : Nz w y Y) (ax : Al z x) (ay : Al z y) (lx : Len x) (ly : Len y) (hs : x.l < 40 ∨ y.l < 40) (hg : Glb w) :
  Calls Tryz.prog 80 #[z.v, .pointer stk, x.v, y.v] w (ResE w z (X * Y)) := c80t z x y X Y stk w hz hx.toNt hy.toNt ax ay lx ly hs hg
end Go.Proofs.YtlkjiiibmfpbcaaGreatDoor
