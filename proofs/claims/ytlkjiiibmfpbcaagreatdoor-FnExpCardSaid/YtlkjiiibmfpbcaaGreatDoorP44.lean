/- Contracts: the thin package's power: words in, Int.Exp, words out. Conditions: base and modulus below 28 words, the exponent below a million words; the modulus is not nought. -/
import Derived.Test.YtlkjiiibmfpbcaaGreatDoorP43
namespace Go.Proofs.YtlkjiiibmfpbcaaGreatDoor
open Go
theorem app_bankT {t e : TypeId} (ht : Cell1 t e (.int .u64 0)) {w : World} {s : Sl} {V d b c0 : Nat} {L : List Item} (h : Bank w (num s V :: L)) (hsrc : w.cell? ⟨b, 0, none⟩ = some (.int .u64 (d : Int))) (hd : d < BB) (hl : s.l ≤ 1099511627776) :
  ∃ (r : Sl) (w' : World), Sem.run Tryz.prog (builtin .append #[t, t] t #[false, false] #[s.v, .slice (some ⟨b, 0, none⟩) 1 c0]) w = .ok (.value r.v) w' ∧ r.l = s.l + 1 ∧ Bank w' (num r (V + BB ^ s.l * d) :: L) ∧ From w s r ∧ Chg w w' (fp s) := by
 have hs : Nt w s V := h.head
 obtain ⟨r, w', r1, r2, r3, r4, r5, _, r7⟩ := app1 ht s (.int .u64 (d : Int)) w hs.toSt ⟨b, 0, none⟩ c0 hsrc rfl hl (fun i => .int .u64 (dg V i : Int)) hs.sg
 refine ⟨r, w', r1, r2, h.res (a' := num r (V + BB ^ s.l * d)) rfl r5 r7 ?_ rfl, r5, r7⟩
 refine { r3 with sg := fun i hi => ?_, lt := ?_ }
 ·rw [r4 i (by omega)]
  by_cases hi' : i = s.l
  ·subst hi'
   rw [setF_self, show dg (V + BB ^ s.l * d) s.l = d by have := dg_add_hi V d s.l 0 hs.lt; rw [Nat.add_zero] at this; rw [this, dg_self d hd]]
  ·rw [setF_ne _ _ hi', dg_add_lo _ _ _ _ (by omega)]
 ·rw [r2]
  exact dlt hs.lt hd
theorem push {t e : TypeId} (ht : Cell1 t e (.int .u64 0)) {w0 w : World} {out : Sl} {V X i : Nat} {M : List Item} (g : G w0 w (num out V :: M)) (hn : out.c ≠ 0 → w0.heap.size ≤ out.b) (hl : out.l = i) (hi : i ≤ 1000000) (hV : V = X % BB ^ i) :
  ∃ (w1 : World) (r : Sl) (w' : World), Sem.run Tryz.prog (Instr.buildSlice t 1 #[(0, .int .u64 (dg X i : Int))]) w = .ok (.slice (some ⟨w.heap.size, 0, none⟩) 1 1) w1 ∧ Sem.run Tryz.prog (builtin .append #[t, t] t #[false, false] #[out.v, .slice (some ⟨w.heap.size, 0, none⟩) 1 1]) w1 = .ok (.value r.v) w' ∧
   r.l = i + 1 ∧ G w0 w' (num r (X % BB ^ (i + 1)) :: M) ∧ (r.c ≠ 0 → w0.heap.size ≤ r.b) := by
 have hh : (w.alloc (.cells #[.int .u64 (dg X i : Int)] e)).heap[w.heap.size]? = some (.cells #[.int .u64 (dg X i : Int)] e (0, 0)) := heap_alloc_new ..
 have c1 : Chg w (w.alloc (.cells #[.int .u64 (dg X i : Int)] e)) none2 := Chg.alloc _ _ (fun a => RowKit.frozen?_alloc_cells _ _ _ _) _
 have b1 := g.bank.none c1
 obtain ⟨r, w', r1, r2, r3, r4, r5⟩ := app_bankT ht (d := dg X i) (b := w.heap.size) (c0 := 1) b1 (by rw [cell_eq, hh]; rfl) (dg_lt X i) (by omega)
 have hval : V + BB ^ out.l * dg X i = X % BB ^ (i + 1) := by rw [hl, hV, mod_succ]
 rw [hval] at r3
 have cw : Chg w0 (w.alloc (.cells #[.int .u64 (dg X i : Int)] e)) none2 := g.ch.trans' c1
 refine ⟨_, r, w', build1 ht w _ rfl, r1, by omega, ⟨r3, cw.trans r5 (fun _ _ _ h => h) fun b i hb hm => ?_, g.hg⟩, fun h0 => ?_⟩
 ·have := hn (by have := hm.2.1; have := hm.2.2; omega)
  have := hm.1; omega
 ·rcases r4 with ⟨_, e2, e3, _⟩ | hf
  ·rw [e3]; exact hn (by omega)
  ·exact Nat.le_trans cw.size hf
section
variable {w0 w : World} {M : List Item}
theorem G.none {w' : World} (g : G w0 w M) (hc : Chg w w' none2) : G w0 w' M := ⟨g.bank.none hc, g.ch.trans' hc, g.hg⟩
theorem G.addNil (g : G w0 w M) : G w0 w (num (nilS w) 0 :: M) := ⟨(g.bank.nilF (g.ch.glb g.hg).gb).weak, g.ch, g.hg⟩
theorem c31 {p : Nat} {ng : Bool} {s out : Sl} {X : Nat} (h : Bank w (hdr p ng s :: num out X :: M)) (hl : out.l ≤ 1099511627776) {Q : Ending → World → Prop}
  (q : ∀ (r : Sl) w', Bank w' (hdr p false r :: nmz r X :: M) → r.c = out.c → r.b = out.b → Chg w w' (blk p) → Q (.returned (.pointer (ptr p))) w') : Calls Tryz.prog 31 #[.pointer (ptr p), out.v] w Q := by
 refine (F31.call (ptr p) out.a out.l out.c w (fun v w' => Q (.returned v) w') fun B => ?_).mono fun e w' ⟨v, h1, h2⟩ => by rw [h1]; exact h2
 have hn : Nt w out X := h.tail.head
 refine (c46 out X w hn (by omega)).mono ?_
 rintro e3 w3 ⟨_, rfl, k, hk, rfl, hw, n3⟩
 have hw := hw.symm
 subst hw
 have b1 : Bank w (hdr p ng s :: nmz (out.to k) X :: M) := ((h.perm (List.Perm.swap _ _ _)).weaken (a' := nmz (out.to k) X) rfl fun _ => n3).perm (List.Perm.swap _ _ _)
 have H1 : HdrAt w p ng s := b1.head
 obtain ⟨b2, c2⟩ := hset1 b1 (out.to k)
 have H2 : HdrAt (w.setCell ⟨p, 1, Option.none⟩ (out.to k).v) p ng (out.to k) := b2.head
 obtain ⟨b3, c3⟩ := hset0 b2 false
 exact ⟨_, _, _, rfl, p, 0, rfl, ⟨_, H1.c1⟩, H1.f1, p, 0, rfl, ⟨_, H2.c0⟩, H2.f0, fun B2 => ret1 rfl rfl (q (out.to k) _ b3 rfl rfl (c2.trans' c3))⟩
theorem c17 {x : Sl} {X : Nat} (g : G w0 w M) (hx : Rd w x X) (hl : x.l ≤ 1000000) {Q : Ending → World → Prop}
  (q : ∀ (J : IR) w', G w0 w' (J.h :: J.n :: M) → New w0 J → J.ng = false → J.V = X → Chg w w' none2 → Q (.returned (.pointer (ptr J.p))) w') : Calls Tryz.prog 17 #[x.v] w Q := by
 refine (F17.call x.a x.l x.c w (fun v w' => Q (.returned v) w') fun B => ?_).mono fun e w' ⟨v, h1, h2⟩ => by rw [h1]; exact h2
 refine (c27 x X w (g.ch.glb g.hg).gb hx (by omega)).mono ?_
 rintro e1 w1 ⟨r, rfl, hr, lr, gr, c1⟩
 refine ⟨_, _, _, rfl, fun B1 => ?_⟩
 have g1 : G w0 w1 (nmz r X :: M) := ⟨g.bank.new c1 hr fun b i hm => by rw [hm.1]; exact gr, g.ch.trans' c1, g.hg⟩
 have g2 := g1.addNil
 rw [F17.q3]
 refine W_for' (σ := Nat × Sl) (fun s => F17.l2 s.2.a s.2.l s.2.c r.a r.l r.c r.l s.1) (fun s w' => s.1 ≤ r.l ∧ s.2.l = s.1 ∧ (s.2.c ≠ 0 → w1.heap.size ≤ s.2.b) ∧ G w1 w' (num s.2 (X % BB ^ s.1) :: nmz r X :: M)) (fun s => r.l - s.1) (0, nilS w1) ⟨rfl, rfl, rfl, rfl, trivial⟩
  ⟨Nat.zero_le _, rfl, fun h => absurd rfl h, ⟨by have b := g2.bank; rw [show X % BB ^ 0 = 0 by rw [Nat.pow_zero, Nat.mod_one]]; exact b, Chg.refl _ _, g1.ch.glb g.hg⟩⟩ ?_
 rintro ⟨i, out⟩ B2 wr K2 ⟨hi, ho, hn, gi⟩ hKn hKe _
 simp only at hi ho hn gi
 have hrP : Nz wr r X := gi.bank.tail.head
 refine F17.t2 out.a out.l out.c r.a r.l r.c r.l i ⟨rfl, rfl, rfl, rfl, trivial⟩ fun B3 => bc_intro (fun hb => ?_) (fun hb B4 => ?_)
 ·have hlt : i < r.l := by have := dT hb; omega
  obtain ⟨w2, r2, w3, e2, e3, l3, g3, n3⟩ := push cell44 (X := X) gi hn ho (by omega) rfl
  exact rdC (k := i) (hrP.at_ (by have := hrP.lc; omega)) rfl hlt (hrP.sg i hlt) ⟨w2, ⟨_, _, _, e2, w3, ⟨_, _, _, e3, by unfold inI64; omega, fun B4 => hKn _ _ (i + 1, r2) ⟨rfl, rfl, rfl, intv (by omega), trivial⟩ rfl ⟨hlt, l3, n3, g3⟩ (by show r.l - (i + 1) < r.l - i; omega)⟩⟩⟩
 ·have hil : i = r.l := by have := dF hb; omega
  refine hKe _ _ ?_
  show W Tryz.prog 21 F17.p1 _ wr _
  rw [hil, Nat.mod_eq_of_lt hrP.lt] at gi
  refine F17.t1 out.a out.l out.c ⟨rfl, trivial⟩ fun B5 => ?_
  obtain ⟨b5, c5⟩ := newInt gi.bank (gi.ch.glb gi.hg).gb false (nilS wr)
  refine c31 (p := wr.heap.size) (s := nilS wr) b5 (by omega) fun r6 w6 b6 e6 e7 c6 => ⟨_, rfl, fun B6 => ret1 rfl rfl ?_⟩
  have c16 : Chg w1 w6 none2 := (gi.ch.trans' c5).trans c6 (fun _ _ _ h => h) fun b i hb hm => by
   have hm : b = wr.heap.size := hm
   have := gi.ch.size; omega
  have b7 : Bank w6 (IR.h ⟨wr.heap.size, false, r6, X⟩ :: IR.n ⟨wr.heap.size, false, r6, X⟩ :: M) := b6.pick 3 [0, 1] rfl
  refine q ⟨wr.heap.size, false, r6, X⟩ w6 ⟨b7, g1.ch.trans' c16, g.hg⟩ ⟨Nat.le_trans g1.ch.size gi.ch.size, fun h0 => ?_⟩ rfl rfl (c1.trans' c16)
  have h0 : r6.c ≠ 0 := h0
  show w0.heap.size ≤ r6.b
  rw [e7]
  exact Nat.le_trans g1.ch.size (hn (by omega))
theorem c18 {J : IR} (h : Bank w M) (h1 : J.h ∈ M) (h2 : J.n ∈ M) (hJ : J.ng = false) (h0 : J.V ≠ 0) : Calls Tryz.prog 18 #[.pointer (ptr J.p)] w fun e w' => e = .returned (.int .i64 1) ∧ w' = w := by
 refine (F18.call (ptr J.p) w (fun v w' => v = .int .i64 1 ∧ w' = w) fun B => ?_).mono fun e w' ⟨v, h1, h2, h3⟩ => ⟨by rw [h1, h2], h3⟩
 have H : HdrAt w J.p J.ng J.s := h.all _ h1
 have z : Nz w J.s J.V := h.all _ h2
 have hl : J.s.l ≠ 0 := fun e => h0 (Nz.zero z.toNt e)
 refine ⟨J.p, 0, rfl, J.s.a, J.s.l, J.s.c, H.c1, bc_false (eqF (by omega)) ⟨J.p, 0, rfl, J.ng, H.c0, ?_⟩⟩
 rw [hJ]
 exact bc_false rfl fun B2 => ret1 rfl rfl ⟨rfl, rfl⟩
theorem c32 {J : IR} (h : Bank w M) (h1 : J.h ∈ M) : Calls Tryz.prog 32 #[.pointer (ptr J.p)] w fun e w' => e = .returned J.s.v ∧ w' = w := by
 refine (F32.call (ptr J.p) w (fun v w' => v = J.s.v ∧ w' = w) fun B => ?_).mono fun e w' ⟨v, h1, h2, h3⟩ => ⟨by rw [h1, h2], h3⟩
 have H : HdrAt w J.p J.ng J.s := h.all _ h1
 exact ⟨J.p, 0, rfl, J.s.a, J.s.l, J.s.c, H.c1, fun B2 => ret1 rfl rfl ⟨rfl, rfl⟩⟩
theorem c19 {J : IR} (g : G w0 w M) (h1 : J.h ∈ M) (h2 : J.n ∈ M) (hl : J.s.l ≤ 1000000) {Q : Ending → World → Prop}
  (q : ∀ (r : Sl) w', G w0 w' (nmz r J.V :: M) → r.l = J.s.l → Chg w w' none2 → Q (.returned r.v) w') : Calls Tryz.prog 19 #[.pointer (ptr J.p)] w Q := by
 refine (F19.call (ptr J.p) w (fun v w' => Q (.returned v) w') fun B => ?_).mono fun e w' ⟨v, h1, h2⟩ => by rw [h1]; exact h2
 refine (c32 g.bank h1).mono ?_
 rintro e1 w1 ⟨rfl, hw⟩
 have hw := hw.symm
 subst hw
 refine ⟨_, _, _, rfl, fun B1 => ?_⟩
 obtain ⟨r, hr⟩ : ∃ r, r = J.s := ⟨_, rfl⟩
 obtain ⟨X, hX⟩ : ∃ X, X = J.V := ⟨_, rfl⟩
 have hrn : nmz r X ∈ M := by rw [hr, hX]; exact h2
 rw [← hr] at hl ⊢
 have g2 := g.addNil
 rw [F19.q3]
 refine W_for' (σ := Nat × Sl) (fun s => F19.l2 s.2.a s.2.l s.2.c r.a r.l r.c r.l s.1) (fun s w' => s.1 ≤ r.l ∧ s.2.l = s.1 ∧ (s.2.c ≠ 0 → w.heap.size ≤ s.2.b) ∧ G w w' (num s.2 (X % BB ^ s.1) :: M)) (fun s => r.l - s.1) (0, nilS w) ⟨rfl, rfl, rfl, rfl, trivial⟩
  ⟨Nat.zero_le _, rfl, fun h => absurd rfl h, ⟨by have b := g2.bank; rw [show X % BB ^ 0 = 0 by rw [Nat.pow_zero, Nat.mod_one]]; exact b, Chg.refl _ _, g.ch.glb g.hg⟩⟩ ?_
 rintro ⟨i, out⟩ B2 wr K2 ⟨hi, ho, hn, gi⟩ hKn hKe _
 simp only at hi ho hn gi
 have hrP : Nz wr r X := gi.bank.all (nmz r X) (by simp [hrn])
 refine F19.t2 out.a out.l out.c r.a r.l r.c r.l i ⟨rfl, rfl, rfl, rfl, trivial⟩ fun B3 => bc_intro (fun hb => ?_) (fun hb B4 => ?_)
 ·have hlt : i < r.l := by have := dT hb; omega
  obtain ⟨w2, r2, w3, e2, e3, l3, g3, n3⟩ := push cell22 (X := X) gi hn ho (by omega) rfl
  exact rdC (k := i) (hrP.at_ (by have := hrP.lc; omega)) rfl hlt (hrP.sg i hlt) ⟨w2, ⟨_, _, _, e2, w3, ⟨_, _, _, e3, by unfold inI64; omega, fun B4 => hKn _ _ (i + 1, r2) ⟨rfl, rfl, rfl, intv (by omega), trivial⟩ rfl ⟨hlt, l3, n3, g3⟩ (by show r.l - (i + 1) < r.l - i; omega)⟩⟩⟩
 ·have hil : i = r.l := by have := dF hb; omega
  refine hKe _ _ ?_
  show W Tryz.prog 19 F19.p1 _ wr _
  rw [hil, Nat.mod_eq_of_lt hrP.lt] at gi
  refine F19.t1 out.a out.l out.c ⟨rfl, trivial⟩ fun B5 B6 => ret1 rfl rfl ?_
  have hol : out.l = r.l := by omega
  have b7 : Bank wr (nmz out J.V :: M) := by
   rw [← hX]
   exact gi.bank.weaken (a' := nmz out X) rfl fun h => { h with nm := hrP.nm.of_len hol }
  exact q out wr ⟨b7, g.ch.trans' gi.ch, g.hg⟩ (by rw [hol, hr]) gi.ch
theorem c33 {Z X Y N : IR} (g : G w0 w (Z.h :: Z.n :: M)) (nZ : New w0 Z) (hX1 : X.h ∈ M) (hX2 : X.n ∈ M) (hY1 : Y.h ∈ M) (hY2 : Y.n ∈ M) (hN1 : N.h ∈ M) (hN2 : N.n ∈ M) (hX : X.ng = false) (hY : Y.ng = false) (hN0 : N.V ≠ 0) (lX : X.s.l < 40) (lY : Y.s.l ≤ 1000000) (lN : N.s.l < 28) {Q : Ending → World → Prop}
  (q : ∀ (Z' : IR) w', Z'.p = Z.p → G w0 w' (Z'.h :: Z'.n :: M) → New w0 Z' → Z'.ng = false → Z'.V = X.V ^ Y.V % N.V → Q (.returned (.pointer (ptr Z.p))) w') :
  Calls Tryz.prog 33 #[.pointer (ptr Z.p), .pointer (ptr X.p), .pointer (ptr Y.p), .pointer (ptr N.p), .bool false] w Q := by
 refine (F33.call (ptr Z.p) (ptr X.p) (ptr Y.p) (ptr N.p) false w (fun v w' => Q (.returned v) w') fun B => ?_).mono fun e w' ⟨v, h1, h2⟩ => by rw [h1]; exact h2
 have HX : HdrAt w X.p X.ng X.s := g.bank.all X.h (by simp [hX1])
 have HY : HdrAt w Y.p Y.ng Y.s := g.bank.all Y.h (by simp [hY1])
 have HN : HdrAt w N.p N.ng N.s := g.bank.all N.h (by simp [hN1])
 have HZ : HdrAt w Z.p Z.ng Z.s := g.bank.head
 have zN : Nz w N.s N.V := g.bank.all N.n (by simp [hN2])
 have zZ : Nz w Z.s Z.V := g.bank.tail.head
 have hne : Z.p ≠ N.p := HdrAt.ne (nq := N.ng) (t := N.s) g.bank (by simp [hN1])
 have dZN : Dj (fp Z.s) (fp N.s) := g.bank.tail.hdj (b := N.n) hN2
 refine ⟨X.p, 0, rfl, X.s.a, X.s.l, X.s.c, HX.c1, Y.p, 0, rfl, Y.ng, HY.c0, ?_⟩
 rw [hY]
 refine bc_false rfl fun B1 => F33.t1 (ptr Z.p) (ptr X.p) (ptr Y.p) (ptr N.p) false X.s.a X.s.l X.s.c ⟨rfl, rfl, rfl, rfl, rfl, rfl, trivial⟩ fun B2 => ⟨Y.p, 0, rfl, Y.s.a, Y.s.l, Y.s.c, HY.c1, false, rfl, bc_true rfl fun B3 => ?_⟩
 have c1 : Chg w w.drew none2 := Chg.drew0 w _
 have g1 := g.none c1
 have HZ1 : HdrAt w.drew Z.p Z.ng Z.s := g1.bank.head
 have HN1 : HdrAt w.drew N.p N.ng N.s := g1.bank.all N.h (by simp [hN1])
 refine F33.t5 (ptr Z.p) (ptr X.p) (ptr N.p) false X.s.a X.s.l X.s.c Y.s.a Y.s.l Y.s.c ⟨rfl, rfl, rfl, rfl, rfl, rfl, trivial⟩ fun B4 => ⟨false, ptrDiff HZ1.own.2 HN1.own.2 hne, bc_false rfl ⟨Z.p, 0, rfl, Z.s.a, Z.s.l, Z.s.c, HZ1.c1, N.p, 0, rfl, N.s.a, N.s.l, N.s.c, HN1.c1, (alias_no dZN (c1.st zZ.toSt) (c1.st zN.toSt)).mono ?_⟩⟩
 rintro e1 w1 ⟨rfl, hw⟩
 have c2 : Chg w.drew w1 none2 := by rw [hw]; exact Chg.drew0 _ _
 have g2 := g1.none c2
 refine ⟨_, rfl, ?_⟩
 show W Tryz.prog 137 F33.p2 _ w1 _
 refine F33.t2 (ptr Z.p) (ptr X.p) (ptr N.p) false X.s.a X.s.l X.s.c Y.s.a Y.s.l Y.s.c false ⟨rfl, rfl, rfl, rfl, rfl, rfl, rfl, trivial⟩ fun B5 => bc_false rfl fun B6 => ?_
 show W Tryz.prog 137 F33.p3 _ w1 _
 have HN2' : HdrAt w1 N.p N.ng N.s := g2.bank.all N.h (by simp [hN1])
 refine F33.t3 (ptr Z.p) (ptr X.p) (ptr N.p) false X.s.a X.s.l X.s.c Y.s.a Y.s.l Y.s.c ⟨rfl, rfl, rfl, rfl, rfl, rfl, trivial⟩ fun B7 => ⟨N.p, 0, rfl, N.s.a, N.s.l, N.s.c, HN2'.c1, fun B8 => ?_⟩
 show W Tryz.prog 137 F33.p4 _ w1 _
 have HZ2 : HdrAt w1 Z.p Z.ng Z.s := g2.bank.head
 have b2 : Bank w1 (Z.n :: Z.h :: M) := g2.bank.perm (List.Perm.swap _ _ _)
 refine F33.t4 (ptr Z.p) (ptr X.p) false X.s.a X.s.l X.s.c Y.s.a Y.s.l Y.s.c N.s.a N.s.l N.s.c ⟨rfl, rfl, rfl, rfl, rfl, rfl, trivial⟩ fun B9 => ⟨Z.p, 0, rfl, Z.s.a, Z.s.l, Z.s.c, HZ2.c1, ?_⟩
 refine c51n (z := Z.s) (x := X.s) (y := Y.s) (m := N.s) (X := X.V) (Y := Y.V) (M := N.V) b2 rfl (fun _ h => (h : Nz _ Z.s Z.V).toSt) (by simp [hX2]) (by simp [hY2]) (by simp [hN2]) hN0 lN lX lY (g2.ch.glb g2.hg) fun r w3 b3 s3 c3 => ⟨_, _, _, rfl, ?_⟩
 have b4 : Bank w3 (Z.h :: nmz r (X.V ^ Y.V % N.V) :: M) := b3.perm (List.Perm.swap _ _ _)
 have HZ3 : HdrAt w3 Z.p Z.ng Z.s := b4.head
 obtain ⟨b5, c5⟩ := hset1 b4 r
 have HZ5 : HdrAt (w3.setCell ⟨Z.p, 1, Option.none⟩ r.v) Z.p Z.ng r := b5.head
 have HX5 : HdrAt (w3.setCell ⟨Z.p, 1, Option.none⟩ r.v) X.p X.ng X.s := b5.all X.h (by simp [hX1])
 obtain ⟨b6, c6⟩ := hset0 b5 false
 have HZ6 : HdrAt ((w3.setCell ⟨Z.p, 1, Option.none⟩ r.v).setCell ⟨Z.p, 0, Option.none⟩ (.bool false)) Z.p false r := b6.head
 have fin : ∀ B', W Tryz.prog 137 F33.p6 (E [(0, .pointer (ptr Z.p))] B' []) ((w3.setCell ⟨Z.p, 1, Option.none⟩ r.v).setCell ⟨Z.p, 0, Option.none⟩ (.bool false)) (retK Tryz.prog [.tmp 10] fun v w' => Q (.returned v) w') := by
  intro B'
  refine F33.t6 (ptr Z.p) ⟨rfl, trivial⟩ fun B10 B11 => ret1 rfl rfl ?_
  have cz : Chg w0 w3 none2 := g2.ch.trans c3 (fun _ _ _ h => h) fun b i hb hm => by
   have := nZ.2 (by have := hm.2.1; have := hm.2.2; omega)
   have := hm.1; omega
  have ct : Chg w0 ((w3.setCell ⟨Z.p, 1, Option.none⟩ r.v).setCell ⟨Z.p, 0, Option.none⟩ (.bool false)) none2 := cz.trans (c5.trans' c6) (fun _ _ _ h => h) fun b i hb hm => by
   have hm : b = Z.p := hm
   have := nZ.1; omega
  refine q ⟨Z.p, false, r, X.V ^ Y.V % N.V⟩ _ rfl ⟨b6, ct, g.hg⟩ ⟨nZ.1, fun h0 => ?_⟩ rfl rfl
  have h0 : r.c ≠ 0 := h0
  show w0.heap.size ≤ r.b
  rcases Nat.lt_or_ge r.b w1.heap.size with hlt | hge
  ·obtain ⟨k1, k2, k3⟩ := s3 r.b r.o hlt ⟨rfl, Nat.le_refl _, by omega⟩
   have h1 := nZ.2 (by omega)
   rw [k1]; exact h1
  ·exact Nat.le_trans g2.ch.size hge
 refine ⟨Z.p, 0, rfl, ⟨_, HZ3.c1⟩, HZ3.f1, Z.p, 0, rfl, r.a, r.l, r.c, HZ5.c1, bc_intro (fun hb => ⟨X.p, 0, rfl, X.ng, HX5.c0, ?_⟩) (fun hb => ?_)⟩
 ·rw [hX]
  exact bc_false rfl ⟨Z.p, 0, rfl, ⟨_, HZ5.c0⟩, HZ5.f0, Z.p, 0, rfl, false, HZ6.c0, bc_false rfl fin⟩
 ·exact ⟨Z.p, 0, rfl, ⟨_, HZ5.c0⟩, HZ5.f0, Z.p, 0, rfl, false, HZ6.c0, bc_false rfl fin⟩
theorem c9 {x y m : Sl} {X Y N : Nat} (g : G w0 w M) (hx : Rd w x X) (hy : Rd w y Y) (hm : Rd w m N) (lx : x.l < 28) (ly : y.l ≤ 1000000) (lm : m.l < 28) (hN : N ≠ 0) {Q : Ending → World → Prop}
  (q : ∀ (r : Sl) w', G w0 w' (nmz r (X ^ Y % N) :: M) → Q (.returned (.tuple #[r.v, .bool true])) w') : Calls Tryz.prog 9 #[x.v, y.v, m.v] w Q := by
 refine (F9.call x.a x.l x.c y.a y.l y.c m.a m.l m.c w (fun v w' => Q (.returned v) w') fun B => ?_).mono fun e w' ⟨v, h1, h2⟩ => by rw [h1]; exact h2
 refine c17 g hm (by omega) fun N1 w1 g1 nN sN VN c1 => ⟨_, rfl, (c18 (J := N1) g1.bank (by simp) (by simp) sN (by omega)).mono ?_⟩
 rintro e1 w2 ⟨rfl, hw⟩
 have hw := hw.symm
 subst hw
 refine ⟨_, rfl, bc_false (eqF (by omega)) ?_⟩
 obtain ⟨g2, n2⟩ := newI g1
 obtain ⟨Z, hZ⟩ : ∃ Z : IR, Z = ⟨w1.heap.size, false, nilS w1, 0⟩ := ⟨_, rfl⟩
 rw [← hZ] at g2 n2
 have pZ : Z.p = w1.heap.size := by rw [hZ]
 have c2 : Chg w1 (w1.alloc (.cells #[Value.bool false, Value.slice Option.none 0 0] 47)) none2 := Chg.alloc _ _ (fun a => RowKit.frozen?_alloc_cells _ _ _ _) _
 have c12 := c1.trans' c2
 refine c17 g2 (c12.rd hx fun _ _ h => h) (by omega) fun X1 w3 g3 nX sX VX c3 => ⟨_, rfl, ?_⟩
 refine c17 g3 ((c12.trans' c3).rd hy fun _ _ h => h) ly fun Y1 w4 g4 nY sY VY c4 => ⟨_, rfl, ?_⟩
 have g5 : G w0 w4 (Z.h :: Z.n :: Y1.h :: Y1.n :: X1.h :: X1.n :: N1.h :: N1.n :: M) := g4.pick 6 [4, 5, 0, 1, 2, 3] rfl
 have zX : Nz w4 X1.s X1.V := g5.bank.all X1.n (by simp)
 have zY : Nz w4 Y1.s Y1.V := g5.bank.all Y1.n (by simp)
 have zN : Nz w4 N1.s N1.V := g5.bank.all N1.n (by simp)
 have lX : X1.s.l ≤ x.l := zX.nm _ (by rw [VX]; exact hx.lt)
 have lY : Y1.s.l ≤ y.l := zY.nm _ (by rw [VY]; exact hy.lt)
 have lN : N1.s.l ≤ m.l := zN.nm _ (by rw [VN]; exact hm.lt)
 have c20 : Calls Tryz.prog 20 #[.pointer (ptr Z.p), .pointer (ptr X1.p), .pointer (ptr Y1.p), .pointer (ptr N1.p)] w4 fun e w' => e = .returned (.pointer (ptr Z.p)) ∧ ∃ Z' : IR, Z'.p = Z.p ∧ G w0 w' (Z'.h :: Z'.n :: Y1.h :: Y1.n :: X1.h :: X1.n :: N1.h :: N1.n :: M) ∧ Z'.V = X ^ Y % N := by
  refine (F20.call (ptr Z.p) (ptr X1.p) (ptr Y1.p) (ptr N1.p) w4 (fun v w' => v = .pointer (ptr Z.p) ∧ ∃ Z' : IR, Z'.p = Z.p ∧ G w0 w' (Z'.h :: Z'.n :: Y1.h :: Y1.n :: X1.h :: X1.n :: N1.h :: N1.n :: M) ∧ Z'.V = X ^ Y % N) fun B => ?_).mono fun e w' ⟨v, h1, h2, h3⟩ => ⟨by rw [h1, h2], h3⟩
  refine c33 (X := X1) (Y := Y1) (N := N1) g5 n2 (by simp) (by simp) (by simp) (by simp) (by simp) (by simp) sX sY (by omega) (by omega) (by omega) (by omega) fun Z' w' p1 g6 nZ' sZ' VZ' => ⟨_, rfl, fun B2 => ret1 rfl rfl ⟨rfl, Z', p1, g6, by rw [VZ', VX, VY, VN]⟩⟩
 rw [← pZ]
 refine c20.mono ?_
 rintro e2 w5 ⟨rfl, Z', p1, g6, hV⟩
 refine ⟨_, rfl, ?_⟩
 rw [← p1]
 have zZ : Nz w5 Z'.s Z'.V := g6.bank.tail.head
 have lZ : Z'.s.l ≤ m.l := zZ.nm _ (by rw [hV]; exact Nat.lt_trans (Nat.mod_lt _ (by omega)) hm.lt)
 refine c19 (J := Z') g6 (by simp) (by simp) (by omega) fun r w6 g7 l7 c7 => ⟨_, _, _, rfl, fun B2 => ret2 rfl rfl rfl ?_⟩
 rw [hV] at g7
 exact q r w6 (g7.pick 9 [0] rfl)
end
end Go.Proofs.YtlkjiiibmfpbcaaGreatDoor
