/- A piece of function 33 whose order is not drawn out by direct edges: its condition. No condition. -/
import Derived.Test.YtlkjiiibmfpbcaaGreatDoorP32
import Derived.Test.YtlkjiiibmfpbcaaGreatDoorP42
import Derived.Test.YtlkjiiibmfpbcaaGreatDoorP41
namespace Go.Proofs.YtlkjiiibmfpbcaaGreatDoor
open Go
set_option maxRecDepth 100000
set_option linter.unusedVariables false
noncomputable def F33.o5 : Array Oper := regOps F33.p5
theorem F33.q5 : F33.p5 = .region 12 F33.o5 true := by kernel_rfl
def F33.tr5 : OT := (.one 0 (.one 1 (.one 2 (.one 3 (.one 4 (.one 5 (.one 6 (.one 7 (.one 8 (.one 9 (.one 10 (.one 11 (.one 12 (.one 13 .fin))))))))))))))
theorem F33.ok5 : treeB tab F33.o5 F33.tr5 = true := by kernel_rfl
def F33.v5 (z0 : Option Addr) (x1 : Option Addr) (m3 : Option Addr) (slow4 : Bool) (xWords11a : Option Addr) (xWords11l : Nat) (xWords11c : Nat) (yWords13a : Option Addr) (yWords13l : Nat) (yWords13c : Nat) (B : Nat → Value) (ds : List Deferred) (w : World) (K : Kont) : Prop :=
 (∃ q_1, ptrEq (World.drew w) z0 m3 q_1 ∧ (bc q_1 (K .normal (E [(64, .bool true), (63, undef), (54, .bool true), (62, undef), (54, .bool true), (61, undef), (54, .bool true), (60, undef), (54, .bool true), (59, undef), (54, .bool true), (58, undef), (54, .bool true), (57, undef), (54, .bool true), (56, undef), (54, .bool true), (55, undef), (54, .bool true), (54, .bool q_1), (53, .bool q_1), (52, .pointer m3), (51, .pointer z0), (0, (.pointer z0)), (1, (.pointer x1)), (3, (.pointer m3)), (4, (.bool slow4)), (11, (.slice xWords11a xWords11l xWords11c)), (13, (.slice yWords13a yWords13l yWords13c))] B ds) (World.drew w)) (nc z0 fun b_2 o_2 => (∃ x_2a, ∃ x_2l, ∃ x_2c, World.cell? (World.drew w) ⟨b_2, (o_2 + 1), none⟩ = some (.slice x_2a x_2l x_2c) ∧ (nc m3 fun b_3 o_3 => (∃ x_3a, ∃ x_3l, ∃ x_3c, World.cell? (World.drew w) ⟨b_3, (o_3 + 1), none⟩ = some (.slice x_3a x_3l x_3c) ∧ (Calls Tryz.prog 49 #[(.slice x_2a x_2l x_2c), (.slice x_3a x_3l x_3c)] (World.drew w) fun r_4 w_4 => (∃ x_4, r_4 = .returned (.bool x_4) ∧ K .normal (E [(64, .bool x_4), (63, (.bool x_4)), (54, .bool false), (62, (.slice x_3a x_3l x_3c)), (54, .bool false), (61, (.pointer (some ⟨b_3, (o_3 + 1), none⟩))), (54, .bool false), (60, (.pointer (some ⟨b_3, o_3, none⟩))), (54, .bool false), (59, (.pointer m3)), (54, .bool false), (58, (.slice x_2a x_2l x_2c)), (54, .bool false), (57, (.pointer (some ⟨b_2, (o_2 + 1), none⟩))), (54, .bool false), (56, (.pointer (some ⟨b_2, o_2, none⟩))), (54, .bool false), (55, (.pointer z0)), (54, .bool false), (54, .bool q_1), (53, .bool q_1), (52, .pointer m3), (51, .pointer z0), (0, (.pointer z0)), (1, (.pointer x1)), (3, (.pointer m3)), (4, (.bool slow4)), (11, (.slice xWords11a xWords11l xWords11c)), (13, (.slice yWords13a yWords13l yWords13c))] B ds) w_4))))))))
section
variable (z0 : Option Addr) (x1 : Option Addr) (m3 : Option Addr) (slow4 : Bool) (xWords11a : Option Addr) (xWords11l : Nat) (xWords11c : Nat) (yWords13a : Option Addr) (yWords13l : Nat) (yWords13c : Nat)
theorem F33.e5 (B : Nat → Value) (ds : List Deferred) (w : World) (K : Kont) : F33.v5 z0 x1 m3 slow4 xWords11a xWords11l xWords11c yWords13a yWords13l yWords13c B ds w K = vcO Tryz.prog tab 137 F33.o5 (fun e' w' => K .normal e' w') F33.tr5 (E (F33.l3 z0 x1 m3 slow4 xWords11a xWords11l xWords11c yWords13a yWords13l yWords13c) B ds) w.drew := by kernel_rfl
theorem F33.t5 {e : Env} {w : World} {K : Kont} (ha : agree e (F33.l3 z0 x1 m3 slow4 xWords11a xWords11l xWords11c yWords13a yWords13l yWords13c)) (h : ∀ B, F33.v5 z0 x1 m3 slow4 xWords11a xWords11l xWords11c yWords13a yWords13l yWords13c B e.defers w K) : W Tryz.prog 137 F33.p5 e w K := by
 rw [F33.q5]
 exact W_agree _ ha fun B => W_tree tabOk mixed F33.tr5 F33.ok5 (Eq.mp (F33.e5 z0 x1 m3 slow4 xWords11a xWords11l xWords11c yWords13a yWords13l yWords13c B _ w K) (h B))
end
end Go.Proofs.YtlkjiiibmfpbcaaGreatDoor
namespace Go.Proofs.YtlkjiiibmfpbcaaGreatDoor
open Go
theorem cell1_of {t e : TypeId} (ht : Tryz.prog.underlying t = some (.slice e)) {z : Value} (h : (Tryz.prog.info? e).map (fun i => (i.size, i.bytes, i.zero)) = some (1, 8, some z)) (hz : z.cells = #[z]) : Cell1 t e z := by
 refine ⟨ht, ?_, hz⟩
 cases hi : Tryz.prog.info? e with
 | none => rw [hi] at h; simp at h
 | some ie =>
  rw [hi] at h
  simp only [Option.map_some, Option.some.injEq, Prod.mk.injEq] at h
  exact ⟨ie, rfl, h.1, by omega, h.2.2⟩
theorem cell44 : Cell1 44 61 (.int .u64 0) := cell1_of Tryz.underlying44 (by kernel_rfl) rfl
theorem cell22 : Cell1 22 38 (.int .u64 0) := cell1_of Tryz.underlying22 (by kernel_rfl) rfl
theorem build1 {t e : TypeId} {z : Value} (ht : Cell1 t e z) (w : World) (v : Value) (h1 : v.cells = #[v]) : Sem.run Tryz.prog (Instr.buildSlice t 1 #[(0, v)]) w = .ok (.slice (some ⟨w.heap.size, 0, none⟩) 1 1) (w.alloc (.cells #[v] e)) := by
 obtain ⟨hu, ⟨ie, hi, hsz, hby, hzz⟩, hzc⟩ := ht
 refine run_buildSlice w t e 1 #[(0, v)] #[v] ie z hu hi hzz (by rw [hsz]; omega) (by rw [hsz]; omega) ?_
 rw [hsz]
 simp [Instr.fill, h1, hzc]
 apply Array.ext
 ·simp
 ·intro i h1 h2
  have h2 : i < 1 := by simpa using h2
  obtain rfl : i = 0 := by omega
  simp
theorem build0e {t e : TypeId} {z : Value} (ht : Cell1 t e z) (w : World) : Sem.run Tryz.prog (Instr.buildSlice t 0 #[]) w = .ok (.slice (some ⟨w.heap.size, 0, none⟩) 0 0) (w.alloc (.cells #[] e)) := by
 obtain ⟨hu, ⟨ie, hi, hsz, hby, hzz⟩, hzc⟩ := ht
 simp [Instr.buildSlice, run_underlying hu, sizeOf, typeInfo, hi, Instr.fill, newRow]
 exact congrArg (fun C => w.alloc (.cells C e)) (Array.ext (by simp) fun i h1 h2 => by simp at h2)
theorem appAll {t e : TypeId} {z : Value} (ht : Cell1 t e z) (b0 : Nat) (x : Sl) (X : Nat) (w : World) (hg : GB ≤ w.heap.size) (hx : Rd w x X) (ha : x.a ≠ none) (hl : x.l ≤ 1099511627776) (hb : plainAt w b0) (hbg : GB ≤ b0) :
  ∃ (r : Sl) (w' : World), Sem.run Tryz.prog (builtin .append #[t, t] t #[false, false] #[.slice (some ⟨b0, 0, none⟩) 0 0, x.v]) w = .ok (.value r.v) w' ∧ Nt w' r X ∧ r.l = x.l ∧ (r.c ≠ 0 → w.heap.size ≤ r.b) ∧ Chg w w' none2 := by
 obtain ⟨hu, ⟨ie, hi, hsz, hby, hzz⟩, hzc⟩ := ht
 obtain ⟨a, haa⟩ : ∃ a, x.a = some a := Option.ne_none_iff_exists'.1 ha
 have key : ∀ (r : Sl) (w' : World), (Builtin.append_ #[t, t] t #[.slice (some ⟨b0, 0, none⟩) 0 0, x.v]).run Tryz.prog w = .ok r.v w' → Sem.run Tryz.prog (builtin .append #[t, t] t #[false, false] #[.slice (some ⟨b0, 0, none⟩) 0 0, x.v]) w = .ok (.value r.v) w' := fun r w' h => by
  rw [BigFrame.builtin_append]
  simp only [Sem.run_bind, h]
  rfl
 have hxv : x.v = .slice (some a) x.l x.c := by unfold Sl.v; rw [haa]
 by_cases h0 : x.l = 0
 ·have hr := run_append_room_cells (P := Tryz.prog) w t t e ie hu hi b0 0 0 0 a x.l x.c [] (by simp [h0]) (by simp) (by simp) (by omega) (by simp) (by simp)
  have hX : X = 0 := by have := hx.lt; rw [h0] at this; simpa using this
  refine ⟨⟨some ⟨b0, 0, none⟩, 0, 0, b0, 0⟩, w, key ⟨some ⟨b0, 0, none⟩, 0, 0, b0, 0⟩ w ?_, ?_, h0.symm, fun h => absurd rfl h, Chg.refl _ _⟩
  ·rw [hxv, hr, h0]; rfl
  ·subst hX
   exact { lc := Nat.le_refl _, at_ := fun h => absurd rfl h, wr := Wr.zero, pl := fun h => absurd rfl h, cm := Nat.zero_le _, gb := hg, sg := Sg.zero, lt := BBpow_pos _ }
 ·have hat := hx.at_ h0
  rw [haa] at hat
  have hat := Option.some.inj hat
  subst hat
  have hr := run_append_grow (P := Tryz.prog) w t t e ie z hu hi hzz ⟨b0, 0, none⟩ 0 0 [] (by simp) (by simp) ⟨x.b, x.o, none⟩ x.l x.c (digs X x.l) (by rw [digs_len, hsz, Nat.mul_one]) (fun j v hv => by
    by_cases hj : j < x.l
    ·have hv := Option.some.inj ((digs_get X x.l j hj).symm.trans hv); subst hv
     rw [addr_add]
     exact hx.sg j hj
    ·rw [List.getElem?_eq_none (by rw [digs_len]; omega)] at hv; exact absurd hv (by simp)) (by omega) (by omega) (growslice_fits (by omega) (Nat.le_trans (Nat.mul_le_mul_left _ hby) (by omega)))
  rw [Nat.zero_add] at hr
  have hge := grownCap_ge w x.l 0 e
  have hle := grownCap_le_maxLen w x.l 0 e (by unfold maxLen; omega)
  unfold maxLen at hle
  obtain ⟨cap, hcap⟩ : ∃ cap, cap = grownCap w x.l 0 e := ⟨_, rfl⟩
  rw [← hcap] at hr hge hle
  have hsize : ((#[] : Array Value) ++ (digs X x.l).toArray ++ Builtin.zeroCells z.cells (cap - x.l)).size = cap := by
   rw [hzc]; simp [Builtin.zeroCells, digs_len]; omega
  obtain ⟨C, hC⟩ : ∃ C, C = (#[] : Array Value) ++ (digs X x.l).toArray ++ Builtin.zeroCells z.cells (cap - x.l) := ⟨_, rfl⟩
  have hr' : (Builtin.append_ #[t, t] t #[.slice (some ⟨b0, 0, none⟩) 0 0, .slice (some ⟨x.b, x.o, none⟩) x.l x.c]).run Tryz.prog w = .ok (.slice (some ⟨w.heap.size, 0, none⟩) x.l cap) (w.drew.alloc (.cells C e)) := by rw [hC]; exact hr
  rw [← hC] at hsize
  have hst := row_st w.drew hg C e x.l (by rw [hsize]; exact hge) (by rw [hsize]; omega)
  rw [hsize] at hst
  have hh : (w.drew.alloc (.cells C e)).heap[w.heap.size]? = some (.cells C e (0, 0)) := heap_alloc_new w.drew _
  refine ⟨⟨some ⟨w.heap.size, 0, none⟩, x.l, cap, w.heap.size, 0⟩, _, key ⟨some ⟨w.heap.size, 0, none⟩, x.l, cap, w.heap.size, 0⟩ _ (by rw [hxv]; exact hr'), { hst with sg := fun i hi => ?_, lt := hx.lt }, rfl, fun _ => Nat.le_refl _, (Chg.drew0 w _).trans' (Chg.alloc w.drew _ (fun a => RowKit.frozen?_alloc_cells w.drew _ _ a) _)⟩
  have hi : i < x.l := hi
  show (w.drew.alloc _).cell? ⟨w.heap.size, 0 + i, none⟩ = _
  rw [cell_eq, hh, Nat.zero_add]
  show C[i]? = _
  rw [hC, Array.getElem?_append_left (by simp [digs_len]; omega)]
  simpa using digs_get X x.l i hi
theorem c43 (x : Sl) (X : Nat) (w : World) (hg : GB ≤ w.heap.size) (hx : Rd w x X) (hl : x.l ≤ 1099511627776) :
  Calls Tryz.prog 43 #[x.v] w fun e w' => ∃ r : Sl, e = .returned r.v ∧ Nt w' r X ∧ r.l = x.l ∧ (r.c ≠ 0 → w.heap.size ≤ r.b) ∧ Chg w w' none2 := by
 refine (F43.call x.a x.l x.c w (fun v w' => ∃ r : Sl, v = r.v ∧ Nt w' r X ∧ r.l = x.l ∧ (r.c ≠ 0 → w.heap.size ≤ r.b) ∧ Chg w w' none2) fun B => bc_intro (fun hb B1 => ?_) (fun hb => ?_)).mono fun e w' ⟨v, h1, r, h2, h3⟩ => ⟨r, by rw [h1, h2], h3⟩
 ·have h0 : x.l = 0 := by
   rcases Nat.eq_zero_or_pos x.l with h | h
   ·exact h
   ·have := hx.at_ (by omega); rw [this] at hb; cases hb
  have hX : X = 0 := by have := hx.lt; rw [h0] at this; simpa using this
  refine ret1 rfl rfl ⟨nilS w, rfl, ?_, h0.symm, fun h => absurd rfl h, Chg.refl _ _⟩
  rw [hX]
  have h0 : Nz w (nilS w) 0 := nz_zero (nilSt w hg)
  exact h0.toNt
 ·have ha : x.a ≠ none := fun h => by rw [h] at hb; cases hb
  have c1 : Chg w (w.alloc (.cells #[] 38)) none2 := Chg.alloc _ _ (fun a => RowKit.frozen?_alloc_cells _ _ _ _) _
  have hh : (w.alloc (.cells #[] 38)).heap[w.heap.size]? = some (.cells #[] 38 (0, 0)) := heap_alloc_new ..
  obtain ⟨r, w', r1, r2, r3, r4, r5⟩ := appAll cell22 w.heap.size x X (w.alloc (.cells #[] 38)) (Nat.le_trans hg c1.size) (c1.rd hx fun _ _ h => h) ha hl ⟨_, _, hh⟩ hg
  exact ⟨_, ⟨_, _, _, build0e cell22 w, w', r.a, r.l, r.c, r1, fun B2 => ret1 rfl rfl ⟨r, rfl, r2, r3, fun h => Nat.le_trans c1.size (r4 h), c1.trans' r5⟩⟩⟩
theorem alloc_ntT (w : World) (hg : GB ≤ w.heap.size) (n e : Nat) (hc : n ≤ 281474976710656) :
  Nt (w.alloc (.cells (madeCells #[(Value.int IntKind.u64 0)] n) e)) ⟨some ⟨w.heap.size, 0, none⟩, n, n, w.heap.size, 0⟩ 0 := by
 have hst := row_st w hg (madeCells #[(Value.int IntKind.u64 0)] n) e n (by rw [size_madeCells]; exact Nat.le_refl _) (by rw [size_madeCells]; omega)
 rw [size_madeCells] at hst
 refine { hst with sg := fun i hi => ?_, lt := BBpow_pos _ }
 have hi : i < n := hi
 have hh : (w.alloc (.cells (madeCells #[(Value.int IntKind.u64 0)] n) e)).heap[w.heap.size]? = some (.cells (madeCells #[(Value.int IntKind.u64 0)] n) e (0, 0)) := heap_alloc_new ..
 rw [cell_eq]
 show (match (w.alloc (.cells (madeCells #[(Value.int IntKind.u64 0)] n) e)).heap[w.heap.size]? with
  | some (.cells c _ _) => c[0 + i]?
  | _ => none) = _
 rw [hh, dg_zero]
 simp [madeCells, hi, Nat.mod_one]
theorem copy_step {w wr : World} {z x : Sl} {X V i : Nat} (h : Bank wr [num z V]) (hx : Rd w x X) (hc : Chg w wr none2) (hz : w.heap.size ≤ z.b) (hi : i < z.l) (hV : V % BB ^ i = X % BB ^ i) :
  Bank (wr.setCell ⟨z.b, z.o + i, none⟩ (.int .u64 (dg X i : Int))) [num z (setD V i (dg X i))] ∧ setD V i (dg X i) % BB ^ (i + 1) = X % BB ^ (i + 1) ∧ Chg w (wr.setCell ⟨z.b, z.o + i, none⟩ (.int .u64 (dg X i : Int))) none2 := by
 obtain ⟨b1, c1⟩ := setD_bank h hi (dg_lt X i)
 refine ⟨b1, ?_, hc.trans c1 (fun _ _ _ h => h) fun b i hb hm => by have := hm.1; omega⟩
 rw [setD_lo _ _ _ (dg_lt X i), hV, mod_succ]
theorem c40 (x : Sl) (X : Nat) (w : World) (hg : GB ≤ w.heap.size) (hx : Rd w x X) (hl : x.l ≤ 1099511627776) :
  Calls Tryz.prog 40 #[x.v] w fun e w' => ∃ r : Sl, e = .returned r.v ∧ Nt w' r X ∧ r.l = x.l ∧ w.heap.size ≤ r.b ∧ Chg w w' none2 := by
 refine (F40.call x.a x.l x.c w (fun v w' => ∃ r : Sl, v = r.v ∧ Nt w' r X ∧ r.l = x.l ∧ w.heap.size ≤ r.b ∧ Chg w w' none2) fun B => ⟨x.l, x.l, rfl, rfl, Nat.le_refl _, by omega, by omega, fun B1 => ?_⟩).mono fun e w' ⟨v, h1, r, h2, h3⟩ => ⟨r, by rw [h1, h2], h3⟩
 obtain ⟨z, hz⟩ : ∃ z : Sl, z = ⟨some ⟨w.heap.size, 0, none⟩, x.l, x.l, w.heap.size, 0⟩ := ⟨_, rfl⟩
 have c1 : Chg w (w.alloc (.cells (madeCells #[(Value.int IntKind.u64 0)] x.l) 61)) none2 := Chg.alloc _ _ (alloc_froz w _) _
 have b1 : Bank (w.alloc (.cells (madeCells #[(Value.int IntKind.u64 0)] x.l) 61)) [num z 0] := by rw [hz]; exact ⟨by simp; exact alloc_ntT w hg x.l 61 (by omega), by simp⟩
 have hzl : z.l = x.l := by rw [hz]
 have hzb : z.b = w.heap.size := by rw [hz]
 have hzv : (Value.slice (some ⟨w.heap.size, 0, none⟩) x.l x.l) = z.v := by rw [hz]
 rw [F40.q3]
 refine W_for' (σ := Nat) (fun i => F40.l2 z.a z.l z.c x.a x.l x.c x.l i) (fun i w' => i ≤ x.l ∧ Chg w w' none2 ∧ ∃ V, Bank w' [num z V] ∧ V % BB ^ i = X % BB ^ i) (fun i => x.l - i) 0 ⟨hzv, rfl, rfl, rfl, trivial⟩ ⟨Nat.zero_le _, c1, 0, b1, by simp [Nat.mod_one]⟩ ?_
 rintro i B wr K2 ⟨hi, hc, V, hb, hV⟩ hKn hKe _
 have hx1 := hc.rd hx (fun _ _ h => h)
 have hzP : Nt wr z V := hb.head
 refine F40.t2 z.a z.l z.c x.a x.l x.c x.l i ⟨rfl, rfl, rfl, rfl, trivial⟩ fun B2 => bc_intro (fun hb' => ?_) (fun hb' B3 => ?_)
 ·have hlt : i < x.l := by have := dT hb'; omega
  obtain ⟨b2, e2, c2⟩ := copy_step hb hx hc (by omega) (by omega) hV
  exact rdC (k := i) (hx.at_ (by omega)) rfl hlt (hx1.sg i hlt) (wtC (k := i) hzP.wt rfl (by omega) ⟨by unfold inI64; omega, fun B3 => hKn _ _ (i + 1) ⟨rfl, rfl, rfl, intv (by omega), trivial⟩ rfl ⟨hlt, c2, _, b2, e2⟩ (by show x.l - (i + 1) < x.l - i; omega)⟩)
 ·have hil : i = x.l := by have := dF hb'; omega
  subst hil
  refine hKe _ _ ?_
  show W Tryz.prog 22 F40.p1 _ wr _
  refine F40.t1 z.a z.l z.c ⟨rfl, trivial⟩ fun B4 B5 => ret1 rfl rfl ⟨z, rfl, ?_, hzl, by omega, hc⟩
  have := hzP.lt
  rw [hzl] at this
  rw [Nat.mod_eq_of_lt this, Nat.mod_eq_of_lt hx.lt] at hV
  rw [← hV]; exact hzP
theorem c62 (x : Sl) (X : Nat) (w : World) (hg : GB ≤ w.heap.size) (hx : Rd w x X) (hl : x.l ≤ 1099511627776) :
  Calls Tryz.prog 62 #[x.v] w fun e w' => ∃ r : Sl, e = .returned r.v ∧ Nt w' r X ∧ r.l = x.l ∧ w.heap.size ≤ r.b ∧ Chg w w' none2 := by
 refine (F62.call x.a x.l x.c w (fun v w' => ∃ r : Sl, v = r.v ∧ Nt w' r X ∧ r.l = x.l ∧ w.heap.size ≤ r.b ∧ Chg w w' none2) fun B => ⟨x.l, x.l, rfl, rfl, Nat.le_refl _, by omega, by omega, fun B1 => ?_⟩).mono fun e w' ⟨v, h1, r, h2, h3⟩ => ⟨r, by rw [h1, h2], h3⟩
 obtain ⟨z, hz⟩ : ∃ z : Sl, z = ⟨some ⟨w.heap.size, 0, none⟩, x.l, x.l, w.heap.size, 0⟩ := ⟨_, rfl⟩
 have c1 : Chg w (w.alloc (.cells (madeCells #[(Value.int IntKind.u64 0)] x.l) 38)) none2 := Chg.alloc _ _ (fun a => RowKit.frozen?_alloc_cells _ _ _ _) _
 have b1 : Bank (w.alloc (.cells (madeCells #[(Value.int IntKind.u64 0)] x.l) 38)) [num z 0] := by rw [hz]; exact ⟨by simp; exact alloc_ntT w hg x.l 38 (by omega), by simp⟩
 have hzl : z.l = x.l := by rw [hz]
 have hzb : z.b = w.heap.size := by rw [hz]
 have hzv : (Value.slice (some ⟨w.heap.size, 0, none⟩) x.l x.l) = z.v := by rw [hz]
 rw [F62.q3]
 refine W_for' (σ := Nat) (fun i => F62.l2 z.a z.l z.c x.a x.l x.c x.l i) (fun i w' => i ≤ x.l ∧ Chg w w' none2 ∧ ∃ V, Bank w' [num z V] ∧ V % BB ^ i = X % BB ^ i) (fun i => x.l - i) 0 ⟨hzv, rfl, rfl, rfl, trivial⟩ ⟨Nat.zero_le _, c1, 0, b1, by simp [Nat.mod_one]⟩ ?_
 rintro i B wr K2 ⟨hi, hc, V, hb, hV⟩ hKn hKe _
 have hx1 := hc.rd hx (fun _ _ h => h)
 have hzP : Nt wr z V := hb.head
 refine F62.t2 z.a z.l z.c x.a x.l x.c x.l i ⟨rfl, rfl, rfl, rfl, trivial⟩ fun B2 => bc_intro (fun hb' => ?_) (fun hb' B3 => ?_)
 ·have hlt : i < x.l := by have := dT hb'; omega
  obtain ⟨b2, e2, c2⟩ := copy_step hb hx hc (by omega) (by omega) hV
  exact rdC (k := i) (hx.at_ (by omega)) rfl hlt (hx1.sg i hlt) (wtC (k := i) hzP.wt rfl (by omega) ⟨by unfold inI64; omega, fun B3 => hKn _ _ (i + 1) ⟨rfl, rfl, rfl, intv (by omega), trivial⟩ rfl ⟨hlt, c2, _, b2, e2⟩ (by show x.l - (i + 1) < x.l - i; omega)⟩)
 ·have hil : i = x.l := by have := dF hb'; omega
  subst hil
  refine hKe _ _ ?_
  show W Tryz.prog 22 F62.p1 _ wr _
  refine F62.t1 z.a z.l z.c ⟨rfl, trivial⟩ fun B4 B5 => ret1 rfl rfl ⟨z, rfl, ?_, hzl, by omega, hc⟩
  have := hzP.lt
  rw [hzl] at this
  rw [Nat.mod_eq_of_lt this, Nat.mod_eq_of_lt hx.lt] at hV
  rw [← hV]; exact hzP
theorem c27 (x : Sl) (X : Nat) (w : World) (hg : GB ≤ w.heap.size) (hx : Rd w x X) (hl : x.l ≤ 1099511627776) :
  Calls Tryz.prog 27 #[x.v] w fun e w' => ∃ r : Sl, e = .returned r.v ∧ Nz w' r X ∧ r.l ≤ x.l ∧ w.heap.size ≤ r.b ∧ Chg w w' none2 := by
 refine (F27.call x.a x.l x.c w (fun v w' => ∃ r : Sl, v = r.v ∧ Nz w' r X ∧ r.l ≤ x.l ∧ w.heap.size ≤ r.b ∧ Chg w w' none2) fun B => ?_).mono fun e w' ⟨v, h1, r, h2, h3⟩ => ⟨r, by rw [h1, h2], h3⟩
 refine (c43 x X w hg hx hl).mono ?_
 rintro e1 w1 ⟨r1, rfl, n1, l1, g1, c1⟩
 refine ⟨_, _, _, rfl, ?_⟩
 have : Calls Tryz.prog 42 #[r1.v] w1 fun e w' => ∃ r : Sl, e = .returned r.v ∧ Nz w' r X ∧ r.l ≤ x.l ∧ w.heap.size ≤ r.b ∧ Chg w w' none2 := by
  refine (F42.call r1.a r1.l r1.c w1 (fun v w' => ∃ r : Sl, v = r.v ∧ Nz w' r X ∧ r.l ≤ x.l ∧ w.heap.size ≤ r.b ∧ Chg w w' none2) fun B => ?_).mono fun e w' ⟨v, h1, r, h2, h3⟩ => ⟨r, by rw [h1, h2], h3⟩
  refine (c40 r1 X w1 (Nat.le_trans hg c1.size) n1.rd (by omega)).mono ?_
  rintro e2 w2 ⟨r2, rfl, n2, l2, g2, c2⟩
  refine ⟨_, _, _, rfl, (c46 r2 X w2 n2 (by omega)).mono ?_⟩
  rintro e3 w3 ⟨_, rfl, k, hk, rfl, hw, n3⟩
  have hw := hw.symm
  subst hw
  have hkl : (r2.to k).l = k := rfl
  have c12 := c1.trans' c2
  refine ⟨_, _, _, rfl, (c62 (r2.to k) X w2 (Nat.le_trans hg c12.size) n3.toNt.rd (by omega)).mono ?_⟩
  rintro e4 w4 ⟨r4, rfl, n4, l4, g4, c4⟩
  refine ⟨_, _, _, rfl, fun B2 => ret1 rfl rfl ⟨r4, rfl, { n4 with nm := n3.nm.of_len l4 }, by omega, Nat.le_trans c12.size g4, c12.trans' c4⟩⟩
 refine this.mono ?_
 rintro e2 w2 ⟨r, rfl, h2⟩
 exact ⟨_, _, _, rfl, fun B2 => ret1 rfl rfl ⟨r, rfl, h2⟩⟩
end Go.Proofs.YtlkjiiibmfpbcaaGreatDoor
