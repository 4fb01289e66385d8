/- What the cards share: arguments read as numbers, laid numbers, what a change of new memory leaves. No conditions. -/
import Derived.ProofKit
import Derived.OpenShut
import Derived.LaidMore
import Derived.Lay
import Derived.OpenVars
import Derived.SevenTiedAt
import Derived.Stop.Joined
import Derived.Test.YtlkjiiibmfpbcaaGreatDoorR08
import Derived.Test.YtlkjiiibmfpbcaaGreatDoorTie
import Derived.Test.YtlkjiiibmfpbcaaGreatDoorCards
import Derived.Test.YtlkjiiibmfpbcaaGreatDoorR45
namespace Go.Proofs.YtlkjiiibmfpbcaaGreatDoor
open Go
open Go.ChangeShapes Go.WideShapes Go.ChangeAt Go.RowKit
theorem ownNone : ownKnob Tryz.prog.godebug = none := by kernel_rfl
theorem laidOut : laidOutB Tryz.prog = true := by kernel_rfl
def wordsV : List Int → Nat
 | [] => 0
 | z :: zs => z.toNat + BB * wordsV zs
theorem wordsV_lt : ∀ zs : List Int, (∀ z ∈ zs, 0 ≤ z ∧ z < 18446744073709551616) → wordsV zs < BB ^ zs.length
 | [], _ => by simp [wordsV]
 | z :: zs, h => by
  have h1 := h z (by simp)
  have h2 := wordsV_lt zs fun y hy => h y (by simp [hy])
  have h3 : BB * wordsV zs + BB ≤ BB * BB ^ zs.length := by rw [← Nat.mul_succ]; exact Nat.mul_le_mul_left _ h2
  simp only [wordsV, List.length_cons]
  rw [Nat.pow_succ, Nat.mul_comm (BB ^ zs.length)]
  have h4 : BB = 18446744073709551616 := rfl
  omega
theorem wordsV_dg : ∀ (zs : List Int), (∀ z ∈ zs, 0 ≤ z ∧ z < 18446744073709551616) → ∀ i, i < zs.length → (dg (wordsV zs) i : Int) = zs.getD i 0
 | [], _, i, hi => by simp at hi
 | z :: zs, h, i, hi => by
  have h1 := h z (by simp)
  have hz : z.toNat < BB := by have h4 : BB = 18446744073709551616 := rfl; omega
  cases i with
  | zero =>
   have := dg_add_lo z.toNat (wordsV zs) 1 0 (by omega)
   rw [Nat.pow_one] at this
   simp only [wordsV]
   rw [this, dg_self _ hz]
   simp; omega
  | succ i =>
   have := dg_add_hi z.toNat (wordsV zs) 1 i (by rw [Nat.pow_one]; exact hz)
   rw [Nat.pow_one, Nat.add_comm 1 i] at this
   simp only [wordsV]
   rw [this, wordsV_dg zs (fun y hy => h y (by simp [hy])) i (by simpa using hi)]
   simp
theorem wf_u64 {z : Int} (h : (Lit.int .u64 z).wf = true) : 0 ≤ z ∧ z < 18446744073709551616 := by
 have : 0 ≤ z ∧ z ≤ 18446744073709551615 := by simpa [Lit.wf, IntKind.min, IntKind.max, IntKind.signed, IntKind.bits] using h
 omega
theorem arg_rd {H : Type} {enc : TypeId × Value → H} {W : World} {a : Option Addr} {l c : Nat} {d : DataW H} {p : List MemPlace} (h : DataW.Trod enc Tryz.prog W 0 (fun _ => true) true 22 (.slice a l c) d p) : ∃ (s : Sl) (X : Nat), s.v = .slice a l c ∧ Rd W s X := by
 obtain ⟨fuel, hf⟩ := h
 rcases open_ints Tryz.underlying22 Tryz.underlying38 (by kernel_rfl) hf with ⟨hcs, _⟩ | ⟨x, l', c', zs, hcs, _, hl, hm, hz, _, hcell, hwz⟩
 ·simp [Value.cells] at hcs
  obtain ⟨rfl, rfl, rfl⟩ := hcs
  exact ⟨⟨none, 0, 0, 0, 0⟩, 0, rfl, fun h => absurd rfl h, Sg.zero, BBpow_pos _⟩
 ·simp [Value.cells] at hcs
  obtain ⟨rfl, rfl, rfl⟩ := hcs
  have hz : zs.length = c := by simpa using hz
  by_cases h0 : l = 0
  ·subst h0
   exact ⟨⟨some x, 0, c, 0, 0⟩, 0, rfl, fun h => absurd rfl h, Sg.zero, BBpow_pos _⟩
  ·obtain ⟨b, off, spot⟩ := x
   have hc0 := hcell 0 (by omega)
   have hspot : spot = none := by simpa [Addr.add] using World.cell?_spot hc0
   subst hspot
   have ht : ∀ z ∈ zs.take l, 0 ≤ z ∧ z < 18446744073709551616 := fun z hz => wf_u64 (hwz z (List.mem_of_mem_take hz))
   have hlen : (zs.take l).length = l := by rw [List.length_take]; omega
   refine ⟨⟨some ⟨b, off, none⟩, l, c, b, off⟩, wordsV (zs.take l), rfl, fun _ => rfl, fun i hi => ?_, ?_⟩
   ·have hi : i < l := hi
    have h1 := hcell i (by omega)
    rw [addr_add] at h1
    rw [wordsV_dg _ ht i (by omega), h1]
    simp [List.getD, List.getElem?_take, hi]
   ·have := wordsV_lt _ ht
    rw [hlen] at this; exact this
theorem trodVars_len {H : Type} {enc : TypeId × Value → H} {P : Program} {w : World} {sp : Nat → Bool} : ∀ {ns : List String} {gs : List (DataW H)} {ps : List MemPlace}, DataW.TrodVars enc P w sp ns gs ps → gs.length = ns.length
 | [], [], _, _ => rfl
 | [], _ :: _, _, h => h.elim
 | _ :: _, [], _, h => h.elim
 | n :: ns, d :: ds, ps, h => by
  obtain ⟨g, t, cs, fuel, p, q, h1, h2, h3, h4, hs, e⟩ := h
  simp [trodVars_len hs]
theorem laid_int {W : World} {n : String} {g : Nat} {k : Int} {cs : Array Value} {fuel : Nat} {p : List MemPlace} (hg : Tryz.prog.globalNamed n = some g) (hv : W.var? Tryz.prog n = some cs)
  (hd : DataW.trod (fun _ => ()) Tryz.prog W 0 (fun _ => true) false fuel 3 cs.toList = some (.lit (.int .i64 k), p)) : W.cell? ⟨g, 0, none⟩ = some (.int .i64 k) := by
 obtain ⟨z, e1, e2, _⟩ := DataW.trod_int Tryz.underlying3 hd
 have e3 : k = z := by
  have := (Prod.mk.inj e2).1
  simp only [DataW.lit.injEq, Lit.int.injEq, true_and] at this
  exact this
 rw [World.var?_cell hg hv 0, e3]
 have : cs.toList[0]? = some (.int .i64 z) := by rw [e1]; rfl
 simpa using this
end Go.Proofs.YtlkjiiibmfpbcaaGreatDoor
namespace Go.Proofs.YtlkjiiibmfpbcaaGreatDoor
open Go
open Go.ChangeShapes Go.WideShapes Go.ChangeAt Go.RowKit
theorem below_of_qt {W W' : World} (h : Qt W W') : Below W.heap.size W { W' with tape := W.tape } :=
 ⟨h.os, rfl, h.output, h.size, h.heap⟩
theorem kept_of_qt {W W' : World} (h : Qt W W') (may : MemPlace → Prop) : W.keptBut W' may := by
 refine ⟨h.os, h.output, fun i hi => ?_⟩
 rw [h.heap i hi]
 split <;> simp_all
theorem glc_of_laid {W : World} (h : laidMetH Tryz.prog Rows.fnItoaRow.laid W) : Glc W := by
 rw [MakeChecks.laidMetH_plain _ _ _ (by kernel_rfl)] at h
 obtain ⟨ps, ⟨g1, t1, cs1, f1, p1, q1, hg1, ht1, hv1, hd1, ⟨g2, t2, cs2, f2, p2, q2, hg2, ht2, hv2, hd2, ⟨g0, t0, cs0, f0, p0, q0, hg0, ht0, hv0, hd0, ⟨g3, t3, cs3, f3, p3, q3, hg3, ht3, hv3, hd3, ⟨g4, t4, cs4, f4, p4, q4, hg4, ht4, hv4, hd4, ⟨g5, t5, cs5, f5, p5, q5, hg5, ht5, hv5, hd5, ⟨g6, t6, cs6, f6, p6, q6, hg6, ht6, hv6, hd6, _, _⟩, _⟩, _⟩, _⟩, _⟩, _⟩, _⟩, _, _⟩ := h
 obtain rfl := Option.some.inj ((show Tryz.prog.globalNamed "math/bits.deBruijn64tab" = some 7 by kernel_rfl).symm.trans hg2)
 obtain rfl := Option.some.inj ((show Tryz.prog.globalNamed "loop.example/pub-g03246/pub/big2.leafSize" = some 2 by kernel_rfl).symm.trans hg0)
 obtain rfl := Option.some.inj ((show Tryz.prog.globalNamed "loop.example/pub-g03246/pub/big2.divRecursiveThreshold" = some 10 by kernel_rfl).symm.trans hg3)
 obtain rfl := Option.some.inj ((show Tryz.prog.globalNamed "loop.example/pub-g03246/pub/big2.karatsubaThreshold" = some 5 by kernel_rfl).symm.trans hg4)
 obtain rfl := Option.some.inj ((show Tryz.prog.globalNamed "loop.example/pub-g03246/pub/big2.basicSqrThreshold" = some 3 by kernel_rfl).symm.trans hg5)
 obtain rfl := Option.some.inj ((show Tryz.prog.globalNamed "loop.example/pub-g03246/pub/big2.karatsubaSqrThreshold" = some 4 by kernel_rfl).symm.trans hg6)
 obtain rfl := Option.some.inj ((show (Tryz.prog.globals[2]?).map (·.type) = some 3 by kernel_rfl).symm.trans ht0)
 obtain rfl := Option.some.inj ((show (Tryz.prog.globals[10]?).map (·.type) = some 3 by kernel_rfl).symm.trans ht3)
 obtain rfl := Option.some.inj ((show (Tryz.prog.globals[5]?).map (·.type) = some 3 by kernel_rfl).symm.trans ht4)
 obtain rfl := Option.some.inj ((show (Tryz.prog.globals[3]?).map (·.type) = some 3 by kernel_rfl).symm.trans ht5)
 obtain rfl := Option.some.inj ((show (Tryz.prog.globals[4]?).map (·.type) = some 3 by kernel_rfl).symm.trans ht6)
 refine ⟨⟨fun r hr => ?_, laid_int hg5 hv5 hd5, laid_int hg6 hv6 hd6, laid_int hg4 hv4 hd4, laid_int hg3 hv3 hd3⟩, laid_int hg0 hv0 hd0⟩
 obtain rfl := Option.some.inj ((show (Tryz.prog.globals[7]?).map (·.type) = some 160 by kernel_rfl).symm.trans ht2)
 obtain ⟨xs, m, _, ex, _, hl, hel⟩ := DataW.trod_array Tryz.underlying160 hd2
 have c5 : Tryz.prog.cellsOf 5 = 1 := by kernel_rfl
 have hE := hel r hr
 rw [c5, Nat.mul_one, List.getElem?_eq_getElem (by omega)] at hE
 obtain ⟨z, e1, e2, _⟩ := DataW.trod_int Tryz.underlying5 hE
 have hlen : tab64.length = 64 := by kernel_rfl
 have e3 : (xs.map (·.1)) = tab64.map fun n => (.lit (.int .u8 (n : Nat)) : DataW Unit) := (DataW.agg.inj (Prod.mk.inj ex).1).symm
 have e4 : (xs.map (·.1))[r]? = (tab64.map fun n => (.lit (.int .u8 (n : Nat)) : DataW Unit))[r]? := by rw [e3]
 rw [List.getElem?_map, List.getElem?_map, List.getElem?_eq_getElem (by omega : r < xs.length), List.getElem?_eq_getElem (by omega : r < tab64.length), e2] at e4
 have hz : z = (tab64.getD r 0 : Nat) := by
  simp only [Option.map_some, Option.some.injEq, DataW.lit.injEq, Lit.int.injEq, true_and] at e4
  rw [e4, List.getD, List.getElem?_eq_getElem (by omega : r < tab64.length)]; rfl
 rw [World.var?_cell hg2 hv2 r, ← hz]
 have : cs2.toList[r]? = some (.int .u8 z) := by
  have h0 : ((cs2.toList.drop r).take 1)[0]? = some (.int .u8 z) := by rw [e1]; rfl
  simpa using h0
 simpa using this
set_option maxRecDepth 100000 in
theorem fnItoa_lifted (os : Os) (started : os.Started) (H : Type) (enc : TypeId × Value → H) :
  ReturnsInHanded {} Tryz.checked os 4 .any (fun w args => (Rows.fnItoaSpec.pre enc Tryz.prog Tryz.f4 Rows.fnItoaRow.domain false w args ∧ laidMetH Tryz.prog Rows.fnItoaRow.laid w) ∧ sizedMet enc Tryz.prog Tryz.f4 (OpenSpec.ofChange Rows.fnItoaSpec) false w args)
   (Rows.fnItoaSpec.post enc Tryz.prog Tryz.f4 false true false false) := by
 refine returnsInHanded_of_change_and (C := Tryz.checked) (X := fun w _ => laidMetH Tryz.prog Rows.fnItoaRow.laid w) (fun _ _ _ hh h => h.of_heap hh) ownNone started (by kernel_rfl) Tryz.func4
  (ChangeSpec.witness_shaped (enc := enc) (C := Tryz.checked) (os := os) (X := fun w _ => laidMetH Tryz.prog Rows.fnItoaRow.laid w) false (World.laidAll Tryz.prog os Rows.fnItoaRow.laid) #[.slice none 0 0, .int .u8 0] 8 (World.laidAll_os _ _ _)
   (World.shaped_of_ZipB (by kernel_rfl) (by kernel_rfl)) (by kernel_rfl) (by kernel_rfl) (by kernel_rfl)
   (by rw [MakeChecks.laidMetH_plain _ _ _ (by kernel_rfl)]; exact laidMet_laidAll _ (by kernel_rfl) (by kernel_rfl))) ?_
 intro W base args ds gs before hval0 hW _ _ hL _
 have hval : ∀ (j : Nat) t v, Tryz.f4.params[j]? = some t → args[j]? = some v → Value.okWide Tryz.prog W .any base t v := hval0
 have hW' := hW
 obtain ⟨p, q, hA0, hV, rfl, _, _⟩ := hW
 have hA : DataW.TrodAll enc Tryz.prog W 0 (fun _ => true) true Tryz.f4.params.toList args.toList ds p := hA0
 rw [Tryz.params4] at hA hval
 obtain ⟨v0, v1, d0, d1, p0, p1, rfl, rfl, rfl, h0, h1⟩ := trodAll_two hA
 obtain ⟨a0, l0, k0, rfl⟩ := okWide_slice Tryz.underlying22 (hval 0 22 v0 rfl rfl)
 obtain ⟨z, rfl, rfl, rfl, hwf⟩ := open_int Tryz.underlying5 (hval 1 5 v1 rfl rfl) h1
 obtain ⟨x, X, ex, hx⟩ := arg_rd h0
 have hz : 0 ≤ z ∧ z < 256 := by
  have : 0 ≤ z ∧ z ≤ 255 := by simpa [Lit.wf, IntKind.min, IntKind.max, IntKind.signed, IntKind.bits] using hwf
  omega
 obtain ⟨u, rfl⟩ : ∃ u : Nat, z = u := ⟨z.toNat, by omega⟩
 have hg := glc_of_laid hL
 obtain ⟨g1, g2, g3, g4, g5, rfl⟩ : ∃ g1 g2 g3 g4 g5, gs = [g1, g2, g3, g4, g5] := by
  have hl := trodVars_len hV
  match gs, hl with
  | [g1, g2, g3, g4, g5], _ => exact ⟨g1, g2, g3, g4, g5, rfl⟩
 have lt0 : ∀ x ∈ p0, x.block < W.heap.size := by obtain ⟨m, hm⟩ := h0; exact DataW.trod_lt m _ _ _ hm
 have hr22 : Tryz.prog.readableRec 22 = true := by kernel_rfl
 have hs22 : 22 < Tryz.prog.types.size := of_decide_eq_true (by kernel_rfl)
 have walk := c4 x X u W hg hx (by omega)
 rw [ex] at walk
 refine walk.mono fun e W' ⟨he, hc⟩ => ?_
 subst he
 have bel := below_of_qt hc
 have hh : ({ W' with tape := W.tape } : World).heap = W'.heap := rfl
 exact ⟨_, rfl, _, _, _, [], _, _, hW', trodAll_mk1 (shut_bool Tryz.underlying4 _),
  trodAll_cons_mk ((Below.trod laidOut hr22 hs22 h0 bel lt0).of_heap hh) (trodAll_cons_mk (shut_int Tryz.underlying5 hwf) trodAll_mk0),
  (Below.trodVars laidOut bel (by kernel_rfl) hV).of_heap hh, kept_of_qt hc _, fun h => by cases h⟩
theorem fnItoa_row : Rows.FnItoaSaid :=
 OpenClaim.holds_of_wide 4 Tryz.f4 rfl rfl rfl rfl rfl rfl rfl ⟨rfl, rfl, rfl, rfl, rfl⟩ rfl rfl rfl rfl rfl (by kernel_rfl) Tryz.func4 (by kernel_rfl)
  (of_decide_eq_true (by kernel_rfl)) (by unfold Func.isWrapper; first | (rw [if_pos (by decide +kernel)]; kernel_rfl) | (rw [if_neg (by decide +kernel)]; exact ⟨rfl, rfl⟩))
  (fun os started H enc _ => fnItoa_lifted os started H enc)
theorem fnItoa_holds : Rows.FnItoaCardSaid :=
 Claim7.holds_tied_plain_at .later [] [.data, .data, .data, .data, .data, .data, .data] true (true, "2773190f286ccc3b718483368e3a30cc17d4b2f820e65a8c217e81693fd72421") true
  fnItoa_row (fun _ h => by cases h) (by kernel_rfl) (fun _ h => by cases h) fnItoa_row_tie rfl ⟨rfl, rfl⟩ (by kernel_rfl) rfl
  (fun f fn hf hfn => by
   obtain rfl : f = 4 := Option.some.inj ((show Tryz.prog.funcNamed "loop.example/pub-g03246/laws.FnItoa" = some 4 by kernel_rfl).symm.trans hf) |>.symm
   obtain rfl : fn = Tryz.f4 := (Option.some.inj (Tryz.func4.symm.trans hfn)).symm
   exact ⟨by kernel_rfl, fun j t ht => by
    rw [Tryz.params4] at ht
    have hm : t ∈ [22, 5] := by simpa using Array.mem_of_getElem? ht
    have hall : ([22, 5].all fun u => !Tryz.prog.wantsStandIn u) = true := by kernel_rfl
    exact (show Tryz.prog.wantsStandIn t = false by simpa using List.all_eq_true.1 hall t hm)⟩)
  (by kernel_rfl)
#print axioms fnItoa_holds
end Go.Proofs.YtlkjiiibmfpbcaaGreatDoor
