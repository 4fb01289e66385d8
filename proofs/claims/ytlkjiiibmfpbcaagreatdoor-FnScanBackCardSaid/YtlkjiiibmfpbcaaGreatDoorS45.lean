/- THE STATEMENT Rows.FnScanBackCardSaid: for every input the law FnScanBack returns true and each argument reads as it read, the package's tables, thresholds and errors being those of the program's text. No further condition. -/
import Derived.Test.YtlkjiiibmfpbcaaGreatDoorS44
namespace Go.Proofs.YtlkjiiibmfpbcaaGreatDoor
open Go
open Go.ChangeShapes Go.WideShapes Go.ChangeAt Go.RowKit
set_option maxRecDepth 100000
theorem below_of_qt {W W':World} (h:Qt W W'):Below W.heap.size W { W' with tape:=W.tape } :=
 ⟨h.os,rfl,h.output,h.size,h.heap⟩
theorem kept_of_qt {W W':World} (h:Qt W W') (may:MemPlace→Prop):W.keptBut W' may:=by
 refine ⟨h.os,h.output,fun i hi=>?_⟩
 rw [h.heap i hi]
 split <;> simp_all
theorem reckStruct {info:TypeId→Option TypeInfo} {fs:Array Field} {i:TypeInfo} (h:Made.reckonStruct info fs=some i):∃ out,i.desc=.struct out:=by
 unfold Made.reckonStruct at h
 simp only [bind,Option.bind_eq_some_iff] at h
 obtain ⟨r,_,h⟩:=h
 split at h
 ·cases h; exact ⟨_,rfl⟩
 ·cases h; exact ⟨_,rfl⟩
theorem reck {info:TypeId→Option TypeInfo} {d:TypeDesc} {i:TypeInfo} (h:Made.reckon info d=some i):(∀ n r,i.desc≠.named n r)∧∀ e,i.desc=.pointer e→i.comparable=true:=by
 cases d with
 | pointer e =>
  simp only [Made.reckon,bind,Option.bind_eq_some_iff] at h
  obtain ⟨a,_,h⟩:=h
  split at h
  ·cases h
  ·split at h
   ·cases h
   ·obtain ⟨_,_,h⟩:=Option.bind_eq_some_iff.1 h
    cases h
    exact ⟨fun _ _ h=>(by cases h),fun _ _=>rfl⟩
  ·obtain ⟨_,_,h⟩:=Option.bind_eq_some_iff.1 h
   cases h
   exact ⟨fun _ _ h=>(by cases h),fun _ _=>rfl⟩
 | slice e =>
  simp only [Made.reckon,bind,Option.bind_eq_some_iff] at h
  obtain ⟨_,_,_,_,h⟩:=h
  cases h
  exact ⟨fun _ _ h=>(by cases h),fun _ h=>(by cases h)⟩
 | array n e =>
  simp only [Made.reckon,bind,Option.bind_eq_some_iff] at h
  obtain ⟨_,_,_,_,h⟩:=h
  cases h
  exact ⟨fun _ _ h=>(by cases h),fun _ h=>(by cases h)⟩
 | map k e =>
  simp only [Made.reckon,bind,Option.bind_eq_some_iff] at h
  obtain ⟨_,_,_,_,_,_,_,_,h⟩:=h
  cases h
  exact ⟨fun _ _ h=>(by cases h),fun _ h=>(by cases h)⟩
 | chan d e =>
  simp only [Made.reckon,bind,Option.bind_eq_some_iff] at h
  obtain ⟨_,_,_,_,h⟩:=h
  cases h
  exact ⟨fun _ _ h=>(by cases h),fun _ h=>(by cases h)⟩
 | func ps rs v =>
  simp only [Made.reckon,bind,Option.bind_eq_some_iff] at h
  obtain ⟨_,_,h⟩:=h
  cases h
  exact ⟨fun _ _ h=>(by cases h),fun _ h=>(by cases h)⟩
 | struct fs =>
  obtain ⟨out,ho⟩:=reckStruct h
  exact ⟨fun _ _ h2=>(by rw [ho] at h2; cases h2),fun _ h2=>(by rw [ho] at h2; cases h2)⟩
 | _=>cases h
theorem nTypes:Tryz.prog.types.size=215:=by kernel_rfl
theorem ptrTab:(List.range 215).all (fun u=>match Tryz.prog.underlying u with | some (.pointer _)=>((Tryz.prog.info? u).map (·.comparable))==some true | _=>true)=true:=by kernel_rfl
theorem ptr_cmp {u e:Nat} (h:Tryz.prog.underlying u=some (.pointer e)):∃ i,Tryz.prog.info? u=some i∧i.comparable=true:=by
 rcases Nat.lt_or_ge u 215 with h1 | h1
 ·have h2:=List.all_eq_true.1 ptrTab u (by simp [h1])
  rw [h] at h2
  cases hi:Tryz.prog.info? u with
  | none=>rw [hi] at h2; simp at h2
  | some i=>rw [hi] at h2; exact ⟨i,rfl,by simpa using h2⟩
 ·have hmade:Tryz.prog.info? u=(Made.decode (u-Tryz.prog.types.size)).bind (Made.reckon (Made.infoAt Tryz.prog.toTables 99)):=by
   have h3:¬u<Tryz.prog.types.size:=by rw [nTypes]; omega
   unfold Tables.info?
   rw [if_neg h3]
   show Made.infoAt Tryz.prog.toTables (99+1) u=_
   rw [Made.infoAt,if_neg h3]
  cases hi:Tryz.prog.info? u with
  | none=>unfold Program.underlying at h; rw [hi] at h; cases h
  | some i =>
   rw [hmade] at hi
   obtain ⟨d,_,hd⟩:=Option.bind_eq_some_iff.1 hi
   obtain ⟨k1,k2⟩:=reck hd
   refine ⟨i,rfl,?_⟩
   unfold Program.underlying at h
   rw [hmade,hi] at h
   split at h
   ·rename_i h4
    cases h4
    exact (k1 _ _ rfl).elim
   ·rename_i i' _ h4
    cases h4
    exact k2 e (Option.some.inj h)
   ·cases h
theorem und_info {e:Nat} {d:TypeDesc} (h:Tryz.prog.underlying e=some d):∃ j,Tryz.prog.info? e=some j:=by
 cases hi:Tryz.prog.info? e with
 | none=>unfold Program.underlying at h; rw [hi] at h; cases h
 | some i=>exact ⟨i,rfl⟩
theorem trod_ptr {W:World} {u:Nat} {l:List Value} {fuel:Nat} {x:DataW Unit × List MemPlace} {D:DataW Unit} (hx:DataW.trod (fun _=>()) Tryz.prog W 0 (fun _=>true) false fuel u l=some x) (h3:x.1=.ptr D) :
  ∃ e a,Tryz.prog.underlying u=some (.pointer e)∧l=[.pointer (some a)]∧∃ d,Tryz.prog.underlying e=some d:=by
 cases fuel with
 | zero=>simp [DataW.trod] at hx
 | succ n =>
  unfold DataW.trod at hx
  split at hx
  case h_6 e a hu =>
   obtain ⟨y,hy,_⟩:=Option.map_eq_some_iff.1 hx
   obtain ⟨cs,_,hy⟩:=Option.bind_eq_some_iff.1 hy
   refine ⟨e,a,hu,rfl,?_⟩
   cases n with
   | zero=>simp [DataW.trod] at hy
   | succ n =>
    unfold DataW.trod at hy
    cases hd:Tryz.prog.underlying e with
    | none=>rw [hd] at hy; simp at hy
    | some d=>exact ⟨d,rfl⟩
  all_goals exfalso
  all_goals first | (cases hx; cases h3; done) | (split at hx <;> first | (cases hx; cases h3; done) | (cases hx; done)) | (obtain ⟨y,_,hy⟩:=Option.map_eq_some_iff.1 hx; subst hy; cases h3; done) | skip
  case h_8 =>
   simp only at hx
   split at hx
   ·obtain ⟨es,_,hx⟩:=Option.bind_eq_some_iff.1 hx
    obtain ⟨y,_,hy⟩:=Option.map_eq_some_iff.1 hx
    subst hy; cases h3
   ·cases hx
  case h_9 =>
   split at hx
   ·obtain ⟨y,_,hy⟩:=Option.map_eq_some_iff.1 hx
    subst hy; cases h3
   ·cases hx
  case h_10 =>
   split at hx
   ·obtain ⟨y,_,hy⟩:=Option.map_eq_some_iff.1 hx
    subst hy; cases h3
   ·cases hx
  case h_12 =>
   split at hx
   ·cases hx; cases h3
   ·obtain ⟨y,_,hy⟩:=Option.map_eq_some_iff.1 hx
    subst hy; cases h3
   ·cases hx
  case h_14 =>
   split at hx
   ·split at hx
    ·obtain ⟨es,_,hx⟩:=Option.bind_eq_some_iff.1 hx
     simp only at hx
     split at hx
     ·cases hx; cases h3
     ·cases hx
    ·cases hx
   ·cases hx
  case h_21=>cases hx
theorem trod_eof {W : World} {l : List Value} {fuel : Nat} {D : DataW Unit} {p : List MemPlace} (hd : DataW.trod (fun _ => ()) Tryz.prog W 0 (fun _ => true) false fuel 95 l = some (.iface "*errors.errorString" (.ptr D), p)) :
  ∃ u v e a,l=[.iface u v]∧Tryz.prog.underlying u=some (.pointer e)∧v.cells.toList=[.pointer (some a)]∧∃ d,Tryz.prog.underlying e=some d:=by
 cases fuel with
 | zero=>simp [DataW.trod] at hd
 | succ n =>
  unfold DataW.trod at hd
  rw [Tryz.underlying95] at hd
  split at hd
  all_goals first | (rename_i h; cases h; done) | skip
  ·cases hd
  ·rename_i u v _
   cases hn:Tryz.prog.typeName? 3 u with
   | none=>rw [hn] at hd; cases hd
   | some name =>
    rw [hn] at hd
    obtain ⟨x,hx,he⟩:=Option.map_eq_some_iff.1 hd
    have h1:=(Prod.mk.inj he).1
    injection h1 with h2 h3
    obtain ⟨e,a,k1,k2,k3⟩:=trod_ptr hx h3
    exact ⟨u,v,e,a,rfl,k1,k2,k3⟩
  ·cases hd
theorem of_laid5 {W:World} (h:laidMetH Tryz.prog Rows.fnScanBackRow.laid W):Glc W∧∃ a,W.cell? ⟨0,0,none⟩=some (eof a):=by
 rw [MakeChecks.laidMetH_plain _ _ _ (by kernel_rfl)] at h
 obtain ⟨ps,⟨g1,t1,cs1,f1,p1,q1,hg1,ht1,hv1,hd1,⟨g2,t2,cs2,f2,p2,q2,hg2,ht2,hv2,hd2,⟨ge,te,cse,fe,pe,qe,hge,hte,hve,hde,⟨gn,tn,csn,fn,pn,qn,_,_,_,_,⟨gs,ts,css,fs,pps,qs,_,_,_,_,⟨g0,t0,cs0,f0,p0,q0,hg0,ht0,hv0,hd0,⟨g3,t3,cs3,f3,p3,q3,hg3,ht3,hv3,hd3,⟨g4,t4,cs4,f4,p4,q4,hg4,ht4,hv4,hd4,⟨g5,t5,cs5,f5,p5,q5,hg5,ht5,hv5,hd5,⟨g6,t6,cs6,f6,p6,q6,hg6,ht6,hv6,hd6,_,_⟩,_⟩,_⟩,_⟩,_⟩,_⟩,_⟩,eqe⟩,eq2⟩,eq1⟩,_,hok⟩:=h
 obtain rfl := Option.some.inj ((show Tryz.prog.globalNamed "math/bits.deBruijn64tab" = some 7 by kernel_rfl).symm.trans hg2)
 obtain rfl := Option.some.inj ((show Tryz.prog.globalNamed "loop.example/pub-g03246/pub/big2.leafSize" = some 2 by kernel_rfl).symm.trans hg0)
 obtain rfl := Option.some.inj ((show Tryz.prog.globalNamed "loop.example/pub-g03246/pub/big2.divRecursiveThreshold" = some 10 by kernel_rfl).symm.trans hg3)
 obtain rfl := Option.some.inj ((show Tryz.prog.globalNamed "loop.example/pub-g03246/pub/big2.karatsubaThreshold" = some 5 by kernel_rfl).symm.trans hg4)
 obtain rfl := Option.some.inj ((show Tryz.prog.globalNamed "loop.example/pub-g03246/pub/big2.basicSqrThreshold" = some 3 by kernel_rfl).symm.trans hg5)
 obtain rfl := Option.some.inj ((show Tryz.prog.globalNamed "loop.example/pub-g03246/pub/big2.karatsubaSqrThreshold" = some 4 by kernel_rfl).symm.trans hg6)
 obtain rfl:=Option.some.inj ((show (Tryz.prog.globals[2]?).map (·.type)=some 3 by kernel_rfl).symm.trans ht0)
 obtain rfl:=Option.some.inj ((show (Tryz.prog.globals[10]?).map (·.type)=some 3 by kernel_rfl).symm.trans ht3)
 obtain rfl:=Option.some.inj ((show (Tryz.prog.globals[5]?).map (·.type)=some 3 by kernel_rfl).symm.trans ht4)
 obtain rfl:=Option.some.inj ((show (Tryz.prog.globals[3]?).map (·.type)=some 3 by kernel_rfl).symm.trans ht5)
 obtain rfl:=Option.some.inj ((show (Tryz.prog.globals[4]?).map (·.type)=some 3 by kernel_rfl).symm.trans ht6)
 refine ⟨?_,?_⟩
 rotate_left
 ·obtain rfl := Option.some.inj ((show Tryz.prog.globalNamed "io.EOF" = some 0 by kernel_rfl).symm.trans hge)
  obtain rfl:=Option.some.inj ((show (Tryz.prog.globals[0]?).map (·.type)=some 95 by kernel_rfl).symm.trans hte)
  obtain ⟨u,v,e,a,hv,hu,hva,d,hd⟩:=trod_eof hde
  obtain ⟨i,hi,hic⟩:=ptr_cmp hu
  obtain ⟨j,hj⟩:=und_info hd
  have hcell:W.cell? ⟨0,0,none⟩=some (.iface u v):=by
   rw [World.var?_cell hge hve 0]
   have:cse.toList[0]?=some (.iface u v):=by rw [hv]; rfl
   simpa using this
  have hsz:cse.size=1:=by
   have:cse.toList.length=1:=by rw [hv]; rfl
   simpa using this
  have hm:MemPlace.cell 0 0∈ps:=by
   rw [eq1,eq2,eqe,hsz]
   simp [MemPlace.row]
  have ok:=(hok 0 0 hm).2 _ _ hcell
  obtain ⟨a2,rfl⟩:=okWide_pointer hu ok
  have hv2:a2=some a:=by simpa [Value.cells] using hva
  subst hv2
  exact ⟨⟨u,a,i,e,j,hi,hic,hu,hj⟩,hcell⟩
 refine ⟨⟨fun r hr=>?_,laid_int hg5 hv5 hd5,laid_int hg6 hv6 hd6,laid_int hg4 hv4 hd4,laid_int hg3 hv3 hd3⟩,laid_int hg0 hv0 hd0⟩
 obtain rfl:=Option.some.inj ((show (Tryz.prog.globals[7]?).map (·.type)=some 160 by kernel_rfl).symm.trans ht2)
 obtain ⟨xs,m,_,ex,_,hl,hel⟩:=DataW.trod_array Tryz.underlying160 hd2
 have c5:Tryz.prog.cellsOf 5=1:=by kernel_rfl
 have hE:=hel r hr
 rw [c5,Nat.mul_one,List.getElem?_eq_getElem (by omega)] at hE
 obtain ⟨z,e1,e2,_⟩:=DataW.trod_int Tryz.underlying5 hE
 have hlen:tab64.length=64:=by kernel_rfl
 have e3:(xs.map (·.1))=tab64.map fun n=>(.lit (.int .u8 (n:Nat)):DataW Unit):=(DataW.agg.inj (Prod.mk.inj ex).1).symm
 have e4:(xs.map (·.1))[r]?=(tab64.map fun n=>(.lit (.int .u8 (n:Nat)):DataW Unit))[r]?:=by rw [e3]
 rw [List.getElem?_map,List.getElem?_map,List.getElem?_eq_getElem (by omega:r<xs.length),List.getElem?_eq_getElem (by omega:r<tab64.length),e2] at e4
 have hz:z=(tab64.getD r 0:Nat):=by
  simp only [Option.map_some,Option.some.injEq,DataW.lit.injEq,Lit.int.injEq,true_and] at e4
  rw [e4,List.getD,List.getElem?_eq_getElem (by omega:r<tab64.length)]; rfl
 rw [World.var?_cell hg2 hv2 r,←hz]
 have:cs2.toList[r]?=some (.int .u8 z):=by
  have h0:((cs2.toList.drop r).take 1)[0]?=some (.int .u8 z):=by rw [e1]; rfl
  simpa using h0
 simpa using this
set_option maxRecDepth 100000 in
theorem fnScanBack_lifted (os:Os) (started:os.Started) (H:Type) (enc:TypeId × Value→H) :
  ReturnsInHanded {} Tryz.checked os 5 .any (fun w args=>(Rows.fnScanBackSpec.pre enc Tryz.prog Tryz.f5 Rows.fnScanBackRow.domain false w args∧laidMetH Tryz.prog Rows.fnScanBackRow.laid w)∧sizedMet enc Tryz.prog Tryz.f5 (OpenSpec.ofChange Rows.fnScanBackSpec) false w args)
   (Rows.fnScanBackSpec.post enc Tryz.prog Tryz.f5 false true false false):=by
 refine returnsInHanded_of_change_and (C:=Tryz.checked) (X:=fun w _=>laidMetH Tryz.prog Rows.fnScanBackRow.laid w) (fun _ _ _ hh h=>h.of_heap hh) ownNone started (by kernel_rfl) Tryz.func5
  (ChangeSpec.witness_shaped (enc:=enc) (C:=Tryz.checked) (os:=os) (X:=fun w _=>laidMetH Tryz.prog Rows.fnScanBackRow.laid w) false (World.laidAll Tryz.prog os Rows.fnScanBackRow.laid) #[.slice none 0 0,.int .u8 0] 8 (World.laidAll_os _ _ _)
   (World.shaped_of_ZipB (by kernel_rfl) (by kernel_rfl)) (by kernel_rfl) (by kernel_rfl) (by kernel_rfl)
   (by rw [MakeChecks.laidMetH_plain _ _ _ (by kernel_rfl)]; exact laidMet_laidAll _ (by kernel_rfl) (by kernel_rfl))) ?_
 intro W base args ds gs before hval0 hW _ _ hL _
 have hval:∀ (j:Nat) t v,Tryz.f5.params[j]?=some t→args[j]?=some v→Value.okWide Tryz.prog W .any base t v:=hval0
 have hW':=hW
 obtain ⟨p,q,hA0,hV,rfl,_,_⟩:=hW
 have hA:DataW.TrodAll enc Tryz.prog W 0 (fun _=>true) true Tryz.f5.params.toList args.toList ds p:=hA0
 rw [Tryz.params5] at hA hval
 obtain ⟨v0,v1,d0,d1,p0,p1,rfl,rfl,rfl,h0,h1⟩:=trodAll_two hA
 obtain ⟨a0,l0,k0,rfl⟩:=okWide_slice Tryz.underlying22 (hval 0 22 v0 rfl rfl)
 obtain ⟨z,rfl,rfl,rfl,hwf⟩:=open_int Tryz.underlying5 (hval 1 5 v1 rfl rfl) h1
 obtain ⟨x,X,ex,hx⟩:=arg_rd h0
 have hz:0≤z∧z<256:=by
  have:0≤z∧z≤255:=by simpa [Lit.wf,IntKind.min,IntKind.max,IntKind.signed,IntKind.bits] using hwf
  omega
 obtain ⟨u,rfl⟩:∃ u:Nat,z=u:=⟨z.toNat,by omega⟩
 obtain ⟨hg,a,hE⟩:=of_laid5 hL
 obtain ⟨g1,g2,g3,g4,g5,g6,g7,rfl⟩:∃ g1 g2 g3 g4 g5 g6 g7,gs=[g1,g2,g3,g4,g5,g6,g7]:=by
  have hl:=trodVars_len hV
  match gs,hl with
  | [g1,g2,g3,g4,g5,g6,g7],_=>exact ⟨g1,g2,g3,g4,g5,g6,g7,rfl⟩
 have lt0:∀ x∈p0,x.block<W.heap.size:=by obtain ⟨m,hm⟩:=h0; exact DataW.trod_lt m _ _ _ hm
 have hr22:Tryz.prog.readableRec 22=true:=by kernel_rfl
 have hs22:22<Tryz.prog.types.size:=of_decide_eq_true (by kernel_rfl)
 have walk:=c5 x X u W hg hE hx (by omega)
 rw [ex] at walk
 refine walk.mono fun e W' ⟨he,hc⟩=>?_
 subst he
 have bel:=below_of_qt hc
 have hh:({ W' with tape:=W.tape }:World).heap=W'.heap:=rfl
 exact ⟨_,rfl,_,_,_,[],_,_,hW',trodAll_mk1 (shut_bool Tryz.underlying4 _),
  trodAll_cons_mk ((Below.trod laidOut hr22 hs22 h0 bel lt0).of_heap hh) (trodAll_cons_mk (shut_int Tryz.underlying5 hwf) trodAll_mk0),
  (Below.trodVars laidOut bel (by kernel_rfl) hV).of_heap hh,kept_of_qt hc _,fun h=>by cases h⟩
theorem fnScanBack_row:Rows.FnScanBackSaid :=
 OpenClaim.holds_of_wide 5 Tryz.f5 rfl rfl rfl rfl rfl rfl rfl ⟨rfl,rfl,rfl,rfl,rfl⟩ rfl rfl rfl rfl rfl (by kernel_rfl) Tryz.func5 (by kernel_rfl)
  (of_decide_eq_true (by kernel_rfl)) (by unfold Func.isWrapper; first | (rw [if_pos (by decide +kernel)]; kernel_rfl) | (rw [if_neg (by decide +kernel)]; exact ⟨rfl,rfl⟩))
  (fun os started H enc _=>fnScanBack_lifted os started H enc)
theorem fnScanBack_holds:Rows.FnScanBackCardSaid :=
 Claim7.holds_tied_plain_at .later [] [.data, .data, .sentinel, .sentinel, .sentinel, .data, .data, .data, .data, .data] true (true, "2773190f286ccc3b718483368e3a30cc17d4b2f820e65a8c217e81693fd72421") true
  fnScanBack_row (fun _ h=>by cases h) (by kernel_rfl) (fun _ h=>by cases h) fnScanBack_row_tie rfl ⟨rfl,rfl⟩ (by kernel_rfl) rfl
  (fun f fn hf hfn=>by
   obtain rfl : f = 5 := Option.some.inj ((show Tryz.prog.funcNamed "loop.example/pub-g03246/laws.FnScanBack" = some 5 by kernel_rfl).symm.trans hf) |>.symm
   obtain rfl:fn=Tryz.f5:=(Option.some.inj (Tryz.func5.symm.trans hfn)).symm
   exact ⟨by kernel_rfl,fun j t ht=>by
    rw [Tryz.params5] at ht
    have hm:t∈[22,5]:=by simpa using Array.mem_of_getElem? ht
    have hall:([22,5].all fun u=>!Tryz.prog.wantsStandIn u)=true:=by kernel_rfl
    exact (show Tryz.prog.wantsStandIn t=false by simpa using List.all_eq_true.1 hall t hm)⟩)
  (by kernel_rfl)
#print axioms fnScanBack_holds
end Go.Proofs.YtlkjiiibmfpbcaaGreatDoor
