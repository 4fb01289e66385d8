/- Words taken in and handed out: copies into new memory. Conditions: lengths up to a million. -/
import Derived.Test.YtlkjiiibmfpbcaaGreatDoorS34
import Derived.Test.YtlkjiiibmfpbcaaGreatDoorS05
namespace Go.Proofs.YtlkjiiibmfpbcaaGreatDoor
open Go
theorem cell1_of {t e:TypeId} (ht:Tryz.prog.underlying t=some (.slice e)) {z:Value} (h:(Tryz.prog.info? e).map (fun i=>(i.size,i.bytes,i.zero))=some (1,8,some z)) (hz:z.cells=#[z]):Cell1 t e z:=by
 refine ⟨ht,?_,hz⟩
 cases hi:Tryz.prog.info? e with
 | none=>rw [hi] at h; simp at h
 | some ie =>
  rw [hi] at h
  simp only [Option.map_some,Option.some.injEq,Prod.mk.injEq] at h
  exact ⟨ie,rfl,h.1,by omega,h.2.2⟩
theorem cell22:Cell1 22 38 (.int .u64 0):=cell1_of Tryz.underlying22 (by kernel_rfl) rfl
theorem build1 {t e:TypeId} {z:Value} (ht:Cell1 t e z) (w:World) (v:Value) (h1:v.cells=#[v]):Sem.run Tryz.prog (Instr.buildSlice t 1 #[(0,v)]) w=.ok (.slice (some ⟨w.heap.size,0,none⟩) 1 1) (w.alloc (.cells #[v] e)):=by
 obtain ⟨hu,⟨ie,hi,hsz,hby,hzz⟩,hzc⟩:=ht
 refine run_buildSlice w t e 1 #[(0,v)] #[v] ie z hu hi hzz (by rw [hsz]; omega) (by rw [hsz]; omega) ?_
 rw [hsz]
 simp [Instr.fill,h1,hzc]
 apply Array.ext
 ·simp
 ·intro i h1 h2
  have h2:i<1:=by simpa using h2
  obtain rfl:i=0:=by omega
  simp
theorem build0e {t e:TypeId} {z:Value} (ht:Cell1 t e z) (w:World):Sem.run Tryz.prog (Instr.buildSlice t 0 #[]) w=.ok (.slice (some ⟨w.heap.size,0,none⟩) 0 0) (w.alloc (.cells #[] e)):=by
 obtain ⟨hu,⟨ie,hi,hsz,hby,hzz⟩,hzc⟩:=ht
 simp [Instr.buildSlice,run_underlying hu,sizeOf,typeInfo,hi,Instr.fill,newRow]
 exact congrArg (fun C=>w.alloc (.cells C e)) (Array.ext (by simp) fun i h1 h2=>by simp at h2)
theorem appAll {t e:TypeId} {z:Value} (ht:Cell1 t e z) (b0:Nat) (x:Sl) (X:Nat) (w:World) (hg:GB≤w.heap.size) (hx:Rd w x X) (ha:x.a≠none) (hl:x.l≤1099511627776) (hb:plainAt w b0) (hbg:GB≤b0) :
  ∃ (r:Sl) (w':World),Sem.run Tryz.prog (builtin .append #[t,t] t #[false,false] #[.slice (some ⟨b0,0,none⟩) 0 0,x.v]) w=.ok (.value r.v) w'∧Nt w' r X∧r.l=x.l∧(r.c≠0→w.heap.size≤r.b)∧Chg w w' none2:=by
 obtain ⟨hu,⟨ie,hi,hsz,hby,hzz⟩,hzc⟩:=ht
 obtain ⟨a,haa⟩:∃ a,x.a=some a:=Option.ne_none_iff_exists'.1 ha
 have key:∀ (r:Sl) (w':World),(Builtin.append_ #[t,t] t #[.slice (some ⟨b0,0,none⟩) 0 0,x.v]).run Tryz.prog w=.ok r.v w'→Sem.run Tryz.prog (builtin .append #[t,t] t #[false,false] #[.slice (some ⟨b0,0,none⟩) 0 0,x.v]) w=.ok (.value r.v) w':=fun r w' h=>by
  rw [BigFrame.builtin_append]
  simp only [Sem.run_bind,h]
  rfl
 have hxv:x.v=.slice (some a) x.l x.c:=by unfold Sl.v; rw [haa]
 by_cases h0:x.l=0
 ·have hr:=run_append_room_cells (P:=Tryz.prog) w t t e ie hu hi b0 0 0 0 a x.l x.c [] (by simp [h0]) (by simp) (by simp) (by omega) (by simp) (by simp)
  have hX:X=0:=by have:=hx.lt; rw [h0] at this; simpa using this
  refine ⟨⟨some ⟨b0,0,none⟩,0,0,b0,0⟩,w,key ⟨some ⟨b0,0,none⟩,0,0,b0,0⟩ w ?_,?_,h0.symm,fun h=>absurd rfl h,Chg.refl _ _⟩
  ·rw [hxv,hr,h0]; rfl
  ·subst hX
   exact { lc:=Nat.le_refl _,at_:=fun h=>absurd rfl h,wr:=Wr.zero,pl:=fun h=>absurd rfl h,cm:=Nat.zero_le _,gb:=hg,sg:=Sg.zero,lt:=BBpow_pos _ }
 ·have hat:=hx.at_ h0
  rw [haa] at hat
  have hat:=Option.some.inj hat
  subst hat
  have hr:=run_append_grow (P:=Tryz.prog) w t t e ie z hu hi hzz ⟨b0,0,none⟩ 0 0 [] (by simp) (by simp) ⟨x.b,x.o,none⟩ x.l x.c (digs X x.l) (by rw [digs_len,hsz,Nat.mul_one]) (fun j v hv=>by
    by_cases hj:j<x.l
    ·have hv:=Option.some.inj ((digs_get X x.l j hj).symm.trans hv); subst hv
     rw [addr_add]
     exact hx.sg j hj
    ·rw [List.getElem?_eq_none (by rw [digs_len]; omega)] at hv; exact absurd hv (by simp)) (by omega) (by omega) (growslice_fits (by omega) (Nat.le_trans (Nat.mul_le_mul_left _ hby) (by omega)))
  rw [Nat.zero_add] at hr
  have hge:=grownCap_ge w x.l 0 e
  have hle:=grownCap_le_maxLen w x.l 0 e (by unfold maxLen; omega)
  unfold maxLen at hle
  obtain ⟨cap,hcap⟩:∃ cap,cap=grownCap w x.l 0 e:=⟨_,rfl⟩
  rw [←hcap] at hr hge hle
  have hsize:((#[]:Array Value)++(digs X x.l).toArray++Builtin.zeroCells z.cells (cap-x.l)).size=cap:=by
   rw [hzc]; simp [Builtin.zeroCells,digs_len]; omega
  obtain ⟨C,hC⟩:∃ C,C=(#[]:Array Value)++(digs X x.l).toArray++Builtin.zeroCells z.cells (cap-x.l):=⟨_,rfl⟩
  have hr':(Builtin.append_ #[t,t] t #[.slice (some ⟨b0,0,none⟩) 0 0,.slice (some ⟨x.b,x.o,none⟩) x.l x.c]).run Tryz.prog w=.ok (.slice (some ⟨w.heap.size,0,none⟩) x.l cap) (w.drew.alloc (.cells C e)):=by rw [hC]; exact hr
  rw [←hC] at hsize
  have hst:=row_st w.drew hg C e x.l (by rw [hsize]; exact hge) (by rw [hsize]; omega)
  rw [hsize] at hst
  have hh:(w.drew.alloc (.cells C e)).heap[w.heap.size]?=some (.cells C e (0,0)):=heap_alloc_new w.drew _
  refine ⟨⟨some ⟨w.heap.size,0,none⟩,x.l,cap,w.heap.size,0⟩,_,key ⟨some ⟨w.heap.size,0,none⟩,x.l,cap,w.heap.size,0⟩ _ (by rw [hxv]; exact hr'),{ hst with sg:=fun i hi=>?_,lt:=hx.lt },rfl,fun _=>Nat.le_refl _,(Chg.drew0 w _).trans' (Chg.alloc w.drew _ (fun a=>RowKit.frozen?_alloc_cells w.drew _ _ a) _)⟩
  have hi:i<x.l:=hi
  show (w.drew.alloc _).cell? ⟨w.heap.size,0+i,none⟩=_
  rw [cell_eq,hh,Nat.zero_add]
  show C[i]?=_
  rw [hC,Array.getElem?_append_left (by simp [digs_len]; omega)]
  simpa using digs_get X x.l i hi
theorem c43 (x:Sl) (X:Nat) (w:World) (hg:GB≤w.heap.size) (hx:Rd w x X) (hl:x.l≤1099511627776) :
  Calls Tryz.prog 43 #[x.v] w fun e w'=>∃ r:Sl,e=.returned r.v∧Nt w' r X∧r.l=x.l∧(r.c≠0→w.heap.size≤r.b)∧Chg w w' none2:=by
 refine (F43.call x.a x.l x.c w (fun v w'=>∃ r:Sl,v=r.v∧Nt w' r X∧r.l=x.l∧(r.c≠0→w.heap.size≤r.b)∧Chg w w' none2) fun B=>bc_intro (fun hb B1=>?_) (fun hb=>?_)).mono fun e w' ⟨v,h1,r,h2,h3⟩=>⟨r,by rw [h1,h2],h3⟩
 ·have h0:x.l=0:=by
   rcases Nat.eq_zero_or_pos x.l with h | h
   ·exact h
   ·have:=hx.at_ (by omega); rw [this] at hb; cases hb
  have hX:X=0:=by have:=hx.lt; rw [h0] at this; simpa using this
  refine ret1 rfl rfl ⟨nilS w,rfl,?_,h0.symm,fun h=>absurd rfl h,Chg.refl _ _⟩
  rw [hX]
  have h0:Nz w (nilS w) 0:=nz_zero (nilSt w hg)
  exact h0.toNt
 ·have ha:x.a≠none:=fun h=>by rw [h] at hb; cases hb
  have c1:Chg w (w.alloc (.cells #[] 38)) none2:=Chg.alloc _ _ (fun a=>RowKit.frozen?_alloc_cells _ _ _ _) _
  have hh:(w.alloc (.cells #[] 38)).heap[w.heap.size]?=some (.cells #[] 38 (0,0)):=heap_alloc_new ..
  obtain ⟨r,w',r1,r2,r3,r4,r5⟩:=appAll cell22 w.heap.size x X (w.alloc (.cells #[] 38)) (Nat.le_trans hg c1.size) (c1.rd hx fun _ _ h=>h) ha hl ⟨_,_,hh⟩ hg
  exact ⟨_,⟨_,_,_,build0e cell22 w,w',r.a,r.l,r.c,r1,fun B2=>ret1 rfl rfl ⟨r,rfl,r2,r3,fun h=>Nat.le_trans c1.size (r4 h),c1.trans' r5⟩⟩⟩
theorem alloc_ntT (w:World) (hg:GB≤w.heap.size) (n e:Nat) (hc:n≤281474976710656) :
  Nt (w.alloc (.cells (madeCells #[(Value.int IntKind.u64 0)] n) e)) ⟨some ⟨w.heap.size,0,none⟩,n,n,w.heap.size,0⟩ 0:=by
 have hst:=row_st w hg (madeCells #[(Value.int IntKind.u64 0)] n) e n (by rw [size_madeCells]; exact Nat.le_refl _) (by rw [size_madeCells]; omega)
 rw [size_madeCells] at hst
 refine { hst with sg:=fun i hi=>?_,lt:=BBpow_pos _ }
 have hi:i<n:=hi
 have hh:(w.alloc (.cells (madeCells #[(Value.int IntKind.u64 0)] n) e)).heap[w.heap.size]?=some (.cells (madeCells #[(Value.int IntKind.u64 0)] n) e (0,0)):=heap_alloc_new ..
 rw [cell_eq]
 show (match (w.alloc (.cells (madeCells #[(Value.int IntKind.u64 0)] n) e)).heap[w.heap.size]? with
  | some (.cells c _ _)=>c[0+i]?
  | _=>none)=_
 rw [hh,dg_zero]
 simp [madeCells,hi,Nat.mod_one]
theorem copy_step {w wr:World} {z x:Sl} {X V i:Nat} (h:Bank wr [num z V]) (hx:Rd w x X) (hc:Chg w wr none2) (hz:w.heap.size≤z.b) (hi:i<z.l) (hV:V%BB^i=X%BB^i) :
  Bank (wr.setCell ⟨z.b,z.o+i,none⟩ (.int .u64 (dg X i:Int))) [num z (setD V i (dg X i))]∧setD V i (dg X i)%BB^(i+1)=X%BB^(i+1)∧Chg w (wr.setCell ⟨z.b,z.o+i,none⟩ (.int .u64 (dg X i:Int))) none2:=by
 obtain ⟨b1,c1⟩:=setD_bank h hi (dg_lt X i)
 refine ⟨b1,?_,hc.trans c1 (fun _ _ _ h=>h) fun b i hb hm=>by have:=hm.1; omega⟩
 rw [setD_lo _ _ _ (dg_lt X i),hV,mod_succ]
theorem c40 (x:Sl) (X:Nat) (w:World) (hg:GB≤w.heap.size) (hx:Rd w x X) (hl:x.l≤1099511627776) :
  Calls Tryz.prog 40 #[x.v] w fun e w'=>∃ r:Sl,e=.returned r.v∧Nt w' r X∧r.l=x.l∧w.heap.size≤r.b∧Chg w w' none2:=by
 refine (F40.call x.a x.l x.c w (fun v w'=>∃ r:Sl,v=r.v∧Nt w' r X∧r.l=x.l∧w.heap.size≤r.b∧Chg w w' none2) fun B=>⟨x.l,x.l,rfl,rfl,Nat.le_refl _,by omega,by omega,fun B1=>?_⟩).mono fun e w' ⟨v,h1,r,h2,h3⟩=>⟨r,by rw [h1,h2],h3⟩
 obtain ⟨z,hz⟩:∃ z:Sl,z=⟨some ⟨w.heap.size,0,none⟩,x.l,x.l,w.heap.size,0⟩:=⟨_,rfl⟩
 have c1:Chg w (w.alloc (.cells (madeCells #[(Value.int IntKind.u64 0)] x.l) 61)) none2:=Chg.alloc _ _ (alloc_froz w _) _
 have b1:Bank (w.alloc (.cells (madeCells #[(Value.int IntKind.u64 0)] x.l) 61)) [num z 0]:=by rw [hz]; exact ⟨by simp; exact alloc_ntT w hg x.l 61 (by omega),by simp⟩
 have hzl:z.l=x.l:=by rw [hz]
 have hzb:z.b=w.heap.size:=by rw [hz]
 have hzv:(Value.slice (some ⟨w.heap.size,0,none⟩) x.l x.l)=z.v:=by rw [hz]
 rw [F40.q3]
 refine W_for' (σ:=Nat) (fun i=>F40.l2 z.a z.l z.c x.a x.l x.c x.l i) (fun i w'=>i≤x.l∧Chg w w' none2∧∃ V,Bank w' [num z V]∧V%BB^i=X%BB^i) (fun i=>x.l-i) 0 ⟨hzv,rfl,rfl,rfl,trivial⟩ ⟨Nat.zero_le _,c1,0,b1,by simp [Nat.mod_one]⟩ ?_
 rintro i B wr K2 ⟨hi,hc,V,hb,hV⟩ hKn hKe _
 have hx1:=hc.rd hx (fun _ _ h=>h)
 have hzP:Nt wr z V:=hb.head
 refine F40.t2 z.a z.l z.c x.a x.l x.c x.l i ⟨rfl,rfl,rfl,rfl,trivial⟩ fun B2=>bc_intro (fun hb'=>?_) (fun hb' B3=>?_)
 ·have hlt:i<x.l:=by have:=dT hb'; omega
  obtain ⟨b2,e2,c2⟩:=copy_step hb hx hc (by omega) (by omega) hV
  exact rdC (k:=i) (hx.at_ (by omega)) rfl hlt (hx1.sg i hlt) (wtC (k:=i) hzP.wt rfl (by omega) ⟨by unfold inI64; omega,fun B3=>hKn _ _ (i+1) ⟨rfl,rfl,rfl,intv (by omega),trivial⟩ rfl ⟨hlt,c2,_,b2,e2⟩ (by show x.l-(i+1)<x.l-i; omega)⟩)
 ·have hil:i=x.l:=by have:=dF hb'; omega
  subst hil
  refine hKe _ _ ?_
  show W Tryz.prog 22 F40.p1 _ wr _
  refine F40.t1 z.a z.l z.c ⟨rfl,trivial⟩ fun B4 B5=>ret1 rfl rfl ⟨z,rfl,?_,hzl,by omega,hc⟩
  have:=hzP.lt
  rw [hzl] at this
  rw [Nat.mod_eq_of_lt this,Nat.mod_eq_of_lt hx.lt] at hV
  rw [←hV]; exact hzP
theorem c62 (x:Sl) (X:Nat) (w:World) (hg:GB≤w.heap.size) (hx:Rd w x X) (hl:x.l≤1099511627776) :
  Calls Tryz.prog 62 #[x.v] w fun e w'=>∃ r:Sl,e=.returned r.v∧Nt w' r X∧r.l=x.l∧w.heap.size≤r.b∧Chg w w' none2:=by
 refine (F62.call x.a x.l x.c w (fun v w'=>∃ r:Sl,v=r.v∧Nt w' r X∧r.l=x.l∧w.heap.size≤r.b∧Chg w w' none2) fun B=>⟨x.l,x.l,rfl,rfl,Nat.le_refl _,by omega,by omega,fun B1=>?_⟩).mono fun e w' ⟨v,h1,r,h2,h3⟩=>⟨r,by rw [h1,h2],h3⟩
 obtain ⟨z,hz⟩:∃ z:Sl,z=⟨some ⟨w.heap.size,0,none⟩,x.l,x.l,w.heap.size,0⟩:=⟨_,rfl⟩
 have c1:Chg w (w.alloc (.cells (madeCells #[(Value.int IntKind.u64 0)] x.l) 38)) none2:=Chg.alloc _ _ (fun a=>RowKit.frozen?_alloc_cells _ _ _ _) _
 have b1:Bank (w.alloc (.cells (madeCells #[(Value.int IntKind.u64 0)] x.l) 38)) [num z 0]:=by rw [hz]; exact ⟨by simp; exact alloc_ntT w hg x.l 38 (by omega),by simp⟩
 have hzl:z.l=x.l:=by rw [hz]
 have hzb:z.b=w.heap.size:=by rw [hz]
 have hzv:(Value.slice (some ⟨w.heap.size,0,none⟩) x.l x.l)=z.v:=by rw [hz]
 rw [F62.q3]
 refine W_for' (σ:=Nat) (fun i=>F62.l2 z.a z.l z.c x.a x.l x.c x.l i) (fun i w'=>i≤x.l∧Chg w w' none2∧∃ V,Bank w' [num z V]∧V%BB^i=X%BB^i) (fun i=>x.l-i) 0 ⟨hzv,rfl,rfl,rfl,trivial⟩ ⟨Nat.zero_le _,c1,0,b1,by simp [Nat.mod_one]⟩ ?_
 rintro i B wr K2 ⟨hi,hc,V,hb,hV⟩ hKn hKe _
 have hx1:=hc.rd hx (fun _ _ h=>h)
 have hzP:Nt wr z V:=hb.head
 refine F62.t2 z.a z.l z.c x.a x.l x.c x.l i ⟨rfl,rfl,rfl,rfl,trivial⟩ fun B2=>bc_intro (fun hb'=>?_) (fun hb' B3=>?_)
 ·have hlt:i<x.l:=by have:=dT hb'; omega
  obtain ⟨b2,e2,c2⟩:=copy_step hb hx hc (by omega) (by omega) hV
  exact rdC (k:=i) (hx.at_ (by omega)) rfl hlt (hx1.sg i hlt) (wtC (k:=i) hzP.wt rfl (by omega) ⟨by unfold inI64; omega,fun B3=>hKn _ _ (i+1) ⟨rfl,rfl,rfl,intv (by omega),trivial⟩ rfl ⟨hlt,c2,_,b2,e2⟩ (by show x.l-(i+1)<x.l-i; omega)⟩)
 ·have hil:i=x.l:=by have:=dF hb'; omega
  subst hil
  refine hKe _ _ ?_
  show W Tryz.prog 22 F62.p1 _ wr _
  refine F62.t1 z.a z.l z.c ⟨rfl,trivial⟩ fun B4 B5=>ret1 rfl rfl ⟨z,rfl,?_,hzl,by omega,hc⟩
  have:=hzP.lt
  rw [hzl] at this
  rw [Nat.mod_eq_of_lt this,Nat.mod_eq_of_lt hx.lt] at hV
  rw [←hV]; exact hzP
theorem c27 (x:Sl) (X:Nat) (w:World) (hg:GB≤w.heap.size) (hx:Rd w x X) (hl:x.l≤1099511627776) :
  Calls Tryz.prog 27 #[x.v] w fun e w'=>∃ r:Sl,e=.returned r.v∧Nz w' r X∧r.l≤x.l∧w.heap.size≤r.b∧Chg w w' none2:=by
 refine (F27.call x.a x.l x.c w (fun v w'=>∃ r:Sl,v=r.v∧Nz w' r X∧r.l≤x.l∧w.heap.size≤r.b∧Chg w w' none2) fun B=>?_).mono fun e w' ⟨v,h1,r,h2,h3⟩=>⟨r,by rw [h1,h2],h3⟩
 refine (c43 x X w hg hx hl).mono ?_
 rintro e1 w1 ⟨r1,rfl,n1,l1,g1,c1⟩
 refine ⟨_,_,_,rfl,?_⟩
 have:Calls Tryz.prog 42 #[r1.v] w1 fun e w'=>∃ r:Sl,e=.returned r.v∧Nz w' r X∧r.l≤x.l∧w.heap.size≤r.b∧Chg w w' none2:=by
  refine (F42.call r1.a r1.l r1.c w1 (fun v w'=>∃ r:Sl,v=r.v∧Nz w' r X∧r.l≤x.l∧w.heap.size≤r.b∧Chg w w' none2) fun B=>?_).mono fun e w' ⟨v,h1,r,h2,h3⟩=>⟨r,by rw [h1,h2],h3⟩
  refine (c40 r1 X w1 (Nat.le_trans hg c1.size) n1.rd (by omega)).mono ?_
  rintro e2 w2 ⟨r2,rfl,n2,l2,g2,c2⟩
  refine ⟨_,_,_,rfl,(c46 r2 X w2 n2 (by omega)).mono ?_⟩
  rintro e3 w3 ⟨_,rfl,k,hk,rfl,hw,n3⟩
  have hw:=hw.symm
  subst hw
  have hkl:(r2.to k).l=k:=rfl
  have c12:=c1.trans' c2
  refine ⟨_,_,_,rfl,(c62 (r2.to k) X w2 (Nat.le_trans hg c12.size) n3.toNt.rd (by omega)).mono ?_⟩
  rintro e4 w4 ⟨r4,rfl,n4,l4,g4,c4⟩
  refine ⟨_,_,_,rfl,fun B2=>ret1 rfl rfl ⟨r4,rfl,{ n4 with nm:=n3.nm.of_len l4 },by omega,Nat.le_trans c12.size g4,c12.trans' c4⟩⟩
 refine this.mono ?_
 rintro e2 w2 ⟨r,rfl,h2⟩
 exact ⟨_,_,_,rfl,fun B2=>ret1 rfl rfl ⟨r,rfl,h2⟩⟩
end Go.Proofs.YtlkjiiibmfpbcaaGreatDoor
namespace Go.Proofs.YtlkjiiibmfpbcaaGreatDoor
open Go
set_option maxRecDepth 100000
set_option linter.unusedVariables false
namespace F7
noncomputable def body:Code:=bodyOf Tryz.f7
def kt:List (Nat × List Nat):=[]
variable (A0:Option Addr) (N0 C0:Nat)
abbrev l0:List (Nat × Value):=[eS 0 A0 N0 C0]
def v0:VP:=fun B ds w K=>Cl 15 #[(.slice A0 N0 C0)] w fun r1 w2=>∃ x3,r1=.returned (.int .i64 x3)∧Kd K .ret [eI 2 x3] ds w2
theorem t0:VZ 5 body (l0 A0 N0 C0) (v0 A0 N0 C0):=tz kt [2] fun B ds w K=>by kernel_rfl
theorem call:VCl 7 [.tmp 2] #[.slice A0 N0 C0] (v0 A0 N0 C0):=cz Tryz.func7 (by kernel_rfl) Tryz.ntmps7 Tryz.results7 (by kernel_rfl) (t0 A0 N0 C0)
end F7
namespace F8
noncomputable def body:Code:=bodyOf Tryz.f8
def kt:List (Nat × List Nat):=[(3,[3,8,9,10]),(4,[3,8,9,10]),(6,[3,5,6,8,9,10]),(9,[3,8,9,10]),(10,[3])]
noncomputable def p1:Code:=sb 3 7 body
noncomputable def p2:Code:=sb 6 52 body
noncomputable def p3:Code:=sb 4 13 body
noncomputable def p4:Code:=sb 9 423 body
noncomputable def p5:Code:=sb 10 844 body
noncomputable def p6:Code:=sb 9 422 body
noncomputable def p7:Code:=sb 14 13516 body
noncomputable def p8:Code:=sb 12 3379 body
theorem q3:p3=.block 0 (.loop p2):=by kernel_rfl
theorem q6:p6=.block 1 p5:=by kernel_rfl
theorem q8:p8=.block 2 (.loop p7):=by kernel_rfl
variable (A0 A3:Option Addr) (N0 N3 C0 C3:Nat) (I5 I6:Int) (A8:Option Addr) (N8 C8:Nat) (I9 I10:Int)
abbrev l0:List (Nat × Value):=[eS 0 A0 N0 C0]
def v0:VP:=fun B ds w K=>∃ w1,∃ x2a,∃ x2l,∃ x2c,Sem.run Tryz.prog (Instr.buildSlice 26 0 #[]) w=.ok (.slice x2a x2l x2c) w1∧Wd 30 p3 [eS 3 x2a x2l x2c,eS 8 A0 N0 C0,eI 9 (N0:Int),eI 10 0] ds w1 (thenW Tryz.prog 30 p1 K)
theorem t0:VZ 30 body (l0 A0 N0 C0) (v0 A0 N0 C0):=tz kt [2] fun B ds w K=>by kernel_rfl
theorem call:VCl 8 [.tmp 2] #[.slice A0 N0 C0] (v0 A0 N0 C0):=cz Tryz.func8 (by kernel_rfl) Tryz.ntmps8 Tryz.results8 (by kernel_rfl) (t0 A0 N0 C0)
abbrev l1:List (Nat × Value):=[eS 3 A3 N3 C3]
def v1:VP:=fun B ds w K=>Cl 16 #[(.slice A3 N3 C3)] w fun r1 w2=>∃ x3a,∃ x3l,∃ x3c,r1=.returned (.slice x3a x3l x3c)∧Kd K .ret [eS 2 x3a x3l x3c] ds w2
theorem t1:VT 30 p1 (l1 A3 N3 C3) (v1 A3 N3 C3):=tw kt [2] fun B ds w K=>by kernel_rfl
abbrev l2:List (Nat × Value):=[eS 3 A3 N3 C3,eS 8 A8 N8 C8,eI 9 I9,eI 10 I10]
def v2:VP:=fun B ds w K=>bc (decide (I10<(I9:Int))) (Wd 30 p6 [eS 3 A3 N3 C3,eS 8 A8 N8 C8,eI 9 I9,eI 10 I10] ds w (thenW Tryz.prog 30 p4 K)) (Kd K (.exit 0) [eS 3 A3 N3 C3,eS 8 A8 N8 C8,eI 9 I9,eI 10 I10] ds w)
theorem t2:VT 30 p2 (l2 A3 N3 C3 A8 N8 C8 I9 I10) (v2 A3 N3 C3 A8 N8 C8 I9 I10):=tw kt [3,8,9,10] fun B ds w K=>by kernel_rfl
abbrev l4:List (Nat × Value):=[eS 3 A3 N3 C3,eS 8 A8 N8 C8,eI 9 I9,eI 10 I10]
def v4:VP:=fun B ds w K=>inI64 (I10+1)∧Kd K .normal [eS 3 A3 N3 C3,eS 8 A8 N8 C8,eI 9 I9,eI 10 (I10+1)] ds w
theorem t4:VT 30 p4 (l4 A3 N3 C3 A8 N8 C8 I9 I10) (v4 A3 N3 C3 A8 N8 C8 I9 I10):=tw kt [3,8,9,10] fun B ds w K=>by kernel_rfl
abbrev l5:List (Nat × Value):=[eS 3 A3 N3 C3,eS 8 A8 N8 C8,eI 9 I9,eI 10 I10]
def v5:VP:=fun B ds w K=>nc A8 fun b2 o3=>∃ k1:Nat,I10=(k1:Int)∧k1<N8∧∃ x4,w.cell? ⟨b2,o3+k1,none⟩=some (.int .u64 x4)∧Wd 30 p8 [eS 3 A3 N3 C3,eU 5 x4,eI 6 0,eS 8 A8 N8 C8,eI 9 I9,eI 10 I10] ds w K
theorem t5:VT 30 p5 (l5 A3 N3 C3 A8 N8 C8 I9 I10) (v5 A3 N3 C3 A8 N8 C8 I9 I10):=tw kt [3,8,9,10] fun B ds w K=>by kernel_rfl
abbrev l7:List (Nat × Value):=[eS 3 A3 N3 C3,eU 5 I5,eI 6 I6,eS 8 A8 N8 C8,eI 9 I9,eI 10 I10]
def v7:VP:=fun B ds w K=>bc (decide (I6<(4:Int))) (inI64 (16*I6)∧(0:Int)≤(16*I6)∧∃ w1,∃ x2a,∃ x2l,∃ x2c,Sem.run Tryz.prog (Instr.buildSlice 26 1 #[(0,(.int .i64 (IntKind.wrap .i64 (iAnd .u64 (iShr .u64 I5 (16*I6)) 65535))))]) w=.ok (.slice x2a x2l x2c) w1∧∃ w3,∃ x4a,∃ x4l,∃ x4c,Sem.run Tryz.prog (builtin .append #[26,26] 26 #[false,false] #[(.slice A3 N3 C3),(.slice x2a x2l x2c)]) w1=.ok (.value (.slice x4a x4l x4c)) w3∧inI64 (I6+1)∧Kd K .normal [eS 3 x4a x4l x4c,eU 5 I5,eI 6 (I6+1),eS 8 A8 N8 C8,eI 9 I9,eI 10 I10] ds w3) (Kd K (.exit 2) [eS 3 A3 N3 C3,eU 5 I5,eI 6 I6,eS 8 A8 N8 C8,eI 9 I9,eI 10 I10] ds w)
theorem t7:VT 30 p7 (l7 A3 N3 C3 I5 I6 A8 N8 C8 I9 I10) (v7 A3 N3 C3 I5 I6 A8 N8 C8 I9 I10):=tw kt [3,5,6,8,9,10] fun B ds w K=>by kernel_rfl
end F8
namespace F15
noncomputable def body:Code:=bodyOf Tryz.f15
def kt:List (Nat × List Nat):=[(5,[3,4]),(8,[3])]
noncomputable def p1:Code:=sb 4 15 body
noncomputable def p2:Code:=sb 7 116 body
noncomputable def p3:Code:=sb 5 29 body
theorem q3:p3=.block 0 (.loop p2):=by kernel_rfl
variable (A0:Option Addr) (I3:Int) (N0:Nat) (I4:Int) (C0:Nat)
abbrev l0:List (Nat × Value):=[eS 0 A0 N0 C0]
def v0:VP:=fun B ds w K=>bc ((N0:Int)==0) (Kd K .ret [eI 2 0] ds w) (inI64 ((N0:Int)-1)∧inI64 (16*((N0:Int)-1))∧inI64 ((N0:Int)-1)∧nc A0 fun b3 o4=>∃ k2:Nat,((N0:Int)-1)=(k2:Int)∧k2<N0∧∃ x5,w.cell? ⟨b3,o4+k2,none⟩=some (.int .i64 x5)∧Wd 25 p3 [eI 3 (16*((N0:Int)-1)),eI 4 x5] ds w (thenW Tryz.prog 25 p1 K))
theorem t0:VZ 25 body (l0 A0 N0 C0) (v0 A0 N0):=tz kt [2] fun B ds w K=>by kernel_rfl
theorem call:VCl 15 [.tmp 2] #[.slice A0 N0 C0] (v0 A0 N0):=cz Tryz.func15 (by kernel_rfl) Tryz.ntmps15 Tryz.results15 (by kernel_rfl) (t0 A0 N0 C0)
abbrev l1:List (Nat × Value):=[eI 3 I3]
def v1:VP:=fun B ds w K=>Kd K .ret [eI 2 I3] ds w
theorem t1:VT 25 p1 (l1 I3) (v1 I3):=tw kt [2] fun B ds w K=>by kernel_rfl
abbrev l2:List (Nat × Value):=[eI 3 I3,eI 4 I4]
def v2:VP:=fun B ds w K=>bc (decide (I4>(0:Int))) (inI64 (I3+1)∧2≠(0:Int)∧Kd K .normal [eI 3 (I3+1),eI 4 (iQuo .i64 I4 2)] ds w) (Kd K (.exit 0) [eI 3 I3,eI 4 I4] ds w)
theorem t2:VT 25 p2 (l2 I3 I4) (v2 I3 I4):=tw kt [3,4] fun B ds w K=>by kernel_rfl
end F15
namespace F16
noncomputable def body:Code:=bodyOf Tryz.f16
def kt:List (Nat × List Nat):=[(1,[0]),(3,[0])]
noncomputable def p1:Code:=sb 2 3 body
noncomputable def p2:Code:=sb 4 8 body
noncomputable def p3:Code:=sb 2 2 body
theorem q3:p3=.block 0 (.loop p2):=by kernel_rfl
variable (A0:Option Addr) (N0 C0:Nat)
abbrev l0:List (Nat × Value):=[eS 0 A0 N0 C0]
def v0:VP:=fun B ds w K=>Wd 21 p3 [eS 0 A0 N0 C0] ds w (thenW Tryz.prog 21 p1 K)
theorem t0:VZ 21 body (l0 A0 N0 C0) (v0 A0 N0 C0):=tz kt [2] fun B ds w K=>by kernel_rfl
theorem call:VCl 16 [.tmp 2] #[.slice A0 N0 C0] (v0 A0 N0 C0):=cz Tryz.func16 (by kernel_rfl) Tryz.ntmps16 Tryz.results16 (by kernel_rfl) (t0 A0 N0 C0)
abbrev l1:List (Nat × Value):=[eS 0 A0 N0 C0]
def v1:VP:=fun B ds w K=>Kd K .ret [eS 2 A0 N0 C0] ds w
theorem t1:VT 21 p1 (l1 A0 N0 C0) (v1 A0 N0 C0):=tw kt [2] fun B ds w K=>by kernel_rfl
abbrev l2:List (Nat × Value):=[eS 0 A0 N0 C0]
def v2:VP:=fun B ds w K=>bc (decide ((N0:Int)>(0:Int))) (inI64 ((N0:Int)-1)∧nc A0 fun b2 o3=>∃ k1:Nat,((N0:Int)-1)=(k1:Int)∧k1<N0∧∃ x4,w.cell? ⟨b2,o3+k1,none⟩=some (.int .i64 x4)∧bc (x4==0) (inI64 ((N0:Int)-1)∧∃ h6:Nat,((N0:Int)-1)=(h6:Int)∧h6≤C0∧Kd K .normal [eS 0 A0 h6 C0] ds w) (Kd K (.exit 0) [eS 0 A0 N0 C0] ds w)) (Kd K (.exit 0) [eS 0 A0 N0 C0] ds w)
theorem t2:VT 21 p2 (l2 A0 N0 C0) (v2 A0 N0 C0):=tw kt [0] fun B ds w K=>by kernel_rfl
end F16
namespace F21
noncomputable def body:Code:=bodyOf Tryz.f21
def kt:List (Nat × List Nat):=[(5,[0,5,15,16]),(10,[])]
noncomputable def p1:Code:=sb 4 15 body
noncomputable def p2:Code:=sb 7 116 body
noncomputable def p3:Code:=sb 5 29 body
theorem q3:p3=.block 0 (.loop p2):=by kernel_rfl
variable (A0:Option Addr) (N0 C0:Nat) (A1 A5:Option Addr) (N1 N5 C1 C5:Nat) (I15 I16:Int)
abbrev l0:List (Nat × Value):=[eS 0 A0 N0 C0,eS 1 A1 N1 C1]
def v0:VP:=fun B ds w K=>Cl 34 #[(.slice A1 N1 C1)] w fun r1 w2=>∃ x3a,∃ x3l,∃ x3c,r1=.returned (.slice x3a x3l x3c)∧bc ((N0:Int) != (x3l:Int)) (Kd K .ret [eB 4 false] ds w2) (Wd 29 p3 [eS 0 A0 N0 C0,eS 5 x3a x3l x3c,eI 15 (x3l:Int),eI 16 0] ds w2 (thenW Tryz.prog 29 p1 K))
theorem t0:VZ 29 body (l0 A0 N0 C0 A1 N1 C1) (v0 A0 N0 C0 A1 N1 C1):=tz kt [4] fun B ds w K=>by kernel_rfl
theorem call:VCl 21 [.tmp 4] #[.slice A0 N0 C0,.slice A1 N1 C1] (v0 A0 N0 C0 A1 N1 C1):=cz Tryz.func21 (by kernel_rfl) Tryz.ntmps21 Tryz.results21 (by kernel_rfl) (t0 A0 N0 C0 A1 N1 C1)
abbrev l1:List (Nat × Value):=[]
def v1:VP:=fun B ds w K=>Kd K .ret [eB 4 true] ds w
theorem t1:VT 29 p1 l1 v1:=tw kt [4] fun B ds w K=>by kernel_rfl
abbrev l2:List (Nat × Value):=[eS 0 A0 N0 C0,eS 5 A5 N5 C5,eI 15 I15,eI 16 I16]
def v2:VP:=fun B ds w K=>bc (decide (I16<(I15:Int))) (nc A0 fun b2 o3=>∃ k1:Nat,I16=(k1:Int)∧k1<N0∧∃ x4,w.drew.cell? ⟨b2,o3+k1,none⟩=some (.int .u64 x4)∧nc A5 fun b6 o7=>∃ k5:Nat,I16=(k5:Int)∧k5<N5∧∃ x8,w.drew.cell? ⟨b6,o7+k5,none⟩=some (.int .u64 x8)∧bc (x4 != (x8:Int)) (Kd K .ret [eS 0 A0 N0 C0,eB 4 false,eS 5 A5 N5 C5,eI 15 I15,eI 16 I16] ds w.drew) (inI64 (I16+1)∧Kd K .normal [eS 0 A0 N0 C0,(4,B 4),eS 5 A5 N5 C5,eI 15 I15,eI 16 (I16+1)] ds w.drew)) (Kd K (.exit 0) [eS 0 A0 N0 C0,(4,B 4),eS 5 A5 N5 C5,eI 15 I15,eI 16 I16] ds w)
theorem t2:VT 29 p2 (l2 A0 N0 C0 A5 N5 C5 I15 I16) (v2 A0 N0 C0 A5 N5 C5 I15 I16):=tw kt [0,4,5,15,16] fun B ds w K=>by kernel_rfl
end F21
namespace F23
noncomputable def body:Code:=bodyOf Tryz.f23
def kt:List (Nat × List Nat):=[(2,[0,3]),(5,[3])]
noncomputable def p1:Code:=sb 3 7 body
noncomputable def p2:Code:=sb 5 24 body
noncomputable def p3:Code:=sb 3 6 body
theorem q3:p3=.block 0 (.loop p2):=by kernel_rfl
variable (I0:Int) (A3:Option Addr) (N3 C3:Nat)
abbrev l0:List (Nat × Value):=[eI 0 I0]
def v0:VP:=fun B ds w K=>∃ w1,∃ x2a,∃ x2l,∃ x2c,Sem.run Tryz.prog (Instr.buildSlice 26 0 #[]) w=.ok (.slice x2a x2l x2c) w1∧Wd 15 p3 [eI 0 I0,eS 3 x2a x2l x2c] ds w1 (thenW Tryz.prog 15 p1 K)
theorem t0:VZ 15 body (l0 I0) (v0 I0):=tz kt [2] fun B ds w K=>by kernel_rfl
theorem call:VCl 23 [.tmp 2] #[.int .i64 I0] (v0 I0):=cz Tryz.func23 (by kernel_rfl) Tryz.ntmps23 Tryz.results23 (by kernel_rfl) (t0 I0)
abbrev l1:List (Nat × Value):=[eS 3 A3 N3 C3]
def v1:VP:=fun B ds w K=>Kd K .ret [eS 2 A3 N3 C3] ds w
theorem t1:VT 15 p1 (l1 A3 N3 C3) (v1 A3 N3 C3):=tw kt [2] fun B ds w K=>by kernel_rfl
abbrev l2:List (Nat × Value):=[eI 0 I0,eS 3 A3 N3 C3]
def v2:VP:=fun B ds w K=>bc (decide (I0>(0:Int))) (65536≠(0:Int)∧∃ w1,∃ x2a,∃ x2l,∃ x2c,Sem.run Tryz.prog (Instr.buildSlice 26 1 #[(0,(.int .i64 (iRem I0 65536)))]) w=.ok (.slice x2a x2l x2c) w1∧∃ w3,∃ x4a,∃ x4l,∃ x4c,Sem.run Tryz.prog (builtin .append #[26,26] 26 #[false,false] #[(.slice A3 N3 C3),(.slice x2a x2l x2c)]) w1=.ok (.value (.slice x4a x4l x4c)) w3∧65536≠(0:Int)∧Kd K .normal [eI 0 (iQuo .i64 I0 65536),eS 3 x4a x4l x4c] ds w3) (Kd K (.exit 0) [eI 0 I0,eS 3 A3 N3 C3] ds w)
theorem t2:VT 15 p2 (l2 I0 A3 N3 C3) (v2 I0 A3 N3 C3):=tw kt [0,3] fun B ds w K=>by kernel_rfl
end F23
namespace F28
noncomputable def body:Code:=bodyOf Tryz.f28
def kt:List (Nat × List Nat):=[(4,[0,1,6,7,8]),(9,[6,7])]
noncomputable def p1:Code:=sb 4 15 body
noncomputable def p2:Code:=sb 7 116 body
noncomputable def p3:Code:=sb 5 29 body
theorem q3:p3=.block 0 (.loop p2):=by kernel_rfl
variable (A0:Option Addr) (N0 C0:Nat) (I1:Int) (A6:Option Addr) (N6 C6:Nat) (I7 I8:Int)
abbrev l0:List (Nat × Value):=[eS 0 A0 N0 C0,eI 1 I1]
def v0:VP:=fun B ds w K=>∃ l1 c2:Nat,(N0:Int)=(l1:Int)∧(N0:Int)=(c2:Int)∧l1≤c2∧8*c2≤281474976710656∧c2≤281474976710656∧inI64 ((N0:Int)-1)∧Wd 38 p3 [eS 0 A0 N0 C0,eI 1 I1,eS 6 (some ⟨(World.heap w).size,0,none⟩) l1 c2,eI 7 0,eI 8 ((N0:Int)-1)] ds (World.alloc w (.cells (madeCells #[(Value.int IntKind.i64 0)] c2) 3)) (thenW Tryz.prog 38 p1 K)
theorem t0:VZ 38 body (l0 A0 N0 C0 I1) (v0 A0 N0 C0 I1):=tz kt [4,5] fun B ds w K=>by kernel_rfl
theorem call:VCl 28 [.tmp 4,.tmp 5] #[.slice A0 N0 C0,.int .i64 I1] (v0 A0 N0 C0 I1):=cz Tryz.func28 (by kernel_rfl) Tryz.ntmps28 Tryz.results28 (by kernel_rfl) (t0 A0 N0 C0 I1)
abbrev l1:List (Nat × Value):=[eS 6 A6 N6 C6,eI 7 I7]
def v1:VP:=fun B ds w K=>Cl 16 #[(.slice A6 N6 C6)] w fun r1 w2=>∃ x3a,∃ x3l,∃ x3c,r1=.returned (.slice x3a x3l x3c)∧Kd K .ret [eS 4 x3a x3l x3c,eI 5 I7] ds w2
theorem t1:VT 38 p1 (l1 A6 N6 C6 I7) (v1 A6 N6 C6 I7):=tw kt [4,5] fun B ds w K=>by kernel_rfl
abbrev l2:List (Nat × Value):=[eS 0 A0 N0 C0,eI 1 I1,eS 6 A6 N6 C6,eI 7 I7,eI 8 I8]
def v2:VP:=fun B ds w K=>bc (decide (I8≥(0:Int))) (inI64 (I7*65536)∧nc A0 fun b2 o3=>∃ k1:Nat,I8=(k1:Int)∧k1<N0∧∃ x4,w.cell? ⟨b2,o3+k1,none⟩=some (.int .i64 x4)∧inI64 ((I7*65536)+x4)∧I1≠(0:Int)∧nc A6 fun b6 o7=>∃ k5:Nat,I8=(k5:Int)∧k5<N6∧(∃ u8,w.cell? ⟨b6,o7+k5,none⟩=some u8)∧w.frozen? ⟨b6,o7+k5,none⟩=false∧I1≠(0:Int)∧inI64 (I8-1)∧Kd K .normal [eS 0 A0 N0 C0,eI 1 I1,eS 6 A6 N6 C6,eI 7 (iRem ((I7*65536)+x4) I1),eI 8 (I8-1)] ds (w.setCell ⟨b6,o7+k5,none⟩ (.int .i64 (iQuo .i64 ((I7*65536)+x4) I1)))) (Kd K (.exit 0) [eS 0 A0 N0 C0,eI 1 I1,eS 6 A6 N6 C6,eI 7 I7,eI 8 I8] ds w)
theorem t2:VT 38 p2 (l2 A0 N0 C0 I1 A6 N6 C6 I7 I8) (v2 A0 N0 C0 I1 A6 N6 C6 I7 I8):=tw kt [0,1,6,7,8] fun B ds w K=>by kernel_rfl
end F28
namespace F34
noncomputable def body:Code:=bodyOf Tryz.f34
def kt:List (Nat × List Nat):=[(3,[3,7,8,9]),(7,[3,4,5,7,8,9]),(8,[3,7,8,9]),(9,[3])]
noncomputable def p1:Code:=sb 3 7 body
noncomputable def p2:Code:=sb 6 52 body
noncomputable def p3:Code:=sb 4 13 body
noncomputable def p4:Code:=sb 9 423 body
noncomputable def p5:Code:=sb 12 3379 body
theorem q3:p3=.block 0 (.loop p2):=by kernel_rfl
variable (A0 A3:Option Addr) (N0 N3 C0 C3:Nat) (I4 I5:Int) (A7:Option Addr) (N7 C7:Nat) (I8 I9:Int)
abbrev l0:List (Nat × Value):=[eS 0 A0 N0 C0]
def v0:VP:=fun B ds w K=>∃ w1,∃ x2a,∃ x2l,∃ x2c,Sem.run Tryz.prog (Instr.buildSlice 22 0 #[]) w=.ok (.slice x2a x2l x2c) w1∧Wd 35 p3 [eS 3 x2a x2l x2c,eS 7 A0 N0 C0,eI 8 (N0:Int),eI 9 0] ds w1 (thenW Tryz.prog 35 p1 K)
theorem t0:VZ 35 body (l0 A0 N0 C0) (v0 A0 N0 C0):=tz kt [2] fun B ds w K=>by kernel_rfl
theorem call:VCl 34 [.tmp 2] #[.slice A0 N0 C0] (v0 A0 N0 C0):=cz Tryz.func34 (by kernel_rfl) Tryz.ntmps34 Tryz.results34 (by kernel_rfl) (t0 A0 N0 C0)
abbrev l1:List (Nat × Value):=[eS 3 A3 N3 C3]
def v1:VP:=fun B ds w K=>Kd K .ret [eS 2 A3 N3 C3] ds w
theorem t1:VT 35 p1 (l1 A3 N3 C3) (v1 A3 N3 C3):=tw kt [2] fun B ds w K=>by kernel_rfl
abbrev l2:List (Nat × Value):=[eS 3 A3 N3 C3,eS 7 A7 N7 C7,eI 8 I8,eI 9 I9]
def v2:VP:=fun B ds w K=>bc (decide (I9<(I8:Int))) (nc A7 fun b2 o3=>∃ k1:Nat,I9=(k1:Int)∧k1<N7∧∃ x4,w.cell? ⟨b2,o3+k1,none⟩=some (.int .i64 x4)∧4≠(0:Int)∧bc ((iRem I9 4)==0) (∃ w5,∃ x6a,∃ x6l,∃ x6c,Sem.run Tryz.prog (Instr.buildSlice 22 1 #[(0,(.int .u64 0))]) w=.ok (.slice x6a x6l x6c) w5∧∃ w7,∃ x8a,∃ x8l,∃ x8c,Sem.run Tryz.prog (builtin .append #[22,22] 22 #[false,false] #[(.slice A3 N3 C3),(.slice x6a x6l x6c)]) w5=.ok (.value (.slice x8a x8l x8c)) w7∧Wd 35 p5 [eS 3 x8a x8l x8c,eI 4 I9,eI 5 x4,eS 7 A7 N7 C7,eI 8 I8,eI 9 I9] ds w7 (blockK 1 (thenW Tryz.prog 35 p4 K))) (Wd 35 p5 [eS 3 A3 N3 C3,eI 4 I9,eI 5 x4,eS 7 A7 N7 C7,eI 8 I8,eI 9 I9] ds w (blockK 1 (thenW Tryz.prog 35 p4 K)))) (Kd K (.exit 0) [eS 3 A3 N3 C3,eS 7 A7 N7 C7,eI 8 I8,eI 9 I9] ds w)
theorem t2:VT 35 p2 (l2 A3 N3 C3 A7 N7 C7 I8 I9) (v2 A3 N3 C3 A7 N7 C7 I8 I9):=tw kt [3,7,8,9] fun B ds w K=>by kernel_rfl
abbrev l4:List (Nat × Value):=[eS 3 A3 N3 C3,eS 7 A7 N7 C7,eI 8 I8,eI 9 I9]
def v4:VP:=fun B ds w K=>inI64 (I9+1)∧Kd K .normal [eS 3 A3 N3 C3,eS 7 A7 N7 C7,eI 8 I8,eI 9 (I9+1)] ds w
theorem t4:VT 35 p4 (l4 A3 N3 C3 A7 N7 C7 I8 I9) (v4 A3 N3 C3 A7 N7 C7 I8 I9):=tw kt [3,7,8,9] fun B ds w K=>by kernel_rfl
abbrev l5:List (Nat × Value):=[eS 3 A3 N3 C3,eI 4 I4,eI 5 I5,eS 7 A7 N7 C7,eI 8 I8,eI 9 I9]
def v5:VP:=fun B ds w K=>4≠(0:Int)∧nc A3 fun b2 o3=>∃ k1:Nat,(iQuo .i64 I4 4)=(k1:Int)∧k1<N3∧∃ x4,w.drew.cell? ⟨b2,o3+k1,none⟩=some (.int .u64 x4)∧4≠(0:Int)∧inI64 (16*(iRem I4 4))∧(0:Int)≤(16*(iRem I4 4))∧nc A3 fun b6 o7=>∃ k5:Nat,(iQuo .i64 I4 4)=(k5:Int)∧k5<N3∧(∃ u8,w.drew.cell? ⟨b6,o7+k5,none⟩=some u8)∧w.drew.frozen? ⟨b6,o7+k5,none⟩=false∧Kd K .normal [eS 3 A3 N3 C3,eS 7 A7 N7 C7,eI 8 I8,eI 9 I9] ds (w.drew.setCell ⟨b6,o7+k5,none⟩ (.int .u64 (iOr .u64 x4 (iShl .u64 (IntKind.wrap .u64 I5) (16*(iRem I4 4))))))
theorem t5:VT 35 p5 (l5 A3 N3 C3 I4 I5 A7 N7 C7 I8 I9) (v5 A3 N3 C3 I4 I5 A7 N7 C7 I8 I9):=tw kt [3,7,8,9] fun B ds w K=>by kernel_rfl
end F34
end Go.Proofs.YtlkjiiibmfpbcaaGreatDoor
