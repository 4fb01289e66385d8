/- Contracts: taking words from the stack of temporaries. Conditions: levels and counts up to 2^42. -/
import Derived.Test.YtlkjiiibmfpbcaaGreatDoorS14
namespace Go.Proofs.YtlkjiiibmfpbcaaGreatDoor
open Go
theorem stk_put {w:World} {K:SK} (hk:StkAt w K) {b:Nat} (hb:K.q=some b) (r:Sl) (hr:St w r) (hap:r.c≠0→r.b≠K.p∧r.b≠b) :
  StkAt (w.setCell ⟨b,0,none⟩ r.v) ⟨K.p,K.q,r⟩∧Chg w (w.setCell ⟨b,0,none⟩ r.v) K.free:=by
 obtain ⟨h1,h2,h3,h4⟩:=hk.inn b hb
 have hc:Chg w (w.setCell ⟨b,0,none⟩ r.v) (fun b' i=>b'=b∧i=0):=Chg.setCell h1 _ ⟨rfl,rfl⟩
 refine ⟨⟨hc.own hk.own,?_,by rw [hc.froz]; exact hk.fr,fun b' hb'=>?_,fun h=>(by have h:K.q=Option.none:=h; rw [hb] at h; cases h),hc.st hr,fun h=>⟨(hap h).1,fun e=>(hap h).2 (by have e:K.q=some r.b:=e; rw [hb] at e; cases e; rfl)⟩⟩,hc.mono fun b' i _ hm=>.inr (.inl (by rw [hb,hm.1]))⟩
 ·show World.cell? _ ⟨K.p,0,none⟩=_
  rw [hc.cell (lt_of_cell hk.cell) (fun hm=>h4 hm.1.symm)]; exact hk.cell
 ·have hb':K.q=some b':=hb'
  rw [hb] at hb'; cases hb'
  exact ⟨hc.own h1,World.cell?_setCell_same _ _ _ h2,by rw [hc.froz]; exact h3,h4⟩
def TakeR (w:World) (K:SK) (n:Nat) (v:Value) (w':World):Prop :=
 ∃ (x:Sl) (K':SK),v=x.v∧x.l=n∧St w' x∧Off K' x∧(∀ i,x.o≤i→i<x.o+x.c→K.free x.b i∨w.heap.size≤x.b)∧StkAt w' K'∧Nxt w K K'∧Chg w w' K.free∧K'.s.l≤K.s.l+n+4
theorem c143 (w:World) (K:SK) (hk:StkAt w K) (b:Nat) (hb:K.q=some b) (n:Nat) (hn:n≤4398046511104) (hL:K.s.l≤2199023255552) :
  Calls Tryz.prog 143 #[.pointer (some ⟨b,0,none⟩),.int .i64 (n:Int)] w fun e w'=>∃ v,e=.returned v∧TakeR w K n v w':=by
 obtain ⟨i1,i2,i3,i4⟩:=hk.inn b hb
 refine F143.call (some ⟨b,0,none⟩) n w _ fun B=>?_
 unfold F143.v0
 rw [round4 n hn]
 have hnr:n≤(n+3)/4*4∧(n+3)/4*4≤n+3:=by omega
 generalize (n+3)/4*4=nr at hnr
 obtain ⟨hn1,hn2⟩:=hnr
 refine ⟨by unfold inI64; omega,b,0,rfl,_,_,_,i2,b,0,rfl,_,_,_,i2,(c164 K.s nr w hk.st (by omega)).mono ?_⟩
 rintro e w1 ⟨_,rfl,r,rfl,hrl,hrc,hr,hor,hc⟩
 have hk1:=hk.none hc
 obtain ⟨j1,j2,j3,j4⟩:=hk1.inn b hb
 have hap:r.c≠0→r.b≠K.p∧r.b≠b:=by
  intro h0
  rcases hor with rfl | ⟨h1,_⟩
  ·exact ⟨(hk.ap h0).1,fun e=>(hk.ap h0).2 (by rw [hb,e])⟩
  ·have:=plain_lt hk.own.2
   have:=plain_lt i1.2
   exact ⟨by omega,by omega⟩
 obtain ⟨k2,c2⟩:=stk_put hk1 hb r hr hap
 refine ⟨_,_,_,rfl,b,0,rfl,⟨_,j2⟩,j3,b,0,rfl,r.a,r.l,r.c,(k2.inn b hb).2.1,by unfold inI64; omega,K.s.l+nr,by omega,hrc,b,0,rfl,⟨_,(k2.inn b hb).2.1⟩,(k2.inn b hb).2.2.1,?_⟩
 have hr2:=c2.st hr
 obtain ⟨k3,c3⟩:=stk_put k2 hb (r.to (K.s.l+nr)) (hr2.to_st _ hrc) hap
 have c23:Chg w1 ((w1.setCell ⟨b,0,none⟩ r.v).setCell ⟨b,0,none⟩ (r.to (K.s.l+nr)).v) (fun b' i=>b'=b) :=
  (Chg.setCell j1 (fun b' i=>b'=b) rfl).trans' (Chg.setCell (k2.inn b hb).1 (fun b' i=>b'=b) rfl)
 refine ⟨b,0,rfl,r.a,K.s.l+nr,r.c,(k3.inn b hb).2.1,by unfold inI64; omega,by unfold inI64; omega,K.s.l,K.s.l+n,K.s.l+n,rfl,by omega,by omega,by omega,Nat.le_refl _,by omega,?_⟩
 have hr3:=c23.st hr
 simp only [Nat.add_zero]
 obtain ⟨w3,hw3⟩:∃ w3,w3=(w1.setCell ⟨b,0,none⟩ (.slice r.a r.l r.c)).setCell ⟨b,0,none⟩ (.slice r.a (K.s.l+nr) r.c):=⟨_,rfl⟩
 rw [←hw3]
 have k3:StkAt w3 ⟨K.p,K.q,r.to (K.s.l+nr)⟩:=by rw [hw3]; exact k3
 have c23:Chg w1 w3 (fun b' i=>b'=b):=by rw [hw3]; exact c23
 have hr3:St w3 r:=by rw [hw3]; exact hr3
 have c23f:Chg w w3 K.free:=(hc.none _).trans' (c23.mono fun b' i _ hm=>.inr (.inl (by rw [hb,hm])))
 have hx:St w3 ⟨shifted r.a K.s.l (K.s.l+n) 1,K.s.l+n-K.s.l,K.s.l+n-K.s.l,r.b,r.o+K.s.l⟩:=by
  refine ⟨Nat.le_refl _,fun h0=>?_,hr3.wr.sub K.s.l (K.s.l+n-K.s.l) (by omega),fun h0=>hr3.pl (by have h0:K.s.l+n-K.s.l≠0:=h0; omega),by show K.s.l+n-K.s.l≤_; omega,hr3.gb⟩
  have h0:K.s.l+n-K.s.l≠0:=h0
  show shifted r.a K.s.l (K.s.l+n) 1=_
  rw [hr3.at_ (by omega),shifted_eq _ _ _ _ (by omega)]
 have hoff:Off ⟨K.p,K.q,r.to (K.s.l+nr)⟩ ⟨shifted r.a K.s.l (K.s.l+n) 1,K.s.l+n-K.s.l,K.s.l+n-K.s.l,r.b,r.o+K.s.l⟩:=by
  intro i h1 h2 h3
  have h1:r.o+K.s.l≤i:=h1
  have h2:i<r.o+K.s.l+(K.s.l+n-K.s.l):=h2
  have hrc0:r.c≠0:=by omega
  rcases h3 with e | e | ⟨_,h4,_⟩
  ·exact (hap hrc0).1 e
  ·have e:K.q=some r.b:=e
   rw [hb] at e; cases e; exact (hap hrc0).2 rfl
  ·have h4:r.o+(K.s.l+nr)≤i:=h4
   omega
 have hfree:∀ i,r.o+K.s.l≤i→i<r.o+K.s.l+(K.s.l+n-K.s.l)→K.free r.b i∨w.heap.size≤r.b:=by
  intro i h1 h2
  rcases hor with rfl | ⟨h,_⟩
  ·exact .inl (.inr (.inr ⟨rfl,h1,by omega⟩))
  ·exact .inr h
 have hnx:Nxt w K ⟨K.p,K.q,r.to (K.s.l+nr)⟩:=by
  refine ⟨rfl,.inl rfl,?_,by show K.s.l≤K.s.l+nr; omega,fun h=>?_⟩
  ·rcases hor with rfl | ⟨h,h'⟩
   ·exact .inl ⟨rfl,rfl,rfl⟩
   ·exact .inr ⟨h',h⟩
  ·rcases hor with rfl | ⟨_,h'⟩
   ·exact h
   ·exact h'
 refine bc_intro (fun hb0=>?_) (fun hb0 B2=>?_)
 ·have hpos:0<n:=by have:=dT hb0; omega
  have hxo:shifted r.a K.s.l (K.s.l+n) 1=some ⟨r.b,r.o+K.s.l,none⟩:=hx.at_ (by show K.s.l+n-K.s.l≠0; omega)
  obtain ⟨⟨u,hu⟩,hfu⟩:=hx.wr 0 (by show 0<K.s.l+n-K.s.l; omega)
  refine ⟨r.b,r.o+K.s.l,hxo,0,rfl,by omega,⟨u,hu⟩,hfu,fun B2=>F143.t1 _ _ _ ⟨rfl,trivial⟩ fun B3 B4=>ret1 rfl rfl ⟨_,_,rfl,by show K.s.l+n-K.s.l=n; omega,?_,hoff,hfree,?_,hnx,?_,by show K.s.l+nr≤_; omega⟩⟩
  ·exact (Chg.setCell (hx.pl (by show K.s.l+n-K.s.l≠0; omega)) (fun _ _=>True) trivial).st hx
  ·refine k3.chg (Chg.setCell (hx.pl (by show K.s.l+n-K.s.l≠0; omega)) (inR r.b (r.o+K.s.l+0) (r.o+K.s.l+0+1)) ⟨rfl,by omega,by omega⟩) (fun hm=>?_) (fun b' hb' hm=>?_)
   ·exact (hap (by omega)).1 hm.1.symm
   ·have hb':K.q=some b':=hb'
    rw [hb] at hb'; cases hb'; exact (hap (by omega)).2 hm.1.symm
  ·refine c23f.trans (Chg.setCell (hx.pl (by show K.s.l+n-K.s.l≠0; omega)) (inR r.b (r.o+K.s.l+0) (r.o+K.s.l+0+1)) ⟨rfl,by omega,by omega⟩) (fun _ _ _ h=>h) fun b' i hb' hm=>?_
   obtain ⟨e1,e2,e3⟩:=hm
   rcases hfree i (by omega) (by omega) with h | h
   ·rw [e1]; exact h
   ·omega
 ·exact F143.t1 _ _ _ ⟨rfl,trivial⟩ fun B3 B4=>ret1 rfl rfl ⟨_,_,rfl,by show K.s.l+n-K.s.l=n; omega,hx,hoff,hfree,k3,hnx,c23f,by show K.s.l+nr≤_; omega⟩
theorem c104 (w:World) (K:SK) (hk:StkAt w K) (n:Nat) (hn:n≤4398046511104) (hL:K.s.l≤2199023255552) :
  Calls Tryz.prog 104 #[.pointer K.a,.int .i64 (n:Int)] w fun e w'=>∃ v,e=.returned v∧TakeR w K n v w':=by
 have fin2:∀ (w1:World) (K1:SK) (b:Nat) (e:Env),e.defers=[]→K1.q=some b→StkAt w1 K1→Nxt w K K1→Chg w w1 K.free→K1.s.l=K.s.l→agree e (F104.l2 n (some ⟨b,0,none⟩)) →
   W Tryz.prog 33 F104.p2 e w1 (retK Tryz.prog [.tmp 4] (TakeR w K n)):=by
  intro w1 K1 b e he hb hk1 hn1 hc1 hl ha
  refine F104.t2 n (some ⟨b,0,none⟩) ha fun B=>(c143 w1 K1 hk1 b hb n hn (by omega)).mono ?_
  rintro e' w2 ⟨_,rfl,x,K',rfl,h1,h2,h3,h4,h5,h6,h7,h8⟩
  refine ⟨_,_,_,rfl,fun B2=>ret1 he rfl ⟨x,K',rfl,h1,h2,h3,fun i a1 a2=>?_,h5,hn1.trans h6 hc1.size,hc1.trans h7 (fun _ _ _ h=>h) (fun b i hb hf=>hn1.free hb hf),by omega⟩⟩
  rcases h4 i a1 a2 with h | h
  ·rcases Nat.lt_or_ge x.b w.heap.size with h' | h'
   ·exact .inl (hn1.free h' h)
   ·exact .inr h'
  ·exact .inr (Nat.le_trans hc1.size h)
 refine F104.call K.a n w _ fun B=>⟨K.p,0,rfl,_,hk.cell,_,ptrNil _,?_⟩
 cases hq:K.q with
 | some b=>exact bc_false rfl fun B1=>fin2 w K b _ rfl hq hk (Nxt.refl _ _) (Chg.refl _ _) rfl ⟨rfl,rfl,trivial⟩
 | none =>
  refine bc_true rfl (bc_intro (fun hb=>?_) (fun hb B1=>?_))
  ·have hn4:n≤4:=by have:=dT hb; omega
   have hst0:St w ⟨none,0,0,0,0⟩:=⟨Nat.le_refl _,fun h=>absurd rfl h,Wr.zero,fun h=>absurd rfl h,Nat.zero_le _,hk.st.gb⟩
   refine (c142 ⟨none,0,0,0,0⟩ n w hst0 (by show 0+n≤_; omega)).mono ?_
   rintro e w1 ⟨_,rfl,r,rfl,hrl,hrc,hr,hor,hc⟩
   have hrc:0+n≤r.c:=hrc
   have hnew:r.c≠0→w.heap.size≤r.b:=by
    intro h0
    rcases hor with rfl | ⟨h,_⟩
    ·exact absurd rfl h0
    ·exact h
   have hoff:Off K (r.to n):=by
    intro i h1 h2 h3
    have h1:r.o≤i:=h1
    have h2:i<r.o+r.c:=h2
    have hb:=hnew (by omega)
    rcases h3 with e | e | ⟨e,_,_⟩
    ·have:=plain_lt hk.own.2
     have e:r.b=K.p:=e
     omega
    ·have e:K.q=some r.b:=e
     rw [hq] at e; cases e
    ·have e:r.b=K.s.b:=e
     have:=hk.nil hq
     omega
   have hfree:∀ i,(r.to n).o≤i→i<(r.to n).o+(r.to n).c→K.free (r.to n).b i∨w.heap.size≤(r.to n).b:=by
    intro i h1 h2
    have h1:r.o≤i:=h1
    have h2:i<r.o+r.c:=h2
    exact .inr (hnew (by omega))
   have hx:=hr.to_st n (by omega)
   refine ⟨_,_,_,rfl,n,rfl,by omega,bc_intro (fun hb0=>?_) (fun hb0 B2=>?_)⟩
   ·have hpos:0<n:=by have:=dT hb0; omega
    obtain ⟨⟨u,hu⟩,hfu⟩:=hr.wr 0 (by omega)
    have hp:=hr.pl (by omega)
    have cw:Chg w1 (w1.setCell ⟨r.b,r.o+0,none⟩ (.int .u64 11259375)) (inR r.b (r.o+0) (r.o+0+1)):=Chg.setCell hp _ ⟨rfl,by omega,by omega⟩
    have hnb:=hnew (by omega)
    refine ⟨r.b,r.o,hr.at_ (by omega),0,rfl,hpos,⟨u,hu⟩,hfu,fun B2=>F104.t3 _ _ _ ⟨rfl,trivial⟩ fun B3 B4=>ret1 rfl rfl ⟨r.to n,K,rfl,rfl,cw.st hx,hoff,hfree,(hk.none hc).chg cw (fun hm=>?_) (fun b' hb' hm=>?_),Nxt.refl _ _,?_,by omega⟩⟩
    ·have:=plain_lt hk.own.2
     have:=hm.1
     omega
    ·rw [hq] at hb'; cases hb'
    ·exact (hc.none _).trans cw (fun _ _ _ h=>h) fun b' i hb' hm=>by have:=hm.1; omega
   ·exact F104.t3 _ _ _ ⟨rfl,trivial⟩ fun B3 B4=>ret1 rfl rfl ⟨r.to n,K,rfl,rfl,hx,hoff,hfree,hk.none hc,Nxt.refl _ _,hc.none _,by omega⟩
  ·have ha:=Chg.alloc w (.cells #[(.slice none 0 0:Value)] 162) (fun a=>RowKit.frozen?_alloc_cells w #[(.slice none 0 0:Value)] 162 a) none2
   have hka:=hk.none ha
   have hh:(w.alloc (.cells #[(.slice none 0 0:Value)] 162)).heap[w.heap.size]?=some (.cells #[(.slice none 0 0:Value)] 162 (0,0)):=heap_alloc_new ..
   have hcs:Chg (w.alloc (.cells #[(.slice none 0 0:Value)] 162)) ((w.alloc (.cells #[(.slice none 0 0:Value)] 162)).setCell ⟨K.p,0,none⟩ (.pointer (some ⟨w.heap.size,0,none⟩))) (fun b i=>b=K.p∧i=0):=Chg.setCell hka.own _ ⟨rfl,rfl⟩
   have hlt:=plain_lt hk.own.2
   refine F104.t1 K.a n ⟨rfl,rfl,trivial⟩ fun B2=>⟨K.p,0,rfl,⟨_,hka.cell⟩,hka.fr,fun B3=>?_⟩
   have hka1:=hka.st
   have hst0:St ((w.alloc (.cells #[(.slice none 0 0:Value)] 162)).setCell ⟨K.p,0,none⟩ (.pointer (some ⟨w.heap.size,0,none⟩))) ⟨none,0,0,K.s.b,K.s.o⟩ :=
    ⟨Nat.le_refl _,fun h=>absurd rfl h,Wr.zero,fun h=>absurd rfl h,Nat.zero_le _,Nat.le_trans hk.st.gb (by simp)⟩
   have hcell:((w.alloc (.cells #[(.slice none 0 0:Value)] 162)).setCell ⟨K.p,0,none⟩ (.pointer (some ⟨w.heap.size,0,none⟩))).cell? ⟨w.heap.size,0,none⟩=some (.slice none 0 0):=by
    rw [World.cell?_setCell_other _ _ _ _ (by simp <;> omega),cell_eq,hh]; rfl
   refine fin2 _ ⟨K.p,some w.heap.size,⟨none,0,0,K.s.b,K.s.o⟩⟩ w.heap.size _ rfl rfl ⟨hcs.own hka.own,World.cell?_setCell_same _ _ _ hka.cell,by rw [hcs.froz]; exact hka.fr,fun b' hb'=>?_,fun h=>(by cases h),hst0,fun h=>absurd rfl h⟩
    ⟨rfl,.inr ⟨hq,_,rfl,Nat.le_refl _⟩,?_,by show K.s.l≤0; exact Nat.le_of_eq (hk.nil hq).1,fun h=>absurd (hk.nil hq).2 h⟩ ((ha.none _).trans' (hcs.mono fun b i _ hm=>.inl hm.1)) (hk.nil hq).1.symm ⟨rfl,rfl,trivial⟩
   ·cases hb'
    refine ⟨hcs.own ⟨hk.st.gb,_,_,hh⟩,hcell,?_,by show w.heap.size≠K.p; omega⟩
    rw [hcs.froz,frozen_eq,hh]; rfl
   ·exact .inl ⟨rfl,rfl,(hk.nil hq).2.symm⟩
end Go.Proofs.YtlkjiiibmfpbcaaGreatDoor
