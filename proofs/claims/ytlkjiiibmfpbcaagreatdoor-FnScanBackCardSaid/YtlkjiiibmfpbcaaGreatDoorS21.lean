/- Whole numbers with a sign in memory: a block with the sign and the words; sums, differences, products into any storage. Conditions: lengths up to 2^40; one factor below 40 words. -/
import Derived.Test.YtlkjiiibmfpbcaaGreatDoorS20
import Derived.Test.YtlkjiiibmfpbcaaGreatDoorS18
import Derived.Test.YtlkjiiibmfpbcaaGreatDoorS06
namespace Go.Proofs.YtlkjiiibmfpbcaaGreatDoor
open Go
structure HdrAt (w:World) (p:Nat) (ng:Bool) (s:Sl):Prop where
 own:Own w p
 c0:w.cell? ⟨p,0,none⟩=some (.bool ng)
 c1:w.cell? ⟨p,1,none⟩=some s.v
 f0:w.frozen? ⟨p,0,none⟩=false
 f1:w.frozen? ⟨p,1,none⟩=false
def blk (p:Nat):Set2:=fun b _=>b=p
def hdr (p:Nat) (ng:Bool) (s:Sl):Item where
 fp:=blk p
 P w:=HdrAt w p ng s
 keep h hc hd:=⟨hc.own h.own,by rw [hc.cell (lt_of_cell h.c0) (hd p 0 rfl)]; exact h.c0,by rw [hc.cell (lt_of_cell h.c1) (hd p 1 rfl)]; exact h.c1,by rw [hc.froz]; exact h.f0,by rw [hc.froz]; exact h.f1⟩
 old h hf:=by rw [show _=_ from hf]; exact plain_lt h.own.2
def ptr (p:Nat):Option Addr:=some ⟨p,0,none⟩
def iv (ng:Bool) (V:Nat):Int:=if ng then -(V:Int) else V
theorem hset1 {w:World} {p:Nat} {ng:Bool} {s:Sl} {L:List Item} (h:Bank w (hdr p ng s :: L)) (r:Sl):Bank (w.setCell ⟨p,1,none⟩ r.v) (hdr p ng r :: L)∧Chg w (w.setCell ⟨p,1,none⟩ r.v) (blk p):=by
 have h0:HdrAt w p ng s:=h.head
 have hc:Chg w (w.setCell ⟨p,1,none⟩ r.v) (blk p):=Chg.setCell h0.own _ rfl
 refine ⟨h.upd hc (fun _ _ _ h=>h) ⟨hc.own h0.own,?_,World.cell?_setCell_same _ _ _ h0.c1,by rw [hc.froz]; exact h0.f0,by rw [hc.froz]; exact h0.f1⟩ fun _ _ _ h=>h,hc⟩
 rw [World.cell?_setCell_other _ _ _ _ (by simp)]; exact h0.c0
theorem hset0 {w:World} {p:Nat} {ng:Bool} {s:Sl} {L:List Item} (h:Bank w (hdr p ng s :: L)) (b:Bool):Bank (w.setCell ⟨p,0,none⟩ (.bool b)) (hdr p b s :: L)∧Chg w (w.setCell ⟨p,0,none⟩ (.bool b)) (blk p):=by
 have h0:HdrAt w p ng s:=h.head
 have hc:Chg w (w.setCell ⟨p,0,none⟩ (.bool b)) (blk p):=Chg.setCell h0.own _ rfl
 refine ⟨h.upd hc (fun _ _ _ h=>h) ⟨hc.own h0.own,World.cell?_setCell_same _ _ _ h0.c0,?_,by rw [hc.froz]; exact h0.f0,by rw [hc.froz]; exact h0.f1⟩ fun _ _ _ h=>h,hc⟩
 rw [World.cell?_setCell_other _ _ _ _ (by simp)]; exact h0.c1
theorem blt_pos {l:Nat}:decide ((l:Int)>0)=true↔l≠0:=by
 rw [decide_eq_true_iff]; omega
def IQ (w:World) (p:Nat) (s:Sl) (L:List Item) (val:Int) (w':World):Prop :=
 ∃ ng' r V',Bank w' (hdr p ng' r :: nmz r V' :: L)∧iv ng' V'=val∧(V'=0→ng'=false)∧From w s r∧Chg w w' (un (blk p) (fp s))
section
variable {w:World} {L:List Item}
theorem newInt (h:Bank w L) (hg:GB≤w.heap.size) (ng:Bool) (s:Sl):Bank (w.alloc (.cells #[.bool ng,s.v] 47)) (hdr w.heap.size ng s :: L)∧Chg w (w.alloc (.cells #[.bool ng,s.v] 47)) none2:=by
 have hh:(w.alloc (.cells #[.bool ng,s.v] 47)).heap[w.heap.size]?=some (.cells #[.bool ng,s.v] 47 (0,0)):=heap_alloc_new ..
 have hc:Chg w (w.alloc (.cells #[.bool ng,s.v] 47)) none2:=Chg.alloc _ _ (fun a=>RowKit.frozen?_alloc_cells _ _ _ _) _
 refine ⟨h.new hc ⟨⟨hg,_,_,hh⟩,by rw [cell_eq,hh]; rfl,by rw [cell_eq,hh]; rfl,by rw [frozen_eq,hh]; rfl,by rw [frozen_eq,hh]; rfl⟩ fun _ _ hm=>Nat.le_of_eq (Eq.symm hm),hc⟩
end
theorem ptrDiff {w:World} {p q:Nat} (hp:plainAt w p) (hq:plainAt w q) (h:p≠q):ptrEq w (ptr p) (ptr q) false:=.inr ⟨h,hp,hq,rfl⟩
theorem HdrAt.ne {w:World} {p q:Nat} {ng nq:Bool} {s t:Sl} {L:List Item} (h:Bank w (hdr p ng s :: L)) (hq:hdr q nq t∈L):p≠q:=fun e=>by
 subst e
 exact h.hdj hq p 0 rfl rfl
def wds (s:Sl):Set2:=inR s.b s.o (s.o+s.l)
def nlz (s:Sl) (V:Nat):Item where
 fp:=wds s
 P w:=Nz w s V
 keep h hc hd:=hc.nz h fun i hi=>hd _ _ ⟨rfl,by omega,by omega⟩
 old h hf:=by
  obtain ⟨rfl,h1,h2⟩:=hf
  exact h.toNt.toSt.blk (by have:=h.lc; omega)
theorem wds_fp {s:Sl} (h:s.l≤s.c):∀ b i,wds s b i→fp s b i:=fun b i hm=>⟨hm.1,hm.2.1,by have:=hm.2.2; omega⟩
theorem Dj.apl {z x:Sl} (h:Dj (fp z) (wds x)):Apart z x:=by
 unfold Apart
 by_cases h1:z.c=0
 ·exact .inl h1
 by_cases h2:x.l=0
 ·exact .inr (.inl h2)
 by_cases h3:x.b=z.b
 ·rcases Nat.lt_or_ge x.o z.o with h4 | h4
  ·rcases Nat.lt_or_ge z.o (x.o+x.l) with h5 | h5
   ·exact (h z.b z.o ⟨rfl,by omega,by omega⟩ ⟨h3.symm,by omega,by omega⟩).elim
   ·omega
  ·rcases Nat.lt_or_ge x.o (z.o+z.c) with h5 | h5
   ·exact (h z.b x.o ⟨rfl,by omega,by omega⟩ ⟨h3.symm,by omega,by omega⟩).elim
   ·omega
 ·exact .inr (.inr (.inl h3))
structure Tg (a:Item) (s:Sl):Prop where
 fp:a.fp=fp s
 st:∀ {w},a.P w→St w s
theorem Tg.nmz (s:Sl) (V:Nat):Tg (nmz s V) s:=⟨rfl,fun h=>(h:Nz _ s V).toSt⟩
theorem Tg.num (s:Sl) (V:Nat):Tg (num s V) s:=⟨rfl,fun h=>(h:Nt _ s V).toSt⟩
theorem Tg.sto (s:Sl):Tg (sto s) s:=⟨rfl,fun h=>h⟩
def Opx (p:Nat) (ng:Bool) (s:Sl) (a:Item) (L:List Item) (q:Nat) (nq:Bool) (t:Sl) (U:Nat):Prop:=(q=p∧nq=ng∧t=s∧a=nmz s U)∨(hdr q nq t∈L∧(nmz t U∈L∨nlz t U∈L))
section
variable {w:World} {p q:Nat} {ng nq:Bool} {s t r:Sl} {V U:Nat} {a:Item} {L M:List Item}
theorem Opx.self:Opx p ng s (nmz s V) L p ng s V:=.inl ⟨rfl,rfl,rfl,rfl⟩
theorem Opx.hdr (h:Opx p ng s a L q nq t U) (hb:Bank w (hdr p ng s :: a :: L)):HdrAt w q nq t:=by
 rcases h with ⟨rfl,rfl,rfl,rfl⟩ | ⟨h1,_⟩
 ·exact hb.head
 ·exact hb.all (Go.Proofs.YtlkjiiibmfpbcaaGreatDoor.hdr q nq t) (by simp [h1])
theorem Opx.nz (h:Opx p ng s a L q nq t U) (hb:Bank w (Go.Proofs.YtlkjiiibmfpbcaaGreatDoor.hdr p ng s :: a :: L)):Nz w t U:=by
 rcases h with ⟨rfl,rfl,rfl,rfl⟩ | ⟨_,h1 | h1⟩
 ·exact hb.tail.head
 ·exact hb.all (nmz t U) (by simp [h1])
 ·exact hb.all (nlz t U) (by simp [h1])
theorem Opx.al (h:Opx p ng s a L q nq t U) (ta:Tg a s) (hb:Bank w (Go.Proofs.YtlkjiiibmfpbcaaGreatDoor.hdr p ng s :: a :: L)):Al s t:=by
 have hz:=h.nz hb
 rcases h with ⟨rfl,rfl,rfl,rfl⟩ | ⟨_,h1 | h1⟩
 ·exact .inr (.inr (.inr (.inr (.inr ⟨rfl,rfl⟩))))
 ·have d:Dj (fp s) (fp t):=by rw [←ta.fp]; exact hb.tail.hdj (b:=nmz t U) h1
  exact d.al hz.toSt
 ·have d:Dj (fp s) (wds t):=by rw [←ta.fp]; exact hb.tail.hdj (b:=nlz t U) h1
  exact (Dj.apl d).al
theorem Opx.neg (h:Opx p ng s a L q nq t U) (hb:Bank w (Go.Proofs.YtlkjiiibmfpbcaaGreatDoor.hdr p ng r :: M)) (hL:∀ a∈L,a∈M):w.cell? ⟨q,0,none⟩=some (.bool nq):=by
 rcases h with ⟨rfl,rfl,rfl,rfl⟩ | ⟨h1,_⟩
 ·exact (hb.head:HdrAt w q nq r).c0
 ·exact (hb.all (Go.Proofs.YtlkjiiibmfpbcaaGreatDoor.hdr q nq t) (by simp [hL _ h1]):HdrAt w q nq t).c0
end
theorem Bank.natrex {wd w2:World} {p:Nat} {ng:Bool} {s r:Sl} {V':Nat} {a:Item} {L:List Item} (bd:Bank wd (hdr p ng s :: a :: L)) (ta:Tg a s) (h2:Nz w2 r V') (f2:From wd s r) (c2:Chg wd w2 (fp s)):Bank w2 (hdr p ng s :: nmz r V' :: L) :=
 ((bd.perm (List.Perm.swap _ _ _)).res (a':=nmz r V') ta.fp f2 c2 h2 rfl).perm (List.Perm.swap _ _ _)
section
variable {w:World} {p px py:Nat} {ng nx ny:Bool} {s sx sy:Sl} {X Y:Nat} {a:Item} {L:List Item}
theorem c70x (h:Bank w (hdr p ng s :: a :: L)) (ta:Tg a s) (hx:Opx p ng s a L px nx sx X) (hy:Opx p ng s a L py ny sy Y) (lx:Len sx) (ly:Len sy) :
  Calls Tryz.prog 70 #[.pointer (ptr p),.pointer (ptr px),.pointer (ptr py)] w fun e w'=>e=.returned (.pointer (ptr p))∧IQ w p s L (iv nx X+iv ny Y) w':=by
 refine (F70.call (ptr p) (ptr px) (ptr py) w (fun v w'=>v=.pointer (ptr p)∧IQ w p s L (iv nx X+iv ny Y) w') fun B=>?_).mono fun e w' ⟨v,h1,h2,h3⟩=>⟨by rw [h1,h2],h3⟩
 have c1:Chg w w.drew none2:=Chg.drew0 w _
 have c2:Chg w w.drew.drew none2:=c1.trans' (Chg.drew0 w.drew _)
 have b1:=h.none c1
 have b2:=h.none c2
 have X0:=hx.hdr h; have Y0:=hy.hdr h
 have X1:=hx.hdr b1; have Y1:=hy.hdr b1
 have X2:=hx.hdr b2; have Y2:=hy.hdr b2
 have Z2:HdrAt w.drew.drew p ng s:=b2.head
 have xz:=hx.nz b2; have yz:=hy.nz b2
 have xa:=hx.al ta b2; have ya:=hy.al ta b2
 have fin:∀ (wd w2:World) (r:Sl) (V':Nat) (neg:Bool) (B:Nat→Value),Chg w wd none2→Nz w2 r V'→From wd s r→Chg wd w2 (fp s)→(V'≠0→iv neg V'=iv nx X+iv ny Y)→(V'=0→iv nx X+iv ny Y=0) →
   (∃ u,w2.cell? ⟨p,0+1,none⟩=some u)∧w2.frozen? ⟨p,0+1,none⟩=false∧∀ B',W Tryz.prog 94 F70.p1 (E [(0,.pointer (ptr p)),(7,.bool neg)] B' []) (w2.setCell ⟨p,0+1,none⟩ r.v) (retK Tryz.prog [.tmp 6] fun v w'=>v=.pointer (ptr p)∧IQ w p s L (iv nx X+iv ny Y) w'):=by
  intro wd w2 r V' neg B cd h2 f2 hc hne h0
  have b3:=(h.none cd).natrex ta h2 f2 hc
  have H3:HdrAt w2 p ng s:=b3.head
  refine ⟨⟨_,H3.c1⟩,H3.f1,fun B'=>?_⟩
  obtain ⟨b4,c4⟩:=hset1 b3 r
  have H4:HdrAt (w2.setCell ⟨p,1,none⟩ r.v) p ng r:=b4.head
  have rz:Nz (w2.setCell ⟨p,1,none⟩ r.v) r V':=b4.tail.head
  have ctot:Chg w (w2.setCell ⟨p,1,none⟩ r.v) (un (blk p) (fp s)):=((cd.none _).trans' (hc.r _)).trans' (c4.l _)
  refine F70.t1 (ptr p) neg ⟨rfl,rfl,trivial⟩ fun B2=>⟨p,0,rfl,r.a,r.l,r.c,H4.c1,bc_intro (fun hb=>?_) (fun hb=>?_)⟩
  ·have hV:V'≠0:=fun hh=>(blt_pos.1 hb) ((Nm.zero_iff rz.nm rz.toNt).2 hh)
   obtain ⟨b5,c5⟩:=hset0 b4 neg
   exact ⟨p,0,rfl,⟨_,H4.c0⟩,H4.f0,fun B3=>ret1 rfl rfl ⟨rfl,neg,r,V',b5,hne hV,fun hh=>absurd hh hV,f2.later cd,ctot.trans' (c5.l _)⟩⟩
  ·have hV:V'=0:=by
    have:r.l=0:=by
     rcases Nat.eq_zero_or_pos r.l with h | h
     ·exact h
     ·rw [blt_pos.2 (by omega)] at hb; cases hb
    exact (Nm.zero_iff rz.nm rz.toNt).1 this
   obtain ⟨b5,c5⟩:=hset0 b4 false
   exact ⟨p,0,rfl,⟨_,H4.c0⟩,H4.f0,fun B3=>ret1 rfl rfl ⟨rfl,false,r,V',b5,by rw [hV,h0 hV]; rfl,fun _=>rfl,f2.later cd,ctot.trans' (c5.l _)⟩⟩
 refine ⟨px,0,rfl,nx,X0.c0,px,0,rfl,nx,X1.c0,py,0,rfl,ny,Y1.c0,bc_intro (fun hb=>?_) (fun hb=>?_)⟩
 ·have hn:nx=ny:=by simpa using hb
  subst hn
  refine ⟨p,0,rfl,s.a,s.l,s.c,Z2.c1,px,0,rfl,sx.a,sx.l,sx.c,X2.c1,py,0,rfl,sy.a,sy.l,sy.c,Y2.c1,ResE.pass (c101 s sx sy X Y _ (ta.st b2.tail.head) xz yz xa.sep ya.sep lx ly) fun r w2 h2 f2 hc=>⟨_,_,_,rfl,p,0,rfl,fin _ w2 r (X+Y) nx B c2 h2 f2 hc (fun _=>?_) fun _=>?_⟩⟩
  ·cases nx <;> simp [iv] <;> omega
  ·cases nx <;> simp [iv] <;> omega
 ·have hn:nx≠ny:=by simpa using hb
  refine ⟨px,0,rfl,sx.a,sx.l,sx.c,X2.c1,py,0,rfl,sy.a,sy.l,sy.c,Y2.c1,(c92 sx sy X Y _ xz yz).mono ?_⟩
  rintro e w3 ⟨_,rfl,rfl,hc3⟩
  have c4:Chg w w3.drew none2:=(c2.trans' hc3).trans' (Chg.drew0 w3 _)
  have b4:=h.none c4
  have X4:=hx.hdr b4; have Y4:=hy.hdr b4
  have Z4:HdrAt w3.drew p ng s:=b4.head
  have xz4:=hx.nz b4; have yz4:=hy.nz b4
  refine ⟨_,rfl,bc_intro (fun hb'=>?_) (fun hb'=>?_)⟩
  ·have hge:Y≤X:=by
    have:=dT hb'
    unfold sgn at this
    rcases Nat.lt_or_ge X Y with h1 | h1
    ·rw [if_pos h1] at this; omega
    ·exact h1
   refine ⟨p,0,rfl,s.a,s.l,s.c,Z4.c1,px,0,rfl,sx.a,sx.l,sx.c,X4.c1,py,0,rfl,sy.a,sy.l,sy.c,Y4.c1,ResE.pass (c52 s sx sy X Y _ (ta.st b4.tail.head) xz4 yz4 (hx.al ta b4).sep (hy.al ta b4).sep lx hge) fun r w2 h2 f2 hc=>⟨_,_,_,rfl,p,0,rfl,fin _ w2 r (X-Y) nx B c4 h2 f2 hc (fun _=>?_) fun _=>?_⟩⟩
   ·cases nx <;> cases ny <;> simp [iv] at hn ⊢ <;> omega
   ·cases nx <;> cases ny <;> simp [iv] at hn ⊢ <;> omega
  ·have hlt:X<Y:=by
    have:=dF hb'
    unfold sgn at this
    rcases Nat.lt_or_ge X Y with h1 | h1
    ·exact h1
    ·rw [if_neg (by omega)] at this
     split at this <;> omega
   refine ⟨p,0,rfl,s.a,s.l,s.c,Z4.c1,py,0,rfl,sy.a,sy.l,sy.c,Y4.c1,px,0,rfl,sx.a,sx.l,sx.c,X4.c1,ResE.pass (c52 s sy sx Y X _ (ta.st b4.tail.head) yz4 xz4 (hy.al ta b4).sep (hx.al ta b4).sep ly (by omega)) fun r w2 h2 f2 hc=>⟨_,_,_,rfl,p,0,rfl,fin _ w2 r (Y-X) (!nx) B c4 h2 f2 hc (fun _=>?_) fun _=>?_⟩⟩
   ·cases nx <;> cases ny <;> simp [iv] at hn ⊢ <;> omega
   ·cases nx <;> cases ny <;> simp [iv] at hn ⊢ <;> omega
theorem c97x (h:Bank w (hdr p ng s :: a :: L)) (ta:Tg a s) (hx:Opx p ng s a L px nx sx X) (hy:Opx p ng s a L py ny sy Y) (lx:Len sx) (ly:Len sy) :
  Calls Tryz.prog 97 #[.pointer (ptr p),.pointer (ptr px),.pointer (ptr py)] w fun e w'=>e=.returned (.pointer (ptr p))∧IQ w p s L (iv nx X-iv ny Y) w':=by
 refine (F97.call (ptr p) (ptr px) (ptr py) w (fun v w'=>v=.pointer (ptr p)∧IQ w p s L (iv nx X-iv ny Y) w') fun B=>?_).mono fun e w' ⟨v,h1,h2,h3⟩=>⟨by rw [h1,h2],h3⟩
 have c1:Chg w w.drew none2:=Chg.drew0 w _
 have c2:Chg w w.drew.drew none2:=c1.trans' (Chg.drew0 w.drew _)
 have b1:=h.none c1
 have b2:=h.none c2
 have X0:=hx.hdr h; have Y0:=hy.hdr h
 have X1:=hx.hdr b1; have Y1:=hy.hdr b1
 have X2:=hx.hdr b2; have Y2:=hy.hdr b2
 have Z2:HdrAt w.drew.drew p ng s:=b2.head
 have xz:=hx.nz b2; have yz:=hy.nz b2
 have xa:=hx.al ta b2; have ya:=hy.al ta b2
 have fin:∀ (wd w2:World) (r:Sl) (V':Nat) (neg:Bool) (B:Nat→Value),Chg w wd none2→Nz w2 r V'→From wd s r→Chg wd w2 (fp s)→(V'≠0→iv neg V'=iv nx X-iv ny Y)→(V'=0→iv nx X-iv ny Y=0) →
   (∃ u,w2.cell? ⟨p,0+1,none⟩=some u)∧w2.frozen? ⟨p,0+1,none⟩=false∧∀ B',W Tryz.prog 94 F97.p1 (E [(0,.pointer (ptr p)),(7,.bool neg)] B' []) (w2.setCell ⟨p,0+1,none⟩ r.v) (retK Tryz.prog [.tmp 6] fun v w'=>v=.pointer (ptr p)∧IQ w p s L (iv nx X-iv ny Y) w'):=by
  intro wd w2 r V' neg B cd h2 f2 hc hne h0
  have b3:=(h.none cd).natrex ta h2 f2 hc
  have H3:HdrAt w2 p ng s:=b3.head
  refine ⟨⟨_,H3.c1⟩,H3.f1,fun B'=>?_⟩
  obtain ⟨b4,c4⟩:=hset1 b3 r
  have H4:HdrAt (w2.setCell ⟨p,1,none⟩ r.v) p ng r:=b4.head
  have rz:Nz (w2.setCell ⟨p,1,none⟩ r.v) r V':=b4.tail.head
  have ctot:Chg w (w2.setCell ⟨p,1,none⟩ r.v) (un (blk p) (fp s)):=((cd.none _).trans' (hc.r _)).trans' (c4.l _)
  refine F97.t1 (ptr p) neg ⟨rfl,rfl,trivial⟩ fun B2=>⟨p,0,rfl,r.a,r.l,r.c,H4.c1,bc_intro (fun hb=>?_) (fun hb=>?_)⟩
  ·have hV:V'≠0:=fun hh=>(blt_pos.1 hb) ((Nm.zero_iff rz.nm rz.toNt).2 hh)
   obtain ⟨b5,c5⟩:=hset0 b4 neg
   exact ⟨p,0,rfl,⟨_,H4.c0⟩,H4.f0,fun B3=>ret1 rfl rfl ⟨rfl,neg,r,V',b5,hne hV,fun hh=>absurd hh hV,f2.later cd,ctot.trans' (c5.l _)⟩⟩
  ·have hV:V'=0:=by
    have:r.l=0:=by
     rcases Nat.eq_zero_or_pos r.l with h | h
     ·exact h
     ·rw [blt_pos.2 (by omega)] at hb; cases hb
    exact (Nm.zero_iff rz.nm rz.toNt).1 this
   obtain ⟨b5,c5⟩:=hset0 b4 false
   exact ⟨p,0,rfl,⟨_,H4.c0⟩,H4.f0,fun B3=>ret1 rfl rfl ⟨rfl,false,r,V',b5,by rw [hV,h0 hV]; rfl,fun _=>rfl,f2.later cd,ctot.trans' (c5.l _)⟩⟩
 refine ⟨px,0,rfl,nx,X0.c0,px,0,rfl,nx,X1.c0,py,0,rfl,ny,Y1.c0,bc_intro (fun hb=>?_) (fun hb=>?_)⟩
 ·have hn:nx≠ny:=by simpa using hb
  refine ⟨p,0,rfl,s.a,s.l,s.c,Z2.c1,px,0,rfl,sx.a,sx.l,sx.c,X2.c1,py,0,rfl,sy.a,sy.l,sy.c,Y2.c1,ResE.pass (c101 s sx sy X Y _ (ta.st b2.tail.head) xz yz xa.sep ya.sep lx ly) fun r w2 h2 f2 hc=>⟨_,_,_,rfl,p,0,rfl,fin _ w2 r (X+Y) nx B c2 h2 f2 hc (fun _=>?_) fun _=>?_⟩⟩
  ·cases nx <;> cases ny <;> simp [iv] at hn ⊢ <;> omega
  ·cases nx <;> cases ny <;> simp [iv] at hn ⊢ <;> omega
 ·have hn:nx=ny:=by simpa using hb
  refine ⟨px,0,rfl,sx.a,sx.l,sx.c,X2.c1,py,0,rfl,sy.a,sy.l,sy.c,Y2.c1,(c92 sx sy X Y _ xz yz).mono ?_⟩
  rintro e w3 ⟨_,rfl,rfl,hc3⟩
  have c4:Chg w w3.drew none2:=(c2.trans' hc3).trans' (Chg.drew0 w3 _)
  have b4:=h.none c4
  have X4:=hx.hdr b4; have Y4:=hy.hdr b4
  have Z4:HdrAt w3.drew p ng s:=b4.head
  have xz4:=hx.nz b4; have yz4:=hy.nz b4
  refine ⟨_,rfl,bc_intro (fun hb'=>?_) (fun hb'=>?_)⟩
  ·have hge:Y≤X:=by
    have:=dT hb'
    unfold sgn at this
    rcases Nat.lt_or_ge X Y with h1 | h1
    ·rw [if_pos h1] at this; omega
    ·exact h1
   refine ⟨p,0,rfl,s.a,s.l,s.c,Z4.c1,px,0,rfl,sx.a,sx.l,sx.c,X4.c1,py,0,rfl,sy.a,sy.l,sy.c,Y4.c1,ResE.pass (c52 s sx sy X Y _ (ta.st b4.tail.head) xz4 yz4 (hx.al ta b4).sep (hy.al ta b4).sep lx hge) fun r w2 h2 f2 hc=>⟨_,_,_,rfl,p,0,rfl,fin _ w2 r (X-Y) nx B c4 h2 f2 hc (fun _=>?_) fun _=>?_⟩⟩
   ·cases nx <;> cases ny <;> simp [iv] at hn ⊢ <;> omega
   ·cases nx <;> cases ny <;> simp [iv] at hn ⊢ <;> omega
  ·have hlt:X<Y:=by
    have:=dF hb'
    unfold sgn at this
    rcases Nat.lt_or_ge X Y with h1 | h1
    ·exact h1
    ·rw [if_neg (by omega)] at this
     split at this <;> omega
   refine ⟨p,0,rfl,s.a,s.l,s.c,Z4.c1,py,0,rfl,sy.a,sy.l,sy.c,Y4.c1,px,0,rfl,sx.a,sx.l,sx.c,X4.c1,ResE.pass (c52 s sy sx Y X _ (ta.st b4.tail.head) yz4 xz4 (hy.al ta b4).sep (hx.al ta b4).sep ly (by omega)) fun r w2 h2 f2 hc=>⟨_,_,_,rfl,p,0,rfl,fin _ w2 r (Y-X) (!nx) B c4 h2 f2 hc (fun _=>?_) fun _=>?_⟩⟩
   ·cases nx <;> cases ny <;> simp [iv] at hn ⊢ <;> omega
   ·cases nx <;> cases ny <;> simp [iv] at hn ⊢ <;> omega
theorem c149x (h:Bank w (hdr p ng s :: a :: L)) (ta:Tg a s) (hx:Opx p ng s a L px nx sx X) (hy:Opx p ng s a L py ny sy Y) (hne:px≠py) (lx:Len sx) (ly:Len sy) (hs:sx.l<40∨sy.l<40) (hg:Glb w) (stk:Option Addr) :
  Calls Tryz.prog 149 #[.pointer (ptr p),.pointer stk,.pointer (ptr px),.pointer (ptr py)] w fun e w'=>e=.returned undef∧IQ w p s L (iv nx X*iv ny Y) w':=by
 refine (F149.call (ptr p) stk (ptr px) (ptr py) w (fun v w'=>v=undef∧IQ w p s L (iv nx X*iv ny Y) w') fun B=>?_).mono fun e w' ⟨v,h1,h2,h3⟩=>⟨by rw [h1,h2],h3⟩
 have c1:Chg w w.drew none2:=Chg.drew0 w _
 have b1:=h.none c1
 have X0:=hx.hdr h
 have Y0:=hy.hdr h
 have X1:=hx.hdr b1
 have Y1:=hy.hdr b1
 have Z1:HdrAt w.drew p ng s:=b1.head
 refine ⟨false,ptrDiff X0.own.2 Y0.own.2 hne,bc_false rfl ⟨p,0,rfl,s.a,s.l,s.c,Z1.c1,px,0,rfl,sx.a,sx.l,sx.c,X1.c1,py,0,rfl,sy.a,sy.l,sy.c,Y1.c1,ResE.pass (c80 s sx sy X Y stk w.drew (ta.st b1.tail.head) (hx.nz b1) (hy.nz b1) (hx.al ta b1) (hy.al ta b1) lx ly hs (c1.glb hg)) fun r w2 h2 f2 c2=>⟨_,_,_,rfl,p,0,rfl,?_⟩⟩⟩
 have b3:=b1.natrex ta h2 f2 c2
 have H3:HdrAt w2 p ng s:=b3.head
 obtain ⟨b4,c4⟩:=hset1 b3 r
 have c5:Chg (w2.setCell ⟨p,1,none⟩ r.v) (w2.setCell ⟨p,1,none⟩ r.v).drew none2:=Chg.drew0 _ _
 have b5:=b4.none c5
 have H5:HdrAt (w2.setCell ⟨p,1,none⟩ r.v).drew p ng r:=b5.head
 have rz:Nz (w2.setCell ⟨p,1,none⟩ r.v).drew r (X*Y):=b5.tail.head
 have ctot:Chg w (w2.setCell ⟨p,1,none⟩ r.v).drew (un (blk p) (fp s)):=(((c1.none _).trans' (c2.r _)).trans' (c4.l _)).trans' (c5.none _)
 refine ⟨⟨_,H3.c1⟩,H3.f1,p,0,rfl,r.a,r.l,r.c,H5.c1,bc_intro (fun hb=>?_) (fun hb=>?_)⟩
 ·have hV:X*Y≠0:=fun hh=>(blt_pos.1 hb) ((Nm.zero_iff rz.nm rz.toNt).2 hh)
  obtain ⟨b6,c6⟩:=hset0 b5 (!(nx==ny))
  refine ⟨px,0,rfl,nx,hx.neg b5 (fun a ha=>List.mem_cons_of_mem _ ha),py,0,rfl,ny,hy.neg b5 (fun a ha=>List.mem_cons_of_mem _ ha),p,0,rfl,⟨_,H5.c0⟩,H5.f0,fun B3=>ret0 rfl ⟨rfl,_,r,_,b6,?_,fun hh=>absurd hh hV,f2.later c1,ctot.trans' (c6.l _)⟩⟩
  cases nx <;> cases ny <;> simp [iv,Int.neg_mul,Int.mul_neg]
 ·have hV:X*Y=0:=by
   have:r.l=0:=by
    rcases Nat.eq_zero_or_pos r.l with h | h
    ·exact h
    ·rw [blt_pos.2 (by omega)] at hb; cases hb
   exact (Nm.zero_iff rz.nm rz.toNt).1 this
  obtain ⟨b6,c6⟩:=hset0 b5 false
  refine ⟨p,0,rfl,⟨_,H5.c0⟩,H5.f0,fun B3=>ret0 rfl ⟨rfl,_,r,_,b6,?_,fun _=>rfl,f2.later c1,ctot.trans' (c6.l _)⟩⟩
  rw [hV]
  have hXY:(X:Int)*Y=0:=by rw [←Int.natCast_mul,hV]; rfl
  cases nx <;> cases ny <;> simp [iv,Int.neg_mul,Int.mul_neg,hXY]
end
end Go.Proofs.YtlkjiiibmfpbcaaGreatDoor
namespace Go.Proofs.YtlkjiiibmfpbcaaGreatDoor
open Go
set_option maxRecDepth 100000
structure RdrAt (w:World) (p:Nat) (str:ByteArray) (k:Nat):Prop where
 own:Own w p
 c0:w.cell? ⟨p,0,none⟩=some (.string str)
 c1:w.cell? ⟨p,1,none⟩=some (.int .i64 (k:Int))
 c2:∃ u,w.cell? ⟨p,2,none⟩=some u
 f1:w.frozen? ⟨p,1,none⟩=false
 f2:w.frozen? ⟨p,2,none⟩=false
def rdr (p:Nat) (str:ByteArray) (k:Nat):Item where
 fp:=blk p
 P w:=RdrAt w p str k
 keep h hc hd:=⟨hc.own h.own,by rw [hc.cell (lt_of_cell h.c0) (hd p 0 rfl)]; exact h.c0,by rw [hc.cell (lt_of_cell h.c1) (hd p 1 rfl)]; exact h.c1,by
  obtain ⟨u,hu⟩:=h.c2
  exact ⟨u,by rw [hc.cell (lt_of_cell hu) (hd p 2 rfl)]; exact hu⟩,by rw [hc.froz]; exact h.f1,by rw [hc.froz]; exact h.f2⟩
 old h hf:=by rw [show _=_ from hf]; exact plain_lt h.own.2
section
variable {w:World} {p k:Nat} {str:ByteArray} {L:List Item}
theorem rset1 (h:Bank w (rdr p str k :: L)) (j:Nat):Bank (w.setCell ⟨p,1,none⟩ (.int .i64 (j:Int))) (rdr p str j :: L)∧Chg w (w.setCell ⟨p,1,none⟩ (.int .i64 (j:Int))) (blk p):=by
 have h0:RdrAt w p str k:=h.head
 have hc:Chg w (w.setCell ⟨p,1,none⟩ (.int .i64 (j:Int))) (blk p):=Chg.setCell h0.own _ rfl
 refine ⟨h.upd hc (fun _ _ _ h=>h) ⟨hc.own h0.own,?_,World.cell?_setCell_same _ _ _ h0.c1,?_,by rw [hc.froz]; exact h0.f1,by rw [hc.froz]; exact h0.f2⟩ fun _ _ _ h=>h,hc⟩
 ·rw [World.cell?_setCell_other _ _ _ _ (by simp)]; exact h0.c0
 ·obtain ⟨u,hu⟩:=h0.c2
  exact ⟨u,by rw [World.cell?_setCell_other _ _ _ _ (by simp)]; exact hu⟩
theorem rset2 (h:Bank w (rdr p str k :: L)) (v:Value):Bank (w.setCell ⟨p,2,none⟩ v) (rdr p str k :: L)∧Chg w (w.setCell ⟨p,2,none⟩ v) (blk p):=by
 have h0:RdrAt w p str k:=h.head
 have hc:Chg w (w.setCell ⟨p,2,none⟩ v) (blk p):=Chg.setCell h0.own _ rfl
 obtain ⟨u,hu⟩:=h0.c2
 refine ⟨h.upd hc (fun _ _ _ h=>h) ⟨hc.own h0.own,?_,?_,⟨v,World.cell?_setCell_same _ _ _ hu⟩,by rw [hc.froz]; exact h0.f1,by rw [hc.froz]; exact h0.f2⟩ fun _ _ _ h=>h,hc⟩
 ·rw [World.cell?_setCell_other _ _ _ _ (by simp)]; exact h0.c0
 ·rw [World.cell?_setCell_other _ _ _ _ (by simp)]; exact h0.c1
theorem newRdr (h:Bank w L) (hg:GB≤w.heap.size) (str:ByteArray):Bank (w.alloc (.cells #[.string str,.int .i64 0,.int .i64 (-1)] 101)) (rdr w.heap.size str 0 :: L)∧Chg w (w.alloc (.cells #[.string str,.int .i64 0,.int .i64 (-1)] 101)) none2:=by
 have hh:(w.alloc (.cells #[.string str,.int .i64 0,.int .i64 (-1)] 101)).heap[w.heap.size]?=some (.cells #[.string str,.int .i64 0,.int .i64 (-1)] 101 (0,0)):=heap_alloc_new ..
 have hc:Chg w (w.alloc (.cells #[.string str,.int .i64 0,.int .i64 (-1)] 101)) none2:=Chg.alloc _ _ (fun a=>RowKit.frozen?_alloc_cells _ _ _ _) _
 refine ⟨h.new hc ⟨⟨hg,_,_,hh⟩,by rw [cell_eq,hh]; rfl,by rw [cell_eq,hh]; rfl,⟨_,by rw [cell_eq,hh]; rfl⟩,by rw [frozen_eq,hh]; rfl,by rw [frozen_eq,hh]; rfl⟩ fun _ _ hm=>Nat.le_of_eq (Eq.symm hm),hc⟩
theorem c45 (h:Bank w L) (hg:GB≤w.heap.size) (str:ByteArray) {Q:Ending→World→Prop}
  (q:∀ p w',Bank w' (rdr p str 0 :: L)→w.heap.size≤p→Chg w w' none2→Q (.returned (.pointer (ptr p))) w'):Calls Tryz.prog 45 #[.string str] w Q:=by
 refine (F45.call str w (fun v w'=>Q (.returned v) w') fun B B1=>ret1 rfl rfl ?_).mono fun e w' ⟨v,h1,h2⟩=>by rw [h1]; exact h2
 obtain ⟨b,c⟩:=newRdr h hg str
 exact q w.heap.size _ b (Nat.le_refl _) c
theorem c203 (h:Bank w (rdr p str k :: L)) (hs:str.size≤1099511627776) (hk:k≤str.size) {E:Value} (hE:w.cell? ⟨0,0,none⟩=some E) {Q:Ending→World→Prop}
  (q1:∀ c w',str[k]?=some c→Bank w' (rdr p str (k+1) :: L)→Chg w w' (blk p)→Q (.returned (.tuple #[.int .u8 (c.toNat:Int),.nilIface])) w')
  (q2:∀ w',k=str.size→Bank w' (rdr p str k :: L)→Chg w w' (blk p)→Q (.returned (.tuple #[.int .u8 0,E])) w'):Calls Tryz.prog 203 #[.pointer (ptr p)] w Q:=by
 have h0:RdrAt w p str k:=h.head
 obtain ⟨u,hu⟩:=h0.c2
 refine (F203.call (ptr p) w (fun v w'=>Q (.returned v) w') fun B=>⟨p,0,rfl,⟨u,hu⟩,h0.f2,?_⟩).mono fun e w' ⟨v,h1,h2⟩=>by rw [h1]; exact h2
 obtain ⟨b1,c1⟩:=rset2 h (.int .i64 (-1))
 obtain ⟨w1,hw1⟩:∃ w1,w1=w.setCell ⟨p,2,none⟩ (.int .i64 (-1)):=⟨_,rfl⟩
 rw [show (w.setCell ⟨p,0+2,none⟩ (.int .i64 (-1)))=w1 from hw1.symm]
 rw [←hw1] at b1 c1
 have d1:Chg w1 w1.drew none2:=Chg.drew0 w1 _
 have d2:Chg w1 w1.drew.drew none2:=d1.trans' (Chg.drew0 w1.drew _)
 have b2:=b1.none d1
 have b3:=b1.none d2
 have r2:RdrAt w1.drew p str k:=b2.head
 have r3:RdrAt w1.drew.drew p str k:=b3.head
 have c3:Chg w w1.drew.drew (blk p):=c1.trans' (d2.none _)
 refine ⟨p,0,rfl,_,r2.c1,p,0,rfl,_,r2.c0,bc_intro (fun hc=>?_) (fun hc=>?_)⟩
 ·have hk2:k=str.size:=by have:=dT hc; omega
  exact ⟨E,chgVar c3 hE (by decide),fun B1=>ret2 rfl rfl rfl (q2 _ hk2 b3 c3)⟩
 ·have hk2:k<str.size:=by have:=dF hc; omega
  have hg:str[k]?=some str[k]:=by simp [hk2]
  refine ⟨p,0,rfl,_,r3.c0,p,0,rfl,_,r3.c1,k,_,rfl,hg,p,0,rfl,_,r3.c1,by unfold inI64; omega,p,0,rfl,⟨_,r3.c1⟩,r3.f1,fun B1=>ret2 rfl rfl rfl ?_⟩
  obtain ⟨b4,c4⟩:=rset1 b3 (k+1)
  exact q1 _ _ hg b4 (c3.trans' c4)
theorem c204 (h:Bank w (rdr p str k :: L)) (hk0:1≤k) (hk:k≤1099511627776) {Q:Ending→World→Prop}
  (q:∀ w',Bank w' (rdr p str (k-1) :: L)→Chg w w' (blk p)→Q (.returned .nilIface) w'):Calls Tryz.prog 204 #[.pointer (ptr p)] w Q:=by
 have h0:RdrAt w p str k:=h.head
 obtain ⟨u,hu⟩:=h0.c2
 refine (F204.call (ptr p) w (fun v w'=>Q (.returned v) w') fun B=>⟨p,0,rfl,_,h0.c1,bc_false (decF (by omega)) ⟨p,0,rfl,⟨u,hu⟩,h0.f2,?_⟩⟩).mono fun e w' ⟨v,h1,h2⟩=>by rw [h1]; exact h2
 obtain ⟨b1,c1⟩:=rset2 h (.int .i64 (-1))
 have r1:RdrAt (w.setCell ⟨p,2,none⟩ (.int .i64 (-1))) p str k:=b1.head
 refine ⟨p,0,rfl,_,r1.c1,by unfold inI64; omega,p,0,rfl,⟨_,r1.c1⟩,r1.f1,fun B1=>ret1 rfl rfl ?_⟩
 obtain ⟨b2,c2⟩:=rset1 b1 (k-1)
 have e:((k:Int)-1)=((k-1:Nat):Int):=by omega
 show Q _ ((w.setCell ⟨p,2,none⟩ (.int .i64 (-1))).setCell ⟨p,1,none⟩ (.int .i64 ((k:Int)-1)))
 rw [e]
 exact q _ b2 (c1.trans' c2)
def rif (p:Nat):Value:=.iface 71 (.pointer (ptr p))
theorem rbI (w : World) (p : Nat) : Sem.run Tryz.prog (callMethod (rif p) "ReadByte" #[]) w = .ok (.enter 203 #[.pointer (ptr p)]) w := by kernel_rfl
theorem ubI (w : World) (p : Nat) : Sem.run Tryz.prog (callMethod (rif p) "UnreadByte" #[]) w = .ok (.enter 204 #[.pointer (ptr p)]) w := by kernel_rfl
theorem nn_nil (w:World) {o:Operand}:Sem.run Tryz.prog (do eqGuard .neq 95 o (Operand.const Value.nilIface) Value.nilIface Value.nilIface; Go.binOp .neq 95 Value.nilIface Value.nilIface) w=.ok (.bool false) w:=by cases o <;> kernel_rfl
theorem en_nil (w:World) {o:Operand}:Sem.run Tryz.prog (do eqGuard .eql 95 o (Operand.const Value.nilIface) Value.nilIface Value.nilIface; Go.binOp .eql 95 Value.nilIface Value.nilIface) w=.ok (.bool true) w:=by cases o <;> kernel_rfl
structure EofA where
 u:Nat
 a:Addr
 i:TypeInfo
 e:Nat
 j:TypeInfo
 h1:Tryz.prog.info? u=some i
 h2:i.comparable=true
 h3:Tryz.prog.underlying u=some (.pointer e)
 h4:Tryz.prog.info? e=some j
def eof (a:EofA):Value:=.iface a.u (.pointer (some a.a))
theorem en_eof (w:World) {o o2:Operand} (a:EofA):Sem.run Tryz.prog (do eqGuard .eql 95 o o2 (eof a) Value.nilIface; Go.binOp .eql 95 (eof a) Value.nilIface) w=.ok (.bool false) w:=by kernel_rfl
end
end Go.Proofs.YtlkjiiibmfpbcaaGreatDoor
namespace Go.Proofs.YtlkjiiibmfpbcaaGreatDoor
open Go
def Inp (w:World) (z:Sl) (V:Nat) (w':World):Prop:=Sg w' z.b z.o z.l V∧V<BB^z.l∧Chg w w' (inR z.b z.o (z.o+z.l))
def InpV (w:World) (z:Sl) (V:Nat) (v:Value) (w':World):Prop:=∃ k,v=(z.to k).v∧k≤z.l∧Nz w' (z.to k) V∧Inp w z V w'
abbrev InpE (w:World) (z:Sl) (V:Nat) (e:Ending) (w':World):Prop:=∃ v,e=.returned v∧InpV w z V v w'
theorem c73i (z:Sl) (n:Nat) (w:World) (hn:n≤z.c):Calls Tryz.prog 73 #[z.v,.int .i64 (n:Int)] w fun e w'=>e=.returned (z.to n).v∧w'=w :=
 (F73.call z.a z.l z.c n w (fun v w'=>v=(z.to n).v∧w'=w) fun B=>bc_true (decT (by omega)) ⟨n,rfl,hn,fun B2=>ret1 rfl rfl ⟨rfl,rfl⟩⟩).mono fun e w' ⟨v,h1,h2,h3⟩=>⟨by rw [h1,h2],h3⟩
theorem Nt.fill {w w':World} {z:Sl} {n V:Nat} (hz:Nt w z 0) (hn:n≤z.l) (hs:Sg w' z.b z.o n V) (hV:V<BB^n) (hc:Chg w w' (inR z.b z.o (z.o+n))):Inp w z V w':=by
 have h2:Sg w z.b (z.o+n) (z.l-n) (0/BB^n):=hz.sg.hi n (z.l-n) (by omega)
 rw [Nat.zero_div] at h2
 have:=hs.join (hc.sg h2 fun i hi hm=>by have:=hm.2.2; omega) hV
 rw [Nat.mul_zero,Nat.add_zero,show n+(z.l-n)=z.l by omega] at this
 exact ⟨this,lt_pow_of_le hV hn,hc.mono fun b i _ hm=>⟨hm.1,hm.2.1,by have:=hm.2.2; omega⟩⟩
theorem normI {w w':World} {z:Sl} {n V:Nat} {Q:Ending→World→Prop} (hz:Nt w z 0) (hn:n≤z.l) (hs:Sg w' z.b z.o n V) (hV:V<BB^n) (hc:Chg w w' (inR z.b z.o (z.o+n)))
  (q:∀ k,InpV w z V (z.to k).v w'→Q (.returned (z.to k).v) w'):Calls Tryz.prog 46 #[(z.to n).v] w' Q:=by
 have hcm:=hz.cm
 have hlc:=hz.lc
 refine (c46 (z.to n) V w' { (hc.st hz.toSt).to_st n (by omega) with sg:=hs,lt:=hV } (by show n≤_; omega)).mono ?_
 rintro e w2 ⟨_,rfl,k,hk,rfl,hw,hnz⟩
 have hw:=hw.symm
 subst hw
 exact q k ⟨k,rfl,by have:k≤n:=hk; omega,hnz,hz.fill hn hs hV hc⟩
theorem c117i (z x:Sl) (X y:Nat) (w:World) (hz:Nt w z 0) (hx:Nt w x X) (sx:Apart z x) (hl:Len x) (hx0:x.l≠0) (hy0:y≠0) (hy:y<18446744073709551616) (hn:x.l+1≤z.l) :
  Calls Tryz.prog 117 #[z.v,x.v,.int .u64 (y:Int),.int .u64 0] w (InpE w z (X*y)):=by
 have hl':=hl
 unfold Len at hl'
 have hzc:=hz.lc
 refine F117.call z.a z.l z.c x.a x.l x.c y (0:Nat) w _ fun B=>bc_false (eqF (by omega)) (bc_false (eqF (by omega)) ⟨by unfold inI64; omega,(c73i z (x.l+1) w (by omega)).mono ?_⟩)
 rintro e w1 ⟨rfl,hw⟩
 have hw:=hw.symm
 subst hw
 have hq:St w (z.to (x.l+1)):=hz.toSt.to_st _ (by omega)
 refine ⟨_,_,_,rfl,0,x.l,rfl,rfl,by omega,by show x.l≤z.c; omega,Vec.pass (c91 ((z.to (x.l+1)).sub 0 x.l) x X y 0 w (hq.sub_wt _ _ (by omega) (by show x.l≤z.c; omega)) hx.rd rfl ?_ hy (by omega)) ?_⟩
 ·unfold Ov
  show x.l=0∨x.b≠z.b∨z.o+0≤x.o∨x.o+x.l≤z.o+0
  unfold Apart at sx; omega
 rintro c Z w2 ⟨t1,t2⟩ hZ hsg hch
 have hZ:Z<BB^x.l:=hZ
 have t1:Z+BB^x.l*c=X*y+0:=t1
 have hsg:Sg w2 z.b (z.o+0) x.l Z:=hsg
 have hch:Chg w w2 (inR z.b (z.o+0) (z.o+0+x.l)):=hch
 rw [Nat.add_zero] at hsg hch t1
 have hq2:=hch.st hq
 refine ⟨_,rfl,wtC (k:=x.l) hq2.wt rfl (by show x.l<x.l+1; omega) ?_⟩
 have hp:=hq2.pl (by show z.c≠0; omega)
 have hs4:=hsg.step hZ (d:=c) (w2:=w2) (by rw [BB_eq]; exact t2) rfl hp (hq2.wr x.l (by show x.l<z.c; omega)).1
 have hc4:Chg w (w2.setCell ⟨z.b,z.o+x.l,none⟩ (.int .u64 (c:Int))) (inR z.b z.o (z.o+(x.l+1))):=hch.step rfl hp
 rw [t1] at hs4
 exact normI hz hn hs4 (by rw [←t1]; exact dlt hZ t2) hc4 fun k hres=>⟨_,_,_,rfl,fun B6=>ret1 rfl rfl hres⟩
theorem SpC.noq {z x:Sl} (h:SpC z x):¬(z.c≠0∧x.c≠0∧z.b=x.b∧z.o+z.c=x.o+x.c):=by unfold SpC Sp at h; omega
theorem c80j (z x y:Sl) (X Y:Nat) (stk:Option Addr) (w:World) (hz:Nt w z 0) (hx:Nt w x X) (hy:Nt w y Y) (hY1:y.l=1→Y≠0) (sx:SpC z x) (sy:SpC z y) (lx:Len x) (ly:y.l<40) (hyx:y.l≤x.l) (hn:x.l+y.l≤z.l) (hg:Glb w) :
  Calls Tryz.prog 80 #[z.v,.pointer stk,x.v,y.v] w (InpE w z (X*Y)):=by
 have lx':=lx
 unfold Len at lx'
 have hzc:=hz.lc
 have ax:=sx.apart hx.lc
 have ay:=sy.apart hy.lc
 have z0:∀ V,V=0→InpV w z V (z.to 0).v w:=fun V hV=>by
  subst hV
  exact ⟨0,rfl,Nat.zero_le _,nz_zero hz.toSt,hz.sg,hz.lt,Chg.refl _ _⟩
 refine F80.call z.a z.l z.c stk x.a x.l x.c y.a y.l y.c w _ fun B=>bc_false (decF (by omega)) (bc_intro (fun hb=>?_) (fun hb=>bc_intro (fun hb1=>?_) (fun hb1=>bc_intro (fun hb2=>?_) (fun hb2=>?_))))
 ·have hX:X=0:=Nz.zero hx (by have:=eqE hb; omega)
  exact ⟨0,rfl,Nat.zero_le _,fun B2=>ret1 rfl rfl (z0 _ (by rw [hX,Nat.zero_mul]))⟩
 ·have hY:Y=0:=Nz.zero hy (by have:=eqE hb1; omega)
  exact ⟨0,rfl,Nat.zero_le _,fun B2=>ret1 rfl rfl (z0 _ (by rw [hY,Nat.mul_zero]))⟩
 ·have hy1:y.l=1:=by have:=eqE hb2; omega
  have hY:Y=dg Y 0:=(dg_self Y (by have:=hy.lt; rw [hy1] at this; simpa using this)).symm
  have hY0:Y≠0:=hY1 hy1
  refine rdC (k:=0) (hy.at_ (by have:=hy.lc; omega)) rfl (by omega) (hy.sg 0 (by omega)) ?_
  have:=c117i z x X (dg Y 0) w hz hx ax lx (by have:=eqN hb; omega) (by rw [←hY]; exact hY0) (dg_lt' Y 0) (by omega)
  rw [←hY] at this ⊢
  exact this.mono fun e w' ⟨v,h1,h2⟩=>by
   obtain ⟨k,rfl,h3⟩:=h2
   exact ⟨_,_,_,h1,fun B2=>ret1 rfl rfl ⟨k,rfl,h3⟩⟩
 ·refine (c49 z x w hz.toSt.pc hx.toSt.pc hz.cm hx.cm).mono ?_
  rintro e w1 ⟨_,rfl,q,rfl,rfl,hq⟩
  have cd:Chg w w.drew none2:=Chg.drew0 w _
  have hq0:q=false:=by
   cases q
   ·rfl
   ·exact absurd (hq.1 rfl) sx.noq
  subst hq0
  refine ⟨_,rfl,bc_false rfl ((c49 z y w.drew (cd.st hz.toSt).pc (cd.nt_none hy).toSt.pc hz.cm hy.cm).mono ?_)⟩
  rintro e w1 ⟨_,rfl,q2,rfl,rfl,hq2⟩
  have hq0:q2=false:=by
   cases q2
   ·rfl
   ·exact absurd (hq2.1 rfl) sy.noq
  subst hq0
  have cd2:=cd.drew
  refine ⟨_,rfl,bc_false rfl fun B3=>F80.t1 z.a z.l z.c stk x.a x.l x.c y.a y.l y.c x.l y.l ⟨rfl,rfl,rfl,rfl,rfl,rfl,trivial⟩ fun B4=>⟨by unfold inI64; omega,(c73i z (x.l+y.l) w.drew.drew (by omega)).mono ?_⟩⟩
  rintro e w2 ⟨rfl,hw⟩
  subst hw
  have hz2:=cd2.nt_none hz
  have hr:St w.drew.drew (z.to (x.l+y.l)):=hz2.toSt.to_st _ (by omega)
  have hy0:y.l≠0:=by have:=eqN hb1; omega
  have dx:∀ (s:Sl),Apart z s→Dis (z.to (x.l+y.l)) (x.l+y.l) s:=fun s h=>by
   unfold Apart at h; unfold Dis
   show s.l=0∨s.b≠z.b∨s.o+s.l≤z.o∨z.o+(x.l+y.l)≤s.o
   omega
  refine ⟨_,_,_,rfl,_,(cd2.glb hg).t5,bc_true (decT (by omega)) ((c114 (z.to (x.l+y.l)) x y X Y w.drew.drew hr (cd2.nt_none hx).rd (cd2.nt_none hy).rd (Nat.le_refl _) (by show x.l+y.l≤_; omega) (dx x ax) (dx y ay)).mono ?_)⟩
  rintro e w2 ⟨rfl,hsg,hch⟩
  have hch:Chg w w2 (inR z.b z.o (z.o+(x.l+y.l))):=(cd2.none _).trans' hch
  exact ⟨rfl,normI hz hn hsg (prod_lt hx.lt hy.lt) hch fun k hres=>⟨_,_,_,rfl,fun B6=>ret1 rfl rfl hres⟩⟩
theorem Nz.one {w:World} {y:Sl} {Y:Nat} (hy:Nz w y Y):y.l=1→Y≠0:=fun h1 h=>by have:=(Nm.zero_iff hy.nm hy.toNt).2 h; omega
theorem c80w (z x y:Sl) (X Y:Nat) (stk:Option Addr) (w:World) (hz:Nt w z 0) (hx:Nt w x X) (hy:Nt w y Y) (hX1:x.l=1→X≠0) (hY1:y.l=1→Y≠0) (sx:SpC z x) (sy:SpC z y) (lx:Len x) (ly:Len y) (hs:x.l<40∨y.l<40) (hn:x.l+y.l≤z.l) (hg:Glb w) :
  Calls Tryz.prog 80 #[z.v,.pointer stk,x.v,y.v] w (InpE w z (X*Y)):=by
 by_cases h:y.l≤x.l
 ·exact c80j z x y X Y stk w hz hx hy hY1 sx sy lx (by omega) h hn hg
 ·refine F80.call z.a z.l z.c stk x.a x.l x.c y.a y.l y.c w _ fun B=>bc_true (decT (by omega)) ?_
  have:=c80j z y x Y X stk w hz hy hx hX1 sy sx ly (by omega) (by omega) (by omega) hg
  rw [Nat.mul_comm] at this
  exact this.mono fun e w' ⟨v,h1,h2⟩=>by
   obtain ⟨k,rfl,h3⟩:=h2
   exact ⟨_,_,_,h1,fun B2=>ret1 rfl rfl ⟨k,rfl,h3⟩⟩
theorem c80i (z x y:Sl) (X Y:Nat) (stk:Option Addr) (w:World) (hz:Nt w z 0) (hx:Nz w x X) (hy:Nz w y Y) (sx:SpC z x) (sy:SpC z y) (lx:Len x) (ly:Len y) (hs:x.l<40∧y.l<40) (hn:x.l+y.l≤z.l) (hg:Glb w) :
  Calls Tryz.prog 80 #[z.v,.pointer stk,x.v,y.v] w (InpE w z (X*Y)):=c80w z x y X Y stk w hz hx.toNt hy.toNt hx.one hy.one sx sy lx ly (.inl hs.1) hn hg
def InpK (w:World) (K:SK) (z:Sl) (V:Nat) (v:Value) (w':World):Prop:=∃ k,v=(z.to k).v∧k≤z.l∧Nz w' (z.to k) V∧Sg w' z.b z.o z.l V∧V<BB^z.l∧Back w w' K∧Chg w w' (un (inR z.b z.o (z.o+z.l)) K.free)
theorem InpV.k {w w':World} {K:SK} {z:Sl} {V:Nat} {v:Value} (hk:StkAt w K) (hz:St w z) (oz:Off K z) (h:InpV w z V v w'):InpK w K z V v w':=by
 obtain ⟨k,h1,h2,h3,h4,h5,h6⟩:=h
 have hlc:=hz.lc
 exact ⟨k,h1,h2,h3,h4,h5,⟨K,hk.fp (z:=z) (h6.mono fun b i _ hm=>⟨hm.1,hm.2.1,by have:=hm.2.2; omega⟩) oz,Nxt.refl _ _,rfl⟩,h6.l _⟩
theorem c79i (K:SK) (z x:Sl) (X:Nat) (w:World) (hk:StkAt w K) (hz:Nt w z 0) (hx:Nz w x X) (sx:SpC z x) (oz:Off K z) (ox:OffL K x) (lx:x.l<80) (hn:2*x.l≤z.l) (hL:K.s.l≤2199023255552) (hg:Glb w) :
  Calls Tryz.prog 79 #[z.v,.pointer K.a,x.v] w fun e w'=>∃ v,e=.returned v∧InpK w K z (X*X) v w':=by
 have hzc:=hz.lc
 have ax:=sx.apart hx.lc
 refine F79.call z.a z.l z.c K.a x.a x.l x.c w _ fun B=>bc_intro (fun hb=>?_) (fun hb=>bc_intro (fun hb1=>?_) (fun hb1=>?_))
 ·have hX:X=0:=Nz.zero hx.toNt (by have:=eqE hb; omega)
  subst hX
  rw [Nat.zero_mul]
  exact ⟨0,rfl,Nat.zero_le _,fun B2=>ret1 rfl rfl (InpV.k hk hz.toSt oz ⟨0,rfl,Nat.zero_le _,nz_zero hz.toSt,hz.sg,hz.lt,Chg.refl _ _⟩)⟩
 ·have hx1:x.l=1:=by have:=eqE hb1; omega
  have d0:=dg_lt' X 0
  have hX:X=dg X 0:=(dg_self X (by have:=hx.lt; rw [hx1] at this; simpa using this)).symm
  have hsq:=mul_lt_sq _ _ d0 d0
  refine rdC (k:=0) (hx.at_ (by have:=hx.lc; omega)) rfl (by omega) (hx.sg 0 (by omega)) ((c73i z 2 w (by omega)).mono ?_)
  rintro e w1 ⟨rfl,hw⟩
  have hw:=hw.symm
  subst hw
  have hr:St w (z.to 2):=hz.toSt.to_st _ (by omega)
  refine ⟨_,_,_,rfl,(c113 (dg X 0) (dg X 0) d0 d0 w).mono ?_⟩
  rintro e w2 ⟨rfl,hw⟩
  have hw:=hw.symm
  subst hw
  obtain ⟨p1,p2⟩:=put2 (b:=z.b) (o:=z.o) (o1:=z.o+1) rfl (hz.pl (by omega)) (hz.wr 1 (by omega)).1 (hz.wr 0 (by omega)).1 (show dg X 0*dg X 0/18446744073709551616<18446744073709551616 by omega) (show dg X 0*dg X 0%18446744073709551616<18446744073709551616 by omega)
  have hc3:Chg w (w.setCell ⟨z.b,z.o+1,none⟩ (.int .u64 ((dg X 0*dg X 0/18446744073709551616:Nat):Int))) (inR z.b z.o (z.o+2)):=Chg.setCell (hz.pl (by omega)) _ ⟨rfl,by omega,by omega⟩
  refine ⟨_,trivial,_,trivial,rfl,wtC (k:=1) hr.wt rfl (by show 1<2; omega) (wtC (k:=0) (hc3.st hr).wt rfl (by show 0<2; omega) ?_)⟩
  have hp0:dg X 0*dg X 0%18446744073709551616+BB*(dg X 0*dg X 0/18446744073709551616)=X*X:=by rw [←hX]; exact Nat.mod_add_div _ _
  rw [hp0] at p1
  rw [Nat.add_zero]
  exact normI hz (by omega) p1 (by rw [Nat.pow_two,hX]; exact Nat.mul_lt_mul_of_lt_of_le d0 (Nat.le_of_lt d0) BB_pos) p2 fun k hres=>⟨_,_,_,rfl,fun B6=>ret1 rfl rfl (InpV.k hk hz.toSt oz hres)⟩
 ·have hn1:1<x.l:=by have:=eqN hb; have:=eqN hb1; omega
  refine (c49 z x w hz.toSt.pc hx.toSt.pc hz.cm hx.cm).mono ?_
  rintro e w1 ⟨_,rfl,q,rfl,rfl,hq⟩
  have cd:Chg w w.drew none2:=Chg.drew0 w _
  have hq0:q=false:=by
   cases q
   ·rfl
   ·exact absurd (hq.1 rfl) sx.noq
  subst hq0
  have e2:(2*(x.l:Int))=((2*x.l:Nat):Int):=by omega
  refine ⟨_,rfl,bc_false rfl fun B3=>F79.t1 z.a z.l z.c K.a x.a x.l x.c x.l ⟨rfl,rfl,rfl,rfl,trivial⟩ fun B4=>?_⟩
  unfold F79.v1
  rw [e2]
  refine ⟨by unfold inI64; omega,(c73i z (2*x.l) w.drew (by omega)).mono ?_⟩
  rintro e' w1 ⟨rfl,hw⟩
  subst hw
  have hz1:=cd.nt_none hz
  have hr:St w.drew (z.to (2*x.l)):=hz1.toSt.to_st _ (by omega)
  have hx1:=cd.nz_none hx
  have hg1:=cd.glb hg
  have hk1:=hk.none cd
  have hlt:X*X<BB^(2*x.l):=by have:=prod_lt hx.lt hx.lt; rw [show x.l+x.l=2*x.l by omega] at this; exact this
  have dis:Dis (z.to (2*x.l)) (2*x.l) x:=by
   unfold Apart at ax; unfold Dis
   show x.l=0∨x.b≠z.b∨x.o+x.l≤z.o∨z.o+2*x.l≤x.o
   omega
  refine ⟨_,_,_,rfl,_,hg1.t3,bc_intro (fun hb=>⟨_,hg1.t4,bc_true (decT (by omega)) ?_⟩) (fun hb=>⟨_,rfl,bc_false rfl fun B1=>?_⟩)⟩
  ·refine (c114 (z.to (2*x.l)) x x X X w.drew hr hx1.toNt.rd hx1.toNt.rd (by show x.l+x.l≤2*x.l; omega) (by show 2*x.l≤_; omega) (by rw [←Nat.two_mul]; exact dis) (by rw [←Nat.two_mul]; exact dis)).mono ?_
   rintro e' w2 ⟨rfl,hsg,hch⟩
   rw [←Nat.two_mul] at hsg hch
   have hch:Chg w w2 (inR z.b z.o (z.o+2*x.l)):=(cd.none _).trans' hch
   exact ⟨rfl,normI hz (by omega) hsg hlt hch fun k hres=>⟨_,_,_,rfl,fun B6=>ret1 rfl rfl (InpV.k hk hz.toSt oz hres)⟩⟩
  ·have hn:12≤x.l:=by have:=dF hb; omega
   refine F79.t2 z.a (2*x.l) z.c K.a x.a x.l x.c x.l ⟨rfl,rfl,rfl,rfl,trivial⟩ fun B2=>⟨_,hg1.t4,bc_true (decT (by omega)) ?_⟩
   have sp:Sp z.b z.o (2*x.l) x.b x.o x.l:=by
    unfold Dis at dis
    have dis:x.l=0∨x.b≠z.b∨x.o+x.l≤z.o∨z.o+2*x.l≤x.o:=dis
    unfold Sp; omega
   refine (c115 K (z.to (2*x.l)) x X w.drew hk1 hr hx1.toNt hn (by omega) rfl sp oz ox hL hg1).mono ?_
   rintro e' w2 ⟨rfl,hsg,⟨K',b1,b2,b3⟩,hch⟩
   have hsg:Sg w2 z.b z.o (2*x.l) (X*X):=hsg
   have hch:Chg w w2 (un (inR z.b z.o (z.o+2*x.l)) K.free):=(cd.none _).trans' hch
   have hz2:=hch.st hz.toSt
   have hcm:=hz.cm
   refine ⟨rfl,(c46 (z.to (2*x.l)) (X*X) w2 { hz2.to_st (2*x.l) (by omega) with sg:=hsg,lt:=hlt } (by show 2*x.l≤_; omega)).mono ?_⟩
   rintro e' w3 ⟨_,rfl,k,hk',rfl,hw,hnz⟩
   have hw:=hw.symm
   subst hw
   have hk':k≤2*x.l:=hk'
   have h2:Sg w z.b (z.o+2*x.l) (z.l-2*x.l) (0/BB^(2*x.l)):=hz.sg.hi (2*x.l) (z.l-2*x.l) (by omega)
   rw [Nat.zero_div] at h2
   have hj:=hsg.join (hch.sg h2 fun i hi hm=>hm.elim (fun hm=>by have:=hm.2.2; omega) fun hm=>oz _ (by omega) (by omega) hm) hlt
   rw [Nat.mul_zero,Nat.add_zero,show 2*x.l+(z.l-2*x.l)=z.l by omega] at hj
   exact ⟨_,_,_,rfl,fun B3=>ret1 rfl rfl ⟨k,rfl,by omega,hnz,hj,lt_pow_of_le hlt (by omega),⟨K',b1,b2.mono cd.size,b3⟩,hch.mono fun b i _ hm=>hm.imp (fun hm=>⟨hm.1,hm.2.1,by have:=hm.2.2; omega⟩) id⟩⟩
end Go.Proofs.YtlkjiiibmfpbcaaGreatDoor
