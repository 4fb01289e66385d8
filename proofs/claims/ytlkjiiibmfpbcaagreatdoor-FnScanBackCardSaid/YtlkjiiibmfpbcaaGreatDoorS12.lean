/- Contracts: comparison, sum and difference of numbers. Conditions: normal form; lengths up to 2^40; what is read lies apart from the storage, or begins where it begins. -/
import Derived.Lib.SliceRun
import Derived.Great.BuildSlice
import Derived.Test.YtlkjiiibmfpbcaaGreatDoorS11
import Derived.Test.YtlkjiiibmfpbcaaGreatDoorS08
namespace Go.Proofs.YtlkjiiibmfpbcaaGreatDoor
open Go
theorem Nt.blk {w:World} {s:Sl} {v:Nat} (h:Nt w s v) (hl:s.l≠0):s.b<w.heap.size:=h.toSt.blk (by have:=h.lc; omega)
theorem Nt.pl' {w:World} {s:Sl} {v:Nat} (h:Nt w s v) (hl:s.l≠0):plainAt w s.b:=(h.pl (by have:=h.lc; omega)).2
theorem Sep.ov {w:World} {z r x:Sl} {X:Nat} (hs:Sep z x) (hf:From w z r) (hx:Nt w x X) {n h:Nat} (hr:h≤r.c) (hxl:h≤x.l):Ov (r.sub n h) (x.sub n h):=by
 unfold Ov
 show h-n=0∨x.b≠r.b∨r.o+n≤x.o+n∨x.o+n+(h-n)≤r.o+n
 by_cases hh:h≤n
 ·exact .inl (by omega)
 ·have:=hx.blk (by omega)
  rcases hf with ⟨_,e2,e3,e4⟩ | hf
  ·unfold Sep at hs; omega
  ·omega
theorem Sep.ovTo {w:World} {z r x:Sl} {X:Nat} (hs:Sep z x) (hf:From w z r) (hx:Nt w x X) {h:Nat} (hr:h≤r.c) (hxl:h≤x.l):Ov (r.to h) (x.to h):=by
 unfold Ov
 show h=0∨x.b≠r.b∨r.o≤x.o∨x.o+h≤r.o
 by_cases hh:h=0
 ·exact .inl hh
 ·have:=hx.blk (by omega)
  rcases hf with ⟨_,e2,e3,e4⟩ | hf
  ·unfold Sep at hs; omega
  ·omega
theorem Sep.behind {w:World} {z r x:Sl} {X:Nat} (hs:Sep z x) (hf:From w z r) (hx:Nt w x X) {n i:Nat} (hr:n≤r.c) (hi:n≤i) (hl:i<x.l):¬inR r.b r.o (r.o+n) x.b (x.o+i):=by
 rintro ⟨h1,h2,h3⟩
 have:=hx.blk (by omega)
 rcases hf with ⟨_,e2,e3,e4⟩ | hf
 ·unfold Sep at hs; omega
 ·omega
def sgn (X Y:Nat):Int:=if X<Y then -1 else if X=Y then 0 else 1
theorem div_split (X k:Nat):X/BB^k=dg X k+BB*(X/BB^(k+1)):=by
 rw [BBpow_succ,←Nat.div_div_eq_div_mul]; exact (Nat.mod_add_div _ _).symm
theorem lt_of_div {X Y k:Nat} (h:X/BB^k<Y/BB^k):X<Y:=by
 rcases Nat.lt_or_ge X Y with h1 | h1
 ·exact h1
 ·have:=Nat.div_le_div_right (c:=BB^k) h1; omega
theorem c92g (x y:Sl) (X Y:Nat) (w:World) (hx:Nt w x X) (hy:Nt w y Y) (hn:x.l=y.l∨(Nz w x X∧Nz w y Y)) :
  Calls Tryz.prog 92 #[x.v,y.v] w fun e w'=>∃ v,e=.returned v∧v=.int .i64 (sgn X Y)∧Chg w w' none2:=by
 have lx:=hx.lc
 have lxm:=hx.cm
 refine F92.call x.a x.l x.c y.a y.l y.c w _ fun B=>bc_intro (fun hb=>?_) (fun hb=>?_)
 ·have hne:x.l≠y.l:=by have:=neN hb; omega
  obtain ⟨nx,ny⟩:=hn.resolve_left hne
  refine bc_intro (fun hb=>?_) (fun hb=>bc_intro (fun hb'=>?_) (fun hb'=>?_))
  ·have hlt:x.l<y.l:=by have:=dT hb; omega
   refine fun B1=>F92.t2 _ ⟨rfl,trivial⟩ fun B2 B3=>ret1 rfl (intv ?_) ⟨rfl,Chg.refl _ _⟩
   have h1:=ny.nm.le (by omega)
   have h2:=lt_pow_of_le hx.lt (show x.l≤y.l-1 by omega)
   rw [sgn,if_pos (by omega)]
  ·have hlt:y.l<x.l:=by have:=dT hb'; omega
   refine fun B1=>F92.t2 _ ⟨rfl,trivial⟩ fun B2 B3=>ret1 rfl (intv ?_) ⟨rfl,Chg.refl _ _⟩
   have h1:=nx.nm.le (by omega)
   have h2:=lt_pow_of_le hy.lt (show y.l≤x.l-1 by omega)
   rw [sgn,if_neg (by omega),if_neg (by omega)]
  ·have:=dF hb; have:=dF hb'; omega
 ·have he:x.l=y.l:=by have:=neE hb; omega
  refine bc_intro (fun hb=>?_) (fun hb B1=>?_)
  ·have h0:x.l=0:=by have:=eqE hb; omega
   refine bc_false (decF (by omega)) (bc_false (decF (by omega)) fun B1=>F92.t2 _ ⟨rfl,trivial⟩ fun B2 B3=>ret1 rfl (intv ?_) ⟨rfl,Chg.refl _ _⟩)
   have:=Nz.zero hx h0
   have:=Nz.zero hy (by omega)
   rw [sgn,if_neg (by omega),if_pos (by omega)]
  ·have h0:x.l≠0:=by have:=eqN hb; omega
   refine F92.t1 x.a x.l x.c y.a y.l y.c 0 x.l ⟨rfl,rfl,rfl,rfl,trivial⟩ fun B2=>⟨by unfold inI64; omega,fun B3=>?_⟩
   rw [F92.q5]
   refine W_for (σ:=Nat) (fun i=>[(0,x.v),(1,y.v),(4,.int .i64 0),(7,.int .i64 (i:Int))])
    (fun i wr=>i<x.l∧X/BB^(i+1)=Y/BB^(i+1)∧Chg w wr none2) (fun i=>i) (x.l-1) ⟨rfl,rfl,rfl,intv (by omega),trivial⟩
    ⟨by omega,?_,Chg.refl _ _⟩ ?_
   ·rw [Nat.sub_add_cancel (by omega),Nat.div_eq_of_lt hx.lt,he,Nat.div_eq_of_lt hy.lt]
   rintro i B wr ⟨hi,hq,hch⟩
   have hxr:=hch.nt_none hx
   have hyr:=hch.nt_none hy
   have dx:=dg_lt' X i
   have dy:=dg_lt' Y i
   have sx:=div_split X i
   rw [hq] at sx
   have sy:=div_split Y i
   have endK:∀ (B4:Nat→Value) (ds:List Deferred) (w1:World),ds=[]→Chg w w1 none2→(dg X i=dg Y i→i=0) →
     W Tryz.prog 64 F92.p3 (E [(0,(.slice x.a x.l x.c)),(1,(.slice y.a y.l y.c)),(4,(.int .i64 0)),(7,(.int .i64 i))] B4 ds) w1 (retK Tryz.prog [.tmp 4] fun v w'=>v=.int .i64 (sgn X Y)∧Chg w w' none2):=by
    intro B4 ds w1 hds hch1 hne
    subst hds
    have hxr:=hch1.nt_none hx
    have hyr:=hch1.nt_none hy
    refine F92.t3 x.a x.l x.c y.a y.l y.c 0 i ⟨rfl,rfl,rfl,rfl,trivial⟩ fun B5=>?_
    refine rdC (k:=i) (hx.at_ (by omega)) rfl hi (hxr.sg i hi) (rdC (k:=i) (hy.at_ (by have:=hy.lc; omega)) rfl (by omega) (hyr.sg i (by omega)) (bc_intro (fun hb B6=>?_) (fun hb=>?_)))
    ·have hlt:dg X i<dg Y i:=by have:=dT hb; omega
     refine F92.t6 _ ⟨rfl,trivial⟩ fun B7 B8=>ret1 rfl (intv ?_) ⟨rfl,hch1.drew⟩
     have:X<Y:=lt_of_div (k:=i) (by omega)
     rw [sgn,if_pos this]
    ·have hge:=dF hb
     refine rdC (k:=i) (hx.at_ (by omega)) rfl hi (hxr.sg i hi) (rdC (k:=i) (hy.at_ (by have:=hy.lc; omega)) rfl (by omega) (hyr.sg i (by omega)) (bc_intro (fun hb' B6=>?_) (fun hb' B6=>?_)))
     ·have hlt:dg Y i<dg X i:=by have:=dT hb'; omega
      refine F92.t6 _ ⟨rfl,trivial⟩ fun B7 B8=>ret1 rfl (intv ?_) ⟨rfl,hch1.drew.drew⟩
      have:Y<X:=lt_of_div (k:=i) (by omega)
      rw [sgn,if_neg (by omega),if_neg (by omega)]
     ·have heq:dg X i=dg Y i:=by have:=dF hb'; omega
      refine F92.t6 _ ⟨rfl,trivial⟩ fun B7 B8=>ret1 rfl (intv ?_) ⟨rfl,hch1.drew.drew⟩
      have h00:=hne heq
      subst h00
      rw [Nat.pow_zero,Nat.div_one] at sx sy
      have:X=Y:=by omega
      rw [sgn,if_neg (by omega),if_pos this]
   refine F92.t4 x.a x.l x.c y.a y.l y.c 0 i ⟨rfl,rfl,rfl,rfl,trivial⟩ fun B4=>bc_intro (fun hb=>?_) (fun hb B5=>?_)
   ·refine rdC (k:=i) (hx.at_ (by omega)) rfl hi (hxr.sg i hi) (rdC (k:=i) (hy.at_ (by have:=hy.lc; omega)) rfl (by omega) (hyr.sg i (by omega)) (bc_intro (fun hd=>?_) (fun hd B5=>?_)))
    ·have hde:dg X i=dg Y i:=by have:=eqE hd; omega
     obtain ⟨j,rfl⟩:∃ j,i=j+1:=⟨i-1,by have:=dT hb; omega⟩
     refine ⟨by unfold inI64; omega,fun B5=>⟨j,⟨rfl,rfl,rfl,intv (by omega),trivial⟩,rfl,⟨by omega,?_,hch.drew⟩,by show j<j+1; omega⟩⟩
     rw [sx,sy,hde]
    ·exact endK B5 _ _ rfl hch.drew fun h=>absurd h (by have:=eqN hd; omega)
   ·exact endK B5 _ _ rfl hch.drew fun h=>by have:=dF hb; omega
theorem Res.of {w w':World} {z r:Sl} {V:Nat} (h:Nz w' r V) (hf:From w z r) (hc:Chg w w' (fp z)):Res w z V r.v w':=⟨r,rfl,h,hf,hc⟩
theorem ResE.pass {f:FuncId} {args:Array Value} {w:World} {z:Sl} {V:Nat} {Q:Ending→World→Prop} (h:Calls Tryz.prog f args w (ResE w z V)) (q:∀ r w',Nz w' r V→From w z r→Chg w w' (fp z)→Q (.returned r.v) w') :
  Calls Tryz.prog f args w Q:=h.mono fun e w' ⟨v,h1,r,h2,h3,h4,h5⟩=>by subst h1; subst h2; exact q r w' h3 h4 h5
theorem normR {w w1:World} {z r:Sl} {V:Nat} {Q:Ending→World→Prop} (hr:Nt w1 r V) (hf:From w z r) (hc:Chg w w1 (fp z)) (q:∀ k,Res w z V (r.to k).v w1→Q (.returned (r.to k).v) w1) :
  Calls Tryz.prog 46 #[r.v] w1 Q:=(c46 r V w1 hr (by have:=hr.lc; have:=hr.cm; omega)).mono fun e w' ⟨v,h1,k,h2,h3,h4,h5⟩=>by
   subst h1; subst h3; subst h4; exact q k (Res.of h5 (hf.to k) hc)
theorem c92 (x y:Sl) (X Y:Nat) (w:World) (hx:Nz w x X) (hy:Nz w y Y) :
  Calls Tryz.prog 92 #[x.v,y.v] w fun e w'=>∃ v,e=.returned v∧v=.int .i64 (sgn X Y)∧Chg w w' none2:=c92g x y X Y w hx.toNt hy.toNt (.inr ⟨hx,hy⟩)
theorem c101s (z x y:Sl) (X Y:Nat) (w:World) (hz:St w z) (hx:Nz w x X) (hy:Nz w y Y) (sx:Sep z x) (sy:Sep z y) (hl:Len x) (hyl:y.l≤x.l) :
  Calls Tryz.prog 101 #[z.v,x.v,y.v] w (ResE w z (X+Y)):=by
 have hl':=hl
 unfold Len at hl'
 refine F101.call z.a z.l z.c x.a x.l x.c y.a y.l y.c w _ fun B=>bc_false (decF (by omega)) (bc_intro (fun hb=>?_) (fun hb=>bc_intro (fun hb'=>?_) (fun hb'=>?_)))
 ·have h0:x.l=0:=by have:=eqE hb; omega
  have e1:=Nz.zero hx.toNt h0
  have e2:=Nz.zero hy.toNt (by omega)
  subst e1; subst e2
  exact ⟨0,rfl,Nat.zero_le _,fun B2=>ret1 rfl rfl (Res.of (nz_zero hz) (From.self w z 0) (Chg.refl _ _))⟩
 ·have e2:=Nz.zero hy.toNt (by have:=eqE hb'; omega)
  subst e2
  exact ResE.pass (c60 z x X w hz hx hl) fun r w' h1 h2 h3=>⟨_,_,_,rfl,fun B2=>ret1 rfl rfl (Res.of h1 h2 h3)⟩
 ·have hy0:y.l≠0:=by have:=eqN hb'; omega
  refine ⟨by unfold inI64; omega,(c73 z (x.l+1) w hz (by omega)).mono ?_⟩
  rintro e w1 ⟨_,rfl,r,rfl,hrl,hr,hf,hc⟩
  have hrc:=hr.lc
  have hx1:=hc.nz_none hx
  have hy1:=hc.nz_none hy
  have hxc:=hx.lc
  have hyc:=hy.lc
  refine ⟨_,_,_,rfl,y.l,rfl,by omega,y.l,rfl,by omega,y.l,rfl,by omega,?_⟩
  have cd:Chg w1 w1.drew none2:=Chg.drew0 w1 _
  have hrd:=cd.st hr
  have hxd:=cd.nz_none hx1
  have hyd:=cd.nz_none hy1
  have yl:=hyd.toNt.rd
  refine Vec.pass (c138 (r.to y.l) (x.to y.l) y (X%BB^y.l) Y w1.drew (hrd.to_wt _ (by omega)) (hxd.toNt.lo _ hyl) yl rfl rfl (sx.ovTo hf hx.toNt (by omega) hyl) (sy.ovTo hf hy.toNt (by omega) (Nat.le_refl _))) ?_
  rintro c Z w2 ⟨t1,t2⟩ hZ hsg hch
  refine ⟨_,rfl,?_⟩
  have hZ:Z<BB^y.l:=hZ
  have hch:Chg w1.drew w2 (inR r.b r.o (r.o+y.l)):=hch
  have hsg:Sg w2 r.b r.o y.l Z:=hsg
  have t1:Z+BB^y.l*c=X%BB^y.l+Y:=t1
  have hr2:=hch.st hrd
  have fin:∀ (w3:World) (Z2 c2:Nat) (B4:Nat→Value) (ds:List Deferred),ds=[]→c2≤1→Z2<BB^x.l→Sg w3 r.b r.o x.l Z2→Chg w w3 (fp z)→St w3 r→Z2+BB^x.l*c2=X+Y →
    W Tryz.prog 65 F101.p1 (E [(0,(.slice r.a r.l r.c)),(7,(.int .i64 x.l)),(9,(.int .u64 c2))] B4 ds) w3 (retK Tryz.prog [.tmp 6] (Res w z (X+Y))):=by
   intro w3 Z2 c2 B4 ds hds hc2 hZ2 hs3 hc3 hr3 ht
   subst hds
   refine F101.t1 r.a r.l r.c x.l c2 ⟨rfl,rfl,rfl,trivial⟩ fun B5=>wtC (k:=x.l) hr3.wt rfl (by omega) ?_
   have hp:=hr3.pl (by omega)
   have hs4:=hs3.step hZ2 (d:=c2) (w2:=w3) (by rw [BB_eq]; omega) rfl hp (hr3.wr x.l (by omega)).1
   have hc4:Chg w3 (w3.setCell ⟨r.b,r.o+x.l,none⟩ (.int .u64 (c2:Int))) (inR r.b (r.o+x.l) (r.o+x.l+1)):=Chg.setCell hp _ ⟨rfl,by omega,by omega⟩
   rw [ht] at hs4
   have hlt:X+Y<BB^r.l:=by rw [hrl,←ht]; exact dlt hZ2 (by omega)
   refine normR (w:=w) (z:=z) (r:=r) (V:=X+Y) { hc4.st hr3 with sg:=by rw [hrl]; exact hs4,lt:=hlt } hf (hf.chg hc3 hc4 (by omega) (by omega)) fun k hres=>⟨_,_,_,rfl,fun B6=>ret1 rfl rfl hres⟩
  have hw2:Chg w w2 (fp z):=hf.chg ((hc.trans' cd).none _) hch (Nat.le_refl _) (by omega)
  refine bc_intro (fun hb=>?_) (fun hb B4=>?_)
  ·have hlt:y.l<x.l:=by have:=dT hb; omega
   refine ⟨y.l,x.l,rfl,rfl,by omega,by omega,y.l,rfl,by omega,?_⟩
   have cd2:Chg w2 w2.drew none2:=Chg.drew0 w2 _
   have hx2:Rd w2.drew (x.sub y.l x.l) (X/BB^y.l):=(hch.drew).rd (hxd.toNt.hi y.l hyl) fun i hi=>by
    have hi':i<x.l-y.l:=hi
    have:=sx.behind hf hx.toNt (n:=y.l) (i:=y.l+i) (by omega) (by omega) (by omega)
    rw [←Nat.add_assoc] at this; exact this
   refine Vec.pass (c139 (r.sub y.l x.l) (x.sub y.l x.l) (X/BB^y.l) c w2.drew ((cd2.st hr2).sub_wt _ _ (by omega) (by omega)) hx2 rfl (sx.ov hf hx.toNt (by omega) (Nat.le_refl _)) (by show x.l-y.l≤r.c-y.l; omega) (by show x.l-y.l≤x.c-y.l; omega)
    (fun _=>hch.drew.plain (hxd.toNt.pl' (by omega))) (by omega)) ?_
   rintro c2 Z2 w3 ⟨t3,t4⟩ hZ2 hsg2 hch2
   have hZ2:Z2<BB^(x.l-y.l):=hZ2
   have hsg2:Sg w3 r.b (r.o+y.l) (x.l-y.l) Z2:=hsg2
   have t3:Z2+BB^(x.l-y.l)*c2=X/BB^y.l+c:=t3
   have hch2:Chg w2.drew w3 (inR r.b (r.o+y.l) (r.o+y.l+(x.l-y.l))):=hch2
   refine ⟨_,rfl,fun B4=>fin w3 (Z+BB^y.l*Z2) c2 B4 _ rfl (t4 (by show x.l-y.l≠0; omega)) ?_ ?_ ?_ ((cd2.none _).trans' hch2 |>.st hr2) ?_⟩
   ·have e:BB^x.l=BB^y.l*BB^(x.l-y.l):=by rw [←Nat.pow_add,Nat.add_sub_cancel' hyl]
    have:BB^y.l*Z2+BB^y.l≤BB^y.l*BB^(x.l-y.l):=by rw [←Nat.mul_succ]; exact Nat.mul_le_mul_left _ hZ2
    omega
   ·have:=Sg.join (((cd2.none _).trans' hch2).sg hsg fun i hi hm=>by have:=hm.2.1; omega) hsg2 hZ
    rw [Nat.add_sub_cancel' hyl] at this; exact this
   ·exact hf.chg (hw2.trans' (cd2.none _)) hch2 (by omega) (by omega)
   ·have e:BB^x.l=BB^y.l*BB^(x.l-y.l):=by rw [←Nat.pow_add,Nat.add_sub_cancel' hyl]
    have h7:BB^y.l*(Z2+BB^(x.l-y.l)*c2)=BB^y.l*(X/BB^y.l+c):=congrArg _ t3
    rw [Nat.mul_add,Nat.mul_add,←Nat.mul_assoc,←e] at h7
    have h8:=Nat.mod_add_div X (BB^y.l)
    omega
  ·have heq:x.l=y.l:=by have:=dF hb; omega
   refine fin w2 Z c B4 _ rfl t2 (by rw [heq]; exact hZ) (by rw [heq]; exact hsg) hw2 hr2 ?_
   rw [heq,t1,Nat.mod_eq_of_lt (by rw [←heq]; exact hx.lt)]
theorem c101 (z x y:Sl) (X Y:Nat) (w:World) (hz:St w z) (hx:Nz w x X) (hy:Nz w y Y) (sx:Sep z x) (sy:Sep z y) (hl:Len x) (hl2:Len y) :
  Calls Tryz.prog 101 #[z.v,x.v,y.v] w (ResE w z (X+Y)):=by
 by_cases h:y.l≤x.l
 ·exact c101s z x y X Y w hz hx hy sx sy hl h
 ·refine F101.call z.a z.l z.c x.a x.l x.c y.a y.l y.c w _ fun B=>bc_true (decT (by omega)) ?_
  have:=c101s z y x Y X w hz hy hx sy sx hl2 (by omega)
  rw [Nat.add_comm] at this
  exact ResE.pass this fun r w' h1 h2 h3=>⟨_,_,_,rfl,fun B2=>ret1 rfl rfl (Res.of h1 h2 h3)⟩
theorem c52 (z x y:Sl) (X Y:Nat) (w:World) (hz:St w z) (hx:Nz w x X) (hy:Nz w y Y) (sx:Sep z x) (sy:Sep z y) (hl:Len x) (hle:Y≤X) :
  Calls Tryz.prog 52 #[z.v,x.v,y.v] w (ResE w z (X-Y)):=by
 have hl':=hl
 unfold Len at hl'
 have hyl:y.l≤x.l:=hy.nm _ (Nat.lt_of_le_of_lt hle hx.lt)
 refine F52.call z.a z.l z.c x.a x.l x.c y.a y.l y.c w _ fun B=>bc_false (decF (by omega)) (bc_intro (fun hb=>?_) (fun hb=>bc_intro (fun hb'=>?_) (fun hb' B0=>?_)))
 ·have h0:x.l=0:=by have:=eqE hb; omega
  have e1:=Nz.zero hx.toNt h0
  have e2:=Nz.zero hy.toNt (by omega)
  subst e1; subst e2
  exact ⟨0,rfl,Nat.zero_le _,fun B2=>ret1 rfl rfl (Res.of (nz_zero hz) (From.self w z 0) (Chg.refl _ _))⟩
 ·have e2:=Nz.zero hy.toNt (by have:=eqE hb'; omega)
  subst e2
  exact ResE.pass (c60 z x X w hz hx hl) fun r w' h1 h2 h3=>⟨_,_,_,rfl,fun B2=>ret1 rfl rfl (Res.of h1 h2 h3)⟩
 ·have hy0:y.l≠0:=by have:=eqN hb'; omega
  refine F52.t1 z.a z.l z.c x.a x.l x.c y.a y.l y.c x.l y.l ⟨rfl,rfl,rfl,rfl,rfl,trivial⟩ fun B1=>(c73 z x.l w hz (by omega)).mono ?_
  rintro e w1 ⟨_,rfl,r,rfl,hrl,hr,hf,hc⟩
  have hrc:=hr.lc
  have hx1:=hc.nz_none hx
  have hy1:=hc.nz_none hy
  have hxc:=hx.lc
  have hyc:=hy.lc
  refine ⟨_,_,_,rfl,y.l,rfl,by omega,y.l,rfl,by omega,y.l,rfl,by omega,?_⟩
  have cd:Chg w1 w1.drew none2:=Chg.drew0 w1 _
  have hrd:=cd.st hr
  have hxd:=cd.nz_none hx1
  have hyd:=cd.nz_none hy1
  have yl:=hyd.toNt.rd
  refine Vec.pass (c82 (r.to y.l) (x.to y.l) y (X%BB^y.l) Y w1.drew (hrd.to_wt _ (by omega)) (hxd.toNt.lo _ hyl) yl rfl rfl (sx.ovTo hf hx.toNt (by omega) hyl) (sy.ovTo hf hy.toNt (by omega) (Nat.le_refl _))) ?_
  rintro c Z w2 ⟨t1,t2⟩ hZ hsg hch
  refine ⟨_,rfl,?_⟩
  have hZ:Z<BB^y.l:=hZ
  have hch:Chg w1.drew w2 (inR r.b r.o (r.o+y.l)):=hch
  have hsg:Sg w2 r.b r.o y.l Z:=hsg
  have t1:Z+Y=X%BB^y.l+BB^y.l*c:=t1
  have hr2:=hch.st hrd
  have fin:∀ (w3:World) (Z2 c2:Nat) (B4:Nat→Value) (ds:List Deferred),ds=[]→Z2<BB^x.l→Sg w3 r.b r.o x.l Z2→Chg w w3 (fp z)→St w3 r→Z2+Y=X+BB^x.l*c2 →
    W Tryz.prog 59 F52.p2 (E [(0,(.slice r.a r.l r.c)),(9,(.int .u64 c2))] B4 ds) w3 (retK Tryz.prog [.tmp 6] (Res w z (X-Y))):=by
   intro w3 Z2 c2 B4 ds hds hZ2 hs3 hc3 hr3 ht
   subst hds
   have hc0:c2=0:=by
    rcases Nat.eq_zero_or_pos c2 with h | h
    ·exact h
    ·have:BB^x.l*1≤BB^x.l*c2:=Nat.mul_le_mul_left _ h
     omega
   subst hc0
   have hV:Z2=X-Y:=by omega
   subst hV
   refine F52.t2 r.a r.l r.c (0:Nat) ⟨rfl,rfl,trivial⟩ fun B5=>bc_false (neF rfl) fun B6=>F52.t3 r.a r.l r.c ⟨rfl,trivial⟩ fun B7=>?_
   exact normR (w:=w) (z:=z) (r:=r) (V:=X-Y) { hr3 with sg:=by rw [hrl]; exact hs3,lt:=by rw [hrl]; exact hZ2 } hf hc3 fun k hres=>⟨_,_,_,rfl,fun B6=>ret1 rfl rfl hres⟩
  have hw2:Chg w w2 (fp z):=hf.chg ((hc.trans' cd).none _) hch (Nat.le_refl _) (by omega)
  refine bc_intro (fun hb=>?_) (fun hb B4=>?_)
  ·have hlt:y.l<x.l:=by have:=dT hb; omega
   refine ⟨y.l,rfl,by omega,y.l,rfl,by omega,?_⟩
   have cd2:Chg w2 w2.drew none2:=Chg.drew0 w2 _
   have hx2:Rd w2.drew (x.sub y.l x.l) (X/BB^y.l):=(hch.drew).rd (hxd.toNt.hi y.l hyl) fun i hi=>by
    have hi':i<x.l-y.l:=hi
    have:=sx.behind hf hx.toNt (n:=y.l) (i:=y.l+i) (by omega) (by omega) (by omega)
    rw [←Nat.add_assoc] at this; exact this
   have:=c83 (r.sub y.l x.l) (x.sub y.l x.l) (X/BB^y.l) c w2.drew ((cd2.st hr2).sub_wt _ _ (by omega) (by omega)) hx2 rfl (sx.ov hf hx.toNt (by omega) (Nat.le_refl _)) (by show x.l-y.l≤r.c-y.l; omega) (by show x.l-y.l≤x.c-y.l; omega)
    (fun _=>hch.drew.plain (hxd.toNt.pl' (by omega))) (by omega)
   rw [show r.sub y.l x.l=r.sub y.l r.l by rw [hrl]] at this
   refine Vec.pass this ?_
   rintro c2 Z2 w3 ⟨t3,t4⟩ hZ2 hsg2 hch2
   rw [hrl] at hZ2 hsg2 t3 hch2
   have hZ2:Z2<BB^(x.l-y.l):=hZ2
   have hsg2:Sg w3 r.b (r.o+y.l) (x.l-y.l) Z2:=hsg2
   have t3:Z2+c=X/BB^y.l+BB^(x.l-y.l)*c2:=t3
   have hch2:Chg w2.drew w3 (inR r.b (r.o+y.l) (r.o+y.l+(x.l-y.l))):=hch2
   refine ⟨_,rfl,fun B4=>fin w3 (Z+BB^y.l*Z2) c2 B4 _ rfl ?_ ?_ ?_ ((cd2.none _).trans' hch2 |>.st hr2) ?_⟩
   ·have e:BB^x.l=BB^y.l*BB^(x.l-y.l):=by rw [←Nat.pow_add,Nat.add_sub_cancel' hyl]
    have:BB^y.l*Z2+BB^y.l≤BB^y.l*BB^(x.l-y.l):=by rw [←Nat.mul_succ]; exact Nat.mul_le_mul_left _ hZ2
    omega
   ·have:=Sg.join (((cd2.none _).trans' hch2).sg hsg fun i hi hm=>by have:=hm.2.1; omega) hsg2 hZ
    rw [Nat.add_sub_cancel' hyl] at this; exact this
   ·exact hf.chg (hw2.trans' (cd2.none _)) hch2 (by omega) (by omega)
   ·have e:BB^x.l=BB^y.l*BB^(x.l-y.l):=by rw [←Nat.pow_add,Nat.add_sub_cancel' hyl]
    have h7:BB^y.l*(Z2+c)=BB^y.l*(X/BB^y.l+BB^(x.l-y.l)*c2):=congrArg _ t3
    rw [Nat.mul_add,Nat.mul_add,←Nat.mul_assoc,←e] at h7
    have h8:=Nat.mod_add_div X (BB^y.l)
    omega
  ·have heq:x.l=y.l:=by have:=dF hb; omega
   refine fin w2 Z c B4 _ rfl (by rw [heq]; exact hZ) (by rw [heq]; exact hsg) hw2 hr2 ?_
   rw [heq,t1,Nat.mod_eq_of_lt (by rw [←heq]; exact hx.lt)]
end Go.Proofs.YtlkjiiibmfpbcaaGreatDoor
namespace Go.Proofs.YtlkjiiibmfpbcaaGreatDoor
open Go
def tab64:List Nat:=[0,1,56,2,57,49,28,3,61,58,42,50,38,29,17,4,62,47,59,36,45,43,51,22,53,39,33,30,24,18,12,5,63,55,48,27,60,41,37,16,46,35,44,21,52,32,23,11,54,26,40,15,34,20,31,10,25,14,19,9,13,8,7,6]
def Tabs (w:World):Prop:=∀ k,k<64→w.cell? ⟨7,k,none⟩=some (.int .u8 (tab64.getD k 0:Nat))
theorem Chg.tabs {w w':World} {S:Set2} (h:Chg w w' S) (ht:Tabs w):Tabs w':=fun k hk=>by
 have h1:=ht k hk
 have hb:=lt_of_cell h1
 rw [cell_eq,h.glob 7 (by decide) hb,←cell_eq]; exact h1
theorem odd_split:∀ x:Nat,x≠0→∃ t q,x=2^t*(2*q+1):=by
 intro x
 induction x using Nat.strongRecOn with
 | _ x ih =>
  intro h
  by_cases h2:x%2=0
  ·obtain ⟨t,q,e⟩:=ih (x/2) (by omega) (by omega)
   refine ⟨t+1,q,?_⟩
   rw [Nat.pow_succ,Nat.mul_comm (2^t) 2,Nat.mul_assoc,←e]; omega
  ·exact ⟨0,x/2,by rw [Nat.pow_zero]; omega⟩
theorem and_self_neg (n q:Nat) (hq:q<2^n):q &&& (2^n-(q+1))=0:=by
 refine Nat.eq_of_testBit_eq fun i=>?_
 rw [Nat.testBit_and,Nat.testBit_two_pow_sub_succ hq,Nat.zero_testBit]
 cases q.testBit i <;> simp
theorem and_odd (a b:Nat):(2*a+1) &&& (2*b+1)=2*(a &&& b)+1:=by
 refine Nat.eq_of_testBit_eq fun i=>?_
 cases i with
 | zero=>simp [Nat.testBit_zero]
 | succ i=>rw [Nat.testBit_and,Nat.testBit_succ,Nat.testBit_succ,Nat.testBit_succ,show (2*a+1)/2=a by omega,show (2*b+1)/2=b by omega,show (2*(a &&& b)+1)/2=a &&& b by omega,Nat.testBit_and]
theorem and_low (t q:Nat) (h:2^t*(2*q+1)<2^64):(2^t*(2*q+1)) &&& (2^64-2^t*(2*q+1))=2^t:=by
 have ht:t<64:=by
  rcases Nat.lt_or_ge t 64 with h1 | h1
  ·exact h1
  ·have:=Nat.pow_le_pow_right (show 0<2 by omega) h1
   have:2^t*1≤2^t*(2*q+1):=Nat.mul_le_mul_left _ (by omega)
   omega
 obtain ⟨n,hn⟩:∃ n,64=t+1+n:=⟨63-t,by omega⟩
 have e64:2^64=2^t*(2*2^n):=by rw [show 2*2^n=2^(n+1) by rw [Nat.pow_succ,Nat.mul_comm],←Nat.pow_add]; congr 1; omega
 have hq:2*q+1<2*2^n:=by rw [e64] at h; exact Nat.lt_of_mul_lt_mul_left h
 rw [e64,←Nat.mul_sub,show 2*2^n-(2*q+1)=2*(2^n-(q+1))+1 by omega]
 have:∀ a b,(2^t*a) &&& (2^t*b)=2^t*(a &&& b):=fun a b=>by
  have:=Nat.shiftLeft_and_distrib (a:=a) (b:=b) (i:=t)
  rw [Nat.shiftLeft_eq,Nat.shiftLeft_eq,Nat.shiftLeft_eq] at this
  rw [Nat.mul_comm,Nat.mul_comm _ b,Nat.mul_comm _ (a &&& b)]; exact this.symm
 rw [this,and_odd,and_self_neg n q (by omega)]; simp
theorem tab_all:∀ t,t<64→(2^t*285870213051353865%18446744073709551616)/2^58<64∧tab64.getD ((2^t*285870213051353865%18446744073709551616)/2^58) 0=t:=by decide +kernel
theorem c88 (x:Nat) (w:World) (hx:x<18446744073709551616) (ht:Tabs w) (t q:Nat) (h:x=2^t*(2*q+1)):Calls Tryz.prog 88 #[.int .u64 (x:Int)] w fun e w'=>e=.returned (.int .i64 (t:Int))∧w'=w:=by
 have ht64:t<64:=by
  rcases Nat.lt_or_ge t 64 with h1 | h1
  ·exact h1
  ·have:=Nat.pow_le_pow_right (show 0<2 by omega) h1
   have:2^t*1≤2^t*(2*q+1):=Nat.mul_le_mul_left _ (by omega)
   omega
 have hx0:x≠0:=by have:=Nat.two_pow_pos t; have:2^t*1≤2^t*(2*q+1):=Nat.mul_le_mul_left _ (by omega); omega
 have e1:iAnd .u64 (x:Int) (IntKind.wrap .u64 (0-x))=((2^t:Nat):Int):=by
  rw [wrapE,show (0-(x:Int))%18446744073709551616=((18446744073709551616-x:Nat):Int) by omega,iAndN _ _ hx (by omega)]
  have:=and_low t q (by rw [←h]; exact hx)
  rw [←h] at this
  rw [show 18446744073709551616-x=2^64-x from rfl,this]
 refine told (F88.call x w _ fun B=>bc_false (eqF (by omega)) ⟨by omega,(2^t*285870213051353865%18446744073709551616)/2^58,?_,(tab_all t ht64).1,_,by rw [Nat.zero_add]; exact ht _ (tab_all t ht64).1,fun B1=>ret1 rfl (intv ?_) ⟨rfl,rfl⟩⟩)
 ·rw [e1,show ((2^t:Nat):Int)*285870213051353865=((2^t*285870213051353865:Nat):Int) by rw [Int.natCast_mul]; rfl,wrapM]
  exact iShrN _ 58
 ·rw [(tab_all t ht64).2,wrapIN t (by omega)]
theorem c55 (x:Nat) (w:World) (hx:x<18446744073709551616) (ht:Tabs w) (t q:Nat) (h:x=2^t*(2*q+1)):Calls Tryz.prog 55 #[.int .u64 (x:Int)] w fun e w'=>e=.returned (.int .i64 (t:Int))∧w'=w :=
 told (F55.call x w _ fun B=>(c88 x w hx ht t q h).mono fun e w' ⟨h1,h2⟩=>⟨_,h1,fun B1=>ret1 rfl rfl ⟨rfl,h2⟩⟩)
theorem c144 (x y:Sl) (X Y:Nat) (w:World) (hx:x.l≠0→x.a=some ⟨x.b,x.o,none⟩∧plainAt w x.b) (hy:y.l≠0→y.a=some ⟨y.b,y.o,none⟩∧plainAt w y.b) :
  Calls Tryz.prog 144 #[x.v,y.v] w fun e w'=>∃ v,e=.returned v∧∃ q:Bool,v=.bool q∧w'=w.drew∧(q=true↔(x.l=y.l∧x.l≠0∧x.b=y.b∧x.o=y.o)):=by
 refine F144.call x.a x.l x.c y.a y.l y.c w _ fun B=>bc_intro (fun hb=>bc_intro (fun hb'=>?_) (fun hb' B1=>ret1 rfl rfl ⟨false,rfl,rfl,?_⟩)) (fun hb B1=>ret1 rfl rfl ⟨false,rfl,rfl,?_⟩)
 ·have h1:x.l=y.l:=by have:=eqE hb; omega
  have h2:x.l≠0:=by have:=dT hb'; omega
  refine ⟨x.b,x.o,(hx h2).1,0,rfl,by omega,y.b,y.o,(hy (by omega)).1,0,rfl,by omega,_,ptrIs (z:=x) (x:=y) (hx h2).2 (hy (by omega)).2,fun B1=>ret1 rfl rfl ⟨_,rfl,rfl,?_⟩⟩
  simp [h1,h2]; omega
 ·have:=dF hb'; simp; omega
 ·have:=eqN hb; simp; omega
end Go.Proofs.YtlkjiiibmfpbcaaGreatDoor
namespace Go.Proofs.YtlkjiiibmfpbcaaGreatDoor
open Go
theorem quo64 (n:Nat) (h:n≤1099511627776):iQuo .u64 (n:Int) 64=((n/64:Nat):Int):=iQuoN n 64 (by omega)
theorem rem64 (n:Nat):iRem (n:Int) 64=((n%64:Nat):Int):=iRemN n 64
theorem BB2 (n:Nat):BB^n=2^(64*n):=by rw [show BB=2^64 from rfl,←Nat.pow_mul]
theorem c49 (x y:Sl) (w:World) (hx:x.c≠0→x.a=some ⟨x.b,x.o,none⟩∧plainAt w x.b) (hy:y.c≠0→y.a=some ⟨y.b,y.o,none⟩∧plainAt w y.b) (mx:x.c≤9223372036854775807) (my:y.c≤9223372036854775807) :
  Calls Tryz.prog 49 #[x.v,y.v] w fun e w'=>∃ v,e=.returned v∧∃ q:Bool,v=.bool q∧w'=w.drew∧(q=true↔(x.c≠0∧y.c≠0∧x.b=y.b∧x.o+x.c=y.o+y.c)):=by
 refine F49.call x.a x.l x.c y.a y.l y.c w _ fun B=>bc_intro (fun hb=>bc_intro (fun hb'=>?_) (fun hb' B1=>ret1 rfl rfl ⟨false,rfl,rfl,?_⟩)) (fun hb B1=>ret1 rfl rfl ⟨false,rfl,rfl,?_⟩)
 ·have h1:x.c≠0:=by have:=dT hb; omega
  have h2:y.c≠0:=by have:=dT hb'; omega
  refine ⟨0,x.c,rfl,rfl,Nat.zero_le _,Nat.le_refl _,by unfold inI64; omega,x.b,x.o,by rw [(hx h1).1]; exact shifted_zero ..,x.c-1,by omega,by omega,
   0,y.c,rfl,rfl,Nat.zero_le _,Nat.le_refl _,by unfold inI64; omega,y.b,y.o,by rw [(hy h2).1]; exact shifted_zero ..,y.c-1,by omega,by omega,_,
   ptrIs (z:=⟨none,0,0,x.b,x.o+(x.c-1)⟩) (x:=⟨none,0,0,y.b,y.o+(y.c-1)⟩) (hx h1).2 (hy h2).2,fun B1=>ret1 rfl rfl ⟨_,rfl,rfl,?_⟩⟩
  simp [h1,h2]; omega
 ·have:=dF hb'; simp; omega
 ·have:=dF hb; simp; omega
end Go.Proofs.YtlkjiiibmfpbcaaGreatDoor
namespace Go.Proofs.YtlkjiiibmfpbcaaGreatDoor
open Go
theorem clearW (t:TypeId) (ht:Tryz.prog.underlying t=some (.slice 61)) (z:Sl) (w:World) (hz:Wt w z) :
  ∃ w',Sem.run Tryz.prog (builtin .clear #[t] 0 #[false] #[z.v]) w=.ok (.value undef) w'∧Sg w' z.b z.o z.l 0∧Chg w w' (inR z.b z.o (z.o+z.l)):=by
 by_cases h0:z.l=0
 ·refine ⟨w,?_,by rw [h0]; exact Sg.zero,Chg.refl _ _⟩
  rw [BigFrame.builtin_clear]
  cases ha:z.a <;> simp [Sl.v,ha,h0,Builtin.clear_,run_underlying ht,undef]
 ·have:=Lib.run_clear_slice (P:=Tryz.prog) w t 61 0 (.int .u64 0) ht (fun w=>Tryz.zeroValue61 w) rfl rfl z.b z.o z.l z.c (by omega) (fun j hj=>by obtain ⟨u,hu⟩:=(hz.wr j hj).1; exact Option.isSome_iff_exists.2 ⟨u,hu⟩) (fun j hj=>(hz.wr j hj).2)
  refine ⟨_,?_,?_,Chg.setCells _ (List.replicate z.l (.int .u64 0)) z.o w (hz.pl h0) fun j hj=>by rw [List.length_replicate] at hj; exact ⟨rfl,by omega,by omega⟩⟩
  ·rw [BigFrame.builtin_clear]
   simp only [Sem.run_bind,Sl.v,hz.at_ h0,this]
   rfl
  ·intro i hi
   have:=World.cell?_setCells_in z.b (List.replicate z.l (.int .u64 0)) z.o w (fun j hj=>by rw [List.length_replicate] at hj; obtain ⟨u,hu⟩:=(hz.wr j hj).1; exact Option.isSome_iff_exists.2 ⟨u,hu⟩) i (by rw [List.length_replicate]; exact hi)
   rw [this,dg_zero]; simp
theorem Nt.same {w:World} {z x:Sl} {X:Nat} (hz:St w z) (hx:Nz w x X) (h:z.l=x.l∧z.l≠0∧z.b=x.b∧z.o=x.o):Nz w (z.to z.l) X:=by
 refine ⟨⟨hz.to_st z.l hz.lc,?_,?_⟩,hx.nm.of_len h.1⟩
 ·show Sg w z.b z.o z.l X
  rw [h.1,h.2.2.1,h.2.2.2]; exact hx.sg
 ·show X<BB^z.l
  rw [h.1]; exact hx.lt
theorem St.pp {w:World} {s:Sl} (h:St w s):(s.l≠0→s.a=some ⟨s.b,s.o,none⟩∧plainAt w s.b):=fun h0=>⟨h.at_ (by have:=h.lc; omega),(h.pl (by have:=h.lc; omega)).2⟩
theorem St.pc {w:World} {s:Sl} (h:St w s):(s.c≠0→s.a=some ⟨s.b,s.o,none⟩∧plainAt w s.b):=fun h0=>⟨h.at_ h0,(h.pl h0).2⟩
theorem c109p (z x:Sl) (X s:Nat) (w w0:World) (h0:Chg w0 w none2) (hz:St w z) (hx:Nz w x X) (sx:Sep z x) (hl:Len x) (hs:s≤1099511627776) (e:Env) (ha:agree e (F109.l1 z.a z.l z.c x.a x.l x.c s)) (hd:e.defers=[]) :
  W Tryz.prog 57 F109.p1 e w (retK Tryz.prog [.tmp 6] (Res w0 z (X/2^s))):=by
 have hl':=hl
 unfold Len at hl'
 have hxc:=hx.lc
 refine F109.t1 z.a z.l z.c x.a x.l x.c s ha fun B=>?_
 unfold F109.v1
 rw [quo64 s hs,rem64,wrapIN _ (by omega)]
 refine ⟨by omega,by unfold inI64; omega,bc_intro (fun hb=>?_) (fun hb=>?_)⟩
 ·have hle:x.l≤s/64:=by have:=dT hb; omega
  have hX:X/2^s=0:=by
   refine Nat.div_eq_of_lt (Nat.lt_of_lt_of_le hx.lt ?_)
   rw [BB2]; exact Nat.pow_le_pow_right (by omega) (by omega)
  rw [hX]
  exact ⟨0,rfl,Nat.zero_le _,fun B2=>ret1 hd rfl (Res.of (nz_zero hz) (From.self w0 z 0) (h0.none _))⟩
 ·have hgt:s/64<x.l:=by have:=dF hb; omega
  have e1:((x.l:Int)-((s/64:Nat):Int))=((x.l-s/64:Nat):Int):=by omega
  rw [e1]
  refine (c73 z (x.l-s/64) w hz (by omega)).mono ?_
  rintro e' w1 ⟨_,rfl,r,rfl,hrl,hr,hf,hc⟩
  have hf0:=hf.later h0
  have hrc:=hr.lc
  have hx1:=hc.nz_none hx
  have hxh:=hx1.toNt.hi (s/64) (by omega)
  have elen:(x.sub (s/64) x.l).l=r.l:=by rw [hrl]; rfl
  have e2:2^s=BB^(s/64)*2^(s%64):=by rw [BB2,←Nat.pow_add]; exact congrArg (fun k=>2^k) (show s=64*(s/64)+s%64 by omega)
  have hV:X/2^s=X/BB^(s/64)/2^(s%64):=by rw [e2,Nat.div_div_eq_div_mul]
  have hlt:X/2^s<BB^r.l:=by
   rw [hV]
   exact Nat.lt_of_le_of_lt (Nat.div_le_self _ _) (by rw [←elen]; exact hxh.lt)
  refine ⟨_,_,_,rfl,by omega,bc_intro (fun hb=>⟨by unfold inI64; omega,s/64,by omega,by omega,?_⟩) (fun hb=>⟨by unfold inI64; omega,s/64,by omega,by omega,?_⟩)⟩
  ·have h64:s%64=0:=by have:=eqE hb; omega
   obtain ⟨w',r1,r2,r3⟩:=copyT 45 Tryz.underlying45 r (x.sub (s/64) x.l) r.l (by omega) (X/BB^(s/64)) w1 hr.wt ⟨fun h=>hxh.at_ (by rw [elen]; exact h),by rw [←elen]; exact hxh.sg,by rw [←elen]; exact hxh.lt⟩
   refine ⟨w',_,r1,fun B2=>F109.t2 r.a r.l r.c ⟨rfl,trivial⟩ fun B3=>?_⟩
   rw [h64,Nat.pow_zero,Nat.div_one] at hV
   refine normR (w:=w0) (z:=z) (r:=r) (V:=X/2^s) { r3.st hr with sg:=by rw [hV]; exact r2,lt:=hlt } hf0 (hf0.chg ((h0.trans' hc).none _) r3 (Nat.le_refl _) (by omega)) fun k hres=>⟨_,_,_,rfl,fun B6=>ret1 hd rfl hres⟩
  ·refine Vec.pass (c147 r (x.sub (s/64) x.l) (X/BB^(s/64)) (s%64) w1 hr.wt hxh elen ?_ (by omega)) ?_
   ·unfold Ov
    show x.l-s/64=0∨x.b≠r.b∨r.o≤x.o+s/64∨x.o+s/64+(x.l-s/64)≤r.o
    have:=hx.toNt.blk (by omega)
    rcases hf with ⟨_,e2,e3,e4⟩ | hf
    ·unfold Sep at sx; omega
    ·omega
   ·rintro c Z w2 t1 hZ hsg hch
    subst t1
    refine ⟨_,rfl,fun B2=>F109.t2 r.a r.l r.c ⟨rfl,trivial⟩ fun B3=>?_⟩
    refine normR (w:=w0) (z:=z) (r:=r) (V:=X/2^s) { hch.st hr with sg:=by rw [hV]; exact hsg,lt:=hlt } hf0 (hf0.chg ((h0.trans' hc).none _) hch (Nat.le_refl _) (by omega)) fun k hres=>⟨_,_,_,rfl,fun B6=>ret1 hd rfl hres⟩
theorem c109 (z x:Sl) (X s:Nat) (w:World) (hz:St w z) (hx:Nz w x X) (sx:Sep z x) (hl:Len x) (hs:s≤1099511627776) :
  Calls Tryz.prog 109 #[z.v,x.v,.int .u64 (s:Int)] w (ResE w z (X/2^s)):=by
 refine F109.call z.a z.l z.c x.a x.l x.c s w _ fun B=>bc_intro (fun hb=>?_) (fun hb B1=>c109p z x X s w w (Chg.refl _ _) hz hx sx hl hs _ ⟨rfl,rfl,rfl,trivial⟩ rfl)
 have h0:s=0:=by have:=eqE hb; omega
 subst h0
 refine (c144 z x 0 0 w hz.pp hx.pp).mono ?_
 rintro e w1 ⟨_,rfl,q,rfl,rfl,hq⟩
 refine ⟨_,rfl,bc_intro (fun h=>fun B1=>?_) (fun h=>?_)⟩
 ·have hs:=Nt.same hz hx (hq.1 h)
  have:=(Chg.drew0 w none2).nz_none hs
  refine ret1 rfl rfl (Res.of (r:=z.to z.l) (by simpa using this) (From.self w z z.l) (Chg.drew0 w _))
 ·have cd:Chg w w.drew none2:=Chg.drew0 w _
  have hz1:=cd.st hz
  have hx1:=cd.nz_none hx
  refine (c49 z x w.drew hz1.pc hx1.pc hz.cm hx.cm).mono ?_
  rintro e w1 ⟨_,rfl,q2,rfl,rfl,hq2⟩
  have cd2:Chg w w.drew.drew none2:=cd.drew
  refine ⟨_,rfl,bc_intro (fun h2=>?_) (fun h2 B1=>c109p z x X 0 w.drew.drew w cd2 (cd2.st hz) (cd2.nz_none hx) sx hl hs _ ⟨rfl,rfl,rfl,trivial⟩ rfl)⟩
  refine ResE.pass (c60 z x X w.drew.drew (cd2.st hz) (cd2.nz_none hx) hl) fun r w' h1 h2 h3=>⟨_,_,_,rfl,fun B2=>ret1 rfl rfl (Res.of (by simpa using h1) (h2.later cd2) ((cd2.none _).trans' h3))⟩
end Go.Proofs.YtlkjiiibmfpbcaaGreatDoor
namespace Go.Proofs.YtlkjiiibmfpbcaaGreatDoor
open Go
end Go.Proofs.YtlkjiiibmfpbcaaGreatDoor
namespace Go.Proofs.YtlkjiiibmfpbcaaGreatDoor
open Go
theorem info61z:(Tryz.prog.info? 61).map (fun i=>(i.size,i.zero))=some (1,some (.int .u64 0)):=by kernel_rfl
theorem blen_or (x y:Nat) (h:blen y≤blen x):blen (x ||| y)=blen x:=by
 refine blen_eq (Nat.or_lt_two_pow (blen_lt x) (Nat.lt_of_lt_of_le (blen_lt y) (Nat.pow_le_pow_right (by omega) h))) (fun h0=>?_) (fun h0=>?_)
 ·have hx:x≠0:=by
   rintro rfl
   rw [blen_zero] at h
   have:y=0:=by have:=blen_lt y; rw [show blen y=0 by omega] at this; simpa using this
   subst this
   exact h0 (by simp)
  exact Nat.le_trans (blen_le x hx) Nat.left_le_or
 ·have:x=0:=by have:=@Nat.left_le_or x y; omega
  rw [this,blen_zero]
theorem blen_mono {x y:Nat} (h:x≤y):blen x≤blen y:=blen_le_of_lt (Nat.lt_of_le_of_lt h (blen_lt y))
theorem smear (x n:Nat) (hn:n≤64) (hx:x<18446744073709551616):∃ y,iOr .u64 (x:Int) (iShr .u64 (x:Int) (n:Int))=((y:Nat):Int)∧y<18446744073709551616∧blen y=blen x:=by
 have h1:x/2^n<18446744073709551616:=Nat.lt_of_le_of_lt (Nat.div_le_self _ _) hx
 refine ⟨x ||| x/2^n,?_,Nat.or_lt_two_pow (n:=64) hx h1,blen_or _ _ (blen_mono (Nat.div_le_self _ _))⟩
 rw [shr64 _ _ hn,iOrN _ _ hx h1]
theorem blen_top {X n:Nat} (h:BB^n≤X):blen X=n*64+blen (X/BB^n):=by
 rw [BB2] at h ⊢
 rw [blen_shift X (64*n) h]; omega
theorem blen_le64 (x:Nat) (h:x<18446744073709551616):blen x≤64:=blen_le_of_lt (n:=64) h
theorem dg_top {X n:Nat} (h:X<BB^(n+1)):dg X n=X/BB^n:=Nat.mod_eq_of_lt (by rw [Nat.div_lt_iff_lt_mul (BBpow_pos n),Nat.mul_comm,←BBpow_succ]; exact h)
theorem c53 (x:Sl) (X:Nat) (w:World) (hx:Nz w x X) (hl:Len x):Calls Tryz.prog 53 #[x.v] w fun e w'=>∃ v,e=.returned v∧v=.int .i64 (blen X:Int)∧w'=w:=by
 unfold Len at hl
 refine F53.call x.a x.l x.c w _ fun B=>⟨by unfold inI64; omega,bc_intro (fun hb=>?_) (fun hb B1=>?_)⟩
 ·obtain ⟨n,hn⟩:∃ n,x.l=n+1:=⟨x.l-1,by have:=dT hb; omega⟩
  have hd:=dg_lt' X n
  have hX:X<BB^(n+1):=by rw [←hn]; exact hx.lt
  refine rdC (k:=n) (hx.at_ (by have:=hx.lc; omega)) (by omega) (by omega) (hx.sg n (by omega)) ⟨by omega,by omega,by omega,by omega,by omega,by omega,by omega,by unfold inI64; omega,?_⟩
  obtain ⟨y1,e1,h1,b1⟩:=smear (dg X n) 1 (by omega) hd
  obtain ⟨y2,e2,h2,b2⟩:=smear y1 2 (by omega) h1
  obtain ⟨y3,e3,h3,b3⟩:=smear y2 4 (by omega) h2
  obtain ⟨y4,e4,h4,b4⟩:=smear y3 8 (by omega) h3
  obtain ⟨y5,e5,h5,b5⟩:=smear y4 16 (by omega) h4
  have e6:iOr .u64 (y5:Int) (iShr .u64 (iShr .u64 (y5:Int) ((16:Nat):Int)) ((16:Nat):Int))=((y5 ||| y5/2^16/2^16:Nat):Int):=by
   rw [shr64 _ _ (by omega),shr64 _ _ (by omega),iOrN _ _ h5 (Nat.lt_of_le_of_lt (Nat.le_trans (Nat.div_le_self _ _) (Nat.div_le_self _ _)) h5)]
  have b6:blen (y5 ||| y5/2^16/2^16)=blen y5:=blen_or _ _ (blen_mono (Nat.le_trans (Nat.div_le_self _ _) (Nat.div_le_self _ _)))
  have h6:(y5 ||| y5/2^16/2^16)<18446744073709551616:=Nat.or_lt_two_pow (n:=64) h5 (Nat.lt_of_le_of_lt (Nat.le_trans (Nat.div_le_self _ _) (Nat.div_le_self _ _)) h5)
  have e1:iOr .u64 (dg X n:Int) (iShr .u64 (dg X n:Int) 1)=(y1:Int):=e1
  have e2:iOr .u64 (y1:Int) (iShr .u64 (y1:Int) 2)=(y2:Int):=e2
  have e3:iOr .u64 (y2:Int) (iShr .u64 (y2:Int) 4)=(y3:Int):=e3
  have e4:iOr .u64 (y3:Int) (iShr .u64 (y3:Int) 8)=(y4:Int):=e4
  have e5:iOr .u64 (y4:Int) (iShr .u64 (y4:Int) 16)=(y5:Int):=e5
  have e6:iOr .u64 (y5:Int) (iShr .u64 (iShr .u64 (y5:Int) 16) 16)=((y5 ||| y5/2^16/2^16:Nat):Int):=e6
  rw [e1,e2,e3,e4,e5,e6]
  refine (c84 _ h6 w).mono ?_
  rintro e w' ⟨rfl,rfl⟩
  have hb6:blen (y5 ||| y5/2^16/2^16)=blen (dg X n):=by rw [b6,b5,b4,b3,b2,b1]
  have hle:=blen_le64 _ hd
  have hbx:blen X=n*64+blen (dg X n):=by
   rw [dg_top hX]; refine blen_top ?_
   have:=hx.nm.le (by omega)
   rw [hn] at this; exact this
  rw [hb6]
  refine ⟨_,rfl,by unfold inI64; omega,fun B2=>ret1 rfl (intv ?_) ⟨rfl,rfl⟩⟩
  rw [hbx]; omega
 ·have:X=0:=Nz.zero hx.toNt (by have:=dF hb; omega)
  subst this
  exact ret1 rfl rfl ⟨by rw [blen_zero]; rfl,rfl⟩
end Go.Proofs.YtlkjiiibmfpbcaaGreatDoor
namespace Go.Proofs.YtlkjiiibmfpbcaaGreatDoor
open Go
def KI (y1 y0 u q r:Nat) (U:Nat):Prop:=q*y1+r=u∧U/(y1*4294967296+y0)≤q∧q≤4294967297∧r<4294967296
theorem knuth0 {y1 y0 u u0:Nat} (hy:2147483648≤y1) (hy1:y1<4294967296) (h0:y0<4294967296) (hu:u<y1*4294967296+y0) (hu0:u0<4294967296):KI y1 y0 u (u/y1) (u%y1) (u*4294967296+u0):=by
 have hm:=Nat.mod_lt u (show 0<y1 by omega)
 refine ⟨by rw [Nat.mul_comm]; exact Nat.div_add_mod u y1,?_,?_,by omega⟩
 ·have h1:(u*4294967296+u0)/(y1*4294967296+y0)≤(u*4294967296+u0)/(y1*4294967296):=Nat.div_le_div_left (by omega) (by omega)
  have h2:(u*4294967296+u0)/(y1*4294967296)=u/y1:=by
   rw [Nat.mul_comm y1,←Nat.div_div_eq_div_mul]
   congr 1; omega
  omega
 ·have:u/y1<4294967298:=by
   rw [Nat.div_lt_iff_lt_mul (by omega)]; omega
  omega
theorem knuth_q {y1 y0 u u0:Nat} (hy:2147483648≤y1) (hu:u<y1*4294967296+y0) (hu0:u0<4294967296):(u*4294967296+u0)/(y1*4294967296+y0)<4294967296:=by
 rw [Nat.div_lt_iff_lt_mul (by omega)]
 have:(u+1)*4294967296≤(y1*4294967296+y0)*4294967296:=Nat.mul_le_mul_right _ hu
 omega
theorem knuth_down {y1 y0 u u0 q r:Nat} (hy:2147483648≤y1) (hy1:y1<4294967296) (h:KI y1 y0 u q r (u*4294967296+u0)) (hu:u<y1*4294967296+y0) (hu0:u0<4294967296)
  (hc:4294967296≤q∨4294967296*r+u0<q*y0):0<q∧(q-1)*y1+(r+y1)=u∧(u*4294967296+u0)/(y1*4294967296+y0)≤q-1∧q-1≤4294967296:=by
 obtain ⟨h1,h2,h3,h4⟩:=h
 have hq:=knuth_q hy hu hu0
 have hlt:(u*4294967296+u0)/(y1*4294967296+y0)<q:=by
  rcases hc with hc | hc
  ·omega
  ·rw [Nat.div_lt_iff_lt_mul (by omega),Nat.mul_add,←Nat.mul_assoc,←h1]
   omega
 have h0:0<q:=Nat.lt_of_le_of_lt (Nat.zero_le _) hlt
 refine ⟨h0,?_,by omega,by omega⟩
 obtain ⟨p,rfl⟩:∃ p,q=p+1:=⟨q-1,by omega⟩
 rw [Nat.add_mul,Nat.one_mul] at h1
 rw [Nat.add_sub_cancel]; omega
theorem knuth_end {y1 y0 u u0 q r:Nat} (hy:2147483648≤y1) (h1:q*y1+r=u) (h2:(u*4294967296+u0)/(y1*4294967296+y0)≤q) (hc:q*y0≤4294967296*r+u0) :
  q=(u*4294967296+u0)/(y1*4294967296+y0):=by
 refine Nat.le_antisymm ?_ h2
 rw [Nat.le_div_iff_mul_le (by omega),Nat.mul_add,←Nat.mul_assoc,←h1,Nat.add_mul]
 omega
theorem knuth_brk {y0 q r u0:Nat} (h0:y0<4294967296) (hq:q≤4294967296) (hr:4294967296≤r):q*y0≤4294967296*r+u0:=by
 have h1:q*y0≤4294967296*y0:=Nat.mul_le_mul_right _ hq
 omega
def Told2 (f:FuncId) (args:Array Value) (v:Value):Prop:=∀ w,Calls Tryz.prog f args w fun e w'=>e=.returned v∧Chg w w' none2
theorem told2 {f:FuncId} {args:Array Value} {w:World} {v:Value} (h:Calls Tryz.prog f args w fun x w'=>∃ u,x=.returned u∧(u=v∧Chg w w' none2)) :
  Calls Tryz.prog f args w fun e w'=>e=.returned v∧Chg w w' none2 :=
 h.mono fun _ _ ⟨_,hx,hu,hw⟩=>⟨by rw [hx,hu],hw⟩
theorem or_shift (a b s:Nat) (h:b<2^s):a*2^s ||| b=a*2^s+b:=by
 have:=Nat.shiftLeft_add_eq_or_of_lt h a
 rw [Nat.shiftLeft_eq] at this; exact this.symm
theorem shift2 (hi lo s:Nat) (hs:s<64) (hl:lo<18446744073709551616) (hh:hi*2^s+lo/2^(64-s)<18446744073709551616) :
  iOr .u64 (iShl .u64 (hi:Int) (s:Int)) (iShr .u64 (lo:Int) ((64-s:Nat):Int))=((hi*2^s+lo/2^(64-s):Nat):Int):=by
 have h1:lo/2^(64-s)<2^s:=by
  rw [Nat.div_lt_iff_lt_mul (Nat.two_pow_pos _),←Nat.pow_add,show s+(64-s)=64 by omega]; exact hl
 rw [shl64 _ _ (by omega),shr64 _ _ (by omega),iOrN _ _ (Nat.mod_lt _ (by omega)) (Nat.lt_of_le_of_lt (Nat.le_add_left _ _) hh),Nat.mod_eq_of_lt (Nat.lt_of_le_of_lt (Nat.le_add_right _ _) hh),or_shift _ _ _ h1]
theorem shift2_eq (hi lo s:Nat) (hs:s<64):(hi*2^s+lo/2^(64-s))*18446744073709551616+lo*2^s%18446744073709551616=(hi*18446744073709551616+lo)*2^s:=by
 have e:2^(64-s)*2^s=18446744073709551616:=by rw [←Nat.pow_add,show 64-s+s=64 by omega]
 have h2:=Nat.mod_add_div lo (2^(64-s))
 have h1:lo*2^s%(2^(64-s)*2^s)=lo%2^(64-s)*2^s:=Nat.mul_mod_mul_right ..
 rw [e] at h1
 rw [h1]
 generalize 2^(64-s)=P at *
 generalize 2^s=Q at *
 have h3:lo*Q=lo%P*Q+P*Q*(lo/P):=by
  have:=congrArg (·*Q) h2
  simp only [Nat.add_mul] at this
  rw [←this,Nat.mul_right_comm]
 rw [e] at h3
 have h4:hi*Q*18446744073709551616=hi*18446744073709551616*Q:=Nat.mul_right_comm ..
 rw [Nat.add_mul,Nat.add_mul,h4,h3]
 omega
theorem scale (y:Nat) (hy:y≠0) (h:y<18446744073709551616):y*2^(64-blen y)<18446744073709551616∧9223372036854775808≤y*2^(64-blen y):=by
 have hb:=blen_le64 y h
 have h1:=blen_lt y
 have h2:=blen_le y hy
 have hb0:blen y≠0:=fun h0=>by rw [h0] at h1; simp at h1; omega
 constructor
 ·have:=Nat.mul_lt_mul_of_pos_right h1 (Nat.two_pow_pos (64-blen y))
  rw [←Nat.pow_add,show blen y+(64-blen y)=64 by omega] at this
  exact this
 ·have:=Nat.mul_le_mul_right (2^(64-blen y)) h2
  rw [←Nat.pow_add,show blen y-1+(64-blen y)=63 by omega] at this
  exact this
theorem hi_fits {hi lo y s:Nat} (hs:s<64) (hl:lo<18446744073709551616) (hh:hi<y):hi*2^s+lo/2^(64-s)<y*2^s:=by
 have h1:lo/2^(64-s)<2^s:=by
  rw [Nat.div_lt_iff_lt_mul (Nat.two_pow_pos _),←Nat.pow_add,show s+(64-s)=64 by omega]; exact hl
 have:(hi+1)*2^s≤y*2^s:=Nat.mul_le_mul_right _ hh
 rw [Nat.add_mul,Nat.one_mul] at this
 omega
end Go.Proofs.YtlkjiiibmfpbcaaGreatDoor
