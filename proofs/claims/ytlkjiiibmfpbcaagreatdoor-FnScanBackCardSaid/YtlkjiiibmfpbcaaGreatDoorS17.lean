/- Contracts: a number times a word; products of numbers with few words. Conditions: one factor has fewer than 40 words; a factor is apart from the storage, or has it for its own. -/
import Derived.Test.YtlkjiiibmfpbcaaGreatDoorS16
namespace Go.Proofs.YtlkjiiibmfpbcaaGreatDoor
open Go
def Al (z x:Sl):Prop:=z.c=0∨x.l=0∨x.b≠z.b∨z.o+z.c≤x.o∨x.o+x.l≤z.o∨(x.o=z.o∧x.c=z.c)
theorem Al.sep {z x:Sl} (h:Al z x):Sep z x:=by unfold Al at h; unfold Sep; omega
theorem Al.apart {z x:Sl} (h:Al z x) (hl:x.l≤x.c) (hq:¬(z.c≠0∧x.c≠0∧z.b=x.b∧z.o+z.c=x.o+x.c)):Apart z x:=by unfold Al at h; unfold Apart; omega
theorem Apart.al {z x:Sl} (h:Apart z x):Al z x:=by unfold Apart at h; unfold Al; omega
theorem Apart.dis {w:World} {z r x:Sl} {X n:Nat} (h:Apart z x) (hf:From w z r) (hx:Nt w x X) (hn:n≤r.c) (hn0:n≠0):Dis r n x:=by
 unfold Dis
 by_cases h0:x.l=0
 ·exact .inl h0
 ·have:=hx.blk h0
  rcases hf with ⟨_,e2,e3,e4⟩ | hf
  ·unfold Apart at h; omega
  ·omega
theorem Al.from_ {w:World} {z r x:Sl} {X:Nat} (h:Al z x) (hf:From w z r) (hx:Nt w x X):Al r x:=by
 unfold Al
 by_cases h0:x.l=0
 ·exact .inr (.inl h0)
 ·have:=hx.blk h0
  rcases hf with ⟨_,e2,e3,e4⟩ | hf
  ·unfold Al at h; omega
  ·omega
def nilS (w:World):Sl:=⟨none,0,0,w.heap.size,0⟩
theorem nilSt (w:World) (hg:GB≤w.heap.size):St w (nilS w):=⟨Nat.le_refl _,fun h=>absurd rfl h,Wr.zero,fun h=>absurd rfl h,Nat.zero_le _,hg⟩
theorem nilFrom {w:World} {z r:Sl} (h:From w (nilS w) r):From w z r:=.inr (by
 rcases h with ⟨_,_,e,_⟩ | h
 ·exact Nat.le_of_eq e.symm
 ·exact h)
theorem nilChg {w w':World} {w0:World} {S:Set2} (h:Chg w w' (fp (nilS w0))):Chg w w' S:=h.mono fun b i _ hm=>by
 have h1:0≤i:=hm.2.1
 have h2:i<0+0:=hm.2.2
 omega
theorem nilRes {w w':World} {z:Sl} {V:Nat} {v:Value} (h:Res w (nilS w) V v w'):Res w z V v w':=by
 obtain ⟨r,h1,h2,h3,h4⟩:=h
 exact ⟨r,h1,h2,nilFrom h3,nilChg h4⟩
theorem nilApart (w:World) (x:Sl):Apart (nilS w) x:=.inl rfl
theorem c117t (z x:Sl) (X y r:Nat) (w:World) (hz:St w z) (hx:Nt w x X) (sx:Sep z x) (hl:Len x) (hy:y<18446744073709551616) (hr:r<18446744073709551616) :
  Calls Tryz.prog 117 #[z.v,x.v,.int .u64 (y:Int),.int .u64 (r:Int)] w (ResE w z (X*y+r)):=by
 have hl':=hl
 unfold Len at hl'
 refine F117.call z.a z.l z.c x.a x.l x.c y r w _ fun B=>bc_intro (fun hb=>?_) (fun hb=>bc_intro (fun hb'=>?_) (fun hb'=>?_))
 ·have hX:X=0:=Nz.zero hx (by have:=eqE hb; omega)
  subst hX
  rw [Nat.zero_mul,Nat.zero_add]
  exact ResE.pass (c71 z r w hz hr) fun r' w' h1 h2 h3=>⟨_,_,_,rfl,fun B2=>ret1 rfl rfl (Res.of h1 h2 h3)⟩
 ·have hy0:y=0:=by have:=eqE hb'; omega
  subst hy0
  rw [Nat.mul_zero,Nat.zero_add]
  exact ResE.pass (c71 z r w hz hr) fun r' w' h1 h2 h3=>⟨_,_,_,rfl,fun B2=>ret1 rfl rfl (Res.of h1 h2 h3)⟩
 ·have hx0:x.l≠0:=by have:=eqN hb; omega
  refine ⟨by unfold inI64; omega,(c73 z (x.l+1) w hz (by omega)).mono ?_⟩
  rintro e w1 ⟨_,rfl,q,rfl,hql,hq,hf,hc⟩
  have hqc:=hq.lc
  have hx1:=hc.nt_none hx
  have elen:(q.sub 0 x.l).l=x.l:=rfl
  refine ⟨_,_,_,rfl,0,x.l,rfl,rfl,by omega,by omega,Vec.pass (c91 (q.sub 0 x.l) x X y r w1 (hq.sub_wt _ _ (by omega) (by omega)) hx1.rd rfl ?_ hy hr) ?_⟩
  ·unfold Ov
   show x.l=0∨x.b≠q.b∨q.o+0≤x.o∨x.o+x.l≤q.o+0
   have:=hx.blk hx0
   rcases hf with ⟨_,e2,e3,e4⟩ | hf
   ·unfold Sep at sx; omega
   ·omega
  rintro c Z w2 ⟨t1,t2⟩ hZ hsg hch
  have hZ:Z<BB^x.l:=hZ
  have t1:Z+BB^x.l*c=X*y+r:=t1
  have hsg:Sg w2 q.b (q.o+0) x.l Z:=hsg
  have hch:Chg w1 w2 (inR q.b (q.o+0) (q.o+0+x.l)):=hch
  rw [Nat.add_zero] at hsg hch
  have hq2:=hch.st hq
  refine ⟨_,rfl,wtC (k:=x.l) hq2.wt rfl (by omega) ?_⟩
  have hp:=hq2.pl (by omega)
  have hs4:=hsg.step hZ (d:=c) (w2:=w2) (by rw [BB_eq]; exact t2) rfl hp (hq2.wr x.l (by omega)).1
  have hc4:Chg w2 (w2.setCell ⟨q.b,q.o+x.l,none⟩ (.int .u64 (c:Int))) (inR q.b (q.o+x.l) (q.o+x.l+1)):=Chg.setCell hp _ ⟨rfl,by omega,by omega⟩
  rw [t1] at hs4
  refine normR (w:=w) (z:=z) (r:=q) (V:=X*y+r) { hc4.st hq2 with sg:=by rw [hql]; exact hs4,lt:=by rw [hql,←t1]; exact dlt hZ t2 } hf (hf.chg (hf.chg (hc.none _) hch (Nat.le_refl _) (by omega)) hc4 (by omega) (by omega)) fun k hres=>⟨_,_,_,rfl,fun B6=>ret1 rfl rfl hres⟩
theorem prod_lt {X Y n m:Nat} (hX:X<BB^n) (hY:Y<BB^m):X*Y<BB^(n+m):=by
 rw [Nat.pow_add]
 rcases Nat.eq_zero_or_pos X with h | h
 ·subst h; rw [Nat.zero_mul]; exact Nat.mul_pos (BBpow_pos n) (BBpow_pos m)
 ·exact Nat.mul_lt_mul_of_lt_of_le hX (Nat.le_of_lt hY) (BBpow_pos m)
theorem f80t (z x y:Sl) (X Y:Nat) (stk:Option Addr) (w w0:World) (h0:Chg w0 w none2) (hz:St w z) (hx:Nt w x X) (hy:Nt w y Y) (ax:Apart z x) (ay:Apart z y) (lx:Len x) (ly:y.l<40) (ly0:y.l≠0) (hg:Glb w) (e:Env) (he:e.defers=[]) (R:Value→World→Prop) (hR:∀ v w',Res w0 z (X*Y) v w'→R v w')
  (ha:agree e (F80.l1 z.a z.l z.c stk x.a x.l x.c y.a y.l y.c x.l y.l)):W Tryz.prog 121 F80.p1 e w (retK Tryz.prog [.tmp 8] R):=by
 unfold Len at lx
 refine F80.t1 z.a z.l z.c stk x.a x.l x.c y.a y.l y.c x.l y.l ha fun B=>⟨by unfold inI64; omega,(c73 z (x.l+y.l) w hz (by omega)).mono ?_⟩
 rintro e' w1 ⟨_,rfl,r,rfl,hrl,hr,hf,hc⟩
 have hrc:=hr.lc
 have hx1:=(hc.nt_none hx).rd
 have hy1:=(hc.nt_none hy).rd
 refine ⟨_,_,_,rfl,_,(hc.glb hg).t5,bc_true (decT (by omega)) ((c114 r x y X Y w1 hr hx1 hy1 (by omega) (by omega) (ax.dis hf hx (by omega) (by omega)) (ay.dis hf hy (by omega) (by omega))).mono ?_)⟩
 rintro e' w2 ⟨rfl,hsg,hch⟩
 refine ⟨rfl,normR (w:=w0) (z:=z) (r:=r) (V:=X*Y) { hch.st hr with sg:=by rw [hrl]; exact hsg,lt:=by rw [hrl]; exact prod_lt hx.lt hy.lt } (hf.later h0) ((hf.later h0).chg ((h0.trans' hc).none _) hch (Nat.le_refl _) (by omega)) fun k hres=>⟨_,_,_,rfl,fun B6=>ret1 he rfl (hR _ _ hres)⟩⟩
theorem c80u (z x y:Sl) (X Y:Nat) (stk:Option Addr) (w:World) (hz:St w z) (hx:Nt w x X) (hy:Nt w y Y) (ax:Al z x) (ay:Al z y) (lx:Len x) (ly:y.l<40) (hyx:y.l≤x.l) (hg:Glb w) :
  Calls Tryz.prog 80 #[z.v,.pointer stk,x.v,y.v] w (ResE w z (X*Y)):=by
 have lx':=lx
 unfold Len at lx'
 refine F80.call z.a z.l z.c stk x.a x.l x.c y.a y.l y.c w _ fun B=>bc_false (decF (by omega)) (bc_intro (fun hb=>?_) (fun hb=>bc_intro (fun hb1=>?_) (fun hb1=>bc_intro (fun hb2=>?_) (fun hb2=>?_))))
 ·have hX:X=0:=Nz.zero hx (by have:=eqE hb; omega)
  subst hX
  rw [Nat.zero_mul]
  exact ⟨0,rfl,Nat.zero_le _,fun B2=>ret1 rfl rfl (Res.of (nz_zero hz) (From.self w z 0) (Chg.refl _ _))⟩
 ·have hY:Y=0:=Nz.zero hy (by have:=eqE hb1; omega)
  subst hY
  rw [Nat.mul_zero]
  exact ⟨0,rfl,Nat.zero_le _,fun B2=>ret1 rfl rfl (Res.of (nz_zero hz) (From.self w z 0) (Chg.refl _ _))⟩
 ·have hy1:y.l=1:=by have:=eqE hb2; omega
  have hY:Y=dg Y 0:=(dg_self Y (by have:=hy.lt; rw [hy1] at this; simpa using this)).symm
  refine rdC (k:=0) (hy.at_ (by have:=hy.lc; omega)) rfl (by omega) (hy.sg 0 (by omega)) ?_
  have:=c117t z x X (dg Y 0) 0 w hz hx ax.sep lx (dg_lt' Y 0) (by omega)
  rw [←hY,Nat.add_zero] at this
  rw [←hY]
  exact ResE.pass this fun r w' h1 h2 h3=>⟨_,_,_,rfl,fun B2=>ret1 rfl rfl (Res.of h1 h2 h3)⟩
 ·refine (c49 z x w hz.pc hx.toSt.pc hz.cm hx.cm).mono ?_
  rintro e w1 ⟨_,rfl,q,rfl,rfl,hq⟩
  have cd:Chg w w.drew none2:=Chg.drew0 w _
  have nilcase:∀ (w1:World) (B3:Nat→Value) (ds:List Deferred),ds=[]→Chg w w1 none2→w1.heap=w.heap →
    W Tryz.prog 121 F80.p1 (E [(0,(.slice none 0 0)),(1,(.pointer stk)),(2,(.slice x.a x.l x.c)),(3,(.slice y.a y.l y.c)),(9,(.int .i64 ((x.l:Nat):Int))),(10,(.int .i64 ((y.l:Nat):Int)))] B3 ds) w1 (retK Tryz.prog [.tmp 8] (Res w z (X*Y))):=by
   intro w1 B3 ds hds hc hh
   subst hds
   have hst:St w1 (nilS w):=hc.st (nilSt w hz.gb)
   exact f80t (nilS w) x y X Y stk w1 w hc hst (hc.nt_none hx) (hc.nt_none hy) (nilApart _ _) (nilApart _ _) lx ly (by have:=eqN hb1; omega) (hc.glb hg) _ rfl _ (fun v w' h=>nilRes h) ⟨rfl,rfl,rfl,rfl,rfl,rfl,trivial⟩
  refine ⟨_,rfl,bc_intro (fun h B3=>nilcase _ B3 _ rfl cd rfl) (fun h=>(c49 z y w.drew (cd.st hz).pc (cd.nt_none hy).toSt.pc hz.cm hy.cm).mono ?_)⟩
  rintro e w1 ⟨_,rfl,q2,rfl,rfl,hq2⟩
  have cd2:=cd.drew
  refine ⟨_,rfl,bc_intro (fun h2 B3=>nilcase _ B3 _ rfl cd2 rfl) (fun h2 B3=>?_)⟩
  exact f80t z x y X Y stk w.drew.drew w cd2 (cd2.st hz) (cd2.nt_none hx) (cd2.nt_none hy) (ax.apart hx.lc fun hh=>by simp [hq.2 hh] at h) (ay.apart hy.lc fun hh=>by simp [hq2.2 hh] at h2) lx ly (by have:=eqN hb1; omega) (cd2.glb hg) _ rfl _ (fun _ _ h=>h) ⟨rfl,rfl,rfl,rfl,rfl,rfl,trivial⟩
theorem c80t (z x y:Sl) (X Y:Nat) (stk:Option Addr) (w:World) (hz:St w z) (hx:Nt w x X) (hy:Nt w y Y) (ax:Al z x) (ay:Al z y) (lx:Len x) (ly:Len y) (hs:x.l<40∨y.l<40) (hg:Glb w) :
  Calls Tryz.prog 80 #[z.v,.pointer stk,x.v,y.v] w (ResE w z (X*Y)):=by
 by_cases h:y.l≤x.l
 ·exact c80u z x y X Y stk w hz hx hy ax ay lx (by omega) h hg
 ·refine F80.call z.a z.l z.c stk x.a x.l x.c y.a y.l y.c w _ fun B=>bc_true (decT (by omega)) ?_
  have:=c80u z y x Y X stk w hz hy hx ay ax ly (by omega) (by omega) hg
  rw [Nat.mul_comm] at this
  exact ResE.pass this fun r w' h1 h2 h3=>⟨_,_,_,rfl,fun B2=>ret1 rfl rfl (Res.of h1 h2 h3)⟩
theorem c80 (z x y:Sl) (X Y:Nat) (stk:Option Addr) (w:World) (hz:St w z) (hx:Nz w x X) (hy:Nz w y Y) (ax:Al z x) (ay:Al z y) (lx:Len x) (ly:Len y) (hs:x.l<40∨y.l<40) (hg:Glb w) :
  Calls Tryz.prog 80 #[z.v,.pointer stk,x.v,y.v] w (ResE w z (X*Y)):=c80t z x y X Y stk w hz hx.toNt hy.toNt ax ay lx ly hs hg
end Go.Proofs.YtlkjiiibmfpbcaaGreatDoor
namespace Go.Proofs.YtlkjiiibmfpbcaaGreatDoor
open Go
def Sp (b1 o1 n1 b2 o2 n2:Nat):Prop:=n1=0∨n2=0∨b1≠b2∨o1+n1≤o2∨o2+n2≤o1
theorem Sp.not {b1 o1 n1 b2 o2 n2:Nat} (h:Sp b1 o1 n1 b2 o2 n2) {lo hi i:Nat} (h1:o1≤lo) (h2:hi≤o1+n1) (hi':i<n2):¬inR b1 lo hi b2 (o2+i):=by
 rintro ⟨e1,e2,e3⟩; unfold Sp at h; omega
theorem Sp.symm {b1 o1 n1 b2 o2 n2:Nat} (h:Sp b1 o1 n1 b2 o2 n2):Sp b2 o2 n2 b1 o1 n1:=by unfold Sp at *; omega
theorem Sp.mono {b1 o1 n1 b2 o2 n2 m1 m2:Nat} (h:Sp b1 o1 n1 b2 o2 n2) (h1:m1≤n1) (h2:m2≤n2):Sp b1 o1 m1 b2 o2 m2:=by unfold Sp at *; omega
theorem take_sp {w:World} {K:SK} {t:Sl} (ht:∀ i,t.o≤i→i<t.o+t.c→K.free t.b i∨w.heap.size≤t.b) {b o n:Nat} (ho:∀ i,o≤i→i<o+n→¬K.free b i) (hb:n≠0→b<w.heap.size):Sp t.b t.o t.c b o n:=by
 unfold Sp
 by_cases h1:t.c=0
 ·exact .inl h1
 by_cases h2:n=0
 ·exact .inr (.inl h2)
 by_cases h3:t.b=b
 ·by_cases h4:t.o+t.c≤o
  ·exact .inr (.inr (.inr (.inl h4)))
  ·by_cases h5:o+n≤t.o
   ·exact .inr (.inr (.inr (.inr h5)))
   ·exfalso
    have hi:=ht (max t.o o) (by omega) (by omega)
    rcases hi with h | h
    ·exact ho (max t.o o) (by omega) (by omega) (by rw [←h3]; exact h)
    ·have:=hb h2; omega
 ·exact .inr (.inr (.inl h3))
def un (S T:Set2):Set2:=fun b i=>S b i∨T b i
theorem Chg.l {w w':World} {S:Set2} (h:Chg w w' S) (T:Set2):Chg w w' (un S T):=h.mono fun _ _ _ h=>.inl h
theorem Chg.r {w w':World} {T:Set2} (h:Chg w w' T) (S:Set2):Chg w w' (un S T):=h.mono fun _ _ _ h=>.inr h
def Back (w w':World) (K:SK):Prop:=∃ K',StkAt w' K'∧Nxt w K K'∧K'.s.l=K.s.l
theorem sq_step (A B d q t s:Nat) (h:q+2*t=A*A):(q+B*B*(d*d))+2*(t+B*(A*d))=(A+B*d)*(A+B*d):=by
 have:(A+B*d)*(A+B*d)=A*A+2*(B*(A*d))+B*B*(d*d):=by
  rw [Nat.add_mul,Nat.mul_add,Nat.mul_add,Nat.mul_left_comm A B d,show B*d*A=B*(A*d) by rw [Nat.mul_assoc,Nat.mul_comm d A],show B*d*(B*d)=B*B*(d*d) by rw [Nat.mul_mul_mul_comm]]
  omega
 omega
abbrev Dr (p:Option Addr) (n:Int):Deferred:=⟨.fn (.func 102) #[],#[.pointer p,.int .i64 n]⟩
theorem runR {K:SK} {n:Nat} {ds:List Deferred} {w:World} {Q:World→Prop} (hk:StkAt w K) (hn:n≤K.s.l) (h:∀ w',StkAt w' (K.cut n)→Chg w w' K.free→runD Tryz.prog ds w' Q):runD Tryz.prog (Dr K.a (n:Int) :: ds) w Q :=
 ⟨rfl,Tryz.call102,d102 w K hk n hn _ h⟩
theorem retR0n {e:Env} {w:World} {R:Value→World→Prop} {K:SK} {n:Nat} (hd:e.defers=[Dr K.a (n:Int)]) (hk:StkAt w K) (hn:n≤K.s.l) (h:∀ w',StkAt w' (K.cut n)→Chg w w' K.free→R (.tuple #[]) w'):retK Tryz.prog [] R .normal e w:=by
 simp only [retK,hd]
 exact runR hk hn fun w' h1 h2=>h w' h1 h2
theorem retR1 {t:Nat} {e:Env} {w:World} {R:Value→World→Prop} {v:Value} {K:SK} {n:Nat} (hd:e.defers=[Dr K.a (n:Int)]) (hv:e.get t=v) (hk:StkAt w K) (hn:n≤K.s.l) (h:∀ w',StkAt w' (K.cut n)→Chg w w' K.free→R v w'):retK Tryz.prog [.tmp t] R .ret e w:=by
 simp only [retK,hd]
 exact runR hk hn fun w' h1 h2=>by simp only [runD,resOne,hv]; exact h w' h1 h2
theorem retR2 {t u:Nat} {e:Env} {w:World} {R:Value→World→Prop} {v v':Value} {K:SK} {n:Nat} (hd:e.defers=[Dr K.a (n:Int)]) (hv:e.get t=v) (hv':e.get u=v') (hk:StkAt w K) (hn:n≤K.s.l) (h:∀ w',StkAt w' (K.cut n)→Chg w w' K.free→R (.tuple #[v,v']) w'):retK Tryz.prog [.tmp t,.tmp u] R .ret e w:=by
 simp only [retK,hd]
 exact runR hk hn fun w' h1 h2=>by simp only [runD,resOne,hv,hv']; exact h w' h1 h2
theorem put2 {w:World} {b o o1 hi lo:Nat} (h1:o1=o+1) (hp:Own w b) (u1:∃ u,w.cell? ⟨b,o1,none⟩=some u) (u0:∃ u,w.cell? ⟨b,o,none⟩=some u) (hhi:hi<18446744073709551616) (hlo:lo<18446744073709551616) :
  Sg ((w.setCell ⟨b,o1,none⟩ (.int .u64 (hi:Int))).setCell ⟨b,o,none⟩ (.int .u64 (lo:Int))) b o 2 (lo+BB*hi)∧Chg w ((w.setCell ⟨b,o1,none⟩ (.int .u64 (hi:Int))).setCell ⟨b,o,none⟩ (.int .u64 (lo:Int))) (inR b o (o+2)):=by
 subst h1
 obtain ⟨u1,hu1⟩:=u1
 obtain ⟨u0,hu0⟩:=u0
 have c1:Chg w (w.setCell ⟨b,o+1,none⟩ (.int .u64 (hi:Int))) (inR b o (o+2)):=Chg.setCell hp _ ⟨rfl,by omega,by omega⟩
 obtain ⟨u0',hu0'⟩:=chgSome c1 hu0
 have c2:Chg (w.setCell ⟨b,o+1,none⟩ (.int .u64 (hi:Int))) ((w.setCell ⟨b,o+1,none⟩ (.int .u64 (hi:Int))).setCell ⟨b,o,none⟩ (.int .u64 (lo:Int))) (inR b o (o+2)):=Chg.setCell (c1.own hp) _ ⟨rfl,by omega,by omega⟩
 refine ⟨fun i hi'=>?_,c1.trans' c2⟩
 rcases (show i=0∨i=1 by omega) with rfl | rfl
 ·have:dg (lo+BB*hi) 0=lo:=by rw [dg,Nat.pow_zero,Nat.div_one,Nat.add_mul_mod_self_left,Nat.mod_eq_of_lt (by rw [BB_eq]; exact hlo)]
  rw [this]
  exact World.cell?_setCell_same _ _ _ hu0'
 ·have:dg (lo+BB*hi) 1=hi:=by rw [dg,Nat.pow_one,Nat.add_mul_div_left _ _ BB_pos,Nat.div_eq_of_lt (by rw [BB_eq]; exact hlo),Nat.zero_add,Nat.mod_eq_of_lt (by rw [BB_eq]; exact hhi)]
  rw [this,World.cell?_setCell_other _ _ _ _ (by simp)]
  exact World.cell?_setCell_same _ _ _ hu1
theorem c115 (K:SK) (z x:Sl) (X:Nat) (w:World) (hk:StkAt w K) (hz:St w z) (hx:Nt w x X) (hn:12≤x.l) (hn2:x.l≤1099511627776) (hl:z.l=2*x.l) (dx:Sp z.b z.o z.l x.b x.o x.l) (oz:Off K z) (ox:OffL K x) (hL:K.s.l≤2199023255552) (hg:Glb w) :
  Calls Tryz.prog 115 #[.pointer K.a,z.v,x.v] w fun e w'=>e=.returned undef∧Sg w' z.b z.o z.l (X*X)∧Back w w' K∧Chg w w' (un (inR z.b z.o (z.o+z.l)) K.free):=by
 have hzc:=hz.lc
 have hxc:=hx.lc
 have hX:=hx.lt
 refine (F115.call K.a z.a z.l z.c x.a x.l x.c w (fun v w'=>v=undef∧Sg w' z.b z.o z.l (X*X)∧Back w w' K∧Chg w w' (un (inR z.b z.o (z.o+z.l)) K.free)) fun B=>⟨_,hg.t3,bc_false (decF (by omega)) ?_⟩).mono fun e w' ⟨v,h1,h2,h3⟩=>⟨by rw [h1,h2],h3⟩
 refine (c103 w K hk).mono ?_
 rintro e _ ⟨_,rfl,rfl,rfl⟩
 refine ⟨_,rfl,by unfold inI64; omega,?_⟩
 rw [show (2*(x.l:Int))=((2*x.l:Nat):Int) by omega]
 refine (c104 _ K hk (2*x.l) (by omega) hL).mono ?_
 rintro e w1 ⟨_,rfl,t,K1,rfl,htl,ht,hto,htf,hk1,hnx,hc1,hl1⟩
 have htc:=ht.lc
 obtain ⟨w2,r1,r2,r3⟩:=clearW 45 Tryz.underlying45 t w1 ht.wt
 refine ⟨_,_,_,rfl,w2,r1,?_⟩
 have spx:Sp t.b t.o t.l x.b x.o x.l:=(take_sp htf ox (fun h=>hx.blk h)).mono htc (Nat.le_refl _)
 have spz:Sp t.b t.o t.l z.b z.o z.l:=(take_sp htf oz (fun h=>hz.blk h)).mono htc hzc
 have hx1:Nt w1 x X:=hc1.nt hx fun i hi=>ox _ (by omega) (by omega)
 have hx2:Nt w2 x X:=r3.nt hx1 fun i hi=>spx.not (Nat.le_refl _) (Nat.le_refl _) hi
 have hz2:St w2 z:=r3.st (hc1.st hz)
 have hc2:Chg w1 w2 (inR t.b t.o (t.o+t.l)):=r3
 have cd2:Chg w2 w2.drew none2:=Chg.drew0 w2 _
 have hxd:Nt w2.drew x X:=cd2.nt_none hx2
 have d0:=dg_lt' X 0
 refine rdC (k:=0) (hx.at_ (by omega)) rfl (by omega) (hxd.sg 0 (by omega)) (rdC (k:=0) (hx.at_ (by omega)) rfl (by omega) (hxd.sg 0 (by omega)) ((c113 (dg X 0) (dg X 0) d0 d0 w2.drew).mono ?_))
 rintro e w3 ⟨rfl,hw⟩
 have hw:=hw.symm
 subst hw
 have hzd:St w2.drew z:=cd2.st hz2
 have hsq:=mul_lt_sq _ _ d0 d0
 obtain ⟨p1,p2⟩:=put2 (b:=z.b) (o:=z.o) (o1:=z.o+1) rfl (hzd.pl (by omega)) (hzd.wr 1 (by omega)).1 (hzd.wr 0 (by omega)).1 (show dg X 0*dg X 0/18446744073709551616<18446744073709551616 by omega) (show dg X 0*dg X 0%18446744073709551616<18446744073709551616 by omega)
 have hc3:Chg w2.drew (w2.drew.setCell ⟨z.b,z.o+1,none⟩ (.int .u64 ((dg X 0*dg X 0/18446744073709551616:Nat):Int))) (inR z.b z.o (z.o+2)):=Chg.setCell (hzd.pl (by omega)) _ ⟨rfl,by omega,by omega⟩
 refine ⟨_,trivial,_,trivial,rfl,wtC (k:=1) hzd.wt rfl (by omega) (wtC (k:=0) (hc3.st hzd).wt rfl (by omega) fun B1=>?_)⟩
 rw [Nat.add_zero]
 generalize (w2.drew.setCell ⟨z.b,z.o+1,none⟩ (.int .u64 ((dg X 0*dg X 0/18446744073709551616:Nat):Int))).setCell ⟨z.b,z.o,none⟩ (.int .u64 ((dg X 0*dg X 0%18446744073709551616:Nat):Int))=w3 at p1 p2
 have hp0:dg X 0*dg X 0%18446744073709551616+BB*(dg X 0*dg X 0/18446744073709551616)=dg X 0*dg X 0:=Nat.mod_add_div _ _
 rw [hp0] at p1
 have hm1:X%BB^1=dg X 0:=by rw [mod_succ,Nat.pow_zero,Nat.mod_one]; omega
 have hchW:Chg w1 w3 (un (inR z.b z.o (z.o+z.l)) (inR t.b t.o (t.o+t.l))):=((hc2.r _).trans' (cd2.none _)).trans' ((p2.mono fun b i _ hm=>⟨hm.1,hm.2.1,by have:=hm.2.2; omega⟩).l _)
 have s30:Sg w3 t.b t.o t.l 0:=p2.sg (cd2.sg r2 fun _ _ h=>h) fun i hi=>spz.symm.not (Nat.le_refl _) (by omega) hi
 rw [F115.q3]
 refine W_for (σ:=Nat) (fun i=>[(1,z.v),(2,x.v),(6,.int .i64 (x.l:Int)),(7,t.v),(8,.int .i64 (i:Int))])
  (fun i wr=>1≤i∧i≤x.l∧(∃ Q T,Q+2*T=(X%BB^i)*(X%BB^i)∧Q<BB^(2*i)∧T<BB^(2*i-1)∧T%BB=0∧Sg wr z.b z.o (2*i) Q∧Sg wr t.b t.o t.l T)∧Chg w1 wr (un (inR z.b z.o (z.o+z.l)) (inR t.b t.o (t.o+t.l))))
  (fun i=>x.l-i) 1 ⟨rfl,rfl,rfl,rfl,rfl,trivial⟩ ⟨Nat.le_refl _,by omega,⟨dg X 0*dg X 0,0,by rw [hm1]; omega,?_,by simp [BB_eq],Nat.zero_mod _,p1,s30⟩,hchW⟩ ?_
 ·show dg X 0*dg X 0<BB^2
  rw [show BB^2=BB*BB from Nat.pow_two _]
  exact Nat.mul_lt_mul_of_lt_of_le d0 (Nat.le_of_lt d0) BB_pos
 rintro i B2 wr ⟨hi1,hi2,⟨Q,T,hQT,hQ,hT,hT0,hsQ,hsT⟩,hch⟩
 have hxr:Nt wr x X:=hch.nt hx1 fun j hj hm=>hm.elim (dx.not (Nat.le_refl _) (Nat.le_refl _) hj) (spx.not (Nat.le_refl _) (Nat.le_refl _) hj)
 have hzr:=hch.st (hc1.st hz)
 have htr:=hch.st ht
 refine F115.t2 z.a z.l z.c x.a x.l x.c x.l t.a t.l t.c i ⟨rfl,rfl,rfl,rfl,rfl,trivial⟩ fun B3=>bc_intro (fun hb=>?_) (fun hb B4=>?_)
 ·have hlt:i<x.l:=by have:=dT hb; omega
  have di:=dg_lt' X i
  have hsq:=mul_lt_sq _ _ di di
  have e2:(2*(i:Int))=((2*i:Nat):Int):=by omega
  have e3:(2*(i:Int))+1=((2*i+1:Nat):Int):=by omega
  refine rdC (k:=i) (hx.at_ (by omega)) rfl hlt (hxr.sg i hlt) ?_
  rw [e3,e2]
  refine ⟨by unfold inI64; omega,by unfold inI64; omega,by unfold inI64; omega,(c113 (dg X i) (dg X i) di di wr).mono ?_⟩
  rintro e w4 ⟨rfl,hw⟩
  have hw:=hw.symm
  subst hw
  obtain ⟨p1,p2⟩:=put2 (b:=z.b) (o:=z.o+2*i) (o1:=z.o+(2*i+1)) rfl (hzr.pl (by omega)) (hzr.wr (2*i+1) (by omega)).1 (hzr.wr (2*i) (by omega)).1 (show dg X i*dg X i/18446744073709551616<18446744073709551616 by omega) (show dg X i*dg X i%18446744073709551616<18446744073709551616 by omega)
  have hc3:Chg wr (wr.setCell ⟨z.b,z.o+(2*i+1),none⟩ (.int .u64 ((dg X i*dg X i/18446744073709551616:Nat):Int))) (inR z.b z.o (z.o+z.l)):=Chg.setCell (hzr.pl (by omega)) _ ⟨rfl,by omega,by omega⟩
  refine ⟨_,trivial,_,trivial,rfl,wtC (k:=2*i+1) hzr.wt rfl (by omega) (wtC (k:=2*i) (hc3.st hzr).wt rfl (by omega) ?_)⟩
  have hp0:dg X i*dg X i%18446744073709551616+BB*(dg X i*dg X i/18446744073709551616)=dg X i*dg X i:=Nat.mod_add_div _ _
  rw [hp0] at p1
  generalize (wr.setCell ⟨z.b,z.o+(2*i+1),none⟩ (.int .u64 ((dg X i*dg X i/18446744073709551616:Nat):Int))).setCell ⟨z.b,z.o+2*i,none⟩ (.int .u64 ((dg X i*dg X i%18446744073709551616:Nat):Int))=w5 at p1 p2
  have cd5:Chg w5 w5.drew none2:=Chg.drew0 w5 _
  have ht5:St w5.drew t:=cd5.st (p2.st htr)
  have hx5:Nt w5.drew x X:=cd5.nt_none (p2.nt hxr fun j hj=>dx.not (by omega) (by omega) hj)
  have s5T:Sg w5.drew t.b t.o t.l T:=cd5.sg (p2.sg hsT fun j hj=>spz.symm.not (by omega) (by omega) hj) fun _ _ h=>h
  have s5Q:Sg w5.drew z.b z.o (2*(i+1)) (Q+BB^(2*i)*(dg X i*dg X i)):=by
   refine cd5.sg ?_ fun _ _ h=>h
   have:=Sg.join (p2.sg hsQ fun j hj hm=>by have:=hm.2.1; omega) p1 hQ
   rw [show 2*(i+1)=2*i+2 by omega]; exact this
  have elen:(t.sub i (2*i)).l=i:=by show 2*i-i=i; omega
  have hr1:Rd w5.drew (t.sub i (2*i)) (T/BB^i):=by
   refine ⟨fun h0=>at_sub ht5.at_ (by omega) h0,?_,?_⟩
   ·rw [elen]; exact s5T.hi i i (by omega)
   ·rw [elen,Nat.div_lt_iff_lt_mul (BBpow_pos i),←Nat.pow_add]; exact lt_pow_of_le hT (by omega)
  have elx:(x.sub 0 i).l=i:=rfl
  have hr2:Rd w5.drew (x.sub 0 i) (X%BB^i):=by
   refine ⟨fun h0=>at_sub hx.at_ (by omega) h0,(hx5.sg.le hi2).mod,Nat.mod_lt _ (BBpow_pos i)⟩
  refine ⟨by unfold inI64; omega,by unfold inI64; omega,i,2*i,rfl,rfl,by omega,by omega,by unfold inI64; omega,i,2*i,rfl,rfl,by omega,by omega,0,i,rfl,rfl,by omega,by omega,?_⟩
  refine Vec.pass (c146 (t.sub i (2*i)) (t.sub i (2*i)) (x.sub 0 i) (T/BB^i) (X%BB^i) (dg X i) 0 w5.drew (ht5.sub_wt _ _ (by omega) (by omega)) hr1 hr2 rfl (by rw [elen]; rfl) (.inr (.inr (.inl (Nat.le_refl _)))) ?_ di (by omega)) ?_
  ·unfold Ov; unfold Sp at spx
   show i=0∨x.b≠t.b∨t.o+i≤x.o+0∨x.o+0+i≤t.o+i
   omega
  rintro c Z w6 ⟨t1,t2⟩ hZ hsg hc6
  rw [elen] at t1 hZ hsg hc6
  have hsg:Sg w6 t.b (t.o+i) i Z:=hsg
  have hc6:Chg w5.drew w6 (inR t.b (t.o+i) (t.o+i+i)):=hc6
  have ht6:=hc6.st ht5
  have hp:=ht6.pl (by omega)
  refine ⟨_,rfl,wtC (k:=2*i) ht6.wt rfl (by omega) ⟨by unfold inI64; omega,fun B5=>?_⟩⟩
  have hc7:Chg w6 (w6.setCell ⟨t.b,t.o+2*i,none⟩ (.int .u64 (c:Int))) (inR t.b (t.o+2*i) (t.o+2*i+1)):=Chg.setCell hp _ ⟨rfl,by omega,by omega⟩
  have hmid:Sg (w6.setCell ⟨t.b,t.o+2*i,none⟩ (.int .u64 (c:Int))) t.b (t.o+i) (i+1) (Z+BB^i*c):=by
   have:=hsg.step hZ (d:=c) (w2:=w6) (by rw [BB_eq]; exact t2) rfl hp (by rw [show t.o+i+i=t.o+2*i by omega]; exact (ht6.wr (2*i) (by omega)).1)
   rw [show t.o+i+i=t.o+2*i by omega] at this; exact this
  have hlow:Sg (w6.setCell ⟨t.b,t.o+2*i,none⟩ (.int .u64 (c:Int))) t.b t.o i (T%BB^i) :=
   hc7.sg (hc6.sg (s5T.le (by omega)).mod fun j hj hm=>by have:=hm.2.1; omega) fun j hj hm=>by have:=hm.2.1; omega
  have hhi:Sg (w6.setCell ⟨t.b,t.o+2*i,none⟩ (.int .u64 (c:Int))) t.b (t.o+(2*i+1)) (t.l-(2*i+1)) 0:=by
   have:=s5T.hi (2*i+1) (t.l-(2*i+1)) (by omega)
   rw [Nat.div_eq_of_lt (lt_pow_of_le hT (by omega))] at this
   exact hc7.sg (hc6.sg this fun j hj hm=>by have:=hm.2.2; omega) fun j hj hm=>by have:=hm.2.2; omega
  have hval:T%BB^i+BB^i*(Z+BB^i*c)=T+BB^i*(X%BB^i*dg X i):=by
   rw [t1,Nat.mul_add,Nat.mul_add,Nat.mul_zero,Nat.add_zero]
   have h1:=Nat.mod_add_div T (BB^i)
   omega
  have hlt2:T%BB^i+BB^i*(Z+BB^i*c)<BB^(i+(i+1)):=by
   have h1:=dlt hZ t2
   have h2:=Nat.mod_lt T (BBpow_pos i)
   have h3:BB^i*(Z+BB^i*c)+BB^i≤BB^i*BB^(i+1):=by rw [←Nat.mul_succ]; exact Nat.mul_le_mul_left _ h1
   rw [Nat.pow_add]; omega
  have hj:=Sg.join (Sg.join hlow hmid (Nat.mod_lt _ (BBpow_pos i))) (by rw [show t.o+(i+(i+1))=t.o+(2*i+1) by omega]; exact hhi) hlt2
  rw [Nat.mul_zero,Nat.add_zero,hval,show i+(i+1)+(t.l-(2*i+1))=t.l by omega] at hj
  rw [hval] at hlt2
  refine ⟨i+1,⟨rfl,rfl,rfl,rfl,rfl,trivial⟩,rfl,⟨by omega,by omega,⟨Q+BB^(2*i)*(dg X i*dg X i),T+BB^i*(X%BB^i*dg X i),?_,?_,?_,?_,?_,hj⟩,?_⟩,by show x.l-(i+1)<x.l-i; omega⟩
  ·rw [mod_succ,show BB^(2*i)=BB^i*BB^i by rw [←Nat.pow_add,Nat.two_mul]]
   exact sq_step (X%BB^i) (BB^i) (dg X i) Q T 0 hQT
  ·rw [show 2*(i+1)=2*i+2 by omega,Nat.pow_add]
   have h1:dg X i*dg X i<BB^2:=by rw [Nat.pow_two]; exact Nat.mul_lt_mul_of_lt_of_le di (Nat.le_of_lt di) BB_pos
   have h2:BB^(2*i)*(dg X i*dg X i)+BB^(2*i)≤BB^(2*i)*BB^2:=by rw [←Nat.mul_succ]; exact Nat.mul_le_mul_left _ h1
   omega
  ·rw [show 2*(i+1)-1=i+(i+1) by omega]; exact hlt2
  ·obtain ⟨j,rfl⟩:∃ j,i=j+1:=⟨i-1,by omega⟩
   rw [BBpow_succ,Nat.mul_assoc,Nat.mul_left_comm,Nat.add_mul_mod_self_left]; exact hT0
  ·exact hc7.sg (hc6.sg s5Q fun j hj=>spz.not (by omega) (by omega) (by omega)) fun j hj=>spz.not (by omega) (by omega) (by omega)
  ·exact hch.trans' (((p2.mono fun b j _ hm=>⟨hm.1,by have:=hm.2.1; omega,by have:=hm.2.2; omega⟩).l _).trans' ((cd5.none _).trans' (((hc6.mono fun b j _ hm=>⟨hm.1,by have:=hm.2.1; omega,by have:=hm.2.2; omega⟩).r _).trans' ((hc7.mono fun b j _ hm=>⟨hm.1,by have:=hm.2.1; omega,by have:=hm.2.2; omega⟩).r _))))
 ·have hin:i=x.l:=by have:=dF hb; omega
  subst hin
  rw [Nat.mod_eq_of_lt hX] at hQT
  have e1:((2*(x.l:Int))-1)=((2*x.l-1:Nat):Int):=by omega
  have e2:(2*(x.l:Int))=((2*x.l:Nat):Int):=by omega
  refine F115.t1 z.a z.l z.c x.l t.a t.l t.c ⟨rfl,rfl,rfl,trivial⟩ fun B5=>?_
  unfold F115.v1
  rw [e1,e2]
  have cd5:Chg wr wr.drew none2:=Chg.drew0 wr _
  have ht5:=cd5.st htr
  have elen:(t.sub 1 (2*x.l-1)).l=2*x.l-2:=by show 2*x.l-1-1=_; omega
  have s5T:=cd5.sg hsT fun _ _ h=>h
  have hTd:T/BB<BB^(2*x.l-2):=by
   rw [Nat.div_lt_iff_lt_mul BB_pos,←BBpow_succ,show 2*x.l-2+1=2*x.l-1 by omega]; exact hT
  have hr1:Rd wr.drew (t.sub 1 (2*x.l-1)) (T/BB):=by
   refine ⟨fun h0=>at_sub ht5.at_ (by omega) h0,?_,?_⟩
   ·rw [elen]; have:=s5T.hi 1 (2*x.l-2) (by omega); rw [Nat.pow_one] at this; exact this
   ·rw [elen]; exact hTd
  refine ⟨by unfold inI64; omega,by unfold inI64; omega,by unfold inI64; omega,by unfold inI64; omega,1,2*x.l-1,rfl,rfl,by omega,by omega,by unfold inI64; omega,by unfold inI64; omega,1,2*x.l-1,rfl,rfl,by omega,by omega,?_⟩
  refine Vec.pass (c145 (t.sub 1 (2*x.l-1)) (t.sub 1 (2*x.l-1)) (T/BB) 1 wr.drew (ht5.sub_wt _ _ (by omega) (by omega)) hr1 rfl (.inr (.inr (.inl (Nat.le_refl _)))) (by omega)) ?_
  rintro c Z w6 t1 hZ hsg hc6
  rw [elen] at t1 hZ hsg hc6
  have hsg:Sg w6 t.b (t.o+1) (2*x.l-2) Z:=hsg
  have hc6:Chg wr.drew w6 (inR t.b (t.o+1) (t.o+1+(2*x.l-2))):=hc6
  have ht6:=hc6.st ht5
  have hp:=ht6.pl (by omega)
  have hcB:c<18446744073709551616:=by
   have h3:BB^(2*x.l-2)*c<BB^(2*x.l-2)*2:=by rw [Nat.pow_one] at t1; omega
   have:=Nat.lt_of_mul_lt_mul_left h3; omega
  refine ⟨_,rfl,wtC (k:=2*x.l-1) ht6.wt rfl (by omega) ?_⟩
  have hc7:Chg w6 (w6.setCell ⟨t.b,t.o+(2*x.l-1),none⟩ (.int .u64 (c:Int))) (inR t.b (t.o+(2*x.l-1)) (t.o+(2*x.l-1)+1)):=Chg.setCell hp _ ⟨rfl,by omega,by omega⟩
  have hmid:Sg (w6.setCell ⟨t.b,t.o+(2*x.l-1),none⟩ (.int .u64 (c:Int))) t.b (t.o+1) (2*x.l-2+1) (Z+BB^(2*x.l-2)*c):=by
   have:=hsg.step hZ (d:=c) (w2:=w6) (by rw [BB_eq]; exact hcB) rfl hp (by rw [show t.o+1+(2*x.l-2)=t.o+(2*x.l-1) by omega]; exact (ht6.wr (2*x.l-1) (by omega)).1)
   rw [show t.o+1+(2*x.l-2)=t.o+(2*x.l-1) by omega] at this; exact this
  have hlow:Sg (w6.setCell ⟨t.b,t.o+(2*x.l-1),none⟩ (.int .u64 (c:Int))) t.b t.o 1 0:=by
   have h0:Sg wr.drew t.b t.o 1 (T%BB^1):=(s5T.le (by omega)).mod
   rw [Nat.pow_one,hT0] at h0
   exact hc7.sg (hc6.sg h0 fun j hj hm=>by have:=hm.2.1; omega) fun j hj hm=>by have:=hm.2.1; omega
  have hj:=Sg.join hlow hmid (by rw [Nat.pow_one]; exact BB_pos)
  have hTT:BB*(T/BB)=T:=by have:=Nat.mod_add_div T BB; omega
  have hval:BB^1*(Z+BB^(2*x.l-2)*c)=2*T:=by
   rw [t1,Nat.pow_one,Nat.pow_one,←Nat.mul_assoc,hTT,Nat.mul_comm]
  rw [Nat.zero_add,hval,show 1+(2*x.l-2+1)=t.l by omega] at hj
  generalize w6.setCell ⟨t.b,t.o+(2*x.l-1),none⟩ (.int .u64 (c:Int))=w7 at hc7 hj
  have hXX:X*X<BB^(2*x.l):=by have:=prod_lt hX hX; rw [show x.l+x.l=2*x.l by omega] at this; exact this
  have c67:Chg wr w7 (inR t.b t.o (t.o+t.l)):=(cd5.none _).trans' ((hc6.mono fun b j _ hm=>⟨hm.1,by have:=hm.2.1; omega,by have:=hm.2.2; omega⟩).trans' (hc7.mono fun b j _ hm=>⟨hm.1,by have:=hm.2.1; omega,by have:=hm.2.2; omega⟩))
  have s7Q:Sg w7 z.b z.o z.l Q:=by rw [hl]; exact c67.sg hsQ fun j hj=>spz.not (Nat.le_refl _) (Nat.le_refl _) (by omega)
  have hz7:=c67.st hzr
  have ht7:=c67.st htr
  refine Vec.pass (c138 z z t Q (2*T) w7 hz7.wt ⟨fun h0=>hz7.at_ (by omega),s7Q,by rw [hl]; exact hQ⟩ ⟨fun h0=>ht7.at_ (by omega),hj,by rw [htl]; omega⟩ rfl (by omega) (.inr (.inr (.inl (Nat.le_refl _)))) ?_) ?_
  ·unfold Ov; unfold Sp at spz
   show t.l=0∨t.b≠z.b∨z.o≤t.o∨t.o+t.l≤z.o
   omega
  rintro c' Z' w8 ⟨u1,u2⟩ hZ' hsg' hc8
  have hc0:c'=0:=by
   rcases Nat.eq_zero_or_pos c' with h | h
   ·exact h
   ·have:BB^z.l*1≤BB^z.l*c':=Nat.mul_le_mul_left _ h
    rw [hl] at this u1
    omega
  subst hc0
  rw [Nat.mul_zero,Nat.add_zero,hQT] at u1
  subst u1
  have hch8:Chg w1 w8 (un (inR z.b z.o (z.o+z.l)) (inR t.b t.o (t.o+t.l))):=hch.trans' ((c67.r _).trans' (hc8.l _))
  have hnp:¬(un (inR z.b z.o (z.o+z.l)) (inR t.b t.o (t.o+t.l))) K1.p 0:=by
   rintro (hm | hm)
   ·have h1:=hm.2.2
    exact oz 0 hm.2.1 (by omega) (.inl (by rw [←hm.1,hnx.p]))
   ·exact hto 0 hm.2.1 (by have:=hm.2.2; omega) (.inl hm.1.symm)
  have hnq:∀ b,K1.q=some b→¬(un (inR z.b z.o (z.o+z.l)) (inR t.b t.o (t.o+t.l))) b 0:=by
   intro b hb
   rintro (hm | hm)
   ·have h1:=hm.2.2
    have hzb:=hz.blk (by omega)
    exact oz 0 hm.2.1 (by omega) (hnx.free hzb (.inr (.inl (by rw [hb,hm.1]))))
   ·exact hto 0 hm.2.1 (by have:=hm.2.2; omega) (.inr (.inl (by rw [hb,hm.1])))
  have hk8:=hk1.chg hch8 hnp hnq
  have hpe:K1.a=K.a:=by unfold SK.a; rw [hnx.p]
  refine ⟨_,rfl,fun B6=>retR0n (K:=K1) (n:=K.s.l) (by rw [hpe]) hk8 hnx.l fun w9 h1 h2=>⟨rfl,?_,⟨K1.cut K.s.l,h1,hnx.cut,rfl⟩,?_⟩⟩
  ·refine h2.sg hsg' fun j hj hf=>?_
   have hzb:=hz.blk (by omega)
   exact oz _ (by omega) (by omega) (hnx.free hzb hf)
  ·refine (hc1.r _).trans (hch8.trans h2 (S:=fun b i=>un (inR z.b z.o (z.o+z.l)) (inR t.b t.o (t.o+t.l)) b i∨K1.free b i) (fun _ _ _ h=>.inl h) (fun _ _ _ h=>.inr h)) (fun _ _ _ h=>h) fun b j hb hm=>?_
   rcases hm with (hm | hm) | hm
   ·exact .inl hm
   ·rcases htf j hm.2.1 (by have:=hm.2.2; omega) with h | h
    ·exact .inr (by rw [hm.1]; exact h)
    ·have:=hm.1; omega
   ·exact .inr (hnx.free hb hm)
end Go.Proofs.YtlkjiiibmfpbcaaGreatDoor
namespace Go.Proofs.YtlkjiiibmfpbcaaGreatDoor
open Go
def NoB (K:SK) (x:Sl):Prop:=x.c≠0→x.b≠K.p∧K.q≠some x.b∧(K.s.c≠0→x.b≠K.s.b)
theorem NoB.off {K:SK} {x:Sl} (h:NoB K x):Off K x:=fun i h1 h2 h3=>by
 obtain ⟨a,b,c⟩:=h (by omega)
 rcases h3 with e | e | ⟨e,h4,h5⟩
 ·exact a e
 ·exact b e
 ·exact c (by omega) e
theorem NoB.nxt {w:World} {K K':SK} {x:Sl} (h:NoB K x) (hn:Nxt w K K') (hx:x.c≠0→x.b<w.heap.size):NoB K' x:=fun h0=>by
 obtain ⟨a,b,c⟩:=h h0
 have hb:=hx h0
 refine ⟨by rw [hn.p]; exact a,?_,fun hc=>?_⟩
 ·rcases hn.q with e | ⟨_,b',e,h⟩
  ·rw [e]; exact b
  ·rw [e]; intro e; cases e; omega
 ·rcases hn.s with ⟨e1,_,e3⟩ | ⟨_,e⟩
  ·rw [e1]; exact c (by omega)
  ·omega
theorem NoB.new {w:World} {K:SK} {x:Sl} (hk:StkAt w K) (h:w.heap.size≤x.b):NoB K x:=fun _=>by
 have h1:=plain_lt hk.own.2
 refine ⟨by omega,fun e=>?_,fun hc=>?_⟩
 ·have:=plain_lt (hk.inn _ e).1.2; omega
 ·have:=hk.st.blk hc; omega
theorem NoB.cut {K:SK} {x:Sl} (h:NoB K x) (n:Nat):NoB (K.cut n) x:=h
def ResK (w:World) (K:SK) (z:Sl) (V:Nat) (v:Value) (w':World):Prop :=
 ∃ (r:Sl) (K':SK),v=r.v∧Nz w' r V∧From w z r∧StkAt w' K'∧Nxt w K K'∧K'.s.l=K.s.l∧Off K' r∧(w.heap.size≤r.b→r.c≠0→NoB K' r)∧Chg w w' (un (fp z) K.free)
abbrev ResKE (w:World) (K:SK) (z:Sl) (V:Nat) (e:Ending) (w':World):Prop:=∃ v,e=.returned v∧ResK w K z V v w'
theorem ResKE.pass {f:FuncId} {args:Array Value} {w:World} {K:SK} {z:Sl} {V:Nat} {Q:Ending→World→Prop} (h:Calls Tryz.prog f args w (ResKE w K z V))
  (q:∀ r K' w',Nz w' r V→From w z r→StkAt w' K'→Nxt w K K'→K'.s.l=K.s.l→Off K' r→(w.heap.size≤r.b→r.c≠0→NoB K' r)→Chg w w' (un (fp z) K.free)→Q (.returned r.v) w') :
  Calls Tryz.prog f args w Q:=h.mono fun e w' ⟨v,h1,r,K',h2,h3,h4,h5,h6,h7,h8,h9,h10⟩=>by subst h1; subst h2; exact q r K' w' h3 h4 h5 h6 h7 h8 h9 h10
theorem ResK.same {w w':World} {K:SK} {z:Sl} {V:Nat} {v:Value} (hk:StkAt w K) (oz:Off K z) (h:Res w z V v w'):ResK w K z V v w':=by
 obtain ⟨r,h1,h2,h3,h4⟩:=h
 exact ⟨r,K,h1,h2,h3,hk.fp h4 oz,Nxt.refl _ _,rfl,Off.new hk h3 oz,fun h _=>NoB.new hk h,h4.l _⟩
theorem nilResK {w w':World} {K:SK} {z:Sl} {V:Nat} {v:Value} (h:ResK w K (nilS w) V v w'):ResK w K z V v w':=by
 obtain ⟨r,K',h1,h2,h3,h4,h5,h6,h7,hnb,h8⟩:=h
 refine ⟨r,K',h1,h2,nilFrom h3,h4,h5,h6,h7,hnb,h8.mono fun b i _ hm=>hm.elim (fun hm=>?_) .inr⟩
 have h1:0≤i:=hm.2.1
 have h2:i<0+0:=hm.2.2
 omega
theorem nilOff (w:World) (K:SK):Off K (nilS w):=fun i h1 h2=>by
 have h1:0≤i:=h1
 have h2:i<0+0:=h2
 omega
theorem f79p1 (K:SK) (z x:Sl) (X:Nat) (w w0:World) (h0:Chg w0 w none2) (hk:StkAt w0 K) (hz:St w0 z) (hx:Nz w0 x X) (ax:Apart z x) (oz:Off K z) (ox:OffL K x) (hn1:1<x.l) (lx:x.l<80) (hL:K.s.l≤2199023255552) (hg:Glb w0) (e:Env) (he:e.defers=[])
  (R:Value→World→Prop) (hR:∀ v w',ResK w0 K z (X*X) v w'→R v w') (ha:agree e (F79.l1 z.a z.l z.c K.a x.a x.l x.c x.l)):W Tryz.prog 76 F79.p1 e w (retK Tryz.prog [.tmp 6] R):=by
 have e2:(2*(x.l:Int))=((2*x.l:Nat):Int):=by omega
 refine F79.t1 z.a z.l z.c K.a x.a x.l x.c x.l ha fun B=>?_
 unfold F79.v1
 rw [e2]
 refine ⟨by unfold inI64; omega,(c73 z (2*x.l) w (h0.st hz) (by omega)).mono ?_⟩
 rintro e' w1 ⟨_,rfl,r,rfl,hrl,hr,hf,hc⟩
 have h01:=h0.trans' hc
 have hf0:=hf.later h0
 have hrc:=hr.lc
 have hx1:=h01.nz_none hx
 have hg1:=h01.glb hg
 have hk1:=hk.none h01
 have or1:Off K r:=Off.new hk hf0 oz
 have hlt:X*X<BB^r.l:=by rw [hrl]; have:=prod_lt hx.lt hx.lt; rw [show x.l+x.l=2*x.l by omega] at this; exact this
 have dis:Dis r (2*x.l) x:=ax.dis hf0 hx.toNt (by omega) (by omega)
 refine ⟨_,_,_,rfl,_,hg1.t3,bc_intro (fun hb=>⟨_,hg1.t4,bc_true (decT (by omega)) ?_⟩) (fun hb=>⟨_,rfl,bc_false rfl fun B1=>?_⟩)⟩
 ·refine (c114 r x x X X w1 hr hx1.toNt.rd hx1.toNt.rd (by omega) (by omega) (by rw [←Nat.two_mul]; exact dis) (by rw [←Nat.two_mul]; exact dis)).mono ?_
  rintro e' w2 ⟨rfl,hsg,hch⟩
  refine ⟨rfl,normR (w:=w0) (z:=z) (r:=r) (V:=X*X) { hch.st hr with sg:=by rw [hrl,show 2*x.l=x.l+x.l by omega]; exact hsg,lt:=hlt } hf0 (hf0.chg (h01.none _) hch (Nat.le_refl _) (by omega)) fun k hres=>⟨_,_,_,rfl,fun B6=>ret1 he rfl (hR _ _ (ResK.same hk oz hres))⟩⟩
 ·have hn:12≤x.l:=by have:=dF hb; omega
  refine F79.t2 r.a r.l r.c K.a x.a x.l x.c x.l ⟨rfl,rfl,rfl,rfl,trivial⟩ fun B2=>⟨_,hg1.t4,bc_true (decT (by omega)) ?_⟩
  have sp:Sp r.b r.o r.l x.b x.o x.l:=by unfold Dis at dis; unfold Sp; omega
  refine (c115 K r x X w1 hk1 hr hx1.toNt hn (by omega) hrl sp or1 ox hL hg1).mono ?_
  rintro e' w2 ⟨rfl,hsg,⟨K',b1,b2,b3⟩,hch⟩
  have hr2:=hch.st hr
  refine ⟨rfl,(c46 r (X*X) w2 { hr2 with sg:=hsg,lt:=hlt } (by omega)).mono ?_⟩
  rintro e' w3 ⟨_,rfl,k,hk',rfl,hw,hnz⟩
  have hw:=hw.symm
  subst hw
  refine ⟨_,_,_,rfl,fun B3=>ret1 he rfl (hR _ _ ⟨r.to k,K',rfl,hnz,hf0,b1,b2.mono h01.size,b3,or1.nxt b2 (fun h=>hr.blk h),fun h _=>(NoB.new hk h).nxt b2 (fun h0=>hr.blk h0),?_⟩)⟩
  refine (h01.none (un (fp z) K.free)).trans hch (fun _ _ _ h=>h) fun b i hb hm=>?_
  rcases hm with hm | hm
  ·rcases hf0 with ⟨_,e2,e3,e4⟩ | hf0
   ·exact .inl ⟨by rw [hm.1,e3],by have:=hm.2.1; omega,by have:=hm.2.2; omega⟩
   ·have:=hm.1; omega
  ·exact .inr hm
theorem c79 (K:SK) (z x:Sl) (X:Nat) (w:World) (hk:StkAt w K) (hz:St w z) (hx:Nz w x X) (ax:Al z x) (oz:Off K z) (ox:OffL K x) (lx:x.l<80) (hL:K.s.l≤2199023255552) (hg:Glb w) :
  Calls Tryz.prog 79 #[z.v,.pointer K.a,x.v] w (ResKE w K z (X*X)):=by
 refine F79.call z.a z.l z.c K.a x.a x.l x.c w _ fun B=>bc_intro (fun hb=>?_) (fun hb=>bc_intro (fun hb1=>?_) (fun hb1=>?_))
 ·have hX:X=0:=Nz.zero hx.toNt (by have:=eqE hb; omega)
  subst hX
  rw [Nat.zero_mul]
  exact ⟨0,rfl,Nat.zero_le _,fun B2=>ret1 rfl rfl (ResK.same hk oz (Res.of (nz_zero hz) (From.self w z 0) (Chg.refl _ _)))⟩
 ·have hx1:x.l=1:=by have:=eqE hb1; omega
  have d0:=dg_lt' X 0
  have hX:X=dg X 0:=(dg_self X (by have:=hx.lt; rw [hx1] at this; simpa using this)).symm
  have hsq:=mul_lt_sq _ _ d0 d0
  refine rdC (k:=0) (hx.at_ (by have:=hx.lc; omega)) rfl (by omega) (hx.sg 0 (by omega)) ((c73 z 2 w hz (by omega)).mono ?_)
  rintro e w1 ⟨_,rfl,r,rfl,hrl,hr,hf,hc⟩
  have hrc:=hr.lc
  refine ⟨_,_,_,rfl,(c113 (dg X 0) (dg X 0) d0 d0 w1).mono ?_⟩
  rintro e w2 ⟨rfl,hw⟩
  have hw:=hw.symm
  subst hw
  obtain ⟨p1,p2⟩:=put2 (b:=r.b) (o:=r.o) (o1:=r.o+1) rfl (hr.pl (by omega)) (hr.wr 1 (by omega)).1 (hr.wr 0 (by omega)).1 (show dg X 0*dg X 0/18446744073709551616<18446744073709551616 by omega) (show dg X 0*dg X 0%18446744073709551616<18446744073709551616 by omega)
  have hc3:Chg w1 (w1.setCell ⟨r.b,r.o+1,none⟩ (.int .u64 ((dg X 0*dg X 0/18446744073709551616:Nat):Int))) (inR r.b r.o (r.o+2)):=Chg.setCell (hr.pl (by omega)) _ ⟨rfl,by omega,by omega⟩
  refine ⟨_,trivial,_,trivial,rfl,wtC (k:=1) hr.wt rfl (by omega) (wtC (k:=0) (hc3.st hr).wt rfl (by omega) ?_)⟩
  have hp0:dg X 0*dg X 0%18446744073709551616+BB*(dg X 0*dg X 0/18446744073709551616)=X*X:=by rw [←hX]; exact Nat.mod_add_div _ _
  rw [hp0] at p1
  rw [Nat.add_zero]
  refine normR (w:=w) (z:=z) (r:=r) (V:=X*X) { p2.st hr with sg:=by rw [hrl]; exact p1,lt:=by rw [hrl,Nat.pow_two,hX]; exact Nat.mul_lt_mul_of_lt_of_le d0 (Nat.le_of_lt d0) BB_pos } hf (hf.chg (hc.none _) p2 (Nat.le_refl _) (by omega)) fun k hres=>⟨_,_,_,rfl,fun B6=>ret1 rfl rfl (ResK.same hk oz hres)⟩
 ·have hn1:1<x.l:=by have:=eqN hb; have:=eqN hb1; omega
  refine (c49 z x w hz.pc hx.toSt.pc hz.cm hx.cm).mono ?_
  rintro e w1 ⟨_,rfl,q,rfl,rfl,hq⟩
  have cd:Chg w w.drew none2:=Chg.drew0 w _
  refine ⟨_,rfl,bc_intro (fun h B3=>?_) (fun h B3=>?_)⟩
  ·exact f79p1 K (nilS w) x X w.drew w cd hk (nilSt w hz.gb) hx (nilApart _ _) (nilOff _ _) ox hn1 lx hL hg _ rfl _ (fun v w' h=>nilResK h) ⟨rfl,rfl,rfl,rfl,trivial⟩
  ·exact f79p1 K z x X w.drew w cd hk hz hx (ax.apart hx.lc fun hh=>by simp [hq.2 hh] at h) oz ox hn1 lx hL hg _ rfl _ (fun _ _ h=>h) ⟨rfl,rfl,rfl,rfl,trivial⟩
end Go.Proofs.YtlkjiiibmfpbcaaGreatDoor
