/- Contracts: a power without a modulus, the exponent of one word. Conditions: the power has fewer than 40 words. -/
import Derived.Test.YtlkjiiibmfpbcaaGreatDoorS22
import Derived.Test.YtlkjiiibmfpbcaaGreatDoorS32
import Derived.Test.YtlkjiiibmfpbcaaGreatDoorS29
import Derived.Test.YtlkjiiibmfpbcaaGreatDoorS31
namespace Go.Proofs.YtlkjiiibmfpbcaaGreatDoor
open Go
theorem slow51n {w:World} {K0:SK} {z x y m:Sl} {X Y:Nat} {a:Item} {L:List Item} (h:Bank w (stk K0 :: a :: L)) (ha:a.fp=fp z) (hz:St w z) (hx:nmz x X∈L) (hy:nmz y Y∈L) (hm0:m.l=0) (hX0:X≠0) (hXY:X^Y<BB^39) (hxl:x.l<40) (hyl:y.l=1) (hY2:2≤Y) (hL:K0.s.l≤1099511627776) (hg:Glb w)
  (e:Env) (R:Value→World→Prop) (hR:∀ (r:Sl) (K':SK) w',Bank w' (stk K' :: nmz r (X^Y) :: L)→K'.a=K0.a→K'.s.l=K0.s.l→Nxt w K0 K'→Sub w z r→Chg w w' (un (fp z) K0.free)→runD Tryz.prog e.defers w' fun w''=>R r.v w'') (hag:agree e (F51.l3 z.a z.l z.c K0.a x.a x.l x.c y.a y.l y.c m.a m.l m.c)) :
  W Tryz.prog 250 F51.p3 e w (retK Tryz.prog [.tmp 12] R):=by
 have hxP:Nz w x X:=h.all (nmz x X) (by simp [hx])
 have hyP:Nz w y Y:=h.all (nmz y Y) (by simp [hy])
 have hYB:Y<18446744073709551616:=by have:=hyP.lt; rw [hyl,Nat.pow_one] at this; exact this
 have hY0:Y≠0:=by
  have:=hyP.nm.le (by omega)
  rw [hyl] at this; simp at this; omega
 have hbl:=blen_le64 Y hYB
 have hbl0:=blen_ne Y hY0
 have hYd:dg Y 0=Y:=dg_self Y hYB
 refine F51.t3 z.a z.l z.c K0.a x.a x.l x.c y.a y.l y.c m.a m.l m.c hag fun B=>ResE.pass (c60 z x X w hz hxP (by unfold Len; omega)) fun r w1 h1 h2 h3=>⟨_,_,_,rfl,by unfold inI64; omega,?_⟩
 have hb1:Bank w1 (nmz r X :: stk K0 :: L):=(h.perm (List.Perm.swap _ _ _)).res ha h2 h3 h1 rfl
 have hy1:Nz w1 y Y:=hb1.all (nmz y Y) (by simp [hy])
 have hcell:=hy1.sg 0 (by omega)
 rw [hYd] at hcell
 refine rdC (k:=0) (hy1.at_ (by have:=hy1.lc; omega)) (by omega) (by omega) hcell ((c78 Y hYB w1).mono ?_)
 rintro e' w2 ⟨rfl,hw⟩
 have hw:=hw.symm
 subst hw
 have es:IntKind.wrap .u64 (((64-blen Y:Nat):Int)+1)=((64-blen Y+1:Nat):Int):=by
  rw [show ((((64-blen Y:Nat):Int))+1)=((64-blen Y+1:Nat):Int) by omega,wrapN _ (by omega)]
 refine ⟨_,rfl,?_⟩
 rw [es,wrapIN _ (by omega)]
 refine ⟨by omega,by unfold inI64; omega,fun B1=>?_⟩
 have hgw:GB≤w.heap.size:=hg.gb
 have n0:Nz w1 (nilS w) 0:=by
  have h0:=nz_zero (nilSt w hgw)
  exact h3.nz h0 fun i hi=>absurd hi (Nat.not_lt_zero i)
 have hb2:Bank w1 (stk K0 :: nmz r X :: nmz (nilS w) 0 :: nmz (nilS w) 0 :: nmz (nilS w) 0 :: L):=by
  have a1:=hb1.addNil w hgw n0
  have a2:=a1.addNil w hgw n0
  have a3:=a2.addNil w hgw n0
  refine a3.perm ?_
  have p1:∀ (n1 n2 n3 r s:Item) (L:List Item),(n1 :: n2 :: n3 :: r :: s :: L).Perm (s :: r :: n1 :: n2 :: n3 :: L):=fun n1 n2 n3 r s L=>by
   have q1:([n1,n2,n3]++(r :: s :: L)).Perm (r :: ([n1,n2,n3]++(s :: L))):=List.perm_middle
   have q2:([n1,n2,n3]++(s :: L)).Perm (s :: ([n1,n2,n3]++L)):=List.perm_middle
   exact q1.trans ((q2.cons r).trans (List.Perm.swap _ _ _))
  exact p1 _ _ _ _ _ _
 have subn:Sub w z (nilS w):=fun b i _ hm'=>by
  have h1:0≤i:=hm'.2.1
  have h2:i<0+0:=hm'.2.2
  omega
 have ex0:Ex w w1 K0 K0 z r (nilS w) (nilS w) (nilS w) X 0 0 0 L:=⟨hb2,rfl,rfl,Nxt.refl _ _,h3.l _,hg,(Sub.self w z).from_ h2 (Nat.le_refl _),subn,subn,subn⟩
 obtain ⟨nb,hnb⟩:∃ nb,blen Y=nb+1:=⟨blen Y-1,by omega⟩
 have hYlt:Y<2^(nb+1):=by rw [←hnb]; exact blen_lt Y
 have hYge:2^nb≤Y:=by have:=blen_le Y hY0; rw [hnb] at this; exact this
 have small:∀ {e:Nat},e≤Y→X^e<BB^39:=fun he=>Nat.lt_of_le_of_lt (Nat.pow_le_pow_right (Nat.pos_of_ne_zero hX0) he) hXY
 rw [F51.q6]
 refine W_for' (σ:=Nat × Sl × Sl × Sl × Sl) (fun s=>[(0,s.2.1.v),(1,.pointer K0.a),(2,x.v),(3,y.v),(4,m.v),(15,.int .u64 ((Y*2^(64-(nb+1)+(s.1+1))%18446744073709551616:Nat):Int)),(17,s.2.2.2.2.v),(18,.int .i64 (nb:Int)),(19,s.2.2.1.v),(20,s.2.2.2.1.v),(21,.int .i64 (s.1:Int))])
  (fun s wr=>s.1≤nb∧s.2.1.l<40∧∃ K Z A B C,Ex w wr K0 K z s.2.1 s.2.2.1 s.2.2.2.1 s.2.2.2.2 Z A B C L∧Z=X^(Y/2^(nb+1-(s.1+1))))
  (fun s=>nb-s.1) (0,r,nilS w,nilS w,nilS w) ⟨rfl,rfl,rfl,rfl,rfl,intv ?_,rfl,intv (by omega),rfl,rfl,rfl,trivial⟩ ⟨Nat.zero_le _,?_,K0,X,0,0,0,ex0,?_⟩ ?_
 ·rw [shl64 _ _ (by omega),hnb]
 ·exact Nat.lt_of_le_of_lt (h1.nm _ hxP.lt) hxl
 ·show X=X^(Y/2^(nb+1-(0+1)))
  have:Y/2^(nb+1-(0+1))=1:=by
   rw [show nb+1-(0+1)=nb by omega]
   refine Nat.div_eq_of_lt_le (by omega) ?_
   rw [Nat.pow_succ] at hYlt; omega
  rw [this,Nat.pow_one]
 rintro ⟨j,z1,zz,rr,qq⟩ B2 wr K2 ⟨hj,hzl,K,Z,A,B',C,ex,hZ⟩ hKn hKe _
 simp only at hj hzl ex hZ
 obtain ⟨v15,hv15⟩:∃ v15,v15=Y*2^(64-(nb+1)+(j+1))%18446744073709551616:=⟨_,rfl⟩
 have hv15B:v15<18446744073709551616:=by rw [hv15]; exact Nat.mod_lt _ (by omega)
 rw [←hv15]
 refine F51.t5 z1.a z1.l z1.c K0.a x.a x.l x.c y.a y.l y.c m.a m.l m.c v15 qq.a qq.l qq.c nb zz.a zz.l zz.c rr.a rr.l rr.c j ⟨rfl,rfl,rfl,rfl,rfl,rfl,rfl,rfl,rfl,rfl,rfl,trivial⟩ fun B3=>bc_intro (fun hb=>?_) (fun hb B4=>?_)
 ·have hjn:j<nb:=by have:=dT hb; omega
  obtain ⟨b1,b2,b3⟩:=bits_step (v:=Y) (n:=nb+1) (j:=j+1) (by omega) (by omega) hYlt
  rw [←hv15] at b1 b2
  have fin:∀ (z' zz':Sl) (K':SK) (w':World) (Z' A' e':Nat) (B6:Nat→Value),Ex w w' K0 K' z z' zz' rr qq Z' A' B' C L→Z'=X^e'→e'=Y/2^(nb+1-(j+1+1)) →
    W Tryz.prog 250 F51.p11 (E [(0,z'.v),(1,.pointer K0.a),(2,x.v),(3,y.v),(4,m.v),(15,.int .u64 (v15:Int)),(17,qq.v),(18,.int .i64 (nb:Int)),(19,zz'.v),(20,rr.v),(21,.int .i64 (j:Int))] B6 e.defers) w' (blockK 1 (thenW Tryz.prog 250 F51.p10 K2)):=by
   intro z' zz' K' w' Z' A' e' B6 ex' hz' he'
   refine F51.t11 z'.a z'.l z'.c K0.a x.a x.l x.c y.a y.l y.c m.a m.l m.c v15 qq.a qq.l qq.c nb zz'.a zz'.l zz'.c rr.a rr.l rr.c j ⟨rfl,rfl,rfl,rfl,rfl,rfl,rfl,rfl,rfl,rfl,rfl,trivial⟩ fun B7=>bc_false (neF (by omega)) fun B8=>?_
   refine F51.t15 z'.a z'.l z'.c K0.a x.a x.l x.c y.a y.l y.c m.a m.l m.c v15 qq.a qq.l qq.c nb zz'.a zz'.l zz'.c rr.a rr.l rr.c j ⟨rfl,rfl,rfl,rfl,rfl,rfl,rfl,rfl,rfl,rfl,rfl,trivial⟩ fun B9=>⟨by omega,fun B10=>?_⟩
   refine F51.t10 z'.a z'.l z'.c K0.a x.a x.l x.c y.a y.l y.c m.a m.l m.c _ qq.a qq.l qq.c nb zz'.a zz'.l zz'.c rr.a rr.l rr.c j ⟨rfl,rfl,rfl,rfl,rfl,rfl,rfl,rfl,rfl,rfl,rfl,trivial⟩ fun B11=>⟨by unfold inI64; omega,fun B12=>hKn _ _ (j+1,z',zz',rr,qq) ⟨rfl,rfl,rfl,rfl,rfl,intv (by rw [shl1,b2]),rfl,rfl,rfl,rfl,rfl,trivial⟩ rfl ⟨hjn,?_,K',Z',A',B',C,ex',?_⟩ (by show nb-(j+1)<nb-j; omega)⟩
   ·exact Nat.lt_of_le_of_lt (ex'.z_.nm 39 (by rw [hz',he']; exact small (Nat.div_le_self _ _))) (by omega)
   ·show Z'=X^(Y/2^(nb+1-(j+1+1)))
    rw [hz',he']
  refine ex.sqr (by omega) hL fun z' K' w' ex'=>⟨_,_,_,rfl,?_⟩
  rw [topbit v15 hv15B,b1]
  refine bc_intro (fun hb=>?_) (fun hb B4=>?_)
  ·have hbit:Y/2^(nb+1-(j+1+1))%2=1:=by have:=neN hb; omega
   have hl1:z'.l≤z1.l+z1.l:=ex'.z_.nm _ (prod_lt ex.z_.lt ex.z_.lt)
   exact ex'.mul hx (by omega) hxl fun z'' w'' ex''=>⟨_,_,_,rfl,fun B5=>fin z'' z' K' w'' _ _ _ B5 ex'' (show Z*Z*X=X^(2*(Y/2^(nb+1-(j+1)))+1) by rw [hZ,Nat.pow_succ,Nat.two_mul,Nat.pow_add]) (by rw [b3,hbit])⟩
  ·have hbit:Y/2^(nb+1-(j+1+1))%2=0:=by have:=neE hb; omega
   exact fin z' z1 K' w' _ _ _ B4 ex' (show Z*Z=X^(2*(Y/2^(nb+1-(j+1)))) by rw [hZ,Nat.two_mul,Nat.pow_add]) (by rw [b3,hbit]; rfl)
 ·have hjn:j=nb:=by have:=dF hb; omega
  subst hjn
  have hZe:Z=X^Y:=by
   rw [Nat.sub_self,Nat.pow_zero,Nat.div_one] at hZ
   exact hZ
  subst hZe
  have hz1:=ex.z_
  refine hKe _ _ (F51.t4 z1.a z1.l z1.c K0.a x.a x.l x.c y.a y.l y.c m.a m.l m.c qq.a qq.l qq.c zz.a zz.l zz.c rr.a rr.l rr.c ⟨rfl,rfl,rfl,rfl,rfl,rfl,rfl,rfl,trivial⟩ fun B5=>⟨by unfold inI64; omega,fun B6=>?_⟩)
  rw [F51.q9]
  refine W_for' (σ:=Unit) (fun _=>[(0,z1.v),(1,.pointer K0.a),(2,x.v),(3,y.v),(4,m.v),(17,qq.v),(19,zz.v),(20,rr.v),(22,.int .i64 (-1))]) (fun _ w'=>w'=wr) (fun _=>0) () ⟨rfl,rfl,rfl,rfl,rfl,rfl,rfl,rfl,intv (by rw [hyl]; rfl),trivial⟩ rfl ?_
  rintro _ B7 w' K3 hw _ hKe3 _
  have hw:=hw.symm
  subst hw
  refine F51.t8 z1.a z1.l z1.c K0.a x.a x.l x.c y.a y.l y.c m.a m.l m.c qq.a qq.l qq.c zz.a zz.l zz.c rr.a rr.l rr.c (-1) ⟨rfl,rfl,rfl,rfl,rfl,rfl,rfl,rfl,rfl,trivial⟩ fun B8=>bc_false (decF (by omega)) fun B9=>hKe3 _ _ (F51.t7 z1.a z1.l z1.c ⟨rfl,trivial⟩ fun B10=>(c46 z1 (X^Y) wr hz1.toNt (by omega)).mono ?_)
  rintro e' w' ⟨_,rfl,k,hk,rfl,hw,hnz⟩
  have hw:=hw.symm
  subst hw
  refine ⟨_,_,_,rfl,fun B11=>?_⟩
  have hbk:Bank wr (stk K :: nmz (z1.to k) (X^Y) :: L):=by
   have hA:Bank wr [stk K,nmz (z1.to k) (X^Y)]:=Bank.two ex.bank.head hnz (ex.bank.hdj (b:=nmz z1 (X^Y)) (by simp))
   have hL':Bank wr L:=ex.bank.tail.tail.tail.tail.tail
   refine ⟨fun t ht=>?_,?_⟩
   ·rcases List.mem_cons.1 ht with rfl | ht
    ·exact ex.bank.head
    ·rcases List.mem_cons.1 ht with rfl | ht
     ·exact hnz
     ·exact hL'.all t ht
   ·refine List.pairwise_cons.2 ⟨fun t ht=>?_,List.pairwise_cons.2 ⟨fun t ht=>ex.bank.tail.hdj (b:=t) (by simp [ht]),hL'.dj⟩⟩
    rcases List.mem_cons.1 ht with rfl | ht
    ·exact ex.bank.hdj (b:=nmz z1 (X^Y)) (by simp)
    ·exact ex.bank.hdj (b:=t) (by simp [ht])
  exact hR (z1.to k) K wr hbk ex.ka ex.kl ex.kn ex.sz ex.ch
end Go.Proofs.YtlkjiiibmfpbcaaGreatDoor
namespace Go.Proofs.YtlkjiiibmfpbcaaGreatDoor
open Go
section
variable {w:World} {K:SK} {z x y m:Sl} {X Y:Nat} {a:Item} {L:List Item}
theorem c51m (h:Bank w (stk K :: a :: L)) (ha:a.fp=fp z) (hz:∀ w',a.P w'→St w' z) (hx:nmz x X∈L) (hy:nmz y Y∈L) (hm0:m.l=0) (hX2:2≤X) (hY2:2≤Y) (lx:x.l=1) (ly:y.l=1) (hXY:X^Y<BB^39) (hK:K.a≠none)
  (hL:K.s.l≤549755813888) (hg:Glb w) {Q:Ending→World→Prop}
  (q:∀ (r:Sl) (K':SK) w',Bank w' (stk K' :: nmz r (X^Y) :: L)→K'.a=K.a→K'.s.l=K.s.l→Nxt w K K'→Sub w z r→Chg w w' (un (fp z) K.free)→Q (.returned r.v) w') :
  Calls Tryz.prog 51 #[z.v,.pointer K.a,x.v,y.v,m.v,.bool false] w Q:=by
 refine (F51.call z.a z.l z.c K.a x.a x.l x.c y.a y.l y.c m.a m.l m.c false w (fun v w'=>Q (.returned v) w') fun B=>?_).mono fun e w' ⟨v,h1,h2⟩=>by rw [h1]; exact h2
 have dzx:Dj (fp z) (fp x):=by have:=h.tail.hdj (b:=nmz x X) hx; rw [ha] at this; exact this
 have dzy:Dj (fp z) (fp y):=by have:=h.tail.hdj (b:=nmz y Y) hy; rw [ha] at this; exact this
 have hxP:Nz w x X:=h.all (nmz x X) (by simp [hx])
 have hyP:Nz w y Y:=h.all (nmz y Y) (by simp [hy])
 have hzP:St w z:=hz w (h.all a (by simp))
 have cd:Chg w w.drew none2:=Chg.drew0 w _
 have cd2:Chg w w.drew.drew none2:=cd.trans' (Chg.drew0 w.drew _)
 refine (alias_no dzx hzP hxP.toSt).mono ?_
 rintro e1 w1 ⟨rfl,hw⟩
 subst hw
 refine ⟨_,rfl,bc_false rfl ((alias_no dzy (cd.st hzP) (cd.st hyP.toSt)).mono ?_)⟩
 rintro e1 w1 ⟨rfl,hw⟩
 subst hw
 refine ⟨_,rfl,bc_false rfl fun B1=>?_⟩
 have b2:=h.none cd2
 have x2:Nz w.drew.drew x X:=b2.all (nmz x X) (by simp [hx])
 have y2:Nz w.drew.drew y Y:=b2.all (nmz y Y) (by simp [hy])
 have hXB:X<BB:=by have:=x2.lt; rw [lx,Nat.pow_one] at this; exact this
 have hYB:Y<BB:=by have:=y2.lt; rw [ly,Nat.pow_one] at this; exact this
 have hxc:=x2.sg 0 (by omega)
 have hyc:=y2.sg 0 (by omega)
 rw [dg_self X hXB] at hxc
 rw [dg_self Y hYB] at hyc
 have hxa:=x2.at_ (by have:=x2.lc; omega)
 have hya:=y2.at_ (by have:=y2.lc; omega)
 have last:∀ B',W Tryz.prog 250 F51.p2 (E [(0,z.v),(1,.pointer K.a),(2,x.v),(3,y.v),(4,m.v),(5,.bool false)] B' []) w.drew.drew (retK Tryz.prog [.tmp 12] fun v w'=>Q (.returned v) w'):=by
  intro B'
  refine F51.t2 z.a z.l z.c K.a x.a x.l x.c y.a y.l y.c m.a m.l m.c false ⟨rfl,rfl,rfl,rfl,rfl,rfl,trivial⟩ fun B2=>bc_true (eqT (by omega)) (rdC (k:=0) hya rfl (by omega) hyc (bc_false (eqF (by omega)) (bc_false (neF (by omega)) fun B3=>?_)))
  exact slow51n b2 ha (hz _ (b2.all a (by simp))) hx hy hm0 (by omega) hXY (by omega) ly hY2 (by omega) (cd2.glb hg) _ _
   (fun r K' w' k1 k2 k3 k4 k5 k6=>(q r K' w' k1 k2 k3 (k4.mono cd2.size) (fun b i hb hm=>k5 b i (Nat.lt_of_lt_of_le hb cd2.size) hm) ((cd2.none _).trans' k6))) ⟨rfl,rfl,rfl,rfl,rfl,trivial⟩
 refine F51.t1 z.a z.l z.c K.a x.a x.l x.c y.a y.l y.c m.a m.l m.c false ⟨rfl,rfl,rfl,rfl,rfl,rfl,trivial⟩ fun B2=>bc_false (eqF (by omega)) (bc_false (eqF (by omega)) (bc_false (eqF (by omega)) (bc_true (eqT (by omega)) (rdC (k:=0) hxa rfl (by omega) hxc (bc_false (eqF (by omega)) (bc_true (eqT (by omega)) (rdC (k:=0) hya rfl (by omega) hyc (bc_false (eqF (by omega)) ⟨false,?_,bc_false rfl last⟩))))))))
 cases hKa:K.a with
 | none=>exact absurd hKa hK
 | some p=>rfl
end
end Go.Proofs.YtlkjiiibmfpbcaaGreatDoor
namespace Go.Proofs.YtlkjiiibmfpbcaaGreatDoor
open Go
section
variable {w:World} {K:SK} {X Y:Nat} {L:List Item}
theorem c90 (h:Bank w (stk K :: L)) (hX2:2≤X) (hY2:2≤Y) (hXB:X<BB) (hYB:Y<BB) (hXY:X^Y<BB^39) (hK:K.a≠none) (hL:K.s.l≤549755813888) (hg:Glb w) {Q:Ending→World→Prop}
  (q:∀ (r:Sl) (K':SK) w',Bank w' (stk K' :: nmz r (X^Y) :: L)→K'.a=K.a→K'.s.l=K.s.l→Nxt w K K'→(r.c≠0→w.heap.size≤r.b)→Chg w w' K.free→Q (.returned r.v) w') :
  Calls Tryz.prog 90 #[.slice none 0 0,.pointer K.a,.int .u64 (X:Int),.int .u64 (Y:Int)] w Q:=by
 refine (F90.call none 0 0 K.a (X:Int) (Y:Int) w (fun v w'=>Q (.returned v) w') fun B=>?_).mono fun e w' ⟨v,h1,h2⟩=>by rw [h1]; exact h2
 have b0:=h.nilF hg.gb
 refine ResE.pass (c71 (nilS w) X w (nilSt _ hg.gb) hXB) fun r1 w1 n1 f1 c1=>⟨_,_,_,rfl,?_⟩
 have c1':Chg w w1 none2:=c1.nil _
 have b1:=b0.res rfl f1 c1 (a':=nmz r1 X) n1 rfl
 have hg1:=c1'.glb hg
 have b1n:=b1.nilF hg1.gb
 refine ResE.pass (c71 (nilS w1) Y w1 (nilSt _ hg1.gb) hYB) fun r2 w2 n2 f2 c2=>⟨_,_,_,rfl,?_⟩
 have c2':Chg w1 w2 none2:=c2.nil _
 have b2:=b1n.res rfl f2 c2 (a':=nmz r2 Y) n2 rfl
 have hg2:=c2'.glb hg1
 have b3:=b2.nilF hg2.gb
 have b4:=b3.perm (show List.Perm _ (stk K :: _ :: nmz r2 Y :: nmz r1 X :: L) from by
  refine (List.Perm.trans (List.perm_middle (l₁:=[_,nmz r2 Y,nmz r1 X]) (a:=stk K) (l₂:=L)) ?_)
  exact List.Perm.refl _)
 have z1:Nz w2 r1 X:=b4.all (nmz r1 X) (by simp)
 have z2:Nz w2 r2 Y:=b4.all (nmz r2 Y) (by simp)
 have l1:r1.l=1:=by
  have h1:r1.l≤1:=z1.nm 1 (by rw [Nat.pow_one]; exact hXB)
  have h2:r1.l≠0:=fun e=>by have:=Nz.zero z1.toNt e; omega
  omega
 have l2:r2.l=1:=by
  have h1:r2.l≤1:=z2.nm 1 (by rw [Nat.pow_one]; exact hYB)
  have h2:r2.l≠0:=fun e=>by have:=Nz.zero z2.toNt e; omega
  omega
 have c12:=c1'.trans' c2'
 refine c51m (z:=nilS w2) (x:=r1) (y:=r2) (m:=nilS w2) b4 rfl (fun _ h=>(h:Nz _ _ _).toSt) (by simp) (by simp) rfl hX2 hY2 l1 l2 hXY hK hL hg2 fun r K' w3 k1 k2 k3 k4 k5 k6=>⟨_,_,_,rfl,fun B1=>ret1 rfl rfl ?_⟩
 have b5:Bank w3 (stk K' :: nmz r (X^Y) :: L):=by
  have e:=k1.perm (show List.Perm _ (nmz r2 Y :: nmz r1 X :: stk K' :: nmz r (X^Y) :: L) from by
   exact (List.perm_append_comm_assoc [stk K',nmz r (X^Y)] [nmz r2 Y,nmz r1 X] L))
  exact e.tail.tail
 refine q r K' w3 b5 k2 k3 (k4.mono c12.size) (fun h0=>?_) ?_
 ·rcases Nat.lt_or_ge r.b w2.heap.size with hlt | hge
  ·obtain ⟨e1,e2,e3⟩:=k5 r.b r.o hlt ⟨rfl,Nat.le_refl _,by omega⟩
   exact absurd e3 (by have e3':r.o<0+0:=e3; omega)
  ·exact Nat.le_trans c12.size hge
 ·refine (c12.none _).trans k6 (fun _ _ _ h=>h) fun b i hb hm=>?_
  rcases hm with hm | hm
  ·have e3:i<0+0:=hm.2.2
   omega
  ·exact hm
end
end Go.Proofs.YtlkjiiibmfpbcaaGreatDoor
namespace Go.Proofs.YtlkjiiibmfpbcaaGreatDoor
open Go
structure Glc (w:World):Prop extends Glb w where
 t2:w.cell? ⟨2,0,none⟩=some (.int .i64 8)
theorem Chg.glc {w w':World} {S:Set2} (h:Chg w w' S) (hg:Glc w):Glc w':={ h.glb hg.toGlb with t2:=chgVar h hg.t2 (by decide) }
section
variable {w:World} {K:SK} {tb k3 b nd bb k i:Nat} {f:Nat→Value} {L:List Item}
theorem grow59 {rc lg:Sl} {V dd l0:Nat} (tl tc:Nat) (hb:Bank w (nmz lg V :: nmz rc V :: row tb k3 f :: L)) (hk3:i*3+3≤k3) (hi:i<tl) (f0:f (i*3)=rc.v) (f2:f (i*3+2)=.int .i64 (dd:Int)) (hV:V=b^dd) (hb2:2≤b) (hb62:b≤62) (lgl:lg.l=l0) (hVl:BB^(l0-1)≤V) (hVu:V<BB^l0) (hl0:1≤l0) (hl1:l0≤1000)
  {e:Env} {sp:Option Addr} {K0:Kont} (ha:agree e (F59.l12 sp b nd bb k (some ⟨tb,0,none⟩) tl tc lg.a lg.l lg.c i))
  (q:∀ e' w' (rc':Sl) (V' dd':Nat) (f':Nat→Value),Bank w' (nmz rc' V' :: row tb k3 f' :: L)→V'=b^dd'→V'<BB^l0→BB^l0≤V'*b→rc'.l=l0→f' (i*3)=rc'.v→f' (i*3+2)=.int .i64 (dd':Int)→(∀ j,j≠i*3→j≠i*3+2→f' j=f j) →
   Chg w w' (un (un (fp lg) (fp rc)) (fun b' _=>b'=tb))→agree e' (F59.l11 sp b nd bb k (some ⟨tb,0,none⟩) tl tc i)→e'.defers=e.defers→K0 .normal e' w') :
  W Tryz.prog 136 F59.p13 e w K0:=by
 rw [F59.q13]
 refine W_for' (σ:=Nat) (fun _=>F59.l12 sp b nd bb k (some ⟨tb,0,none⟩) tl tc lg.a lg.l lg.c i)
  (fun V' w'=>∃ (rc':Sl) (dd':Nat) (f':Nat→Value),Bank w' (nmz lg V' :: nmz rc' V' :: row tb k3 f' :: L)∧V'=b^dd'∧V'<BB^l0∧BB^(l0-1)≤V'∧f' (i*3)=rc'.v∧f' (i*3+2)=.int .i64 (dd':Int)∧(∀ j,j≠i*3→j≠i*3+2→f' j=f j) ∧
   Chg w w' (un (un (fp lg) (fp rc)) (fun b' _=>b'=tb))∧(∀ b i,b<w.heap.size→fp rc' b i→fp rc b i)) (fun V'=>BB^l0-V') V ha
  ⟨rc,dd,f,hb,hV,hVu,hVl,f0,f2,fun _ _ _=>rfl,Chg.refl _ _,fun _ _ _ h=>h⟩ ?_
 rintro V1 B1 w1 K1 ⟨rc1,d1,f1,b1,hV1,hV1u,hV1l,g0,g2,gf,ch1,hrc1⟩ hnext hexit -
 have lgN:Nz w1 lg V1:=b1.head
 have rcN:Nz w1 rc1 V1:=b1.tail.head
 have hrl:rc1.l=l0:=by
  have h1:=lgN.nm.uniq rcN.nm lgN.toNt rcN.toNt
  omega
 have hd1:d1≤64*l0:=by
  rcases Nat.lt_or_ge (64*l0) d1 with h | h
  ·have h2:2^(64*l0)≤b^d1:=Nat.le_trans (Nat.pow_le_pow_left hb2 _) (Nat.pow_le_pow_right (by omega) (by omega))
   rw [←BB2] at h2; omega
  ·exact h
 have lgc:=lgN.lc
 have hV1p:0<V1:=Nat.lt_of_lt_of_le (BBpow_pos _) hV1l
 refine F59.t12 sp b nd bb k (some ⟨tb,0,none⟩) tl tc lg.a lg.l lg.c i ⟨rfl,rfl,rfl,rfl,rfl,rfl,rfl,rfl,trivial⟩ fun B2=>?_
 refine Vec.pass (c91 lg lg V1 b 0 w1 lgN.toSt.wt lgN.toNt.rd rfl (.inr (.inr (.inl (Nat.le_refl _)))) (by omega) (by omega)) fun c T w2 ⟨t1,t2⟩ hT hsg hch=>⟨_,rfl,bc_intro (fun hc=>?_) (fun hc B3=>?_)⟩
 ·have hc0:c=0:=by have:=eqE hc; omega
  subst hc0
  rw [Nat.mul_zero,Nat.add_zero,Nat.add_zero] at t1
  rw [lgl] at hT
  subst t1
  have hVb:V1<V1*b:=by have:=Nat.mul_le_mul_left V1 hb2; omega
  have b2:Bank w2 (nmz lg (V1*b) :: nmz rc1 V1 :: row tb k3 f1 :: L):=b1.upd (a:=nmz lg V1) (a':=nmz lg (V1*b)) hch (fun b i _ hm=>⟨hm.1,hm.2.1,by have:=hm.2.2; omega⟩)
   { hch.st lgN.toSt with sg:=hsg,lt:=by rw [lgl]; exact hT,nm:=Nm.top fun _=>by rw [lgl]; omega } fun _ _ _ h=>h
  have R2:RowAt w2 tb k3 f1:=b2.tail.tail.head
  have lg2:Nz w2 lg (V1*b):=b2.head
  refine ⟨tb,0,rfl,i,rfl,hi,rc1.a,rc1.l,rc1.c,?_,?_⟩
  ·have:=R2.cell (i*3) (by omega)
   rw [g0] at this
   rw [show 0+i*3+0=i*3 by omega]; exact this
  refine ResE.pass (c60 rc1 lg (V1*b) w2 (b2.tail.head:Nz w2 rc1 V1).toSt lg2 (by unfold Len; omega)) fun rc2 w3 n3 fr3 c3=>?_
  have b3:Bank w3 (nmz rc2 (V1*b) :: nmz lg (V1*b) :: row tb k3 f1 :: L):=(b2.perm (List.Perm.swap _ _ _)).res (a:=nmz rc1 V1) (a':=nmz rc2 (V1*b)) rfl fr3 c3 n3 rfl
  have b3':Bank w3 (row tb k3 f1 :: nmz lg (V1*b) :: nmz rc2 (V1*b) :: L):=b3.pick 3 [2,1,0] rfl
  have R3:RowAt w3 tb k3 f1:=b3'.head
  obtain ⟨R4,c4⟩:=RowAt.set R3 (i:=i*3) (by omega) rc2.v
  have b4:=setRow b3' (i:=i*3) (by omega) rc2.v
  obtain ⟨R5,c5⟩:=RowAt.set R4 (i:=i*3+2) (by omega) (.int .i64 ((d1+1:Nat):Int))
  have b5:=setRow b4 (i:=i*3+2) (by omega) (.int .i64 ((d1+1:Nat):Int))
  have e0:0+i*3+0=i*3:=by omega
  have e2:0+i*3+2=i*3+2:=by omega
  refine ⟨_,_,_,rfl,tb,0,rfl,i,rfl,hi,⟨_,by rw [e0]; exact R3.cell _ (by omega)⟩,by rw [e0]; exact R3.fr _ (by omega),tb,0,rfl,i,rfl,hi,(d1:Int),?_,by unfold inI64; omega,tb,0,rfl,i,rfl,hi,⟨_,by rw [e2,e0]; exact R4.cell _ (by omega)⟩,by rw [e2,e0]; exact R4.fr _ (by omega),fun B4=>?_⟩
  ·rw [e2,e0]
   have:=R4.cell (i*3+2) (by omega)
   rw [setF_ne _ _ (by omega),g2] at this; exact this
  refine hnext _ _ (V1*b) ⟨rfl,rfl,rfl,rfl,rfl,rfl,rfl,rfl,trivial⟩ rfl ?_ (by omega)
  rw [e2,e0,show ((d1:Int)+1)=((d1+1:Nat):Int) by omega]
  refine ⟨rc2,d1+1,_,b5.pick 3 [1,2,0] rfl,by rw [hV1,Nat.pow_succ],hT,by omega,?_,setF_self _ _ _,fun j h1 h2=>?_,?_,fun b i h1 h2=>?_⟩
  ·rw [setF_ne _ _ (by omega),setF_self]
  ·rw [setF_ne _ _ h2,setF_ne _ _ h1]; exact gf j h1 h2
  ·refine (((ch1.via hch fun b i _ hm=>.inl (.inl ⟨hm.1,hm.2.1,by have:=hm.2.2; omega⟩)).via c3 fun b i hb hm=>.inl (.inr (hrc1 b i hb hm))).via c4 fun b i _ hm=>.inr hm).via c5 fun b i _ hm=>.inr hm
  ·exact hrc1 b i h1 (from_old (fr3.later (w:=w) (ch1.via hch (S:=un (un (fp lg) (fp rc)) (fun b' _=>b'=tb)) fun b i _ hm=>.inl (.inl ⟨hm.1,hm.2.1,by have:=hm.2.2; omega⟩))) (S:=fp rc1) (fun _ _ _ h=>h) b i h1 h2)
 ·have hc1:c≠0:=by have:=eqN hc; omega
  have b2:Bank w2 (nmz rc1 V1 :: row tb k3 f1 :: L):=(b1.upd (a:=nmz lg V1) (a':=sto lg) hch (fun b i _ hm=>⟨hm.1,hm.2.1,by have:=hm.2.2; omega⟩) (hch.st lgN.toSt) fun _ _ _ h=>h).tail
  refine hexit _ _ (q _ w2 rc1 V1 d1 f1 b2 hV1 hV1u ?_ hrl g0 g2 gf (ch1.via hch fun b i _ hm=>.inl (.inl ⟨hm.1,hm.2.1,by have:=hm.2.2; omega⟩)) ⟨rfl,rfl,rfl,rfl,rfl,rfl,rfl,trivial⟩ rfl)
  rw [lgl] at t1
  have:BB^l0*1≤BB^l0*c:=Nat.mul_le_mul_left _ (by omega)
  omega
end
end Go.Proofs.YtlkjiiibmfpbcaaGreatDoor
namespace Go.Proofs.YtlkjiiibmfpbcaaGreatDoor
open Go
theorem rowMade (w:World) (hg:GB≤w.heap.size) (z:Array Value) (n:Nat) (t:TypeId) {L:List Item} (h:Bank w L):Bank (w.alloc (.cells (madeCells z n) t)) (row w.heap.size n (fun j=>z[j%z.size]!) :: L)∧Chg w (w.alloc (.cells (madeCells z n) t)) none2:=by
 have hh:(w.alloc (.cells (madeCells z n) t)).heap[w.heap.size]?=some (.cells (madeCells z n) t (0,0)):=heap_alloc_new ..
 have hc:Chg w (w.alloc (.cells (madeCells z n) t)) none2:=Chg.alloc _ _ (fun a=>RowKit.frozen?_alloc_cells _ _ _ _) _
 refine ⟨h.new hc ⟨⟨hg,_,_,hh⟩,fun i hi=>?_,fun i hi=>by rw [frozen_eq,hh]; simp⟩ fun _ _ hm=>Nat.le_of_eq (Eq.symm hm),hc⟩
 rw [cell_eq,hh]
 show (madeCells z n)[i]?=_
 simp [madeCells,hi]
theorem len_of {w:World} {s:Sl} {V l:Nat} (h:Nz w s V) (h1:BB^(l-1)≤V) (h2:V<BB^l) (h3:1≤l):s.l=l:=by
 have a:=h.nm l h2
 have b:=(Nat.pow_lt_pow_iff_right (show 1<BB by unfold BB; omega)).1 (Nat.lt_of_le_of_lt h1 h.lt)
 omega
section
variable {w:World} {K:SK} {tb k3 b nd bb k i:Nat} {f:Nat→Value} {L:List Item}
theorem ent59 {rc:Sl} {V dd l0:Nat} (tl tc:Nat) (hb:Bank w (nmz rc V :: row tb k3 f :: L)) (hk3:i*3+3≤k3) (hi:i<tl) (f0:f (i*3)=rc.v) (f2:f (i*3+2)=.int .i64 (dd:Int)) (hV:V=b^dd) (hb2:2≤b) (hb62:b≤62) (hVl:BB^(l0-1)≤V) (hVu:V<BB^l0) (hl0:1≤l0) (hl1:l0≤1000)
  {e:Env} {sp:Option Addr} {K0:Kont} (ha:agree e (F59.l10 sp b nd bb k (some ⟨tb,0,none⟩) tl tc i))
  (q:∀ e' w' (rc':Sl) (dd':Nat) (f':Nat→Value),Bank w' (nmz rc' (b^dd') :: row tb k3 f' :: L)→b^dd'<BB^l0→BB^l0≤b^dd'*b→rc'.l=l0→f' (i*3)=rc'.v→f' (i*3+1)=.int .i64 (blen (b^dd'):Int)→f' (i*3+2)=.int .i64 (dd':Int)→(∀ j,j≠i*3→j≠i*3+1→j≠i*3+2→f' j=f j) →
   Chg w w' (un (fp rc) (fun b' _=>b'=tb))→agree e' (F59.l7 sp b nd bb k (some ⟨tb,0,none⟩) tl tc i)→e'.defers=e.defers→K0 .normal e' w') :
  W Tryz.prog 136 F59.p10 e w K0:=by
 have rcN:Nz w rc V:=hb.head
 have hrl:=len_of rcN hVl hVu hl0
 have R0:RowAt w tb k3 f:=hb.tail.head
 have e0:0+i*3+0=i*3:=by omega
 refine F59.t10 sp b nd bb k (some ⟨tb,0,none⟩) tl tc i ha fun B1=>⟨tb,0,rfl,i,rfl,hi,rc.a,rc.l,rc.c,by rw [e0,R0.cell _ (by omega),f0],?_⟩
 refine ResE.pass (c60 (nilS w) rc V w (nilSt w rcN.gb) rcN (by unfold Len; omega)) fun lg w1 n1 f1 c1=>⟨_,_,_,rfl,fun B2=>?_⟩
 have lgnew:lg.c≠0→w.heap.size≤lg.b:=fun h0=>by
  rcases f1 with ⟨_,_,e,_⟩ | h
  ·exact Nat.le_of_eq e.symm
  ·exact h
 have c1':Chg w w1 none2:=c1.mono fun b i _ hm=>by have h1:0≤i:=hm.2.1; have h2:i<0+0:=hm.2.2; omega
 have b1:Bank w1 (nmz lg V :: nmz rc V :: row tb k3 f :: L):=hb.new c1' n1 fun b i hm=>by rw [hm.1]; exact lgnew (by have:=hm.2.1; have:=hm.2.2; omega)
 refine grow59 tl tc b1 hk3 hi f0 f2 hV hb2 hb62 (len_of n1 hVl hVu hl0) hVl hVu hl0 hl1 ⟨rfl,rfl,rfl,rfl,rfl,rfl,rfl,rfl,trivial⟩ fun e' w2 rc2 V2 d2 f2 b2 hV2 u1 u2 hl2 g0 g2 gf c2 ha2 hd2=>?_
 have rc2N:Nz w2 rc2 V2:=b2.head
 have R2:RowAt w2 tb k3 f2:=b2.tail.head
 have e1:0+i*3+1=i*3+1:=by omega
 refine F59.t11 sp b nd bb k (some ⟨tb,0,none⟩) tl tc i ha2 fun B3=>⟨tb,0,rfl,i,rfl,hi,rc2.a,rc2.l,rc2.c,by rw [e0,R2.cell _ (by omega),g0],(c53 rc2 V2 w2 rc2N (by unfold Len; omega)).mono ?_⟩
 rintro e'' w3 ⟨_,rfl,rfl,hw⟩
 have hw:=hw.symm
 subst hw
 have b3:=setRow (show Bank w2 (row tb k3 f2 :: nmz rc2 V2 :: L) from b2.perm (List.Perm.swap _ _ _)) (i:=i*3+1) (by omega) (.int .i64 (blen V2:Int))
 obtain ⟨R3,c3⟩:=RowAt.set R2 (i:=i*3+1) (by omega) (.int .i64 (blen V2:Int))
 refine ⟨_,rfl,tb,0,rfl,i,rfl,hi,⟨_,by rw [e1]; exact R2.cell _ (by omega)⟩,by rw [e1]; exact R2.fr _ (by omega),fun B4=>?_⟩
 rw [e1]
 subst hV2
 refine q _ _ rc2 d2 _ (b3.perm (List.Perm.swap _ _ _)) u1 u2 hl2 (by rw [setF_ne _ _ (by omega)]; exact g0) (setF_self _ _ _) (by rw [setF_ne _ _ (by omega)]; exact g2) (fun j h1 h2 h3=>by rw [setF_ne _ _ h2]; exact gf j h1 h3) ?_ ⟨rfl,rfl,rfl,rfl,rfl,rfl,rfl,trivial⟩ hd2
 refine ((c1'.none (un (fp rc) (fun b' _=>b'=tb))).via c2 fun b i hb hm=>?_).via c3 fun b i _ hm=>.inr hm
 rcases hm with (hm | hm) | hm
 ·have:=lgnew (by have:=hm.2.1; have:=hm.2.2; omega); have:=hm.1; omega
 ·exact .inl hm
 ·exact .inr hm
end
theorem pow8 {bb b:Nat} (hb:b≤62) (h:BB≤bb*b):BB^7≤bb^8:=by
 rcases Nat.lt_or_ge (bb^8) (BB^7) with h1 | h1
 ·have h2:BB^8≤(bb*b)^8:=Nat.pow_le_pow_left h 8
  have h3:b^8≤62^8:=Nat.pow_le_pow_left hb 8
  rw [Nat.mul_pow] at h2
  have h4:bb^8*b^8≤bb^8*62^8:=Nat.mul_le_mul_left _ h3
  have h5:bb^8*62^8≤bb^8*BB:=Nat.mul_le_mul_left _ (by rw [BB_eq]; decide)
  have h6:bb^8*BB<BB^7*BB:=Nat.mul_lt_mul_of_pos_right h1 BB_pos
  have h7:BB^8=BB^7*BB:=BBpow_succ 7
  rw [←h7] at h6
  omega
 ·exact h1
theorem sq_low {V b l:Nat} (hb:b≤62) (h:BB^l≤V*b) (hl:1≤l):BB^(2*l-1)≤V*V:=by
 rcases Nat.lt_or_ge (V*V) (BB^(2*l-1)) with h1 | h1
 ·have h2:BB^l*BB^l≤(V*b)*(V*b):=Nat.mul_le_mul h h
  have e1:BB^l*BB^l=BB^(2*l-1)*BB:=by rw [←Nat.pow_add,←BBpow_succ,show 2*l-1+1=l+l by omega]
  have e2:(V*b)*(V*b)=(V*V)*(b*b):=by rw [Nat.mul_mul_mul_comm]
  have h3:b*b≤62*62:=Nat.mul_le_mul hb hb
  have h4:(V*V)*(b*b)≤(V*V)*(62*62):=Nat.mul_le_mul_left _ h3
  have h5:(V*V)*(62*62)≤(V*V)*BB:=Nat.mul_le_mul_left _ (by rw [BB_eq]; decide)
  have h6:(V*V)*BB<BB^(2*l-1)*BB:=Nat.mul_lt_mul_of_pos_right h1 BB_pos
  omega
 ·exact h1
structure LD (w0:World) (K:SK) (tb b k i:Nat) (L:List Item) (w:World) (K':SK) (r:Nat→Sl) (d:Nat→Nat) (f:Nat→Value):Prop where
 bank:Bank w (stk K' :: row tb (k*3) f :: (ents b r d i++L))
 tf:TabF b r d i f
 rest:∀ j,i≤j→j<k→f (j*3+2)=.int .i64 0
 ok:EntOk b r d i
 ka:K'.a=K.a
 kl:K'.s.l=K.s.l
 nx:Nxt w0 K K'
 ch:Chg w0 w K.free
section
variable {w0 w:World} {K K':SK} {tb b nd bb k i m:Nat} {f:Nat→Value} {L:List Item}
theorem round59 {r:Nat→Sl} {d:Nat→Nat} (h:LD w0 K tb b k i L w K' r d f) (hi:i<k) (hk6:k≤6) (htb:w0.heap.size≤tb) (hbb:bb=b^nd) (hb2:2≤b) (hb62:b≤62) (hbb1:bb<BB) (hbb2:BB≤bb*b) (hnd:1≤nd∧nd≤64) (hKa:K.a≠none) (hL:K.s.l≤549755813888) (hg:Glc w0)
  {e:Env} {K0:Kont} (ha:agree e (F59.l8 K.a b nd bb k (some ⟨tb,0,none⟩) k k i))
  (q:∀ e' w' K'' r' d' f',LD w0 K tb b k (i+1) L w' K'' r' d' f'→agree e' (F59.l7 K.a b nd bb k (some ⟨tb,0,none⟩) k k i)→e'.defers=e.defers→K0 .normal e' w') :
  W Tryz.prog 136 F59.p8 e w K0:=by
 have hgw:=h.ch.glc hg
 have R0:RowAt w tb (k*3) f:=h.bank.tail.head
 have e2:0+i*3+2=i*3+2:=by omega
 have e0:0+i*3+0=i*3:=by omega
 have hKa':=h.ka
 have hKl:=h.kl
 have fin:∀ (w1:World) (K1:SK) (rc:Sl) (dd:Nat) (f1:Nat→Value) (e1:Env),Bank w1 (nmz rc (b^dd) :: row tb (k*3) f1 :: stk K1 :: (ents b r d i++L))→f1 (i*3)=rc.v→f1 (i*3+2)=.int .i64 (dd:Int)→(∀ j,j≠i*3→j≠i*3+2→f1 j=f j)→BB^(8*2^i-1)≤b^dd→b^dd<BB^(8*2^i) →
   K1.a=K.a→K1.s.l=K.s.l→Nxt w0 K K1→Chg w0 w1 K.free→(rc.c≠0→w0.heap.size≤rc.b)→agree e1 (F59.l10 K.a b nd bb k (some ⟨tb,0,none⟩) k k i)→e1.defers=e.defers→W Tryz.prog 136 F59.p10 e1 w1 K0:=by
  intro w1 K1 rc dd f1 e1 hb g0 g2 gf lo up a1 a2 a3 a4 hnew ha1 hd1
  have hl8:8*2^i≤1000:=by
   have:2^i≤2^5:=Nat.pow_le_pow_right (by omega) (by omega)
   omega
  have hp:0<2^i:=Nat.two_pow_pos i
  refine ent59 k k hb (by omega) hi g0 g2 rfl hb2 hb62 lo up (by omega) hl8 ha1 fun e' w2 rc2 d2 f2 b2 u1 u2 hl2 s0 s1 s2 sf c2 ha2 hd2=>?_
  have hd2':d2≤512*2^i:=by
   rcases Nat.lt_or_ge (512*2^i) d2 with h | h
   ·have h2:2^(512*2^i)≤b^d2:=Nat.le_trans (Nat.pow_le_pow_left hb2 _) (Nat.pow_le_pow_right (by omega) (by omega))
    rw [show 512*2^i=64*(8*2^i) by omega,←BB2] at h2
    omega
   ·exact h
  have hce:ents b (fun j=>if j=i then rc2 else r j) (fun j=>if j=i then d2 else d j) i=ents b r d i:=ents_congr fun j hj=>⟨if_neg (by omega),if_neg (by omega)⟩
  refine q e' w2 K1 (fun j=>if j=i then rc2 else r j) (fun j=>if j=i then d2 else d j) f2 ⟨?_,⟨fun j hj=>?_,fun j hj=>?_,fun j hj=>?_⟩,fun j h1 h2=>?_,⟨fun j hj=>?_,fun j hj=>?_,fun j hj=>?_,fun j hj=>?_⟩,a1,a2,a3,?_⟩ ha2 (hd2.trans hd1)
  ·show Bank w2 (stk K1 :: row tb (k*3) f2 :: (nmz (if i=i then rc2 else r i) (b^(if i=i then d2 else d i)) :: ents b _ _ i++L))
   rw [if_pos rfl,if_pos rfl,hce]
   exact b2.pick 3 [2,1,0] rfl
  ·by_cases hji:j=i
   ·subst hji; rw [if_pos rfl]; exact s0
   ·rw [if_neg hji,sf _ (by omega) (by omega) (by omega),gf _ (by omega) (by omega)]; exact h.tf.c0 j (by omega)
  ·by_cases hji:j=i
   ·subst hji; rw [if_pos rfl]; exact s1
   ·rw [if_neg hji,sf _ (by omega) (by omega) (by omega),gf _ (by omega) (by omega)]; exact h.tf.c1 j (by omega)
  ·by_cases hji:j=i
   ·subst hji; rw [if_pos rfl]; exact s2
   ·rw [if_neg hji,sf _ (by omega) (by omega) (by omega),gf _ (by omega) (by omega)]; exact h.tf.c2 j (by omega)
  ·rw [sf _ (by omega) (by omega) (by omega),gf _ (by omega) (by omega)]; exact h.rest j (by omega) h2
  ·by_cases hji:j=i
   ·subst hji; rw [if_pos rfl]; exact hl2
   ·rw [if_neg hji]; exact h.ok.len j (by omega)
  ·by_cases hji:j=i
   ·subst hji; rw [if_pos rfl]; exact u1
   ·rw [if_neg hji]; exact h.ok.lo j (by omega)
  ·by_cases hji:j=i
   ·subst hji; rw [if_pos rfl]; exact u2
   ·rw [if_neg hji]; exact h.ok.up j (by omega)
  ·by_cases hji:j=i
   ·subst hji; rw [if_pos rfl]; exact hd2'
   ·rw [if_neg hji]; exact h.ok.d1 j (by omega)
  ·refine a4.via c2 fun x j hx hm=>?_
   rcases hm with hm | hm
   ·have:=hnew (by have:=hm.2.1; have:=hm.2.2; omega); have:=hm.1; omega
   ·omega
 refine F59.t8 K.a b nd bb k (some ⟨tb,0,none⟩) k k i ha fun B1=>⟨tb,0,rfl,i,rfl,hi,0,by rw [e2,R0.cell _ (by omega),h.rest i (Nat.le_refl _) hi],bc_true rfl (bc_intro (fun hb=>?_) (fun hb=>?_))⟩
 ·have hi0:i=0:=by have:=eqE hb; omega
  subst hi0
  refine ⟨8,hgw.t2,?_⟩
  rw [show IntKind.wrap .u64 8=((8:Nat):Int) from wrapN 8 (by omega),←hKa']
  have hbb8:bb^8<BB^39:=lt_pow_of_le (n:=8) (Nat.pow_lt_pow_left hbb1 (by omega)) (by omega)
  have hbb2':2≤bb:=by
   rcases Nat.lt_or_ge bb 2 with h1 | h1
   ·have:bb*b≤1*62:=Nat.mul_le_mul (by omega) hb62
    rw [BB_eq] at hbb2; omega
   ·exact h1
  refine c90 h.bank hbb2' (by omega) hbb1 (by rw [BB_eq]; omega) hbb8 (by rw [hKa']; exact hKa) (by omega) hgw.toGlb fun rc K1 w1 b1 ka1 kl1 nx1 hnew1 c1=>?_
  have b2:Bank w1 (row tb (k*3) f :: nmz rc (bb^8) :: stk K1 :: (ents b r d 0++L)):=b1.pick 3 [2,1,0] rfl
  have R1:RowAt w1 tb (k*3) f:=b2.head
  obtain ⟨R2,c2⟩:=RowAt.set R1 (i:=0) (by omega) rc.v
  have b3:=setRow b2 (i:=0) (by omega) rc.v
  obtain ⟨R3,c3⟩:=RowAt.set R2 (i:=2) (by omega) (.int .i64 ((nd*8:Nat):Int))
  have b4:=setRow b3 (i:=2) (by omega) (.int .i64 ((nd*8:Nat):Int))
  have g1:Glc w1:=c1.glc hgw
  have g2:Glc (w1.setCell ⟨tb,0,none⟩ rc.v):=c2.glc g1
  have chT:Chg w0 ((w1.setCell ⟨tb,0,none⟩ rc.v).setCell ⟨tb,2,none⟩ (.int .i64 ((nd*8:Nat):Int))) K.free :=
   ((h.ch.via c1 fun x j hx hm=>h.nx.free hx hm).via c2 fun x j hx hm=>by omega).via c3 fun x j hx hm=>by omega
  refine ⟨_,_,_,rfl,tb,0,rfl,0,rfl,by omega,⟨_,R1.cell 0 (by omega)⟩,R1.fr 0 (by omega),8,g2.t2,by unfold inI64; omega,tb,0,rfl,0,rfl,by omega,⟨_,R2.cell 2 (by omega)⟩,R2.fr 2 (by omega),fun B2=>?_⟩
  show W Tryz.prog 136 F59.p10 _ ((w1.setCell ⟨tb,0,none⟩ rc.v).setCell ⟨tb,2,none⟩ (.int .i64 ((nd:Int)*8))) K0
  rw [show ((nd:Int)*8)=((nd*8:Nat):Int) by omega]
  have hbd:bb^8=b^(nd*8):=by rw [hbb,←Nat.pow_mul]
  refine fin _ K1 rc (nd*8) (setF (setF f 0 rc.v) 2 (.int .i64 ((nd*8:Nat):Int))) _ ?_ (by show setF (setF f 0 rc.v) 2 _ 0=_; rw [setF_ne _ _ (by omega),setF_self]) (setF_self _ _ _) (fun j h1 h2=>by rw [setF_ne _ _ (show j≠2 by omega),setF_ne _ _ (show j≠0 by omega)]) ?_ ?_ (ka1.trans hKa') (kl1.trans hKl) (h.nx.trans nx1 h.ch.size) chT (fun h0=>Nat.le_trans h.ch.size (hnew1 h0)) ⟨by rw [hKa']; rfl,rfl,rfl,rfl,rfl,rfl,rfl,trivial⟩ rfl
  ·rw [←hbd]; exact b4.pick 3 [1,0,2] rfl
  ·rw [←hbd]; exact pow8 hb62 hbb2
  ·rw [←hbd]; exact Nat.pow_lt_pow_left hbb1 (by omega)
 ·have hi1:1≤i:=by have:=eqN hb; omega
  obtain ⟨p,hp⟩:∃ p,i=p+1:=⟨i-1,by omega⟩
  have ep0:0+p*3+0=p*3:=by omega
  have ep2:0+p*3+2=p*3+2:=by omega
  have hpk:p<k:=by omega
  have hpi:p<i:=by omega
  rw [show ((i:Int)-1)=(p:Int) by omega,←hKa']
  have hp2:0<2^p:=Nat.two_pow_pos p
  have hle:2^p≤2^4:=Nat.pow_le_pow_right (by omega) (by omega)
  have hrl:=h.ok.len p hpi
  have hmem:nmz (r p) (b^d p)∈(row tb (k*3) f :: (ents b r d i++L)):=by
   have:=ents_mem (b:=b) (r:=r) (d:=d) hpi
   simp [this]
  have hsz:(r p).l<80∨(80≤(r p).l∧(r p).l≤158):=by
   rw [hrl]
   have hc:8*2^p<80∨p=4:=by
    rcases Nat.lt_or_ge p 4 with h | h
    ·have:2^p≤2^3:=Nat.pow_le_pow_right (by omega) (by omega)
     omega
    ·exact .inr (by omega)
   rcases hc with h | h
   ·exact .inl h
   ·subst h; exact .inr (by decide)
  refine ⟨by unfold inI64; omega,tb,0,rfl,p,rfl,hpk,(r p).a,(r p).l,(r p).c,by rw [ep0,R0.cell _ (by omega),h.tf.c0 p hpi],?_⟩
  refine sqrN h.bank hmem hsz (by omega) hgw.toGlb fun rc K1 w1 b1 ka1 kl1 nx1 hnew1 c1=>?_
  have b2:Bank w1 (row tb (k*3) f :: nmz rc (b^d p*b^d p) :: stk K1 :: (ents b r d i++L)):=b1.pick 3 [2,0,1] rfl
  have R1:RowAt w1 tb (k*3) f:=b2.head
  obtain ⟨R2,c2⟩:=RowAt.set R1 (i:=i*3) (by omega) rc.v
  have b3:=setRow b2 (i:=i*3) (by omega) rc.v
  obtain ⟨R3,c3⟩:=RowAt.set R2 (i:=i*3+2) (by omega) (.int .i64 ((2*d p:Nat):Int))
  have b4:=setRow b3 (i:=i*3+2) (by omega) (.int .i64 ((2*d p:Nat):Int))
  have hdp:=h.ok.d1 p hpi
  have chT:Chg w0 ((w1.setCell ⟨tb,i*3,none⟩ rc.v).setCell ⟨tb,i*3+2,none⟩ (.int .i64 ((2*d p:Nat):Int))) K.free :=
   ((h.ch.via c1 fun x j hx hm=>h.nx.free hx hm).via c2 fun x j hx hm=>by omega).via c3 fun x j hx hm=>by omega
  refine ⟨_,_,_,rfl,tb,0,rfl,i,rfl,hi,⟨_,by rw [e0]; exact R1.cell _ (by omega)⟩,by rw [e0]; exact R1.fr _ (by omega),by unfold inI64; omega,tb,0,rfl,p,rfl,hpk,(d p:Int),?_,by unfold inI64; omega,tb,0,rfl,i,rfl,hi,⟨_,by rw [e2,e0]; exact R2.cell _ (by omega)⟩,by rw [e2,e0]; exact R2.fr _ (by omega),fun B2=>?_⟩
  ·rw [ep2,e0,R2.cell _ (by omega),setF_ne _ _ (by omega),h.tf.c2 p hpi]
  rw [e2,e0,show (2*(d p:Int))=((2*d p:Nat):Int) by omega]
  have hbd:b^d p*b^d p=b^(2*d p):=by rw [←Nat.pow_add,Nat.two_mul]
  have e8:8*2^i=2*(8*2^p):=by rw [hp,Nat.pow_succ]; omega
  refine fin _ K1 rc (2*d p) (setF (setF f (i*3) rc.v) (i*3+2) (.int .i64 ((2*d p:Nat):Int))) _ ?_ (by rw [setF_ne _ _ (by omega),setF_self]) (setF_self _ _ _) (fun j h1 h2=>by rw [setF_ne _ _ h2,setF_ne _ _ h1]) ?_ ?_ (ka1.trans hKa') (kl1.trans hKl) (h.nx.trans nx1 h.ch.size) chT (fun h0=>Nat.le_trans h.ch.size (hnew1 h0)) ⟨by rw [hKa']; rfl,rfl,rfl,rfl,rfl,rfl,rfl,trivial⟩ rfl
  ·rw [←hbd]; exact b4.pick 3 [1,0,2] rfl
  ·rw [←hbd,e8]; exact sq_low hb62 (h.ok.up p hpi) (by omega)
  ·rw [←hbd,e8]
   have:=prod_lt (h.ok.lo p hpi) (h.ok.lo p hpi)
   rwa [←Nat.two_mul] at this
end
end Go.Proofs.YtlkjiiibmfpbcaaGreatDoor
