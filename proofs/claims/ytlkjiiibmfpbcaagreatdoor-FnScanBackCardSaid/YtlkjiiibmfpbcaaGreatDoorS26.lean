/- Contracts: the product of two numbers, both of at least 40 words. Conditions: the shorter one has at most 78 words, the longer one at most 39 more; storages apart. -/
import Derived.Test.YtlkjiiibmfpbcaaGreatDoorS25
namespace Go.Proofs.YtlkjiiibmfpbcaaGreatDoor
open Go
theorem Al.of_dj {z x:Sl} (h:Dj (fp z) (wds x)):Al z x:=(Dj.apl h).al
theorem add_up {w:World} {z x:Sl} {Z V n:Nat} {L:List Item} {a:Item} (h:Bank w (nl z Z :: a :: L)) (hn:n≤z.l) (ha:∀ b i,wds x b i→a.fp b i) (hx:Nt w x V) (hxl:x.l≤z.l-n) (hlt:Z+BB^n*V<BB^z.l) {Q:Ending→World→Prop}
  (q:∀ w',Bank w' (nl z (Z+BB^n*V) :: a :: L)→Chg w w' (wds z)→Q (.returned undef) w'):Calls Tryz.prog 119 #[(z.sub n z.l).v,x.v] w Q:=by
 have hz:Nt w z Z:=h.head
 have lo:=hz.lo_nt n hn
 have hi:=hz.hi_nt n hn
 have hsplit:=Nat.mod_add_div Z (BB^n)
 have hm0:=Nat.zero_le (Z%BB^n)
 have hpow:BB^z.l=BB^n*BB^(z.l-n):=by rw [←Nat.pow_add]; congr 1; omega
 have hs:Z/BB^n+V<BB^(z.l-n):=by
  rw [hpow] at hlt
  rcases Nat.lt_or_ge (Z/BB^n+V) (BB^(z.l-n)) with h | h
  ·exact h
  ·have:=Nat.mul_le_mul_left (BB^n) h
   rw [Nat.mul_add] at this
   omega
 have dzx:Dj (wds z) (wds x):=fun b i h1 h2=>h.hdj (b:=a) (by simp) b i h1 (ha b i h2)
 have sp:Sp (z.sub n z.l).b (z.sub n z.l).o (z.sub n z.l).l x.b x.o x.l:=by
  show Sp z.b (z.o+n) (z.l-n) x.b x.o x.l
  unfold Sp
  by_cases e0:z.l-n=0
  ·exact .inl e0
  by_cases e1:x.l=0
  ·exact .inr (.inl e1)
  by_cases e2:z.b=x.b
  ·rcases Nat.lt_or_ge x.o (z.o+n) with h4 | h4
   ·rcases Nat.lt_or_ge (z.o+n) (x.o+x.l) with h5 | h5
    ·exact (dzx z.b (z.o+n) ⟨rfl,by omega,by omega⟩ ⟨e2,by omega,by omega⟩).elim
    ·omega
   ·rcases Nat.lt_or_ge x.o (z.o+n+(z.l-n)) with h5 | h5
    ·exact (dzx z.b x.o ⟨rfl,by omega,by omega⟩ ⟨e2,by omega,by omega⟩).elim
    ·omega
  ·exact .inr (.inr (.inl e2))
 refine (c119 (z.sub n z.l) x (Z/BB^n) V w hi hx.rd hx.lc hxl sp hs).mono ?_
 rintro e w6 ⟨rfl,h6,c6⟩
 have c6:Chg w w6 (wds (z.sub n z.l)):=c6
 have c6':Chg w w6 (wds z):=c6.mono fun b i _ hm=>cut_hi hn b i hm
 have lo6:Nt w6 (z.to n) (Z%BB^n):=c6.nt lo fun i hi hm=>cut_dj z n _ _ ⟨rfl,Nat.le_add_right _ _,by show z.o+i<z.o+n; have:i<n:=hi; omega⟩ hm
 have z6:Nt w6 z (Z+BB^n*V):=by
  have:=lo6.join h6 hn
  rwa [Nat.mul_add,←Nat.add_assoc,hsplit] at this
 exact q w6 (h.upd c6' (fun _ _ _ h=>h) z6 fun _ _ _ h=>h) c6'
def InQ (w:World) (K:SK) (z:Sl) (N V:Nat) (v:Value) (w':World):Prop:=∃ k,v=(z.to k).v∧k≤N∧Nz w' (z.to k) V∧Nt w' (z.to N) V∧Back w w' K∧Chg w w' (un (fp z) K.free)
theorem c80b (K:SK) (z x y:Sl) (X Y:Nat) (w:World) (hk:StkAt w K) (hz:St w z) (hN:x.l+y.l≤z.c) (hx:Nt w x X) (hy:Nt w y Y) (sx:SpC z x) (sy:SpC z y) (oz:Off K z) (ox:OffL K x) (oy:OffL K y) (dxy:Dj (wds x) (wds y)) (ly:40≤y.l) (ly2:y.l≤78) (hxy:y.l≤x.l) (hxy2:x.l≤y.l+39) (hL:K.s.l≤1099511627776) (hg:Glb w) :
  Calls Tryz.prog 80 #[z.v,.pointer K.a,x.v,y.v] w fun e w'=>∃ v,e=.returned v∧InQ w K z (x.l+y.l) (X*Y) v w':=by
 have hzc:=hz.lc
 have hxc:=hx.lc
 have hyc:=hy.lc
 have ax:=sx.apart hx.lc
 have ay:=sy.apart hy.lc
 refine F80.call z.a z.l z.c K.a x.a x.l x.c y.a y.l y.c w _ fun B=>bc_false (decF (by omega)) (bc_false (eqF (by omega)) (bc_false (eqF (by omega)) (bc_false (eqF (by omega)) ((c49 z x w hz.pc hx.toSt.pc hz.cm hx.cm).mono ?_))))
 rintro e w1 ⟨_,rfl,q,rfl,rfl,hq⟩
 have cd:Chg w w.drew none2:=Chg.drew0 w _
 have hq0:q=false:=by
  cases q
  ·rfl
  ·exact absurd (hq.1 rfl) sx.noq
 subst hq0
 refine ⟨_,rfl,bc_false rfl ((c49 z y w.drew (cd.st hz).pc (cd.nt_none hy).toSt.pc hz.cm hy.cm).mono ?_)⟩
 rintro e w1 ⟨_,rfl,q2,rfl,rfl,hq2⟩
 have hq0:q2=false:=by
  cases q2
  ·rfl
  ·exact absurd (hq2.1 rfl) sy.noq
 subst hq0
 have cd2:=cd.drew
 refine ⟨_,rfl,bc_false rfl fun B3=>F80.t1 z.a z.l z.c K.a x.a x.l x.c y.a y.l y.c x.l y.l ⟨rfl,rfl,rfl,rfl,rfl,rfl,trivial⟩ fun B4=>⟨by unfold inI64; omega,(c73i z (x.l+y.l) w.drew.drew (by omega)).mono ?_⟩⟩
 rintro e' w1 ⟨rfl,hw⟩
 obtain ⟨r,hre⟩:∃ r,r=z.to (x.l+y.l):=⟨_,rfl⟩
 have h01:Chg w w1 none2:=by rw [hw]; exact cd2
 have hr:St w1 r:=by rw [hre]; exact (h01.st hz).to_st _ hN
 have hrl:r.l=x.l+y.l:=by rw [hre]; rfl
 have hf0:From w z r:=by rw [hre]; exact From.self w z _
 have hrc:=hr.lc
 have hg1:=h01.glb hg
 have hk1:=hk.none h01
 have or1:Off K r:=Off.new hk hf0 oz
 have srx:SpC r x:=from_spc hf0 sx (fun h=>hx.toSt.blk h)
 have sry:SpC r y:=from_spc hf0 sy (fun h=>hy.toSt.blk h)
 have hXs:=Nat.mod_add_div X (BB^y.l)
 generalize hlo:X%BB^y.l=lo at hXs
 generalize hhi:X/BB^y.l=hi at hXs
 have hx1:=h01.nt_none hx
 have hy1:=h01.nt_none hy
 have hxlo:Nt w1 (x.to y.l) lo:=by rw [←hlo]; exact hx1.lo_nt _ hxy
 have hlob:lo<BB^y.l:=by rw [←hlo]; exact Nat.mod_lt _ (BBpow_pos _)
 have e2:(2*(y.l:Int))=((2*y.l:Nat):Int):=by omega
 have hXY:X*Y=lo*Y+BB^y.l*(hi*Y):=by rw [←hXs,Nat.add_mul,Nat.mul_assoc]
 have hlt:X*Y<BB^r.l:=by rw [hrl]; exact prod_lt hx.lt hy.lt
 refine ⟨r.a,r.l,r.c,by rw [hre],_,hg1.t5,bc_false (decF (by omega)) ⟨_,rfl,bc_false rfl fun B5=>F80.t2 r.a r.l r.c K.a x.a x.l x.c y.a y.l y.c x.l y.l ⟨rfl,rfl,rfl,rfl,rfl,rfl,trivial⟩ fun B6=>?_⟩⟩
 unfold F80.v2
 rw [e2]
 have cd3:Chg w1 w1.drew none2:=Chg.drew0 w1 _
 have h02:=h01.trans' cd3
 have dr:∀ s:Sl,SpC r s→s.l≤s.c→Dj (fp r) (wds s):=fun s h hl=>(h.apart hl).dj
 have hrd:St w1.drew r:=cd3.st hr
 have hkd:StkAt w1.drew K:=hk1.none cd3
 have b0:Bank w1.drew [stk K,sto r,nl x X,nl y Y]:=by
  refine ⟨by simp only [List.mem_cons,List.not_mem_nil,or_false,forall_eq_or_imp,forall_eq]; exact ⟨hkd,hrd,h02.nt_none hx,h02.nt_none hy⟩,?_⟩
  refine List.pairwise_cons.2 ⟨?_,List.pairwise_cons.2 ⟨?_,List.pairwise_cons.2 ⟨?_,by simp⟩⟩⟩
  ·simp only [List.mem_cons,List.not_mem_nil,or_false,forall_eq_or_imp,forall_eq]
   exact ⟨or1.dj,ox.dj,oy.dj⟩
  ·simp only [List.mem_cons,List.not_mem_nil,or_false,forall_eq_or_imp,forall_eq]
   exact ⟨dr x srx hxc,dr y sry hyc⟩
  ·simp only [List.mem_cons,List.not_mem_nil,or_false,forall_eq]
   exact dxy
 have b1:Bank w1.drew [stk K,sto (r.to (2*y.l)),nl (x.to y.l) lo,nl y Y]:=by
  have t1:Bank w1.drew [nl x X,stk K,sto r,nl y Y]:=b0.pick 4 [2,0,1,3] rfl
  have t2:Bank w1.drew (nl (x.to y.l) lo :: [stk K,sto r,nl y Y]):=t1.map1 (cd3.nt_none hxlo) (cut_lo hxy)
  have t3:Bank w1.drew [sto r,stk K,nl (x.to y.l) lo,nl y Y]:=t2.pick 4 [2,1,0,3] rfl
  have t4:Bank w1.drew (sto (r.to (2*y.l)) :: [stk K,nl (x.to y.l) lo,nl y Y]):=t3.map1 (a':=sto (r.to (2*y.l))) (hrd.to_st (2*y.l) (by omega)) fun _ _ h=>h
  exact t4.pick 4 [1,0,2,3] rfl
 have fin:∀ (e:Env) (w5:World) (K5:SK),agree e (F80.l3 r.a r.l r.c)→StkAt w5 K5→Nxt w1 K K5→Nt w5 r (X*Y)→Chg w w5 (un (fp z) K.free)→(e.defers=[]∧K5.s.l=K.s.l∨e.defers=[Dr K.a (K.s.l:Int)])→W Tryz.prog 121 F80.p3 e w5 (retK Tryz.prog [.tmp 8] (InQ w K z (x.l+y.l) (X*Y))):=by
  intro e w5 K5 ha hk5 hn5 hr5 hc5 hd
  refine F80.t3 r.a r.l r.c ha fun B=>normB hr5 fun k hk' hnz=>⟨_,_,_,rfl,fun B2=>?_⟩
  rcases hd with ⟨hd,hl⟩ | hd
  ·rw [hre] at hr5 hk' hnz ⊢
   exact ret1 hd rfl ⟨k,rfl,hk',hnz,hr5,⟨K5,hk5,hn5.mono h01.size,hl⟩,hc5⟩
  ·have hp:K5.a=K.a:=by unfold SK.a; rw [hn5.p]
   refine retR1 (K:=K5) (n:=K.s.l) (by rw [hp]; exact hd) rfl hk5 hn5.l fun w6 hk6 c6=>?_
   have hnc:Nxt w1 K (K5.cut K.s.l):=hn5.cut' _ (Nat.le_refl _)
   have o5:Off K5 (r.to k):=or1.nxt hn5 fun h=>hr.blk h
   have n6:=c6.nz_off hnz (o5.l hnz.toNt.toSt)
   have r6:Nt w6 r (X*Y):=c6.nt hr5 fun i hi hm=>or1.nxt hn5 (fun h=>hr.blk h) _ (by omega) (by omega) hm
   rw [hre] at r6 hk' n6 ⊢
   exact ⟨k,rfl,hk',n6,r6,⟨K5.cut K.s.l,hk6,hnc.mono h01.size,rfl⟩,hc5.via c6 fun b i hb hm=>.inr ((hn5.mono h01.size).free hb hm)⟩
 refine ⟨by unfold inI64; omega,2*y.l,rfl,by omega,y.l,rfl,by omega,(c118 b1 srx sry rfl rfl rfl ly ly2 (by omega) (cd3.glb hg1)).mono ?_⟩
 rintro e' w2 ⟨rfl,⟨K1,hk2,hnx,hl1⟩,hsg,hch⟩
 have hsg:Sg w2 r.b r.o (2*y.l) (lo*Y):=hsg
 have hch:Chg w1.drew w2 (un (fp r) K.free):=hch
 have hloY:lo*Y<BB^(2*y.l):=by have:=prod_lt hlob hy.lt; rwa [←Nat.two_mul] at this
 have hnx1:Nxt w1 K K1:=hnx.mono cd3.size
 have toz:∀ b i,b<w.heap.size→un (fp r) K.free b i→un (fp z) K.free b i:=fun b i hb hm=>hm.imp (fun hm=>from_sub hf0 b i hb hm) id
 have ch2:Chg w w2 (un (fp z) K.free):=(h02.none _).via hch toz
 have hp1:K1.a=K.a:=by unfold SK.a; rw [hnx.p]
 refine ⟨rfl,bc_intro (fun hb=>?_) (fun hb B7=>?_)⟩
 ·have hb:=dT hb
  have hr2:=hch.st hrd
  obtain ⟨w3,r1,r2,r3⟩:=clearW 45 Tryz.underlying45 (r.sub (2*y.l) r.l) w2 (hr2.sub_wt _ _ (by omega) hrc)
  have r3':Chg w2 w3 (un (fp r) K.free):=r3.mono fun b i _ hm=>.inl ⟨hm.1,by have:r.o+2*y.l≤i:=hm.2.1; omega,by have:i<r.o+2*y.l+(r.l-2*y.l):=hm.2.2; omega⟩
  have hr3:=r3.st hr2
  have rv:Nt w3 r (lo*Y):=by
   have a1:Nt w3 (r.to (2*y.l)) (lo*Y):={ hr3.to_st (2*y.l) (by omega) with sg:=r3.sg hsg fun i hi hm=>by have hi:i<2*y.l:=hi; have:r.o+2*y.l≤r.o+i:=hm.2.1; omega,lt:=hloY }
   have a2:Nt w3 (r.sub (2*y.l) r.l) 0:={ hr3.sub_st (2*y.l) r.l (by omega) hrc with sg:=r2,lt:=BBpow_pos _ }
   have:=a1.join a2 (by omega)
   rwa [Nat.mul_zero,Nat.add_zero] at this
  have hch3:Chg w1.drew w3 (un (fp r) K.free):=hch.trans' r3'
  have ch3:Chg w w3 (un (fp z) K.free):=(h02.none _).via hch3 toz
  have oK1:Off K1 r:=or1.nxt hnx1 fun h=>hr.blk h
  have hk3:StkAt w3 K1:=hk2.fp (z:=r) (r3.mono fun b i _ hm=>⟨hm.1,by have:r.o+2*y.l≤i:=hm.2.1; omega,by have:i<r.o+2*y.l+(r.l-2*y.l):=hm.2.2; omega⟩) oK1
  have b3:Bank w3 ([stk K1,nl r (lo*Y)]++[nl x X,nl y Y]):=by
   refine Bank.updN (A:=[stk K,sto r]) (A':=[stk K1,nl r (lo*Y)]) b0 hch3 (fun b i _ hm=>?_) (Bank.two hk3 rv (fun b i f1 f2=>oK1.dj b i f1 (wds_fp hrc b i f2))) fun a' ha' b i hb hf=>?_
   ·rcases hm with hm | hm
    ·exact ⟨sto r,by simp,hm⟩
    ·exact ⟨stk K,by simp,hm⟩
   ·simp only [List.mem_cons,List.not_mem_nil,or_false] at ha'
    rcases ha' with rfl | rfl
    ·exact ⟨stk K,by simp,stk_sub hnx b i hb hf⟩
    ·exact ⟨sto r,by simp,wds_fp hrc b i hf⟩
  refine ⟨by unfold inI64; omega,2*y.l,rfl,by omega,w3,r1,?_⟩
  rw [←hp1]
  refine (c103 w3 K1 hk3).mono ?_
  rintro e' w4 ⟨_,rfl,rfl,hw⟩
  have hw:=hw.symm
  subst hw
  refine ⟨_,rfl,by unfold inI64; omega,takeB b3 (by omega) (by omega) fun t K2 w4 htl b4 hKa hK2l hnx2 htf c4=>⟨_,_,_,rfl,fun B8=>?_⟩⟩
  have b4:Bank w4 [stk K2,sto t,nl r (lo*Y),nl x X,nl y Y]:=b4
  have hnx12:Nxt w1 K K2:=hnx1.trans hnx2 (Nat.le_trans cd3.size hch3.size)
  have ch4:Chg w w4 (un (fp z) K.free):=ch3.via c4 fun b i hb hm=>.inr ((hnx1.mono h01.size).free hb hm)
  have tof:∀ b i,b<w.heap.size→fp t b i→K.free b i:=fun b i hb hm=>(hnx1.mono h01.size).free hb (htf b i (Nat.lt_of_lt_of_le hb ch3.size) hm)
  rw [F80.q5,hp1,hl1]
  refine W_for' (σ:=Sl × Nat) (fun s=>F80.l4 r.a r.l r.c K.a x.a x.l x.c y.a y.l y.c x.l y.l s.1.a s.1.l s.1.c s.2) (fun s w'=>(s.2=y.l∧s.1=t∧w'=w4)∨(s.2=2*y.l∧StkAt w' K2∧Nt w' r (X*Y)∧Chg w w' (un (fp z) K.free))) (fun s=>2*y.l-s.2) (t,y.l)
   ⟨rfl,rfl,rfl,rfl,rfl,rfl,rfl,rfl,trivial⟩ (.inl ⟨rfl,rfl,rfl⟩) ?_
  rintro ⟨t',i⟩ B9 w' K0 hI hnext hexit -
  rcases hI with ⟨hi1,hi2,hw⟩ | ⟨hi1,hk5,hr5,hc5⟩
  ·have hi1:i=y.l:=hi1
   have hi2:t'=t:=hi2
   subst hi1 hi2 hw
   have xhi:Nt w' (x.sub y.l x.l) hi:=by
    have:Nt w' x X:=(b4.pick 5 [3] rfl:Bank w' [nl x X]).head
    rw [←hhi]; exact this.hi_nt _ hxy
   have yv:Nt w' y Y:=(b4.pick 5 [4] rfl:Bank w' [nl y Y]).head
   have ts:St w' t':=b4.tail.head
   have dtx:Dj (fp t') (wds x):=b4.tail.hdj (b:=nl x X) (by simp)
   have dty:Dj (fp t') (wds y):=b4.tail.hdj (b:=nl y Y) (by simp)
   refine F80.t4 r.a r.l r.c K.a x.a x.l x.c y.a y.l y.c x.l y.l t'.a t'.l t'.c y.l ⟨rfl,rfl,rfl,rfl,rfl,rfl,rfl,rfl,trivial⟩ fun B10=>bc_true (decT (by omega)) ⟨by unfold inI64; omega,y.l,x.l,rfl,by split <;> omega,hxy,hxc,?_⟩
   refine ResE.pass (c80t t' (x.sub y.l x.l) y hi Y K.a w' ts xhi yv (Al.of_dj fun b i h1 h2=>dtx b i h1 (cut_hi hxy b i h2)) (Al.of_dj dty) (by unfold Len; show x.l-y.l≤_; omega) (by unfold Len; omega) (.inl (by show x.l-y.l<40; omega)) (ch4.glb hg)) fun r2 w5 h1 h2 h3=>?_
   have b5:Bank w5 [nmz r2 (hi*Y),stk K2,nl r (lo*Y),nl x X,nl y Y]:=(show Bank w' [sto t',stk K2,nl r (lo*Y),nl x X,nl y Y] from b4.pick 5 [1,0,2,3,4] rfl).res (a':=nmz r2 (hi*Y)) rfl h2 h3 h1 rfl
   have b6:Bank w5 [nl r (lo*Y),nmz r2 (hi*Y),stk K2]:=(b5.pick 5 [2,0,1] rfl).left (A:=[_,_,_])
   have hhib:hi<BB^(x.l-y.l):=xhi.lt
   have hl2:r2.l≤r.l-y.l:=h1.nm _ (by have:=prod_lt hhib hy.lt; rwa [show x.l-y.l+y.l=r.l-y.l by omega] at this)
   have ch5:Chg w w5 (un (fp z) K.free):=ch4.via h3 fun b i hb hm=>.inr (tof b i hb hm)
   refine ⟨_,_,_,rfl,y.l,rfl,by omega,add_up b6 (by omega) (wds_fp h1.lc) h1.toNt hl2 (by rw [←hXY]; exact hlt) fun w6 b7 c7=>⟨rfl,by unfold inI64; omega,fun B11=>?_⟩⟩
   refine hnext _ _ (r2,2*y.l) ⟨rfl,rfl,rfl,rfl,rfl,rfl,rfl,intv (by show (y.l:Int)+y.l=((2*y.l:Nat):Int); omega),trivial⟩ rfl (.inr ⟨rfl,b7.tail.tail.head,?_,ch5.via c7 fun b i hb hm=>.inl (from_sub hf0 b i hb (wds_fp hrc b i hm))⟩) (by show 2*y.l-2*y.l<2*y.l-y.l; omega)
   rw [hXY]; exact b7.head
  ·have hi1:i=2*y.l:=hi1
   subst hi1
   refine F80.t4 r.a r.l r.c K.a x.a x.l x.c y.a y.l y.c x.l y.l t'.a t'.l t'.c (2*y.l:Nat) ⟨rfl,rfl,rfl,rfl,rfl,rfl,rfl,rfl,trivial⟩ fun B10=>bc_false (decF (by omega)) fun B11=>hexit _ _ ?_
   exact fin _ _ K2 ⟨rfl,trivial⟩ hk5 hnx12 hr5 hc5 (.inr rfl)
 ·have hb:=dF hb
  have hm:x.l=y.l:=by omega
  have hh0:hi=0:=by
   rw [←hhi]
   exact Nat.div_eq_of_lt (by have:=hx.lt; rwa [hm] at this)
  refine fin _ _ K1 ⟨rfl,trivial⟩ hk2 hnx1 ?_ ch2 (.inl ⟨rfl,hl1⟩)
  rw [hXY,hh0,Nat.zero_mul,Nat.mul_zero,Nat.add_zero]
  exact { hch.st hrd with sg:=by rw [hrl,hm,←Nat.two_mul]; exact hsg,lt:=by rw [hrl,hm,←Nat.two_mul]; exact hloY }
end Go.Proofs.YtlkjiiibmfpbcaaGreatDoor
namespace Go.Proofs.YtlkjiiibmfpbcaaGreatDoor
open Go
theorem c80q (K:SK) (z x y:Sl) (X Y:Nat) (w:World) (hk:StkAt w K) (hz:Nt w z 0) (hx:Nt w x X) (hy:Nt w y Y) (hX1:x.l=1→X≠0) (hY1:y.l=1→Y≠0) (sx:SpC z x) (sy:SpC z y) (oz:Off K z) (ox:OffL K x) (oy:OffL K y) (dxy:Dj (wds x) (wds y))
  (lx:x.l≤1000000) (ly:y.l≤1000000) (hs:x.l<40∨y.l<40∨(y.l≤78∧x.l≤y.l+2)) (hn:x.l+y.l≤z.l) (hL:K.s.l≤1099511627776) (hg:Glb w) :
  Calls Tryz.prog 80 #[z.v,.pointer K.a,x.v,y.v] w fun e w'=>∃ v,e=.returned v∧InQ w K z (x.l+y.l) (X*Y) v w':=by
 have hzc:=hz.lc
 by_cases h1:x.l<40∨y.l<40
 ·refine (c80w z x y X Y K.a w hz hx hy hX1 hY1 sx sy (by unfold Len; omega) (by unfold Len; omega) h1 hn hg).mono ?_
  rintro e w' ⟨_,rfl,k,rfl,hk',hnz,hsg,hlt,hch⟩
  have hV:=prod_lt hx.lt hy.lt
  have hz':=hch.st hz.toSt
  have c2:Chg w w' (fp z):=hch.mono fun b i _ hm=>⟨hm.1,hm.2.1,by have:=hm.2.2; omega⟩
  exact ⟨_,rfl,k,rfl,hnz.nm _ hV,hnz,{ hz'.to_st _ (by omega) with sg:=hsg.le hn,lt:=hV },⟨K,hk.fp c2 oz,Nxt.refl _ _,rfl⟩,c2.l _⟩
 ·by_cases h2:y.l≤x.l
  ·exact c80b K z x y X Y w hk hz.toSt (by omega) hx hy sx sy oz ox oy dxy (by omega) (by omega) h2 (by omega) hL hg
  ·refine F80.call z.a z.l z.c K.a x.a x.l x.c y.a y.l y.c w _ fun B=>bc_true (decT (by omega)) ?_
   have:=c80b K z y x Y X w hk hz.toSt (by omega) hy hx sy sx oz oy ox dxy.symm (by omega) (by omega) (by omega) (by omega) hL hg
   rw [Nat.mul_comm,Nat.add_comm y.l x.l] at this
   exact this.mono fun e w' ⟨v,h1,h2⟩=>by
    obtain ⟨k,rfl,h3⟩:=h2
    exact ⟨_,_,_,h1,fun B2=>ret1 rfl rfl ⟨k,rfl,h3⟩⟩
theorem mulB {K:SK} {z x y:Sl} {X Y:Nat} {w:World} {L:List Item} (h:Bank w (stk K :: num z 0 :: nl x X :: nl y Y :: L)) (hX1:x.l=1→X≠0) (hY1:y.l=1→Y≠0) (sx:SpC z x) (sy:SpC z y)
  (lx:x.l≤1000000) (ly:y.l≤1000000) (hs:x.l<40∨y.l<40∨(y.l≤78∧x.l≤y.l+2)) (hn:x.l+y.l≤z.l) (hL:K.s.l≤1099511627776) (hg:Glb w) {Q:Ending→World→Prop}
  (q:∀ k (K':SK) w',k≤x.l+y.l→Nz w' (z.to k) (X*Y)→Bank w' (stk K' :: num (z.to (x.l+y.l)) (X*Y) :: nl x X :: nl y Y :: L)→K'.a=K.a→K'.s.l=K.s.l→Nxt w K K'→Chg w w' (un (fp z) K.free)→Q (.returned (z.to k).v) w') :
  Calls Tryz.prog 80 #[z.v,.pointer K.a,x.v,y.v] w Q:=by
 have hz:Nt w z 0:=h.tail.head
 have hx:Nt w x X:=h.tail.tail.head
 have hy:Nt w y Y:=h.tail.tail.tail.head
 have dz:Dj K.free (fp z):=h.hdj (b:=num z 0) (by simp)
 have dx:Dj K.free (wds x):=h.hdj (b:=nl x X) (by simp)
 have dy:Dj K.free (wds y):=h.hdj (b:=nl y Y) (by simp)
 have dxy:Dj (wds x) (wds y):=h.tail.tail.hdj (b:=nl y Y) (by simp)
 refine (c80q K z x y X Y w h.head hz hx hy hX1 hY1 sx sy dz.off dx.offL dy.offL dxy lx ly hs hn hL hg).mono ?_
 rintro e w' ⟨_,rfl,k,rfl,hk,hnz,hnt,⟨K',b1,b2,b3⟩,hch⟩
 refine q k K' w' hk hnz ?_ (by unfold SK.a; rw [b2.p]) b3 b2 hch
 have oz':Off K' (z.to (x.l+y.l)):=dz.off.nxt b2 fun h=>hz.toSt.blk h
 refine Bank.updN (A:=[stk K,num z 0]) (A':=[stk K',num (z.to (x.l+y.l)) (X*Y)]) h hch (fun b i _ hm=>?_) (Bank.two b1 hnt oz'.dj) fun a' ha' b i hb hf=>?_
 ·rcases hm with hm | hm
  ·exact ⟨num z 0,by simp,hm⟩
  ·exact ⟨stk K,by simp,hm⟩
 ·simp only [List.mem_cons,List.not_mem_nil,or_false] at ha'
  rcases ha' with rfl | rfl
  ·exact ⟨stk K,by simp,stk_sub b2 b i hb hf⟩
  ·exact ⟨num z 0,by simp,hf⟩
theorem c92h (x y:Sl) (X Y:Nat) (w:World) (hx:Nt w x X) (hy:Nz w y Y) (h:Nz w x X∨x.l≤y.l):Calls Tryz.prog 92 #[x.v,y.v] w fun e w'=>e=.returned (.int .i64 (sgn X Y))∧Chg w w' none2:=by
 have go:∀ (g:x.l=y.l∨(Nz w x X∧Nz w y Y)),Calls Tryz.prog 92 #[x.v,y.v] w fun e w'=>e=.returned (.int .i64 (sgn X Y))∧Chg w w' none2:=fun g=>(c92g x y X Y w hx hy.toNt g).mono fun e w' ⟨v,h1,h2,h3⟩=>⟨by rw [h1,h2],h3⟩
 rcases h with h | h
 ·exact go (.inr ⟨h,hy⟩)
 ·rcases Nat.eq_or_lt_of_le h with h | h
  ·exact go (.inl h)
  ·refine (F92.call x.a x.l x.c y.a y.l y.c w (fun v w'=>v=.int .i64 (sgn X Y)∧Chg w w' none2) fun B=>bc_true (neT (by omega)) (bc_true (decT (by omega)) fun B1=>F92.t2 _ ⟨rfl,trivial⟩ fun B2 B3=>ret1 rfl (intv ?_) ⟨rfl,Chg.refl _ _⟩)).mono fun e w' ⟨v,h1,h2,h3⟩=>⟨by rw [h1,h2],h3⟩
   have h1:=hy.nm.le (by omega)
   have h2:=lt_pow_of_le hx.lt (show x.l≤y.l-1 by omega)
   rw [sgn,if_pos (by omega)]
theorem sgnPos {X Y:Nat}:(sgn X Y>0)↔Y<X:=by
 unfold sgn
 constructor
 ·intro h; split at h
  ·omega
  ·split at h <;> omega
 ·intro h; rw [if_neg (by omega),if_neg (by omega)]; omega
theorem subW {w:World} {z:Sl} {Z y:Nat} {L:List Item} (h:Bank w (nl z Z :: L)) (hy:y≤Z) (hy2:y<18446744073709551616) {Q:Ending→World→Prop}
  (q:∀ w',Bank w' (nl z (Z-y) :: L)→Chg w w' (wds z)→Q (.returned (.int .u64 0)) w'):Calls Tryz.prog 83 #[z.v,z.v,.int .u64 (y:Int)] w Q:=by
 have hz:Nt w z Z:=h.head
 have hzl:=hz.lt
 refine Vec.pass (c83 z z Z y w hz.toSt.wt hz.rd rfl (.inr (.inr (.inl (Nat.le_refl _)))) hz.lc hz.lc (fun h0=>hz.pl' h0) hy2) fun c V w' ⟨t1,t2⟩ hV hs hc=>?_
 have hc0:c=0∧V=Z-y:=by
  by_cases h0:z.l=0
  ·rw [h0,Nat.pow_zero] at hzl hV t1
   omega
  ·have:=t2 h0
   rcases Nat.eq_zero_or_pos c with h | h
   ·subst h; omega
   ·have:c=1:=by omega
    subst this; omega
 obtain ⟨rfl,rfl⟩:=hc0
 exact q w' (h.upd hc (fun _ _ _ h=>h) { hc.st hz.toSt with sg:=hs,lt:=hV } fun _ _ _ h=>h) hc
theorem lowSub {w:World} {z y:Sl} {Z Y n:Nat} {L:List Item} {a:Item} (h:Bank w (nl z Z :: a :: L)) (hn:n≤z.l) (hy:Nt w y Y) (ha:∀ b i,wds y b i→a.fp b i) (hyl:y.l=n) {Q:Ending→World→Prop}
  (q:∀ c lo w',lo+Y=Z%BB^n+BB^n*c→c≤1→lo<BB^n→Bank w' (nl (z.to n) lo :: nl (z.sub n z.l) (Z/BB^n) :: a :: L)→Chg w w' (wds (z.to n))→Q (.returned (.int .u64 (c:Int))) w') :
  Calls Tryz.prog 82 #[(z.to n).v,(z.to n).v,y.v] w Q:=by
 have hz:Nt w z Z:=h.head
 have b1:=h.split n hn
 have lo:=hz.lo_nt n hn
 have dzy:Dj (wds z) (wds y):=fun b i h1 h2=>h.hdj (b:=a) (by simp) b i h1 (ha b i h2)
 have ov:Ov (z.to n) y:=by
  show y.l=0∨y.b≠z.b∨z.o≤y.o∨y.o+y.l≤z.o
  by_cases e1:y.l=0
  ·exact .inl e1
  by_cases e2:y.b=z.b
  ·rcases Nat.lt_or_ge y.o z.o with h4 | h4
   ·rcases Nat.lt_or_ge z.o (y.o+y.l) with h5 | h5
    ·exact (dzy z.b z.o ⟨rfl,by omega,by omega⟩ ⟨e2.symm,by omega,by omega⟩).elim
    ·omega
   ·omega
  ·exact .inr (.inl e2)
 refine Vec.pass (c82 (z.to n) (z.to n) y (Z%BB^n) Y w lo.toSt.wt lo.rd hy.rd rfl hyl (.inr (.inr (.inl (Nat.le_refl _)))) ov) fun c V w' ⟨t1,t2⟩ hV hs hc=>?_
 have hc:Chg w w' (wds (z.to n)):=hc
 exact q c V w' t1 t2 hV (b1.upd hc (fun _ _ _ h=>h) { hc.st lo.toSt with sg:=hs,lt:=hV } fun _ _ _ h=>h) hc
theorem sub_split {Z Y lo c B:Nat} (h1:lo+Y=Z%B+B*c) (h:Y≤Z) (hlo:lo<B) (hc:c≤1) (hYB:Y<B):c≤Z/B∧lo+B*(Z/B-c)=Z-Y:=by
 have hs:=Nat.mod_add_div Z B
 have hd:=Nat.zero_le (Z/B)
 have hm:=Nat.zero_le (Z%B)
 rcases Nat.eq_zero_or_pos c with h0 | h0
 ·subst h0
  rw [Nat.mul_zero,Nat.add_zero] at h1
  rw [Nat.sub_zero]
  exact ⟨hd,by omega⟩
 ·have hc1:c=1:=by omega
  subst hc1
  rw [Nat.mul_one] at h1
  have h2:1≤Z/B:=by
   rcases Nat.eq_zero_or_pos (Z/B) with h3 | h3
   ·rw [h3,Nat.mul_zero] at hs; omega
   ·exact h3
  refine ⟨h2,?_⟩
  have:B*(Z/B-1)+B=B*(Z/B):=by rw [Nat.mul_sub_one,Nat.sub_add_cancel (Nat.le_mul_of_pos_right _ h2)]
  omega
end Go.Proofs.YtlkjiiibmfpbcaaGreatDoor
