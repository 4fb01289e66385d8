/- Contracts: divRecursiveStep. Conditions: the divisor's top bit is set; it has at most 158 words, or the quotient is short. -/
import Derived.Test.YtlkjiiibmfpbcaaGreatDoorS28
import Derived.Test.YtlkjiiibmfpbcaaGreatDoorS05
namespace Go.Proofs.YtlkjiiibmfpbcaaGreatDoor
open Go
theorem Dj.spw {a b:Sl} (h:Dj (wds a) (wds b)):Sp a.b a.o a.l b.b b.o b.l:=by
 unfold Sp
 by_cases e0:a.l=0
 ·exact .inl e0
 by_cases e1:b.l=0
 ·exact .inr (.inl e1)
 by_cases e2:a.b=b.b
 ·rcases Nat.lt_or_ge b.o a.o with h4 | h4
  ·rcases Nat.lt_or_ge a.o (b.o+b.l) with h5 | h5
   ·exact (h a.b a.o ⟨rfl,by omega,by omega⟩ ⟨e2,by omega,by omega⟩).elim
   ·omega
  ·rcases Nat.lt_or_ge b.o (a.o+a.l) with h5 | h5
   ·exact (h a.b b.o ⟨rfl,by omega,by omega⟩ ⟨e2,by omega,by omega⟩).elim
   ·omega
 ·exact .inr (.inr (.inl e2))
theorem c150s (K:SK) (q u v:Sl) (V:Nat) (w:World) (hk:StkAt w K) (hv:Nt w v V) (hn:2≤v.l) (hun:u.l<v.l) (hvl:v.l≤1000000) (hV:BB^(v.l-1)*9223372036854775808≤V) (ov:OffL K v) (hL:K.s.l≤2199023255552) :
  Calls Tryz.prog 150 #[q.v,.pointer K.a,u.v,v.v] w fun e w'=>e=.returned undef∧Back w w' K∧Chg w w' K.free:=by
 have hv1:9223372036854775808≤V/BB^(v.l-1):=by rw [Nat.le_div_iff_mul_le (BBpow_pos _),Nat.mul_comm]; exact hV
 have hvt:dg V (v.l-1)=V/BB^(v.l-1):=dg_top (by rw [show v.l-1+1=v.l by omega]; exact hv.lt)
 have hv1B:=dg_lt' V (v.l-1)
 refine (F150.call q.a q.l q.c K.a u.a u.l u.c v.a v.l v.c w (fun v' w'=>v'=undef∧Back w w' K∧Chg w w' K.free) fun B=>⟨by unfold inI64; omega,(c103 w K hk).mono ?_⟩).mono fun e w' ⟨v,h1,h2,h3⟩=>⟨by rw [h1,h2],h3⟩
 rintro e _ ⟨_,rfl,rfl,rfl⟩
 refine ⟨_,rfl,by unfold inI64; omega,?_⟩
 rw [show ((v.l:Int)+1)=((v.l+1:Nat):Int) by omega]
 refine (c104 _ K hk (v.l+1) (by omega) hL).mono ?_
 rintro e w1 ⟨_,rfl,t,K1,rfl,htl,ht,hto,htf,hk1,hnx,hc1,hl1⟩
 have hv1':Nt w1 v V:=hc1.nt hv fun i hi=>ov _ (by omega) (by omega)
 refine ⟨_,_,_,rfl,by unfold inI64; omega,rdC (k:=v.l-1) (hv.at_ (by have:=hv.lc; omega)) (by omega) (by omega) (hv1'.sg (v.l-1) (by omega)) ((c160 (dg V (v.l-1)) (by omega) hv1B w1).mono ?_)⟩
 rintro e w2 ⟨rfl,hc2⟩
 refine ⟨_,rfl,fun B1=>?_⟩
 rw [F150.q2]
 have hk2:=hk1.none hc2
 have hpe:K1.a=K.a:=by unfold SK.a; rw [hnx.p]
 refine W_for' (σ:=Unit) (fun _=>F150.l1 q.a q.l q.c u.a u.l u.c v.a v.l v.c (v.l:Int) ((u.l:Int)-(v.l:Int)) t.a t.l t.c (dg V (v.l-1):Int) (rcp (dg V (v.l-1)):Int) 0 ((u.l:Int)-(v.l:Int))) (fun _ wr=>wr=w2) (fun _=>0) () ⟨rfl,rfl,rfl,rfl,rfl,rfl,rfl,rfl,rfl,rfl,trivial⟩ rfl ?_
 rintro _ B2 wr K0 hw _ hexit -
 subst hw
 refine F150.t1 q.a q.l q.c u.a u.l u.c v.a v.l v.c (v.l:Int) ((u.l:Int)-(v.l:Int)) t.a t.l t.c (dg V (v.l-1):Int) (rcp (dg V (v.l-1)):Int) 0 ((u.l:Int)-(v.l:Int)) ⟨rfl,rfl,rfl,rfl,rfl,rfl,rfl,rfl,rfl,rfl,trivial⟩ fun B3=>bc_false (decF (by omega)) fun B4=>hexit _ _ ?_
 exact retR0n (K:=K1) (n:=K.s.l) (by rw [hpe]) hk2 hnx.l fun w9 h1 h2=>⟨rfl,⟨K1.cut K.s.l,h1,hnx.cut,rfl⟩,(hc1.trans' (hc2.none _)).via h2 fun b i hb hm=>hnx.free hb hm⟩
theorem renew2 {w w':World} {K K':SK} {z u:Sl} {Z U Z' U':Nat} {L:List Item} (h:Bank w (stk K :: nl z Z :: nl u U :: L)) (hn:Nxt w K K') (hk:StkAt w' K') (hz:Nt w' z Z') (hu:Nt w' u U') (hc:Chg w w' (un (un (wds z) (wds u)) K.free)) :
  Bank w' (stk K' :: nl z Z' :: nl u U' :: L):=by
 have hzu:Dj (wds z) (wds u):=h.tail.hdj (b:=nl u U) (by simp)
 have o2:Dj K'.free (wds z):=fun b i h1 h2=>h.hdj (b:=nl z Z) (by simp) b i (hn.free ((nl z Z).old h.tail.head h2) h1) h2
 have o3:Dj K'.free (wds u):=fun b i h1 h2=>h.hdj (b:=nl u U) (by simp) b i (hn.free ((nl u U).old h.tail.tail.head h2) h1) h2
 refine Bank.updN (A:=[stk K,nl z Z,nl u U]) (A':=[stk K',nl z Z',nl u U']) h hc (fun b i _ hm=>?_) (Bank.three hk hz hu o2 o3 hzu) fun a' ha' b i hb hf=>?_
 ·rcases hm with (hm | hm) | hm
  ·exact ⟨nl z Z,by simp,hm⟩
  ·exact ⟨nl u U,by simp,hm⟩
  ·exact ⟨stk K,by simp,hm⟩
 ·simp only [List.mem_cons,List.not_mem_nil,or_false] at ha'
  rcases ha' with rfl | rfl | rfl
  ·exact ⟨stk K,by simp,stk_sub hn b i hb hf⟩
  ·exact ⟨nl z Z,by simp,hf⟩
  ·exact ⟨nl u U,by simp,hf⟩
theorem d171 (n:Nat):D171 n:=by
 induction n using Nat.strongRecOn with
 | ind n ih =>
 intro w K z u vv U V L dp hvl b hn2 htop hz1 hzM huM hU hP ov hL hdp hnM hg Q q
 have uN:Nt w u U:=b.tail.tail.head
 have vN:Nt w vv V:=b.tail.tail.tail.head
 have zN:Nt w z 0:=b.tail.head
 have huc:=uN.lc; have hvc:=vN.lc; have hzc:=zN.lc
 have hVB:V<BB^n:=by have:=vN.lt; rwa [hvl] at this
 have hV0:0<V:=by have:0<BB^(n-1)*H63:=Nat.mul_pos (BBpow_pos _) (by decide); omega
 have vNm:Nz w (vv.to n) V:=by
  have:Nt w (vv.to n) V:=vN.low n (by omega) hVB
  refine { this with nm:=Nm.top fun _=>?_ }
  show BB^(n-1)≤V
  exact Nat.le_trans (Nat.le_mul_of_pos_right _ (by decide)) htop
 have hvv:vv.to n=vv:=by rw [←hvl]; rfl
 obtain ⟨ku,hku,uz⟩:=Nz.ex uN
 have b1:Bank w (nl u U :: stk K :: nl z 0 :: nl vv V :: L):=b.perm ((List.Perm.cons _ (List.Perm.swap _ _ _)).trans (List.Perm.swap _ _ _))
 have b2:=b1.top0 hku uz.lt
 have b3:Bank w (stk K :: nl z 0 :: nl (u.to ku) U :: nl vv V :: nl (u.sub ku u.l) 0 :: L):=b2.pick 5 [2,3,0,4,1] rfl
 have done:∀ w' Kn,StkAt w' Kn→Nxt w K Kn→Kn.s.l=K.s.l→Nt w' z (U/V)→Nt w' (u.to ku) (U%V)→Chg w w' (un (un (wds z) (wds (u.to ku))) K.free)→Q (.returned undef) w':=by
  intro w' Kn hk hnx hl hz hu hc
  have b4:=renew2 b3 hnx hk hz hu hc
  have b5:Bank w' (nl (u.to ku) (U%V) :: nl (u.sub ku u.l) 0 :: stk Kn :: nl z (U/V) :: nl vv V :: L):=b4.pick 5 [2,4,0,1,3] rfl
  have b6:Bank w' (stk Kn :: nl z (U/V) :: nl u (U%V) :: nl vv V :: L):=(b5.untop0 hku).pick 4 [1,2,0,3] rfl
  exact q Kn w' b6 (by unfold SK.a; rw [hnx.p]) hl hnx (hc.mono fun b i _ hm=>hm.imp (fun hm=>hm.imp id fun hm=>cut_lo hku b i hm) id)
 have hkz:ku≤n+z.l:=uz.nm _ (Nat.lt_of_lt_of_le hU (by
  have:BB^(n+z.l)=BB^(n+z.l-1)*BB:=by rw [←BBpow_succ]; congr 1; omega
  rw [this]; exact Nat.mul_le_mul_left _ (by decide)))
 refine (F171.call z.a z.l z.c K.a u.a u.l u.c vv.a vv.l vv.c dp w (fun v w'=>v=undef∧Q (.returned undef) w') fun B=>?_).mono fun e w' ⟨v,h1,h2,h3⟩=>by rw [h1,h2]; exact h3
 refine normQ uN uz hku ⟨_,_,_,rfl,?_⟩
 have vNm':Nz w (vv.to vv.l) V:=by rw [hvl]; exact vNm
 refine normQ vN vNm' (Nat.le_refl _) ⟨_,_,_,rfl,bc_intro (fun hb=>?_) (fun hb=>⟨_,hg.t10,bc_intro (fun hb2=>?_) (fun hb2=>⟨by show inI64 (((ku:Nat):Int)-((vv.l:Nat):Int)); unfold inI64; omega,bc_intro (fun hb3 B3=>?_) (fun hb3=>⟨by omega,?_⟩)⟩)⟩)⟩
 ·
  have hku0:ku=0:=by have h:=eqE hb; have h:((ku:Nat):Int)=0:=h; omega
  have hU0:U=0:=by have:=uz.lt; rw [show (u.to ku).l=ku from rfl,hku0] at this; simpa using this
  obtain ⟨w1,r1,r2,r3⟩:=clearW 45 Tryz.underlying45 z w zN.toSt.wt
  refine ⟨w1,r1,fun B2=>ret0' rfl ⟨rfl,done w1 K ?_ (Nxt.refl _ _) rfl ?_ ?_ (r3.mono fun b i _ hm=>.inl (.inl hm))⟩⟩
  ·have dz:Dj K.free (wds z):=b.hdj (b:=nl z 0) (by simp)
   exact (stk K).keep b.head r3 fun b i h1 h2=>dz b i h1 h2
  ·rw [hU0,Nat.zero_div]; exact { r3.st zN.toSt with sg:=r2,lt:=BBpow_pos _ }
  ·rw [hU0,Nat.zero_mod]
   exact { (r3.st uN.toSt).to_st ku (by omega) with sg:=by rw [show (u.to ku).l=0 from hku0]; exact Sg.zero,lt:=BBpow_pos _ }
 ·
  have hb2:=dT hb2
  have hbn:n<40:=by have h:((vv.l:Nat):Int)<40:=hb2; omega
  have dk1:Dj K.free (wds z):=b3.hdj (b:=nl z 0) (by simp)
  have dk2:Dj K.free (wds (u.to ku)):=b3.hdj (b:=nl (u.to ku) U) (by simp)
  have dk3:Dj K.free (wds vv):=b3.hdj (b:=nl vv V) (by simp)
  by_cases hlt:ku<vv.l
  ·refine (c150s K z (u.to ku) vv V w b.head vN (by omega) hlt (by omega) (by rw [hvl]; exact htop) dk3.offL (by omega)).mono ?_
   rintro e' w1 ⟨rfl,⟨K',g1,g2,g3⟩,hch⟩
   have hUV:U<V:=by
    have h1:=uz.lt
    have h2:=lt_pow_of_le h1 (show (u.to ku).l≤n-1 by show ku≤n-1; omega)
    have h3:BB^(n-1)≤V:=Nat.le_trans (Nat.le_mul_of_pos_right _ (by decide)) htop
    omega
   refine ⟨rfl,fun B2=>ret0' rfl ⟨rfl,done w1 K' g1 g2 g3 ?_ ?_ (hch.r _)⟩⟩
   ·rw [Nat.div_eq_of_lt hUV]; exact hch.nt zN fun i hi hm=>dk1 _ _ hm ⟨rfl,by omega,by omega⟩
   ·rw [Nat.mod_eq_of_lt hUV]; exact hch.nt uz.toNt fun i hi hm=>dk2 _ _ hm ⟨rfl,by omega,by omega⟩
  ·have dzu:Dj (wds z) (wds (u.to ku)):=b3.tail.hdj (b:=nl (u.to ku) U) (by simp)
   have dzv:Dj (wds z) (wds vv):=b3.tail.hdj (b:=nl vv V) (by simp)
   have duv:Dj (wds (u.to ku)) (wds vv):=b3.tail.tail.hdj (b:=nl vv V) (by simp)
   have hquo:U/V<BB^z.l:=by
    rw [Nat.div_lt_iff_lt_mul hV0]
    refine Nat.lt_of_lt_of_le hU ?_
    have e:BB^(n+z.l-1)*H63=BB^z.l*(BB^(n-1)*H63):=by rw [←Nat.mul_assoc,←Nat.pow_add,show n+z.l-1=z.l+(n-1) by omega]
    rw [e]; exact Nat.mul_le_mul_left _ htop
   refine (c150t K z (u.to ku) vv U V w b.head zN.toSt uz.toNt vN (by omega) (by show vv.l≤ku; omega) (by show ku≤_; omega) (by rw [hvl]; exact htop) ?_ dzu.spw dzv.spw duv.spw dk1.offL dk2.offL dk3.offL (by omega)).mono ?_
   ·show (z.l=ku-vv.l∧U/BB^(ku-vv.l)<V)∨ku-vv.l+1≤z.l
    by_cases hz:z.l=ku-vv.l
    ·refine .inl ⟨hz,?_⟩
     rw [←hz,Nat.div_lt_iff_lt_mul (BBpow_pos _)]
     have:=(Nat.div_lt_iff_lt_mul hV0).1 hquo
     rw [Nat.mul_comm]; exact this
    ·exact .inr (by omega)
   rintro e' w1 ⟨rfl,s1,s2,⟨K',g1,g2,g3⟩,hch⟩
   have s1:Sg w1 z.b z.o (min (ku-vv.l+1) z.l) (U/V):=s1
   have hch:Chg w w1 (un (un (inR z.b z.o (z.o+min (ku-vv.l+1) z.l)) (wds (u.to ku))) K.free):=hch
   obtain ⟨p,hp⟩:∃ p,p=min (ku-vv.l+1) z.l:=⟨_,rfl⟩
   rw [←hp] at s1 hch
   have hUp:U/V<BB^p:=by
    rcases Nat.le_total (ku-vv.l+1) z.l with h | h
    ·rw [hp,Nat.min_eq_left h,Nat.div_lt_iff_lt_mul hV0]
     have h1:U<BB^ku:=uz.lt
     have h3:BB^(n-1)≤V:=Nat.le_trans (Nat.le_mul_of_pos_right _ (by decide)) htop
     have h4:BB^ku=BB^(ku-vv.l+1)*BB^(n-1):=by rw [←Nat.pow_add,show ku-vv.l+1+(n-1)=ku by omega]
     rw [h4] at h1
     exact Nat.lt_of_lt_of_le h1 (Nat.mul_le_mul_left _ h3)
    ·rw [hp,Nat.min_eq_right h]; exact hquo
   have hup:Sg w z.b (z.o+p) (z.l-p) (0/BB^p):=zN.sg.hi p (z.l-p) (by omega)
   rw [Nat.zero_div] at hup
   have hup1:=hch.sg hup fun i hi hm=>by
    rcases hm with (hm | hm) | hm
    ·have:=hm.2.2; omega
    ·exact dzu z.b (z.o+p+i) ⟨rfl,by omega,by omega⟩ hm
    ·exact dk1 z.b (z.o+p+i) hm ⟨rfl,by omega,by omega⟩
   have hj:=s1.join hup1 hUp
   rw [Nat.mul_zero,Nat.add_zero,show p+(z.l-p)=z.l by omega] at hj
   refine ⟨rfl,fun B2=>ret0' rfl ⟨rfl,done w1 K' g1 g2 g3 { hch.st zN.toSt with sg:=hj,lt:=hquo } { hch.st uz.toNt.toSt with sg:=s2,lt:=?_ } (hch.mono fun b i _ hm=>hm.imp (fun hm=>hm.imp (fun hm=>⟨hm.1,hm.2.1,by have:=hm.2.2; omega⟩) id) id)⟩⟩
   exact Nat.lt_of_le_of_lt (Nat.mod_le _ _) uz.lt
 ·
  have hb3:=dT hb3
  have hlt:ku<n:=by have h:((ku:Nat):Int)-((vv.l:Nat):Int)<0:=hb3; omega
  have hUV:U<V:=by
   have h2:=lt_pow_of_le uz.lt (show (u.to ku).l≤n-1 by show ku≤n-1; omega)
   have h3:BB^(n-1)≤V:=Nat.le_trans (Nat.le_mul_of_pos_right _ (by decide)) htop
   omega
  exact ret0' rfl ⟨rfl,done w K b.head (Nxt.refl _ _) rfl (by rw [Nat.div_eq_of_lt hUV]; exact zN) (by rw [Nat.mod_eq_of_lt hUV]; exact uz.toNt) (Chg.refl _ _)⟩
 ·
  have hb2:=dF hb2
  have hb3:=dF hb3
  have hn40:40≤n:=by have h:¬((vv.l:Nat):Int)<40:=hb2; omega
  have hkn:n≤ku:=by have h:¬((ku:Nat):Int)-((vv.l:Nat):Int)<0:=hb3; omega
  have hq2:iQuo .i64 ((vv.l:Nat):Int) 2=((n/2:Nat):Int):=by rw [hvl]; exact iQuoI n 2 (by omega)
  obtain ⟨Bh,hBh⟩:∃ Bh,Bh=n/2:=⟨_,rfl⟩
  rw [←hBh] at hq2
  refine (c103 w K b.head).mono ?_
  rintro e' w1 ⟨_,rfl,rfl,hw⟩
  have hw:=hw.symm
  subst hw
  show ∃ x_16,_=Ending.returned (Value.int IntKind.i64 x_16)∧_
  refine ⟨_,rfl,?_⟩
  show inI64 (iQuo .i64 ((vv.l:Nat):Int) 2+1)∧Calls Tryz.prog 104 #[.pointer K.a,.int .i64 (iQuo .i64 ((vv.l:Nat):Int) 2+1)] w _
  rw [hq2,show ((Bh:Int)+1)=((Bh+1:Nat):Int) by omega]
  refine ⟨by unfold inI64; omega,takeB b3 (by omega) (by omega) fun qz K1 w1 hql b4 hKa hK1l hnx htf c1=>⟨_,_,_,rfl,fun B4=>?_⟩⟩
  have hqst:St w1 qz:=b4.tail.head
  have hql2:=hqst.lc
  have cx:Ctx z (u.to ku) vv qz U V n Bh (ku-n) (Bh-1) dp:={
   vl:=hvl
   ul:=by show ku=_; omega
   hB:=hBh
   hs:=by omega
   n40:=hn40
   nM:=hnM
   uM:=by show ku≤_; omega
   zM:=hzM
   ql:=hql
   qc:=by omega
   mz:=by
    have:n+z.l-1+1=n+z.l:=by omega
    omega
   top:=htop
   hU:=hU
   z1:=hz1
   hP:=by
    rcases hP with h | h
    ·exact .inl h
    ·exact .inr (by have:=uz.nm _ h; have:ku≤n+38:=this; omega)
   dp0:=hdp
   vB:=hVB
   ih:=ih }
  have dq:Dj K1.free (fp qz):=b4.hdj (b:=sto qz) (by simp)
  have li:LI w K z (u.to ku) vv qz U V n K1.s.l (ku-n) w1 K1 0 U:={
   bank:=by
    have b5:Bank w1 (sto qz :: [stk K1,nl z 0,nl (u.to ku) U,nl vv V]):=(b4.pick 5 [1,0,2,3,4] rfl).left (A:=[_,_,_,_,_])
    have b6:=b5.map1 (a':=hole (wds qz)) (fun b i hm=>hqst.blk (by have:=hm.2.1; have:=hm.2.2; omega) |> fun h=>by rw [hm.1]; exact h) (wds_fp hql2)
    exact b6.pick 5 [1,0,2,3,4] rfl
   val:=by rw [Nat.zero_mul,Nat.zero_add]
   lt:=by rw [show n+(ku-n)=ku by omega]; exact uz.lt
   lev:=rfl
   nx:=hnx
   ch:=c1.r _
   sq:=hqst
   ov:=ov.nxt hnx fun h=>vN.toSt.blk h
   oq:=dq.off }
  have htop2:∀ w' Kn,StkAt w' Kn→Nxt w K Kn→Kn.s.l=K.s.l→Nt w' z (U/V)→Nt w' (u.to ku) (U%V)→Chg w w' (un (un (wds z) (wds (u.to ku))) K.free)→(fun v w'=>v=undef∧Q (.returned undef) w') undef w':=fun w' Kn h1 h2 h3 h4 h5 h6=>⟨rfl,done w' Kn h1 h2 h3 h4 h5 h6⟩
  have hlv:K1.s.l+16*(n-(Bh-1))≤549755813888:=by omega
  rw [F171.q3]
  refine W_for' (σ:=Nat) (fun j=>F171.l2 z.a z.l z.c K.a (u.to ku).a (u.to ku).l (u.to ku).c vv.a vv.l vv.c dp n Bh qz.a qz.l qz.c j) (fun j w'=>j≤ku-n∧∃ K' Z Uj,LI w K z (u.to ku) vv qz U V n K1.s.l j w' K' Z Uj) (fun j=>j) (ku-n)
   ⟨rfl,rfl,rfl,rfl,rfl,intv (by show ((vv.l:Nat):Int)=n; omega),intv hq2,rfl,intv (by show ((ku:Nat):Int)-((vv.l:Nat):Int)=((ku-n:Nat):Int); omega),trivial⟩ ⟨Nat.le_refl _,_,_,_,li⟩ ?_
  rintro j B5 w' K0 ⟨hjm,K',Z,Uj,hli⟩ hnext hexit -
  refine F171.t2 z.a z.l z.c K.a (u.to ku).a (u.to ku).l (u.to ku).c vv.a vv.l vv.c dp n Bh qz.a qz.l qz.c j ⟨rfl,rfl,rfl,rfl,rfl,rfl,rfl,rfl,rfl,trivial⟩ fun B6=>bc_intro (fun hb B7=>?_) (fun hb B7=>hexit _ _ ?_)
  ·have hjB:Bh<j:=by have:=dT hb; omega
   rw [F171.q8]
   refine W_block ?_
   exact iter cx hli hjB hjm hlv (fun b i h1 h2=>htf b i h1 h2) hg ⟨rfl,rfl,rfl,rfl,rfl,rfl,rfl,rfl,rfl,trivial⟩ fun e' w'' K'' Z' U' h1 h2 h3=>hnext e' w'' (j-Bh) h1 h2 ⟨by omega,_,_,_,h3⟩ (by omega)
  ·have hjB:j≤Bh:=by have:=dF hb; omega
   exact fin171 cx hli hjB hjm hlv hnx.l (fun b i h1 h2=>htf b i h1 h2) hg ⟨rfl,rfl,rfl,rfl,rfl,rfl,rfl,rfl,trivial⟩ rfl htop2
end Go.Proofs.YtlkjiiibmfpbcaaGreatDoor
namespace Go.Proofs.YtlkjiiibmfpbcaaGreatDoor
open Go
set_option maxRecDepth 100000
set_option linter.unusedVariables false
namespace F12
noncomputable def body:Code:=bodyOf Tryz.f12
def kt:List (Nat × List Nat):=[]
variable (A0:Option Addr) (N0 C0:Nat) (I1:Int)
abbrev l0:List (Nat × Value):=[eS 0 A0 N0 C0,eI 1 I1]
def v0:VP:=fun B ds w K=>bc (decide (I1<(2:Int))) (Kd K .ret [(4,.string (ByteArray.mk #[]))] ds w) (bc (decide (I1>(62:Int))) (Kd K .ret [(4,.string (ByteArray.mk #[]))] ds w) (Cl 27 #[(.slice A0 N0 C0)] w fun r3 w4=>∃ x5a,∃ x5l,∃ x5c,r3=.returned (.slice x5a x5l x5c)∧Cl 26 #[(.slice x5a x5l x5c),(.int .i64 I1)] w4 fun r6 w7=>∃ x8,r6=.returned (.string x8)∧Kd K .ret [(4,.string x8)] ds w7))
theorem t0:VZ 15 body (l0 A0 N0 C0 I1) (v0 A0 N0 C0 I1):=tz kt [4] fun B ds w K=>by kernel_rfl
theorem call:VCl 12 [.tmp 4] #[.slice A0 N0 C0,.int .i64 I1] (v0 A0 N0 C0 I1):=cz Tryz.func12 (by kernel_rfl) Tryz.ntmps12 Tryz.results12 (by kernel_rfl) (t0 A0 N0 C0 I1)
end F12
namespace F13
noncomputable def body:Code:=bodyOf Tryz.f13
def kt:List (Nat × List Nat):=[(2,[0,1,5]),(6,[5]),(9,[5,8,9]),(12,[5])]
noncomputable def p1:Code:=sb 3 7 body
noncomputable def p2:Code:=sb 5 24 body
noncomputable def p3:Code:=sb 3 6 body
noncomputable def p4:Code:=sb 5 31 body
noncomputable def p5:Code:=sb 8 244 body
noncomputable def p6:Code:=sb 6 61 body
theorem q3:p3=.block 0 (.loop p2):=by kernel_rfl
theorem q6:p6=.block 2 (.loop p5):=by kernel_rfl
variable (A0:Option Addr) (N0 C0:Nat) (I1:Int) (A5:Option Addr) (N5 C5:Nat) (I8 I9:Int)
abbrev l0:List (Nat × Value):=[eS 0 A0 N0 C0,eI 1 I1]
def v0:VP:=fun B ds w K=>∃ w1,∃ x2a,∃ x2l,∃ x2c,Sem.run Tryz.prog (Instr.buildSlice 55 0 #[]) w=.ok (.slice x2a x2l x2c) w1∧Wd 55 p3 [eS 0 A0 N0 C0,eI 1 I1,eS 5 x2a x2l x2c] ds w1 (thenW Tryz.prog 55 p1 K)
theorem t0:VZ 55 body (l0 A0 N0 C0 I1) (v0 A0 N0 C0 I1):=tz kt [4] fun B ds w K=>by kernel_rfl
theorem call:VCl 13 [.tmp 4] #[.slice A0 N0 C0,.int .i64 I1] (v0 A0 N0 C0 I1):=cz Tryz.func13 (by kernel_rfl) Tryz.ntmps13 Tryz.results13 (by kernel_rfl) (t0 A0 N0 C0 I1)
abbrev l1:List (Nat × Value):=[eS 5 A5 N5 C5]
def v1:VP:=fun B ds w K=>bc ((N5:Int)==0) (Kd K .ret [(4,.string (ByteArray.mk #[48]))] ds w) (inI64 ((N5:Int)-1)∧Wd 55 p6 [eS 5 A5 N5 C5,eI 8 0,eI 9 ((N5:Int)-1)] ds w (thenW Tryz.prog 55 p4 K))
theorem t1:VT 55 p1 (l1 A5 N5 C5) (v1 A5 N5 C5):=tw kt [4] fun B ds w K=>by kernel_rfl
abbrev l2:List (Nat × Value):=[eS 0 A0 N0 C0,eI 1 I1,eS 5 A5 N5 C5]
def v2:VP:=fun B ds w K=>bc (decide ((N0:Int)>(0:Int))) (Cl 28 #[(.slice A0 N0 C0),(.int .i64 I1)] w fun r1 w2=>∃ x3a,∃ x3l,∃ x3c,True∧∃ x4,True∧r1=.returned (.tuple #[(.slice x3a x3l x3c),(.int .i64 x4)])∧Cl 29 #[(.int .i64 x4)] w2 fun r5 w6=>∃ x7,r5=.returned (.int .u8 x7)∧∃ w8,∃ x9a,∃ x9l,∃ x9c,Sem.run Tryz.prog (Instr.buildSlice 55 1 #[(0,(.int .u8 x7))]) w6=.ok (.slice x9a x9l x9c) w8∧∃ w10,∃ x11a,∃ x11l,∃ x11c,Sem.run Tryz.prog (builtin .append #[55,55] 55 #[false,false] #[(.slice A5 N5 C5),(.slice x9a x9l x9c)]) w8=.ok (.value (.slice x11a x11l x11c)) w10∧Kd K .normal [eS 0 x3a x3l x3c,eI 1 I1,eS 5 x11a x11l x11c] ds w10) (Kd K (.exit 0) [eS 0 A0 N0 C0,eI 1 I1,eS 5 A5 N5 C5] ds w)
theorem t2:VT 55 p2 (l2 A0 N0 C0 I1 A5 N5 C5) (v2 A0 N0 C0 I1 A5 N5 C5):=tw kt [0,1,5] fun B ds w K=>by kernel_rfl
abbrev l4:List (Nat × Value):=[eS 5 A5 N5 C5]
def v4:VP:=fun B ds w K=>∃ w1,∃ x2,Sem.run Tryz.prog (Go.convert 55 9 (.slice A5 N5 C5)) w=.ok (.string x2) w1∧Kd K .ret [(4,.string x2)] ds w1
theorem t4:VT 55 p4 (l4 A5 N5 C5) (v4 A5 N5 C5):=tw kt [4] fun B ds w K=>by kernel_rfl
abbrev l5:List (Nat × Value):=[eS 5 A5 N5 C5,eI 8 I8,eI 9 I9]
def v5:VP:=fun B ds w K=>bc (decide (I8<(I9:Int))) (nc A5 fun b2 o3=>∃ k1:Nat,I9=(k1:Int)∧k1<N5∧∃ x4,w.drew.cell? ⟨b2,o3+k1,none⟩=some (.int .u8 x4)∧nc A5 fun b6 o7=>∃ k5:Nat,I8=(k5:Int)∧k5<N5∧∃ x8,w.drew.cell? ⟨b6,o7+k5,none⟩=some (.int .u8 x8)∧nc A5 fun b10 o11=>∃ k9:Nat,I8=(k9:Int)∧k9<N5∧(∃ u12,w.drew.cell? ⟨b10,o11+k9,none⟩=some u12)∧w.drew.frozen? ⟨b10,o11+k9,none⟩=false∧nc A5 fun b14 o15=>∃ k13:Nat,I9=(k13:Int)∧k13<N5∧(∃ u16,World.cell? (w.drew.setCell ⟨b10,o11+k9,none⟩ (.int .u8 x4)) ⟨b14,o15+k13,none⟩=some u16)∧World.frozen? (w.drew.setCell ⟨b10,o11+k9,none⟩ (.int .u8 x4)) ⟨b14,o15+k13,none⟩=false∧inI64 (I8+1)∧inI64 (I9-1)∧Kd K .normal [eS 5 A5 N5 C5,eI 8 (I8+1),eI 9 (I9-1)] ds (World.setCell (w.drew.setCell ⟨b10,o11+k9,none⟩ (.int .u8 x4)) ⟨b14,o15+k13,none⟩ (.int .u8 x8))) (Kd K (.exit 2) [eS 5 A5 N5 C5,eI 8 I8,eI 9 I9] ds w)
theorem t5:VT 55 p5 (l5 A5 N5 C5 I8 I9) (v5 A5 N5 C5 I8 I9):=tw kt [5,8,9] fun B ds w K=>by kernel_rfl
end F13
namespace F26
noncomputable def body:Code:=bodyOf Tryz.f26
def kt:List (Nat × List Nat):=[]
variable (A0:Option Addr) (N0 C0:Nat) (I1:Int)
abbrev l0:List (Nat × Value):=[eS 0 A0 N0 C0,eI 1 I1]
def v0:VP:=fun B ds w K=>Cl 40 #[(.slice A0 N0 C0)] w fun r1 w2=>∃ x3a,∃ x3l,∃ x3c,r1=.returned (.slice x3a x3l x3c)∧Cl 41 #[(.slice x3a x3l x3c),(.bool false),(.int .i64 I1)] w2 fun r4 w5=>∃ x6a,∃ x6l,∃ x6c,r4=.returned (.slice x6a x6l x6c)∧∃ w7,∃ x8,Sem.run Tryz.prog (Go.convert 55 9 (.slice x6a x6l x6c)) w5=.ok (.string x8) w7∧Kd K .ret [(4,.string x8)] ds w7
theorem t0:VZ 10 body (l0 A0 N0 C0 I1) (v0 A0 N0 C0 I1):=tz kt [4] fun B ds w K=>by kernel_rfl
theorem call:VCl 26 [.tmp 4] #[.slice A0 N0 C0,.int .i64 I1] (v0 A0 N0 C0 I1):=cz Tryz.func26 (by kernel_rfl) Tryz.ntmps26 Tryz.results26 (by kernel_rfl) (t0 A0 N0 C0 I1)
end F26
namespace F29
noncomputable def body:Code:=bodyOf Tryz.f29
def kt:List (Nat × List Nat):=[]
variable (I0:Int)
abbrev l0:List (Nat × Value):=[eI 0 I0]
def v0:VP:=fun B ds w K=>bc (decide (I0<(10:Int))) (inI64 (48+I0)∧Kd K .ret [(2,.int .u8 (IntKind.wrap .u8 (48+I0)))] ds w) (bc (decide (I0<(36:Int))) (inI64 (97+I0)∧inI64 ((97+I0)-10)∧Kd K .ret [(2,.int .u8 (IntKind.wrap .u8 ((97+I0)-10)))] ds w) (inI64 (65+I0)∧inI64 ((65+I0)-36)∧Kd K .ret [(2,.int .u8 (IntKind.wrap .u8 ((65+I0)-36)))] ds w))
theorem t0:VZ 20 body (l0 I0) (v0 I0):=tz kt [2] fun B ds w K=>by kernel_rfl
theorem call:VCl 29 [.tmp 2] #[.int .i64 I0] (v0 I0):=cz Tryz.func29 (by kernel_rfl) Tryz.ntmps29 Tryz.results29 (by kernel_rfl) (t0 I0)
end F29
namespace F54
noncomputable def body:Code:=bodyOf Tryz.f54
def kt:List (Nat × List Nat):=[]
variable (M0:Nat)
abbrev l0:List (Nat × Value):=[(0,.float .f64 M0)]
def v0:VP:=fun B ds w K=>Cl 86 #[(.float .f64 M0)] w fun r1 w2=>∃ x3,r1=.returned (.float .f64 x3)∧Kd K .ret [(2,.float .f64 x3)] ds w2
theorem t0:VZ 7 body (l0 M0) (v0 M0):=tz kt [2] fun B ds w K=>by kernel_rfl
theorem call:VCl 54 [.tmp 2] #[.float .f64 M0] (v0 M0):=cz Tryz.func54 (by kernel_rfl) Tryz.ntmps54 Tryz.results54 (by kernel_rfl) (t0 M0)
end F54
namespace F58
noncomputable def body:Code:=bodyOf Tryz.f58
def kt:List (Nat × List Nat):=[(3,[0,2,3,4]),(1000000,[2,3])]
noncomputable def p1:Code:=sb 3 7 body
noncomputable def p2:Code:=sb 6 52 body
noncomputable def p3:Code:=sb 4 13 body
theorem q3:p3=.block 0 (.loop p2):=by kernel_rfl
variable (I0 I2 I3 I4:Int)
abbrev l0:List (Nat × Value):=[eU 0 I0]
def v0:VP:=fun B ds w K=>I0≠(0:Int)∧Wd 16 p3 [eU 0 I0,eU 2 I0,eI 3 1,eU 4 (iQuo .u64 18446744073709551615 I0)] ds w (thenW Tryz.prog 16 p1 K)
theorem t0:VZ 16 body (l0 I0) (v0 I0):=tz kt [2,3] fun B ds w K=>by kernel_rfl
theorem call:VCl 58 [.tmp 2,.tmp 3] #[.int .u64 I0] (v0 I0):=cz Tryz.func58 (by kernel_rfl) Tryz.ntmps58 Tryz.results58 (by kernel_rfl) (t0 I0)
abbrev l1:List (Nat × Value):=[eU 2 I2,eI 3 I3]
def v1:VP:=fun B ds w K=>Kd K .ret [eU 2 I2,eI 3 I3] ds w
theorem t1:VT 16 p1 (l1 I2 I3) (v1 I2 I3):=tw kt [2,3] fun B ds w K=>by kernel_rfl
abbrev l2:List (Nat × Value):=[eU 0 I0,eU 2 I2,eI 3 I3,eU 4 I4]
def v2:VP:=fun B ds w K=>bc (decide (I2≤(I4:Int))) (inI64 (I3+1)∧Kd K .normal [eU 0 I0,eU 2 (IntKind.wrap .u64 (I2*I0)),eI 3 (I3+1),eU 4 I4] ds w) (Kd K (.exit 0) [eU 0 I0,eU 2 I2,eI 3 I3,eU 4 I4] ds w)
theorem t2:VT 16 p2 (l2 I0 I2 I3 I4) (v2 I0 I2 I3 I4):=tw kt [0,2,3,4] fun B ds w K=>by kernel_rfl
end F58
namespace F86
noncomputable def body:Code:=bodyOf Tryz.f86
def kt:List (Nat × List Nat):=[]
variable (M0:Nat)
abbrev l0:List (Nat × Value):=[(0,.float .f64 M0)]
def v0:VP:=fun B ds w K=>Cl 125 #[(.float .f64 M0)] w fun r1 w2=>∃ x3,True∧∃ x4,True∧r1=.returned (.tuple #[(.float .f64 x3),(.int .i64 x4)])∧∃ w5,∃ x6,Sem.run Tryz.prog (do eqGuard .eql 80 (Operand.tmp 10) (Operand.const (Value.float FloatKind.f64 4602678819172646912)) (.float .f64 x3) (Value.float FloatKind.f64 4602678819172646912); Go.binOp .eql 80 (.float .f64 x3) (Value.float FloatKind.f64 4602678819172646912)) w2=.ok (.bool x6) w5∧bc x6 (inI64 (x4-1)∧∃ w7,∃ x8,Sem.run Tryz.prog (Go.convert 3 80 (.int .i64 (x4-1))) w5=.ok (.float .f64 x8) w7∧Kd K .ret [(2,.float .f64 x8)] ds w7) (Cl 126 #[(.float .f64 x3)] w5 fun r10 w11=>∃ x12,r10=.returned (.float .f64 x12)∧∃ w13,∃ x14,Sem.run Tryz.prog (do eqGuard .mul 80 (Operand.tmp 16) (Operand.const (Value.float FloatKind.f64 4609176140021203710)) (.float .f64 x12) (Value.float FloatKind.f64 4609176140021203710); Go.binOp .mul 80 (.float .f64 x12) (Value.float FloatKind.f64 4609176140021203710)) w11=.ok (.float .f64 x14) w13∧∃ w15,∃ x16,Sem.run Tryz.prog (Go.convert 3 80 (.int .i64 x4)) w13=.ok (.float .f64 x16) w15∧∃ w17,∃ x18,Sem.run Tryz.prog (do eqGuard .add 80 (Operand.tmp 17) (Operand.tmp 19) (.float .f64 x14) (.float .f64 x16); Go.binOp .add 80 (.float .f64 x14) (.float .f64 x16)) w15=.ok (.float .f64 x18) w17∧Kd K .ret [(2,.float .f64 x18)] ds w17)
theorem t0:VZ 21 body (l0 M0) (v0 M0):=tz kt [2] fun B ds w K=>by kernel_rfl
theorem call:VCl 86 [.tmp 2] #[.float .f64 M0] (v0 M0):=cz Tryz.func86 (by kernel_rfl) Tryz.ntmps86 Tryz.results86 (by kernel_rfl) (t0 M0)
end F86
namespace F90
noncomputable def body:Code:=bodyOf Tryz.f90
def kt:List (Nat × List Nat):=[]
variable (A0:Option Addr) (N0 C0:Nat) (D1:Option Addr) (I2 I3:Int)
abbrev l0:List (Nat × Value):=[eS 0 A0 N0 C0,eP 1 D1,eU 2 I2,eU 3 I3]
def v0:VP:=fun B ds w K=>Cl 71 #[(.slice none 0 0),(.int .u64 I2)] w fun r1 w2=>∃ x3a,∃ x3l,∃ x3c,r1=.returned (.slice x3a x3l x3c)∧Cl 71 #[(.slice none 0 0),(.int .u64 I3)] w2 fun r4 w5=>∃ x6a,∃ x6l,∃ x6c,r4=.returned (.slice x6a x6l x6c)∧Cl 51 #[(.slice A0 N0 C0),(.pointer D1),(.slice x3a x3l x3c),(.slice x6a x6l x6c),(.slice none 0 0),(.bool false)] w5 fun r7 w8=>∃ x9a,∃ x9l,∃ x9c,r7=.returned (.slice x9a x9l x9c)∧Kd K .ret [eS 8 x9a x9l x9c] ds w8
theorem t0:VZ 16 body (l0 A0 N0 C0 D1 I2 I3) (v0 A0 N0 C0 D1 I2 I3):=tz kt [8] fun B ds w K=>by kernel_rfl
theorem call:VCl 90 [.tmp 8] #[.slice A0 N0 C0,.pointer D1,.int .u64 I2,.int .u64 I3] (v0 A0 N0 C0 D1 I2 I3):=cz Tryz.func90 (by kernel_rfl) Tryz.ntmps90 Tryz.results90 (by kernel_rfl) (t0 A0 N0 C0 D1 I2 I3)
end F90
namespace F125
noncomputable def body:Code:=bodyOf Tryz.f125
def kt:List (Nat × List Nat):=[]
variable (M0:Nat)
abbrev l0:List (Nat × Value):=[(0,.float .f64 M0)]
def v0:VP:=fun B ds w K=>Cl 155 #[(.float .f64 M0)] w fun r1 w2=>∃ x3,True∧∃ x4,True∧r1=.returned (.tuple #[(.float .f64 x3),(.int .i64 x4)])∧Kd K .ret [(2,.float .f64 x3),eI 3 x4] ds w2
theorem t0:VZ 12 body (l0 M0) (v0 M0):=tz kt [2,3] fun B ds w K=>by kernel_rfl
theorem call:VCl 125 [.tmp 2,.tmp 3] #[.float .f64 M0] (v0 M0):=cz Tryz.func125 (by kernel_rfl) Tryz.ntmps125 Tryz.results125 (by kernel_rfl) (t0 M0)
end F125
namespace F126
noncomputable def body:Code:=bodyOf Tryz.f126
def kt:List (Nat × List Nat):=[]
variable (M0:Nat)
abbrev l0:List (Nat × Value):=[(0,.float .f64 M0)]
def v0:VP:=fun B ds w K=>∃ w1,∃ x2,Sem.run Tryz.prog (callFunc 156 #[(.float .f64 M0)]) w=.ok (.value (.float .f64 x2)) w1∧Kd K .ret [(2,.float .f64 x2)] ds w1
theorem t0:VZ 7 body (l0 M0) (v0 M0):=tz kt [2] fun B ds w K=>by kernel_rfl
theorem call:VCl 126 [.tmp 2] #[.float .f64 M0] (v0 M0):=cz Tryz.func126 (by kernel_rfl) Tryz.ntmps126 Tryz.results126 (by kernel_rfl) (t0 M0)
end F126
namespace F151
noncomputable def body:Code:=bodyOf Tryz.f151
def kt:List (Nat × List Nat):=[]
variable (A0:Option Addr) (N0 C0:Nat) (D1 A2:Option Addr) (N2 C2:Nat) (A3:Option Addr) (N3 C3:Nat)
abbrev l0:List (Nat × Value):=[eS 0 A0 N0 C0,eP 1 D1,eS 2 A2 N2 C2,eS 3 A3 N3 C3]
def v0:VP:=fun B ds w K=>∃ w1,Sem.run Tryz.prog (builtin .clear #[45] 0 #[false] #[(.slice A0 N0 C0)]) w=.ok (.value undef) w1∧Cl 171 #[(.slice A0 N0 C0),(.pointer D1),(.slice A2 N2 C2),(.slice A3 N3 C3),(.int .i64 0)] w1 fun r2 w3=>r2=.returned undef∧Kd K .normal [] ds w3
theorem t0:VZ 14 body (l0 A0 N0 C0 D1 A2 N2 C2 A3 N3 C3) (v0 A0 N0 C0 D1 A2 N2 C2 A3 N3 C3):=tz kt [] fun B ds w K=>by kernel_rfl
theorem call:VCl 151 [] #[.slice A0 N0 C0,.pointer D1,.slice A2 N2 C2,.slice A3 N3 C3] (v0 A0 N0 C0 D1 A2 N2 C2 A3 N3 C3):=cz Tryz.func151 (by kernel_rfl) Tryz.ntmps151 Tryz.results151 (by kernel_rfl) (t0 A0 N0 C0 D1 A2 N2 C2 A3 N3 C3)
end F151
namespace F155
noncomputable def body:Code:=bodyOf Tryz.f155
def kt:List (Nat × List Nat):=[]
variable (M0:Nat)
abbrev l0:List (Nat × Value):=[(0,.float .f64 M0)]
def v0:VP:=fun B ds w K=>∃ w1,∃ x2,Sem.run Tryz.prog (do eqGuard .eql 80 (Operand.tmp 6) (Operand.const (Value.float FloatKind.f64 0)) (.float .f64 M0) (Value.float FloatKind.f64 0); Go.binOp .eql 80 (.float .f64 M0) (Value.float FloatKind.f64 0)) w=.ok (.bool x2) w1∧bc x2 (Kd K .ret [(2,.float .f64 M0),eI 3 0] ds w1) (Cl 172 #[(.float .f64 M0),(.int .i64 0)] w1 fun r4 w5=>∃ x6,r4=.returned (.bool x6)∧bc x6 (Kd K .ret [(2,.float .f64 M0),eI 3 0] ds w5) (Cl 173 #[(.float .f64 M0)] w5 fun r8 w9=>∃ x10,r8=.returned (.bool x10)∧bc x10 (Kd K .ret [(2,.float .f64 M0),eI 3 0] ds w9) (Cl 174 #[(.float .f64 M0)] w9 fun r12 w13=>∃ x14,True∧∃ x15,True∧r12=.returned (.tuple #[(.float .f64 x14),(.int .i64 x15)])∧∃ w16,∃ x17,Sem.run Tryz.prog (callFunc 175 #[(.float .f64 x14)]) w13=.ok (.value (.int .u64 x17)) w16∧(0:Int)≤52∧inI64 ((IntKind.wrap .i64 (iAnd .u64 (iShr .u64 x17 52) 2047))-1023)∧inI64 (((IntKind.wrap .i64 (iAnd .u64 (iShr .u64 x17 52) 2047))-1023)+1)∧inI64 (x15+(((IntKind.wrap .i64 (iAnd .u64 (iShr .u64 x17 52) 2047))-1023)+1))∧∃ w18,∃ x19,Sem.run Tryz.prog (callFunc 176 #[(.int .u64 (iOr .u64 (iAndNot .u64 x17 9218868437227405312) 4602678819172646912))]) w16=.ok (.value (.float .f64 x19)) w18∧Kd K .ret [(2,.float .f64 x19),eI 3 (x15+(((IntKind.wrap .i64 (iAnd .u64 (iShr .u64 x17 52) 2047))-1023)+1))] ds w18)))
theorem t0:VZ 38 body (l0 M0) (v0 M0):=tz kt [2,3] fun B ds w K=>by kernel_rfl
theorem call:VCl 155 [.tmp 2,.tmp 3] #[.float .f64 M0] (v0 M0):=cz Tryz.func155 (by kernel_rfl) Tryz.ntmps155 Tryz.results155 (by kernel_rfl) (t0 M0)
end F155
namespace F174
noncomputable def body:Code:=bodyOf Tryz.f174
def kt:List (Nat × List Nat):=[]
variable (M0:Nat)
abbrev l0:List (Nat × Value):=[(0,.float .f64 M0)]
def v0:VP:=fun B ds w K=>Cl 182 #[(.float .f64 M0)] w fun r1 w2=>∃ x3,r1=.returned (.float .f64 x3)∧∃ w4,∃ x5,Sem.run Tryz.prog (do eqGuard .lss 80 (Operand.tmp 5) (Operand.const (Value.float FloatKind.f64 4503599627370496)) (.float .f64 x3) (Value.float FloatKind.f64 4503599627370496); Go.binOp .lss 80 (.float .f64 x3) (Value.float FloatKind.f64 4503599627370496)) w2=.ok (.bool x5) w4∧bc x5 (∃ w6,∃ x7,Sem.run Tryz.prog (do eqGuard .mul 80 (Operand.tmp 7) (Operand.const (Value.float FloatKind.f64 4841369599423283200)) (.float .f64 M0) (Value.float FloatKind.f64 4841369599423283200); Go.binOp .mul 80 (.float .f64 M0) (Value.float FloatKind.f64 4841369599423283200)) w4=.ok (.float .f64 x7) w6∧Kd K .ret [(2,.float .f64 x7),eI 3 (-52)] ds w6) (Kd K .ret [(2,.float .f64 M0),eI 3 0] ds w4)
theorem t0:VZ 10 body (l0 M0) (v0 M0):=tz kt [2,3] fun B ds w K=>by kernel_rfl
theorem call:VCl 174 [.tmp 2,.tmp 3] #[.float .f64 M0] (v0 M0):=cz Tryz.func174 (by kernel_rfl) Tryz.ntmps174 Tryz.results174 (by kernel_rfl) (t0 M0)
end F174
namespace F172
noncomputable def body:Code:=bodyOf Tryz.f172
def kt:List (Nat × List Nat):=[(5,[0])]
noncomputable def p1:Code:=sb 2 3 body
variable (M0:Nat) (I1:Int)
abbrev l0:List (Nat × Value):=[(0,.float .f64 M0),eI 1 I1]
def v0:VP:=fun B ds w K=>bc (I1==0) (Cl 182 #[(.float .f64 M0)] w fun r1 w2=>∃ x3,r1=.returned (.float .f64 x3)∧Wd 15 p1 [(0,.float .f64 x3)] ds w2 K) (bc (decide (I1<(0:Int))) (∃ w5,∃ x6,Sem.run Tryz.prog (Op.unary .neg (.float .f64 M0)) w=.ok (.float .f64 x6) w5∧Wd 15 p1 [(0,.float .f64 x6)] ds w5 K) (Wd 15 p1 [(0,.float .f64 M0)] ds w K))
theorem t0:VZ 15 body (l0 M0 I1) (v0 M0 I1):=tz kt [4] fun B ds w K=>by kernel_rfl
theorem call:VCl 172 [.tmp 4] #[.float .f64 M0,.int .i64 I1] (v0 M0 I1):=cz Tryz.func172 (by kernel_rfl) Tryz.ntmps172 Tryz.results172 (by kernel_rfl) (t0 M0 I1)
abbrev l1:List (Nat × Value):=[(0,.float .f64 M0)]
def v1:VP:=fun B ds w K=>∃ w1,∃ x2,Sem.run Tryz.prog (do eqGuard .gtr 80 (Operand.tmp 13) (Operand.const (Value.float FloatKind.f64 9218868437227405311)) (.float .f64 M0) (Value.float FloatKind.f64 9218868437227405311); Go.binOp .gtr 80 (.float .f64 M0) (Value.float FloatKind.f64 9218868437227405311)) w=.ok (.bool x2) w1∧Kd K .ret [eB 4 x2] ds w1
theorem t1:VT 15 p1 (l1 M0) (v1 M0):=tw kt [4] fun B ds w K=>by kernel_rfl
end F172
namespace F173
noncomputable def body:Code:=bodyOf Tryz.f173
def kt:List (Nat × List Nat):=[]
variable (M0:Nat)
abbrev l0:List (Nat × Value):=[(0,.float .f64 M0)]
def v0:VP:=fun B ds w K=>∃ w1,∃ x2,Sem.run Tryz.prog (do eqGuard .neq 80 (Operand.tmp 3) (Operand.tmp 4) (.float .f64 M0) (.float .f64 M0); Go.binOp .neq 80 (.float .f64 M0) (.float .f64 M0)) w=.ok (.bool x2) w1∧Kd K .ret [eB 2 x2] ds w1
theorem t0:VZ 6 body (l0 M0) (v0 M0):=tz kt [2] fun B ds w K=>by kernel_rfl
theorem call:VCl 173 [.tmp 2] #[.float .f64 M0] (v0 M0):=cz Tryz.func173 (by kernel_rfl) Tryz.ntmps173 Tryz.results173 (by kernel_rfl) (t0 M0)
end F173
namespace F182
noncomputable def body:Code:=bodyOf Tryz.f182
def kt:List (Nat × List Nat):=[]
variable (M0:Nat)
abbrev l0:List (Nat × Value):=[(0,.float .f64 M0)]
def v0:VP:=fun B ds w K=>∃ w1,∃ x2,Sem.run Tryz.prog (callFunc 175 #[(.float .f64 M0)]) w=.ok (.value (.int .u64 x2)) w1∧∃ w3,∃ x4,Sem.run Tryz.prog (callFunc 176 #[(.int .u64 (iAndNot .u64 x2 9223372036854775808))]) w1=.ok (.value (.float .f64 x4)) w3∧Kd K .ret [(2,.float .f64 x4)] ds w3
theorem t0:VZ 7 body (l0 M0) (v0 M0):=tz kt [2] fun B ds w K=>by kernel_rfl
theorem call:VCl 182 [.tmp 2] #[.float .f64 M0] (v0 M0):=cz Tryz.func182 (by kernel_rfl) Tryz.ntmps182 Tryz.results182 (by kernel_rfl) (t0 M0)
end F182
end Go.Proofs.YtlkjiiibmfpbcaaGreatDoor
