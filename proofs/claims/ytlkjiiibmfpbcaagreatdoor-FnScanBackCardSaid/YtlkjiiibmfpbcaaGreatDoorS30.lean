/- Contracts: recursive division; the end of a long division for divisors of at least 40 words. -/
import Derived.Test.YtlkjiiibmfpbcaaGreatDoorS29
namespace Go.Proofs.YtlkjiiibmfpbcaaGreatDoor
open Go
theorem Sp.dj {a b:Sl} (h:Sp a.b a.o a.l b.b b.o b.l):Dj (wds a) (wds b):=fun x i h1 h2=>by
 have a1:=h1.1; have a2:=h1.2.1; have a3:=h1.2.2
 have b1:=h2.1; have b2:=h2.2.1; have b3:=h2.2.2
 unfold Sp at h
 omega
theorem c151 (K:SK) (q u v:Sl) (U V:Nat) (w:World) (hk:StkAt w K) (hq:St w q) (hu:Nt w u U) (hv:Nt w v V) (hn:40≤v.l) (hv1:v.l≤1000000) (hq1:1≤q.l) (hq2:q.l≤1000000) (hul:u.l≤1000000)
  (hV:BB^(v.l-1)*9223372036854775808≤V) (hU:U<BB^(v.l+q.l-1)*H63) (hP:v.l≤158∨U<BB^(v.l+38))
  (squ:Sp q.b q.o q.l u.b u.o u.l) (sqv:Sp q.b q.o q.l v.b v.o v.l) (suv:Sp u.b u.o u.l v.b v.o v.l) (oq:OffL K q) (ou:OffL K u) (ov:Off K v) (hL:K.s.l+16*v.l≤549755813888) (hg:Glb w) :
  Calls Tryz.prog 151 #[q.v,.pointer K.a,u.v,v.v] w fun e w'=>e=.returned undef∧Sg w' q.b q.o q.l (U/V)∧Sg w' u.b u.o u.l (U%V)∧Back w w' K∧Chg w w' (un (un (inR q.b q.o (q.o+q.l)) (inR u.b u.o (u.o+u.l))) K.free):=by
 obtain ⟨w1,r1,r2,r3⟩:=clearW 45 Tryz.underlying45 q w hq.wt
 have r3:Chg w w1 (wds q):=r3
 have qN:Nt w1 q 0:={ r3.st hq with sg:=r2,lt:=BBpow_pos _ }
 have uN:Nt w1 u U:=r3.nt hu fun i hi hm=>squ.dj _ _ hm ⟨rfl,by omega,by omega⟩
 have vN:Nt w1 v V:=r3.nt hv fun i hi hm=>sqv.dj _ _ hm ⟨rfl,by omega,by omega⟩
 have hk1:StkAt w1 K:=(stk K).keep hk r3 fun b i h1 h2=>oq.dj b i h1 h2
 have ovl:OffL K v:=ov.l hv.toSt
 have bb:Bank w1 (stk K :: nl q 0 :: nl u U :: nl v V :: []):=by
  refine ⟨by simp only [List.mem_cons,List.not_mem_nil,or_false,forall_eq_or_imp,forall_eq]; exact ⟨hk1,qN,uN,vN⟩,?_⟩
  refine List.pairwise_cons.2 ⟨?_,List.pairwise_cons.2 ⟨?_,List.pairwise_cons.2 ⟨?_,by simp⟩⟩⟩
  ·simp only [List.mem_cons,List.not_mem_nil,or_false,forall_eq_or_imp,forall_eq]
   exact ⟨oq.dj,ou.dj,ovl.dj⟩
  ·simp only [List.mem_cons,List.not_mem_nil,or_false,forall_eq_or_imp,forall_eq]
   exact ⟨squ.dj,sqv.dj⟩
  ·simp only [List.mem_cons,List.not_mem_nil,or_false,forall_eq]
   exact suv.dj
 refine (F151.call q.a q.l q.c K.a u.a u.l u.c v.a v.l v.c w (fun x w'=>x=undef∧Sg w' q.b q.o q.l (U/V)∧Sg w' u.b u.o u.l (U%V)∧Back w w' K∧Chg w w' (un (un (inR q.b q.o (q.o+q.l)) (inR u.b u.o (u.o+u.l))) K.free)) fun B=>⟨w1,r1,?_⟩).mono fun e w' ⟨v,h1,h2,h3⟩=>⟨by rw [h1,h2],h3⟩
 refine d171 v.l w1 K q u v U V [] 0 rfl bb (by omega) hV hq1 hq2 hul hU hP ov hL (by omega) hv1 (r3.glb hg) _ fun K' w2 b2 hKa hl hnx c2=>⟨rfl,fun B2=>ret0 rfl ⟨rfl,(b2.tail.head:Nt w2 q _).sg,(b2.tail.tail.head:Nt w2 u _).sg,⟨K',b2.head,hnx.mono r3.size,hl⟩,?_⟩⟩
 exact (r3.mono fun b i _ hm=>.inl (.inl hm)).trans' c2
theorem f120g (K K1:SK) (z u x y:Sl) (U V s m n:Nat) (w w1:World) (e:Env) (he:e.defers=[Dr K.a (K.s.l:Int)]) (hz:St w1 z) (hsz:GB≤w.heap.size) (hu:Nt w1 x (U*2^s)) (hv:Nt w1 y (V*2^s)) (hk1:StkAt w1 K1) (hnx:Nxt w K K1) (hyl:y.l=n+2) (hxl:x.l=m+n+3) (hn:40≤n+2) (hP:n+2≤158∨m≤37) (hmx:m+n≤500000)
  (hs:s<64) (hV:BB^(n+1)*9223372036854775808≤V*2^s) (hU:U<BB^(m+n+2)) (hfu:From w u x) (szu:SpC z x) (spy:Sp y.b y.o y.l x.b x.o x.l) (spz:Sp y.b y.o y.l z.b z.o z.c) (oz:Off K z) (oz1:Off K1 z) (ox1:Off K1 x) (ox2:w.heap.size≤x.b→NoB K1 x) (oy1:Off K1 y) (ou:Off K u)
  (hL:K1.s.l+16*(n+2)≤549755813888) (hg:Glb w1) (hch:Chg w w1 (un (un (fp z) (fp u)) K.free)) (hzw:z.c≠0→z.b<w.heap.size) (huw:u.c≠0→u.b<w.heap.size) (hlow:K.s.l≤K1.s.l) (ha:agree e (F120.l1 z.a z.l z.c K1.a x.a x.l x.c (n+2:Nat) m s y.a y.l y.c)) :
  W Tryz.prog 101 F120.p1 e w1 (retK Tryz.prog [.tmp 10,.tmp 11] (DivR w K z u U V)):=by
 have hs0:=Nat.two_pow_pos s
 have hxc:=hu.lc
 have fin2:∀ (w2:World) (e:Env),e.defers=[Dr K.a (K.s.l:Int)]→Chg w1 w2 none2→agree e (F120.l2 z.a z.l z.c K1.a x.a x.l x.c (n+2:Nat) m s y.a y.l y.c)→W Tryz.prog 101 F120.p2 e w2 (retK Tryz.prog [.tmp 10,.tmp 11] (DivR w K z u U V)):=by
  intro w2 e he hc2 ha
  refine F120.t2 z.a z.l z.c K1.a x.a x.l x.c (n+2:Nat) m s y.a y.l y.c ha fun B=>⟨by unfold inI64; omega,?_⟩
  rw [show ((m:Int)+1)=((m+1:Nat):Int) by omega]
  refine (c73 z (m+1) w2 (hc2.st hz) (by omega)).mono ?_
  rintro e' w3 ⟨_,rfl,q,rfl,hql,hq,hfq,hc3⟩
  have hqc:=hq.lc
  have c23:=hc2.trans' hc3
  have hfq1:=hfq.later hc2
  have hk3:=hk1.none c23
  have hu3:=c23.nt_none hu
  have hv3:=c23.nt_none hv
  have hxb:=hu.toSt.blk
  have spq:SpC q x:=from_spc hfq1 szu (fun h=>hu.blk (by omega))
  have spqy:Sp q.b q.o q.l y.b y.o y.l:=by
   have hyb:=hv.blk (by omega)
   unfold Sp at *
   rcases hfq1 with ⟨_,e2,e3,e4⟩ | hf
   ·omega
   ·exact .inr (.inr (.inl (by omega)))
  have oq1:Off K1 q:=Off.new hk1 hfq1 oz1
  have hUlt:U*2^s/BB^(m+1)<V*2^s:=by
   rw [Nat.div_lt_iff_lt_mul (BBpow_pos _)]
   have a1:U*2^s<BB^(m+n+2)*2^s:=Nat.mul_lt_mul_of_pos_right hU hs0
   have a2:2^s≤2^63:=Nat.pow_le_pow_right (by omega) (by omega)
   have a3:BB^(m+n+2)*2^s≤BB^(m+n+2)*2^63:=Nat.mul_le_mul_left _ a2
   have a4:BB^(n+1)*9223372036854775808*BB^(m+1)≤V*2^s*BB^(m+1):=Nat.mul_le_mul_right _ hV
   have a5:BB^(n+1)*9223372036854775808*BB^(m+1)=BB^(m+n+2)*2^63:=by
    rw [Nat.mul_right_comm,←Nat.pow_add,show n+1+(m+1)=m+n+2 by omega]
   omega
  refine ⟨_,_,_,rfl,_,(c23.glb hg).t10,bc_false (decF (by omega)) ?_⟩
  have hU3:U*2^s<BB^(y.l+q.l-1)*H63:=by
   have a1:U*2^s<BB^(m+n+2)*2^s:=Nat.mul_lt_mul_of_pos_right hU hs0
   have a2:2^s≤2^63:=Nat.pow_le_pow_right (by omega) (by omega)
   have a3:BB^(m+n+2)*2^s≤BB^(m+n+2)*2^63:=Nat.mul_le_mul_left _ a2
   rw [show y.l+q.l-1=m+n+2 by omega,show H63=2^63 from rfl]
   omega
  have hP3:y.l≤158∨U*2^s<BB^(y.l+38):=by
   rcases hP with h | h
   ·exact .inl (by omega)
   ·refine .inr (lt_pow_of_le hu.lt (by omega))
  refine (c151 K1 q x y (U*2^s) (V*2^s) w3 hk3 hq hu3 hv3 (by omega) (by omega) (by omega) (by omega) (by omega) (by rw [show y.l-1=n+1 by omega]; exact hV) hU3 hP3 (Sp.mono spq hqc hxc) spqy (Sp.symm spy)
   (fun i h1 h2=>oq1 i h1 (by omega)) (fun i h1 h2=>ox1 i h1 (by omega)) oy1 (by omega) (c23.glb hg)).mono ?_
  rintro e' w4 ⟨rfl,sq,sx,⟨K2,b1,b2,b3⟩,hc4⟩
  have hVp:0<V*2^s:=Nat.lt_of_lt_of_le (Nat.mul_pos (BBpow_pos _) (by omega)) hV
  have hV0:0<V:=by
   rcases Nat.eq_zero_or_pos V with h | h
   ·rw [h,Nat.zero_mul] at hVp; omega
   ·exact h
  have eq1:U*2^s/(V*2^s)=U/V:=Nat.mul_div_mul_right _ _ hs0
  have eq2:U*2^s%(V*2^s)=U%V*2^s:=Nat.mul_mod_mul_right ..
  rw [eq1] at sq
  rw [eq2] at sx
  have hq4:=hc4.st hq
  have hx4:=hc4.st hu3.toSt
  have hqlt:U/V<BB^q.l:=by
   rw [←eq1,Nat.div_lt_iff_lt_mul hVp,hql]
   have:=hUlt
   rw [Nat.div_lt_iff_lt_mul (BBpow_pos _)] at this
   rw [Nat.mul_comm (BB^(m+1))]; exact this
  have hxlt:U%V*2^s<BB^x.l:=by
   rw [←eq2]; exact Nat.lt_of_le_of_lt (Nat.mod_le _ _) hu.lt
  have hxlt2:U%V<BB^x.l:=Nat.lt_of_le_of_lt (Nat.le_mul_of_pos_right _ hs0) hxlt
  have hb3:∀ {b:Nat},b<w1.heap.size→b<w3.heap.size:=fun h=>Nat.lt_of_lt_of_le h c23.size
  have ox2':Off K2 x:=ox1.nxt b2 (fun h=>hb3 (hu.blk (by omega)))
  have oq2:Off K2 q:=oq1.nxt b2 (fun h=>hq.blk h)
  have fin4:∀ (w5:World) (e:Env) (k:Nat),e.defers=[Dr K.a (K.s.l:Int)]→k≤q.l→Nz w5 (q.to k) (U/V)→Nt w5 x (U%V)→Chg w4 w5 (inR x.b x.o (x.o+x.l))→agree e (F120.l4 x.a x.l x.c q.a k q.c)→W Tryz.prog 101 F120.p4 e w5 (retK Tryz.prog [.tmp 10,.tmp 11] (DivR w K z u U V)):=by
   intro w5 e k he hkl nq nx hc5 ha
   have hk5:StkAt w5 K2:=b1.chg hc5 (fun hm=>ox2' 0 hm.2.1 (by have:=hm.2.2; omega) (.inl hm.1.symm)) fun b hb hm=>ox2' 0 hm.2.1 (by have:=hm.2.2; omega) (.inr (.inl (by rw [hb,hm.1])))
   refine F120.t4 x.a x.l x.c q.a k q.c ha fun B5=>(c46 x (U%V) w5 nx (by omega)).mono ?_
   rintro e' w6 ⟨_,rfl,kx,hkx,rfl,hw,hnx6⟩
   have hw:=hw.symm
   subst hw
   have hp2:K2.a=K.a:=by unfold SK.a; rw [b2.p,hnx.p]
   refine ⟨_,_,_,rfl,fun B6=>retR2 (K:=K2) (n:=K.s.l) (by rw [hp2]; exact he) rfl rfl hk5 (by omega) fun w7 h1 h2=>?_⟩
   have hnK:Nxt w K (K2.cut K.s.l):=(hnx.trans b2 (Nat.le_trans hch.size c23.size)).cut
   have w14:Chg w1 w4 (un (un (inR q.b q.o (q.o+q.l)) (inR x.b x.o (x.o+x.l))) K1.free):=(c23.none _).trans' hc4
   have hfqw:From w z q:=hfq1.later hch
   have nbq:w.heap.size≤q.b→q.c≠0→NoB K2 q:=fun h h0=>by
    rcases hfq1 with ⟨_,e2,e3,_⟩ | h'
    ·have:=hzw (by omega); omega
    ·exact (NoB.new hk1 h').nxt b2 (fun h0=>hq.blk h0)
   have nbx:w.heap.size≤x.b→x.c≠0→NoB K2 x:=fun h h0=>(ox2 h).nxt b2 (fun h0=>hb3 (hu.blk (by omega)))
   refine ⟨q.to k,x.to kx,K2.cut K.s.l,rfl,h2.nz nq fun i hi=>?_,h2.nz hnx6 fun i hi=>?_,hfqw,hfu,spq,h1,hnK,rfl,?_,?_,fun h h0=>(nbq h h0).cut _,fun h h0=>(nbx h h0).cut _,?_⟩
   ·have hi:i<k:=hi
    exact oq2 (q.o+i) (by omega) (by omega)
   ·have hi:i<kx:=hi
    exact ox2' (x.o+i) (by omega) (by omega)
   ·exact off_fin hfqw nbq oz hnK hzw
   ·exact off_fin hfu nbx ou hnK huw
   ·have hq1:∀ b i,b<w.heap.size→inR q.b q.o (q.o+q.l) b i→fp z b i:=fun b i hb hm=>by
     rcases hfqw with ⟨_,e2,e3,e4⟩ | h
     ·exact ⟨by rw [hm.1,e3],by have:=hm.2.1; omega,by have:=hm.2.2; omega⟩
     ·have:=hm.1; omega
    have hx1:∀ b i,b<w.heap.size→inR x.b x.o (x.o+x.l) b i→fp u b i:=fun b i hb hm=>by
     rcases hfu with ⟨_,e2,e3,e4⟩ | h
     ·exact ⟨by rw [hm.1,e3],by have:=hm.2.1; omega,by have:=hm.2.2; omega⟩
     ·have:=hm.1; omega
    have hn2:Nxt w K K2:=hnx.trans b2 (Nat.le_trans hch.size c23.size)
    have hT:Chg w1 w7 (fun b i=>un (un (inR q.b q.o (q.o+q.l)) (inR x.b x.o (x.o+x.l))) K1.free b i∨K2.free b i) :=
     (w14.mono fun _ _ _ h=>.inl h).trans' ((hc5.mono fun _ _ _ h=>.inl (.inl (.inr h))).trans' (h2.mono fun _ _ _ h=>.inr h))
    refine hch.trans hT (fun _ _ _ h=>h) fun b i hb hm=>?_
    rcases hm with ((hm | hm) | hm) | hm
    ·exact .inl (.inl (hq1 b i hb hm))
    ·exact .inl (.inr (hx1 b i hb hm))
    ·exact .inr (hnx.free hb hm)
    ·exact .inr (hn2.free hb hm)
  refine ⟨rfl,fun B2=>?_⟩
  refine F120.t3 x.a x.l x.c q.a q.l q.c s ⟨rfl,rfl,rfl,trivial⟩ fun B3=>(c46 q (U/V) w4 { hq4 with sg:=sq,lt:=hqlt } (by omega)).mono ?_
  rintro e' w5 ⟨_,rfl,k,hkl,rfl,hw,nq⟩
  have hw:=hw.symm
  subst hw
  refine ⟨_,_,_,rfl,bc_intro (fun hb=>?_) (fun hb B4=>?_)⟩
  ·have hx4n:Nt w4 x (U%V*2^s):={ hx4 with sg:=sx,lt:=hxlt }
   refine Vec.pass (c147 x x (U%V*2^s) s w4 hx4.wt hx4n.rd rfl (.inr (.inr (.inl (Nat.le_refl _)))) hs) ?_
   rintro c Z w5 t1 hZ hsg hc5
   rw [Nat.mul_div_cancel _ hs0] at t1
   subst t1
   exact ⟨_,rfl,fun B4=>fin4 w5 _ k he hkl (hc5.nz nq fun i hi=>by
    have hi:i<k:=hi
    rintro ⟨a1,a2,a3⟩
    have a1:q.b=x.b:=a1
    have a2:x.o≤q.o+i:=a2
    have a3:q.o+i<x.o+x.l:=a3
    unfold SpC Sp at spq; omega) { hc5.st hx4 with sg:=hsg,lt:=hZ } hc5 ⟨rfl,rfl,trivial⟩⟩
  ·have hs00:s=0:=by have:=neE hb; omega
   rw [hs00,Nat.pow_zero,Nat.mul_one] at sx
   exact fin4 w4 _ k he hkl nq { hx4 with sg:=sx,lt:=hxlt2 } (Chg.refl _ _) ⟨rfl,rfl,trivial⟩
 refine F120.t1 z.a z.l z.c K1.a x.a x.l x.c (n+2:Nat) m s y.a y.l y.c ha fun B=>(c49 z x w1 hz.pc hu.toSt.pc hz.cm hu.cm).mono ?_
 rintro e' w2 ⟨_,rfl,q,rfl,rfl,hq⟩
 refine ⟨_,rfl,bc_intro (fun h=>?_) (fun h B2=>fin2 _ _ he (Chg.drew0 w1 _) ⟨rfl,rfl,rfl,rfl,rfl,rfl,rfl,trivial⟩)⟩
 exfalso
 have:=hq.1 h
 unfold SpC Sp at szu; omega
end Go.Proofs.YtlkjiiibmfpbcaaGreatDoor
namespace Go.Proofs.YtlkjiiibmfpbcaaGreatDoor
open Go
theorem c120g (K:SK) (z u a b:Sl) (U V:Nat) (w:World) (hk:StkAt w K) (hz:St w z) (hu:St w u) (hx:Nz w a U) (hy:Nz w b V) (hb40:40≤b.l) (hP:b.l≤158∨a.l≤b.l+37) (hba:b.l≤a.l) (hal:a.l≤500000)
  (szu:SpC z u) (sua:Sep u a) (oz:Off K z) (ou:Off K u) (oa:OffL K a) (ob:OffL K b) (hL:K.s.l+18*b.l≤549755813000) (hg:Glb w) :
  Calls Tryz.prog 120 #[z.v,.pointer K.a,u.v,a.v,b.v] w fun e w'=>∃ v,e=.returned v∧DivR w K z u U V v w':=by
 obtain ⟨n,hn⟩:∃ n,b.l=n+2:=⟨b.l-2,by omega⟩
 obtain ⟨m,hm⟩:∃ m,a.l=m+n+2:=⟨a.l-b.l,by omega⟩
 have hbc:=hy.lc
 have hac:=hx.lc
 have hV1:BB^(n+1)≤V:=by have:=hy.nm.le (by omega); rw [show b.l-1=n+1 by omega] at this; exact this
 have hVlt:V<BB^(n+1+1):=by have:=hy.lt; rw [hn] at this; exact this
 have htop:=dg_top hVlt
 have htop0:dg V (n+1)≠0:=by
  have:1≤V/BB^(n+1):=by rw [Nat.le_div_iff_mul_le (BBpow_pos _),Nat.one_mul]; exact hV1
  omega
 have htB:=dg_lt' V (n+1)
 have hbl:=blen_le64 _ htB
 have hbl0:=blen_ne _ htop0
 have hzw:z.c≠0→z.b<w.heap.size:=fun h=>hz.blk h
 have huw:u.c≠0→u.b<w.heap.size:=fun h=>hu.blk h
 refine F120.call z.a z.l z.c K.a u.a u.l u.c a.a a.l a.c b.a b.l b.c w _ fun B=>⟨by unfold inI64; omega,(c103 w K hk).mono ?_⟩
 rintro e _ ⟨_,rfl,rfl,rfl⟩
 refine ⟨_,rfl,by unfold inI64; omega,rdC (k:=n+1) (hy.at_ (by omega)) (by omega) (by omega) (hy.sg (n+1) (by omega)) ((c78 _ htB _).mono ?_)⟩
 rintro e _ ⟨rfl,rfl⟩
 rename_i w
 obtain ⟨s,hs⟩:∃ s,s=64-blen (dg V (n+1)):=⟨_,rfl⟩
 rw [←hs]
 obtain ⟨hl1,hl2⟩:=shl_lt hVlt hs htop0
 have hs64:s<64:=by omega
 refine ⟨_,rfl,(c104 _ K hk b.l (by omega) (by omega)).mono ?_⟩
 rintro e w1 ⟨_,rfl,y,K1,rfl,hyl,hys,hyo,hyf,hk1,hnx,hc1,hKl⟩
 have hyc:=hys.lc
 refine ⟨_,_,_,rfl,by unfold inI64; omega,?_⟩
 rw [show ((a.l:Int)+1)=((a.l+1:Nat):Int) by omega]
 have ou1:Off K1 u:=ou.nxt hnx huw
 refine (c73 u (a.l+1) w1 (hc1.st hu) (by omega)).mono ?_
 rintro e w2 ⟨_,rfl,x,rfl,hxl,hxs,hfx,hc2⟩
 have hxc:=hxs.lc
 have ox1:Off K1 x:=Off.new hk1 hfx ou1
 have hfu:=hfx.later hc1
 have ha2:Nt w2 a U:=hc2.nt_none (hc1.nt hx.toNt fun i hi=>oa _ (by omega) (by omega))
 have hb2':Nt w2 b V:=hc2.nt_none (hc1.nt hy.toNt fun i hi=>ob _ (by omega) (by omega))
 have spya:Sp y.b y.o y.l a.b a.o a.l:=(take_sp hyf oa (fun h=>hx.toNt.blk h)).mono hyc (Nat.le_refl _)
 have spyb:Sp y.b y.o y.l b.b b.o b.l:=(take_sp hyf ob (fun h=>hy.toNt.blk h)).mono hyc (Nat.le_refl _)
 have spyz:Sp y.b y.o y.l z.b z.o z.c:=(take_sp hyf oz hzw).mono hyc (Nat.le_refl _)
 have spyx:Sp y.b y.o y.l x.b x.o x.l:=by
  rcases hfx with ⟨_,e2,e3,e4⟩ | h
  ·have:=(take_sp hyf ou huw).mono hyc (Nat.le_refl _)
   unfold Sp at *; omega
  ·have hyb:y.b<w1.heap.size:=hys.blk (by omega)
   exact .inr (.inr (.inl (by omega)))
 have ox2:w.heap.size≤x.b→NoB K1 x:=fun h=>by
  rcases hfx with ⟨_,e2,e3,_⟩ | h'
  ·have:=huw (by omega); omega
  ·exact NoB.new hk1 h'
 have hsax:OvUp (x.to a.l) a:=by
  unfold OvUp
  show a.l=0∨a.b≠x.b∨a.o≤x.o∨x.o+a.l≤a.o
  have:=hx.toNt.blk (by omega)
  rcases hfu with ⟨_,e2,e3,e4⟩ | h
  ·unfold Sep at sua; omega
  ·omega
 have hys2:=hc2.st hys
 have hk2:=hk1.none hc2
 have fin:∀ (w3 w5:World) (B5:Nat→Value),Chg w2 w3 (inR y.b y.o (y.o+y.l))→Sg w3 y.b y.o y.l (V*2^s)→Chg w3 w5 (inR x.b x.o (x.o+x.l))→Sg w5 x.b x.o x.l (U*2^s) →
   W Tryz.prog 101 F120.p1 (E [(0,z.v),(1,.pointer K.a),(2,x.v),(12,.int .i64 (b.l:Int)),(13,.int .i64 ((a.l:Int)-(b.l:Int))),(14,.int .u64 (s:Int)),(15,y.v)] B5 [Dr K.a (K.s.l:Int)]) w5 (retK Tryz.prog [.tmp 10,.tmp 11] (DivR w K z u U V)):=by
  intro w3 w5 B5 c3 s3 c5 s5
  have c35:Chg w2 w5 (un (inR y.b y.o (y.o+y.l)) (inR x.b x.o (x.o+x.l))):=(c3.l _).trans' (c5.r _)
  have hk5:StkAt w5 K1:=hk2.chg c35 (fun hm=>hm.elim (fun hm=>hyo 0 hm.2.1 (by have:=hm.2.2; omega) (.inl hm.1.symm)) (fun hm=>ox1 0 hm.2.1 (by have:=hm.2.2; omega) (.inl hm.1.symm)))
   fun b' hb' hm=>hm.elim (fun hm=>hyo 0 hm.2.1 (by have:=hm.2.2; omega) (.inr (.inl (by rw [hb',hm.1])))) (fun hm=>ox1 0 hm.2.1 (by have:=hm.2.2; omega) (.inr (.inl (by rw [hb',hm.1]))))
  have hU:U*2^s<BB^x.l:=by
   have h1:U*2^s<BB^a.l*2^s:=Nat.mul_lt_mul_of_pos_right hx.lt (Nat.two_pow_pos s)
   have h2:2^s≤2^64:=Nat.pow_le_pow_right (by omega) (by omega)
   have h3:BB^a.l*2^s≤BB^a.l*BB:=Nat.mul_le_mul_left _ h2
   rw [hxl,BBpow_succ]; omega
  have hchW:Chg w w5 (un (un (fp z) (fp u)) K.free):=by
   refine ((hc1.r _).trans' (hc2.none _)).trans c35 (fun _ _ _ h=>h) fun b' i hb' hm=>?_
   rcases hm with hm | hm
   ·rcases hyf i hm.2.1 (by have:=hm.2.2; omega) with h | h
    ·exact .inr (by rw [hm.1]; exact h)
    ·have:=hm.1; omega
   ·rcases hfu with ⟨_,e2,e3,e4⟩ | h
    ·exact .inl (.inr ⟨by rw [hm.1,e3],by have:=hm.2.1; omega,by have:=hm.2.2; omega⟩)
    ·have:=hm.1; omega
  have hsz2:w1.heap.size≤w5.heap.size:=Nat.le_trans hc2.size c35.size
  have hpe:K1.a=K.a:=by unfold SK.a; rw [hnx.p]
  refine f120g K K1 z u x y U V s m n w w5 _ rfl (hchW.st hz) hz.gb { c35.st hxs with sg:=s5,lt:=hU } { c35.st hys2 with sg:=c5.sg s3 fun i hi=>(Sp.symm spyx).not (Nat.le_refl _) (Nat.le_refl _) hi,lt:=by rw [hyl,hn]; exact hl1 } hk5 hnx (by omega) (by omega) (by omega) (by omega) (by omega)
   hs64 hl2 (by rw [←hm]; exact hx.lt) hfu (SpC.symm (from_spc hfu (SpC.symm szu) hzw)) spyx spyz oz (oz.nxt hnx hzw) ox1 ox2 hyo ou (by omega) (hchW.glb hg) hchW hzw huw hnx.l ?_
  rw [hpe]
  exact ⟨rfl,rfl,rfl,intv (by omega),intv (by omega),rfl,rfl,trivial⟩
 refine ⟨_,_,_,rfl,bc_intro (fun hb=>?_) (fun hb=>?_)⟩
 ·have hs0:s=0:=by have:=eqE hb; omega
  subst hs0
  obtain ⟨w3,r1,r2,r3⟩:=copyT 45 Tryz.underlying45 y b b.l (by omega) V w2 (hys2.to_wt _ (by omega)) ⟨hb2'.rd.at_,hb2'.sg,hb2'.lt⟩
  have ha3:Nt w3 a U:=r3.nt ha2 fun i hi=>spya.not (Nat.le_refl _) (by omega) hi
  have hx3:=r3.st hxs
  obtain ⟨w4,t1,t2,t3⟩:=copyT 45 Tryz.underlying45 (x.to a.l) a a.l (by show a.l=min a.l a.l; omega) U w3 (hx3.to_wt _ (by omega)) ⟨ha3.rd.at_,ha3.sg,ha3.lt⟩
  have t3:Chg w3 w4 (inR x.b x.o (x.o+a.l)):=t3
  have t2:Sg w4 x.b x.o a.l U:=t2
  have hx4:=t3.st hx3
  have hp:=hx4.pl (by omega)
  refine ⟨w3,_,r1,a.l,rfl,by omega,w4,_,t1,wtC (k:=a.l) hx4.wt rfl (by omega) fun B5=>?_⟩
  have hs5:=t2.step hx.lt (d:=0) (w2:=w4) (by rw [BB_eq]; omega) rfl hp (hx4.wr a.l (by omega)).1
  rw [Nat.mul_zero,Nat.add_zero] at hs5
  have hc5:Chg w4 (w4.setCell ⟨x.b,x.o+a.l,none⟩ (.int .u64 ((0:Nat):Int))) (inR x.b x.o (x.o+x.l)):=Chg.setCell hp _ ⟨rfl,by omega,by omega⟩
  exact fin w3 _ B5 (by rw [hyl]; exact r3) (by rw [hyl,Nat.pow_zero,Nat.mul_one]; exact r2) ((t3.mono fun b' i _ hm=>⟨hm.1,hm.2.1,by have:=hm.2.2; omega⟩).trans' hc5) (by rw [hxl,Nat.pow_zero,Nat.mul_one]; exact hs5)
 ·refine Vec.pass (c145 y b V s w2 hys2.wt hb2'.rd hyl.symm ?_ hs64) ?_
  ·unfold OvUp; unfold Sp at spyb; omega
  rintro c Z w3 t1 hZ hsg hc3
  have hc0:c=0∧Z=V*2^s:=by
   have h1:V*2^s<BB^y.l:=by rw [hyl,hn]; exact hl1
   rcases Nat.eq_zero_or_pos c with h | h
   ·subst h; exact ⟨rfl,by omega⟩
   ·have:BB^y.l*1≤BB^y.l*c:=Nat.mul_le_mul_left _ h
    omega
  rw [hc0.2] at hsg
  have ha3:Nt w3 a U:=hc3.nt ha2 fun i hi=>spya.not (Nat.le_refl _) (Nat.le_refl _) hi
  have hx3:=hc3.st hxs
  refine ⟨_,rfl,a.l,rfl,by omega,Vec.pass (c145 (x.to a.l) a U s w3 (hx3.to_wt _ (by omega)) ha3.rd rfl hsax hs64) ?_⟩
  rintro c2 Z2 w4 t2 hZ2 hsg2 hc4
  have hZ2:Z2<BB^a.l:=hZ2
  have t2:Z2+BB^a.l*c2=U*2^s:=t2
  have hsg2:Sg w4 x.b x.o a.l Z2:=hsg2
  have hc4:Chg w3 w4 (inR x.b x.o (x.o+a.l)):=hc4
  have hx4:=hc4.st hx3
  have hp:=hx4.pl (by omega)
  have hc2B:c2<18446744073709551616:=by
   have h1:U*2^s<BB^a.l*2^s:=Nat.mul_lt_mul_of_pos_right hx.lt (Nat.two_pow_pos s)
   have h2:2^s≤2^64:=Nat.pow_le_pow_right (by omega) (by omega)
   have h3:BB^a.l*2^s≤BB^a.l*2^64:=Nat.mul_le_mul_left _ h2
   have h4:BB^a.l*c2<BB^a.l*2^64:=by omega
   exact Nat.lt_of_mul_lt_mul_left h4
  refine ⟨_,rfl,wtC (k:=a.l) hx4.wt rfl (by omega) fun B5=>?_⟩
  have hs5:=hsg2.step hZ2 (d:=c2) (w2:=w4) (by rw [BB_eq]; exact hc2B) rfl hp (hx4.wr a.l (by omega)).1
  rw [t2] at hs5
  have hc5:Chg w4 (w4.setCell ⟨x.b,x.o+a.l,none⟩ (.int .u64 (c2:Int))) (inR x.b x.o (x.o+x.l)):=Chg.setCell hp _ ⟨rfl,by omega,by omega⟩
  exact fin w3 _ B5 hc3 hsg ((hc4.mono fun b' i _ hm=>⟨hm.1,hm.2.1,by have:=hm.2.2; omega⟩).trans' hc5) (by rw [hxl]; exact hs5)
theorem c81g (K:SK) (z u a b:Sl) (U V:Nat) (w:World) (hk:StkAt w K) (hz:St w z) (hu:St w u) (hx:Nz w a U) (hy:Nz w b V) (hV:V≠0) (hb40:40≤b.l) (hP:b.l≤158∨a.l≤b.l+37) (hal:a.l≤500000)
  (szu:SpC z u) (sza:Sep z a) (sua:Sep u a) (oz:Off K z) (ou:Off K u) (oa:OffL K a) (ob:OffL K b) (hL:K.s.l+18*b.l≤549755813000) (hg:Glb w) :
  Calls Tryz.prog 81 #[z.v,.pointer K.a,u.v,a.v,b.v] w fun e w'=>∃ v,e=.returned v∧DivR w K z u U V v w':=by
 have hb0:b.l≠0:=fun h=>hV (Nz.zero hy.toNt h)
 have hLa:Len a:=by unfold Len; omega
 refine F81.call z.a z.l z.c K.a u.a u.l u.c a.a a.l a.c b.a b.l b.c w _ fun B=>bc_false (eqF (by omega)) fun B1=>F81.t1 z.a z.l z.c K.a u.a u.l u.c a.a a.l a.c b.a b.l b.c ⟨rfl,rfl,rfl,rfl,rfl,trivial⟩ fun B2=>bc_intro (fun hb=>?_) (fun hb=>?_)
 ·exfalso; have:=eqE hb; omega
 ·have hb2:2≤b.l:=by have:=eqN hb; omega
  refine (c92 a b U V w hx hy).mono ?_
  rintro e w1 ⟨_,rfl,rfl,hc⟩
  refine ⟨_,rfl,bc_intro (fun hb=>?_) (fun hb=>⟨_,rfl,bc_false rfl fun B3=>?_⟩)⟩
  ·have hlt:U<V:=by
    have:=dT hb
    unfold sgn at this
    split at this
    ·assumption
    ·split at this <;> omega
   have hz1:=hc.st hz
   refine ⟨0,rfl,Nat.zero_le _,?_⟩
   refine ResE.pass (c60 u a U w1 (hc.st hu) (hc.nz_none hx) hLa) fun r w2 hr fr c2=>⟨_,_,_,rfl,fun B3=>ret2 rfl rfl rfl (DivR.two (q:=z.to 0) hk hu oz ou szu ?_ (From.self w z 0) (hc.none _) ?_ fr c2)⟩
   ·rw [Nat.div_eq_of_lt hlt]; exact nz_zero hz1
   ·rw [Nat.mod_eq_of_lt hlt]; exact hr
  ·have hge:V≤U:=by
    have:=dF hb
    unfold sgn at this
    split at this
    ·omega
    ·split at this <;> omega
   have hba:b.l≤a.l:=hy.nm _ (Nat.lt_of_le_of_lt hge hx.lt)
   refine F81.t2 z.a z.l z.c K.a u.a u.l u.c a.a a.l a.c b.a b.l b.c ⟨rfl,rfl,rfl,rfl,rfl,trivial⟩ fun B4=>(c120g K z u a b U V w1 (hk.none hc) (hc.st hz) (hc.st hu) (hc.nz_none hx) (hc.nz_none hy) hb40 hP hba hal szu sua oz ou oa ob hL (hc.glb hg)).mono ?_
   rintro e w2 ⟨_,rfl,q,r,K',rfl,p1,p2,p3,p4,p5,p6,p7,p8,p9,p10,p11,p12,p13⟩
   have hs:=hc.size
   exact ⟨_,_,_,trivial,_,_,_,trivial,rfl,fun B5=>ret2 rfl rfl rfl ⟨q,r,K',rfl,p1,p2,p3.later hc,p4.later hc,p5,p6,p7.mono hs,p8,p9,p10,fun h h0=>by
     rcases p3 with ⟨_,e2,e3,_⟩ | h'
     ·have:=hz.blk (by omega); omega
     ·exact p11 h' h0,fun h h0=>by
     rcases p4 with ⟨_,e2,e3,_⟩ | h'
     ·have:=hu.blk (by omega); omega
     ·exact p12 h' h0,(hc.none _).trans' p13⟩⟩
end Go.Proofs.YtlkjiiibmfpbcaaGreatDoor
