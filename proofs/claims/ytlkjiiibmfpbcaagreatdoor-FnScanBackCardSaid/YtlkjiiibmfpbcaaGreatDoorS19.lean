/- Contracts: the long division of a row of words by another. Conditions: the divisor has two words or more and its uppermost bit is set; the rows do not meet. -/
import Derived.Test.YtlkjiiibmfpbcaaGreatDoorS18
namespace Go.Proofs.YtlkjiiibmfpbcaaGreatDoor
open Go
theorem W_for' {P:Program} {N:Nat} {σ:Type} {id:Nat} {c:Code} {e:Env} {w:World} {K:Kont} (vars:σ→List (Nat × Value)) (I:σ→World→Prop) (μ:σ→Nat) (s0:σ)
  (h0:agree e (vars s0)) (hI:I s0 w)
  (round:∀ s B w (K0:Kont),I s w→(∀ e' w' s',agree e' (vars s')→e'.defers=e.defers→I s' w'→μ s'<μ s→K0 .normal e' w')→(∀ e' w',K .normal e' w'→K0 (.exit id) e' w')→(∀ e' w',K .ret e' w'→K0 .ret e' w') →
   W P N c (Env.mk (vars s) B e.defers) w K0):W P N (.block id (.loop c)) e w K :=
 W_for vars I μ s0 h0 hI fun s B w hs=>round s B w _ hs (fun _ _ s' h1 h2 h3 h4=>⟨s',h1,h2,h3,h4⟩) (fun e' w' h=>by
  show match Nat.beq id id with
   | true=>K .normal e' w'
   | false=>K (.exit id) e' w'
  rw [show Nat.beq id id=true from Nat.beq_refl id]; exact h) (fun _ _ h=>h)
theorem dn2 {P P' x:Nat} (h:P'+x=P):IntKind.wrap .u64 (((P%18446744073709551616:Nat):Int)-(x:Int))=((P'%18446744073709551616:Nat):Int):=by rw [wrapE]; omega
theorem dn1 {P P' x:Nat} (h:P'+x=P) (hx:x<18446744073709551616) (hl:P%18446744073709551616<x) (hP:P<18446744073709551616*18446744073709551616):IntKind.wrap .u64 (((P/18446744073709551616:Nat):Int)-1)=((P'/18446744073709551616:Nat):Int):=by
 rw [wrapE]; omega
theorem dn0 {P P' x:Nat} (h:P'+x=P) (hl:x≤P%18446744073709551616):((P/18446744073709551616:Nat):Int)=((P'/18446744073709551616:Nat):Int):=by omega
set_option maxHeartbeats 1000000 in
theorem c150t (K:SK) (q u v:Sl) (U V:Nat) (w:World) (hk:StkAt w K) (hq:St w q) (hu:Nt w u U) (hv:Nt w v V) (hn:2≤v.l) (hun:v.l≤u.l) (hul:u.l≤1099511627776)
  (hV:BB^(v.l-1)*9223372036854775808≤V) (hql:(q.l=u.l-v.l∧U/BB^(u.l-v.l)<V)∨u.l-v.l+1≤q.l)
  (squ:Sp q.b q.o q.l u.b u.o u.l) (sqv:Sp q.b q.o q.l v.b v.o v.l) (suv:Sp u.b u.o u.l v.b v.o v.l) (oq:OffL K q) (ou:OffL K u) (ov:OffL K v) (hL:K.s.l≤2199023255552) :
  Calls Tryz.prog 150 #[q.v,.pointer K.a,u.v,v.v] w fun e w'=>e=.returned undef∧Sg w' q.b q.o (min (u.l-v.l+1) q.l) (U/V)∧Sg w' u.b u.o u.l (U%V)∧Back w w' K ∧
   Chg w w' (un (un (inR q.b q.o (q.o+min (u.l-v.l+1) q.l)) (inR u.b u.o (u.o+u.l))) K.free):=by
 have huc:=hu.lc
 have hum:=hu.cm
 have hvc:=hv.lc
 have hqc:=hq.lc
 obtain ⟨n,hne⟩:∃ n,v.l=n+2:=⟨v.l-2,by omega⟩
 obtain ⟨m,hm⟩:∃ m,u.l=m+v.l:=⟨u.l-v.l,by omega⟩
 have hm':u.l-v.l=m:=by omega
 rw [hm'] at hql ⊢
 have hVlt:V<BB^(n+2):=by rw [←hne]; exact hv.lt
 have hV0:0<V:=Nat.lt_of_lt_of_le (Nat.mul_pos (BBpow_pos _) (by omega)) hV
 rw [show v.l-1=n+1 by omega] at hV
 have hVn1:BB^(n+1)≤V:=Nat.le_trans (Nat.le_mul_of_pos_right _ (by omega)) hV
 have hv1e:dg V (n+1)=V/BB^(n+1):=dg_top hVlt
 have hv1:9223372036854775808≤V/BB^(n+1):=by rw [Nat.le_div_iff_mul_le (BBpow_pos _),Nat.mul_comm]; exact hV
 have hv1B:=dg_lt' V (n+1)
 have hv2B:=dg_lt' V n
 refine (F150.call q.a q.l q.c K.a u.a u.l u.c v.a v.l v.c w (fun v' w'=>v'=undef∧Sg w' q.b q.o (min (m+1) q.l) (U/V)∧Sg w' u.b u.o u.l (U%V)∧Back w w' K ∧
   Chg w w' (un (un (inR q.b q.o (q.o+min (m+1) q.l)) (inR u.b u.o (u.o+u.l))) K.free)) fun B=>⟨by unfold inI64; omega,(c103 w K hk).mono ?_⟩).mono fun e w' ⟨v,h1,h2,h3⟩=>⟨by rw [h1,h2],h3⟩
 rintro e _ ⟨_,rfl,rfl,rfl⟩
 refine ⟨_,rfl,by unfold inI64; omega,?_⟩
 rw [show ((v.l:Int)+1)=((v.l+1:Nat):Int) by omega,show ((u.l:Int)-(v.l:Int))=(m:Int) by omega]
 refine (c104 _ K hk (v.l+1) (by omega) hL).mono ?_
 rintro e w1 ⟨_,rfl,t,K1,rfl,htl,ht,hto,htf,hk1,hnx,hc1,hl1⟩
 have htc:=ht.lc
 have spv:Sp t.b t.o t.l v.b v.o v.l:=(take_sp htf ov (fun h=>hv.blk h)).mono htc (Nat.le_refl _)
 have spu:Sp t.b t.o t.l u.b u.o u.l:=(take_sp htf ou (fun h=>hu.blk h)).mono htc (Nat.le_refl _)
 have spq:Sp t.b t.o t.l q.b q.o q.l:=(take_sp htf oq (fun h=>hq.blk (by omega))).mono htc (Nat.le_refl _)
 have hv1':Nt w1 v V:=hc1.nt hv fun i hi=>ov _ (by omega) (by omega)
 have hu1':Nt w1 u U:=hc1.nt hu fun i hi=>ou _ (by omega) (by omega)
 refine ⟨_,_,_,rfl,by unfold inI64; omega,rdC (k:=n+1) (hv.at_ (by omega)) (by omega) (by omega) (hv1'.sg (n+1) (by omega)) ((c160 (dg V (n+1)) (by omega) hv1B w1).mono ?_)⟩
 rintro e w2 ⟨rfl,hc2⟩
 refine ⟨_,rfl,fun B1=>?_⟩
 have hv2':=hc2.nt_none hv1'
 have hu2':=hc2.nt_none hu1'
 have hq2:=hc2.st (hc1.st hq)
 have ht2:=hc2.st ht
 have hk2:=hk1.none hc2
 obtain ⟨v1,hv1d⟩:∃ v1,v1=dg V (n+1):=⟨_,rfl⟩
 rw [←hv1d] at hv1e hv1B ⊢
 rw [←hv1e] at hv1
 obtain ⟨v2,hv2d⟩:∃ v2,v2=dg V n:=⟨_,rfl⟩
 have hvv:V/BB^n=v1*18446744073709551616+v2:=by rw [div_split V n,←hv1e,←hv2d,BB_eq]; omega
 rw [←hv2d] at hv2B
 have hRlt:∀ k,U/BB^k%V<V:=fun k=>Nat.mod_lt _ hV0
 have hUtop:U/BB^(m+1)<BB^(n+1):=by
  rw [Nat.div_lt_iff_lt_mul (BBpow_pos _),←Nat.pow_add,show n+1+(m+1)=u.l by omega]; exact hu.lt
 rw [F150.q2]
 refine W_for' (σ:=Nat) (fun k=>[(0,q.v),(2,u.v),(3,v.v),(8,.int .i64 (v.l:Int)),(9,.int .i64 (m:Int)),(10,t.v),(11,.int .u64 (v1:Int)),(12,.int .u64 (rcp v1:Int)),(13,.int .u64 (dg (U/BB^k%V) (n+1):Int)),(14,.int .i64 ((k:Int)-1))])
  (fun k wr=>k≤m+1∧Sg wr u.b u.o u.l (U%BB^k+BB^k*(U/BB^k%V))∧Sg wr q.b (q.o+k) (min (m+1) q.l-k) (U/BB^k/V)∧Chg w2 wr (un (un (inR q.b q.o (q.o+min (m+1) q.l)) (inR u.b u.o (u.o+u.l))) (inR t.b t.o (t.o+t.l))))
  (fun k=>k) (m+1) ⟨rfl,rfl,rfl,rfl,rfl,rfl,rfl,rfl,intv ?_,intv (by omega),trivial⟩ ⟨Nat.le_refl _,?_,?_,Chg.refl _ _⟩ ?_
 ·rw [Nat.mod_eq_of_lt (Nat.lt_of_lt_of_le hUtop hVn1),dg_of_lt _ _ hUtop]; rfl
 ·rw [Nat.mod_eq_of_lt (Nat.lt_of_lt_of_le hUtop hVn1),Nat.mod_add_div]; exact hu2'.sg
 ·rw [show min (m+1) q.l-(m+1)=0 by omega]; exact Sg.zero
 rintro k B2 wr K0 ⟨hkm,hsu,hsq,hch⟩ hKn hKe _
 have htr:=hch.st ht2
 have hqr:=hch.st hq2
 have hur:=hch.st hu2'.toSt
 have hvr:Nt wr v V:=hch.nt hv2' fun i hi hm=>hm.elim (fun hm=>hm.elim (sqv.not (Nat.le_refl _) (by omega) hi) (suv.not (Nat.le_refl _) (Nat.le_refl _) hi)) (spv.not (Nat.le_refl _) (Nat.le_refl _) hi)
 refine F150.t1 q.a q.l q.c u.a u.l u.c v.a v.l v.c v.l m t.a t.l t.c v1 (rcp v1) _ ((k:Int)-1) ⟨rfl,rfl,rfl,rfl,rfl,rfl,rfl,rfl,rfl,rfl,trivial⟩ fun B3=>bc_intro (fun hb B4=>?_) (fun hb B4=>?_)
 ·obtain ⟨j,rfl⟩:∃ j,k=j+1:=⟨k-1,by have:=dT hb; omega⟩
  have hj:j≤m:=by omega
  rw [show (((j+1:Nat):Int)-1)=(j:Int) by omega]
  obtain ⟨ls1,ls2⟩:=long_step (U:=U) (V:=V) (k:=j) hV0
  obtain ⟨R,hR⟩:∃ R,R=U/BB^(j+1)%V:=⟨_,rfl⟩
  have hRV:R<V:=by rw [hR]; exact hRlt _
  obtain ⟨N,hN⟩:∃ N,N=R*BB+dg U j:=⟨_,rfl⟩
  rw [←hR] at hsu ls1 ls2 ⊢
  rw [←hN] at ls1 ls2
  have hdj:=dg_lt U j
  have hNV:N<V*BB:=by
   rw [hN]
   have:(R+1)*BB≤V*BB:=Nat.mul_le_mul_right _ hRV
   rw [Nat.add_mul,Nat.one_mul] at this; omega
  have hNB:N<BB^(n+3):=by
   refine Nat.lt_trans hNV ?_
   rw [BBpow_succ]; exact Nat.mul_lt_mul_of_pos_right hVlt BB_pos
  have hval:U%BB^(j+1)+BB^(j+1)*R=U%BB^j+BB^j*N:=by
   rw [mod_succ,BBpow_succ,Nat.mul_assoc,hN,Nat.mul_add,Nat.mul_comm R BB]; omega
  rw [hval] at hsu
  have hUj:=Nat.mod_lt U (BBpow_pos j)
  have hdig:∀ i,dg (U%BB^j+BB^j*N) (j+i)=dg N i:=fun i=>dg_add_hi _ _ _ _ hUj
  have hdR:dg R (n+1)=dg N (n+2):=by
   rw [hN,show R*BB+dg U j=dg U j+BB^1*R by rw [Nat.pow_one,Nat.mul_comm]; omega,show n+2=1+(n+1) by omega,dg_add_hi _ _ _ _ (by rw [Nat.pow_one]; exact hdj)]
  rw [hdR]
  obtain ⟨u0,hu0⟩:∃ u0,u0=dg N (n+2):=⟨_,rfl⟩
  obtain ⟨u1,hu1⟩:∃ u1,u1=dg N (n+1):=⟨_,rfl⟩
  obtain ⟨u2,hu2⟩:∃ u2,u2=dg N n:=⟨_,rfl⟩
  have hu0B:=dg_lt' N (n+2)
  have hu1B:=dg_lt' N (n+1)
  have hu2B:=dg_lt' N n
  have e0:N/BB^(n+2)=u0:=by rw [hu0]; exact (dg_top hNB).symm
  have e1:N/BB^(n+1)=u0*18446744073709551616+u1:=by rw [div_split N (n+1),e0,←hu1,BB_eq]; omega
  have e2:N/BB^n=(u0*18446744073709551616+u1)*18446744073709551616+u2:=by rw [div_split N n,e1,←hu2,BB_eq]; omega
  rw [←hu0] at hu0B ⊢
  rw [←hu1] at hu1B
  rw [←hu2] at hu2B
  have hu0v:u0≤v1:=by
   have h1:R/BB^(n+1)≤V/BB^(n+1):=Nat.div_le_div_right (Nat.le_of_lt hRV)
   have h2:dg R (n+1)=R/BB^(n+1):=dg_top (Nat.lt_trans hRV hVlt)
   rw [hdR,←hu0] at h2
   omega
  have htop:j=m→N<BB^(n+2):=by
   intro hjm
   have h1:U/BB^(j+1)<V:=by rw [hjm]; exact Nat.lt_of_lt_of_le hUtop hVn1
   have h2:R=U/BB^(j+1):=by rw [hR]; exact Nat.mod_eq_of_lt h1
   have h3:N=U/BB^j:=by rw [hN,h2,div_split U j,Nat.mul_comm]; omega
   rw [h3,Nat.div_lt_iff_lt_mul (BBpow_pos _),←Nat.pow_add,show n+2+j=u.l by omega]; exact hu.lt
  have hqB:N/V<18446744073709551616:=by rw [Nat.div_lt_iff_lt_mul hV0,Nat.mul_comm]; exact hNV
  have hN1:=Nat.div_add_mod N V
  have hN0:=Nat.zero_le (N/V)
  have hN2:=Nat.mod_lt N hV0
  have fin3:∀ (w':World) (e:Env),e.defers=[Dr K.a (K.s.l:Int)]→Sg w' u.b u.o u.l (U%BB^j+BB^j*(N%V))→Sg w' q.b (q.o+j) (min (m+1) q.l-j) (U/BB^j/V)→Chg w2 w' (un (un (inR q.b q.o (q.o+min (m+1) q.l)) (inR u.b u.o (u.o+u.l))) (inR t.b t.o (t.o+t.l))) →
    agree e (F150.l3 q.a q.l q.c u.a u.l u.c v.a v.l v.c v.l m t.a t.l t.c v1 (rcp v1) (dg (N%V) (n+1)) j)→W Tryz.prog 201 F150.p3 e w' K0:=by
   intro w' e he s1 s2 hc ha
   refine F150.t3 q.a q.l q.c u.a u.l u.c v.a v.l v.c v.l m t.a t.l t.c v1 (rcp v1) (dg (N%V) (n+1)) j ha fun B5=>⟨by unfold inI64; omega,fun B6=>hKn _ _ j ⟨rfl,rfl,rfl,rfl,rfl,rfl,rfl,rfl,intv ?_,rfl,trivial⟩ he ⟨by omega,?_,s2,hc⟩ (by omega)⟩
   ·rw [ls2]
   ·rw [ls2]; exact s1
  have fin11:∀ (w':World) (e:Env),e.defers=[Dr K.a (K.s.l:Int)]→Sg w' u.b u.o u.l (U%BB^j+BB^j*(N%V))→Sg w' q.b (q.o+(j+1)) (min (m+1) q.l-(j+1)) (U/BB^(j+1)/V)→Chg w2 w' (un (un (inR q.b q.o (q.o+min (m+1) q.l)) (inR u.b u.o (u.o+u.l))) (inR t.b t.o (t.o+t.l))) →
    agree e (F150.l11 q.a q.l q.c u.a u.l u.c v.a v.l v.c v.l m t.a t.l t.c v1 (rcp v1) j (N/V:Nat))→W Tryz.prog 201 F150.p11 e w' (blockK 1 (thenW Tryz.prog 201 F150.p3 K0)):=by
   intro w' e he s1 s2 hc ha
   have hq':=hc.st hq2
   have hcell:=s1 (j+(n+1)) (by omega)
   rw [dg_add_hi _ _ _ _ hUj] at hcell
   have stored:∀ (B6:Nat→Value) (hjq:j<q.l),W Tryz.prog 201 F150.p3 (E [(0,q.v),(2,u.v),(3,v.v),(8,.int .i64 (v.l:Int)),(9,.int .i64 (m:Int)),(10,t.v),(11,.int .u64 (v1:Int)),(12,.int .u64 (rcp v1:Int)),(13,.int .u64 (dg (N%V) (n+1):Int)),(14,.int .i64 (j:Int))] B6 e.defers)
     (w'.setCell ⟨q.b,q.o+j,none⟩ (.int .u64 ((N/V:Nat):Int))) K0:=by
    intro B6 hjq
    have hp:=hq'.pl (by omega)
    have hcs:Chg w' (w'.setCell ⟨q.b,q.o+j,none⟩ (.int .u64 ((N/V:Nat):Int))) (inR q.b (q.o+j) (q.o+j+1)):=Chg.setCell hp _ ⟨rfl,by omega,by omega⟩
    obtain ⟨u',hu'⟩:=(hq'.wr j (by omega)).1
    refine fin3 _ _ he (hcs.sg s1 fun i hi=>squ.not (by omega) (by omega) hi) ?_ (hc.trans' (hcs.mono fun b i _ hm=>.inl (.inl ⟨hm.1,by have:=hm.2.1; omega,by have:=hm.2.2; omega⟩))) ⟨rfl,rfl,rfl,rfl,rfl,rfl,rfl,rfl,rfl,rfl,trivial⟩
    have h1:Sg (w'.setCell ⟨q.b,q.o+j,none⟩ (.int .u64 ((N/V:Nat):Int))) q.b (q.o+j) 1 (N/V):=by
     intro i hi
     have:i=0:=by omega
     subst this
     rw [dg_self _ (by rw [BB_eq]; exact hqB)]
     exact World.cell?_setCell_same _ _ _ hu'
    have h3:=Sg.join h1 (hcs.sg (b:=q.b) (o:=q.o+(j+1)) s2 fun i hi hm=>by have:=hm.2.2; omega) (by rw [Nat.pow_one,BB_eq]; exact hqB)
    rw [Nat.pow_one,←ls1] at h3
    exact h3.le (by omega)
   refine F150.t11 q.a q.l q.c u.a u.l u.c v.a v.l v.c v.l m t.a t.l t.c v1 (rcp v1) j (N/V:Nat) ha fun B5=>⟨by unfold inI64; omega,by unfold inI64; omega,rdC (k:=j+(n+1)) (hu.at_ (by omega)) (by omega) (by omega) hcell (bc_intro (fun hb=>bc_intro (fun hb1=>bc_intro (fun hb2 B6=>?_) (fun hb2=>?_)) (fun hb1=>?_)) (fun hb=>?_))⟩
   ·have hjm:j=m:=by have:=eqE hb; omega
    have hmq:m=q.l:=by have:=eqE hb1; omega
    refine fin3 _ _ he s1 ?_ hc ⟨rfl,rfl,rfl,rfl,rfl,rfl,rfl,rfl,rfl,rfl,trivial⟩
    rw [show min (m+1) q.l-j=0 by omega]; exact Sg.zero
   ·exfalso
    have hjm:j=m:=by have:=eqE hb; omega
    have hmq:m=q.l:=by have:=eqE hb1; omega
    have h1:U/BB^j<V:=by
     rcases hql with ⟨_,h⟩ | h
     ·rw [hjm]; exact h
     ·omega
    have h2:U/BB^j/V=0:=Nat.div_eq_of_lt h1
    rw [ls1] at h2
    exact eqN hb2 (by rw [(Nat.add_eq_zero_iff.1 h2).1]; rfl)
   ·have hjm:j=m:=by have:=eqE hb; omega
    have hmq:m≠q.l:=by have:=eqN hb1; omega
    have hjq:j<q.l:=by rcases hql with ⟨h,_⟩ | h <;> omega
    exact wtC (k:=j) hq'.wt rfl hjq fun B6=>stored B6 hjq
   ·have hjm:j≠m:=by have:=eqN hb; omega
    have hjq:j<q.l:=by rcases hql with ⟨h,_⟩ | h <;> omega
    exact wtC (k:=j) hq'.wt rfl hjq fun B6=>stored B6 hjq
  have sub9:∀ (p qh:Nat) (w':World) (e:Env),e.defers=[Dr K.a (K.s.l:Int)]→(p=n+2∨p=n+3)→j+p≤u.l→N<BB^p→qh*V<BB^p→Guess N V qh→Sg w' u.b u.o u.l (U%BB^j+BB^j*N)→Sg w' q.b (q.o+(j+1)) (min (m+1) q.l-(j+1)) (U/BB^(j+1)/V) →
    Chg w2 w' (un (un (inR q.b q.o (q.o+min (m+1) q.l)) (inR u.b u.o (u.o+u.l))) (inR t.b t.o (t.o+t.l)))→Sg w' t.b t.o t.l (qh*V)→agree e (F150.l9 q.a q.l q.c u.a u.l u.c v.a v.l v.c v.l m t.a t.l t.c v1 (rcp v1) j qh p)→W Tryz.prog 201 F150.p9 e w' (blockK 1 (thenW Tryz.prog 201 F150.p3 K0)):=by
   intro p qh w' e he hp hjp hNp hPp hG s1 s2 hc s3 ha
   obtain ⟨g1,g2,g3⟩:=hG
   have cd:Chg w' w'.drew none2:=Chg.drew0 w' _
   have hc':=hc.drew
   have hud:=hc'.st hu2'.toSt
   have htd:=hc'.st ht2
   have elen:(u.sub j (j+p)).l=p:=by show j+p-j=p; omega
   have hvj:(U%BB^j+BB^j*N)/BB^j=N:=by rw [Nat.add_mul_div_left _ _ (BBpow_pos j),Nat.div_eq_of_lt hUj,Nat.zero_add]
   have hvlt:U%BB^j+BB^j*N<BB^(j+p):=by
    have:BB^j*N+BB^j≤BB^j*BB^p:=by rw [←Nat.mul_succ]; exact Nat.mul_le_mul_left _ hNp
    rw [Nat.pow_add]; omega
   have hvm:(U%BB^j+BB^j*N)%BB^j=U%BB^j:=by rw [Nat.add_mul_mod_self_left,Nat.mod_mod]
   have ej:((j:Int)+(p:Int))=((j+p:Nat):Int):=by omega
   refine F150.t9 q.a q.l q.c u.a u.l u.c v.a v.l v.c v.l m t.a t.l t.c v1 (rcp v1) j qh p ha fun B5=>?_
   unfold F150.v9
   rw [ej]
   refine ⟨by unfold inI64; omega,j,j+p,rfl,rfl,by omega,by omega,by unfold inI64; omega,j,j+p,rfl,rfl,by omega,by omega,p,rfl,by omega,?_⟩
   have hr1:Rd w'.drew (u.sub j (j+p)) N:=by
    refine ⟨fun h0=>at_sub hud.at_ (by omega) h0,?_,by rw [elen]; exact hNp⟩
    rw [elen]
    have:=cd.sg (s1.hi j p (by omega)) fun _ _ h=>h
    rw [hvj] at this; exact this
   have hr2:Rd w'.drew (t.to p) (qh*V):=⟨fun h0=>htd.at_ (by omega),cd.sg (s3.le (by show p≤t.l; omega)) fun _ _ h=>h,hPp⟩
   refine Vec.pass (c82 (u.sub j (j+p)) (u.sub j (j+p)) (t.to p) N (qh*V) w'.drew (hud.sub_wt _ _ (by omega) (by omega)) hr1 hr2 rfl (by rw [elen]; rfl) (.inr (.inr (.inl (Nat.le_refl _)))) ?_) ?_
   ·unfold Ov; unfold Sp at spu
    show p=0∨t.b≠u.b∨u.o+j≤t.o∨t.o+p≤u.o+j
    omega
   rintro c Z w3 ⟨t1,t2⟩ hZ hsg hc3
   rw [elen] at t1 hZ hsg hc3
   have hsg:Sg w3 u.b (u.o+j) p Z:=hsg
   have hc3:Chg w'.drew w3 (inR u.b (u.o+j) (u.o+j+p)):=hc3
   have hq3:Sg w3 q.b (q.o+(j+1)) (min (m+1) q.l-(j+1)) (U/BB^(j+1)/V):=hc3.sg (cd.sg s2 fun _ _ h=>h) fun i hi=>by
    rintro ⟨a1,a2,a3⟩; unfold Sp at squ; omega
   have hcu:Chg w2 w3 (un (un (inR q.b q.o (q.o+min (m+1) q.l)) (inR u.b u.o (u.o+u.l))) (inR t.b t.o (t.o+t.l))):=hc'.trans' (hc3.mono fun b i _ hm=>.inl (.inr ⟨hm.1,by have:=hm.2.1; omega,by have:=hm.2.2; omega⟩))
   refine ⟨_,rfl,bc_intro (fun hb=>?_) (fun hb B6=>?_)⟩
   ·have hc1:c=1:=by have:=neN hb; omega
    subst hc1
    have hqh:qh=N/V+1:=by
     rcases Nat.lt_or_ge (N/V) qh with h | h
     ·omega
     ·exfalso
      have:qh*V≤N:=Nat.le_trans (Nat.mul_le_mul_right _ h) (Nat.div_mul_le_self N V)
      omega
    have hZV:Z+V=N%V+BB^p:=by
     have h1:qh*V=V*(N/V)+V:=by rw [hqh,Nat.add_mul,Nat.one_mul,Nat.mul_comm]
     omega
    have en:((j:Int)+(v.l:Int))=((j+v.l:Nat):Int):=by omega
    rw [en]
    have cd3:Chg w3 w3.drew none2:=Chg.drew0 w3 _
    have hu3:=hcu.drew.st hu2'.toSt
    have hv3:Nt w3.drew v V:=hcu.drew.nt hv2' fun i hi hm=>hm.elim (fun hm=>hm.elim (sqv.not (Nat.le_refl _) (by omega) hi) (suv.not (Nat.le_refl _) (Nat.le_refl _) hi)) (spv.not (Nat.le_refl _) (Nat.le_refl _) hi)
    have elen2:(u.sub j (j+v.l)).l=n+2:=by show j+v.l-j=_; omega
    have hsl:Sg w3.drew u.b (u.o+j) (n+2) (Z%BB^(n+2)):=cd3.sg (hsg.le (by omega)).mod fun _ _ h=>h
    refine ⟨by unfold inI64; omega,j,j+v.l,rfl,rfl,by omega,by omega,by unfold inI64; omega,j,j+v.l,rfl,rfl,by omega,by omega,?_⟩
    refine Vec.pass (c138 (u.sub j (j+v.l)) (u.sub j (j+v.l)) v (Z%BB^(n+2)) V w3.drew (hu3.sub_wt _ _ (by omega) (by omega)) ⟨fun h0=>at_sub hu3.at_ (by omega) h0,by rw [elen2]; exact hsl,by rw [elen2]; exact Nat.mod_lt _ (BBpow_pos _)⟩ hv3.rd rfl (by rw [elen2]; omega) (.inr (.inr (.inl (Nat.le_refl _)))) ?_) ?_
    ·unfold Ov; unfold Sp at suv
     show v.l=0∨v.b≠u.b∨u.o+j≤v.o∨v.o+v.l≤u.o+j
     omega
    rintro c2 Z2 w4 ⟨u1',u2'⟩ hZ2 hsg2 hc4
    rw [elen2] at u1' hZ2 hsg2 hc4
    have hsg2:Sg w4 u.b (u.o+j) (n+2) Z2:=hsg2
    have hc4:Chg w3.drew w4 (inR u.b (u.o+j) (u.o+j+(n+2))):=hc4
    have hq4:Sg w4 q.b (q.o+(j+1)) (min (m+1) q.l-(j+1)) (U/BB^(j+1)/V):=hc4.sg (cd3.sg hq3 fun _ _ h=>h) fun i hi=>by
     rintro ⟨a1,a2,a3⟩; unfold Sp at squ; omega
    have hcu4:Chg w2 w4 (un (un (inR q.b q.o (q.o+min (m+1) q.l)) (inR u.b u.o (u.o+u.l))) (inR t.b t.o (t.o+t.l))):=hcu.drew.trans' (hc4.mono fun b i _ hm=>.inl (.inr ⟨hm.1,by have:=hm.2.1; omega,by have:=hm.2.2; omega⟩))
    have hRB:N%V<BB^(n+2):=Nat.lt_trans hN2 hVlt
    have c13:Chg w' w4 (inR u.b (u.o+j) (u.o+j+p)):=(cd.none _).trans' (hc3.trans' ((cd3.none _).trans' (hc4.mono fun b i _ hm=>⟨hm.1,hm.2.1,by have:=hm.2.2; omega⟩)))
    have eqh:IntKind.wrap .u64 ((qh:Int)-1)=((N/V:Nat):Int):=by rw [wSub1 qh (by omega) (by omega),hqh,Nat.add_sub_cancel]
    refine ⟨_,rfl,bc_intro (fun hb=>?_) (fun hb B6=>?_)⟩
    ·have hp3:p=n+3:=by have:=dT hb; omega
     subst hp3
     have hZsp:=Nat.mod_add_div Z (BB^(n+2))
     have hZt:dg Z (n+2)=Z/BB^(n+2):=dg_top hZ
     have htot:Z2+BB^(n+2)*(c2+Z/BB^(n+2))=N%V+BB^(n+2)*BB:=by
      rw [Nat.mul_add,←BBpow_succ,show n+2+1=n+3 from rfl]; omega
     have hZ2e:Z2=N%V:=by
      have h1:=congrArg (·%BB^(n+2)) htot
      simp only [Nat.add_mul_mod_self_left] at h1
      rw [Nat.mod_eq_of_lt hZ2,Nat.mod_eq_of_lt hRB] at h1
      exact h1
     have hce:c2+Z/BB^(n+2)=BB:=by
      have:BB^(n+2)*(c2+Z/BB^(n+2))=BB^(n+2)*BB:=by omega
      exact Nat.eq_of_mul_eq_mul_left (BBpow_pos _) this
     have hcell:w4.cell? ⟨u.b,u.o+(j+v.l),none⟩=some (.int .u64 (dg Z (n+2):Int)):=by
      have h1:=hsg (n+2) (by omega)
      rw [show u.o+(j+v.l)=u.o+j+(n+2) by omega]
      have h2:(inR u.b (u.o+j) (u.o+j+(n+2))) u.b (u.o+j+(n+2))→False:=fun hm=>by have:=hm.2.2; omega
      rw [hc4.cell (Nat.lt_of_lt_of_le (lt_of_cell h1) cd3.size) h2,cd3.cell (lt_of_cell h1) (fun h=>h)]
      exact h1
     have hu4:=hcu4.st hu2'.toSt
     have hp4:=hu4.pl (by omega)
     refine ⟨by unfold inI64; omega,rdC (k:=j+v.l) (hu.at_ (by omega)) rfl (by omega) hcell (wtC (k:=j+v.l) hu4.wt rfl (by omega) fun B6=>?_)⟩
     have ew:IntKind.wrap .u64 ((dg Z (n+2):Int)+(c2:Int))=((0:Nat):Int):=by
      rw [hZt,addN,wrapM]
      have:(Z/BB^(n+2)+c2)%18446744073709551616=0:=by rw [Nat.add_comm,hce]; exact Nat.mod_self _
      rw [this]
     rw [ew]
     have hc5:Chg w4 (w4.setCell ⟨u.b,u.o+(j+v.l),none⟩ (.int .u64 ((0:Nat):Int))) (inR u.b (u.o+(j+v.l)) (u.o+(j+v.l)+1)):=Chg.setCell hp4 _ ⟨rfl,by omega,by omega⟩
     have hs5:Sg (w4.setCell ⟨u.b,u.o+(j+v.l),none⟩ (.int .u64 ((0:Nat):Int))) u.b (u.o+j) (n+2+1) (Z2+BB^(n+2)*0):=by
      have:=hsg2.step hZ2 (d:=0) (w2:=w4) (by rw [BB_eq]; omega) rfl hp4 ⟨_,by rw [show u.o+j+(n+2)=u.o+(j+v.l) by omega]; exact hcell⟩
      rw [show u.o+j+(n+2)=u.o+(j+v.l) by omega] at this; exact this
     rw [Nat.mul_zero,Nat.add_zero,hZ2e] at hs5
     have s5:=s1.splice (c13.trans' (hc5.mono fun b i _ hm=>⟨hm.1,by have:=hm.2.1; omega,by have:=hm.2.2; omega⟩)) hs5 hvlt (lt_pow_of_le hRB (by omega)) (by omega)
     rw [hvm] at s5
     refine F150.t12 q.a q.l q.c u.a u.l u.c v.a v.l v.c v.l m t.a t.l t.c v1 (rcp v1) j qh ⟨rfl,rfl,rfl,rfl,rfl,rfl,rfl,rfl,rfl,rfl,trivial⟩ fun B7 B8=>fin11 _ _ he s5 (hc5.sg hq4 fun i hi=>by rintro ⟨a1,a2,a3⟩; unfold Sp at squ; omega) (hcu4.trans' (hc5.mono fun b i _ hm=>.inl (.inr ⟨hm.1,by have:=hm.2.1; omega,by have:=hm.2.2; omega⟩))) ⟨rfl,rfl,rfl,rfl,rfl,rfl,rfl,rfl,rfl,intv eqh,trivial⟩
    ·have hp2:p=n+2:=by have:=dF hb; omega
     subst hp2
     rw [Nat.mod_eq_of_lt hZ] at u1'
     have hZ2e:Z2=N%V:=by
      have h1:Z2+BB^(n+2)*c2=N%V+BB^(n+2)*1:=by omega
      have h1:=congrArg (·%BB^(n+2)) h1
      simp only [Nat.add_mul_mod_self_left] at h1
      rw [Nat.mod_eq_of_lt hZ2,Nat.mod_eq_of_lt hRB] at h1
      exact h1
     rw [hZ2e] at hsg2
     have s5:=s1.splice c13 hsg2 hvlt hRB (by omega)
     rw [hvm] at s5
     exact F150.t12 q.a q.l q.c u.a u.l u.c v.a v.l v.c v.l m t.a t.l t.c v1 (rcp v1) j qh ⟨rfl,rfl,rfl,rfl,rfl,rfl,rfl,rfl,rfl,rfl,trivial⟩ fun B7 B8=>fin11 _ _ he s5 hq4 hcu4 ⟨rfl,rfl,rfl,rfl,rfl,rfl,rfl,rfl,rfl,intv eqh,trivial⟩
   ·have hc0:c=0:=by have:=neE hb; omega
    subst hc0
    rw [Nat.mul_zero,Nat.add_zero] at t1
    have hqh:qh=N/V:=by
     have:qh≤N/V:=by rw [Nat.le_div_iff_mul_le hV0]; omega
     omega
    have hZe:Z=N%V:=by
     have h1:qh*V=V*(N/V):=by rw [hqh,Nat.mul_comm]
     omega
    have s5:=s1.splice ((cd.none _).trans' hc3) hsg hvlt hZ hjp
    rw [hvm,hZe] at s5
    exact fin11 w3 _ he s5 hq3 hcu ⟨rfl,rfl,rfl,rfl,rfl,rfl,rfl,rfl,rfl,intv (by rw [hqh]),trivial⟩
  have mid6:∀ (qh:Nat) (e:Env),e.defers=[Dr K.a (K.s.l:Int)]→Guess N V qh→(j=m→qh*V<BB^(n+2))→agree e (F150.l6 q.a q.l q.c u.a u.l u.c v.a v.l v.c v.l m t.a t.l t.c v1 (rcp v1) j qh)→W Tryz.prog 201 F150.p6 e wr (blockK 1 (thenW Tryz.prog 201 F150.p3 K0)):=by
   intro qh e he hG hjm6 ha
   have hG':=hG
   obtain ⟨g1,g2,g3⟩:=hG'
   refine F150.t6 q.a q.l q.c u.a u.l u.c v.a v.l v.c v.l m t.a t.l t.c v1 (rcp v1) j qh ha fun B5=>⟨0,v.l,rfl,rfl,by omega,by omega,?_⟩
   have elen:(t.sub 0 v.l).l=v.l:=rfl
   refine Vec.pass (c91 (t.sub 0 v.l) v V qh 0 wr (htr.sub_wt _ _ (by omega) (by omega)) hvr.rd rfl ?_ g3 (by omega)) ?_
   ·unfold Ov; unfold Sp at spv
    show v.l=0∨v.b≠t.b∨t.o+0≤v.o∨v.o+v.l≤t.o+0
    omega
   rintro c Z w3 ⟨t1,t2⟩ hZ hsg hc3
   have hZ:Z<BB^v.l:=hZ
   have t1:Z+BB^v.l*c=V*qh+0:=t1
   have hsg:Sg w3 t.b (t.o+0) v.l Z:=hsg
   have hc3:Chg wr w3 (inR t.b (t.o+0) (t.o+0+v.l)):=hc3
   rw [Nat.add_zero] at hsg hc3 t1
   have ht3:=hc3.st htr
   have hp:=ht3.pl (by omega)
   have hs4:=hsg.step hZ (d:=c) (w2:=w3) (by rw [BB_eq]; exact t2) rfl hp (ht3.wr v.l (by omega)).1
   have hc4:Chg w3 (w3.setCell ⟨t.b,t.o+v.l,none⟩ (.int .u64 (c:Int))) (inR t.b (t.o+v.l) (t.o+v.l+1)):=Chg.setCell hp _ ⟨rfl,by omega,by omega⟩
   have c34:Chg wr (w3.setCell ⟨t.b,t.o+v.l,none⟩ (.int .u64 (c:Int))) (inR t.b t.o (t.o+t.l)):=(hc3.mono fun b i _ hm=>⟨hm.1,hm.2.1,by have:=hm.2.2; omega⟩).trans' (hc4.mono fun b i _ hm=>⟨hm.1,by have:=hm.2.1; omega,by have:=hm.2.2; omega⟩)
   have hcell:(w3.setCell ⟨t.b,t.o+v.l,none⟩ (.int .u64 (c:Int))).cell? ⟨t.b,t.o+v.l,none⟩=some (.int .u64 (c:Int)):=by
    obtain ⟨u',hu'⟩:=(ht3.wr v.l (by omega)).1
    exact World.cell?_setCell_same _ _ _ hu'
   rw [t1,Nat.mul_comm V qh] at hs4
   have hPlt:qh*V<BB^(n+3):=by
    have:=dlt hZ t2
    rw [t1,Nat.mul_comm,show v.l+1=n+3 by omega] at this; exact this
   refine ⟨_,rfl,wtC (k:=v.l) ht3.wt rfl (by omega) ?_⟩
   rw [show v.l+1=t.l by omega] at hs4
   generalize w3.setCell ⟨t.b,t.o+v.l,none⟩ (.int .u64 (c:Int))=w5 at hs4 c34 hcell
   have s1:Sg w5 u.b u.o u.l (U%BB^j+BB^j*N):=c34.sg hsu fun i hi=>spu.not (Nat.le_refl _) (Nat.le_refl _) hi
   have s2:Sg w5 q.b (q.o+(j+1)) (min (m+1) q.l-(j+1)) (U/BB^(j+1)/V):=c34.sg hsq fun i hi=>by rintro ⟨a1,a2,a3⟩; unfold Sp at spq; omega
   have hc5:Chg w2 w5 (un (un (inR q.b q.o (q.o+min (m+1) q.l)) (inR u.b u.o (u.o+u.l))) (inR t.b t.o (t.o+t.l))):=hch.trans' (c34.r _)
   refine ⟨by unfold inI64; omega,bc_intro (fun hb=>?_) (fun hb B6=>?_)⟩
   ·have hjm:j=m:=by have:=dT hb; omega
    have hP2:=hjm6 hjm
    have hc0:c=0:=by
     rcases Nat.eq_zero_or_pos c with h | h
     ·exact h
     ·have:BB^v.l*1≤BB^v.l*c:=Nat.mul_le_mul_left _ h
      rw [hne] at this t1
      rw [Nat.mul_comm] at hP2
      omega
    refine rdC (k:=v.l) (ht.at_ (by omega)) rfl (by omega) hcell (bc_true (eqT (by omega)) ⟨by unfold inI64; omega,fun B6=>?_⟩)
    exact sub9 (n+2) qh w5 _ he (.inl rfl) (by omega) (htop hjm) hP2 hG s1 s2 hc5 hs4 ⟨rfl,rfl,rfl,rfl,rfl,rfl,rfl,rfl,rfl,rfl,intv (by omega),trivial⟩
   ·have hjm:j+1≤m:=by have:=dF hb; omega
    exact sub9 (n+3) qh w5 _ he (.inr rfl) (by omega) hNB hPlt hG s1 s2 hc5 hs4 ⟨rfl,rfl,rfl,rfl,rfl,rfl,rfl,rfl,rfl,rfl,intv (by omega),trivial⟩
  rw [F150.q5]
  refine W_block (F150.t4 q.a q.l q.c u.a u.l u.c v.a v.l v.c v.l m t.a t.l t.c v1 (rcp v1) u0 j ⟨rfl,rfl,rfl,rfl,rfl,rfl,rfl,rfl,rfl,rfl,trivial⟩ fun B5=>bc_intro (fun hb=>?_) (fun hb B6=>?_))
  ·have hne0:u0≠v1:=by have:=neN hb; omega
   have hcu1:wr.cell? ⟨u.b,u.o+(j+(n+1)),none⟩=some (.int .u64 (u1:Int)):=by have:=hsu (j+(n+1)) (by omega); rw [hdig,←hu1] at this; exact this
   have hcu2:wr.cell? ⟨u.b,u.o+(j+n),none⟩=some (.int .u64 (u2:Int)):=by have:=hsu (j+n) (by omega); rw [hdig,←hu2] at this; exact this
   have hcv2:wr.cell? ⟨v.b,v.o+n,none⟩=some (.int .u64 (v2:Int)):=by have:=hvr.sg n (by omega); rw [←hv2d] at this; exact this
   have hgi:=gi_start (v2:=v2) hv1 (show u0<v1 by omega) hu1B hu2B hv1B
   refine ⟨by unfold inI64; omega,by unfold inI64; omega,rdC (k:=j+(n+1)) (hu.at_ (by omega)) (by omega) (by omega) hcu1 ((c161 u0 u1 v1 (by omega) hu1B hv1B wr).mono ?_)⟩
   rintro e' w' ⟨rfl,hw⟩
   have hw:=hw.symm
   subst hw
   refine ⟨_,trivial,_,trivial,rfl,by unfold inI64; omega,rdC (k:=n) (hv.at_ (by omega)) (by omega) (by omega) hcv2 ((c113 _ v2 hgi.2.2.1 hv2B wr).mono ?_)⟩
   rintro e' w' ⟨rfl,hw⟩
   have hw:=hw.symm
   subst hw
   refine ⟨_,trivial,_,trivial,rfl,by unfold inI64; omega,by unfold inI64; omega,rdC (k:=j+n) (hu.at_ (by omega)) (by omega) (by omega) hcu2 fun B6=>?_⟩
   obtain ⟨uu,huu⟩:∃ uu,uu=u0*18446744073709551616+u1:=⟨_,rfl⟩
   rw [←huu] at hgi e2 ⊢
   have mid:∀ (qh:Nat) (e:Env),e.defers=[Dr K.a (K.s.l:Int)]→qh=(uu*18446744073709551616+u2)/(v1*18446744073709551616+v2)→qh<18446744073709551616→agree e (F150.l6 q.a q.l q.c u.a u.l u.c v.a v.l v.c v.l m t.a t.l t.c v1 (rcp v1) j qh)→W Tryz.prog 201 F150.p6 e wr (blockK 1 (thenW Tryz.prog 201 F150.p3 K0)):=by
    intro qh e he hqe hqB' ha
    rw [←e2,←hvv] at hqe
    refine mid6 qh e he (by rw [hqe] at hqB' ⊢; exact guess3 hVn1 hqB') (fun hjm=>?_) ha
    have h1:N/BB^n<BB^2:=by rw [Nat.div_lt_iff_lt_mul (BBpow_pos n),←Nat.pow_add,Nat.add_comm 2 n]; exact htop hjm
    have h2:qh<2:=by
     rw [hqe,Nat.div_lt_iff_lt_mul (by rw [hvv]; omega),hvv]
     have h1':N/BB^n<18446744073709551616*18446744073709551616:=by rw [Nat.pow_two] at h1; exact h1
     omega
    have:qh*V≤1*V:=Nat.mul_le_mul_right _ (by omega)
    omega
   rw [F150.q8]
   refine W_for' (σ:=Nat × Nat) (fun s=>[(0,q.v),(2,u.v),(3,v.v),(8,.int .i64 (v.l:Int)),(9,.int .i64 (m:Int)),(10,t.v),(11,.int .u64 (v1:Int)),(12,.int .u64 (rcp v1:Int)),(14,.int .i64 (j:Int)),(15,.int .u64 (s.1:Int)),(16,.int .u64 (s.2:Int)),(17,.int .u64 (v2:Int)),(18,.int .u64 ((s.1*v2/18446744073709551616:Nat):Int)),(19,.int .u64 ((s.1*v2%18446744073709551616:Nat):Int)),(20,.int .u64 (u2:Int))])
    (fun s w'=>GI v1 v2 uu (uu*18446744073709551616+u2) s.1 s.2∧w'=wr) (fun s=>s.1) (uu/v1,uu%v1) ⟨rfl,rfl,rfl,rfl,rfl,rfl,rfl,rfl,rfl,rfl,rfl,rfl,rfl,rfl,rfl,trivial⟩ ⟨hgi,rfl⟩ ?_
   rintro ⟨qh,rh⟩ B7 w' K2 ⟨hg,hw⟩ hKn2 hKe2 _
   simp only at hg hw
   have hw:=hw.symm
   subst hw
   have hg':=hg
   obtain ⟨g1,g2,g3,g4⟩:=hg'
   refine F150.t7 q.a q.l q.c u.a u.l u.c v.a v.l v.c v.l m t.a t.l t.c v1 (rcp v1) j qh rh v2 ((qh*v2/18446744073709551616:Nat):Int) ((qh*v2%18446744073709551616:Nat):Int) u2 ⟨rfl,rfl,rfl,rfl,rfl,rfl,rfl,rfl,rfl,rfl,rfl,rfl,rfl,rfl,rfl,trivial⟩ fun B8=>(c170 (qh*v2/18446744073709551616) (qh*v2%18446744073709551616) rh u2 (Nat.mod_lt _ (by omega)) hu2B wr).mono ?_
   rintro e' w' ⟨rfl,hw⟩
   have hw:=hw.symm
   subst hw
   have hP:=Nat.div_add_mod (qh*v2) 18446744073709551616
   refine ⟨_,rfl,bc_intro (fun hb=>?_) (fun hb B9=>?_)⟩
   ·have hgt:rh*18446744073709551616+u2<qh*v2:=by have:=dT hb; omega
    obtain ⟨d0,d1,d2⟩:=gi_down (by omega) hg hgt
    have eq1:=wSub1 qh d0 (by omega)
    refine bc_intro (fun hb=>fun B9=>?_) (fun hb=>?_)
    ·have hov:18446744073709551616≤rh+v1:=by
      have:=dT hb
      rw [addN,wrapM] at this
      omega
     refine hKe2 _ _ (mid (qh-1) _ rfl (gi_end (by omega) d1 d2 (gi_brk hv2B (by omega) hov)) (by omega) ⟨rfl,rfl,rfl,rfl,rfl,rfl,rfl,rfl,rfl,intv eq1,trivial⟩)
    ·have hnv:rh+v1<18446744073709551616:=by
      have:=dF hb
      rw [addN,wrapM] at this
      omega
     have er:IntKind.wrap .u64 ((rh:Int)+(v1:Int))=((rh+v1:Nat):Int):=wAdd _ _ hnv
     have hmul:(qh-1)*v2+v2=qh*v2:=by
      obtain ⟨p,rfl⟩:∃ p,qh=p+1:=⟨qh-1,by omega⟩
      rw [Nat.add_sub_cancel,Nat.add_mul,Nat.one_mul]
     have hx2:=dn2 hmul
     have hPB:qh*v2<18446744073709551616*18446744073709551616:=Nat.mul_lt_mul_of_lt_of_le g3 (Nat.le_of_lt hv2B) (by omega)
     refine bc_intro (fun hb=>fun B9=>?_) (fun hb=>fun B9=>?_)
     ·have hlt:qh*v2%18446744073709551616<v2:=by have:=dT hb; omega
      have hx1:=dn1 hmul hv2B hlt hPB
      exact F150.t10 q.a q.l q.c u.a u.l u.c v.a v.l v.c v.l m t.a t.l t.c v1 (rcp v1) j _ _ v2 _ _ u2 ⟨rfl,rfl,rfl,rfl,rfl,rfl,rfl,rfl,rfl,rfl,rfl,rfl,rfl,rfl,rfl,trivial⟩ fun B10 B11=>hKn2 _ _ (qh-1,rh+v1) ⟨rfl,rfl,rfl,rfl,rfl,rfl,rfl,rfl,rfl,intv eq1,intv er,rfl,intv hx1,intv hx2,rfl,trivial⟩ rfl ⟨⟨d1,d2,by omega,hnv⟩,rfl⟩ (by show qh-1<qh; omega)
     ·have hge:v2≤qh*v2%18446744073709551616:=by have:=dF hb; omega
      have hx1:=dn0 hmul hge
      exact F150.t10 q.a q.l q.c u.a u.l u.c v.a v.l v.c v.l m t.a t.l t.c v1 (rcp v1) j _ _ v2 _ _ u2 ⟨rfl,rfl,rfl,rfl,rfl,rfl,rfl,rfl,rfl,rfl,rfl,rfl,rfl,rfl,rfl,trivial⟩ fun B10 B11=>hKn2 _ _ (qh-1,rh+v1) ⟨rfl,rfl,rfl,rfl,rfl,rfl,rfl,rfl,rfl,intv eq1,intv er,rfl,intv hx1,intv hx2,rfl,trivial⟩ rfl ⟨⟨d1,d2,by omega,hnv⟩,rfl⟩ (by show qh-1<qh; omega)
   ·have hle:qh*v2≤rh*18446744073709551616+u2:=by have:=dF hb; omega
    exact hKe2 _ _ (mid qh _ rfl (gi_end (by omega) g1 g2 hle) g3 ⟨rfl,rfl,rfl,rfl,rfl,rfl,rfl,rfl,rfl,rfl,trivial⟩)
  ·have he0:u0=v1:=by have:=neE hb; omega
   refine mid6 18446744073709551615 _ rfl (guessM (n:=n+1) (u0:=u0) hNV ?_ ?_ (by omega)) (fun hjm=>?_) ⟨rfl,rfl,rfl,rfl,rfl,rfl,rfl,rfl,rfl,rfl,trivial⟩
   ·rw [←e0]; exact Nat.div_mul_le_self _ _
   ·rw [he0,hv1e]
    have h1:=Nat.div_add_mod V (BB^(n+1))
    have h2:=Nat.mod_lt V (BBpow_pos (n+1))
    rw [Nat.add_mul,Nat.one_mul,Nat.mul_comm]; omega
   ·exfalso
    have:N/BB^(n+2)=0:=Nat.div_eq_of_lt (htop hjm)
    omega
 ·have hk0:k=0:=by have:=dF hb; omega
  subst hk0
  rw [Nat.pow_zero,Nat.mod_one,Nat.zero_add,Nat.one_mul,Nat.div_one] at hsu
  rw [Nat.pow_zero,Nat.div_one,Nat.add_zero,Nat.sub_zero] at hsq
  have hnp:¬(un (un (inR q.b q.o (q.o+min (m+1) q.l)) (inR u.b u.o (u.o+u.l))) (inR t.b t.o (t.o+t.l))) K1.p 0:=by
   rintro ((hm | hm) | hm)
   ·exact oq 0 hm.2.1 (by have:=hm.2.2; omega) (.inl (by rw [←hm.1,hnx.p]))
   ·exact ou 0 hm.2.1 hm.2.2 (.inl (by rw [←hm.1,hnx.p]))
   ·exact hto 0 hm.2.1 (by have:=hm.2.2; omega) (.inl hm.1.symm)
  have hnq:∀ b,K1.q=some b→¬(un (un (inR q.b q.o (q.o+min (m+1) q.l)) (inR u.b u.o (u.o+u.l))) (inR t.b t.o (t.o+t.l))) b 0:=by
   intro b hb
   rintro ((hm | hm) | hm)
   ·exact oq 0 hm.2.1 (by have:=hm.2.2; omega) (hnx.free (hq.blk (by have:=hm.2.1; have:=hm.2.2; omega)) (.inr (.inl (by rw [hb,hm.1]))))
   ·exact ou 0 hm.2.1 hm.2.2 (hnx.free (hu.blk (by omega)) (.inr (.inl (by rw [hb,hm.1]))))
   ·exact hto 0 hm.2.1 (by have:=hm.2.2; omega) (.inr (.inl (by rw [hb,hm.1])))
  have hk8:=hk2.chg hch hnp hnq
  have hpe:K1.a=K.a:=by unfold SK.a; rw [hnx.p]
  refine hKe _ _ (retR0n (K:=K1) (n:=K.s.l) (by rw [hpe]) hk8 hnx.l fun w9 h1 h2=>⟨rfl,?_,?_,⟨K1.cut K.s.l,h1,hnx.cut,rfl⟩,?_⟩)
  ·refine h2.sg hsq fun i hi hf=>oq _ (by omega) (by omega) (hnx.free (hq.blk (by omega)) hf)
  ·refine h2.sg hsu fun i hi hf=>ou _ (by omega) (by omega) (hnx.free (hu.blk (by omega)) hf)
  ·refine ((hc1.r (un (inR q.b q.o (q.o+min (m+1) q.l)) (inR u.b u.o (u.o+u.l)))).trans' (hc2.none _)).trans (hch.trans h2 (S:=fun b i=>un (un (inR q.b q.o (q.o+min (m+1) q.l)) (inR u.b u.o (u.o+u.l))) (inR t.b t.o (t.o+t.l)) b i∨K1.free b i) (fun _ _ _ h=>.inl h) (fun _ _ _ h=>.inr h)) (fun _ _ _ h=>h) fun b i hb hm=>?_
   rcases hm with (hm | hm) | hm
   ·exact .inl hm
   ·rcases htf i hm.2.1 (by have:=hm.2.2; omega) with h | h
    ·exact .inr (by rw [hm.1]; exact h)
    ·have:=hm.1; omega
   ·exact .inr (hnx.free hb hm)
theorem c150 (K:SK) (q u v:Sl) (U V:Nat) (w:World) (hk:StkAt w K) (hq:St w q) (hu:Nt w u U) (hv:Nt w v V) (hn:2≤v.l) (hun:v.l≤u.l) (hul:u.l≤1099511627776)
  (hV:BB^(v.l-1)*9223372036854775808≤V) (hql:(q.l=u.l-v.l∧U/BB^(u.l-v.l)<V)∨u.l-v.l+1≤q.l)
  (squ:Sp q.b q.o q.l u.b u.o u.l) (sqv:Sp q.b q.o q.l v.b v.o v.l) (suv:Sp u.b u.o u.l v.b v.o v.l) (oq:OffL K q) (ou:OffL K u) (ov:OffL K v) (hL:K.s.l≤2199023255552) :
  Calls Tryz.prog 150 #[q.v,.pointer K.a,u.v,v.v] w fun e w'=>e=.returned undef∧Sg w' q.b q.o (min (u.l-v.l+1) q.l) (U/V)∧Sg w' u.b u.o u.l (U%V)∧Back w w' K ∧
   Chg w w' (un (un (inR q.b q.o (q.o+q.l)) (inR u.b u.o (u.o+u.l))) K.free) :=
 (c150t K q u v U V w hk hq hu hv hn hun hul hV hql squ sqv suv oq ou ov hL).mono fun e w' ⟨h1,h2,h3,h4,h5⟩=>⟨h1,h2,h3,h4,h5.mono fun b i _ hm=>hm.imp (fun hm=>hm.imp (fun hm=>⟨hm.1,hm.2.1,by have:=hm.2.2; omega⟩) id) id⟩
end Go.Proofs.YtlkjiiibmfpbcaaGreatDoor
