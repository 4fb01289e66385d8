/- Contracts: two words divided by one; the reciprocal of a word; the division with it. Conditions: the upper word is less than the divisor. -/
import Derived.Test.YtlkjiiibmfpbcaaGreatDoorS12
namespace Go.Proofs.YtlkjiiibmfpbcaaGreatDoor
open Go
theorem wSub1 (q:Nat) (h0:0<q) (h:q<18446744073709551616):IntKind.wrap .u64 ((q:Int)-1)=((q-1:Nat):Int):=by
 rw [show ((q:Int)-1)=((q-1:Nat):Int) by omega,wrapN _ (by omega)]
theorem wAdd (a b:Nat) (h:a+b<18446744073709551616):IntKind.wrap .u64 ((a:Int)+b)=((a+b:Nat):Int):=by
 rw [addN,wrapN _ h]
theorem quoW (a b:Nat) (h:a<18446744073709551616):iQuo .u64 (a:Int) (b:Int)=((a/b:Nat):Int):=iQuoN a b h
theorem remq (u y:Nat) (hu:u<18446744073709551616):IntKind.wrap .u64 ((u:Int)-IntKind.wrap .u64 (((u/y:Nat):Int)*(y:Int)))=((u%y:Nat):Int):=by
 have h1:=Nat.div_add_mod u y
 have h2:u/y*y≤u:=Nat.div_mul_le_self u y
 have h3:u/y*y+u%y=u:=by rw [Nat.mul_comm]; exact h1
 rw [mulN,wrapN _ (by omega),wrapE]; omega
theorem un21 (u u1 q y:Nat) (h:q=(u*4294967296+u1)/y) (hy:y<18446744073709551616) (hy0:0<y) :
  IntKind.wrap .u64 (IntKind.wrap .u64 (IntKind.wrap .u64 ((u:Int)*4294967296)+(u1:Int))-IntKind.wrap .u64 ((q:Int)*(y:Int)))=(((u*4294967296+u1)%y:Nat):Int):=by
 have h1:q*y+(u*4294967296+u1)%y=u*4294967296+u1:=by rw [h,Nat.mul_comm]; exact Nat.div_add_mod _ _
 have h2:=Nat.mod_lt (u*4294967296+u1) hy0
 rw [show ((u:Int)*4294967296)=((u*4294967296:Nat):Int) by omega,mulN,wrapM,wrapM,addN,wrapM,wrapE]
 omega
theorem c179 (hi lo y:Nat) (hh:hi<y) (hl:lo<18446744073709551616) (hy:y<18446744073709551616):Told2 179 #[.int .u64 (hi:Int),.int .u64 (lo:Int),.int .u64 (y:Int)]
  (.tuple #[.int .u64 (((hi*18446744073709551616+lo)/y:Nat):Int),.int .u64 (((hi*18446744073709551616+lo)%y:Nat):Int)]):=by
 intro w
 refine told2 (F179.call hi lo y w _ fun B=>bc_false (eqF (by omega)) fun B1=>F179.t1 hi lo y ⟨rfl,rfl,rfl,trivial⟩ fun B2=>bc_false (decF (by omega)) fun B3=>F179.t2 hi lo y ⟨rfl,rfl,rfl,trivial⟩ fun B4=>bc_intro (fun hb=>?_) (fun hb=>?_))
 ·have h0:hi=0:=by have:=eqE hb; omega
  subst h0
  rw [Nat.zero_mul,Nat.zero_add]
  exact ⟨by omega,by omega,fun B5=>ret2 rfl (intv (quoW _ _ hl)) (intv (iRemN _ _)) ⟨rfl,Chg.drew0 w _⟩⟩
 ·obtain ⟨sc1,sc2⟩:=scale y (by omega) hy
  have hbl:blen y≠0:=fun h0=>by have:=blen_lt y; rw [h0] at this; simp at this; omega
  have hb64:=blen_le64 y hy
  refine (c183 y hy w).mono ?_
  rintro e w' ⟨rfl,hw⟩
  have hw:=hw.symm
  subst hw
  generalize hs:64-blen y=s at sc1 sc2
  have s64:s<64:=by omega
  have hu:=hi_fits s64 hl hh
  have hu2:=Nat.lt_trans hu sc1
  have hsum:=shift2_eq hi lo s s64
  have hsh:=shift2 hi lo s s64 hl hu2
  generalize hi*2^s+lo/2^(64-s)=u at hu hu2 hsum hsh
  have hL:lo*2^s%18446744073709551616<18446744073709551616:=Nat.mod_lt _ (by omega)
  have eL:=shl64 lo s (by omega)
  generalize lo*2^s%18446744073709551616=L at hsum hL eL
  have eY:=shl64 y s (by omega)
  rw [Nat.mod_eq_of_lt sc1] at eY
  have hq:(hi*18446744073709551616+lo)/y=(u*18446744073709551616+L)/(y*2^s):=by rw [hsum,Nat.mul_div_mul_right _ _ (Nat.two_pow_pos s)]
  have hr:(hi*18446744073709551616+lo)%y=(u*18446744073709551616+L)%(y*2^s)/2^s:=by rw [hsum,Nat.mul_mod_mul_right,Nat.mul_div_cancel _ (Nat.two_pow_pos s)]
  rw [hq,hr]
  generalize y*2^s=Y at sc1 sc2 hu eY
  have ec:(64-(s:Int))=((64-s:Nat):Int):=by omega
  have y1:2147483648≤Y/4294967296:=by omega
  have y2:Y/4294967296<4294967296:=by omega
  have y3:Y%4294967296<4294967296:=by omega
  have hYY:Y=Y/4294967296*4294967296+Y%4294967296:=by omega
  have hLL:L=L/4294967296*4294967296+L%4294967296:=by omega
  have l1:L/4294967296<4294967296:=by omega
  have l2:L%4294967296<4294967296:=by omega
  refine ⟨_,rfl,?_⟩
  rw [wrapN s (by omega),ec,wrapN (64-s) (by omega),eY,eL,hsh,shr32,shr32,mask32 _ sc1,mask32 _ hL,quoW _ _ hu2,remq _ _ hu2]
  refine ⟨by omega,by omega,by omega,by omega,by omega,by omega,by omega,fun B5=>?_⟩
  generalize Y/4294967296=a1 at y1 y2 hYY
  generalize Y%4294967296=a0 at y3 hYY
  generalize L/4294967296=b1 at l1 hLL
  generalize L%4294967296=b0 at l2 hLL
  have hu':u<a1*4294967296+a0:=by rw [←hYY]; exact hu
  have fin6:∀ (q1 v q0:Nat) (e:Env),e.defers=[]→q1=(u*4294967296+b1)/Y→v=(u*4294967296+b1)%Y→q0=(v*4294967296+b0)/Y→agree e (F179.l6 Y s b0 q1 v q0) →
    W Tryz.prog 135 F179.p6 e w (retK Tryz.prog [.tmp 6,.tmp 7] fun v w'=>v=.tuple #[.int .u64 (((u*18446744073709551616+L)/Y:Nat):Int),.int .u64 (((u*18446744073709551616+L)%Y/2^s:Nat):Int)]∧Chg w w' none2):=by
   intro q1 v q0 e he e1 e2 e3 ha
   have hv:v<Y:=by rw [e2]; exact Nat.mod_lt _ (by omega)
   have h1:q1*Y+v=u*4294967296+b1:=by rw [e1,e2,Nat.mul_comm]; exact Nat.div_add_mod _ _
   have h2:q0*Y+(v*4294967296+b0)%Y=v*4294967296+b0:=by rw [e3,Nat.mul_comm]; exact Nat.div_add_mod _ _
   have hN:u*18446744073709551616+L=(q1*4294967296+q0)*Y+(v*4294967296+b0)%Y:=by
    rw [Nat.add_mul,Nat.mul_right_comm]; omega
   have hm:(v*4294967296+b0)%Y<Y:=Nat.mod_lt _ (by omega)
   have hQ:(u*18446744073709551616+L)/Y=q1*4294967296+q0:=by
    rw [hN,Nat.mul_comm,Nat.mul_add_div (by omega),Nat.div_eq_of_lt hm,Nat.add_zero]
   have hR:(u*18446744073709551616+L)%Y=(v*4294967296+b0)%Y:=by
    rw [hN,Nat.mul_comm,Nat.mul_add_mod,Nat.mod_mod]
   have hq1:q1<4294967296:=by rw [e1,hYY]; exact knuth_q y1 hu' l1
   have hq0:q0<4294967296:=by rw [e3,hYY]; exact knuth_q y1 (by rw [←hYY]; exact hv) l2
   refine F179.t6 Y s b0 q1 v q0 ha fun B6=>⟨by omega,fun B7=>ret2 he (intv ?_) (intv ?_) ⟨rfl,Chg.refl _ _⟩⟩
   ·rw [hQ,show ((q1:Int)*4294967296)=((q1*4294967296:Nat):Int) by omega,wrapN _ (by omega),wAdd _ _ (by omega)]
   ·rw [hR,un21 v b0 q0 Y e3 sc1 (by omega),shr64 _ _ (by omega)]
  have fin3:∀ (q1:Nat) (e:Env),e.defers=[]→q1=(u*4294967296+b1)/Y→agree e (F179.l3 Y s a1 a0 u b1 b0 q1) →
    W Tryz.prog 135 F179.p3 e w (retK Tryz.prog [.tmp 6,.tmp 7] fun v w'=>v=.tuple #[.int .u64 (((u*18446744073709551616+L)/Y:Nat):Int),.int .u64 (((u*18446744073709551616+L)%Y/2^s:Nat):Int)]∧Chg w w' none2):=by
   intro q1 e he e1 ha
   have hv:(u*4294967296+b1)%Y<Y:=Nat.mod_lt _ (by omega)
   have eu:=un21 u b1 q1 Y e1 sc1 (by omega)
   obtain ⟨v,hve⟩:∃ v,v=(u*4294967296+b1)%Y:=⟨_,rfl⟩
   rw [←hve] at hv eu
   refine F179.t3 Y s a1 a0 u b1 b0 q1 ha fun B6=>?_
   unfold F179.v3
   rw [eu,quoW v a1 (by omega),remq v a1 (by omega)]
   refine ⟨by omega,fun B7=>?_⟩
   rw [F179.q8]
   have hv':v<a1*4294967296+a0:=by rw [←hYY]; exact hv
   refine W_for (σ:=Nat × Nat) (fun t=>[(2,.int .u64 (Y:Int)),(8,.int .u64 (s:Int)),(9,.int .u64 (a1:Int)),(10,.int .u64 (a0:Int)),(14,.int .u64 (b0:Int)),(15,.int .u64 (q1:Int)),(16,.int .u64 (t.2:Int)),(17,.int .u64 (v:Int)),(18,.int .u64 (t.1:Int))])
    (fun t wr=>KI a1 a0 v t.1 t.2 (v*4294967296+b0)∧wr=w) (fun t=>t.1) (v/a1,v%a1) ⟨rfl,rfl,rfl,rfl,rfl,rfl,rfl,rfl,rfl,trivial⟩ ⟨knuth0 y1 y2 y3 hv' l2,rfl⟩ ?_
   rintro ⟨q,r⟩ B8 wr ⟨hk,hwr⟩
   simp only at hk hwr
   have hwr:=hwr.symm
   subst hwr
   have hk':=hk
   obtain ⟨k1,k2,k3,k4⟩:=hk'
   have e4:IntKind.wrap .u64 ((r:Int)+a1)=((r+a1:Nat):Int):=wAdd _ _ (by omega)
   have hqa:q*a0≤4294967297*4294967295:=Nat.mul_le_mul k3 (by omega)
   refine F179.t7 Y s a1 a0 b0 q1 r v q ⟨rfl,rfl,rfl,rfl,rfl,rfl,rfl,rfl,rfl,trivial⟩ fun B9=>?_
   unfold F179.v7
   rw [e4,mulN,wrapN (q*a0) (by omega),show ((4294967296:Int)*(r:Int))=((4294967296*r:Nat):Int) by omega,wrapN (4294967296*r) (by omega),wAdd (4294967296*r) b0 (by omega)]
   have step:(4294967296≤q∨4294967296*r+b0<q*a0)→0<q∧(q-1)*a1+(r+a1)=v∧(v*4294967296+b0)/(a1*4294967296+a0)≤q-1∧q-1≤4294967296:=fun hc=>knuth_down y1 y2 hk hv' l2 hc
   have brk:∀ (hc:4294967296≤q∨4294967296*r+b0<q*a0) (h:4294967296≤r+a1),q-1=(v*4294967296+b0)/Y:=fun hc h=>by
    obtain ⟨d0,d1,d2,d3⟩:=step hc
    rw [hYY]; exact knuth_end y1 d1 d2 (knuth_brk y3 d3 h)
   refine bc_intro (fun hc=>?_) (fun hc=>bc_intro (fun hc2=>?_) (fun hc2 B10=>?_))
   ·have hc':4294967296≤q:=by have:=dT hc; omega
    obtain ⟨d0,d1,d2,d3⟩:=step (.inl hc')
    refine bc_intro (fun hd B10=>?_) (fun hd B10=>?_)
    ·have hd':4294967296≤r+a1:=by have:=dT hd; omega
     exact fin6 q1 v (q-1) _ he e1 hve (brk (.inl hc') hd') ⟨rfl,rfl,rfl,rfl,rfl,intv (wSub1 q d0 (by omega)),trivial⟩
    ·have hd':r+a1<4294967296:=by have:=dF hd; omega
     exact ⟨(q-1,r+a1),⟨rfl,rfl,rfl,rfl,rfl,rfl,rfl,rfl,intv (wSub1 q d0 (by omega)),trivial⟩,rfl,⟨⟨d1,d2,by show q-1≤_; omega,hd'⟩,rfl⟩,by show q-1<q; omega⟩
   ·have hc':4294967296*r+b0<q*a0:=by have:=dT hc2; omega
    obtain ⟨d0,d1,d2,d3⟩:=step (.inr hc')
    refine bc_intro (fun hd B10=>?_) (fun hd B10=>?_)
    ·have hd':4294967296≤r+a1:=by have:=dT hd; omega
     exact fin6 q1 v (q-1) _ he e1 hve (brk (.inr hc') hd') ⟨rfl,rfl,rfl,rfl,rfl,intv (wSub1 q d0 (by omega)),trivial⟩
    ·have hd':r+a1<4294967296:=by have:=dF hd; omega
     exact ⟨(q-1,r+a1),⟨rfl,rfl,rfl,rfl,rfl,rfl,rfl,rfl,intv (wSub1 q d0 (by omega)),trivial⟩,rfl,⟨⟨d1,d2,by show q-1≤_; omega,hd'⟩,rfl⟩,by show q-1<q; omega⟩
   ·have hc':q*a0≤4294967296*r+b0:=by have:=dF hc2; omega
    exact fin6 q1 v q _ he e1 hve (by rw [hYY]; exact knuth_end y1 k1 k2 hc') ⟨rfl,rfl,rfl,rfl,rfl,rfl,trivial⟩
  rw [F179.q5]
  refine W_for (σ:=Nat × Nat) (fun t=>[(2,.int .u64 (Y:Int)),(8,.int .u64 (s:Int)),(9,.int .u64 (a1:Int)),(10,.int .u64 (a0:Int)),(11,.int .u64 (u:Int)),(13,.int .u64 (b1:Int)),(14,.int .u64 (b0:Int)),(15,.int .u64 (t.1:Int)),(16,.int .u64 (t.2:Int))])
   (fun t wr=>KI a1 a0 u t.1 t.2 (u*4294967296+b1)∧wr=w) (fun t=>t.1) (u/a1,u%a1) ⟨rfl,rfl,rfl,rfl,rfl,rfl,rfl,rfl,rfl,trivial⟩ ⟨knuth0 y1 y2 y3 hu' l1,rfl⟩ ?_
  rintro ⟨q,r⟩ B8 wr ⟨hk,hwr⟩
  simp only at hk hwr
  have hwr:=hwr.symm
  subst hwr
  have hk':=hk
  obtain ⟨k1,k2,k3,k4⟩:=hk'
  have e4:IntKind.wrap .u64 ((r:Int)+a1)=((r+a1:Nat):Int):=wAdd _ _ (by omega)
  have hqa:q*a0≤4294967297*4294967295:=Nat.mul_le_mul k3 (by omega)
  refine F179.t4 Y s a1 a0 u b1 b0 q r ⟨rfl,rfl,rfl,rfl,rfl,rfl,rfl,rfl,rfl,trivial⟩ fun B9=>?_
  unfold F179.v4
  rw [e4,mulN,wrapN (q*a0) (by omega),show ((4294967296:Int)*(r:Int))=((4294967296*r:Nat):Int) by omega,wrapN (4294967296*r) (by omega),wAdd (4294967296*r) b1 (by omega)]
  have step:(4294967296≤q∨4294967296*r+b1<q*a0)→0<q∧(q-1)*a1+(r+a1)=u∧(u*4294967296+b1)/(a1*4294967296+a0)≤q-1∧q-1≤4294967296:=fun hc=>knuth_down y1 y2 hk hu' l1 hc
  have brk:∀ (hc:4294967296≤q∨4294967296*r+b1<q*a0) (h:4294967296≤r+a1),q-1=(u*4294967296+b1)/Y:=fun hc h=>by
   obtain ⟨d0,d1,d2,d3⟩:=step hc
   rw [hYY]; exact knuth_end y1 d1 d2 (knuth_brk y3 d3 h)
  refine bc_intro (fun hc=>?_) (fun hc=>bc_intro (fun hc2=>?_) (fun hc2 B10=>?_))
  ·have hc':4294967296≤q:=by have:=dT hc; omega
   obtain ⟨d0,d1,d2,d3⟩:=step (.inl hc')
   refine bc_intro (fun hd B10=>?_) (fun hd B10=>?_)
   ·have hd':4294967296≤r+a1:=by have:=dT hd; omega
    exact fin3 (q-1) _ rfl (brk (.inl hc') hd') ⟨rfl,rfl,rfl,rfl,rfl,rfl,rfl,intv (wSub1 q d0 (by omega)),trivial⟩
   ·have hd':r+a1<4294967296:=by have:=dF hd; omega
    exact ⟨(q-1,r+a1),⟨rfl,rfl,rfl,rfl,rfl,rfl,rfl,intv (wSub1 q d0 (by omega)),rfl,trivial⟩,rfl,⟨⟨d1,d2,by show q-1≤_; omega,hd'⟩,rfl⟩,by show q-1<q; omega⟩
  ·have hc':4294967296*r+b1<q*a0:=by have:=dT hc2; omega
   obtain ⟨d0,d1,d2,d3⟩:=step (.inr hc')
   refine bc_intro (fun hd B10=>?_) (fun hd B10=>?_)
   ·have hd':4294967296≤r+a1:=by have:=dT hd; omega
    exact fin3 (q-1) _ rfl (brk (.inr hc') hd') ⟨rfl,rfl,rfl,rfl,rfl,rfl,rfl,intv (wSub1 q d0 (by omega)),trivial⟩
   ·have hd':r+a1<4294967296:=by have:=dF hd; omega
    exact ⟨(q-1,r+a1),⟨rfl,rfl,rfl,rfl,rfl,rfl,rfl,intv (wSub1 q d0 (by omega)),rfl,trivial⟩,rfl,⟨⟨d1,d2,by show q-1≤_; omega,hd'⟩,rfl⟩,by show q-1<q; omega⟩
  ·have hc':q*a0≤4294967296*r+b1:=by have:=dF hc2; omega
   exact fin3 q _ rfl (by rw [hYY]; exact knuth_end y1 k1 k2 hc') ⟨rfl,rfl,rfl,rfl,rfl,rfl,rfl,rfl,trivial⟩
theorem c159 (hi lo y:Nat) (hh:hi<y) (hl:lo<18446744073709551616) (hy:y<18446744073709551616):Told2 159 #[.int .u64 (hi:Int),.int .u64 (lo:Int),.int .u64 (y:Int)]
  (.tuple #[.int .u64 (((hi*18446744073709551616+lo)/y:Nat):Int),.int .u64 (((hi*18446744073709551616+lo)%y:Nat):Int)]):=fun w =>
 told2 (F159.call hi lo y w _ fun B=>(c179 hi lo y hh hl hy w).mono fun e w' ⟨h1,h2⟩=>⟨_,trivial,_,trivial,h1,fun B2=>ret2 rfl rfl rfl ⟨rfl,h2⟩⟩)
end Go.Proofs.YtlkjiiibmfpbcaaGreatDoor
namespace Go.Proofs.YtlkjiiibmfpbcaaGreatDoor
open Go
def nrm (y:Nat):Nat:=y*2^(64-blen y)
def rcp (y:Nat):Nat:=((18446744073709551615-nrm y)*18446744073709551616+18446744073709551615)/nrm y
theorem blen_ne (y:Nat) (h:y≠0):blen y≠0:=fun h0=>by have:=blen_lt y; rw [h0] at this; simp at this; omega
theorem c160 (y:Nat) (h0:y≠0) (hy:y<18446744073709551616):Told2 160 #[.int .u64 (y:Int)] (.int .u64 (rcp y:Int)):=by
 intro w
 obtain ⟨s1,s2⟩:=scale y h0 hy
 have hb:=blen_le64 y hy
 have hb0:=blen_ne y h0
 refine told2 (F160.call y w _ fun B=>(c78 y hy w).mono ?_)
 rintro e w' ⟨rfl,hw⟩
 have hw:=hw.symm
 subst hw
 have eY:=shl64 y (64-blen y) (by omega)
 rw [Nat.mod_eq_of_lt s1] at eY
 refine ⟨_,rfl,by omega,?_⟩
 have e1:iNot .u64 (iShl .u64 (y:Int) ((64-blen y:Nat):Int))=((18446744073709551615-nrm y:Nat):Int):=by
  rw [eY]; exact iNotN _ s1
 rw [e1,eY]
 refine (c159 (18446744073709551615-nrm y) 18446744073709551615 (nrm y) (by unfold nrm; omega) (by omega) s1 w).mono ?_
 rintro e w' ⟨rfl,h2⟩
 exact ⟨_,trivial,_,trivial,rfl,fun B2=>ret1 rfl rfl ⟨rfl,h2⟩⟩
theorem rcp_law {d V x1 x0:Nat} (hd:9223372036854775808≤d) (hd2:d<18446744073709551616) (h1:x1<d) (h0:x0<18446744073709551616)
  (hV:d*V≤18446744073709551616*18446744073709551616-1) (hV2:18446744073709551616*18446744073709551616≤d*V+d) :
  (x1*V+x0)/18446744073709551616<18446744073709551616∧d*((x1*V+x0)/18446744073709551616)≤x1*18446744073709551616+x0 ∧
  x1*18446744073709551616+x0<d*((x1*V+x0)/18446744073709551616)+18446744073709551616+d:=by
 have hN:=Nat.mod_add_div (x1*V+x0) 18446744073709551616
 have hr:=Nat.mod_lt (x1*V+x0) (show 0<18446744073709551616 by omega)
 generalize (x1*V+x0)/18446744073709551616=t at *
 generalize (x1*V+x0)%18446744073709551616=ρ at *
 have e1:d*(x1*V+x0)=x1*(d*V)+d*x0:=by rw [Nat.mul_add,Nat.mul_left_comm]
 have e2:d*(ρ+18446744073709551616*t)=d*ρ+18446744073709551616*(d*t):=by rw [Nat.mul_add,Nat.mul_left_comm]
 rw [hN,e1] at e2
 have a1:x1*(d*V)≤x1*(18446744073709551616*18446744073709551616-1):=Nat.mul_le_mul_left _ hV
 have a2:x1*(18446744073709551616*18446744073709551616)≤x1*(d*V+d):=Nat.mul_le_mul_left _ hV2
 have a3:d*x0≤18446744073709551616*x0:=Nat.mul_le_mul_right _ (by omega)
 have a4:x1*d+d≤d*d:=by rw [←Nat.succ_mul]; exact Nat.mul_le_mul_right _ h1
 have a5:d*ρ+d≤d*18446744073709551616:=by rw [←Nat.mul_succ]; exact Nat.mul_le_mul_left _ hr
 have a6:(18446744073709551616-d)*x0≤(18446744073709551616-d)*18446744073709551615:=Nat.mul_le_mul_left _ (by omega)
 have a7:d*d≤d*18446744073709551616:=Nat.mul_le_mul_left _ (by omega)
 have a8:d*x0+(18446744073709551616-d)*x0=18446744073709551616*x0:=by rw [←Nat.add_mul,Nat.add_sub_cancel' (by omega)]
 have a9:(x1+1)*V≤d*V:=Nat.mul_le_mul_right _ h1
 rw [Nat.mul_add] at a2
 rw [Nat.add_mul,Nat.one_mul] at a9
 have a10:18446744073709551616≤V:=by
  rcases Nat.lt_or_ge V 18446744073709551616 with h | h
  ·have:d*(V+1)≤18446744073709551615*18446744073709551616:=Nat.mul_le_mul (by omega) h
   rw [Nat.mul_add,Nat.mul_one] at this
   omega
  ·exact h
 refine ⟨by omega,by omega,by omega⟩
theorem rcp_V (y:Nat) (h0:y≠0) (hy:y<18446744073709551616):nrm y*(rcp y+18446744073709551616)≤18446744073709551616*18446744073709551616-1 ∧
  18446744073709551616*18446744073709551616≤nrm y*(rcp y+18446744073709551616)+nrm y∧rcp y<18446744073709551616:=by
 obtain ⟨s1,s2⟩:=scale y h0 hy
 have h1:=Nat.div_add_mod ((18446744073709551615-nrm y)*18446744073709551616+18446744073709551615) (nrm y)
 have s1:nrm y<18446744073709551616:=s1
 have s2:9223372036854775808≤nrm y:=s2
 have h2:=Nat.mod_lt ((18446744073709551615-nrm y)*18446744073709551616+18446744073709551615) (show 0<nrm y by omega)
 have h3:rcp y<18446744073709551616:=by
  unfold rcp
  rw [Nat.div_lt_iff_lt_mul (by omega)]; omega
 unfold rcp at *
 rw [Nat.mul_add]
 refine ⟨?_,?_,h3⟩ <;> omega
theorem c161 (x1 x0 y:Nat) (h1:x1<y) (h0:x0<18446744073709551616) (hy:y<18446744073709551616):Told 161 #[.int .u64 (x1:Int),.int .u64 (x0:Int),.int .u64 (y:Int),.int .u64 (rcp y:Int)]
  (.tuple #[.int .u64 (((x1*18446744073709551616+x0)/y:Nat):Int),.int .u64 (((x1*18446744073709551616+x0)%y:Nat):Int)]):=by
 intro w
 obtain ⟨V1,V2,V3⟩:=rcp_V y (by omega) hy
 obtain ⟨s1,s2⟩:=scale y (by omega) hy
 have hb:=blen_le64 y hy
 have hb0:=blen_ne y (by omega)
 unfold nrm at V1 V2
 generalize rcp y=m at V1 V2 V3
 refine told (F161.call x1 x0 y m w _ fun B=>(c78 y hy w).mono ?_)
 rintro e w' ⟨rfl,hw⟩
 have hw:=hw.symm
 subst hw
 refine ⟨_,rfl,?_⟩
 generalize hs:64-blen y=s at V1 V2 s1 s2
 have s64:s<64:=by omega
 have main:∀ (u L d:Nat) (e:Env),e.defers=[]→9223372036854775808≤d→d<18446744073709551616→u<d→L<18446744073709551616→d*(m+18446744073709551616)≤18446744073709551616*18446744073709551616-1→18446744073709551616*18446744073709551616≤d*(m+18446744073709551616)+d →
   u*18446744073709551616+L=(x1*18446744073709551616+x0)*2^s→d=y*2^s→agree e (F161.l1 u L d m s) →
   W Tryz.prog 100 F161.p1 e w (retK Tryz.prog [.tmp 8,.tmp 9] fun v w'=>v=.tuple #[.int .u64 (((x1*18446744073709551616+x0)/y:Nat):Int),.int .u64 (((x1*18446744073709551616+x0)%y:Nat):Int)]∧w'=w):=by
  intro u L d e he hd hd2 hu hL hV hV2 hN hdy ha
  obtain ⟨t1,t2,t3⟩:=rcp_law hd hd2 hu hL hV hV2
  have hq:(x1*18446744073709551616+x0)/y=(u*18446744073709551616+L)/d:=by rw [hN,hdy,Nat.mul_div_mul_right _ _ (Nat.two_pow_pos s)]
  have hr:(x1*18446744073709551616+x0)%y=(u*18446744073709551616+L)%d/2^s:=by rw [hN,hdy,Nat.mul_mod_mul_right,Nat.mul_div_cancel _ (Nat.two_pow_pos s)]
  rw [hq,hr]
  have hmu:u*(m+18446744073709551616)=m*u+u*18446744073709551616:=by rw [Nat.mul_add,Nat.mul_comm u m]
  rw [hmu] at t1 t2 t3
  have hsq:=mul_lt_sq _ _ V3 (Nat.lt_trans hu hd2)
  have hNB:u*18446744073709551616+L<d*18446744073709551616:=by
   have:(u+1)*18446744073709551616≤d*18446744073709551616:=Nat.mul_le_mul_right _ hu
   omega
  obtain ⟨N,hNe⟩:∃ N,N=u*18446744073709551616+L:=⟨_,rfl⟩
  rw [←hNe] at t2 t3 hNB ⊢
  have fin:∀ (q r:Nat) (e:Env),e.defers=[]→q*d+r=N→r<2*d→r<18446744073709551616→agree e (F161.l2 s d q r) →
    W Tryz.prog 100 F161.p2 e w (retK Tryz.prog [.tmp 8,.tmp 9] fun v w'=>v=.tuple #[.int .u64 ((N/d:Nat):Int),.int .u64 ((N%d/2^s:Nat):Int)]∧w'=w):=by
   intro q r e he h1 h2 h3 ha
   have fin2:∀ (q r:Nat) (e:Env),e.defers=[]→q*d+r=N→r<d→agree e (F161.l3 s q r) →
     W Tryz.prog 100 F161.p3 e w (retK Tryz.prog [.tmp 8,.tmp 9] fun v w'=>v=.tuple #[.int .u64 ((N/d:Nat):Int),.int .u64 ((N%d/2^s:Nat):Int)]∧w'=w):=by
    intro q r e he h1 h2 ha
    have hQ:N/d=q:=by rw [←h1,Nat.mul_comm,Nat.mul_add_div (by omega),Nat.div_eq_of_lt h2,Nat.add_zero]
    have hR:N%d=r:=by rw [←h1,Nat.mul_comm,Nat.mul_add_mod,Nat.mod_eq_of_lt h2]
    rw [hQ,hR]
    exact F161.t3 s q r ha fun B6=>⟨by omega,fun B7=>ret2 he rfl (intv (shr64 _ _ (by omega))) ⟨rfl,rfl⟩⟩
   have hqB:q<18446744073709551616:=by
    have:q*d<18446744073709551616*d:=by rw [Nat.mul_comm 18446744073709551616]; omega
    exact Nat.lt_of_mul_lt_mul_right this
   refine F161.t2 s d q r ha fun B6=>bc_intro (fun hb B7=>?_) (fun hb B7=>?_)
   ·have hge:d≤r:=by have:=dT hb; omega
    have h5:(q+1)*d+(r-d)=N:=by rw [Nat.add_mul,Nat.one_mul]; omega
    have hqB:q+1<18446744073709551616:=by
     have:(q+1)*d<18446744073709551616*d:=by rw [Nat.mul_comm 18446744073709551616]; omega
     exact Nat.lt_of_mul_lt_mul_right this
    refine fin2 (q+1) (r-d) _ he h5 (by omega) ⟨rfl,intv (wAdd q 1 hqB),intv ?_,trivial⟩
    rw [show ((r:Int)-(d:Int))=((r-d:Nat):Int) by omega,wrapN _ (by omega)]
   ·exact fin2 q r _ he h1 (by have:=dF hb; omega) ⟨rfl,rfl,rfl,trivial⟩
  refine F161.t1 u L d m s ha fun B2=>(c148 m u V3 (by omega) w).mono ?_
  rintro e' w' ⟨rfl,hw⟩
  have hw:=hw.symm
  subst hw
  refine ⟨_,trivial,_,trivial,rfl,(c163 (m*u%18446744073709551616) L 0 (by omega) w).mono ?_⟩
  rintro e' w' ⟨rfl,hw⟩
  have hw:=hw.symm
  subst hw
  refine ⟨_,trivial,_,trivial,rfl,(c163 (m*u/18446744073709551616) u _ (by omega) w).mono ?_⟩
  rintro e' w' ⟨rfl,hw⟩
  have hw:=hw.symm
  subst hw
  have ht:(m*u/18446744073709551616+u+(m*u%18446744073709551616+L+0)/18446744073709551616)%18446744073709551616=(m*u+u*18446744073709551616+L)/18446744073709551616:=by omega
  rw [ht]
  obtain ⟨t,hte⟩:∃ t,t=(m*u+u*18446744073709551616+L)/18446744073709551616:=⟨_,rfl⟩
  rw [←hte] at t1 t2 t3 ⊢
  refine ⟨_,trivial,_,trivial,rfl,(c148 d t hd2 t1 w).mono ?_⟩
  rintro e' w' ⟨rfl,hw⟩
  have hw:=hw.symm
  subst hw
  refine ⟨_,trivial,_,trivial,rfl,(c122 L (d*t%18446744073709551616) 0 (by omega) (Nat.mod_lt _ (by omega)) w).mono ?_⟩
  rintro e' w' ⟨rfl,hw⟩
  have hw:=hw.symm
  subst hw
  refine ⟨_,trivial,_,trivial,rfl,(c122 u (d*t/18446744073709551616) _ (by split <;> omega) (by omega) w).mono ?_⟩
  rintro e' w' ⟨rfl,hw⟩
  have hw:=hw.symm
  subst hw
  have r0:(L+18446744073709551616-(d*t%18446744073709551616+0))%18446744073709551616=(N-d*t)%18446744073709551616:=by omega
  have r1:(u+18446744073709551616-(d*t/18446744073709551616+(if L<d*t%18446744073709551616+0 then 1 else 0)))%18446744073709551616=(N-d*t)/18446744073709551616:=by split <;> omega
  rw [r0,r1]
  have hrr:d*t+(N-d*t)=N:=Nat.add_sub_cancel' t2
  have hrl:N-d*t<18446744073709551616+d:=by omega
  generalize N-d*t=r at hrr hrl ⊢
  refine ⟨_,trivial,_,trivial,rfl,bc_intro (fun hb B3=>?_) (fun hb B3=>?_)⟩
  ·have hge:18446744073709551616≤r:=by have:=neN hb; omega
   have h5:(t+1)*d+(r-d)=N:=by rw [Nat.add_mul,Nat.one_mul,Nat.mul_comm t d]; omega
   have hqB:t+1<18446744073709551616:=by
    have:(t+1)*d<18446744073709551616*d:=by rw [Nat.mul_comm 18446744073709551616]; omega
    exact Nat.lt_of_mul_lt_mul_right this
   refine fin (t+1) (r-d) _ he h5 (by omega) (by omega) ⟨rfl,rfl,intv (wAdd t 1 hqB),intv ?_,trivial⟩
   rw [wrapE]; omega
  ·have hlt:r<18446744073709551616:=by have:=neE hb; omega
   refine fin t r _ he (by rw [Nat.mul_comm]; exact hrr) (by omega) hlt ⟨rfl,rfl,rfl,intv ?_,trivial⟩
   omega
 have hu:=hi_fits s64 h0 h1
 have hu2:=Nat.lt_trans hu s1
 have eY:=shl64 y s (by omega)
 rw [Nat.mod_eq_of_lt s1] at eY
 refine bc_intro (fun hb=>?_) (fun hb B1=>?_)
 ·rw [show (64-(s:Int))=((64-s:Nat):Int) by omega,wrapN (64-s) (by omega),shift2 x1 x0 s s64 h0 hu2,shl64 x0 s (by omega),eY]
  exact ⟨by omega,by omega,by omega,by omega,fun B1=>main _ _ _ _ rfl s2 s1 hu (Nat.mod_lt _ (by omega)) V1 V2 (shift2_eq x1 x0 s s64) rfl ⟨rfl,rfl,rfl,rfl,rfl,trivial⟩⟩
 ·have hs0:s=0:=by have:=neE hb; omega
  rw [hs0,Nat.pow_zero,Nat.mul_one] at s1 s2 V1 V2
  refine main x1 x0 y _ rfl s2 s1 h1 h0 V1 V2 (by rw [hs0]; simp) (by rw [hs0]; simp) ⟨rfl,rfl,rfl,rfl,rfl,trivial⟩
end Go.Proofs.YtlkjiiibmfpbcaaGreatDoor
namespace Go.Proofs.YtlkjiiibmfpbcaaGreatDoor
open Go
theorem div_step (N k y:Nat) (hy:0<y) (hy2:y<18446744073709551616) :
  N/BB^k/y=((N/BB^(k+1)%y)*18446744073709551616+dg N k)/y+BB*(N/BB^(k+1)/y)∧N/BB^k%y=((N/BB^(k+1)%y)*18446744073709551616+dg N k)%y ∧
  ((N/BB^(k+1)%y)*18446744073709551616+dg N k)/y<18446744073709551616:=by
 have h1:=div_split N k
 have h2:=Nat.div_add_mod (N/BB^(k+1)) y
 have h3:=Nat.mod_lt (N/BB^(k+1)) hy
 have h4:=dg_lt' N k
 generalize N/BB^(k+1)=T at *
 have h5:N/BB^k=(T%y*18446744073709551616+dg N k)+y*(BB*(T/y)):=by
  rw [h1,Nat.mul_left_comm]
  have:BB*T=BB*(y*(T/y))+BB*(T%y):=by rw [←Nat.mul_add,h2]
  rw [this,BB_eq]; omega
 refine ⟨?_,?_,?_⟩
 ·rw [h5,Nat.add_mul_div_left _ _ hy]
 ·rw [h5,Nat.add_mul_mod_self_left]
 ·rw [Nat.div_lt_iff_lt_mul hy]
  have:(T%y+1)*18446744073709551616≤y*18446744073709551616:=Nat.mul_le_mul_right _ h3
  rw [Nat.mul_comm 18446744073709551616 y]; omega
theorem c128 (z x:Sl) (X xn y:Nat) (w:World) (hz:Wt w z) (hx:Rd w x X) (lx:x.l=z.l) (h0:x.l≠0) (ox:OvUp z x) (hn:xn<y) (hy:y<18446744073709551616) :
  Calls Tryz.prog 128 #[z.v,.int .u64 (xn:Int),x.v,.int .u64 (y:Int)] w (Vec w z fun c Z=>Z=(X+BB^z.l*xn)/y∧c=(X+BB^z.l*xn)%y):=by
 have lm:=hz.lm
 have hX:X<BB^z.l:=by rw [←lx]; exact hx.lt
 have hNl:(X+BB^z.l*xn)/BB^z.l=xn:=by rw [Nat.add_mul_div_left _ _ (BBpow_pos _),Nat.div_eq_of_lt hX,Nat.zero_add]
 have hdg:∀ k,k<z.l→dg (X+BB^z.l*xn) k=dg X k:=fun k hk=>dg_add_lo _ _ _ _ hk
 have hfin:(X+BB^z.l*xn)/y<BB^z.l:=by
  rw [Nat.div_lt_iff_lt_mul (by omega)]
  have:BB^z.l*(xn+1)≤BB^z.l*y:=Nat.mul_le_mul_left _ hn
  rw [Nat.mul_add,Nat.mul_one] at this; omega
 generalize X+BB^z.l*xn=N at *
 refine F128.call z.a z.l z.c xn x.a x.l x.c y w _ fun B=>bc_intro (fun hb=>?_) (fun hb=>?_)
 ·have h1:z.l=1:=by have:=eqE hb; omega
  obtain ⟨d1,d2,d3⟩:=div_step N 0 y (by omega) hy
  rw [show 0+1=z.l by omega,hNl,Nat.mod_eq_of_lt hn,Nat.div_eq_of_lt hn,hdg 0 (by omega),Nat.pow_zero,Nat.div_one,Nat.mul_zero,Nat.add_zero] at d1
  rw [show 0+1=z.l by omega,hNl,Nat.mod_eq_of_lt hn,hdg 0 (by omega),Nat.pow_zero,Nat.div_one] at d2
  rw [show 0+1=z.l by omega,hNl,Nat.mod_eq_of_lt hn,hdg 0 (by omega)] at d3
  refine rdC (k:=0) (hx.at_ h0) rfl (by omega) (hx.sg 0 (by omega)) ((c159 xn (dg X 0) y hn (dg_lt' X 0) hy w).mono ?_)
  rintro e w1 ⟨rfl,hc⟩
  refine ⟨_,trivial,_,trivial,rfl,wtC (k:=0) (hc.wt hz) rfl (by omega) fun B2=>ret1 rfl rfl ⟨_,N/y,rfl,⟨rfl,d2.symm⟩,hfin,?_,?_⟩⟩
  ·have:=Sg.step (k:=0) (z:=0) (d:=(xn*18446744073709551616+dg X 0)/y) (Sg.zero (w:=w1) (b:=z.b) (o:=z.o)) (by simp) d3 rfl (hc.own (hz.pl (by omega))) ((hc.wr hz.wr) 0 (by omega)).1
   rw [Nat.pow_zero,Nat.one_mul,Nat.zero_add,Nat.zero_add] at this
   rw [h1,d1]; exact this
  ·exact (hc.none _).trans' (Chg.setCell (hc.own (hz.pl (by omega))) _ ⟨rfl,by omega,by omega⟩)
 ·refine (c160 y (by omega) hy w).mono ?_
  rintro e w1 ⟨rfl,hc⟩
  refine ⟨_,rfl,by unfold inI64; omega,fun B1=>?_⟩
  rw [F128.q3]
  refine W_for (σ:=Nat × Nat) (fun t=>[(0,z.v),(2,x.v),(3,.int .u64 (y:Int)),(8,.int .u64 (t.2:Int)),(11,.int .u64 (rcp y:Int)),(12,.int .i64 ((t.1:Int)-1))])
   (fun t wr=>t.1≤z.l∧t.2=N/BB^t.1%y∧Sg wr z.b (z.o+t.1) (z.l-t.1) (N/BB^t.1/y)∧Chg w wr (inR z.b (z.o+t.1) (z.o+z.l)))
   (fun t=>t.1) (z.l,xn) ⟨rfl,rfl,rfl,rfl,rfl,rfl,trivial⟩ ⟨Nat.le_refl _,by show xn=N/BB^z.l%y; rw [hNl,Nat.mod_eq_of_lt hn],by rw [Nat.sub_self]; exact Sg.zero,hc.none _⟩ ?_
  rintro ⟨k,r⟩ B wr ⟨hk,hr,hsg,hch⟩
  simp only at hk hr hsg hch
  refine F128.t2 z.a z.l z.c x.a x.l x.c y r (rcp y) ((k:Int)-1) ⟨rfl,rfl,rfl,rfl,rfl,rfl,trivial⟩ fun B2=>bc_intro (fun hb=>?_) (fun hb B3=>?_)
  ·obtain ⟨j,rfl⟩:∃ j,k=j+1:=⟨k-1,by have:=dT hb; omega⟩
   obtain ⟨d1,d2,d3⟩:=div_step N j y (by omega) hy
   rw [←hr,hdg j (by omega)] at d1 d2 d3
   have hry:r<y:=by rw [hr]; exact Nat.mod_lt _ (by omega)
   have hni:¬inR z.b (z.o+(j+1)) (z.o+z.l) x.b (x.o+j):=by
    rintro ⟨h1,h2,h3⟩; unfold OvUp at ox; omega
   refine rdC (k:=j) (hx.at_ h0) (by omega) (by omega) (chgAt hch hx (by omega) hni) ((c161 r (dg X j) y hry (dg_lt' X j) hy wr).mono ?_)
   rintro e w2 ⟨rfl,hw⟩
   have hw:=hw.symm
   subst hw
   have hzr:=hch.wt hz
   have hp:=hzr.pl (by omega)
   obtain ⟨u,hu⟩:=(hzr.wr j (by omega)).1
   refine ⟨_,trivial,_,trivial,rfl,wtC (k:=j) hzr (by omega) (by omega) ⟨by unfold inI64; omega,fun B3=>?_⟩⟩
   have hc1:Chg wr (wr.setCell ⟨z.b,z.o+j,none⟩ (.int .u64 (((r*18446744073709551616+dg X j)/y:Nat):Int))) (inR z.b (z.o+j) (z.o+j+1)):=Chg.setCell hp _ ⟨rfl,by omega,by omega⟩
   have h1:Sg (wr.setCell ⟨z.b,z.o+j,none⟩ (.int .u64 (((r*18446744073709551616+dg X j)/y:Nat):Int))) z.b (z.o+j) 1 ((r*18446744073709551616+dg X j)/y):=by
    intro i hi
    have:i=0:=by omega
    subst this
    rw [dg_self _ (by rw [BB_eq]; exact d3)]
    exact World.cell?_setCell_same _ _ _ hu
   have h3:=Sg.join h1 (hc1.sg hsg fun i hi hm=>by have:=hm.2.2; omega) (by rw [Nat.pow_one,BB_eq]; exact d3)
   rw [Nat.pow_one,←d1] at h3
   refine ⟨(j,(r*18446744073709551616+dg X j)%y),⟨rfl,rfl,rfl,rfl,rfl,intv (by omega),trivial⟩,rfl,⟨by show j≤z.l; omega,d2.symm,h3.le (by show z.l-j≤_; omega),?_⟩,by show j<j+1; omega⟩
   exact (hch.mono fun b i _ hm=>⟨hm.1,by have:=hm.2.1; omega,hm.2.2⟩).trans' (hc1.mono fun b i _ hm=>⟨hm.1,hm.2.1,by have:=hm.2.2; omega⟩)
  ·have hk0:k=0:=by have:=dF hb; omega
   subst hk0
   rw [Nat.pow_zero,Nat.div_one] at hr hsg
   exact F128.t1 r ⟨rfl,trivial⟩ fun B4 B5=>ret1 rfl rfl ⟨r,N/y,rfl,⟨rfl,hr⟩,hfin,hsg,hch⟩
def DivW (w:World) (z:Sl) (X y:Nat) (v:Value) (w':World):Prop:=∃ r:Sl,v=.tuple #[r.v,.int .u64 ((X%y:Nat):Int)]∧Nz w' r (X/y)∧From w z r∧Chg w w' (fp z)
theorem c93 (z x:Sl) (X y:Nat) (w:World) (hz:St w z) (hx:Nz w x X) (sx:Sep z x) (hl:Len x) (h0:y≠0) (hy:y<18446744073709551616) :
  Calls Tryz.prog 93 #[z.v,x.v,.int .u64 (y:Int)] w fun e w'=>∃ v,e=.returned v∧DivW w z X y v w':=by
 have hl':=hl
 unfold Len at hl'
 refine F93.call z.a z.l z.c x.a x.l x.c y w _ fun B=>bc_false (eqF (by omega)) (bc_intro (fun hb=>?_) (fun hb=>bc_intro (fun hb'=>?_) (fun hb' B1=>?_)))
 ·have h1:y=1:=by have:=eqE hb; omega
  subst h1
  exact ResE.pass (c60 z x X w hz hx hl) fun r w' h1 h2 h3=>⟨_,_,_,rfl,fun B2=>ret2 rfl rfl rfl ⟨r,by rw [Nat.mod_one]; rfl,by rw [Nat.div_one]; exact h1,h2,h3⟩⟩
 ·have hX:X=0:=Nz.zero hx.toNt (by have:=eqE hb'; omega)
  subst hX
  exact ⟨0,rfl,Nat.zero_le _,fun B2=>ret2 rfl rfl rfl ⟨z.to 0,by rw [Nat.zero_mod]; rfl,by rw [Nat.zero_div]; exact nz_zero hz,From.self w z 0,Chg.refl _ _⟩⟩
 ·have hx0:x.l≠0:=by have:=eqN hb'; omega
  refine F93.t1 z.a z.l z.c x.a x.l x.c y x.l ⟨rfl,rfl,rfl,rfl,trivial⟩ fun B2=>(c73 z x.l w hz (by omega)).mono ?_
  rintro e w1 ⟨_,rfl,r,rfl,hrl,hr,hf,hc⟩
  have hrc:=hr.lc
  have hx1:=hc.nz_none hx
  refine ⟨_,_,_,rfl,Vec.pass (c128 r x X 0 y w1 hr.wt hx1.toNt.rd hrl.symm hx0 ?_ (by omega) hy) ?_⟩
  ·unfold OvUp
   have:=hx.toNt.blk (by omega)
   rcases hf with ⟨_,e2,e3,e4⟩ | hf
   ·unfold Sep at sx; omega
   ·omega
  ·rintro c Z w2 ⟨t1,t2⟩ hZ hsg hch
   rw [Nat.mul_zero,Nat.add_zero] at t1 t2
   subst t1; subst t2
   refine ⟨_,rfl,normR (w:=w) (z:=z) (r:=r) (V:=X/y) { hch.st hr with sg:=hsg,lt:=hZ } hf (hf.chg (hc.none _) hch (Nat.le_refl _) (by omega)) fun k hres=>?_⟩
   obtain ⟨r',e1,e2,e3,e4⟩:=hres
   exact ⟨_,_,_,rfl,fun B3=>ret2 rfl e1 rfl ⟨r',rfl,e2,e3,e4⟩⟩
end Go.Proofs.YtlkjiiibmfpbcaaGreatDoor
