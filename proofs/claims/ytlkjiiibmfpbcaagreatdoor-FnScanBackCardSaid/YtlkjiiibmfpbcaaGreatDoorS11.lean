/- Contracts: a word added to, or taken from, words one behind the other. Conditions: one length; what is read does not begin below what is written. -/
import Derived.Test.YtlkjiiibmfpbcaaGreatDoorS10
import Derived.Test.YtlkjiiibmfpbcaaGreatDoorS05
namespace Go.Proofs.YtlkjiiibmfpbcaaGreatDoor
open Go
theorem Wt.sub {w:World} {s:Sl} (h:Wt w s) (lc:s.l≤s.c) (i:Nat) (hi:i≤s.l):Wt w (s.sub i s.l):=by
 refine ⟨fun h0=>?_,h.wr.sub i (s.l-i) (by omega),fun h0=>h.pl (by have:s.l-i≠0:=h0; omega),by have:=h.lm; show s.l-i≤_; omega⟩
 have h1:s.l-i≠0:=h0
 show shifted s.a i s.c 1=_
 rw [h.at_ (by omega),shifted_eq _ _ _ _ (by omega)]; rfl
theorem Rd.hi {w:World} {s:Sl} {X:Nat} (h:Rd w s X) (lc:s.l≤s.c) (i:Nat) (hi:i≤s.l):Rd w (s.sub i s.l) (X/BB^i):=by
 refine ⟨fun h0=>?_,h.sg.hi i (s.l-i) (by omega),?_⟩
 ·have h1:s.l-i≠0:=h0
  show shifted s.a i s.c 1=_
  rw [h.at_ (by omega),shifted_eq _ _ _ _ (by omega)]; rfl
 ·show X/BB^i<BB^(s.l-i)
  rw [Nat.div_lt_iff_lt_mul (BBpow_pos i),←Nat.pow_add,Nat.sub_add_cancel hi]; exact h.lt
theorem tail_done {w wr w':World} {z:Sl} {T:Nat→Nat→Prop} {k Z X V:Nat} (hch:Chg w wr (inR z.b z.o (z.o+k))) (hsg:Sg wr z.b z.o k Z) (hZ:Z<BB^k) (hk:k≤z.l)
  (h2:Chg wr w' (inR z.b (z.o+k) (z.o+z.l))) (h3:Sg w' z.b (z.o+k) (z.l-k) (X/BB^k)) (hX:X<BB^z.l) (hV:Z+BB^k*(X/BB^k)=V) (hT:T 0 V):VecR w z T (.int .u64 0) w':=by
 refine ⟨0,V,rfl,hT,?_,?_,?_⟩
 ·have h4:X/BB^k<BB^(z.l-k):=by rw [Nat.div_lt_iff_lt_mul (BBpow_pos k),←Nat.pow_add,Nat.sub_add_cancel hk]; exact hX
  have h5:BB^k*(X/BB^k)+BB^k≤BB^z.l:=by
   rw [←Nat.mul_succ]
   refine Nat.le_trans (Nat.mul_le_mul_left _ h4) ?_
   rw [←Nat.pow_add,Nat.add_sub_cancel' hk]; exact Nat.le_refl _
  omega
 ·have:=Sg.join (h2.sg hsg fun i hi hm=>by have:=hm.2.1; omega) h3 hZ
  rw [hV,Nat.add_sub_cancel' hk] at this
  exact this
 ·exact (hch.mono fun b i _ hm=>⟨hm.1,hm.2.1,by have:=hm.2.2; omega⟩).trans' (h2.mono fun b i _ hm=>⟨hm.1,by have:=hm.2.1; omega,hm.2.2⟩)
theorem tail_same {w wr:World} {z x:Sl} {k X:Nat} (hch:Chg w wr (inR z.b z.o (z.o+k))) (hx:Rd w x X) (lx:x.l=z.l) (e:z.b=x.b∧z.o=x.o):Sg wr z.b (z.o+k) (z.l-k) (X/BB^k):=by
 intro i hi
 have h1:=chgAt hch hx (k:=k+i) (by omega) (by rintro ⟨_,_,h3⟩; omega)
 rw [dg_div,e.1,e.2,Nat.add_assoc]; exact h1
theorem tail_diff {w wr:World} {z x:Sl} {k X:Nat} (hch:Chg w wr (inR z.b z.o (z.o+k))) (hz:Wt w z) (hx:Rd w x X) (lx:x.l=z.l) (ox:Ov z x) (cz:z.l≤z.c) (cx:x.l≤x.c) (hk:k≤z.l) :
  ∃ w',Sem.run Tryz.prog (builtin .copy #[44,44] 3 #[false,false] #[(z.sub k z.l).v,(x.sub k x.l).v]) wr.drew.drew=.ok (.value (.int .i64 ((z.l-k:Nat):Int))) w'∧Sg w' z.b (z.o+k) (z.l-k) (X/BB^k)∧Chg wr w' (inR z.b (z.o+k) (z.o+z.l)):=by
 have hx':=hx.hi cx k (by omega)
 have hx2:Rd wr.drew.drew (x.sub k x.l) (X/BB^k):=hch.drew.drew.rd hx' fun i hi=>by
  have hi':i<x.l-k:=hi
  rintro ⟨h1,h2,h3⟩
  have h1':x.b=z.b:=h1
  have h2':z.o≤x.o+k+i:=h2
  have h3':x.o+k+i<z.o+k:=h3
  unfold Ov at ox; omega
 have hz2:Wt wr.drew.drew (z.sub k z.l):=hch.drew.drew.wt (hz.sub cz k hk)
 obtain ⟨w',r1,r2,r3⟩:=copyW (z.sub k z.l) (x.sub k x.l) (z.l-k) (by show z.l-k=min (x.l-k) (z.l-k); omega) (X/BB^k) wr.drew.drew
  ⟨hz2.at_,hz2.wr,hz2.pl,hz2.lm⟩ ⟨fun h0=>hx2.at_ (by show x.l-k≠0; have:z.l-k≠0:=h0; omega),by have:=hx2.sg; rw [show (x.sub k x.l).l=z.l-k by show x.l-k=_; omega] at this; exact this,
   by have:=hx2.lt; rw [show (x.sub k x.l).l=z.l-k by show x.l-k=_; omega] at this; exact this⟩
 refine ⟨w',r1,r2,?_⟩
 refine ((Chg.drew0 wr _).drew).trans' (r3.mono fun b i _ hm=>⟨hm.1,hm.2.1,by have:i<z.o+k+(z.l-k):=hm.2.2; omega⟩)
theorem ptrIs {w:World} {z x:Sl} (hz:plainAt w z.b) (hx:plainAt w x.b):ptrEq w (some ⟨z.b,z.o+0,none⟩) (some ⟨x.b,x.o+0,none⟩) (decide (z.b=x.b∧z.o=x.o)):=by
 by_cases h:z.b=x.b
 ·refine .inl ⟨h,?_⟩
  by_cases h2:z.o=x.o
  ·rw [decT ⟨h,h2⟩,h,h2]; exact (beq_self_eq_true (⟨x.b,x.o+0,none⟩:Addr)).symm
  ·rw [decF (fun e=>h2 e.2)]; symm; rw [beq_eq_false_iff_ne]; intro e; injection e with _ e2; omega
 ·exact .inr ⟨h,hz,hx,decF fun e=>h e.1⟩
theorem bcP {p:Prop} [Decidable p] {A B:Prop} (h1:¬p→A) (h2:p→B):bc (!decide p) A B :=
 bc_intro (fun h=>h1 (of_decide_eq_false (by simpa using h))) (fun h=>h2 (of_decide_eq_true (by simpa using h)))
theorem split_at (X k:Nat):X=X%BB^k+BB^k*(dg X k)+BB^(k+1)*(X/BB^(k+1)):=by
 rw [←mod_succ]; exact (Nat.mod_add_div _ _).symm
theorem c139 (z x:Sl) (X y:Nat) (w:World) (hz:Wt w z) (hx:Rd w x X) (lx:x.l=z.l) (ox:Ov z x) (cz:z.l≤z.c) (cx:x.l≤x.c) (px:x.l≠0→plainAt w x.b) (hy:y<18446744073709551616) :
  Calls Tryz.prog 139 #[z.v,x.v,.int .u64 (y:Int)] w (Vec w z fun c Z=>Z+BB^z.l*c=X+y∧(z.l≠0→c≤1)):=by
 have lm:=hz.lm
 have hX:X<BB^z.l:=by rw [←lx]; exact hx.lt
 refine F139.call z.a z.l z.c x.a x.l x.c y w _
  fun B=>bc_false (neF (by omega)) fun B1=>F139.t1 _ _ _ _ _ _ _ ⟨rfl,rfl,rfl,trivial⟩ fun B2=>bc_intro (fun hb B4=>?_) (fun hb=>?_)
 ·have h0:z.l=0:=by have:=eqE hb; omega
  have:X=0:=by rw [h0] at hX; simpa using hX
  subst this
  exact ret1 rfl rfl ⟨y,0,rfl,⟨by simp [h0],fun h=>absurd h0 h⟩,BBpow_pos _,by rw [h0]; exact Sg.zero,Chg.refl _ _⟩
 ·have h0:z.l≠0:=by have:=eqN hb; omega
  have d0:=dg_lt' X 0
  have hs0:=split_at X 0
  rw [Nat.pow_zero,Nat.mod_one,Nat.one_mul,Nat.zero_add,Nat.zero_add] at hs0
  refine rdC (k:=0) (hx.at_ (by omega)) rfl (by omega) (hx.sg 0 (by omega)) ((c163 (dg X 0) y 0 (by omega) w).mono ?_)
  rintro e w1 ⟨rfl,hw⟩
  have hw:=hw.symm
  subst hw
  refine ⟨_,trivial,_,trivial,rfl,wtC (k:=0) hz rfl (by omega) ?_⟩
  have hch:Chg w (w.setCell ⟨z.b,z.o+0,none⟩ (.int .u64 (((dg X 0+y+0)%18446744073709551616:Nat):Int))) (inR z.b z.o (z.o+1)):=Chg.step (k:=0) (Chg.refl w _) rfl (hz.pl h0)
  have hsg:Sg (w.setCell ⟨z.b,z.o+0,none⟩ (.int .u64 (((dg X 0+y+0)%18446744073709551616:Nat):Int))) z.b z.o 1 ((dg X 0+y+0)%18446744073709551616):=by
   have:=Sg.step (k:=0) (z:=0) (d:=(dg X 0+y+0)%18446744073709551616) (Sg.zero (w:=w) (b:=z.b) (o:=z.o)) (by simp) (Nat.mod_lt _ (by omega)) rfl (hz.pl h0) (hz.wr 0 (by omega)).1
   rw [Nat.pow_zero,Nat.one_mul,Nat.zero_add,Nat.zero_add] at this
   exact this
  have hZ:(dg X 0+y+0)%18446744073709551616<BB^1:=by rw [Nat.pow_one]; exact Nat.mod_lt _ (by omega)
  generalize hw1:w.setCell ⟨z.b,z.o+0,none⟩ (.int .u64 (((dg X 0+y+0)%18446744073709551616:Nat):Int))=w1 at hch hsg
  refine bc_intro (fun hc=>?_) (fun hc B3=>?_)
  ·have hc0:(dg X 0+y+0)/18446744073709551616=0:=by have:=eqE hc; omega
   have hV:(dg X 0+y+0)%18446744073709551616+BB^1*(X/BB^1)=X+y:=by omega
   refine ⟨z.b,z.o,hz.at_ h0,0,rfl,by omega,x.b,x.o,hx.at_ (by omega),0,rfl,by omega,_,ptrIs (hch.drew.plain (hz.pl h0).2) (hch.drew.plain (px (by omega))),?_⟩
   refine bcP (fun hne=>?_) (fun he B3=>?_)
   ·obtain ⟨w',r1,r2,r3⟩:=tail_diff hch hz hx lx ox cz cx (by omega)
    refine ⟨1,rfl,by omega,1,rfl,by omega,w',_,r1,fun B3=>F139.t3 trivial fun B5 B6=>ret1 rfl rfl ?_⟩
    exact tail_done hch hsg hZ (by omega) r3 r2 hX hV ⟨by simp,fun _=>by omega⟩
   ·refine F139.t3 trivial fun B5 B6=>ret1 rfl rfl ?_
    exact tail_done hch hsg hZ (by omega) (Chg.drew0 w1 _) (tail_same hch.drew hx lx he) hX hV ⟨by simp,fun _=>by omega⟩
  ·have hc1:(dg X 0+y+0)/18446744073709551616=1:=by have:=eqN hc; omega
   refine F139.t2 z.a z.l z.c x.a x.l x.c ⟨rfl,rfl,trivial⟩ fun B4 B5=>?_
   rw [F139.q6]
   refine W_for (σ:=Nat × Nat) (fun s=>[(0,z.v),(1,x.v),(9,.int .i64 (s.1:Int))])
    (fun s wr=>1≤s.1∧s.1≤z.l∧s.2<BB^s.1∧s.2+BB^s.1=X%BB^s.1+y∧Sg wr z.b z.o s.1 s.2∧Chg w wr (inR z.b z.o (z.o+s.1)))
    (fun s=>z.l-s.1) (1,(dg X 0+y+0)%18446744073709551616) ⟨rfl,rfl,rfl,trivial⟩
    ⟨Nat.le_refl _,by show 1≤z.l; omega,hZ,?_,hsg,hch⟩ ?_
   ·show (dg X 0+y+0)%18446744073709551616+BB^1=X%BB^1+y
    have:X%BB^1=dg X 0:=by rw [mod_succ,Nat.pow_zero,Nat.mod_one]; omega
    rw [this,Nat.pow_one,BB_eq]; omega
   rintro ⟨k,Z⟩ B wr ⟨k1,hk,hZ,hS,hsg,hch⟩
   simp only at k1 hk hZ hS hsg hch
   refine F139.t5 z.a z.l z.c x.a x.l x.c k ⟨rfl,rfl,rfl,trivial⟩ fun B6=>bc_intro (fun hb=>?_) (fun hb B7=>?_)
   ·have hlt:k<z.l:=by have:=dT hb; omega
    have dk:=dg_lt' X k
    have hp:=hch.own (hz.pl h0)
    refine rdC (k:=k) (hx.at_ (by omega)) rfl (by omega) (chgAt hch hx (by omega) (ox.not (Nat.le_refl k) (by omega))) (bc_intro (fun hm=>?_) (fun hm B7=>?_))
    ·have hm':dg X k≠18446744073709551615:=by have:=neN hm; omega
     refine wtC (k:=k) (hch.wt hz) rfl hlt ?_
     rw [show IntKind.wrap .u64 ((dg X k:Int)+1)=((dg X k+1:Nat):Int) by rw [show ((dg X k:Int)+1)=((dg X k+1:Nat):Int) by omega,wrapN _ (by omega)]]
     have hch2:=hch.step (v:=.int .u64 ((dg X k+1:Nat):Int)) (w2:=wr) rfl hp
     have hsg2:=hsg.step hZ (d:=dg X k+1) (w2:=wr) (by rw [BB_eq]; omega) rfl hp (hch.wr hz.wr k hlt).1
     have hZ2:=dlt (d:=dg X k+1) hZ (by omega)
     have hV:Z+BB^k*(dg X k+1)+BB^(k+1)*(X/BB^(k+1))=X+y:=by
      have:=split_at X k
      rw [Nat.mul_add,Nat.mul_one]; omega
     generalize wr.setCell ⟨z.b,z.o+k,none⟩ (.int .u64 ((dg X k+1:Nat):Int))=w2 at hch2 hsg2
     refine ⟨z.b,z.o,hz.at_ h0,0,rfl,by omega,x.b,x.o,hx.at_ (by omega),0,rfl,by omega,_,ptrIs (hch2.drew.plain (hz.pl h0).2) (hch2.drew.plain (px (by omega))),?_⟩
     refine bcP (fun hne=>?_) (fun he B3=>?_)
     ·obtain ⟨w',r1,r2,r3⟩:=tail_diff hch2 hz hx lx ox cz cx (by omega)
      refine ⟨by unfold inI64; omega,k+1,by omega,by omega,by unfold inI64; omega,k+1,by omega,by omega,w',_,r1,fun B3=>F139.t9 trivial fun B5 B6=>ret1 rfl rfl ?_⟩
      exact tail_done hch2 hsg2 hZ2 (by omega) r3 r2 hX hV ⟨by simp,fun _=>by omega⟩
     ·refine F139.t9 trivial fun B5 B6=>ret1 rfl rfl ?_
      exact tail_done hch2 hsg2 hZ2 (by omega) (Chg.drew0 w2 _) (tail_same hch2.drew hx lx he) hX hV ⟨by simp,fun _=>by omega⟩
    ·have hm':dg X k=18446744073709551615:=by have:=neE hm; omega
     refine F139.t7 z.a z.l z.c x.a x.l x.c k ⟨rfl,rfl,rfl,trivial⟩ fun B8=>wtC (k:=k) (hch.wt hz) rfl hlt fun B9=>?_
     refine F139.t8 z.a z.l z.c x.a x.l x.c k ⟨rfl,rfl,rfl,trivial⟩ fun B10=>⟨by unfold inI64; omega,fun B11=>?_⟩
     have hsg2:=hsg.step hZ (d:=0) (w2:=wr) (by rw [BB_eq]; omega) rfl hp (hch.wr hz.wr k hlt).1
     refine ⟨(k+1,Z+BB^k*0),⟨rfl,rfl,rfl,trivial⟩,rfl,⟨by show 1≤k+1; omega,by show k+1≤z.l; omega,dlt hZ (by omega),?_,hsg2,hch.step rfl hp⟩,by show z.l-(k+1)<z.l-k; omega⟩
     show Z+BB^k*0+BB^(k+1)=X%BB^(k+1)+y
     rw [mod_succ,hm',BBpow_succ,BB_eq,show (18446744073709551616:Nat)=18446744073709551615+1 from rfl,Nat.mul_add]
     rw [←show (18446744073709551616:Nat)=18446744073709551615+1 from rfl,←BB_eq] at *
     omega
   ·have hk':k=z.l:=by have:=dF hb; omega
    subst hk'
    refine F139.t4 trivial fun B8 B9=>ret1 rfl rfl ⟨1,Z,rfl,⟨?_,fun _=>Nat.le_refl _⟩,hZ,hsg,hch⟩
    rw [Nat.mod_eq_of_lt hX] at hS
    rw [Nat.mul_one]; exact hS
theorem c83 (z x:Sl) (X y:Nat) (w:World) (hz:Wt w z) (hx:Rd w x X) (lx:x.l=z.l) (ox:Ov z x) (cz:z.l≤z.c) (cx:x.l≤x.c) (px:x.l≠0→plainAt w x.b) (hy:y<18446744073709551616) :
  Calls Tryz.prog 83 #[z.v,x.v,.int .u64 (y:Int)] w (Vec w z fun c Z=>Z+y=X+BB^z.l*c∧(z.l≠0→c≤1)):=by
 have lm:=hz.lm
 have hX:X<BB^z.l:=by rw [←lx]; exact hx.lt
 refine F83.call z.a z.l z.c x.a x.l x.c y w _
  fun B=>bc_false (neF (by omega)) fun B1=>F83.t1 _ _ _ _ _ _ _ ⟨rfl,rfl,rfl,trivial⟩ fun B2=>bc_intro (fun hb B4=>?_) (fun hb=>?_)
 ·have h0:z.l=0:=by have:=eqE hb; omega
  have:X=0:=by rw [h0] at hX; simpa using hX
  subst this
  exact ret1 rfl rfl ⟨y,0,rfl,⟨by simp [h0],fun h=>absurd h0 h⟩,BBpow_pos _,by rw [h0]; exact Sg.zero,Chg.refl _ _⟩
 ·have h0:z.l≠0:=by have:=eqN hb; omega
  have d0:=dg_lt' X 0
  have hs0:=split_at X 0
  rw [Nat.pow_zero,Nat.mod_one,Nat.one_mul,Nat.zero_add,Nat.zero_add] at hs0
  refine rdC (k:=0) (hx.at_ (by omega)) rfl (by omega) (hx.sg 0 (by omega)) ((c122 (dg X 0) y 0 (by omega) hy w).mono ?_)
  rintro e w1 ⟨rfl,hw⟩
  have hw:=hw.symm
  subst hw
  have hD:(dg X 0+18446744073709551616-(y+0))%18446744073709551616+y=dg X 0+18446744073709551616*(if dg X 0<y+0 then 1 else 0):=by split <;> omega
  have hC:(if dg X 0<y+0 then 1 else 0)≤1:=by split <;> omega
  generalize hd:(dg X 0+18446744073709551616-(y+0))%18446744073709551616=d at hD
  generalize (if dg X 0<y+0 then 1 else 0)=c' at hD hC
  have hdl:d<18446744073709551616:=by omega
  refine ⟨_,trivial,_,trivial,rfl,wtC (k:=0) hz rfl (by omega) ?_⟩
  have hch:Chg w (w.setCell ⟨z.b,z.o+0,none⟩ (.int .u64 (d:Int))) (inR z.b z.o (z.o+1)):=Chg.step (k:=0) (Chg.refl w _) rfl (hz.pl h0)
  have hsg:Sg (w.setCell ⟨z.b,z.o+0,none⟩ (.int .u64 (d:Int))) z.b z.o 1 d:=by
   have:=Sg.step (k:=0) (z:=0) (d:=d) (Sg.zero (w:=w) (b:=z.b) (o:=z.o)) (by simp) hdl rfl (hz.pl h0) (hz.wr 0 (by omega)).1
   rw [Nat.pow_zero,Nat.one_mul,Nat.zero_add,Nat.zero_add] at this
   exact this
  have hZ:d<BB^1:=by rw [Nat.pow_one]; exact hdl
  generalize hw1:w.setCell ⟨z.b,z.o+0,none⟩ (.int .u64 (d:Int))=w1 at hch hsg
  refine bc_intro (fun hc=>?_) (fun hc B3=>?_)
  ·have hc0:c'=0:=by have:=eqE hc; omega
   have hV:d+BB^1*(X/BB^1)+y=X:=by omega
   refine ⟨z.b,z.o,hz.at_ h0,0,rfl,by omega,x.b,x.o,hx.at_ (by omega),0,rfl,by omega,_,ptrIs (hch.drew.plain (hz.pl h0).2) (hch.drew.plain (px (by omega))),?_⟩
   refine bcP (fun hne=>?_) (fun he B3=>?_)
   ·obtain ⟨w',r1,r2,r3⟩:=tail_diff hch hz hx lx ox cz cx (by omega)
    refine ⟨1,rfl,by omega,1,rfl,by omega,w',_,r1,fun B3=>F83.t3 trivial fun B5 B6=>ret1 rfl rfl ?_⟩
    exact tail_done hch hsg hZ (by omega) r3 r2 hX rfl ⟨by rw [hV,Nat.mul_zero,Nat.add_zero],fun _=>by omega⟩
   ·refine F83.t3 trivial fun B5 B6=>ret1 rfl rfl ?_
    exact tail_done hch hsg hZ (by omega) (Chg.drew0 w1 _) (tail_same hch.drew hx lx he) hX rfl ⟨by rw [hV,Nat.mul_zero,Nat.add_zero],fun _=>by omega⟩
  ·have hc1:c'=1:=by have:=eqN hc; omega
   refine F83.t2 z.a z.l z.c x.a x.l x.c ⟨rfl,rfl,trivial⟩ fun B4 B5=>?_
   rw [F83.q6]
   refine W_for (σ:=Nat × Nat) (fun s=>[(0,z.v),(1,x.v),(9,.int .i64 (s.1:Int))])
    (fun s wr=>1≤s.1∧s.1≤z.l∧s.2<BB^s.1∧s.2+y=X%BB^s.1+BB^s.1∧Sg wr z.b z.o s.1 s.2∧Chg w wr (inR z.b z.o (z.o+s.1)))
    (fun s=>z.l-s.1) (1,d) ⟨rfl,rfl,rfl,trivial⟩
    ⟨Nat.le_refl _,by show 1≤z.l; omega,hZ,?_,hsg,hch⟩ ?_
   ·show d+y=X%BB^1+BB^1
    have:X%BB^1=dg X 0:=by rw [mod_succ,Nat.pow_zero,Nat.mod_one]; omega
    rw [this,Nat.pow_one,BB_eq]; omega
   rintro ⟨k,Z⟩ B wr ⟨k1,hk,hZ,hS,hsg,hch⟩
   simp only at k1 hk hZ hS hsg hch
   refine F83.t5 z.a z.l z.c x.a x.l x.c k ⟨rfl,rfl,rfl,trivial⟩ fun B6=>bc_intro (fun hb=>?_) (fun hb B7=>?_)
   ·have hlt:k<z.l:=by have:=dT hb; omega
    have dk:=dg_lt' X k
    have hp:=hch.own (hz.pl h0)
    refine rdC (k:=k) (hx.at_ (by omega)) rfl (by omega) (chgAt hch hx (by omega) (ox.not (Nat.le_refl k) (by omega))) (bc_intro (fun hm=>?_) (fun hm B7=>?_))
    ·have hm':dg X k≠0:=by have:=neN hm; omega
     refine wtC (k:=k) (hch.wt hz) rfl hlt ?_
     rw [show IntKind.wrap .u64 ((dg X k:Int)-1)=((dg X k-1:Nat):Int) by rw [show ((dg X k:Int)-1)=((dg X k-1:Nat):Int) by omega,wrapN _ (by omega)]]
     have hch2:=hch.step (v:=.int .u64 ((dg X k-1:Nat):Int)) (w2:=wr) rfl hp
     have hsg2:=hsg.step hZ (d:=dg X k-1) (w2:=wr) (by rw [BB_eq]; omega) rfl hp (hch.wr hz.wr k hlt).1
     have hZ2:=dlt (d:=dg X k-1) hZ (by omega)
     have hV:Z+BB^k*(dg X k-1)+BB^(k+1)*(X/BB^(k+1))+y=X:=by
      have:=split_at X k
      have h7:BB^k*(dg X k-1)+BB^k=BB^k*dg X k:=by rw [←Nat.mul_succ,Nat.succ_eq_add_one,Nat.sub_add_cancel (by omega)]
      omega
     generalize wr.setCell ⟨z.b,z.o+k,none⟩ (.int .u64 ((dg X k-1:Nat):Int))=w2 at hch2 hsg2
     refine ⟨z.b,z.o,hz.at_ h0,0,rfl,by omega,x.b,x.o,hx.at_ (by omega),0,rfl,by omega,_,ptrIs (hch2.drew.plain (hz.pl h0).2) (hch2.drew.plain (px (by omega))),?_⟩
     refine bcP (fun hne=>?_) (fun he B3=>?_)
     ·obtain ⟨w',r1,r2,r3⟩:=tail_diff hch2 hz hx lx ox cz cx (by omega)
      refine ⟨by unfold inI64; omega,k+1,by omega,by omega,by unfold inI64; omega,k+1,by omega,by omega,w',_,r1,fun B3=>F83.t9 trivial fun B5 B6=>ret1 rfl rfl ?_⟩
      exact tail_done hch2 hsg2 hZ2 (by omega) r3 r2 hX rfl ⟨by rw [hV,Nat.mul_zero,Nat.add_zero],fun _=>by omega⟩
     ·refine F83.t9 trivial fun B5 B6=>ret1 rfl rfl ?_
      exact tail_done hch2 hsg2 hZ2 (by omega) (Chg.drew0 w2 _) (tail_same hch2.drew hx lx he) hX rfl ⟨by rw [hV,Nat.mul_zero,Nat.add_zero],fun _=>by omega⟩
    ·have hm':dg X k=0:=by have:=neE hm; omega
     refine F83.t7 z.a z.l z.c x.a x.l x.c k ⟨rfl,rfl,rfl,trivial⟩ fun B8=>wtC (k:=k) (hch.wt hz) rfl hlt fun B9=>?_
     refine F83.t8 z.a z.l z.c x.a x.l x.c k ⟨rfl,rfl,rfl,trivial⟩ fun B10=>⟨by unfold inI64; omega,fun B11=>?_⟩
     have hsg2:=hsg.step hZ (d:=18446744073709551615) (w2:=wr) (by rw [BB_eq]; omega) rfl hp (hch.wr hz.wr k hlt).1
     refine ⟨(k+1,Z+BB^k*18446744073709551615),⟨rfl,rfl,rfl,trivial⟩,rfl,⟨by show 1≤k+1; omega,by show k+1≤z.l; omega,dlt hZ (by omega),?_,hsg2,hch.step rfl hp⟩,by show z.l-(k+1)<z.l-k; omega⟩
     show Z+BB^k*18446744073709551615+y=X%BB^(k+1)+BB^(k+1)
     rw [mod_succ,hm',BBpow_succ]
     have h7:BB^k*BB=BB^k*18446744073709551615+BB^k:=rfl
     omega
   ·have hk':k=z.l:=by have:=dF hb; omega
    subst hk'
    refine F83.t4 trivial fun B8 B9=>ret1 rfl rfl ⟨1,Z,rfl,⟨?_,fun _=>Nat.le_refl _⟩,hZ,hsg,hch⟩
    rw [Nat.mod_eq_of_lt hX] at hS
    rw [Nat.mul_one]; exact hS
end Go.Proofs.YtlkjiiibmfpbcaaGreatDoor
namespace Go.Proofs.YtlkjiiibmfpbcaaGreatDoor
open Go
structure Nz (w:World) (s:Sl) (v:Nat):Prop extends Nt w s v where
 nm:Nm s v
def Res (w:World) (z:Sl) (V:Nat) (v:Value) (w':World):Prop:=∃ r:Sl,v=r.v∧Nz w' r V∧From w z r∧Chg w w' (fp z)
abbrev ResE (w:World) (z:Sl) (V:Nat) (e:Ending) (w':World):Prop:=∃ v,e=.returned v∧Res w z V v w'
def Len (s:Sl):Prop:=s.l≤1099511627776
theorem Chg.nz {w w':World} {S:Set2} (h:Chg w w' S) {s:Sl} {v:Nat} (hs:Nz w s v) (hd:∀ i,i<s.l→¬S s.b (s.o+i)):Nz w' s v:={ h.nt hs.toNt hd with nm:=hs.nm }
theorem Chg.nz_fp {w w':World} {z:Sl} (h:Chg w w' (fp z)) {s:Sl} {v:Nat} (hs:Nz w s v) (hd:Apart z s):Nz w' s v:={ h.nt_fp hs.toNt hd with nm:=hs.nm }
theorem Chg.nz_none {w w':World} (h:Chg w w' none2) {s:Sl} {v:Nat} (hs:Nz w s v):Nz w' s v:={ h.nt_none hs.toNt with nm:=hs.nm }
theorem Chg.none {w w':World} (h:Chg w w' none2) (S:Set2):Chg w w' S:=h.mono fun _ _ _ hm=>hm.elim
theorem From.to {w:World} {z r:Sl} (h:From w z r) (k:Nat):From w z (r.to k):=h
theorem From.self (w:World) (z:Sl) (k:Nat):From w z (z.to k):=.inl ⟨rfl,rfl,rfl,rfl⟩
theorem From.later {w w':World} {S:Set2} {z r:Sl} (h:From w' z r) (hc:Chg w w' S):From w z r:=h.imp id fun h=>Nat.le_trans hc.size h
theorem From.fp {w w':World} {z r:Sl} (h:From w z r) {S:Set2} (hS:∀ i,S r.b i→r.o≤i∧i<r.o+r.c) {w2:World} (h1:Chg w w' none2) (h2:Chg w' w2 fun b i=>b=r.b∧S b i):Chg w w2 (fp z):=by
 refine h1.trans h2 (fun _ _ _ hm=>hm.elim) fun b i hb hm=>?_
 obtain ⟨e1,e2⟩:=hm
 subst e1
 rcases h with ⟨_,hc,hb',ho⟩ | h
 ·have:=hS i e2; exact ⟨hb',by omega,by omega⟩
 ·omega
theorem From.chg {w w1 w2:World} {z r:Sl} {lo hi:Nat} (h:From w z r) (h1:Chg w w1 (Go.Proofs.YtlkjiiibmfpbcaaGreatDoor.fp z)) (h2:Chg w1 w2 (inR r.b lo hi)) (hlo:r.o≤lo) (hhi:hi≤r.o+r.c):Chg w w2 (Go.Proofs.YtlkjiiibmfpbcaaGreatDoor.fp z):=by
 refine h1.trans h2 (fun _ _ _ hm=>hm) fun b i hb hm=>?_
 obtain ⟨e1,e2,e3⟩:=hm
 rcases h with ⟨_,hc,hb',ho⟩ | h
 ·exact ⟨by omega,by omega,by omega⟩
 ·omega
theorem alloc_froz (w:World) (n:Nat) (a:Addr):(w.alloc (.cells (madeCells #[(Value.int IntKind.u64 0)] n) 61)).frozen? a=w.frozen? a:=RowKit.frozen?_alloc_cells _ _ _ _
theorem alloc_st (w:World) (hg:GB≤w.heap.size) (n c:Nat) (hn:n≤c) (hc:c≤281474976710656) :
  St (w.alloc (.cells (madeCells #[(Value.int IntKind.u64 0)] c) 61)) ⟨some ⟨w.heap.size,0,none⟩,n,c,w.heap.size,0⟩:=by
 have hh:(w.alloc (.cells (madeCells #[(Value.int IntKind.u64 0)] c) 61)).heap[w.heap.size]?=some (.cells (madeCells #[(Value.int IntKind.u64 0)] c) 61 (0,0)):=heap_alloc_new ..
 refine ⟨hn,fun _=>rfl,fun i hi=>⟨?_,?_⟩,fun _=>⟨hg,_,_,hh⟩,by show c≤_; omega,by simp; omega⟩
 ·have hi':i<c:=hi
  have:i<(madeCells #[(Value.int IntKind.u64 0)] c).size:=by rw [size_madeCells]; exact hi'
  refine ⟨(madeCells #[(Value.int IntKind.u64 0)] c)[i],?_⟩
  rw [cell_eq,hh]
  simp [this]
 ·rw [frozen_eq,hh]
  simp
theorem c73 (z:Sl) (n:Nat) (w:World) (hz:St w z) (hn:n≤8796093022208) :
  Calls Tryz.prog 73 #[z.v,.int .i64 (n:Int)] w fun e w'=>∃ v,e=.returned v∧∃ r:Sl,v=r.v∧r.l=n∧St w' r∧From w z r∧Chg w w' none2:=by
 refine F73.call z.a z.l z.c n w _ fun B=>bc_intro (fun hb=>?_) (fun hb=>bc_intro (fun hb'=>?_) fun hb'=>?_)
 ·have:n≤z.c:=by have:=dT hb; omega
  exact ⟨n,rfl,this,fun B2=>ret1 rfl rfl ⟨z.to n,rfl,rfl,hz.to_st n this,From.self w z n,Chg.refl _ _⟩⟩
 ·have:n=1:=by have:=eqE hb'; omega
  subst this
  exact ⟨1,1,rfl,rfl,Nat.le_refl _,by omega,by omega,fun B2=>ret1 rfl rfl ⟨⟨_,1,1,w.heap.size,0⟩,rfl,rfl,alloc_st w hz.gb 1 1 (Nat.le_refl _) (by omega),.inr (Nat.le_refl _),Chg.alloc _ _ (alloc_froz w _) _⟩⟩
 ·exact ⟨by unfold inI64; omega,n,n+4,rfl,rfl,by omega,by omega,by omega,fun B2=>ret1 rfl rfl ⟨⟨_,n,n+4,w.heap.size,0⟩,rfl,rfl,alloc_st w hz.gb n (n+4) (by omega) (by omega),.inr (Nat.le_refl _),Chg.alloc _ _ (alloc_froz w _) _⟩⟩
theorem shifted0 {w:World} {z:Sl} (h:St w z):shifted z.a 0 z.c 1=z.a:=by
 by_cases h0:z.c=0
 ·rw [h0]; exact shifted_full _ _ _
 ·rw [h.at_ h0]; exact shifted_zero ..
theorem c46 (z:Sl) (V:Nat) (w:World) (hz:Nt w z V) (hl:z.l≤9223372036854775807) :
  Calls Tryz.prog 46 #[z.v] w fun e w'=>∃ v,e=.returned v∧∃ k,k≤z.l∧v=(z.to k).v∧w'=w∧Nz w (z.to k) V:=by
 refine F46.call z.a z.l z.c w _ fun B B1=>?_
 rw [F46.q3]
 refine W_for (σ:=Nat) (fun s=>[(0,z.v),(3,.int .i64 (s:Int))]) (fun s wr=>s≤z.l∧V<BB^s∧wr=w) (fun s=>s) z.l ⟨rfl,rfl,trivial⟩ ⟨Nat.le_refl _,hz.lt,rfl⟩ ?_
 rintro i B wr ⟨hi,hV,h⟩
 have h:=h.symm
 subst h
 refine F46.t2 z.a z.l z.c i ⟨rfl,rfl,trivial⟩ fun B1=>bc_intro (fun hb=>?_) (fun hb B2=>?_)
 ·obtain ⟨j,rfl⟩:∃ j,i=j+1:=⟨i-1,by have:=dT hb; omega⟩
  refine ⟨by unfold inI64; omega,rdC (k:=j) (hz.at_ (by have:=hz.lc; omega)) (by omega) (by omega) (hz.sg j (by omega)) (bc_intro (fun hd=>?_) (fun hd B2=>?_))⟩
  ·have hd0:dg V j=0:=by have:=eqE hd; omega
   refine ⟨by unfold inI64; omega,fun B2=>⟨j,⟨rfl,intv (by omega),trivial⟩,rfl,⟨by omega,?_,rfl⟩,by show j<j+1; omega⟩⟩
   have:=Nat.mod_eq_of_lt hV
   rw [mod_succ,hd0] at this
   have:=Nat.mod_lt V (BBpow_pos j)
   omega
  ·have hd0:dg V j≠0:=by have:=eqN hd; omega
   refine F46.t1 z.a z.l z.c (j+1:Nat) ⟨rfl,rfl,trivial⟩ fun B3=>⟨0,j+1,rfl,rfl,by omega,by have:=hz.lc; omega,fun B4=>ret1 rfl rfl ⟨j+1,hi,?_,rfl,?_⟩⟩
   ·rw [shifted0 hz.toSt]; rfl
   ·refine ⟨⟨hz.to_st (j+1) (by have:=hz.lc; omega),hz.sg.le hi,hV⟩,Nm.top fun _=>?_⟩
    show BB^j≤V
    rcases Nat.lt_or_ge V (BB^j) with h1 | h1
    ·exact absurd (dg_of_lt V j h1) hd0
    ·exact h1
 ·have:i=0:=by have:=dF hb; omega
  subst this
  refine F46.t1 z.a z.l z.c (0:Nat) ⟨rfl,rfl,trivial⟩ fun B3=>⟨0,0,rfl,rfl,by omega,by omega,fun B4=>ret1 rfl rfl ⟨0,hi,?_,rfl,?_⟩⟩
  ·rw [shifted0 hz.toSt]; rfl
  ·exact ⟨⟨hz.to_st 0 (by omega),Sg.zero,hV⟩,Nm.zero rfl _⟩
theorem nz_zero {w:World} {z:Sl} (h:St w z):Nz w (z.to 0) 0:=⟨⟨h.to_st 0 (Nat.zero_le _),Sg.zero,BBpow_pos _⟩,Nm.zero rfl _⟩
theorem Nz.zero {w:World} {s:Sl} {v:Nat} (h:Nt w s v) (h0:s.l=0):v=0:=by have:=h.lt; rw [h0] at this; simpa using this
theorem c71 (z:Sl) (x:Nat) (w:World) (hz:St w z) (hx:x<18446744073709551616) :
  Calls Tryz.prog 71 #[z.v,.int .u64 (x:Int)] w (ResE w z x):=by
 refine F71.call z.a z.l z.c x w _ fun B=>bc_intro (fun hb=>?_) (fun hb=>?_)
 ·have:x=0:=by have:=eqE hb; omega
  subst this
  exact ⟨0,rfl,Nat.zero_le _,fun B2=>ret1 rfl rfl ⟨z.to 0,rfl,nz_zero hz,From.self w z 0,Chg.refl _ _⟩⟩
 ·refine (c73 z 1 w hz (by omega)).mono ?_
  rintro e w1 ⟨_,rfl,r,rfl,hl,hr,hf,hc⟩
  refine ⟨_,_,_,rfl,wtC (k:=0) hr.wt rfl (by omega) fun B2=>ret1 rfl rfl ⟨r,rfl,?_,hf,?_⟩⟩
  ·have hp:=hr.pl (by have:=hr.lc; omega)
   have h1:Chg w1 (w1.setCell ⟨r.b,r.o+0,none⟩ (.int .u64 (x:Int))) (inR r.b r.o (r.o+r.c)):=Chg.setCell hp _ ⟨rfl,by omega,by have:=hr.lc; omega⟩
   refine ⟨⟨h1.st hr,?_,by rw [hl]; simpa [BB_eq] using hx⟩,Nm.top fun _=>?_⟩
   ·rw [hl]
    have:=Sg.step (k:=0) (z:=0) (d:=x) (Sg.zero (w:=w1) (b:=r.b) (o:=r.o)) (by simp) hx rfl hp (hr.wr 0 (by have:=hr.lc; omega)).1
    simpa using this
   ·rw [hl,Nat.sub_self,Nat.pow_zero]; have:=eqN hb; omega
  ·have hp:=hr.pl (by have:=hr.lc; omega)
   exact From.chg hf (hc.none _) (Chg.setCell (w:=w1) hp (inR r.b (r.o+0) (r.o+0+1)) ⟨rfl,by omega,by omega⟩) (by omega) (by have:=hr.lc; omega)
theorem c60 (z x:Sl) (X:Nat) (w:World) (hz:St w z) (hx:Nz w x X) (hl:Len x):Calls Tryz.prog 60 #[z.v,x.v] w (ResE w z X):=by
 unfold Len at hl
 refine F60.call z.a z.l z.c x.a x.l x.c w _ fun B=>(c73 z x.l w hz (by omega)).mono ?_
 rintro e w1 ⟨_,rfl,r,rfl,hl,hr,hf,hc⟩
 have hx1:=hc.nz_none hx
 have hx2:=hx1.toNt.rd
 obtain ⟨w',r1,r2,r3⟩:=copyT 45 Tryz.underlying45 r x x.l (by omega) X w1 (hr.to_wt x.l (by have:=hr.lc; omega)) ⟨hx2.at_,hx2.sg,hx2.lt⟩
 refine ⟨_,_,_,rfl,w',⟨_,r1,fun B2=>ret1 rfl rfl ⟨r,rfl,⟨⟨r3.st hr,by rw [hl]; exact r2,by rw [hl]; exact hx.lt⟩,hx.nm.of_len hl⟩,hf,?_⟩⟩⟩
 exact From.chg hf (hc.none _) r3 (Nat.le_refl _) (by have:=hr.lc; omega)
end Go.Proofs.YtlkjiiibmfpbcaaGreatDoor
namespace Go.Proofs.YtlkjiiibmfpbcaaGreatDoor
open Go
set_option maxRecDepth 100000
set_option linter.unusedVariables false
namespace F109
noncomputable def body:Code:=bodyOf Tryz.f109
def kt:List (Nat × List Nat):=[(6,[0,1,2]),(15,[0])]
noncomputable def p1:Code:=sb 2 3 body
noncomputable def p2:Code:=sb 7 127 body
variable (A0:Option Addr) (N0 C0:Nat) (A1:Option Addr) (N1 C1:Nat) (I2:Int)
abbrev l0:List (Nat × Value):=[eS 0 A0 N0 C0,eS 1 A1 N1 C1,eU 2 I2]
def v0:VP:=fun B ds w K=>bc (I2==0) (Cl 144 #[(.slice A0 N0 C0),(.slice A1 N1 C1)] w fun r1 w2=>∃ x3,r1=.returned (.bool x3)∧bc x3 (Kd K .ret [eS 6 A0 N0 C0] ds w2) (Cl 49 #[(.slice A0 N0 C0),(.slice A1 N1 C1)] w2 fun r5 w6=>∃ x7,r5=.returned (.bool x7)∧bc (!x7) (Cl 60 #[(.slice A0 N0 C0),(.slice A1 N1 C1)] w6 fun r8 w9=>∃ x10a,∃ x10l,∃ x10c,r8=.returned (.slice x10a x10l x10c)∧Kd K .ret [eS 6 x10a x10l x10c] ds w9) (Wd 57 p1 [eS 0 A0 N0 C0,eS 1 A1 N1 C1,eU 2 I2] ds w6 K))) (Wd 57 p1 [eS 0 A0 N0 C0,eS 1 A1 N1 C1,eU 2 I2] ds w K)
theorem t0:VZ 57 body (l0 A0 N0 C0 A1 N1 C1 I2) (v0 A0 N0 C0 A1 N1 C1 I2):=tz kt [6] fun B ds w K=>by kernel_rfl
theorem call:VCl 109 [.tmp 6] #[.slice A0 N0 C0,.slice A1 N1 C1,.int .u64 I2] (v0 A0 N0 C0 A1 N1 C1 I2):=cz Tryz.func109 (by kernel_rfl) Tryz.ntmps109 Tryz.results109 (by kernel_rfl) (t0 A0 N0 C0 A1 N1 C1 I2)
abbrev l1:List (Nat × Value):=[eS 0 A0 N0 C0,eS 1 A1 N1 C1,eU 2 I2]
def v1:VP:=fun B ds w K=>64≠(0:Int)∧inI64 ((N1:Int)-(IntKind.wrap .i64 (iQuo .u64 I2 64)))∧bc (decide (((N1:Int)-(IntKind.wrap .i64 (iQuo .u64 I2 64)))≤(0:Int))) (∃ h2:Nat,0=(h2:Int)∧h2≤C0∧Kd K .ret [eS 6 A0 h2 C0] ds w) (Cl 73 #[(.slice A0 N0 C0),(.int .i64 ((N1:Int)-(IntKind.wrap .i64 (iQuo .u64 I2 64))))] w fun r5 w6=>∃ x7a,∃ x7l,∃ x7c,r5=.returned (.slice x7a x7l x7c)∧64≠(0:Int)∧bc ((iRem I2 64)==0) (inI64 ((N1:Int)-((N1:Int)-(IntKind.wrap .i64 (iQuo .u64 I2 64))))∧∃ i8:Nat,((N1:Int)-((N1:Int)-(IntKind.wrap .i64 (iQuo .u64 I2 64))))=(i8:Int)∧i8≤N1∧∃ w11,∃ x12,Sem.run Tryz.prog (builtin .copy #[45,45] 3 #[false,false] #[(.slice x7a x7l x7c),(.slice (shifted A1 i8 C1 1) (N1-i8) (C1-i8))]) w6=.ok (.value (.int .i64 x12)) w11∧Wd 57 p2 [eS 0 x7a x7l x7c] ds w11 K) (inI64 ((N1:Int)-((N1:Int)-(IntKind.wrap .i64 (iQuo .u64 I2 64))))∧∃ i14:Nat,((N1:Int)-((N1:Int)-(IntKind.wrap .i64 (iQuo .u64 I2 64))))=(i14:Int)∧i14≤N1∧Cl 147 #[(.slice x7a x7l x7c),(.slice (shifted A1 i14 C1 1) (N1-i14) (C1-i14)),(.int .u64 (iRem I2 64))] w6 fun r17 w18=>∃ x19,r17=.returned (.int .u64 x19)∧Wd 57 p2 [eS 0 x7a x7l x7c] ds w18 K))
theorem t1:VT 57 p1 (l1 A0 N0 C0 A1 N1 C1 I2) (v1 A0 N0 C0 A1 N1 C1 I2):=tw kt [6] fun B ds w K=>by kernel_rfl
abbrev l2:List (Nat × Value):=[eS 0 A0 N0 C0]
def v2:VP:=fun B ds w K=>Cl 46 #[(.slice A0 N0 C0)] w fun r1 w2=>∃ x3a,∃ x3l,∃ x3c,r1=.returned (.slice x3a x3l x3c)∧Kd K .ret [eS 6 x3a x3l x3c] ds w2
theorem t2:VT 57 p2 (l2 A0 N0 C0) (v2 A0 N0 C0):=tw kt [6] fun B ds w K=>by kernel_rfl
end F109
namespace F144
noncomputable def body:Code:=bodyOf Tryz.f144
def kt:List (Nat × List Nat):=[]
variable (A0:Option Addr) (N0 C0:Nat) (A1:Option Addr) (N1 C1:Nat)
abbrev l0:List (Nat × Value):=[eS 0 A0 N0 C0,eS 1 A1 N1 C1]
def v0:VP:=fun B ds w K=>bc ((N0:Int)==(N1:Int)) (bc (decide ((N0:Int)>(0:Int))) (nc A0 fun b2 o3=>∃ k1:Nat,0=(k1:Int)∧k1<N0∧nc A1 fun b5 o6=>∃ k4:Nat,0=(k4:Int)∧k4<N1∧∃ q7,ptrEq w.drew (some ⟨b2,o3+k1,none⟩) (some ⟨b5,o6+k4,none⟩) q7∧Kd K .ret [eB 4 q7] ds w.drew) (Kd K .ret [eB 4 false] ds w.drew)) (Kd K .ret [eB 4 false] ds w.drew)
theorem t0:VZ 22 body (l0 A0 N0 C0 A1 N1 C1) (v0 A0 N0 A1 N1):=tz kt [4] fun B ds w K=>by kernel_rfl
theorem call:VCl 144 [.tmp 4] #[.slice A0 N0 C0,.slice A1 N1 C1] (v0 A0 N0 A1 N1):=cz Tryz.func144 (by kernel_rfl) Tryz.ntmps144 Tryz.results144 (by kernel_rfl) (t0 A0 N0 C0 A1 N1 C1)
end F144
namespace F49
noncomputable def body:Code:=bodyOf Tryz.f49
def kt:List (Nat × List Nat):=[]
variable (A0:Option Addr) (N0 C0:Nat) (A1:Option Addr) (N1 C1:Nat)
abbrev l0:List (Nat × Value):=[eS 0 A0 N0 C0,eS 1 A1 N1 C1]
def v0:VP:=fun B ds w K=>bc (decide ((C0:Int)>(0:Int))) (bc (decide ((C1:Int)>(0:Int))) (∃ i1 h2:Nat,0=(i1:Int)∧(C0:Int)=(h2:Int)∧i1≤h2∧h2≤C0∧inI64 ((C0:Int)-1)∧nc (shifted A0 i1 C0 1) fun b5 o6=>∃ k4:Nat,((C0:Int)-1)=(k4:Int)∧k4<(h2-i1)∧∃ i7 h8:Nat,0=(i7:Int)∧(C1:Int)=(h8:Int)∧i7≤h8∧h8≤C1∧inI64 ((C1:Int)-1)∧nc (shifted A1 i7 C1 1) fun b11 o12=>∃ k10:Nat,((C1:Int)-1)=(k10:Int)∧k10<(h8-i7)∧∃ q13,ptrEq w.drew (some ⟨b5,o6+k4,none⟩) (some ⟨b11,o12+k10,none⟩) q13∧Kd K .ret [eB 4 q13] ds w.drew) (Kd K .ret [eB 4 false] ds w.drew)) (Kd K .ret [eB 4 false] ds w.drew)
theorem t0:VZ 32 body (l0 A0 N0 C0 A1 N1 C1) (v0 A0 C0 A1 C1):=tz kt [4] fun B ds w K=>by kernel_rfl
theorem call:VCl 49 [.tmp 4] #[.slice A0 N0 C0,.slice A1 N1 C1] (v0 A0 C0 A1 C1):=cz Tryz.func49 (by kernel_rfl) Tryz.ntmps49 Tryz.results49 (by kernel_rfl) (t0 A0 N0 C0 A1 N1 C1)
end F49
namespace F53
noncomputable def body:Code:=bodyOf Tryz.f53
def kt:List (Nat × List Nat):=[]
variable (A0:Option Addr) (N0 C0:Nat)
abbrev l0:List (Nat × Value):=[eS 0 A0 N0 C0]
def v0:VP:=fun B ds w K=>inI64 ((N0:Int)-1)∧bc (decide (((N0:Int)-1)≥(0:Int))) (nc A0 fun b2 o3=>∃ k1:Nat,((N0:Int)-1)=(k1:Int)∧k1<N0∧∃ x4,w.cell? ⟨b2,o3+k1,none⟩=some (.int .u64 x4)∧(0:Int)≤1∧(0:Int)≤2∧(0:Int)≤4∧(0:Int)≤8∧(0:Int)≤16∧(0:Int)≤16∧(0:Int)≤16∧inI64 (((N0:Int)-1)*64)∧Cl 84 #[(.int .u64 (iOr .u64 (iOr .u64 (iOr .u64 (iOr .u64 (iOr .u64 (iOr .u64 x4 (iShr .u64 x4 1)) (iShr .u64 (iOr .u64 x4 (iShr .u64 x4 1)) 2)) (iShr .u64 (iOr .u64 (iOr .u64 x4 (iShr .u64 x4 1)) (iShr .u64 (iOr .u64 x4 (iShr .u64 x4 1)) 2)) 4)) (iShr .u64 (iOr .u64 (iOr .u64 (iOr .u64 x4 (iShr .u64 x4 1)) (iShr .u64 (iOr .u64 x4 (iShr .u64 x4 1)) 2)) (iShr .u64 (iOr .u64 (iOr .u64 x4 (iShr .u64 x4 1)) (iShr .u64 (iOr .u64 x4 (iShr .u64 x4 1)) 2)) 4)) 8)) (iShr .u64 (iOr .u64 (iOr .u64 (iOr .u64 (iOr .u64 x4 (iShr .u64 x4 1)) (iShr .u64 (iOr .u64 x4 (iShr .u64 x4 1)) 2)) (iShr .u64 (iOr .u64 (iOr .u64 x4 (iShr .u64 x4 1)) (iShr .u64 (iOr .u64 x4 (iShr .u64 x4 1)) 2)) 4)) (iShr .u64 (iOr .u64 (iOr .u64 (iOr .u64 x4 (iShr .u64 x4 1)) (iShr .u64 (iOr .u64 x4 (iShr .u64 x4 1)) 2)) (iShr .u64 (iOr .u64 (iOr .u64 x4 (iShr .u64 x4 1)) (iShr .u64 (iOr .u64 x4 (iShr .u64 x4 1)) 2)) 4)) 8)) 16)) (iShr .u64 (iShr .u64 (iOr .u64 (iOr .u64 (iOr .u64 (iOr .u64 (iOr .u64 x4 (iShr .u64 x4 1)) (iShr .u64 (iOr .u64 x4 (iShr .u64 x4 1)) 2)) (iShr .u64 (iOr .u64 (iOr .u64 x4 (iShr .u64 x4 1)) (iShr .u64 (iOr .u64 x4 (iShr .u64 x4 1)) 2)) 4)) (iShr .u64 (iOr .u64 (iOr .u64 (iOr .u64 x4 (iShr .u64 x4 1)) (iShr .u64 (iOr .u64 x4 (iShr .u64 x4 1)) 2)) (iShr .u64 (iOr .u64 (iOr .u64 x4 (iShr .u64 x4 1)) (iShr .u64 (iOr .u64 x4 (iShr .u64 x4 1)) 2)) 4)) 8)) (iShr .u64 (iOr .u64 (iOr .u64 (iOr .u64 (iOr .u64 x4 (iShr .u64 x4 1)) (iShr .u64 (iOr .u64 x4 (iShr .u64 x4 1)) 2)) (iShr .u64 (iOr .u64 (iOr .u64 x4 (iShr .u64 x4 1)) (iShr .u64 (iOr .u64 x4 (iShr .u64 x4 1)) 2)) 4)) (iShr .u64 (iOr .u64 (iOr .u64 (iOr .u64 x4 (iShr .u64 x4 1)) (iShr .u64 (iOr .u64 x4 (iShr .u64 x4 1)) 2)) (iShr .u64 (iOr .u64 (iOr .u64 x4 (iShr .u64 x4 1)) (iShr .u64 (iOr .u64 x4 (iShr .u64 x4 1)) 2)) 4)) 8)) 16)) 16) 16)))] w fun r5 w6=>∃ x7,r5=.returned (.int .i64 x7)∧inI64 ((((N0:Int)-1)*64)+x7)∧Kd K .ret [eI 2 ((((N0:Int)-1)*64)+x7)] ds w6) (Kd K .ret [eI 2 0] ds w)
theorem t0:VZ 44 body (l0 A0 N0 C0) (v0 A0 N0):=tz kt [2] fun B ds w K=>by kernel_rfl
theorem call:VCl 53 [.tmp 2] #[.slice A0 N0 C0] (v0 A0 N0):=cz Tryz.func53 (by kernel_rfl) Tryz.ntmps53 Tryz.results53 (by kernel_rfl) (t0 A0 N0 C0)
end F53
end Go.Proofs.YtlkjiiibmfpbcaaGreatDoor
