/- itoa: the figures to a base that is a power of two. Conditions: the number is not nought and fits the buffer. -/
import Derived.Lib.SlBytesConst
import Derived.Test.YtlkjiiibmfpbcaaGreatDoorS40
import Derived.Test.YtlkjiiibmfpbcaaGreatDoorS06
import Derived.Test.YtlkjiiibmfpbcaaGreatDoorS34
import Derived.Test.YtlkjiiibmfpbcaaGreatDoorS24
namespace Go.Proofs.YtlkjiiibmfpbcaaGreatDoor
open Go
def figV (b X n:Nat):Nat→Value:=fun j=>.int .u8 (fgs b X (n-1-j):Int)
section
variable {w:World} {s x:Sl} {X t:Nat} {L:List Item}
theorem two41 {g:Nat→Value} (hb:Bank w (seg s g :: nmz x X :: L)) (hX0:X≠0) (hx:x.l≤260) (hsl:s.l≤1000000) (ht1:1≤t) (ht:t≤5) (hX:X<(2^t)^s.l) {e:Env} {R:Value→World→Prop}
  (ha:agree e (F41.l6 x.a x.l x.c false s.l s.a s.l s.c t (2^t-1:Nat) (dg X 0:Nat) 64 1)) (hdf:e.defers=[])
  (q:∀ (r:Sl) n w',IsN (2^t) X n→r.l=n→Bank w' (seg r (figV (2^t) X n) :: nmz x X :: L)→Chg w w' (wds s)→R r.v w') :
  W Tryz.prog 176 F41.p7 e w (thenW Tryz.prog 176 F41.p4 (thenW Tryz.prog 176 F41.p5 (retK Tryz.prog [.tmp 6] R))):=by
 have hN:Nz w x X:=hb.tail.head
 have hxl0:x.l≠0:=fun h0=>by
  have:=hN.lt
  rw [h0,Nat.pow_zero] at this; omega
 have htop:BB^(x.l-1)≤X:=by
  rcases Nat.lt_or_ge X (BB^(x.l-1)) with h | h
  ·have:=hN.nm _ h; omega
  ·exact h
 have b0:Bank w (nmz x X :: seg s g :: L):=hb.pick 2 [1,0] rfl
 have b1:Bank w (nmz x X :: [seg s g]):=b0.sub (.cons_cons _ (.cons_cons _ (List.nil_sublist _)))
 have b2:Bank w (nl x X :: [seg s g]):=b1.map1 hN.toNt fun b i hm=>⟨hm.1,hm.2.1,by have:=hm.2.2; have:=hN.lc; omega⟩
 refine words7 (L:=[]) (b2.pick 2 [1,0] rfl) hxl0 htop (by omega) hsl ht1 ht hX ha fun e1 w1 i1 g1 bb1 hd1 hi1 htop1 h64 c1 ha1 hdf1=>?_
 show W Tryz.prog 176 F41.p4 e1 w1 _
 refine last4 bb1 hd1 hi1 hsl ht1 ht hX h64 htop1 ha1 fun e2 w2 i2 g2 bb2 hd2 hi2 hz htop2 c2 ha2 hdf2=>?_
 show W Tryz.prog 176 F41.p5 e2 w2 _
 have c12:=c1.trans' c2
 have b3:Bank w2 (seg s g2 :: nmz x X :: L):=hb.upd c12 (fun _ _ _ h=>h) bb2.head fun _ _ _ h=>h
 have hn:IsN (2^t) X (s.l-i2):=by
  refine ⟨?_,?_,fun hne=>?_⟩
  ·rw [pow_eq]
   exact (Nat.div_eq_zero_iff_lt (Nat.two_pow_pos _)).1 hz
  ·rcases Nat.lt_or_ge i2 s.l with h | h
   ·omega
   ·exfalso
    rw [show s.l-i2=0 by omega,Nat.mul_zero,Nat.pow_zero,Nat.div_one] at hz
    exact hX0 hz
  ·rw [pow_eq]
   rcases Nat.lt_or_ge X (2^(t*(s.l-i2-1))) with h | h
   ·rcases Nat.lt_or_ge i2 s.l with h1 | h1
    ·exact absurd (Nat.div_eq_of_lt h) (htop2 (by omega))
    ·exfalso
     rw [show s.l-i2=0 by omega,Nat.mul_zero,Nat.pow_zero,Nat.div_one] at hz
     exact hX0 hz
   ·exact h
 refine fin5 b3 hi2 hd2 ha2 fun e3 r hr b4 hv hdf3=>ret1 ?_ hv (q r _ w2 hn hr b4 c12)
 rw [hdf3,hdf2,hdf1]; exact hdf
end
end Go.Proofs.YtlkjiiibmfpbcaaGreatDoor
namespace Go.Proofs.YtlkjiiibmfpbcaaGreatDoor
open Go
theorem low_and {x t q:Nat} (hx:x<18446744073709551616) (h:x=2^t*(2*q+1)):iAnd .u64 (x:Int) (IntKind.wrap .u64 (0-x))=((2^t:Nat):Int):=by
 have hx0:x≠0:=by have:=Nat.two_pow_pos t; have:2^t*1≤2^t*(2*q+1):=Nat.mul_le_mul_left _ (by omega); omega
 rw [wrapE,show (0-(x:Int))%18446744073709551616=((18446744073709551616-x:Nat):Int) by omega,iAndN _ _ hx (by omega)]
 have:=and_low t q (by rw [←h]; exact hx)
 rw [←h] at this
 rw [show 18446744073709551616-x=2^64-x from rfl,this]
theorem ret1f {w:World} {K:SK} {a:Option Addr} {t:Nat} {e:Env} {R:Value→World→Prop} {v:Value} (hd:e.defers=[⟨.fn (.func 57) #[],#[.pointer a]⟩]) (hka:K.a=a) (hv:e.get t=v) (hk:StkAt w K) (h:∀ w',Chg w w' K.free→R v w') :
  retK Tryz.prog [.tmp t] R .ret e w:=by
 show runD Tryz.prog e.defers w _
 rw [hd,←hka]
 refine ⟨rfl,Tryz.call57,d57 w K hk _ fun w' c=>?_⟩
 simp only [runD,resOne,hv]
 exact h w' c
section
variable {w:World} {x:Sl} {X b N:Nat} {L:List Item}
theorem tail41 {w0:World} {s:Sl} {K:SK} {a:Option Addr} (hb:Bank w (stk K :: seg s (fig b s.l X) :: nmz x X :: L)) (hsl:s.l≤1000000) (hb2:2≤b) (hb62:b≤62) (hX0:X≠0) (hX:X<b^s.l) (hka:K.a=a)
  (hc:Chg w0 w none2) (hfree:∀ c i,c<w0.heap.size→¬K.free c i) {e:Env} {R:Value→World→Prop}
  (ha:agree e (F41.l8 false 0 s.a s.l s.c)) (hdf:e.defers=[⟨.fn (.func 57) #[],#[.pointer a]⟩])
  (q:∀ (r:Sl) n w',IsN b X n→r.l=n→Bank w' (seg r (figV b X n) :: nmz x X :: L)→Chg w0 w' none2→R r.v w') :
  W Tryz.prog 176 F41.p9 e w (thenW Tryz.prog 176 F41.p5 (retK Tryz.prog [.tmp 6] R)):=by
 refine strip9 hb.tail hsl hb2 hb62 hX0 hX ha fun e1 i hn hi ha1 hdf1=>?_
 show W Tryz.prog 176 F41.p5 e1 w _
 refine fin5 (b:=b) (X:=X) (L:=stk K :: nmz x X :: L) (hb.pick 2 [1,0] rfl) hi (fun j _ _=>rfl) ha1 fun e2 r hr b2 hv hdf2=>?_
 refine ret1f (K:=K) (by rw [hdf2,hdf1]; exact hdf) hka hv b2.tail.head fun w' c=>?_
 have b3:Bank w (stk K :: seg r (figV b X (s.l-i)) :: nmz x X :: L):=b2.pick 2 [1,0] rfl
 refine q r _ w' hn hr (b3.tail.keep c fun y hy b' i' h1 h2=>b3.hdj hy b' i' h2 h1) (hc.trans c (fun _ _ _ h=>h) fun b' i' hb' hm=>(hfree b' i' hb' hm).elim)
theorem p2_41 (hb:Bank w (nmz x X :: L)) (hX0:X≠0) (hx:x.l≤260) (hb2:2≤b) (hb62:b≤62) (hN:N≤65537) (hX:X<b^N) (hg:Glc w) {e:Env} {R:Value→World→Prop} (ha:agree e (F41.l2 x.a x.l x.c false b N)) (hdf:e.defers=[])
  (q:∀ (r:Sl) n w',IsN b X n→r.l=n→Bank w' (seg r (figV b X n) :: nmz x X :: L)→Chg w w' none2→R r.v w'):W Tryz.prog 176 F41.p2 e w (retK Tryz.prog [.tmp 6] R):=by
 refine F41.t2 x.a x.l x.c false b N ha fun B1=>⟨N,N,rfl,rfl,Nat.le_refl _,by omega,by omega,?_⟩
 rw [hdf]
 have hxN:Nz w x X:=hb.head
 have hxl0:x.l≠0:=fun h0=>by
  have:=hxN.lt
  rw [h0,Nat.pow_zero] at this; omega
 obtain ⟨t,u,hbt⟩:=odd_split b (by omega)
 have e0:IntKind.wrap .u64 (b:Int)=(b:Int):=wrapN b (by omega)
 have e1:=low_and (x:=b) (by omega) hbt
 rw [e0,e1]
 obtain ⟨wA,hwA⟩:∃ wA,wA=w.alloc (.cells (madeCells #[(Value.int IntKind.u8 0)] N) 5):=⟨_,rfl⟩
 obtain ⟨s,hs⟩:∃ s:Sl,s=⟨some ⟨w.heap.size,0,none⟩,N,N,w.heap.size,0⟩:=⟨_,rfl⟩
 obtain ⟨bA,cA⟩:=madeSeg hb hg.gb N (by omega)
 rw [←hwA,←hs] at bA
 rw [←hwA] at cA ⊢
 have hsl:s.l=N:=by rw [hs]
 have hsa:s.a=some ⟨w.heap.size,0,none⟩:=by rw [hs]
 have hsc:s.c=N:=by rw [hs]
 have hsb:s.b=w.heap.size:=by rw [hs]
 have hsv:s.v=.slice (some ⟨w.heap.size,0,none⟩) N N:=by rw [hs]
 have gA:=cA.glc hg
 have xA:Nz wA x X:=bA.tail.head
 refine bc_intro (fun h=>?_) (fun h=>?_)
 ·have hb2t:b=2^t:=by have:=eqE h; omega
  have ht5:t≤5:=by
   rcases Nat.lt_or_ge t 6 with h1 | h1
   ·omega
   ·have:=Nat.pow_le_pow_right (show 0<2 by omega) h1
    have:(2:Nat)^6=64:=by decide
    omega
  have ht1:1≤t:=by
   rcases Nat.eq_zero_or_pos t with h1 | h1
   ·rw [h1,Nat.pow_zero] at hb2t; omega
   ·exact h1
  refine (c55 b wA (by omega) gA.tabs t u hbt).mono ?_
  rintro e4 w4 ⟨rfl,rfl⟩
  have et:IntKind.wrap .u64 (t:Int)=(t:Int):=wrapN t (by omega)
  refine ⟨_,rfl,?_⟩
  rw [et]
  refine ⟨by omega,x.b,x.o,xA.toSt.wt.at_ (by omega),0,rfl,by omega,_,by have:=xA.sg 0 (by omega); exact this,fun B2=>?_⟩
  have em:IntKind.wrap .u64 (iShl .u64 1 (t:Int)-1)=((2^t-1:Nat):Int):=by
   have h1:=iShlN 1 t
   have h2:2^t≤2^5:=Nat.pow_le_pow_right (by omega) ht5
   have h3:=Nat.two_pow_pos t
   have h4:(2:Nat)^5=32:=by decide
   rw [show min t 64=t by omega,Nat.one_mul,Nat.mod_eq_of_lt (by omega)] at h1
   rw [show iShl .u64 1 (t:Int)=((2^t:Nat):Int) from h1,show (((2^t:Nat):Int)-1)=((2^t-1:Nat):Int) by omega]
   exact wrapN _ (by omega)
  rw [em]
  subst hb2t
  refine two41 (s:=s) bA hX0 hx (by omega) ht1 ht5 (by rw [hsl]; exact hX) ?_ rfl fun r n w' hn hr b3 c3=>q r n w' hn hr b3 (cA.trans c3 (fun _ _ _ h=>h) fun b' i' hb' hm=>by
   have:=hm.1
   omega)
  rw [hsl,hsa,hsc]
  exact ⟨rfl,rfl,rfl,rfl,rfl,rfl,rfl,rfl,rfl,trivial⟩
 ·refine (c56 wA gA.gb).mono ?_
  rintro e2 w2 ⟨_,rfl,K,rfl,hk,hl0,hq0,hnew,c2⟩
  have hsc0:K.s.c=0:=(hk.nil hq0).2
  have hfree:∀ c i,c<wA.heap.size→¬K.free c i:=by
   intro c i hc hf
   rcases hf with e | e | ⟨e,h1,h2⟩
   ·omega
   ·rw [hq0] at e; cases e
   ·omega
  have hKa:K.a≠none:=by unfold SK.a; exact Option.some_ne_none _
  have b2:Bank w2 (stk K :: seg s (fun _=>.int .u8 0) :: nmz x X :: L):=bA.new c2 hk fun c i hm=>by
   rcases Nat.lt_or_ge c wA.heap.size with h1 | h1
   ·exact (hfree c i h1 hm).elim
   ·exact h1
  have g2:=c2.glc gA
  have cA2:=cA.trans' c2
  have hs0:w.heap.size≤w2.heap.size:=cA2.size
  have hfree0:∀ c i,c<w.heap.size→¬K.free c i:=fun c i hc=>hfree c i (Nat.lt_of_lt_of_le hc cA.size)
  refine ⟨_,rfl,(c58 b hb2 hb62 w2).mono ?_⟩
  rintro e3 w3 ⟨nd,rfl,hnd1,hnd2,hbb1,hbb2,rfl⟩
  refine ⟨_,trivial,_,trivial,rfl,?_⟩
  obtain ⟨bb,hbb⟩:∃ bb,bb=b^nd:=⟨_,rfl⟩
  rw [←hbb] at hbb1 hbb2 ⊢
  rcases Nat.lt_or_ge x.l 9 with h9 | h9
  ·
   refine (c59n w3 K.a x.l b nd bb (by omega) g2).mono ?_
   rintro e4 w4 ⟨rfl,rfl⟩
   refine ⟨_,_,_,rfl,ResE.pass (c60 (nilS w4) x X w4 (nilSt w4 g2.gb) (b2.tail.tail.head) (by unfold Len; omega)) fun qs w5 hq fq c5=>⟨_,_,_,rfl,?_⟩⟩
   have c5n:Chg w4 w5 none2:=c5.mono fun c i hc hm=>by
    have h1:0≤i:=hm.2.1
    have h2:i<0+0:=hm.2.2
    omega
   have b5:Bank w5 (nmz qs X :: stk K :: seg s (fun _=>.int .u8 0) :: nmz x X :: L):=b2.fresh c5n hq rfl fq.nil
   have hqc:Chg w w5 none2:=cA2.trans' c5n
   have hql:=hq.nm _ xA.lt
   have hcall:=c61n (K:=K) (s:=s) (b5.pick 3 [2,0,1] rfl) K.a (by rw [hsl]; exact hX) (by omega) (by unfold Len; omega) hb2 hb62 hbb hbb1 ⟨hnd1,hnd2⟩ (P:=fun r_24 w_25=>r_24=.returned undef∧(∀ B_26,W Tryz.prog 176 F41.p9 (E [(1,(.bool false)),(7,(.int .i64 0)),(8,(.slice (some ⟨(World.heap w).size,0,none⟩) N N))] B_26 (⟨.fn (.func 57) #[],#[(.pointer K.a)]⟩ :: [])) w_25 (thenW Tryz.prog 176 F41.p5 (retK Tryz.prog [.tmp 6] R)))) fun w6 b6 c6=>⟨rfl,fun B6=>?_⟩
   ·rw [hsv] at hcall
    exact hcall
   ·have c06:Chg w w6 none2:=hqc.trans c6 (fun _ _ _ h=>h) fun c i hc hm=>by
     rcases hm with hm | hm
     ·have:=hm.1
      omega
     ·have:=hm.1
      have h1:=fq.nil (by have:=hm.2.1; have:=hm.2.2; omega)
      omega
    refine tail41 (w0:=w) (K:=K) (s:=s) (x:=x) (L:=L) (a:=K.a) (by rw [hsl]; rw [hsl] at b6; exact b6.pick 2 [1,0] rfl) (by omega) hb2 hb62 hX0 (by rw [hsl]; exact hX) rfl c06 hfree0 ?_ rfl q
    rw [hsa,hsl,hsc]
    exact ⟨rfl,rfl,rfl,trivial⟩
  ·
   refine c59 b2 h9 hx hbb hb2 hb62 hbb1 hbb2 ⟨hnd1,hnd2⟩ hKa (by omega) g2 fun tb k K4 r d f w4 hk1 hk6 ld htb=>⟨_,_,_,rfl,?_⟩
   have b4:=ld.bank
   have hx4:Nz w4 x X:=b4.all (nmz x X) (by simp)
   have g4:=ld.ch.glc g2
   refine ResE.pass (c60 (nilS w4) x X w4 (nilSt w4 g4.gb) hx4 (by unfold Len; omega)) fun qs w5 hq fq c5=>⟨_,_,_,rfl,?_⟩
   have c5n:Chg w4 w5 none2:=c5.mono fun c i hc hm=>by
    have h1:0≤i:=hm.2.1
    have h2:i<0+0:=hm.2.2
    omega
   have b5:Bank w5 (nmz qs X :: stk K4 :: row tb (k*3) f :: (ents b r d k++(seg s (fun _=>.int .u8 0) :: nmz x X :: L))):=b4.fresh c5n hq rfl fq.nil
   have b5':Bank w5 (stk K4 :: seg s (fun _=>.int .u8 0) :: nmz qs X :: row tb (k*3) f :: (ents b r d k++(nmz x X :: L))):=by
    refine b5.perm ?_
    refine (List.Perm.swap _ _ _).trans (List.Perm.cons _ ?_)
    refine List.Perm.trans (List.Perm.cons _ (List.Perm.cons _ List.perm_middle)) ?_
    refine List.Perm.trans (List.Perm.cons _ (List.Perm.swap _ _ _)) (List.Perm.swap _ _ _)
   have hql:=hq.nm _ xA.lt
   have g5:=c5n.glc g4
   have hcall:=d61 k w5 K4 qs s _ X k (some ⟨tb,0,none⟩) tb b nd bb k r d f (nmz x X :: L) b5' rfl (Nat.le_refl _) (Nat.le_refl _) ld.tf ld.ok hk6 (by rw [hsl]; exact hX) (by omega) (by omega) (by omega) hb2 hb62 hbb hbb1 ⟨hnd1,hnd2⟩ (by have:=ld.kl; omega) g5
    (fun r_24 w_25=>r_24=.returned undef∧(∀ B_26,W Tryz.prog 176 F41.p9 (E [(1,(.bool false)),(7,(.int .i64 0)),(8,(.slice (some ⟨(World.heap w).size,0,none⟩) N N))] B_26 (⟨.fn (.func 57) #[],#[(.pointer K.a)]⟩ :: [])) w_25 (thenW Tryz.prog 176 F41.p5 (retK Tryz.prog [.tmp 6] R)))) fun K6 w6 b6 ka6 kl6 nx6 c6=>⟨rfl,fun B6=>?_⟩
   ·rw [ld.ka,hsv] at hcall
    exact hcall
   ·have hf4:∀ c i,c<w.heap.size→¬K4.free c i:=fun c i hc hm=>hfree0 c i hc (ld.nx.free (Nat.lt_of_lt_of_le hc hs0) hm)
    have c04:Chg w w4 none2:=cA2.trans ld.ch (fun _ _ _ h=>h) fun c i hc hm=>(hfree0 c i hc hm).elim
    have c05:=c04.trans' c5n
    have hf6:∀ c i,c<w.heap.size→¬K6.free c i:=fun c i hc hm=>hf4 c i hc (nx6.free (Nat.lt_of_lt_of_le hc c05.size) hm)
    have c06:Chg w w6 none2:=c05.trans c6 (fun _ _ _ h=>h) fun c i hc hm=>by
     rcases hm with (hm | hm) | hm
     ·have:=hm.1
      omega
     ·have:=hm.1
      have h1:=fq.nil (by have:=hm.2.1; have:=hm.2.2; omega)
      have:=c04.size
      omega
     ·exact (hf4 c i hc hm).elim
    have b7:Bank w6 (stk K6 :: seg s (fig b s.l X) :: nmz x X :: L):=b6.sub (.cons_cons _ (.cons_cons _ (.cons _ (.cons _ (List.sublist_append_right _ _)))))
    refine tail41 (w0:=w) (K:=K6) (s:=s) (x:=x) (L:=L) (a:=K.a) b7 (by omega) hb2 hb62 hX0 (by rw [hsl]; exact hX) (ka6.trans ld.ka) c06 hf6 ?_ rfl q
    rw [hsa,hsl,hsc]
    exact ⟨rfl,rfl,rfl,trivial⟩
end
end Go.Proofs.YtlkjiiibmfpbcaaGreatDoor
namespace Go.Proofs.YtlkjiiibmfpbcaaGreatDoor
open Go
theorem quoRun (w:World) {x y r:Nat} {o1 o2:Operand} (h:floatBits .quo .f64 x y=some r):Sem.run Tryz.prog (do eqGuard .quo 80 o1 o2 (.float .f64 x) (.float .f64 y); Go.binOp .quo 80 (.float .f64 x) (.float .f64 y)) w=.ok (.float .f64 r) w:=by
 have h1:=run_float_arith (P:=Tryz.prog) w .quo 80 .f64 x y r h
 simpa [eqGuard] using h1
structure Qt (w w':World):Prop where
 size:w.heap.size≤w'.heap.size
 heap:∀ b,b<w.heap.size→w'.heap[b]?=w.heap[b]?
 os:w'.os=w.os
 output:w'.output=w.output
theorem Chg.qt {w w':World} (h:Chg w w' none2):Qt w w':=⟨h.size,fun _ hb=>h.heap hb fun _ h=>h,h.os,h.output⟩
theorem Qt.trans {w w1 w2:World} (h:Qt w w1) (k:Qt w1 w2):Qt w w2:=⟨Nat.le_trans h.size k.size,fun b hb=>(k.heap b (Nat.lt_of_lt_of_le hb h.size)).trans (h.heap b hb),k.os.trans h.os,k.output.trans h.output⟩
theorem Qt.cell {w w':World} (h:Qt w w') {b i:Nat} {v:Value} (hv:w.cell? ⟨b,i,none⟩=some v):w'.cell? ⟨b,i,none⟩=some v:=by
 rw [cell_eq,h.heap b (lt_of_cell hv),←cell_eq]; exact hv
theorem Qt.glb {w w':World} (h:Qt w w') (g:Glb w):Glb w':=⟨fun k hk=>h.cell (g.tabs k hk),h.cell g.t3,h.cell g.t4,h.cell g.t5,h.cell g.t10⟩
theorem Qt.rd {w w':World} (h:Qt w w') {s:Sl} {V:Nat} (hs:Rd w s V):Rd w' s V:=⟨hs.at_,fun i hi=>h.cell (hs.sg i hi),hs.lt⟩
section
variable {w:World} {x:Sl} {X b:Nat} {L:List Item}
theorem c41 (hb:Bank w (nmz x X :: L)) (hx:x.l≤260) (hb2:2≤b) (hb62:b≤62) (hg:Glc w) {Q:Ending→World→Prop}
  (q:∀ (r:Sl) n w',IsN b X n→r.l=n→r.a=some ⟨r.b,r.o,none⟩→Cs w' r.b r.o n (figV b X n)→Qt w w'→Q (.returned r.v) w'):Calls Tryz.prog 41 #[x.v,.bool false,.int .i64 (b:Int)] w Q:=by
 have hxN:Nz w x X:=hb.head
 refine (F41.call x.a x.l x.c false b w (fun v w'=>Q (.returned v) w') fun B=>bc_false (decF (by omega)) (bc_false (decF (by omega)) fun B1=>F41.t1 x.a x.l x.c false b ⟨rfl,rfl,rfl,trivial⟩ fun B2=>bc_intro (fun h0=>?_) (fun h0=>?_))).mono fun e w' ⟨v,h1,h2⟩=>by rw [h1]; exact h2
 ·have hl0:x.l=0:=by have:=eqE h0; omega
  have hX:X=0:=by
   have:=hxN.lt
   rw [hl0,Nat.pow_zero] at this; omega
  subst hX
  obtain ⟨w2,hw2⟩:∃ w2,w2=w.alloc (.cells #[(.int .u8 48:Value)] 5 (1,2)):=⟨_,rfl⟩
  have hh:w2.heap[w.heap.size]?=some (.cells #[.int .u8 48] 5 (1,2)):=by rw [hw2]; exact heap_alloc_new ..
  have hq:Qt w w2:=by
   rw [hw2]
   refine ⟨by simp,fun k hk=>?_,rfl,rfl⟩
   simp only [World.alloc,Array.getElem?_push,Nat.ne_of_lt hk,if_false]
  have hcv:=Lib.run_convert_bytes_const (P:=Tryz.prog) w 55 5 #[(.int .u8 48:Value)] 1 1 Tryz.underlying55 Tryz.underlying5
  rw [show w.alloc (.cells #[(.int .u8 48:Value)] 5 ((#[(.int .u8 48:Value)]:Array Value).size,(#[(.int .u8 48:Value)]:Array Value).size+1))=w2 from hw2.symm] at hcv
  refine ⟨_,_,_,_,build1 cell55 w _ rfl,w2,_,_,_,hcv,fun B3=>ret1 (v:=Sl.v ⟨some ⟨w.heap.size,0,none⟩,1,1,w.heap.size,0⟩) rfl rfl (q _ 1 _ ⟨Nat.pow_pos (by omega),Nat.le_refl _,fun h=>absurd rfl h⟩ rfl rfl (fun i hi=>?_) hq)⟩
  obtain rfl:i=0:=by omega
  have:fgs b 0 (1-1-0)=48:=by unfold fgs; rw [Nat.zero_div,Nat.zero_mod]; rfl
  show _=some (Value.int .u8 (fgs b 0 (1-1-0):Int))
  rw [this,cell_eq]
  show (match w2.heap[w.heap.size]? with
   | some (.cells c _ _)=>c[0+0]?
   | _=>none)=_
  rw [hh]; rfl
 ·have hl0:x.l≠0:=fun e=>eqN h0 (by rw [e]; rfl)
  have hX0:X≠0:=fun e=>by
   subst e
   have:=hxN.nm 0 (by rw [Nat.pow_zero]; omega)
   omega
  have hbl0:∀ M,64*x.l≤M→blen X≤M:=fun M hM=>blen_le_of_lt (Nat.lt_of_lt_of_le hxN.lt (by rw [BB2]; exact Nat.pow_le_pow_right (by omega) hM))
  have hbl:=hbl0 16640 (by omega)
  have hbl1:1≤blen X:=by have:=blen_ne X hX0; omega
  obtain ⟨c,n,J,hT,hr,hn1,hn2,hJ1,hJ2,hpq⟩:=logAt b hb2 hb62
  obtain ⟨r,z,hq1,hq2,hz1,hz2⟩:=quo_cut hbl1 (by omega) hr hn1 hn2 hJ1 hJ2
  refine (c53 x X w hxN (by unfold Len; omega)).mono ?_
  rintro e1 w1 ⟨_,rfl,rfl,rfl⟩
  have i1:=run_convert_int_float (P:=Tryz.prog) w1 3 80 .i64 .f64 (blen X:Int) (by rw [Tryz.underlying3]; rfl) Tryz.underlying80
  have i2:=run_convert_int_float (P:=Tryz.prog) w1 3 80 .i64 .f64 (b:Int) (by rw [Tryz.underlying3]; rfl) Tryz.underlying80
  rw [nearest_f hbl1 (by omega)] at i1
  rw [nearest_f (by omega) (by omega)] at i2
  refine ⟨_,rfl,w1,_,i1,w1,_,i2,(hT w1).mono ?_⟩
  rintro e2 w2 ⟨rfl,rfl⟩
  refine ⟨_,rfl,w2,_,quoRun w2 hq1,w2,_,run_convert_float_int (P:=Tryz.prog) w2 80 3 .f64 .i64 r z (by rw [Tryz.underlying80]; rfl) Tryz.underlying3 hq2,by unfold inI64; omega,bc_false rfl fun B3=>?_⟩
  exact p2_41 (N:=z+1) hb hX0 hx hb2 hb62 (by omega) (room hb2 hbl hn1 hpq hz2) hg ⟨rfl,rfl,rfl,intv (by omega),trivial⟩ rfl fun r n w' hn hr b2 c2=>by
   have hS:SegAt w' r (figV b X n):=b2.head
   have hn1:=hn.2.1
   exact q r n w' hn hr (hS.toSt.wt.at_ (by omega)) (fun i hi=>hS.cs i (by omega)) c2.qt
end
theorem c26 (x:Sl) (X b:Nat) (w:World) (hg:Glc w) (hx:Nz w x X) (hl:x.l≤260) (hb2:2≤b) (hb62:b≤62) :
  Calls Tryz.prog 26 #[x.v,.int .i64 (b:Int)] w fun e w'=>∃ n,IsN b X n∧e=.returned (.string (strOfNums (figs b n X)))∧Qt w w':=by
 refine (F26.call x.a x.l x.c (b:Int) w (fun v w'=>∃ n,IsN b X n∧v=.string (strOfNums (figs b n X))∧Qt w w') fun B0=>?_).mono fun e w' ⟨v,h1,n,h2,h3,h4⟩=>⟨n,h2,by rw [h1,h3],h4⟩
 refine (c40 x X w hg.gb hx.toNt.rd (by omega)).mono ?_
 rintro e1 w1 ⟨r1,rfl,n1,l1,g1,c1⟩
 have b1:Bank w1 (nmz r1 X :: []):=Bank.one { n1 with nm:=hx.nm.of_len l1 }
 refine ⟨_,_,_,rfl,c41 b1 (by omega) hb2 hb62 (c1.glc hg) fun r n w2 hn hr hat hcs c2=>⟨_,_,_,rfl,?_⟩⟩
 have hcv:=run_convert_bytes_arg (P:=Tryz.prog) w2 55 5 Tryz.underlying55 Tryz.underlying5 r.b r.o r.l r.c (figs b n X) (by simp [figs,hr]) (fun j hj=>by
  rw [hcs j (by omega)]
  have e:(figs b n X).getD j 0=(fgs b X (n-1-j):Int):=by simp [figs,List.getD,show j<n by omega]
  rw [e]; rfl) 9 Tryz.underlying9
 rw [←hat] at hcv
 exact ⟨w2,_,hcv,fun B1=>ret1 rfl rfl ⟨n,hn,rfl,c1.qt.trans c2⟩⟩
theorem c12 (x:Sl) (X b:Nat) (w:World) (hg:Glc w) (hx:Rd w x X) (hl:x.l≤260) (hb2:2≤b) (hb62:b≤62) :
  Calls Tryz.prog 12 #[x.v,.int .i64 (b:Int)] w fun e w'=>∃ n,IsN b X n∧e=.returned (.string (strOfNums (figs b n X)))∧Qt w w':=by
 refine (F12.call x.a x.l x.c (b:Int) w (fun v w'=>∃ n,IsN b X n∧v=.string (strOfNums (figs b n X))∧Qt w w') fun B0=>bc_false (decF (by omega)) (bc_false (decF (by omega)) ?_)).mono fun e w' ⟨v,h1,n,h2,h3,h4⟩=>⟨n,h2,by rw [h1,h3],h4⟩
 refine (c27 x X w hg.gb hx (by omega)).mono ?_
 rintro e1 w1 ⟨r1,rfl,n1,l1,g1,c1⟩
 refine ⟨_,_,_,rfl,(c26 r1 X b w1 (c1.glc hg) n1 (by omega) hb2 hb62).mono ?_⟩
 rintro e2 w2 ⟨n,hn,rfl,c2⟩
 exact ⟨_,rfl,fun B1=>ret1 rfl rfl ⟨n,hn,rfl,c1.qt.trans c2⟩⟩
end Go.Proofs.YtlkjiiibmfpbcaaGreatDoor
namespace Go.Proofs.YtlkjiiibmfpbcaaGreatDoor
open Go
theorem pm_mod (u v k M:Nat):((u%M)*(v%M)^k)%M=(u*v^k)%M:=by rw [Nat.mul_mod,Nat.mod_mod,←Nat.pow_mod,←Nat.mul_mod]
theorem c129 (x n:Nat) (hx:x<18446744073709551616) (hn:n≤64) (h:x^n<18446744073709551616):Told 129 #[.int .u64 (x:Int),.int .i64 (n:Int)] (.int .u64 ((x^n:Nat):Int)):=fun w =>
 told <| F129.call (x:Int) (n:Int) w _ fun B B1=>by
  rw [F129.q3]
  refine W_for' (σ:=Nat × Nat × Nat) (fun s=>F129.l2 (s.1:Int) (s.2.1:Int) (s.2.2:Int)) (fun s w'=>w'=w∧s.1<18446744073709551616∧s.2.1≤64∧s.2.2<18446744073709551616∧(s.2.2*s.1^s.2.1)%18446744073709551616=x^n%18446744073709551616) (fun s=>s.2.1) (x,n,1)
   ⟨rfl,rfl,rfl,trivial⟩ ⟨rfl,hx,hn,by show 1<18446744073709551616; omega,by show (1*x^n)%_=_; rw [Nat.one_mul]⟩ ?_
  rintro ⟨a,k,p⟩ B2 w1 K1 ⟨rfl,ha,hk,hp,hi⟩ hnext hexit -
  simp only at ha hk hp hi
  refine F129.t2 a k p ⟨rfl,rfl,rfl,trivial⟩ fun B3=>bc_intro (fun hc=>?_) (fun hc B4=>?_)
  ·have hk0:0<k:=by have:=dT hc; omega
   have e1:iAnd .i64 (k:Int) 1=((k%2:Nat):Int):=iAnd1 k (by omega)
   have e2:iShr .i64 (k:Int) 1=((k/2:Nat):Int):=by have:=iShrI k 1 (by omega); rwa [Nat.pow_one] at this
   have e3:∀ u v:Nat,IntKind.wrap .u64 ((u:Int)*(v:Int))=((u*v%18446744073709551616:Nat):Int):=fun u v=>by
    rw [←Int.natCast_mul]; exact wrapM _
   rw [e1]
   have fin:∀ (B5:Nat→Value) (p':Nat),p'<18446744073709551616→(p'*(a*a)^(k/2))%18446744073709551616=x^n%18446744073709551616→W Tryz.prog 18 F129.p4 (E [(0,.int .u64 (a:Int)),(1,.int .i64 (k:Int)),(4,.int .u64 (p':Int))] B5 []) w1 (blockK 1 K1):=by
    intro B5 p' hp' hi'
    refine F129.t4 a k p' ⟨rfl,rfl,rfl,trivial⟩ fun B6=>⟨by omega,fun B7=>?_⟩
    show K1 .normal _ w1
    refine hnext _ _ (a*a%18446744073709551616,k/2,p') ⟨intv (e3 a a),intv e2,rfl,trivial⟩ rfl ⟨rfl,Nat.mod_lt _ (by omega),by show k/2≤64; omega,hp',?_⟩ (by show k/2<k; omega)
    show (p'*(a*a%18446744073709551616)^(k/2))%18446744073709551616=_
    have:=pm_mod p' (a*a) (k/2) 18446744073709551616
    rw [Nat.mod_eq_of_lt hp'] at this
    rw [this]; exact hi'
   have hpow:a^k=a^(k%2)*(a*a)^(k/2):=by
    rw [←Nat.pow_two,←Nat.pow_mul,←Nat.pow_add,Nat.mod_add_div]
   refine bc_intro (fun h2 B5=>?_) (fun h2 B5=>?_)
   ·have hk1:k%2=1:=by have:=neN h2; omega
    rw [e3]
    refine fin _ _ (Nat.mod_lt _ (by omega)) ?_
    rw [←hi,hpow,hk1,Nat.pow_one,←Nat.mul_assoc]
    conv=>lhs; rw [Nat.mul_mod,Nat.mod_mod,←Nat.mul_mod]
   ·have hk1:k%2=0:=by have:=neE h2; omega
    refine fin _ _ hp ?_
    rw [←hi,hpow,hk1,Nat.pow_zero,Nat.one_mul]
  ·have hk0:k=0:=by have:=dF hc; omega
   subst hk0
   rw [Nat.pow_zero,Nat.mul_one,Nat.mod_eq_of_lt hp,Nat.mod_eq_of_lt h] at hi
   refine hexit _ _ ?_
   show W Tryz.prog 18 F129.p1 _ w1 _
   exact F129.t1 p ⟨rfl,trivial⟩ fun B5 B6=>ret1 rfl (intv (by rw [hi])) ⟨rfl,rfl⟩
theorem dg_setD (v k d i:Nat) (hd:d<BB):dg (setD v k d) i=if i=k then d else dg v i:=by
 have hm:=Nat.mod_lt v (BBpow_pos k)
 unfold setD
 by_cases h1:i<k
 ·rw [dg_add_lo _ _ _ _ h1,dg_mod _ _ _ h1,if_neg (by omega)]
 ·obtain ⟨j,rfl⟩:∃ j,i=k+j:=⟨i-k,by omega⟩
  rw [dg_add_hi _ _ _ _ hm]
  cases j with
  | zero=>rw [dg_add_lo _ _ _ _ (by omega),dg_self d hd,if_pos (by omega)]
  | succ j =>
   rw [show j+1=1+j by omega,dg_add_hi _ _ _ _ (by rw [Nat.pow_one]; exact hd),if_neg (by omega)]
   unfold dg
   rw [Nat.div_div_eq_div_mul,←Nat.pow_add,show k+1+j=k+(1+j) by omega]
theorem c130 {w:World} {s:Sl} {V:Nat} {L:List Item} (h:Bank w (num s V :: L)) (hl:s.l≤1099511627776) {Q:Ending→World→Prop}
  (q:∀ V' w',Bank w' (num s V' :: L)→(∀ i,i<s.l→dg V' i=dg V (s.l-1-i))→Chg w w' (fp s)→Q (.returned undef) w'):Calls Tryz.prog 130 #[s.v] w Q:=by
 refine (F130.call s.a s.l s.c w (fun v w'=>v=undef∧Q (.returned undef) w') fun B=>⟨by unfold inI64; omega,fun B1=>?_⟩).mono fun e w' ⟨v,h1,h2,h3⟩=>by rw [h1,h2]; exact h3
 rw [F130.q2]
 refine W_for' (σ:=Nat) (fun i=>F130.l1 s.a s.l s.c (i:Int) ((s.l:Int)-1-i)) (fun i w'=>2*i≤s.l+1∧Chg w w' (fp s)∧∃ V',Bank w' (num s V' :: L)∧∀ m,m<s.l→dg V' m=if m<i∨s.l-i≤m then dg V (s.l-1-m) else dg V m) (fun i=>s.l-i) 0
  ⟨rfl,rfl,intv (by show (s.l:Int)-1=(s.l:Int)-1-((0:Nat):Int); omega),trivial⟩ ⟨by omega,Chg.refl _ _,V,h,fun m hm=>by rw [if_neg (by omega)]⟩ ?_
 rintro i B2 w1 K1 ⟨hi,c1,V1,b1,hV1⟩ hnext hexit -
 refine F130.t1 s.a s.l s.c (i:Int) ((s.l:Int)-1-i) ⟨rfl,rfl,rfl,trivial⟩ fun B3=>bc_intro (fun hc=>?_) (fun hc B4=>?_)
 ·have hc:=dT hc
  have b2:=b1.none (Chg.drew0 w1 none2)
  have c2:Chg w w1.drew (fp s):=c1.drew
  have n2:Nt w1.drew s V1:=b2.head
  have hlc:=n2.lc
  have hat:=n2.at_ (by omega)
  obtain ⟨j,hj⟩:∃ j,j=s.l-1-i:=⟨_,rfl⟩
  have hjl:j<s.l:=by omega
  obtain ⟨b3,c3⟩:=setD_bank b2 (k:=i) (d:=dg V1 j) (by omega) (dg_lt _ _)
  have n3:Nt (w1.drew.setCell ⟨s.b,s.o+i,none⟩ (.int .u64 (dg V1 j:Int))) s (setD V1 i (dg V1 j)):=b3.head
  obtain ⟨b4,c4⟩:=setD_bank b3 (k:=j) (d:=dg V1 i) hjl (dg_lt _ _)
  refine ⟨s.b,s.o,hat,j,by omega,hjl,_,n2.sg j hjl,s.b,s.o,hat,i,rfl,by omega,_,n2.sg i (by omega),s.b,s.o,hat,i,rfl,by omega,⟨_,n2.sg i (by omega)⟩,(n2.wr i (by omega)).2,s.b,s.o,hat,j,by omega,hjl,⟨_,n3.sg j hjl⟩,(n3.wr j (by omega)).2,by unfold inI64; omega,by unfold inI64; omega,fun B5=>?_⟩
  refine hnext _ _ (i+1) ⟨rfl,intv (by omega),intv (by omega),trivial⟩ rfl ⟨by omega,(c2.trans' c3).trans' c4,_,b4,fun m hm=>?_⟩ (by omega)
  rw [dg_setD _ _ _ _ (dg_lt _ _),dg_setD _ _ _ _ (dg_lt _ _)]
  by_cases h1:m=j
  ·rw [if_pos h1,if_pos (by omega),hV1 i (by omega),if_neg (by omega),h1,hj,show s.l-1-(s.l-1-i)=i by omega]
  ·rw [if_neg h1]
   by_cases h2:m=i
   ·rw [if_pos h2,if_pos (by omega),hV1 j hjl,if_neg (by omega),h2,hj]
   ·rw [if_neg h2,hV1 m hm]
    by_cases h3:m<i∨s.l-i≤m
    ·rw [if_pos h3,if_pos (by omega)]
    ·rw [if_neg h3,if_neg (by omega)]
 ·have hc:=dF hc
  refine hexit _ _ (ret0 rfl ⟨rfl,q V1 w1 b1 (fun m hm=>?_) c1⟩)
  rw [hV1 m hm]
  by_cases h3:m<i∨s.l-i≤m
  ·rw [if_pos h3]
  ·rw [if_neg h3,show s.l-1-m=m by omega]
end Go.Proofs.YtlkjiiibmfpbcaaGreatDoor
namespace Go.Proofs.YtlkjiiibmfpbcaaGreatDoor
open Go
def pfx (b X n k:Nat):Nat:=X/b^(n-k)
def fg (b X n k:Nat):Nat:=X/b^(n-1-k)%b
section
variable {b X n k:Nat}
theorem pfx_succ (hk:k<n):pfx b X n (k+1)=pfx b X n k*b+fg b X n k:=by
 unfold pfx fg
 rw [show n-(k+1)=n-1-k by omega,show n-k=n-1-k+1 by omega,Nat.pow_succ,←Nat.div_div_eq_div_mul,Nat.mul_comm]
 exact (Nat.div_add_mod _ _).symm
theorem pfx_back {i:Nat} (hi:i≤k) (hk:k≤n):pfx b X n k/b^i=pfx b X n (k-i):=by
 unfold pfx
 rw [Nat.div_div_eq_div_mul,←Nat.pow_add,show n-k+i=n-(k-i) by omega]
theorem pfx_n:pfx b X n n=X:=by unfold pfx; rw [Nat.sub_self,Nat.pow_zero,Nat.div_one]
theorem pfx_0 (h:X<b^n):pfx b X n 0=0:=by unfold pfx; exact Nat.div_eq_of_lt h
theorem pfx_le:pfx b X n k≤X:=Nat.div_le_self _ _
theorem mul_add_mod' {a d m:Nat} (hd:d<b) (hm:0<m):(a*b+d)%(m*b)=a%m*b+d:=by
 have h1:=Nat.div_add_mod a m
 have h2:=Nat.mod_lt a hm
 have h3:a%m*b+d<m*b:=by
  have:(a%m+1)*b≤m*b:=Nat.mul_le_mul_right _ h2
  rw [Nat.add_mul,Nat.one_mul] at this; omega
 have h4:a*b+d=(a%m*b+d)+m*b*(a/m):=by
  conv=>lhs; rw [←h1]
  rw [Nat.add_mul,Nat.mul_right_comm]; omega
 rw [h4,Nat.add_mul_mod_self_left,Nat.mod_eq_of_lt h3]
def grp (b X n N k:Nat):Nat:=pfx b X n k%b^(k%N)
theorem grp_step {N:Nat} (hb:0<b) (hk:k<n):grp b X n N k*b+fg b X n k=pfx b X n (k+1)%b^(k%N+1):=by
 unfold grp
 rw [pfx_succ hk,Nat.pow_succ]
 exact (mul_add_mod' (show fg b X n k<b from Nat.mod_lt _ hb) (Nat.pow_pos hb)).symm
theorem mod_step {N:Nat} (hN:1≤N):(k%N+1=N→(k+1)%N=0∧(k+1)/N=k/N+1)∧(k%N+1≠N→(k+1)%N=k%N+1∧(k+1)/N=k/N):=by
 have h1:=Nat.div_add_mod k N
 have h2:=Nat.mod_lt k hN
 constructor
 ·intro h
  have e:k+1=N*(k/N+1):=by rw [Nat.mul_add]; omega
  rw [e]
  exact ⟨Nat.mul_mod_right _ _,Nat.mul_div_cancel_left _ hN⟩
 ·intro h
  have e:k+1=k%N+1+N*(k/N):=by omega
  have hlt:k%N+1<N:=by omega
  constructor
  ·conv=>lhs; rw [e]
   rw [Nat.add_mul_mod_self_left,Nat.mod_eq_of_lt hlt]
  ·conv=>lhs; rw [e]
   rw [Nat.add_mul_div_left _ _ hN,Nat.div_eq_of_lt hlt,Nat.zero_add]
theorem grp_full {N:Nat} (hb:0<b) (hN:1≤N) (hk:k<n) (h:k%N+1=N):pfx b X n (k+1)=pfx b X n (k/N*N)*b^N+(grp b X n N k*b+fg b X n k):=by
 have h1:=Nat.div_add_mod k N
 have h2:k+1-N=k/N*N:=by rw [Nat.mul_comm]; omega
 have h3:N≤k+1:=by have:=Nat.mod_le k N; omega
 rw [grp_step hb hk,h]
 have:=Nat.div_add_mod (pfx b X n (k+1)) (b^N)
 rw [pfx_back h3 (by omega),h2,Nat.mul_comm] at this
 exact this.symm
end
structure StrOf (b X n:Nat) (str:ByteArray):Prop where
 size:str.size=n
 at_:∀ j,j<n→∃ c:UInt8,str[j]?=some c∧c.toNat=chr (fg b X n j)
theorem strOf_figs {b X n:Nat} (hb:0<b) (hb62:b≤62):StrOf b X n (strOfNums (figs b n X)):=by
 have hs:(strOfNums (figs b n X)).size=n:=by rw [strOfNums_size]; simp [figs]
 have hs2:(strOfNums (figs b n X)).data.size=n:=hs
 refine ⟨hs,fun j hj=>?_⟩
 have hlt:chr (fg b X n j)<256:=chr_lt (Nat.lt_of_lt_of_le (Nat.mod_lt _ hb) hb62)
 refine ⟨UInt8.ofNat (chr (fg b X n j)),?_,?_⟩
 ·rw [getElem?_pos _ _ (by rw [hs]; exact hj)]
  show some ((strOfNums (figs b n X)).data[j]'(by rw [hs2]; exact hj))=_
  have:(strOfNums (figs b n X)).data[j]?=some (UInt8.ofNat (chr (fg b X n j))):=by
   simp [strOfNums,figs,hj,fgs,fg]
  rw [Array.getElem?_eq_getElem (by rw [hs2]; exact hj)] at this
  exact this
 ·simp; omega
end Go.Proofs.YtlkjiiibmfpbcaaGreatDoor
