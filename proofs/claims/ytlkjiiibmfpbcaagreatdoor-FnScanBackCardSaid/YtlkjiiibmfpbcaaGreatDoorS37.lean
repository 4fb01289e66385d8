/- Contracts: the figures of a number by repeated division by a word. Conditions: bases 2 to 62; the number fits the buffer. -/
import Derived.Test.YtlkjiiibmfpbcaaGreatDoorS34
import Derived.Test.YtlkjiiibmfpbcaaGreatDoorS36
import Derived.Test.YtlkjiiibmfpbcaaGreatDoorS24
namespace Go.Proofs.YtlkjiiibmfpbcaaGreatDoor
open Go
theorem dig62:(List.range 62).all (fun d=>((strK0[d]?).map (·.toNat))==some (chr d))=true:=by kernel_rfl
theorem digAt {d:Nat} (h:d<62):∃ c:UInt8,strK0[d]?=some c∧c.toNat=chr d:=by
 have:=List.all_eq_true.1 dig62 d (by simp [h])
 cases hc:strK0[d]? with
 | none=>rw [hc] at this; simp at this
 | some c=>rw [hc] at this; exact ⟨c,rfl,by simpa using this⟩
def fig (b n A:Nat):Nat→Value:=fun i=>.int .u8 (fgs b A (n-1-i):Int)
theorem fig_hi {b n A i:Nat} (hi:i<n) (h:A/b^(n-(i+1))=0):fig b n A i=.int .u8 48:=by
 unfold fig fgs
 rw [show n-1-i=n-(i+1) by omega,h,Nat.zero_mod]; rfl
theorem div_pow (A b i j:Nat):A/b^i/b^j=A/b^(i+j):=by rw [Nat.div_div_eq_div_mul,Nat.pow_add]
theorem mod_digit {A b n j:Nat} (hj:j<n):A%b^n/b^j%b=A/b^j%b:=by
 obtain ⟨d,rfl⟩:∃ d,n=j+1+d:=⟨n-(j+1),by omega⟩
 rw [show j+1+d=j+(1+d) by omega,Nat.pow_add,Nat.mod_mul_right_div_self,show 1+d=d+1 by omega,Nat.pow_succ,Nat.mul_comm (b^d) b,Nat.mod_mul_right_mod]
section
variable {w:World} {s qs:Sl} {b nd bb Q:Nat} {L:List Item}
def Done (b Q:Nat) (s:Sl) (i:Nat) (g:Nat→Value):Prop:=∀ j,i≤j→j<s.l→g j=fig b s.l Q j
theorem Done.put {g:Nat→Value} {i:Nat} (h:Done b Q s (i+1) g) (hi:i<s.l):Done b Q s i (setF g i (fig b s.l Q i)):=fun j h1 h2=>by
 by_cases hji:j=i
 ·subst hji; exact setF_self _ _ _
 ·rw [setF_ne _ _ hji]; exact h j (by omega) h2
theorem fill61 {g:Nat→Value} {i:Nat} (hb:Bank w (seg s g :: L)) (hi:i≤s.l) (hsl:s.l≤1000000) (hd:Done b Q s i g) (hQ:Q/b^(s.l-i)=0) {e:Env} {K0:Kont} (ha:agree e (F61.l4 s.a s.l s.c i))
  (q:∀ e' w',Bank w' (seg s (fig b s.l Q) :: L)→Chg w w' (wds s)→e'.defers=e.defers→K0 .normal e' w'):W Tryz.prog 184 F61.p5 e w K0:=by
 rw [F61.q5]
 refine W_for' (σ:=Nat) (fun i=>F61.l4 s.a s.l s.c i) (fun i w'=>i≤s.l∧Chg w w' (wds s)∧Q/b^(s.l-i)=0∧∃ g,Bank w' (seg s g :: L)∧Done b Q s i g) (fun i=>i) i ha ⟨hi,Chg.refl _ _,hQ,g,hb,hd⟩ ?_
 rintro i B1 w1 K1 ⟨hi,c1,hQ,g,b1,hd⟩ hnext hexit -
 refine F61.t4 s.a s.l s.c i ⟨rfl,rfl,trivial⟩ fun B2=>bc_intro (fun h=>?_) (fun h B3=>?_)
 ·obtain ⟨p,rfl⟩:∃ p,i=p+1:=⟨i-1,by have:=dT h; omega⟩
  have S1:SegAt w1 s g:=b1.head
  obtain ⟨b2,c2⟩:=segPut b1 (i:=p) (by omega) (.int .u8 48)
  have hst:=S1.wt
  refine ⟨by unfold inI64; omega,wtC (k:=p) S1.toSt.wt (by omega) (by omega) fun B3=>hnext _ _ p ⟨rfl,intv (by omega),trivial⟩ rfl ⟨by omega,c1.trans' c2,?_,_,b2,?_⟩ (by omega)⟩
  ·rw [show s.l-p=s.l-(p+1)+1 by omega,Nat.pow_succ,←Nat.div_div_eq_div_mul,hQ,Nat.zero_div]
  ·have:=hd.put (i:=p) (by omega)
   rwa [fig_hi (by omega) hQ] at this
 ·have h0:i=0:=by have:=dF h; omega
  subst h0
  exact hexit _ _ (q _ _ (b1.segCongr fun j hj=>(hd j (Nat.zero_le _) hj).symm) c1 rfl)
theorem wordG {g:Nat→Value} {i0 A R:Nat} (hb:Bank w (seg s g :: L)) (hi0:i0≤s.l) (hsl:s.l≤1000000) (hd:Done b Q s i0 g) (hb2:2≤b) (hb62:b≤62) (hA:A=Q/b^(s.l-i0)) (hR:R=A%b^nd) (hnd:nd≤64) (hRB:R<BB) {e:Env} {K0:Kont}
  (ha:agree e (F61.l21 qs.a qs.l qs.c s.a s.l s.c b nd bb i0 R 0))
  (q:∀ e' w' i' g',Bank w' (seg s g' :: L)→i'=i0-nd→Done b Q s i' g'→Chg w w' (wds s)→agree e' (F61.l8 qs.a qs.l qs.c s.a s.l s.c b nd bb (i':Nat))→e'.defers=e.defers→K0 .normal e' w'):W Tryz.prog 184 F61.p22 e w K0:=by
 rw [F61.q22]
 refine W_for' (σ:=Nat) (fun j=>F61.l21 qs.a qs.l qs.c s.a s.l s.c b nd bb (i0-j:Nat) (R/b^j:Nat) j) (fun j w'=>j≤nd∧j≤i0∧Chg w w' (wds s)∧∃ g,Bank w' (seg s g :: L)∧Done b Q s (i0-j) g) (fun j=>nd-j) 0
  (by rw [Nat.pow_zero,Nat.div_one]; exact ha) ⟨Nat.zero_le _,Nat.zero_le _,Chg.refl _ _,g,hb,hd⟩ ?_
 rintro j B1 w1 K1 ⟨hj,hji,c1,g1,b1,hd1⟩ hnext hexit -
 have S1:SegAt w1 s g1:=b1.head
 have hrB:R/b^j<BB:=Nat.lt_of_le_of_lt (Nat.div_le_self _ _) hRB
 have hrB':R/b^j<18446744073709551616:=hrB
 refine F61.t21 qs.a qs.l qs.c s.a s.l s.c b nd bb (i0-j:Nat) (R/b^j:Nat) j ⟨rfl,rfl,rfl,rfl,rfl,rfl,rfl,rfl,trivial⟩ fun B2=>bc_intro (fun h=>bc_intro (fun h2=>?_) (fun h2 B3=>?_)) (fun h B3=>?_)
 ·have hj1:j<nd:=by have:=dT h; omega
  obtain ⟨p,hp⟩:∃ p,i0-j=p+1:=⟨i0-j-1,by have:=dT h2; omega⟩
  have hdig:R/b^j%b=Q/b^(s.l-(p+1))%b:=by
   rw [hR,mod_digit hj1,hA,div_pow,show s.l-i0+j=s.l-(p+1) by omega]
  have hdl:R/b^j%b<62:=Nat.lt_of_lt_of_le (Nat.mod_lt _ (by omega)) hb62
  have hfig:fig b s.l Q p=.int .u8 (chr (R/b^j%b):Int):=by
   unfold fig fgs
   rw [hdig,show s.l-1-p=s.l-(p+1) by omega]
  have hdone:Done b Q s p (setF g1 p (.int .u8 (chr (R/b^j%b):Int))):=by
   rw [←hfig]; exact Done.put (by rw [←hp]; exact hd1) (by omega)
  obtain ⟨b2,c2⟩:=segPut b1 (i:=p) (by omega) (.int .u8 (chr (R/b^j%b):Int))
  have hq:iQuo .u64 ((R/b^j:Nat):Int) (b:Int)=((R/b^(j+1):Nat):Int):=by
   rw [Nat.pow_succ,←Nat.div_div_eq_div_mul]
   exact iQuoN _ b hrB'
  obtain ⟨c,hc1,hc2⟩:=digAt hdl
  refine ⟨by unfold inI64; omega,by omega,R/b^j%b,c,iRemN _ _,hc1,?_⟩
  rw [hc2]
  refine wtC (k:=p) S1.toSt.wt (by omega) (by omega) ⟨by omega,by unfold inI64; omega,fun B3=>hnext _ _ (j+1) ⟨rfl,rfl,rfl,rfl,rfl,intv (by omega),intv hq,intv (by omega),trivial⟩ rfl ⟨by omega,by omega,c1.trans' c2,_,b2,by rw [show i0-(j+1)=p by omega]; exact hdone⟩ (by omega)⟩
 ·have h0:i0-j=0:=by have:=dF h2; omega
  exact hexit _ _ (q _ _ 0 g1 b1 (by omega) (by rw [h0] at hd1; exact hd1) c1 ⟨rfl,rfl,rfl,rfl,rfl,intv (by omega),trivial⟩ rfl)
 ·have hj1:j=nd:=by have:=dF h; omega
  exact hexit _ _ (q _ _ (i0-j) g1 b1 (by omega) hd1 c1 ⟨rfl,rfl,rfl,rfl,rfl,rfl,trivial⟩ rfl)
theorem smallG {g:Nat→Value} (hb:Bank w (seg s g :: nmz qs Q :: L)) (hsl:s.l≤1000000) (hQ:Q<b^s.l) (hb2:2≤b) (hb62:b≤62) (hbb:bb=b^nd) (hbb1:bb<BB) (hnd:1≤nd∧nd≤64) (lq:Len qs) {e:Env} {K0:Kont}
  (ha:agree e (F61.l8 qs.a qs.l qs.c s.a s.l s.c b nd bb (s.l:Nat)))
  (q:∀ e' w' i g',Bank w' (seg s g' :: L)→i≤s.l→Done b Q s i g'→Q/b^(s.l-i)=0→Chg w w' (un (wds s) (fp qs))→agree e' (F61.l4 s.a s.l s.c (i:Nat))→e'.defers=e.defers→K0 .normal e' w'):W Tryz.prog 184 F61.p9 e w K0:=by
 rw [F61.q9]
 have hbbp:0<bb:=by rw [hbb]; exact Nat.pow_pos (by omega)
 have hbbB:bb<18446744073709551616:=hbb1
 refine W_for' (σ:=Sl × Nat × Nat) (fun x=>F61.l8 x.1.a x.1.l x.1.c s.a s.l s.c b nd bb x.2.1) (fun x w'=>x.2.1=s.l-x.2.2*nd∧Chg w w' (un (wds s) (fp qs))∧x.1.l≤qs.l∧(∀ b i,b<w.heap.size→fp x.1 b i→fp qs b i)∧∃ g,Bank w' (seg s g :: nmz x.1 (Q/b^(x.2.2*nd)) :: L)∧Done b Q s x.2.1 g)
  (fun x=>Q/b^(x.2.2*nd)) (qs,s.l,0) ha ⟨by show s.l=s.l-0*nd; omega,Chg.refl _ _,Nat.le_refl _,fun _ _ _ h=>h,g,by rw [Nat.zero_mul,Nat.pow_zero,Nat.div_one]; exact hb,fun j h1 h2=>by have h1:s.l≤j:=h1; omega⟩ ?_
 rintro ⟨qx,i,t⟩ B1 w1 K1 ⟨hi,c1,hql,hqo,g1,b1,hd1⟩ hnext hexit -
 simp only at hi hql hqo b1 hd1
 have lq':qs.l≤1099511627776:=lq
 have qN:Nz w1 qx (Q/b^(t*nd)):=b1.tail.head
 have hrel:Q/b^(t*nd)=Q/b^(s.l-i):=by
  rcases Nat.le_total (t*nd) s.l with h | h
  ·rw [hi,show s.l-(s.l-t*nd)=t*nd by omega]
  ·rw [hi,show s.l-(s.l-t*nd)=s.l by omega,Nat.div_eq_of_lt hQ,Nat.div_eq_of_lt (Nat.lt_of_lt_of_le hQ (Nat.pow_le_pow_right (by omega) h))]
 refine F61.t8 qx.a qx.l qx.c s.a s.l s.c b nd bb i ⟨rfl,rfl,rfl,rfl,rfl,rfl,trivial⟩ fun B2=>bc_intro (fun h B3=>?_) (fun h B3=>?_)
 ·rw [F61.q15]
  refine W_block ?_
  refine F61.t14 qx.a qx.l qx.c s.a s.l s.c b nd bb i ⟨rfl,rfl,rfl,rfl,rfl,rfl,trivial⟩ fun B4=>(c93 qx qx _ bb w1 qN.toSt qN (by unfold Sep; omega) (by unfold Len; omega) (by omega) hbbB).mono ?_
  rintro e' w2 ⟨_,rfl,r2,rfl,n2,f2,c2⟩
  refine ⟨_,_,_,trivial,_,trivial,rfl,fun B5=>?_⟩
  have b2:Bank w2 (nmz r2 (Q/b^(t*nd)/bb) :: seg s g1 :: L):=(b1.perm (List.Perm.swap _ _ _)).res (a':=nmz r2 (Q/b^(t*nd)/bb)) rfl f2 c2 n2 rfl
  have eq2:Q/b^(t*nd)/bb=Q/b^((t+1)*nd):=by rw [hbb,div_pow,Nat.succ_mul]
  rw [eq2] at b2 n2
  have b3:Bank w2 (seg s g1 :: nmz r2 (Q/b^((t+1)*nd)) :: L):=b2.perm (List.Perm.swap _ _ _)
  have c12:Chg w w2 (un (wds s) (fp qs)):=c1.via c2 fun x j hx hm=>.inr (hqo x j hx hm)
  refine wordG (qs:=r2) (Q:=Q) (A:=Q/b^(t*nd)) (R:=Q/b^(t*nd)%bb) b3 (by omega) hsl hd1 hb2 hb62 hrel (by rw [hbb]) hnd.2 (Nat.lt_trans (Nat.mod_lt _ hbbp) hbb1) ⟨rfl,rfl,rfl,rfl,rfl,rfl,rfl,rfl,trivial⟩ fun e3 w3 i3 g3 b4 hi3 hd3 c3 ha3 hdf=>?_
  have hne:Q/b^(t*nd)≠0:=fun h0=>by
   have:=(Nm.zero_iff qN.nm qN.toNt).2 h0
   have:=dT h; omega
  refine hnext _ _ (r2,i3,t+1) ha3 hdf ⟨by show i3=s.l-(t+1)*nd; rw [hi3,hi,Nat.succ_mul]; omega,c12.via c3 fun _ _ _ hm=>.inl hm,?_,fun x j hx hm=>hqo x j hx (from_old (f2.later (w:=w) c1) (S:=fp qx) (fun _ _ _ h=>h) x j hx hm),g3,b4,hd3⟩ ?_
  ·refine Nat.le_trans (n2.nm qx.l (Nat.lt_of_le_of_lt ?_ qN.lt)) hql
   rw [←eq2]; exact Nat.div_le_self _ _
  ·show Q/b^((t+1)*nd)<Q/b^(t*nd)
   rw [←eq2]
   refine Nat.div_lt_self (Nat.pos_of_ne_zero hne) ?_
   rw [hbb]
   exact Nat.lt_of_lt_of_le hb2 (by have:=Nat.pow_le_pow_right (n:=b) (by omega) hnd.1; rwa [Nat.pow_one] at this)
 ·have hq0:qx.l=0:=by have:=dF h; omega
  have h0:=Nz.zero qN.toNt hq0
  exact hexit _ _ (q _ _ i g1 ((b1.perm (List.Perm.swap _ _ _)).tail) (by omega) hd1 (by rw [←hrel]; exact h0) c1 ⟨rfl,rfl,trivial⟩ rfl)
theorem wordT {g:Nat→Value} {i0 A R:Nat} (hb:Bank w (seg s g :: L)) (hi0:i0≤s.l) (hsl:s.l≤1000000) (hd:Done b Q s i0 g) (hb2:2≤b) (hb62:b≤62) (hb10:b=10) (hA:A=Q/b^(s.l-i0)) (hR:R=A%b^nd) (hnd:nd≤64) (hRB:R<BB) {e:Env} {K0:Kont}
  (ha:agree e (F61.l19 qs.a qs.l qs.c s.a s.l s.c nd bb i0 R 0))
  (q:∀ e' w' i' g',Bank w' (seg s g' :: L)→i'=i0-nd→Done b Q s i' g'→Chg w w' (wds s)→agree e' (F61.l6 qs.a qs.l qs.c s.a s.l s.c nd bb (i':Nat))→e'.defers=e.defers→K0 .normal e' w'):W Tryz.prog 184 F61.p20 e w K0:=by
 rw [F61.q20]
 refine W_for' (σ:=Nat) (fun j=>F61.l19 qs.a qs.l qs.c s.a s.l s.c nd bb (i0-j:Nat) (R/b^j:Nat) j) (fun j w'=>j≤nd∧j≤i0∧Chg w w' (wds s)∧∃ g,Bank w' (seg s g :: L)∧Done b Q s (i0-j) g) (fun j=>nd-j) 0
  (by rw [Nat.pow_zero,Nat.div_one]; exact ha) ⟨Nat.zero_le _,Nat.zero_le _,Chg.refl _ _,g,hb,hd⟩ ?_
 rintro j B1 w1 K1 ⟨hj,hji,c1,g1,b1,hd1⟩ hnext hexit -
 have S1:SegAt w1 s g1:=b1.head
 have hrB:R/b^j<BB:=Nat.lt_of_le_of_lt (Nat.div_le_self _ _) hRB
 have hrB':R/b^j<18446744073709551616:=hrB
 refine F61.t19 qs.a qs.l qs.c s.a s.l s.c nd bb (i0-j:Nat) (R/b^j:Nat) j ⟨rfl,rfl,rfl,rfl,rfl,rfl,rfl,trivial⟩ fun B2=>bc_intro (fun h=>bc_intro (fun h2=>?_) (fun h2 B3=>?_)) (fun h B3=>?_)
 ·have hj1:j<nd:=by have:=dT h; omega
  obtain ⟨p,hp⟩:∃ p,i0-j=p+1:=⟨i0-j-1,by have:=dT h2; omega⟩
  have hdig:R/b^j%b=Q/b^(s.l-(p+1))%b:=by
   rw [hR,mod_digit hj1,hA,div_pow,show s.l-i0+j=s.l-(p+1) by omega]
  have hdl:R/b^j%b<62:=Nat.lt_of_lt_of_le (Nat.mod_lt _ (by omega)) hb62
  have hfig:fig b s.l Q p=.int .u8 (chr (R/b^j%b):Int):=by
   unfold fig fgs
   rw [hdig,show s.l-1-p=s.l-(p+1) by omega]
  have hdone:Done b Q s p (setF g1 p (.int .u8 (chr (R/b^j%b):Int))):=by
   rw [←hfig]; exact Done.put (by rw [←hp]; exact hd1) (by omega)
  obtain ⟨b2,c2⟩:=segPut b1 (i:=p) (by omega) (.int .u8 (chr (R/b^j%b):Int))
  have hq:iQuo .u64 ((R/b^j:Nat):Int) 10=((R/b^(j+1):Nat):Int):=by
   rw [Nat.pow_succ,←Nat.div_div_eq_div_mul]
   rw [show R/b^j/b=R/b^j/10 by rw [hb10]]
   exact iQuoN _ 10 hrB'
  have hdl10:R/b^j%b<10:=by rw [hb10]; exact Nat.mod_lt _ (by omega)
  have hval:IntKind.wrap .u8 (48+(IntKind.wrap .u8 (IntKind.wrap .u64 (((R/b^j:Nat):Int)-(IntKind.wrap .u64 ((iQuo .u64 ((R/b^j:Nat):Int) 10)*10))))))=(chr (R/b^j%b):Int):=by
   obtain ⟨x,hx⟩:∃ x,x=R/b^j:=⟨_,rfl⟩
   rw [←hx] at hdl10 hrB' ⊢
   have e1:iQuo .u64 (x:Int) 10=((x/10:Nat):Int):=iQuoN x 10 hrB'
   rw [hb10] at hdl10 ⊢
   rw [e1,show ((x/10:Nat):Int)*10=((x/10*10:Nat):Int) by omega,wrapN _ (by omega),show (x:Int)-((x/10*10:Nat):Int)=((x%10:Nat):Int) by omega,wrapN _ (by omega),wrapU8 _ (by omega),show (48:Int)+((x%10:Nat):Int)=((48+x%10:Nat):Int) by omega,wrapU8 _ (by omega)]
   unfold chr
   rw [if_pos hdl10]
  refine ⟨by unfold inI64; omega,by omega,?_⟩
  rw [hval]
  refine wtC (k:=p) S1.toSt.wt (by omega) (by omega) ⟨by unfold inI64; omega,fun B3=>hnext _ _ (j+1) ⟨rfl,rfl,rfl,rfl,intv (by omega),intv hq,intv (by omega),trivial⟩ rfl ⟨by omega,by omega,c1.trans' c2,_,b2,by rw [show i0-(j+1)=p by omega]; exact hdone⟩ (by omega)⟩
 ·have h0:i0-j=0:=by have:=dF h2; omega
  exact hexit _ _ (q _ _ 0 g1 b1 (by omega) (by rw [h0] at hd1; exact hd1) c1 ⟨rfl,rfl,rfl,rfl,intv (by omega),trivial⟩ rfl)
 ·have hj1:j=nd:=by have:=dF h; omega
  exact hexit _ _ (q _ _ (i0-j) g1 b1 (by omega) hd1 c1 ⟨rfl,rfl,rfl,rfl,rfl,trivial⟩ rfl)
theorem smallT {g:Nat→Value} (hb:Bank w (seg s g :: nmz qs Q :: L)) (hsl:s.l≤1000000) (hQ:Q<b^s.l) (hb2:2≤b) (hb62:b≤62) (hb10:b=10) (hbb:bb=b^nd) (hbb1:bb<BB) (hnd:1≤nd∧nd≤64) (lq:Len qs) {e:Env} {K0:Kont}
  (ha:agree e (F61.l6 qs.a qs.l qs.c s.a s.l s.c nd bb (s.l:Nat)))
  (q:∀ e' w' i g',Bank w' (seg s g' :: L)→i≤s.l→Done b Q s i g'→Q/b^(s.l-i)=0→Chg w w' (un (wds s) (fp qs))→agree e' (F61.l4 s.a s.l s.c (i:Nat))→e'.defers=e.defers→K0 .normal e' w'):W Tryz.prog 184 F61.p7 e w K0:=by
 rw [F61.q7]
 have hbbp:0<bb:=by rw [hbb]; exact Nat.pow_pos (by omega)
 have hbbB:bb<18446744073709551616:=hbb1
 refine W_for' (σ:=Sl × Nat × Nat) (fun x=>F61.l6 x.1.a x.1.l x.1.c s.a s.l s.c nd bb x.2.1) (fun x w'=>x.2.1=s.l-x.2.2*nd∧Chg w w' (un (wds s) (fp qs))∧x.1.l≤qs.l∧(∀ b i,b<w.heap.size→fp x.1 b i→fp qs b i)∧∃ g,Bank w' (seg s g :: nmz x.1 (Q/b^(x.2.2*nd)) :: L)∧Done b Q s x.2.1 g)
  (fun x=>Q/b^(x.2.2*nd)) (qs,s.l,0) ha ⟨by show s.l=s.l-0*nd; omega,Chg.refl _ _,Nat.le_refl _,fun _ _ _ h=>h,g,by rw [Nat.zero_mul,Nat.pow_zero,Nat.div_one]; exact hb,fun j h1 h2=>by have h1:s.l≤j:=h1; omega⟩ ?_
 rintro ⟨qx,i,t⟩ B1 w1 K1 ⟨hi,c1,hql,hqo,g1,b1,hd1⟩ hnext hexit -
 simp only at hi hql hqo b1 hd1
 have lq':qs.l≤1099511627776:=lq
 have qN:Nz w1 qx (Q/b^(t*nd)):=b1.tail.head
 have hrel:Q/b^(t*nd)=Q/b^(s.l-i):=by
  rcases Nat.le_total (t*nd) s.l with h | h
  ·rw [hi,show s.l-(s.l-t*nd)=t*nd by omega]
  ·rw [hi,show s.l-(s.l-t*nd)=s.l by omega,Nat.div_eq_of_lt hQ,Nat.div_eq_of_lt (Nat.lt_of_lt_of_le hQ (Nat.pow_le_pow_right (by omega) h))]
 refine F61.t6 qx.a qx.l qx.c s.a s.l s.c nd bb i ⟨rfl,rfl,rfl,rfl,rfl,trivial⟩ fun B2=>bc_intro (fun h B3=>?_) (fun h B3=>?_)
 ·rw [F61.q13]
  refine W_block ?_
  refine F61.t12 qx.a qx.l qx.c s.a s.l s.c nd bb i ⟨rfl,rfl,rfl,rfl,rfl,trivial⟩ fun B4=>(c93 qx qx _ bb w1 qN.toSt qN (by unfold Sep; omega) (by unfold Len; omega) (by omega) hbbB).mono ?_
  rintro e' w2 ⟨_,rfl,r2,rfl,n2,f2,c2⟩
  refine ⟨_,_,_,trivial,_,trivial,rfl,fun B5=>?_⟩
  have b2:Bank w2 (nmz r2 (Q/b^(t*nd)/bb) :: seg s g1 :: L):=(b1.perm (List.Perm.swap _ _ _)).res (a':=nmz r2 (Q/b^(t*nd)/bb)) rfl f2 c2 n2 rfl
  have eq2:Q/b^(t*nd)/bb=Q/b^((t+1)*nd):=by rw [hbb,div_pow,Nat.succ_mul]
  rw [eq2] at b2 n2
  have b3:Bank w2 (seg s g1 :: nmz r2 (Q/b^((t+1)*nd)) :: L):=b2.perm (List.Perm.swap _ _ _)
  have c12:Chg w w2 (un (wds s) (fp qs)):=c1.via c2 fun x j hx hm=>.inr (hqo x j hx hm)
  refine wordT (qs:=r2) (Q:=Q) (A:=Q/b^(t*nd)) (R:=Q/b^(t*nd)%bb) b3 (by omega) hsl hd1 hb2 hb62 hb10 hrel (by rw [hbb]) hnd.2 (Nat.lt_trans (Nat.mod_lt _ hbbp) hbb1) ⟨rfl,rfl,rfl,rfl,rfl,rfl,rfl,trivial⟩ fun e3 w3 i3 g3 b4 hi3 hd3 c3 ha3 hdf=>?_
  have hne:Q/b^(t*nd)≠0:=fun h0=>by
   have:=(Nm.zero_iff qN.nm qN.toNt).2 h0
   have:=dT h; omega
  refine hnext _ _ (r2,i3,t+1) ha3 hdf ⟨by show i3=s.l-(t+1)*nd; rw [hi3,hi,Nat.succ_mul]; omega,c12.via c3 fun _ _ _ hm=>.inl hm,?_,fun x j hx hm=>hqo x j hx (from_old (f2.later (w:=w) c1) (S:=fp qx) (fun _ _ _ h=>h) x j hx hm),g3,b4,hd3⟩ ?_
  ·refine Nat.le_trans (n2.nm qx.l (Nat.lt_of_le_of_lt ?_ qN.lt)) hql
   rw [←eq2]; exact Nat.div_le_self _ _
  ·show Q/b^((t+1)*nd)<Q/b^(t*nd)
   rw [←eq2]
   refine Nat.div_lt_self (Nat.pos_of_ne_zero hne) ?_
   rw [hbb]
   exact Nat.lt_of_lt_of_le hb2 (by have:=Nat.pow_le_pow_right (n:=b) (by omega) hnd.1; rwa [Nat.pow_one] at this)
 ·have hq0:qx.l=0:=by have:=dF h; omega
  have h0:=Nz.zero qN.toNt hq0
  exact hexit _ _ (q _ _ i g1 ((b1.perm (List.Perm.swap _ _ _)).tail) (by omega) hd1 (by rw [←hrel]; exact h0) c1 ⟨rfl,rfl,trivial⟩ rfl)
theorem small61 {g:Nat→Value} (hb:Bank w (seg s g :: nmz qs Q :: L)) (hsl:s.l≤1000000) (hQ:Q<b^s.l) (hb2:2≤b) (hb62:b≤62) (hbb:bb=b^nd) (hbb1:bb<BB) (hnd:1≤nd∧nd≤64) (lq:Len qs) {e:Env} {K0:Kont}
  (ha:agree e (F61.l1 qs.a qs.l qs.c s.a s.l s.c b nd bb))
  (q:∀ e' w',Bank w' (seg s (fig b s.l Q) :: L)→Chg w w' (un (wds s) (fp qs))→e'.defers=e.defers→K0 .normal e' w'):W Tryz.prog 184 F61.p1 e w K0:=by
 have fin:∀ (e':Env) (w':World) (i:Nat) (g':Nat→Value),Bank w' (seg s g' :: L)→i≤s.l→Done b Q s i g'→Q/b^(s.l-i)=0→Chg w w' (un (wds s) (fp qs))→agree e' (F61.l4 s.a s.l s.c (i:Nat))→e'.defers=e.defers→W Tryz.prog 184 F61.p5 e' w' K0:=by
  intro e' w' i g' b1 hi hd h0 c1 ha1 hdf
  exact fill61 b1 hi hsl hd h0 ha1 fun e2 w2 b2 c2 h2=>q e2 w2 b2 (c1.via c2 fun _ _ _ hm=>.inl hm) (h2.trans hdf)
 refine F61.t1 qs.a qs.l qs.c s.a s.l s.c b nd bb ha fun B1=>bc_intro (fun h B2=>?_) (fun h B2=>?_)
 ·exact smallT hb hsl hQ hb2 hb62 (by have:=eqE h; omega) hbb hbb1 hnd lq ⟨rfl,rfl,rfl,rfl,rfl,trivial⟩ fun e' w' i g' h1 h2 h3 h4 h5 h6 h7=>fin e' w' i g' h1 h2 h3 h4 h5 h6 h7
 ·exact smallG hb hsl hQ hb2 hb62 hbb hbb1 hnd lq ⟨rfl,rfl,rfl,rfl,rfl,rfl,trivial⟩ fun e' w' i g' h1 h2 h3 h4 h5 h6 h7=>fin e' w' i g' h1 h2 h3 h4 h5 h6 h7
end
end Go.Proofs.YtlkjiiibmfpbcaaGreatDoor
namespace Go.Proofs.YtlkjiiibmfpbcaaGreatDoor
open Go
theorem divQ {w:World} {K:SK} {z u y:Sl} {U V:Nat} {L:List Item} (h:Bank w (stk K :: nmz z U :: sto u :: L)) (hy:nmz y V∈L) (hV:V≠0) (hz:z.l≤260) (hyl:y.l≤158∨z.l≤y.l+37) (hyl2:y.l≤1000) (hL:K.s.l≤549755000000) (hg:Glb w) {Q:Ending→World→Prop}
  (q:∀ (c r:Sl) (K':SK) w',Bank w' (stk K' :: nmz c (U/V) :: nmz r (U%V) :: L)→K'.a=K.a→K'.s.l=K.s.l→Nxt w K K'→From w z c→From w u r→Chg w w' (un (un (fp z) (fp u)) K.free)→Q (.returned (.tuple #[c.v,r.v])) w') :
  Calls Tryz.prog 81 #[z.v,.pointer K.a,u.v,z.v,y.v] w Q:=by
 have hk:StkAt w K:=h.head
 have zN:Nz w z U:=h.tail.head
 have uS:St w u:=h.tail.tail.head
 have yN:Nz w y V:=h.tail.tail.tail.all _ hy
 have dz:Dj K.free (fp z):=h.hdj (b:=nmz z U) (by simp)
 have du:Dj K.free (fp u):=h.hdj (b:=sto u) (by simp)
 have dy:Dj K.free (fp y):=h.hdj (b:=nmz y V) (by simp [hy])
 have dzu:Dj (fp z) (fp u):=h.tail.hdj (b:=sto u) (by simp)
 have szu:=dzu.spc
 have sua:Sep u z:=(Dj.al dzu.symm zN.toSt).sep
 have key:Calls Tryz.prog 81 #[z.v,.pointer K.a,u.v,z.v,y.v] w fun e w'=>∃ v,e=.returned v∧DivR w K z u U V v w':=by
  rcases Nat.lt_or_ge y.l 40 with h40 | h40
  ·exact c81 K z u z y U V w hk zN.toSt uS zN yN hV h40 (by omega) szu (by unfold Sep; omega) sua dz.off du.off (dz.offl zN.toSt) (dy.offl yN.toSt) (by omega) hg
  ·exact c81g K z u z y U V w hk zN.toSt uS zN yN hV h40 hyl (by omega) szu (by unfold Sep; omega) sua dz.off du.off (dz.offl zN.toSt) (dy.offl yN.toSt) (by omega) hg
 refine key.mono ?_
 rintro e w' ⟨_,rfl,c,r,K',rfl,p1,p2,p3,p4,p5,p6,p7,p8,p9,p10,_,_,p13⟩
 refine q c r K' w' ?_ (by unfold SK.a; rw [p7.p]) p8 p7 p3 p4 p13
 refine Bank.updN (A:=[stk K,nmz z U,sto u]) (A':=[stk K',nmz c (U/V),nmz r (U%V)]) h p13 (fun b i _ hm=>?_) (Bank.three p6 p1 p2 p9.dj p10.dj p5.dj) fun a' ha' b i hb hf=>?_
 ·rcases hm with (hm | hm) | hm
  ·exact ⟨nmz z U,by simp,hm⟩
  ·exact ⟨sto u,by simp,hm⟩
  ·exact ⟨stk K,by simp,hm⟩
 ·simp only [List.mem_cons,List.not_mem_nil,or_false] at ha'
  rcases ha' with rfl | rfl | rfl
  ·exact ⟨stk K,by simp,stk_sub p7 b i hb hf⟩
  ·exact ⟨nmz z U,by simp,from_sub p3 b i hb hf⟩
  ·exact ⟨sto u,by simp,from_sub p4 b i hb hf⟩
theorem blen_lt_lt {V Q:Nat} (h:blen V<blen Q):V<Q:=by
 rcases Nat.lt_or_ge V Q with h1 | h1
 ·exact h1
 ·have:=blen_mono h1; omega
theorem fig_part {b Q A n m i:Nat} (hA:A=Q/b^(n-m)) (hm:m≤n) (hi:i<m):fig b m A i=fig b n Q i:=by
 unfold fig fgs
 rw [hA,div_pow,show n-m+(m-1-i)=n-1-i by omega]
theorem fig_mid {b Q A n m d i:Nat} (hA:A=Q/b^(n-m)) (hm:m≤n) (hd:d≤m) (hi:i<d):fig b d (A%b^d) i=fig b n Q (m-d+i):=by
 unfold fig fgs
 rw [mod_digit (by omega),hA,div_pow,show n-m+(d-1-i)=n-1-(m-d+i) by omega]
def D61 (tl:Nat):Prop:=∀ (w:World) (K:SK) (qs s:Sl) (g:Nat→Value) (Q tc:Nat) (ta:Option Addr) (tb b nd bb k:Nat) (r:Nat→Sl) (d:Nat→Nat) (f:Nat→Value) (L:List Item),
 Bank w (stk K :: seg s g :: nmz qs Q :: row tb (k*3) f :: (ents b r d k++L))→ta=some ⟨tb,0,none⟩→tl≤k→tl≤tc→TabF b r d k f→EntOk b r d k→k≤6→Q<b^s.l→s.l≤1000000→(tl=0→qs.l≤8)→qs.l≤260 →
 2≤b→b≤62→bb=b^nd→bb<BB→1≤nd∧nd≤64→K.s.l≤549755000000→Glc w→∀ P:Ending→World→Prop,
 (∀ (K':SK) w',Bank w' (stk K' :: seg s (fig b s.l Q) :: sto qs :: row tb (k*3) f :: (ents b r d k++L))→K'.a=K.a→K'.s.l=K.s.l→Nxt w K K'→Chg w w' (un (un (wds s) (fp qs)) K.free)→P (.returned undef) w') →
 Calls Tryz.prog 61 #[qs.v,.pointer K.a,s.v,.int .u64 (b:Int),.int .i64 (nd:Int),.int .u64 (bb:Int),.slice ta tl tc] w P
structure LJ (w0:World) (K:SK) (qs s:Sl) (Q tb b k tl:Nat) (r:Nat→Sl) (d:Nat→Nat) (f:Nat→Value) (L:List Item) (w:World) (K':SK) (qx rx:Sl) (sl:Nat) (g:Nat→Value):Prop where
 bank:Bank w (stk K' :: seg s g :: nmz qx (Q/b^(s.l-sl)) :: sto rx :: row tb (k*3) f :: (ents b r d k++L))
 slb:sl≤s.l
 dn:Done b Q s sl g
 ql:qx.l≤260
 qo:∀ b i,b<w0.heap.size→fp qx b i→fp qs b i
 ro:∀ b i,b<w0.heap.size→¬fp rx b i
 ka:K'.a=K.a
 kl:K'.s.l=K.s.l
 nx:Nxt w0 K K'
 ch:Chg w0 w (un (un (wds s) (fp qs)) K.free)
section
variable {w0 w:World} {K K':SK} {qs s qx rx:Sl} {Q tb b nd bb k tl tc sl idx:Nat} {ta:Option Addr} {r:Nat→Sl} {d:Nat→Nat} {f g:Nat→Value} {L:List Item}
theorem step23 (h:LJ w0 K qs s Q tb b k tl r d f L w K' qx rx sl g) (ih:D61 idx) (hix:idx<tl) (htk:tl≤k) (htc:tl≤tc) (hta:ta=some ⟨tb,0,none⟩) (tf:TabF b r d k f) (ok:EntOk b r d k) (hk6:k≤6) (hQ:Q<b^s.l) (hsl:s.l≤1000000) (hb2:2≤b) (hb62:b≤62) (hbb:bb=b^nd) (hbb1:bb<BB) (hnd:1≤nd∧nd≤64) (hL:K.s.l≤549755000000) (hg:Glc w0)
  (hlt:b^d idx<Q/b^(s.l-sl)) {e:Env} {K0:Kont} (ha:agree e (F61.l23 qx.a qx.l qx.c K.a s.a sl s.c b nd bb ta tl tc rx.a rx.l rx.c idx))
  (q:∀ e' w' K'' qx' rx' sl' g',LJ w0 K qs s Q tb b k tl r d f L w' K'' qx' rx' sl' g'→sl'<sl→agree e' (F61.l2 qx'.a qx'.l qx'.c K.a s.a sl' s.c b nd bb ta tl tc rx'.a rx'.l rx'.c idx)→e'.defers=e.defers→K0 .normal e' w') :
  W Tryz.prog 184 F61.p23 e w K0:=by
 have hik:idx<k:=by omega
 have hsl':=h.slb
 have R0:RowAt w tb (k*3) f:=h.bank.tail.tail.tail.tail.head
 have hlen:=ok.len idx hik
 have hup:=ok.up idx hik
 have hlo:=ok.lo idx hik
 have hp2:2^idx≤2^5:=Nat.pow_le_pow_right (by omega) (by omega)
 have hp0:0<2^idx:=Nat.two_pow_pos idx
 have hQb:Q/b^(s.l-sl)<b^sl:=by
  rw [Nat.div_lt_iff_lt_mul (Nat.pow_pos (by omega)),←Nat.pow_add,show sl+(s.l-sl)=s.l by omega]; exact hQ
 have hdsl:d idx<sl:=(Nat.pow_lt_pow_iff_right (show 1<b by omega)).1 (Nat.lt_trans hlt hQb)
 have hV0:b^d idx≠0:=Nat.ne_of_gt (Nat.pow_pos (by omega))
 have hd1:1≤d idx:=by
  rcases Nat.eq_zero_or_pos (d idx) with h0 | h0
  ·rw [h0,Nat.pow_zero,Nat.one_mul] at hup
   have:BB^1≤BB^(8*2^idx):=Nat.pow_le_pow_right BB_pos (by omega)
   rw [Nat.pow_one] at this
   have hB:BB=18446744073709551616:=rfl
   omega
  ·exact h0
 have e0:0+idx*3+0=idx*3:=by omega
 have e2:0+idx*3+2=idx*3+2:=by omega
 subst hta
 refine F61.t23 qx.a qx.l qx.c K.a s.a sl s.c b nd bb (some ⟨tb,0,none⟩) tl tc rx.a rx.l rx.c idx ha fun B1=>⟨tb,0,rfl,idx,rfl,hix,(r idx).a,(r idx).l,(r idx).c,by rw [e0,R0.cell _ (by omega),tf.c0 idx hik],?_⟩
 have hgw:=h.ch.glc hg
 have hkl:=h.kl
 have bd:Bank w (stk K' :: nmz qx (Q/b^(s.l-sl)) :: sto rx :: (seg s g :: row tb (k*3) f :: (ents b r d k++L))):=h.bank.pick 5 [0,2,3,1,4] rfl
 have hmem:nmz (r idx) (b^d idx)∈(seg s g :: row tb (k*3) f :: (ents b r d k++L)):=by
  have:=ents_mem (b:=b) (r:=r) (d:=d) hik
  simp [this]
 have hql:=h.ql
 have hc5:idx≤4∨idx=5:=by omega
 rw [←h.ka]
 refine divQ bd hmem hV0 hql ?_ (by omega) (by omega) hgw.toGlb fun q2 r2 K2 w2 b2 ka2 kl2 nx2 f2 fr2 c2=>?_
 ·rcases hc5 with h5 | h5
  ·have:2^idx≤2^4:=Nat.pow_le_pow_right (by omega) h5
   exact .inl (by omega)
  ·subst h5
   have:8*2^5=256:=by decide
   exact .inr (by omega)
 have R2:RowAt w2 tb (k*3) f:=b2.tail.tail.tail.tail.head
 have cd:Chg w2 w2.drew none2:=Chg.drew0 w2 _
 refine ⟨_,_,_,trivial,_,_,_,trivial,rfl,tb,0,rfl,idx,rfl,hix,(d idx:Int),by rw [e2,R2.cell _ (by omega),tf.c2 idx hik],by unfold inI64; omega,sl-d idx,by omega,by omega,0,idx,rfl,rfl,Nat.zero_le _,by omega,?_⟩
 have b3:Bank w2.drew (seg s g :: stk K2 :: nmz r2 (Q/b^(s.l-sl)%b^d idx) :: row tb (k*3) f :: nmz q2 (Q/b^(s.l-sl)/b^d idx) :: (ents b r d k++L)):=(b2.none cd).pick 5 [3,0,2,4,1] rfl
 have b4:=b3.segSplit hsl'
 have b5:=b4.segSplit (s:=s.to sl) (k:=sl-d idx) (by show sl-d idx≤sl; omega)
 have b6:Bank w2.drew (stk K2 :: seg ((s.to sl).sub (sl-d idx) sl) (fun i=>g (sl-d idx+i)) :: nmz r2 (Q/b^(s.l-sl)%b^d idx) :: row tb (k*3) f :: nmz q2 (Q/b^(s.l-sl)/b^d idx) :: seg ((s.to sl).to (sl-d idx)) g :: seg (s.sub sl s.l) (fun i=>g (sl+i)) :: (ents b r d k++L)):=b5.pick 7 [3,1,4,5,6,0,2] rfl
 have b7:Bank w2.drew (stk K2 :: seg ((s.to sl).sub (sl-d idx) sl) (fun i=>g (sl-d idx+i)) :: nmz r2 (Q/b^(s.l-sl)%b^d idx) :: row tb (k*3) f :: (ents b r d k++(nmz q2 (Q/b^(s.l-sl)/b^d idx) :: seg ((s.to sl).to (sl-d idx)) g :: seg (s.sub sl s.l) (fun i=>g (sl+i)) :: L))) :=
  b6.perm ((List.Perm.cons _ (List.Perm.cons _ (List.Perm.cons _ (List.Perm.cons _ (by
   have h1:=(List.perm_append_comm (l₁:=ents b r d k) (l₂:=[nmz q2 (Q/b^(s.l-sl)/b^d idx),seg ((s.to sl).to (sl-d idx)) g,seg (s.sub sl s.l) (fun i=>g (sl+i))])).append_right L
   simpa using h1.symm))))))
 have hsz:w0.heap.size≤w2.drew.heap.size:=Nat.le_trans h.ch.size c2.size
 have rN:Nz w2.drew r2 (Q/b^(s.l-sl)%b^d idx):=b7.tail.tail.head
 have hrV:Q/b^(s.l-sl)%b^d idx<b^d idx:=Nat.mod_lt _ (Nat.pos_of_ne_zero hV0)
 have hr2l:r2.l≤8*2^idx:=rN.nm _ (Nat.lt_trans hrV hlo)
 have chA:Chg w0 w2.drew (un (un (wds s) (fp qs)) K.free):=(h.ch.via c2 fun x i hx hm=>by
  rcases hm with (hm | hm) | hm
  ·exact .inl (.inr (h.qo x i hx hm))
  ·exact (h.ro x i hx hm).elim
  ·exact .inr (h.nx.free hx hm)).via cd fun _ _ _ h=>h.elim
 rw [←ka2]
 refine ih w2.drew K2 r2 ((s.to sl).sub (sl-d idx) sl) _ _ tc _ tb b nd bb k r d f _ b7 (shifted_zero ..) (by omega) (by omega) tf ok hk6 (by show _<b^(sl-(sl-d idx)); rw [show sl-(sl-d idx)=d idx by omega]; exact hrV) (by show sl-(sl-d idx)≤_; omega) (fun h0=>by subst h0; omega) (by omega) hb2 hb62 hbb hbb1 hnd (by omega) (chA.glc hg) _ fun K3 w3 b8 ka3 kl3 nx3 c3=>⟨rfl,sl-d idx,by omega,by show sl-d idx≤s.c; have:=(h.bank.tail.head:SegAt w s g).lc; omega,fun B2=>?_⟩
 have mids:∀ x i,wds ((s.to sl).sub (sl-d idx) sl) x i→wds s x i:=fun x i hm=>⟨hm.1,by have:s.o+(sl-d idx)≤i:=hm.2.1; omega,by have:i<s.o+(sl-d idx)+(sl-(sl-d idx)):=hm.2.2; omega⟩
 have r2new:∀ x i,x<w0.heap.size→¬fp r2 x i:=fun x i hx hm=>by
  exact h.ro x i hx (from_old (fr2.later (w:=w0) h.ch) (S:=fp rx) (fun _ _ _ h=>h) x i hx hm)
 have hnx2:Nxt w0 K K2:=h.nx.trans nx2 h.ch.size
 have chB:Chg w0 w3 (un (un (wds s) (fp qs)) K.free):=chA.via c3 fun x i hx hm=>by
  rcases hm with (hm | hm) | hm
  ·exact .inl (.inl (mids x i hm))
  ·exact (r2new x i hx hm).elim
  ·exact .inr (hnx2.free hx hm)
 have b9:Bank w3 (stk K3 :: seg ((s.to sl).sub (sl-d idx) sl) (fig b ((s.to sl).sub (sl-d idx) sl).l (Q/b^(s.l-sl)%b^d idx)) :: sto r2 :: row tb (k*3) f :: (nmz q2 (Q/b^(s.l-sl)/b^d idx) :: seg ((s.to sl).to (sl-d idx)) g :: seg (s.sub sl s.l) (fun i=>g (sl+i)) :: (ents b r d k++L))) :=
  b8.perm ((List.Perm.cons _ (List.Perm.cons _ (List.Perm.cons _ (List.Perm.cons _ (by
   have h1:=(List.perm_append_comm (l₁:=ents b r d k) (l₂:=[nmz q2 (Q/b^(s.l-sl)/b^d idx),seg ((s.to sl).to (sl-d idx)) g,seg (s.sub sl s.l) (fun i=>g (sl+i))])).append_right L
   simpa using h1))))))
 have b10:Bank w3 (seg ((s.to sl).to (sl-d idx)) g :: seg ((s.to sl).sub (sl-d idx) (s.to sl).l) (fig b ((s.to sl).sub (sl-d idx) sl).l (Q/b^(s.l-sl)%b^d idx)) :: seg (s.sub sl s.l) (fun i=>g (sl+i)) :: stk K3 :: sto r2 :: row tb (k*3) f :: nmz q2 (Q/b^(s.l-sl)/b^d idx) :: (ents b r d k++L)):=b9.pick 7 [5,1,6,0,2,3,4] rfl
 have hml:((s.to sl).sub (sl-d idx) sl).l=d idx:=by show sl-(sl-d idx)=d idx; omega
 rw [hml] at b10
 obtain ⟨gn,hgn⟩:∃ gn:Nat→Value,gn=fun i=>if i<sl-d idx then g i else if i<sl then fig b s.l Q i else g i:=⟨_,rfl⟩
 have b11:=b10.segJoin (e:=gn) (by show sl-d idx≤sl; omega) (fun i hi=>by rw [hgn]; simp only [hi,if_true]) (fun i hi=>by
  have hi:i<sl-(sl-d idx):=hi
  rw [hgn]
  simp only
  rw [if_neg (by omega),if_pos (by omega)]
  exact (fig_mid (m:=sl) rfl hsl' (by omega) (by omega)).symm)
 have b12:=b11.segJoin (e:=gn) hsl' (fun i hi=>rfl) (fun i hi=>by rw [hgn]; simp only; rw [if_neg (by omega),if_neg (by omega)])
 have b13:Bank w3 (stk K3 :: seg s gn :: nmz q2 (Q/b^(s.l-sl)/b^d idx) :: sto r2 :: row tb (k*3) f :: (ents b r d k++L)):=b12.pick 5 [1,0,4,2,3] rfl
 have eqn:Q/b^(s.l-sl)/b^d idx=Q/b^(s.l-(sl-d idx)):=by rw [div_pow,show s.l-sl+d idx=s.l-(sl-d idx) by omega]
 rw [eqn] at b13
 have q2N:Nz w3 q2 (Q/b^(s.l-(sl-d idx))):=b13.tail.tail.head
 have qN:Nz w qx (Q/b^(s.l-sl)):=h.bank.tail.tail.head
 refine q _ w3 K3 q2 r2 (sl-d idx) gn ⟨b13,by omega,fun j h1 h2=>?_,?_,fun x i hx hm=>h.qo x i hx (from_old (f2.later (w:=w0) h.ch) (S:=fp qx) (fun _ _ _ h=>h) x i hx hm),r2new,by rw [ka3,ka2,h.ka],by omega,hnx2.trans nx3 hsz,chB⟩ (by omega) (by rw [ka2,h.ka]; exact ⟨rfl,rfl,rfl,rfl,rfl,rfl,rfl,rfl,rfl,trivial⟩) rfl
 ·rw [hgn]
  simp only
  rw [if_neg (by omega)]
  by_cases hj:j<sl
  ·rw [if_pos hj]
  ·rw [if_neg hj]; exact h.dn j (by omega) h2
 ·refine Nat.le_trans (q2N.nm qx.l (Nat.lt_of_le_of_lt ?_ qN.lt)) hql
  rw [←eqn]; exact Nat.div_le_self _ _
end
end Go.Proofs.YtlkjiiibmfpbcaaGreatDoor
