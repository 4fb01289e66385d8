/- Contracts: convertWords. Conditions: bases 2 to 62; at most 260 words; the number fits the buffer. -/
import Derived.Test.YtlkjiiibmfpbcaaGreatDoorS37
import Derived.Test.YtlkjiiibmfpbcaaGreatDoorS05
namespace Go.Proofs.YtlkjiiibmfpbcaaGreatDoor
open Go
section
variable {w0 w:World} {K K':SK} {qs s qx rx:Sl} {Q tb b nd bb k tl tc sl idx:Nat} {ta:Option Addr} {r:Nat→Sl} {d:Nat→Nat} {f g:Nat→Value} {L:List Item}
theorem step10 (h:LJ w0 K qs s Q tb b k tl r d f L w K' qx rx sl g) (ih:∀ i,i<tl→D61 i) (hix:idx<tl) (htk:tl≤k) (htc:tl≤tc) (hta:ta=some ⟨tb,0,none⟩) (tf:TabF b r d k f) (ok:EntOk b r d k) (hk6:k≤6) (hQ:Q<b^s.l) (hsl:s.l≤1000000) (hb2:2≤b) (hb62:b≤62) (hbb:bb=b^nd) (hbb1:bb<BB) (hnd:1≤nd∧nd≤64) (hL:K.s.l≤549755000000) (hg:Glc w0)
  (hq8:8<qx.l) {e:Env} {K0:Kont} (ha:agree e (F61.l10 qx.a qx.l qx.c K.a s.a sl s.c b nd bb ta tl tc rx.a rx.l rx.c idx))
  (q:∀ e' w' K'' qx' rx' sl' g' idx',LJ w0 K qs s Q tb b k tl r d f L w' K'' qx' rx' sl' g'→sl'<sl→idx'<tl→agree e' (F61.l2 qx'.a qx'.l qx'.c K.a s.a sl' s.c b nd bb ta tl tc rx'.a rx'.l rx'.c (idx':Nat))→e'.defers=e.defers→K0 .normal e' w') :
  W Tryz.prog 184 F61.p10 e w K0:=by
 have qN:Nz w qx (Q/b^(s.l-sl)):=h.bank.tail.tail.head
 have R0:RowAt w tb (k*3) f:=h.bank.tail.tail.tail.tail.head
 have hql:=h.ql
 obtain ⟨Qx,hQx⟩:∃ Qx,Qx=Q/b^(s.l-sl):=⟨_,rfl⟩
 have hbl1:∀ M,qx.l≤M→blen Qx≤64*M:=fun M hM=>blen_le_of_lt (by rw [hQx,←BB2]; exact lt_pow_of_le qN.lt hM)
 have hbl:blen Qx≤64*260:=hbl1 260 hql
 have hQ8:BB^8≤Qx:=by
  have:=qN.nm.le (by omega)
  rw [←hQx] at this
  exact Nat.le_trans (Nat.pow_le_pow_right BB_pos (by omega)) this
 have hbl0:1≤blen Qx:=Nat.pos_of_ne_zero (blen_ne _ (by have:=BBpow_pos 8; omega))
 have eS:iShr .i64 (blen Qx:Int) 1=((blen Qx/2:Nat):Int):=iShrI (blen Qx) 1 (by omega)
 refine F61.t10 qx.a qx.l qx.c K.a s.a sl s.c b nd bb ta tl tc rx.a rx.l rx.c idx ha fun B1=>(c53 qx _ w qN (by unfold Len; omega)).mono ?_
 rintro e1 w1 ⟨_,rfl,rfl,hw⟩
 have hw:=hw.symm
 subst hw
 rw [←hQx]
 refine ⟨_,rfl,by omega,fun B2=>?_⟩
 subst hta
 have fin:∀ (e2:Env) (i:Nat),i<tl→b^d i<Qx→agree e2 (F61.l23 qx.a qx.l qx.c K.a s.a sl s.c b nd bb (some ⟨tb,0,none⟩) tl tc rx.a rx.l rx.c i)→e2.defers=e.defers→W Tryz.prog 184 F61.p23 e2 w K0:=by
  intro e2 i hi hlt ha2 hd2
  refine step23 h (ih i hi) hi htk htc rfl tf ok hk6 hQ hsl hb2 hb62 hbb hbb1 hnd hL hg (by rw [←hQx]; exact hlt) ha2 fun e' w' K'' qx' rx' sl' g' h1 h2 h3 h4=>q e' w' K'' qx' rx' sl' g' i h1 h2 hi h3 (h4.trans hd2)
 rw [F61.q18]
 refine W_for' (σ:=Nat) (fun i=>F61.l17 qx.a qx.l qx.c K.a s.a sl s.c b nd bb (some ⟨tb,0,none⟩) tl tc rx.a rx.l rx.c i (blen Qx) (blen Qx/2:Nat)) (fun i w'=>i<tl∧w'=w) (fun i=>i) idx ⟨rfl,rfl,rfl,rfl,rfl,rfl,rfl,rfl,rfl,rfl,intv eS,trivial⟩ ⟨hix,rfl⟩ ?_
 rintro i B3 w2 K1 ⟨hi,hw⟩ hnext hexit -
 subst hw
 have e1:∀ j,0+j*3+1=j*3+1:=fun j=>by omega
 have e0:∀ j,0+j*3+0=j*3:=fun j=>by omega
 have after:∀ (e2:Env),(i=0∨blen (b^d (i-1))≤blen Qx/2)→agree e2 (F61.l16 qx.a qx.l qx.c K.a s.a sl s.c b nd bb (some ⟨tb,0,none⟩) tl tc rx.a rx.l rx.c i (blen Qx))→e2.defers=e.defers→W Tryz.prog 184 F61.p16 e2 w2 K0:=by
  intro e2 hprev ha2 hd2
  refine F61.t16 qx.a qx.l qx.c K.a s.a sl s.c b nd bb (some ⟨tb,0,none⟩) tl tc rx.a rx.l rx.c i (blen Qx) ha2 fun B4=>⟨tb,0,rfl,i,rfl,hi,(blen (b^d i):Int),by rw [e1,R0.cell _ (by omega),tf.c1 i (by omega)],bc_intro (fun hb=>⟨tb,0,rfl,i,rfl,hi,(r i).a,(r i).l,(r i).c,by rw [e0,R0.cell _ (by omega),tf.c0 i (by omega)],?_⟩) (fun hb B5=>?_)⟩
  ·have vN:Nz w2 (r i) (b^d i):=h.bank.tail.tail.tail.tail.tail.all (nmz (r i) (b^d i)) (by
    have:=ents_mem (b:=b) (r:=r) (d:=d) (show i<k by omega)
    simp [this])
   refine (c92 (r i) qx _ _ w2 vN qN).mono ?_
   rintro e3 w3 ⟨_,rfl,rfl,hc3⟩
   have h3:LJ w0 K qs s Q tb b k tl r d f L w3 K' qx rx sl g:=⟨h.bank.none hc3,h.slb,h.dn,h.ql,h.qo,h.ro,h.ka,h.kl,h.nx,h.ch.via hc3 fun _ _ _ h=>h.elim⟩
   have fin3:∀ (e2:Env) (i:Nat),i<tl→b^d i<Qx→agree e2 (F61.l23 qx.a qx.l qx.c K.a s.a sl s.c b nd bb (some ⟨tb,0,none⟩) tl tc rx.a rx.l rx.c i)→e2.defers=e.defers→W Tryz.prog 184 F61.p23 e2 w3 K0:=by
    intro e2 i hi hlt ha2 hd2
    refine step23 h3 (ih i hi) hi htk htc rfl tf ok hk6 hQ hsl hb2 hb62 hbb hbb1 hnd hL hg (by rw [←hQx]; exact hlt) ha2 fun e' w' K'' qx' rx' sl' g' h1 h2 h3 h4=>q e' w' K'' qx' rx' sl' g' i h1 h2 hi h3 (h4.trans hd2)
   rw [←hQx]
   refine ⟨_,rfl,bc_intro (fun hb2'=>⟨by unfold inI64; omega,?_⟩) (fun hb2' B5=>?_)⟩
   ·have hge:Qx≤b^d i:=by
     have h1:=dT hb2'
     rcases Nat.lt_or_ge (b^d i) Qx with h2 | h2
     ·unfold sgn at h1; rw [if_pos h2] at h1; omega
     ·exact h2
    have hi0:i≠0:=fun h0=>by
     subst h0
     have:=ok.lo 0 (by omega)
     rw [Nat.pow_zero,Nat.mul_one] at this
     omega
    have hp:=hprev.resolve_left hi0
    have hlt:b^d (i-1)<Qx:=blen_lt_lt (by omega)
    refine bc_false (decF (by omega)) fun B5=>fin3 _ (i-1) (by omega) hlt ⟨rfl,rfl,rfl,rfl,rfl,rfl,rfl,rfl,intv (by omega),trivial⟩ hd2
   ·have hlt:b^d i<Qx:=by
     have h1:=dF hb2'
     rcases Nat.lt_or_ge (b^d i) Qx with h2 | h2
     ·exact h2
     ·exfalso
      apply h1
      unfold sgn
      rw [if_neg (by omega)]
      split <;> omega
    exact fin3 _ i hi hlt ⟨rfl,rfl,rfl,rfl,rfl,rfl,rfl,rfl,rfl,trivial⟩ hd2
  ·have hlt:b^d i<Qx:=blen_lt_lt (by have:=dF hb; omega)
   exact fin _ i hi hlt ⟨rfl,rfl,rfl,rfl,rfl,rfl,rfl,rfl,rfl,trivial⟩ hd2
 refine F61.t17 qx.a qx.l qx.c K.a s.a sl s.c b nd bb (some ⟨tb,0,none⟩) tl tc rx.a rx.l rx.c i (blen Qx) (blen Qx/2:Nat) ⟨rfl,rfl,rfl,rfl,rfl,rfl,rfl,rfl,rfl,rfl,rfl,trivial⟩ fun B4=>bc_intro (fun hb=>?_) (fun hb B5=>hexit _ _ (after _ (.inl (by have:=dF hb; omega)) ⟨rfl,rfl,rfl,rfl,rfl,rfl,rfl,rfl,rfl,rfl,trivial⟩ rfl))
 obtain ⟨p,rfl⟩:∃ p,i=p+1:=⟨i-1,by have:=dT hb; omega⟩
 refine ⟨by unfold inI64; omega,tb,0,rfl,p,by omega,by omega,(blen (b^d p):Int),by rw [e1,R0.cell _ (by omega),tf.c1 p (by omega)],bc_intro (fun hb2'=>⟨by unfold inI64; omega,fun B5=>hnext _ _ p ⟨rfl,rfl,rfl,rfl,rfl,rfl,rfl,rfl,intv (by omega),rfl,rfl,trivial⟩ rfl ⟨by omega,rfl⟩ (by omega)⟩) (fun hb2' B5=>hexit _ _ (after _ (.inr ?_) ⟨rfl,rfl,rfl,rfl,rfl,rfl,rfl,rfl,rfl,rfl,trivial⟩ rfl))⟩
 have:=dF hb2'
 show blen (b^d p)≤_
 omega
end
theorem d61 (tl:Nat):D61 tl:=by
 induction tl using Nat.strongRecOn with
 | ind tl ih =>
 intro w K qs s g Q tc ta tb b nd bb k r d f L hb hta htk htc tf ok hk6 hQ hsl hq0 hq260 hb2 hb62 hbb hbb1 hnd hL hg P q
 have qN:Nz w qs Q:=hb.tail.tail.head
 refine (F61.call qs.a qs.l qs.c K.a s.a s.l s.c b nd bb ta tl tc w (fun v w'=>v=undef∧P (.returned undef) w') fun B=>?_).mono fun e w' ⟨v,h1,h2,h3⟩=>by rw [h1,h2]; exact h3
 refine bc_true (by rw [hta]; rfl) ⟨by unfold inI64; omega,fun B1=>?_⟩
 rw [F61.q3]
 have fin:∀ (e:Env) (w1:World) (K1:SK) (qx rx:Sl) (sl:Nat) (g1:Nat→Value),LJ w K qs s Q tb b k tl r d f L w1 K1 qx rx sl g1→agree e (F61.l1 qx.a qx.l qx.c s.a sl s.c b nd bb)→e.defers=[]→W Tryz.prog 184 F61.p1 e w1 (retK Tryz.prog [] fun v w'=>v=undef∧P (.returned undef) w'):=by
  intro e w1 K1 qx rx sl g1 h ha hd
  have hslb:=h.slb
  have b1:Bank w1 (seg s g1 :: stk K1 :: nmz qx (Q/b^(s.l-sl)) :: row tb (k*3) f :: (ents b r d k++L)):=h.bank.pick 5 [1,0,2,4] rfl
  have b2:=b1.segSplit hslb
  have b3:Bank w1 (seg (s.to sl) g1 :: nmz qx (Q/b^(s.l-sl)) :: (seg (s.sub sl s.l) (fun i=>g1 (sl+i)) :: stk K1 :: row tb (k*3) f :: (ents b r d k++L))):=b2.pick 5 [0,3,1,2,4] rfl
  have hQb:Q/b^(s.l-sl)<b^sl:=by
   rw [Nat.div_lt_iff_lt_mul (Nat.pow_pos (by omega)),←Nat.pow_add,show sl+(s.l-sl)=s.l by omega]; exact hQ
  have hql:=h.ql
  refine small61 (s:=s.to sl) b3 (by show sl≤_; omega) hQb hb2 hb62 hbb hbb1 hnd (by unfold Len; omega) ha fun e' w2 b4 c4 hd2=>?_
  have b5:=b4.segJoin (e:=fig b s.l Q) hslb (fun i hi=>(fig_part rfl hslb hi).symm) (fun i hi=>(h.dn (sl+i) (by omega) (by omega)).symm)
  have c4':Chg w w2 (un (un (wds s) (fp qs)) K.free):=h.ch.via c4 fun x i hx hm=>by
   rcases hm with hm | hm
   ·exact .inl (.inl (cut_lo hslb x i hm))
   ·exact .inl (.inr (h.qo x i hx hm))
  have hk2:StkAt w2 K1:=b5.tail.head
  refine ret0 (hd2.trans hd) ⟨rfl,q K1 w2 ?_ h.ka h.kl h.nx c4'⟩
  have hs2:SegAt w2 s (fig b s.l Q):=b5.head
  have dsq:Dj (wds s) (fp qs):=hb.tail.hdj (b:=nmz qs Q) (by simp)
  have d1:Dj K1.free (wds s):=fun x i h1 h2=>hb.hdj (b:=seg s g) (by simp) x i (h.nx.free ((seg s g).old hb.tail.head h2) h1) h2
  have d2:Dj K1.free (fp qs):=fun x i h1 h2=>hb.hdj (b:=nmz qs Q) (by simp) x i (h.nx.free ((nmz qs Q).old qN h2) h1) h2
  refine Bank.updN (A:=[stk K,seg s g,nmz qs Q]) (A':=[stk K1,seg s (fig b s.l Q),sto qs]) hb c4' (fun x i _ hm=>?_) (Bank.three hk2 hs2 (c4'.st qN.toSt) d1 d2 dsq) fun a' ha' x i hx hf=>?_
  ·rcases hm with (hm | hm) | hm
   ·exact ⟨seg s g,by simp,hm⟩
   ·exact ⟨nmz qs Q,by simp,hm⟩
   ·exact ⟨stk K,by simp,hm⟩
  ·simp only [List.mem_cons,List.not_mem_nil,or_false] at ha'
   rcases ha' with rfl | rfl | rfl
   ·exact ⟨stk K,by simp,stk_sub h.nx x i hx hf⟩
   ·exact ⟨seg s g,by simp,hf⟩
   ·exact ⟨nmz qs Q,by simp,hf⟩
 have lj0:LJ w K qs s Q tb b k tl r d f L w K qs (nilS w) s.l g:={
  bank:=by
   rw [Nat.sub_self,Nat.pow_zero,Nat.div_one]
   have hn:Bank w (sto (nilS w) :: (stk K :: seg s g :: nmz qs Q :: row tb (k*3) f :: (ents b r d k++L))):=by
    refine hb.new (Chg.refl _ _) (nilSt w hg.gb) fun x i hm=>?_
    have h1:0≤i:=hm.2.1
    have h2:i<0+0:=hm.2.2
    omega
   exact hn.pick 5 [1,2,3,0,4] rfl
  slb:=Nat.le_refl _
  dn:=fun j h1 h2=>by omega
  ql:=hq260
  qo:=fun _ _ _ h=>h
  ro:=fun x i hx hm=>by
   have h1:0≤i:=hm.2.1
   have h2:i<0+0:=hm.2.2
   omega
  ka:=rfl
  kl:=rfl
  nx:=Nxt.refl _ _
  ch:=Chg.refl _ _ }
 refine W_for' (σ:=Sl × Sl × Nat × Int) (fun x=>F61.l2 x.1.a x.1.l x.1.c K.a s.a x.2.2.1 s.c b nd bb ta tl tc x.2.1.a x.2.1.l x.2.1.c x.2.2.2)
  (fun x w'=>(∃ K' g',LJ w K qs s Q tb b k tl r d f L w' K' x.1 x.2.1 x.2.2.1 g')∧((0≤x.2.2.2∧x.2.2.2<tl)∨x.1.l≤8)) (fun x=>x.2.2.1) (qs,nilS w,s.l,(tl:Int)-1) ⟨rfl,rfl,rfl,rfl,rfl,rfl,rfl,rfl,rfl,trivial⟩
  ⟨⟨K,g,lj0⟩,by
   rcases Nat.eq_zero_or_pos tl with h0 | h0
   ·exact .inr (hq0 h0)
   ·exact .inl ⟨by show 0≤(tl:Int)-1; omega,by show (tl:Int)-1<tl; omega⟩⟩ ?_
 rintro ⟨qx,rx,sl,ix⟩ B2 w1 K0 ⟨⟨K1,g1,h⟩,hix⟩ hnext hexit -
 simp only at h hix
 have hg1:=h.ch.glc hg
 refine F61.t2 qx.a qx.l qx.c K.a s.a sl s.c b nd bb ta tl tc rx.a rx.l rx.c ix ⟨rfl,rfl,rfl,rfl,rfl,rfl,rfl,rfl,rfl,trivial⟩ fun B3=>⟨8,hg1.t2,bc_intro (fun hb8 B4=>?_) (fun hb8 B4=>hexit _ _ ?_)⟩
 ·have hq8:8<qx.l:=by have:=dT hb8; omega
  rcases hix with ⟨i1,i2⟩ | hix
  ·obtain ⟨idx,rfl⟩:∃ idx:Nat,ix=idx:=⟨ix.toNat,by omega⟩
   rw [F61.q11]
   refine W_block ?_
   exact step10 h ih (by omega) htk htc hta tf ok hk6 hQ hsl hb2 hb62 hbb hbb1 hnd hL hg hq8 ⟨rfl,rfl,rfl,rfl,rfl,rfl,rfl,rfl,rfl,trivial⟩ fun e' w' K'' qx' rx' sl' g' idx' h1 h2 h3 h4 h5=>hnext e' w' (qx',rx',sl',(idx':Int)) h4 h5 ⟨⟨K'',g',h1⟩,.inl ⟨by show 0≤(idx':Int); omega,by show (idx':Int)<tl; omega⟩⟩ h2
  ·omega
 ·exact fin _ w1 K1 qx rx sl g1 h ⟨rfl,rfl,rfl,rfl,rfl,trivial⟩ rfl
theorem c61n {w:World} {K:SK} {qs s:Sl} {g:Nat→Value} {Q b nd bb:Nat} {L:List Item} (hb:Bank w (seg s g :: nmz qs Q :: L)) (sp:Option Addr) (hQ:Q<b^s.l) (hsl:s.l≤1000000) (lq:Len qs) (hb2:2≤b) (hb62:b≤62) (hbb:bb=b^nd) (hbb1:bb<BB) (hnd:1≤nd∧nd≤64) {P:Ending→World→Prop}
  (q:∀ w',Bank w' (seg s (fig b s.l Q) :: L)→Chg w w' (un (wds s) (fp qs))→P (.returned undef) w') :
  Calls Tryz.prog 61 #[qs.v,.pointer sp,s.v,.int .u64 (b:Int),.int .i64 (nd:Int),.int .u64 (bb:Int),.slice none 0 0] w P:=by
 refine (F61.call qs.a qs.l qs.c sp s.a s.l s.c b nd bb none 0 0 w (fun v w'=>v=undef∧P (.returned undef) w') fun B=>bc_false rfl fun B1=>?_).mono fun e w' ⟨v,h1,h2,h3⟩=>by rw [h1,h2]; exact h3
 exact small61 hb hsl hQ hb2 hb62 hbb hbb1 hnd lq ⟨rfl,rfl,rfl,rfl,rfl,trivial⟩ fun e' w2 b4 c4 hd2=>ret0 hd2 ⟨rfl,q w2 b4 c4⟩
end Go.Proofs.YtlkjiiibmfpbcaaGreatDoor
namespace Go.Proofs.YtlkjiiibmfpbcaaGreatDoor
open Go
set_option maxRecDepth 100000
set_option linter.unusedVariables false
namespace F41
noncomputable def body:Code:=bodyOf Tryz.f41
def kt:List (Nat × List Nat):=[(3,[0,1,2]),(8,[0,1,2,7]),(16,[0,1,7,8,10,11,12,13,14]),(17,[0,1,7,8,10,11,12,13,14]),(18,[0,1,7,8,10,11,12,13,14]),(23,[0,1,7,8,10,11,12,13,14]),(31,[1,7,8,10,11,12]),(42,[1,7,8]),(44,[1,7,8]),(47,[7,8])]
noncomputable def p1:Code:=sb 2 3 body
noncomputable def p2:Code:=sb 5 31 body
noncomputable def p3:Code:=sb 17 129916 body
noncomputable def p4:Code:=sb 15 32479 body
noncomputable def p5:Code:=sb 7 127 body
noncomputable def p6:Code:=sb 18 259828 body
noncomputable def p7:Code:=sb 16 64957 body
noncomputable def p8:Code:=sb 19 520188 body
noncomputable def p9:Code:=sb 17 130047 body
noncomputable def p10:Code:=sb 8 255 body
noncomputable def p11:Code:=sb 20 1039315 body
noncomputable def p12:Code:=sb 21 2078628 body
noncomputable def p13:Code:=sb 20 1039314 body
noncomputable def p14:Code:=sb 22 4157257 body
noncomputable def p15:Code:=sb 24 16629024 body
noncomputable def p16:Code:=sb 22 4157256 body
theorem q7:p7=.block 0 (.loop p6):=by kernel_rfl
theorem q13:p13=.block 1 p12:=by kernel_rfl
theorem q16:p16=.block 2 (.loop p15):=by kernel_rfl
theorem q4:p4=.block 4 (.loop p3):=by kernel_rfl
theorem q9:p9=.block 6 (.loop p8):=by kernel_rfl
variable (A0:Option Addr) (N0 C0:Nat) (L1:Bool) (I2 I7:Int) (A8:Option Addr) (N8 C8:Nat) (I10 I11 I12 I13 I14:Int)
abbrev l0:List (Nat × Value):=[eS 0 A0 N0 C0,eB 1 L1,eI 2 I2]
def v0:VP:=fun B ds w K=>bc (decide (I2<(2:Int))) False (bc (decide (I2>(62:Int))) False (Wd 176 p1 [eS 0 A0 N0 C0,eB 1 L1,eI 2 I2] ds w K))
theorem t0:VZ 176 body (l0 A0 N0 C0 L1 I2) (v0 A0 N0 C0 L1 I2):=tz kt [6] fun B ds w K=>by kernel_rfl
theorem call:VCl 41 [.tmp 6] #[.slice A0 N0 C0,.bool L1,.int .i64 I2] (v0 A0 N0 C0 L1 I2):=cz Tryz.func41 (by kernel_rfl) Tryz.ntmps41 Tryz.results41 (by kernel_rfl) (t0 A0 N0 C0 L1 I2)
abbrev l1:List (Nat × Value):=[eS 0 A0 N0 C0,eB 1 L1,eI 2 I2]
def v1:VP:=fun B ds w K=>bc ((N0:Int)==0) (∃ w1,∃ x2a,∃ x2l,∃ x2c,Sem.run Tryz.prog (Instr.buildSlice 55 1 #[(0,(.int .u8 48))]) w=.ok (.slice x2a x2l x2c) w1∧∃ w3,∃ x4a,∃ x4l,∃ x4c,Sem.run Tryz.prog (Go.convert 55 55 (.slice x2a x2l x2c)) w1=.ok (.slice x4a x4l x4c) w3∧Kd K .ret [eS 6 x4a x4l x4c] ds w3) (Cl 53 #[(.slice A0 N0 C0)] w fun r6 w7=>∃ x8,r6=.returned (.int .i64 x8)∧∃ w9,∃ x10,Sem.run Tryz.prog (Go.convert 3 80 (.int .i64 x8)) w7=.ok (.float .f64 x10) w9∧∃ w11,∃ x12,Sem.run Tryz.prog (Go.convert 3 80 (.int .i64 I2)) w9=.ok (.float .f64 x12) w11∧Cl 54 #[(.float .f64 x12)] w11 fun r13 w14=>∃ x15,r13=.returned (.float .f64 x15)∧∃ w16,∃ x17,Sem.run Tryz.prog (do eqGuard .quo 80 (Operand.tmp 34) (Operand.tmp 37) (.float .f64 x10) (.float .f64 x15); Go.binOp .quo 80 (.float .f64 x10) (.float .f64 x15)) w14=.ok (.float .f64 x17) w16∧∃ w18,∃ x19,Sem.run Tryz.prog (Go.convert 80 3 (.float .f64 x17)) w16=.ok (.int .i64 x19) w18∧inI64 (x19+1)∧bc L1 (inI64 ((x19+1)+1)∧Wd 176 p2 [eS 0 A0 N0 C0,eB 1 L1,eI 2 I2,eI 7 ((x19+1)+1)] ds w18 K) (Wd 176 p2 [eS 0 A0 N0 C0,eB 1 L1,eI 2 I2,eI 7 (x19+1)] ds w18 K))
theorem t1:VT 176 p1 (l1 A0 N0 C0 L1 I2) (v1 A0 N0 C0 L1 I2):=tw kt [6] fun B ds w K=>by kernel_rfl
abbrev l2:List (Nat × Value):=[eS 0 A0 N0 C0,eB 1 L1,eI 2 I2,eI 7 I7]
def v2:VP:=fun B ds w K=>∃ l1 c2:Nat,I7=(l1:Int)∧I7=(c2:Int)∧l1≤c2∧1*c2≤281474976710656∧c2≤281474976710656∧bc ((IntKind.wrap .u64 I2)==((iAnd .u64 (IntKind.wrap .u64 I2) (IntKind.wrap .u64 (0-(IntKind.wrap .u64 I2)))):Int)) (Cl 55 #[(.int .u64 (IntKind.wrap .u64 I2))] (World.alloc w (.cells (madeCells #[(Value.int IntKind.u8 0)] c2) 5)) fun r3 w4=>∃ x5,r3=.returned (.int .i64 x5)∧(0:Int)≤(IntKind.wrap .u64 x5)∧nc A0 fun b7 o8=>∃ k6:Nat,0=(k6:Int)∧k6<N0∧∃ x9,w4.cell? ⟨b7,o8+k6,none⟩=some (.int .u64 x9)∧Wd 176 p7 [eS 0 A0 N0 C0,eB 1 L1,eI 7 I7,eS 8 (some ⟨(World.heap w).size,0,none⟩) l1 c2,eU 10 (IntKind.wrap .u64 x5),eU 11 (IntKind.wrap .u64 ((iShl .u64 1 (IntKind.wrap .u64 x5))-1)),eU 12 x9,eU 13 64,eI 14 1] ds w4 (thenW Tryz.prog 176 p4 (thenW Tryz.prog 176 p5 K))) (Cl 56 #[] (World.alloc w (.cells (madeCells #[(Value.int IntKind.u8 0)] c2) 5)) fun r11 w12=>∃ x13,r11=.returned (.pointer x13)∧Cl 58 #[(.int .u64 (IntKind.wrap .u64 I2))] w12 fun r14 w15=>∃ x16,True∧∃ x17,True∧r14=.returned (.tuple #[(.int .u64 x16),(.int .i64 x17)])∧Cl 59 #[(.pointer x13),(.int .i64 (N0:Int)),(.int .u64 (IntKind.wrap .u64 I2)),(.int .i64 x17),(.int .u64 x16)] w15 fun r18 w19=>∃ x20a,∃ x20l,∃ x20c,r18=.returned (.slice x20a x20l x20c)∧Cl 60 #[(.slice none 0 0),(.slice A0 N0 C0)] w19 fun r21 w22=>∃ x23a,∃ x23l,∃ x23c,r21=.returned (.slice x23a x23l x23c)∧Cl 61 #[(.slice x23a x23l x23c),(.pointer x13),(.slice (some ⟨(World.heap w).size,0,none⟩) l1 c2),(.int .u64 (IntKind.wrap .u64 I2)),(.int .i64 x17),(.int .u64 x16),(.slice x20a x20l x20c)] w22 fun r24 w25=>r24=.returned undef∧Wd 176 p9 [eB 1 L1,eI 7 0,eS 8 (some ⟨(World.heap w).size,0,none⟩) l1 c2] (⟨.fn (.func 57) #[],#[(.pointer x13)]⟩ :: ds) w25 (thenW Tryz.prog 176 p5 K))
theorem t2:VT 176 p2 (l2 A0 N0 C0 L1 I2 I7) (v2 A0 N0 C0 L1 I2 I7):=tw kt [6] fun B ds w K=>by kernel_rfl
abbrev l3:List (Nat × Value):=[eB 1 L1,eI 7 I7,eS 8 A8 N8 C8,eU 10 I10,eU 11 I11,eU 12 I12]
def v3:VP:=fun B ds w K=>bc (I12 != 0) (inI64 (I7-1)∧∃ (k2:Nat) (c1:UInt8),(iAnd .u64 I12 I11)=(k2:Int)∧(strK0)[k2]?=some c1∧nc A8 fun b4 o5=>∃ k3:Nat,(I7-1)=(k3:Int)∧k3<N8∧(∃ u6,w.cell? ⟨b4,o5+k3,none⟩=some u6)∧w.frozen? ⟨b4,o5+k3,none⟩=false∧(0:Int)≤I10∧Kd K .normal [eB 1 L1,eI 7 (I7-1),eS 8 A8 N8 C8,eU 10 I10,eU 11 I11,eU 12 (iShr .u64 I12 I10)] ds (w.setCell ⟨b4,o5+k3,none⟩ (.int .u8 ((c1.toNat:Nat):Int)))) (Kd K (.exit 4) [eB 1 L1,eI 7 I7,eS 8 A8 N8 C8,eU 10 I10,eU 11 I11,eU 12 I12] ds w)
theorem t3:VT 176 p3 (l3 L1 I7 A8 N8 C8 I10 I11 I12) (v3 L1 I7 A8 N8 C8 I10 I11 I12):=tw kt [1,7,8,10,11,12] fun B ds w K=>by kernel_rfl
abbrev l5:List (Nat × Value):=[eB 1 L1,eI 7 I7,eS 8 A8 N8 C8]
def v5:VP:=fun B ds w K=>bc L1 (inI64 (I7-1)∧nc A8 fun b2 o3=>∃ k1:Nat,(I7-1)=(k1:Int)∧k1<N8∧(∃ u4,w.cell? ⟨b2,o3+k1,none⟩=some u4)∧w.frozen? ⟨b2,o3+k1,none⟩=false∧Wd 176 p10 [eI 7 (I7-1),eS 8 A8 N8 C8] ds (w.setCell ⟨b2,o3+k1,none⟩ (.int .u8 45)) K) (Wd 176 p10 [eI 7 I7,eS 8 A8 N8 C8] ds w K)
theorem t5:VT 176 p5 (l5 L1 I7 A8 N8 C8) (v5 L1 I7 A8 N8 C8):=tw kt [6] fun B ds w K=>by kernel_rfl
abbrev l6:List (Nat × Value):=[eS 0 A0 N0 C0,eB 1 L1,eI 7 I7,eS 8 A8 N8 C8,eU 10 I10,eU 11 I11,eU 12 I12,eU 13 I13,eI 14 I14]
def v6:VP:=fun B ds w K=>bc (decide (I14<(N0:Int))) (Wd 176 p13 [eS 0 A0 N0 C0,eB 1 L1,eI 7 I7,eS 8 A8 N8 C8,eU 10 I10,eU 11 I11,eU 12 I12,eU 13 I13,eI 14 I14] ds w (thenW Tryz.prog 176 p11 K)) (Kd K (.exit 0) [eS 0 A0 N0 C0,eB 1 L1,eI 7 I7,eS 8 A8 N8 C8,eU 10 I10,eU 11 I11,eU 12 I12,eU 13 I13,eI 14 I14] ds w)
theorem t6:VT 176 p6 (l6 A0 N0 C0 L1 I7 A8 N8 C8 I10 I11 I12 I13 I14) (v6 A0 N0 C0 L1 I7 A8 N8 C8 I10 I11 I12 I13 I14):=tw kt [0,1,7,8,10,11,12,13,14] fun B ds w K=>by kernel_rfl
abbrev l8:List (Nat × Value):=[eB 1 L1,eI 7 I7,eS 8 A8 N8 C8]
def v8:VP:=fun B ds w K=>nc A8 fun b2 o3=>∃ k1:Nat,I7=(k1:Int)∧k1<N8∧∃ x4,w.cell? ⟨b2,o3+k1,none⟩=some (.int .u8 x4)∧bc (x4==48) (inI64 (I7+1)∧Kd K .normal [eB 1 L1,eI 7 (I7+1),eS 8 A8 N8 C8] ds w) (Kd K (.exit 6) [eB 1 L1,eI 7 I7,eS 8 A8 N8 C8] ds w)
theorem t8:VT 176 p8 (l8 L1 I7 A8 N8 C8) (v8 L1 I7 A8 N8 C8):=tw kt [1,7,8] fun B ds w K=>by kernel_rfl
abbrev l10:List (Nat × Value):=[eI 7 I7,eS 8 A8 N8 C8]
def v10:VP:=fun B ds w K=>∃ i1:Nat,I7=(i1:Int)∧i1≤N8∧Kd K .ret [eS 6 (shifted A8 i1 C8 1) (N8-i1) (C8-i1)] ds w
theorem t10:VT 176 p10 (l10 I7 A8 N8 C8) (v10 I7 A8 N8 C8):=tw kt [6] fun B ds w K=>by kernel_rfl
abbrev l11:List (Nat × Value):=[eS 0 A0 N0 C0,eB 1 L1,eI 7 I7,eS 8 A8 N8 C8,eU 10 I10,eU 11 I11,eU 12 I12,eU 13 I13,eI 14 I14]
def v11:VP:=fun B ds w K=>inI64 (I14+1)∧Kd K .normal [eS 0 A0 N0 C0,eB 1 L1,eI 7 I7,eS 8 A8 N8 C8,eU 10 I10,eU 11 I11,eU 12 I12,eU 13 I13,eI 14 (I14+1)] ds w
theorem t11:VT 176 p11 (l11 A0 N0 C0 L1 I7 A8 N8 C8 I10 I11 I12 I13 I14) (v11 A0 N0 C0 L1 I7 A8 N8 C8 I10 I11 I12 I13 I14):=tw kt [0,1,7,8,10,11,12,13,14] fun B ds w K=>by kernel_rfl
abbrev l12:List (Nat × Value):=[eS 0 A0 N0 C0,eB 1 L1,eI 7 I7,eS 8 A8 N8 C8,eU 10 I10,eU 11 I11,eU 12 I12,eU 13 I13,eI 14 I14]
def v12:VP:=fun B ds w K=>Wd 176 p16 [eS 0 A0 N0 C0,eB 1 L1,eI 7 I7,eS 8 A8 N8 C8,eU 10 I10,eU 11 I11,eU 12 I12,eU 13 I13,eI 14 I14] ds w (thenW Tryz.prog 176 p14 K)
theorem t12:VT 176 p12 (l12 A0 N0 C0 L1 I7 A8 N8 C8 I10 I11 I12 I13 I14) (v12 A0 N0 C0 L1 I7 A8 N8 C8 I10 I11 I12 I13 I14):=tw kt [0,1,7,8,10,11,12,13,14] fun B ds w K=>by kernel_rfl
abbrev l14:List (Nat × Value):=[eS 0 A0 N0 C0,eB 1 L1,eI 7 I7,eS 8 A8 N8 C8,eU 10 I10,eU 11 I11,eU 12 I12,eU 13 I13,eI 14 I14]
def v14:VP:=fun B ds w K=>bc (I13==0) (nc A0 fun b2 o3=>∃ k1:Nat,I14=(k1:Int)∧k1<N0∧∃ x4,w.cell? ⟨b2,o3+k1,none⟩=some (.int .u64 x4)∧Kd K .normal [eS 0 A0 N0 C0,eB 1 L1,eI 7 I7,eS 8 A8 N8 C8,eU 10 I10,eU 11 I11,eU 12 x4,eU 13 64,eI 14 I14] ds w) (nc A0 fun b7 o8=>∃ k6:Nat,I14=(k6:Int)∧k6<N0∧∃ x9,w.cell? ⟨b7,o8+k6,none⟩=some (.int .u64 x9)∧(0:Int)≤I13∧inI64 (I7-1)∧∃ (k11:Nat) (c10:UInt8),(iAnd .u64 (iOr .u64 I12 (iShl .u64 x9 I13)) I11)=(k11:Int)∧(strK0)[k11]?=some c10∧nc A8 fun b13 o14=>∃ k12:Nat,(I7-1)=(k12:Int)∧k12<N8∧(∃ u15,w.cell? ⟨b13,o14+k12,none⟩=some u15)∧w.frozen? ⟨b13,o14+k12,none⟩=false∧nc A0 fun b17 o18=>∃ k16:Nat,I14=(k16:Int)∧k16<N0∧∃ x19,World.cell? (w.setCell ⟨b13,o14+k12,none⟩ (.int .u8 ((c10.toNat:Nat):Int))) ⟨b17,o18+k16,none⟩=some (.int .u64 x19)∧(0:Int)≤(IntKind.wrap .u64 (I10-I13))∧Kd K .normal [eS 0 A0 N0 C0,eB 1 L1,eI 7 (I7-1),eS 8 A8 N8 C8,eU 10 I10,eU 11 I11,eU 12 (iShr .u64 x19 (IntKind.wrap .u64 (I10-I13))),eU 13 (IntKind.wrap .u64 (64-(IntKind.wrap .u64 (I10-I13)))),eI 14 I14] ds (w.setCell ⟨b13,o14+k12,none⟩ (.int .u8 ((c10.toNat:Nat):Int))))
theorem t14:VT 176 p14 (l14 A0 N0 C0 L1 I7 A8 N8 C8 I10 I11 I12 I13 I14) (v14 A0 N0 C0 L1 I7 A8 N8 C8 I10 I11 I12 I13 I14):=tw kt [0,1,7,8,10,11,12,13,14] fun B ds w K=>by kernel_rfl
abbrev l15:List (Nat × Value):=[eS 0 A0 N0 C0,eB 1 L1,eI 7 I7,eS 8 A8 N8 C8,eU 10 I10,eU 11 I11,eU 12 I12,eU 13 I13,eI 14 I14]
def v15:VP:=fun B ds w K=>bc (decide (I13≥(I10:Int))) (inI64 (I7-1)∧∃ (k2:Nat) (c1:UInt8),(iAnd .u64 I12 I11)=(k2:Int)∧(strK0)[k2]?=some c1∧nc A8 fun b4 o5=>∃ k3:Nat,(I7-1)=(k3:Int)∧k3<N8∧(∃ u6,w.cell? ⟨b4,o5+k3,none⟩=some u6)∧w.frozen? ⟨b4,o5+k3,none⟩=false∧(0:Int)≤I10∧Kd K .normal [eS 0 A0 N0 C0,eB 1 L1,eI 7 (I7-1),eS 8 A8 N8 C8,eU 10 I10,eU 11 I11,eU 12 (iShr .u64 I12 I10),eU 13 (IntKind.wrap .u64 (I13-I10)),eI 14 I14] ds (w.setCell ⟨b4,o5+k3,none⟩ (.int .u8 ((c1.toNat:Nat):Int)))) (Kd K (.exit 2) [eS 0 A0 N0 C0,eB 1 L1,eI 7 I7,eS 8 A8 N8 C8,eU 10 I10,eU 11 I11,eU 12 I12,eU 13 I13,eI 14 I14] ds w)
theorem t15:VT 176 p15 (l15 A0 N0 C0 L1 I7 A8 N8 C8 I10 I11 I12 I13 I14) (v15 A0 N0 C0 L1 I7 A8 N8 C8 I10 I11 I12 I13 I14):=tw kt [0,1,7,8,10,11,12,13,14] fun B ds w K=>by kernel_rfl
end F41
end Go.Proofs.YtlkjiiibmfpbcaaGreatDoor
namespace Go.Proofs.YtlkjiiibmfpbcaaGreatDoor
open Go
theorem low_bits (X a c M:Nat) (h:a+c≤M):X%2^M/2^a%2^c=X/2^a%2^c:=by
 obtain ⟨d,rfl⟩:∃ d,M=a+c+d:=⟨M-(a+c),by omega⟩
 rw [Nat.add_assoc,Nat.pow_add,Nat.mod_mul_right_div_self]
 exact Nat.mod_mod_of_dvd _ (Nat.pow_dvd_pow 2 (by omega))
theorem or_low {w x nb sh:Nat} (hw:w<2^nb) (hnb:nb≤64) (hsh:sh≤64):(w ||| (x*2^nb%18446744073709551616))%2^sh=(w+2^nb*x)%2^sh∧(w ||| (x*2^nb%18446744073709551616))<18446744073709551616:=by
 have p64:(18446744073709551616:Nat)=2^64:=by decide
 have e1:x*2^nb%2^64=2^nb*(x%2^(64-nb)):=by
  have e:(2:Nat)^64=2^nb*2^(64-nb):=by rw [←Nat.pow_add,show nb+(64-nb)=64 by omega]
  rw [e,Nat.mul_comm x,Nat.mul_mod_mul_left]
 rw [p64,e1,Nat.or_comm,←Nat.two_pow_add_eq_or_of_lt hw]
 refine ⟨?_,?_⟩
 ·have h1:(2^nb*(x%2^(64-nb))+w)%2^64%2^sh=(2^nb*x+w)%2^64%2^sh:=by
   rw [←e1,Nat.mul_comm x,Nat.mod_add_mod]
  rw [Nat.mod_mod_of_dvd _ (Nat.pow_dvd_pow 2 hsh),Nat.mod_mod_of_dvd _ (Nat.pow_dvd_pow 2 hsh)] at h1
  rw [h1,Nat.add_comm]
 ·have h1:2^nb*(x%2^(64-nb))+2^nb≤2^nb*2^(64-nb):=by
   rw [←Nat.mul_succ]; exact Nat.mul_le_mul_left _ (Nat.mod_lt _ (Nat.two_pow_pos _))
  rw [←Nat.pow_add,show nb+(64-nb)=64 by omega] at h1
  omega
section
variable {w:World} {x s:Sl} {X sh N:Nat} {L:List Item}
theorem putF {g:Nat→Value} {i D:Nat} (hb:Bank w (seg s g :: L)) (hd:Done (2^sh) X s (i+1) g) (hi:i<s.l) (hD:D=X/2^(sh*(s.l-(i+1)))%2^sh) (hsh:sh≤5) {c:UInt8} (hc:c.toNat=chr D) :
  ∃ g',Bank (w.setCell ⟨s.b,s.o+i,none⟩ (.int .u8 (c.toNat:Int))) (seg s g' :: L)∧Done (2^sh) X s i g'∧Chg w (w.setCell ⟨s.b,s.o+i,none⟩ (.int .u8 (c.toNat:Int))) (wds s):=by
 obtain ⟨b2,c2⟩:=segPut hb hi (.int .u8 (c.toNat:Int))
 refine ⟨_,b2,?_,c2⟩
 have:=hd.put hi
 have e:fig (2^sh) s.l X i=.int .u8 (c.toNat:Int):=by
  unfold fig fgs
  rw [hc,hD,show s.l-1-i=s.l-(i+1) by omega,←Nat.pow_mul]
 rwa [e] at this
theorem in16 {g:Nat→Value} {i k nb:Nat} {wd:Nat} (hb:Bank w (seg s g :: L)) (hd:Done (2^sh) X s i g) (hi:i≤s.l) (hsl:s.l≤1000000) (hsh1:1≤sh) (hsh:sh≤5) (hbits:sh*(s.l-i)+nb=64*k) (hnb:nb≤64) (hw:wd=X%BB^k/2^(sh*(s.l-i)))
  (hroom:∀ j,sh*j≤64*k→j<s.l) {e:Env} {K0:Kont}
  (ha:agree e (F41.l15 x.a x.l x.c false i s.a s.l s.c sh (2^sh-1:Nat) wd nb k))
  (q:∀ e' w' i' g' nb' wd',Bank w' (seg s g' :: L)→Done (2^sh) X s i' g'→i'≤i→sh*(s.l-i')+nb'=64*k→nb'<sh→wd'=X%BB^k/2^(sh*(s.l-i'))→Chg w w' (wds s)→agree e' (F41.l14 x.a x.l x.c false (i':Nat) s.a s.l s.c sh (2^sh-1:Nat) (wd':Nat) (nb':Nat) k)→e'.defers=e.defers→K0 .normal e' w') :
  W Tryz.prog 176 F41.p16 e w K0:=by
 rw [F41.q16]
 refine W_for' (σ:=Nat × Nat) (fun y=>F41.l15 x.a x.l x.c false y.1 s.a s.l s.c sh (2^sh-1:Nat) (X%BB^k/2^(sh*(s.l-y.1)):Nat) y.2 k) (fun y w'=>y.1≤i∧sh*(s.l-y.1)+y.2=64*k∧y.2≤64∧Chg w w' (wds s)∧∃ g,Bank w' (seg s g :: L)∧Done (2^sh) X s y.1 g) (fun y=>y.2) (i,nb)
  (by rw [←hw]; exact ha) ⟨Nat.le_refl _,hbits,hnb,Chg.refl _ _,g,hb,hd⟩ ?_
 rintro ⟨i1,nb1⟩ B1 w1 K1 ⟨hi1,hbits1,hnb1,c1,g1,b1,hd1⟩ hnext hexit -
 simp only at hi1 hbits1 hnb1 hd1
 obtain ⟨v,hv⟩:∃ v,v=X%BB^k/2^(sh*(s.l-i1)):=⟨_,rfl⟩
 have hvb:v<2^nb1:=by
  rw [hv,Nat.div_lt_iff_lt_mul (Nat.two_pow_pos _),←Nat.pow_add,show nb1+sh*(s.l-i1)=64*k by omega,←BB2]
  exact Nat.mod_lt _ (BBpow_pos k)
 have hv64:v<18446744073709551616:=Nat.lt_of_lt_of_le hvb (by
  have:2^nb1≤2^64:=Nat.pow_le_pow_right (by omega) hnb1
  have p64:(18446744073709551616:Nat)=2^64:=by decide
  omega)
 show W Tryz.prog 176 F41.p15 (Env.mk (F41.l15 x.a x.l x.c false i1 s.a s.l s.c sh (2^sh-1:Nat) (X%BB^k/2^(sh*(s.l-i1)):Nat) nb1 k) B1 _) w1 K1
 rw [←hv]
 refine F41.t15 x.a x.l x.c false i1 s.a s.l s.c sh (2^sh-1:Nat) v nb1 k ⟨rfl,rfl,rfl,rfl,rfl,rfl,rfl,rfl,rfl,trivial⟩ fun B2=>bc_intro (fun hc=>?_) (fun hc B3=>?_)
 ·have hge:sh≤nb1:=by have:=dT hc; omega
  have hj:s.l-i1<s.l:=hroom _ (by omega)
  obtain ⟨p,rfl⟩:∃ p,i1=p+1:=⟨i1-1,by omega⟩
  have S1:SegAt w1 s g1:=b1.head
  have hdl:v%2^sh<62:=by
   have h1:=Nat.mod_lt v (Nat.two_pow_pos sh)
   have h2:2^sh≤2^5:=Nat.pow_le_pow_right (by omega) hsh
   omega
  obtain ⟨c,hc1,hc2⟩:=digAt hdl
  have hD:v%2^sh=X/2^(sh*(s.l-(p+1)))%2^sh:=by
   rw [hv,BB2,low_bits _ _ _ _ (by omega)]
  obtain ⟨g2,b2,hd2,c2⟩:=putF b1 hd1 (by omega) hD hsh hc2
  have e1:sh*(s.l-p)=sh*(s.l-(p+1))+sh:=by rw [show s.l-p=s.l-(p+1)+1 by omega,Nat.mul_succ]
  have ew:iShr .u64 (v:Int) (sh:Int)=((X%BB^k/2^(sh*(s.l-p)):Nat):Int):=by
   rw [iShrN,show min sh 64=sh by omega,hv,Nat.div_div_eq_div_mul,←Nat.pow_add,e1]
  have en:IntKind.wrap .u64 ((nb1:Int)-sh)=((nb1-sh:Nat):Int):=by rw [show ((nb1:Int)-sh)=((nb1-sh:Nat):Int) by omega]; exact wrapN _ (by omega)
  refine ⟨by unfold inI64; omega,v%2^sh,c,iAndMask v sh (by omega) hv64,hc1,wtC (k:=p) S1.toSt.wt (by omega) (by omega) ⟨by omega,fun B3=>?_⟩⟩
  exact hnext _ _ (p,nb1-sh) ⟨rfl,rfl,intv (by omega),rfl,rfl,rfl,intv ew,intv en,rfl,trivial⟩ rfl ⟨by show p≤i; omega,by show sh*(s.l-p)+(nb1-sh)=_; omega,by show nb1-sh≤64; omega,c1.trans' c2,g2,b2,hd2⟩ (by show nb1-sh<nb1; omega)
 ·exact hexit _ _ (q _ w1 i1 g1 nb1 v b1 hd1 hi1 hbits1 (by have:=dF hc; omega) hv c1 ⟨rfl,rfl,rfl,rfl,rfl,rfl,rfl,rfl,rfl,trivial⟩ rfl)
end
end Go.Proofs.YtlkjiiibmfpbcaaGreatDoor
namespace Go.Proofs.YtlkjiiibmfpbcaaGreatDoor
open Go
section
variable {w:World} {x s:Sl} {X sh:Nat} {L:List Item}
theorem pow_eq (sh j:Nat):(2^sh)^j=2^(sh*j):=(Nat.pow_mul 2 sh j).symm
theorem last4 {g:Nat→Value} {i:Nat} (hb:Bank w (seg s g :: L)) (hd:Done (2^sh) X s i g) (hi:i≤s.l) (hsl:s.l≤1000000) (hsh1:1≤sh) (hsh:sh≤5) (hX:X<(2^sh)^s.l) (hw64:X/2^(sh*(s.l-i))<18446744073709551616) (htop:i≠s.l→X/2^(sh*(s.l-i-1))≠0) {e:Env} {K0:Kont}
  (ha:agree e (F41.l3 false i s.a s.l s.c sh (2^sh-1:Nat) (X/2^(sh*(s.l-i)):Nat)))
  (q:∀ e' w' i' g',Bank w' (seg s g' :: L)→Done (2^sh) X s i' g'→i'≤s.l→X/2^(sh*(s.l-i'))=0→(i'≠s.l→X/2^(sh*(s.l-i'-1))≠0)→Chg w w' (wds s)→agree e' (F41.l5 false (i':Nat) s.a s.l s.c)→e'.defers=e.defers→K0 .normal e' w') :
  W Tryz.prog 176 F41.p4 e w K0:=by
 rw [F41.q4]
 refine W_for' (σ:=Nat) (fun i=>F41.l3 false i s.a s.l s.c sh (2^sh-1:Nat) (X/2^(sh*(s.l-i)):Nat)) (fun i1 w'=>i1≤i∧Chg w w' (wds s)∧X/2^(sh*(s.l-i1))<18446744073709551616∧(i1≠s.l→X/2^(sh*(s.l-i1-1))≠0)∧∃ g,Bank w' (seg s g :: L)∧Done (2^sh) X s i1 g) (fun i=>i) i ha ⟨Nat.le_refl _,Chg.refl _ _,hw64,htop,g,hb,hd⟩ ?_
 rintro i1 B1 w1 K1 ⟨hi1,c1,hv64,ht1,g1,b1,hd1⟩ hnext hexit -
 obtain ⟨v,hv⟩:∃ v,v=X/2^(sh*(s.l-i1)):=⟨_,rfl⟩
 rw [←hv] at hv64 ⊢
 refine F41.t3 false i1 s.a s.l s.c sh (2^sh-1:Nat) v ⟨rfl,rfl,rfl,rfl,rfl,intv (by rw [hv]),trivial⟩ fun B2=>bc_intro (fun hc=>?_) (fun hc B3=>?_)
 ·have hv0:v≠0:=by have:=neN hc; omega
  have hj:s.l-i1<s.l:=by
   rcases Nat.lt_or_ge (s.l-i1) s.l with h | h
   ·exact h
   ·exfalso
    apply hv0
    rw [hv,show s.l-i1=s.l by omega]
    exact Nat.div_eq_of_lt (by rw [←pow_eq]; exact hX)
  obtain ⟨p,rfl⟩:∃ p,i1=p+1:=⟨i1-1,by omega⟩
  have S1:SegAt w1 s g1:=b1.head
  have hdl:v%2^sh<62:=by
   have h1:=Nat.mod_lt v (Nat.two_pow_pos sh)
   have h2:2^sh≤2^5:=Nat.pow_le_pow_right (by omega) hsh
   omega
  obtain ⟨c,hc1,hc2⟩:=digAt hdl
  have hD:v%2^sh=X/2^(sh*(s.l-(p+1)))%2^sh:=by rw [hv]
  obtain ⟨g2,b2,hd2,c2⟩:=putF b1 hd1 (by omega) hD hsh hc2
  have e1:sh*(s.l-p)=sh*(s.l-(p+1))+sh:=by rw [show s.l-p=s.l-(p+1)+1 by omega,Nat.mul_succ]
  have ew:iShr .u64 (v:Int) (sh:Int)=((X/2^(sh*(s.l-p)):Nat):Int):=by
   rw [iShrN,show min sh 64=sh by omega,hv,Nat.div_div_eq_div_mul,←Nat.pow_add,e1]
  have hlt:X/2^(sh*(s.l-p))<18446744073709551616:=by
   rw [e1,Nat.pow_add,←Nat.div_div_eq_div_mul,←hv]
   exact Nat.lt_of_le_of_lt (Nat.div_le_self _ _) hv64
  refine ⟨by unfold inI64; omega,v%2^sh,c,iAndMask v sh (by omega) hv64,hc1,wtC (k:=p) S1.toSt.wt (by omega) (by omega) ⟨by omega,fun B3=>?_⟩⟩
  refine hnext _ _ p ⟨rfl,intv (by omega),rfl,rfl,rfl,intv ew,trivial⟩ rfl ⟨by omega,c1.trans' c2,hlt,fun _=>?_,g2,b2,hd2⟩ (by omega)
  rw [show s.l-p-1=s.l-(p+1) by omega,←hv]; exact hv0
 ·have hv0:X/2^(sh*(s.l-i1))=0:=by have:=neE hc; omega
  exact hexit _ _ (q _ w1 i1 g1 b1 hd1 (by omega) hv0 ht1 c1 ⟨rfl,rfl,rfl,trivial⟩ rfl)
theorem words7 {g:Nat→Value} (hb:Bank w (seg s g :: nl x X :: L)) (hx0:x.l≠0) (hxt:BB^(x.l-1)≤X) (hxl:x.l≤1000) (hsl:s.l≤1000000) (hsh1:1≤sh) (hsh:sh≤5) (hX:X<(2^sh)^s.l) {e:Env} {K0:Kont}
  (ha:agree e (F41.l6 x.a x.l x.c false s.l s.a s.l s.c sh (2^sh-1:Nat) (dg X 0:Nat) 64 1))
  (q:∀ e' w' i' g',Bank w' (seg s g' :: nl x X :: L)→Done (2^sh) X s i' g'→i'≤s.l→(i'≠s.l→X/2^(sh*(s.l-i'-1))≠0)→X/2^(sh*(s.l-i'))<18446744073709551616→Chg w w' (wds s)→agree e' (F41.l3 false (i':Nat) s.a s.l s.c sh (2^sh-1:Nat) (X/2^(sh*(s.l-i')):Nat))→e'.defers=e.defers→K0 .normal e' w') :
  W Tryz.prog 176 F41.p7 e w K0:=by
 have xN:Nt w x X:=hb.tail.head
 have hxc:=xN.lc
 have hroom:∀ j,sh*j≤64*(x.l-1)→j<s.l:=fun j hj=>by
  have h1:2^(sh*j)≤2^(64*(x.l-1)):=Nat.pow_le_pow_right (by omega) hj
  rw [←BB2] at h1
  have h2:2^(sh*j)<2^(sh*s.l):=by rw [←pow_eq sh s.l]; omega
  have:=(Nat.pow_lt_pow_iff_right (show 1<2 by omega)).1 h2
  exact Nat.lt_of_mul_lt_mul_left this
 rw [F41.q7]
 refine W_for' (σ:=Nat × Nat × Nat) (fun y=>F41.l6 x.a x.l x.c false y.1 s.a s.l s.c sh (2^sh-1:Nat) (X%BB^y.2.2/2^(sh*(s.l-y.1)):Nat) y.2.1 y.2.2) (fun y w'=>y.1≤s.l∧sh*(s.l-y.1)+y.2.1=64*y.2.2∧y.2.1≤64∧64<y.2.1+sh∧1≤y.2.2∧y.2.2≤x.l∧Chg w w' (wds s)∧∃ g,Bank w' (seg s g :: nl x X :: L)∧Done (2^sh) X s y.1 g) (fun y=>x.l-y.2.2) (s.l,64,1)
  ⟨ha.1,ha.2.1,ha.2.2.1,ha.2.2.2.1,ha.2.2.2.2.1,ha.2.2.2.2.2.1,by
   have h7:=ha.2.2.2.2.2.2.1
   show _=Value.int .u64 ((X%BB^1/2^(sh*(s.l-s.l)):Nat):Int)
   rw [Nat.sub_self,Nat.mul_zero,Nat.pow_zero,Nat.div_one,mod_succ,Nat.pow_zero,Nat.mod_one,Nat.zero_add,Nat.one_mul]; exact h7,ha.2.2.2.2.2.2.2⟩
  ⟨Nat.le_refl _,by show sh*(s.l-s.l)+64=64*1; rw [Nat.sub_self,Nat.mul_zero],by show 64≤64; omega,by show 64<64+sh; omega,by show 1≤1; omega,by show 1≤x.l; omega,Chg.refl _ _,g,hb,fun j h1 h2=>by have h1:s.l≤j:=h1; omega⟩ ?_
 rintro ⟨i,nb,k⟩ B1 w1 K1 ⟨hi,hbits,hnb,hnb2,hk1,hk2,c1,g1,b1,hd1⟩ hnext hexit -
 simp only at hi hbits hnb hnb2 hk1 hk2 hd1
 refine F41.t6 x.a x.l x.c false i s.a s.l s.c sh (2^sh-1:Nat) (X%BB^k/2^(sh*(s.l-i)):Nat) nb k ⟨rfl,rfl,rfl,rfl,rfl,rfl,rfl,rfl,rfl,trivial⟩ fun B2=>bc_intro (fun hc B3=>?_) (fun hc B3=>?_)
 ·have hkx:k<x.l:=by have:=dT hc; omega
  rw [F41.q13]
  refine W_block ?_
  refine F41.t12 x.a x.l x.c false i s.a s.l s.c sh (2^sh-1:Nat) (X%BB^k/2^(sh*(s.l-i)):Nat) nb k ⟨rfl,rfl,rfl,rfl,rfl,rfl,rfl,rfl,rfl,trivial⟩ fun B4 B5=>?_
  refine in16 (x:=x) (k:=k) (nb:=nb) b1 hd1 hi hsl hsh1 hsh hbits hnb rfl (fun j hj=>hroom j (by omega)) ⟨rfl,rfl,rfl,rfl,rfl,rfl,rfl,rfl,rfl,trivial⟩ fun e2 w2 i2 g2 nb2 wd2 b2 hd2 hi2 hbits2 hnb3 hwd2 c2 ha2 hdf2=>?_
  have xN2:Nt w2 x X:=b2.tail.head
  have hcell:w2.cell? ⟨x.b,x.o+k,none⟩=some (.int .u64 (dg X k:Int)):=xN2.sg k hkx
  have hdk:=dg_lt' X k
  have hsplit:=mod_succ X k
  have hwb:wd2<2^nb2:=by
   rw [hwd2,Nat.div_lt_iff_lt_mul (Nat.two_pow_pos _),←Nat.pow_add,show nb2+sh*(s.l-i2)=64*k by omega,←BB2]
   exact Nat.mod_lt _ (BBpow_pos k)
  have hjoin:X%BB^(k+1)/2^(sh*(s.l-i2))=wd2+2^nb2*dg X k:=by
   rw [hsplit,BB2 k]
   have e:(2:Nat)^(64*k)*dg X k=2^(sh*(s.l-i2))*(2^nb2*dg X k):=by rw [←Nat.mul_assoc,←Nat.pow_add,hbits2]
   rw [e,Nat.add_mul_div_left _ _ (Nat.two_pow_pos _),←BB2,←hwd2]
  have nextk:∀ (e3:Env) (w3:World) (i3 nb3:Nat) (g3:Nat→Value),Bank w3 (seg s g3 :: nl x X :: L)→Done (2^sh) X s i3 g3→i3≤i→sh*(s.l-i3)+nb3=64*(k+1)→nb3≤64→64<nb3+sh→Chg w w3 (wds s)→agree e3 (F41.l11 x.a x.l x.c false (i3:Nat) s.a s.l s.c sh (2^sh-1:Nat) (X%BB^(k+1)/2^(sh*(s.l-i3)):Nat) (nb3:Nat) k)→e3.defers=e.defers→W Tryz.prog 176 F41.p11 e3 w3 K1:=by
   intro e3 w3 i3 nb3 g3 b3 hd3 hi3 hbits3 h1 h2 c3 ha3 hdf3
   refine F41.t11 x.a x.l x.c false i3 s.a s.l s.c sh (2^sh-1:Nat) (X%BB^(k+1)/2^(sh*(s.l-i3)):Nat) nb3 k ha3 fun B6=>⟨by unfold inI64; omega,fun B7=>hnext _ _ (i3,nb3,k+1) ⟨rfl,rfl,rfl,rfl,rfl,rfl,rfl,rfl,intv (by show (k:Int)+1=((k+1:Nat):Int); omega),trivial⟩ hdf3 ⟨by show i3≤s.l; omega,hbits3,h1,h2,by show 1≤k+1; omega,by show k+1≤x.l; omega,c3,g3,b3,hd3⟩ (by show x.l-(k+1)<x.l-k; omega)⟩
  refine F41.t14 x.a x.l x.c false i2 s.a s.l s.c sh (2^sh-1:Nat) wd2 nb2 k ha2 fun B6=>bc_intro (fun h0=>?_) (fun h0=>?_)
  ·have hn0:nb2=0:=by have:=eqE h0; omega
   subst hn0
   have hw0:wd2=0:=by rw [Nat.pow_zero] at hwb; omega
   refine rdC (k:=k) (xN2.rd.at_ (by omega)) rfl hkx hcell fun B7=>?_
   refine nextk _ w2 i2 64 g2 b2 hd2 hi2 (by omega) (by omega) (by omega) (c1.trans' c2) ?_ hdf2
   rw [hjoin,hw0,Nat.pow_zero,Nat.one_mul,Nat.zero_add]
   exact ⟨rfl,rfl,rfl,rfl,rfl,rfl,rfl,rfl,rfl,trivial⟩
  ·have hn0:nb2≠0:=by have:=eqN h0; omega
   have hj:s.l-i2<s.l:=hroom _ (by omega)
   obtain ⟨p,rfl⟩:∃ p,i2=p+1:=⟨i2-1,by omega⟩
   have S2:SegAt w2 s g2:=b2.head
   obtain ⟨o1,o2⟩:=or_low (x:=dg X k) (sh:=sh) hwb (by omega) (by omega)
   have hv64:wd2<18446744073709551616:=Nat.lt_of_lt_of_le hwb (by
    have h1:2^nb2≤2^64:=Nat.pow_le_pow_right (by omega) (by omega)
    have p64:(18446744073709551616:Nat)=2^64:=by decide
    omega)
   have eor:iAnd .u64 (iOr .u64 (wd2:Int) (iShl .u64 ((dg X k:Nat):Int) (nb2:Int))) ((2^sh-1:Nat):Int)=(((wd2+2^nb2*dg X k)%2^sh:Nat):Int):=by
    rw [iShlN,show min nb2 64=nb2 by omega,iOrN _ _ hv64 (Nat.mod_lt _ (by omega)),iAndMask _ sh (by omega) o2,o1]
   have hdl:(wd2+2^nb2*dg X k)%2^sh<62:=by
    have h1:=Nat.mod_lt (wd2+2^nb2*dg X k) (Nat.two_pow_pos sh)
    have h2:2^sh≤2^5:=Nat.pow_le_pow_right (by omega) hsh
    omega
   obtain ⟨c,hc1,hc2⟩:=digAt hdl
   have hD:(wd2+2^nb2*dg X k)%2^sh=X/2^(sh*(s.l-(p+1)))%2^sh:=by
    rw [←hjoin,BB2,low_bits _ _ _ _ (by omega)]
   obtain ⟨g3,b3,hd3,c3⟩:=putF b2 hd2 (by omega) hD hsh hc2
   have e1:sh*(s.l-p)=sh*(s.l-(p+1))+sh:=by rw [show s.l-p=s.l-(p+1)+1 by omega,Nat.mul_succ]
   have xN3:Nt (w2.setCell ⟨s.b,s.o+p,none⟩ (.int .u8 (c.toNat:Int))) x X:=b3.tail.head
   have ed:IntKind.wrap .u64 ((sh:Int)-nb2)=((sh-nb2:Nat):Int):=by rw [show ((sh:Int)-nb2)=((sh-nb2:Nat):Int) by omega]; exact wrapN _ (by omega)
   have ed2:IntKind.wrap .u64 (64-((sh-nb2:Nat):Int))=((64-(sh-nb2):Nat):Int):=by rw [show (64-((sh-nb2:Nat):Int))=((64-(sh-nb2):Nat):Int) by omega]; exact wrapN _ (by omega)
   have ew:iShr .u64 ((dg X k:Nat):Int) ((sh-nb2:Nat):Int)=((X%BB^(k+1)/2^(sh*(s.l-p)):Nat):Int):=by
    rw [iShrN,show min (sh-nb2) 64=sh-nb2 by omega,e1,Nat.pow_add 2 (sh*(s.l-(p+1))) sh,←Nat.div_div_eq_div_mul,hjoin]
    have e2:(2:Nat)^sh=2^nb2*2^(sh-nb2):=by rw [←Nat.pow_add,show nb2+(sh-nb2)=sh by omega]
    rw [e2,←Nat.div_div_eq_div_mul,Nat.add_mul_div_left _ _ (Nat.two_pow_pos _),Nat.div_eq_of_lt hwb,Nat.zero_add]
   refine rdC (k:=k) (xN2.rd.at_ (by omega)) rfl hkx hcell ⟨by omega,by unfold inI64; omega,_,c,eor,hc1,wtC (k:=p) S2.toSt.wt (by omega) (by omega) (rdC (k:=k) (xN3.rd.at_ (by omega)) rfl hkx (xN3.sg k hkx) ?_)⟩
   rw [ed,ed2,ew]
   refine ⟨by omega,fun B7=>?_⟩
   refine nextk _ _ p (64-(sh-nb2)) g3 b3 hd3 (by omega) (by omega) (by omega) (by omega) ((c1.trans' c2).trans' c3) ?_ hdf2
   exact ⟨rfl,rfl,intv (by omega),rfl,rfl,rfl,rfl,rfl,rfl,trivial⟩
 ·have hkx:k=x.l:=by have:=dF hc; omega
  subst hkx
  have hXm:X%BB^x.l=X:=Nat.mod_eq_of_lt xN.lt
  refine hexit _ _ (q _ w1 i g1 b1 hd1 hi (fun hne=>?_) ?_ c1 ?_ rfl)
  ·have h1:2^(sh*(s.l-i-1))≤X:=by
    refine Nat.le_trans (Nat.pow_le_pow_right (by omega) ?_) (by rw [BB2] at hxt; exact hxt)
    have e1:sh*(s.l-i)=sh*(s.l-i-1)+sh:=by rw [←Nat.mul_succ,show (s.l-i-1).succ=s.l-i by omega]
    omega
   have:=Nat.div_pos h1 (Nat.two_pow_pos (sh*(s.l-i-1)))
   omega
  ·rw [Nat.div_lt_iff_lt_mul (Nat.two_pow_pos _)]
   have p64:(18446744073709551616:Nat)=2^64:=by decide
   rw [p64,←Nat.pow_add]
   refine Nat.lt_of_lt_of_le xN.lt ?_
   rw [BB2]
   exact Nat.pow_le_pow_right (by omega) (by omega)
  ·rw [hXm]
   exact ⟨rfl,rfl,rfl,rfl,rfl,rfl,trivial⟩
end
end Go.Proofs.YtlkjiiibmfpbcaaGreatDoor
