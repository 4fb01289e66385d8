/- Contracts: Karatsuba's square. Conditions: 80 to 158 words, storages apart. -/
import Derived.Test.YtlkjiiibmfpbcaaGreatDoorS24
namespace Go.Proofs.YtlkjiiibmfpbcaaGreatDoor
open Go
theorem Dj.offL {K:SK} {x:Sl} (h:Dj K.free (wds x)):OffL K x:=fun i h1 h2 h3=>h _ _ h3 ⟨rfl,h1,h2⟩
theorem sqrL {w:World} {K:SK} {z x:Sl} {X:Nat} {L:List Item} (h:Bank w (stk K :: sto z :: L)) (hx:nlz x X∈L) (lx:x.l<80) (hL:K.s.l≤2199023255552) (hg:Glb w) {Q:Ending→World→Prop}
  (q:∀ (r:Sl) (K':SK) w',Bank w' (stk K' :: nmz r (X*X) :: L)→K'.a=K.a→K'.s.l=K.s.l→Nxt w K K'→From w z r→Chg w w' (un (fp z) K.free)→Q (.returned r.v) w') :
  Calls Tryz.prog 79 #[z.v,.pointer K.a,x.v] w Q:=by
 have hz:St w z:=h.tail.head
 have hxP:Nz w x X:=h.tail.tail.all _ hx
 have dz:Dj K.free (fp z):=h.hdj (b:=sto z) (by simp)
 have dx:Dj K.free (wds x):=h.hdj (b:=nlz x X) (by simp [hx])
 have dzx:Dj (fp z) (wds x):=h.tail.hdj (b:=nlz x X) hx
 refine ResKE.pass (c79 K z x X w h.head hz hxP dzx.apl.al dz.off dx.offL lx hL hg) fun r K' w' h1 h2 h3 h4 h5 h6 _ h7=>q r K' w' ?_ (by unfold SK.a; rw [h4.p]) h5 h4 h2 h7
 refine Bank.updN (A:=[stk K,sto z]) (A':=[stk K',nmz r (X*X)]) h h7 (fun b i _ hm=>?_) (Bank.two h3 h1 h6.dj) fun a' ha' b i hb hf=>?_
 ·rcases hm with hm | hm
  ·exact ⟨sto z,by simp,hm⟩
  ·exact ⟨stk K,by simp,hm⟩
 ·simp only [List.mem_cons,List.not_mem_nil,or_false] at ha'
  rcases ha' with rfl | rfl
  ·exact ⟨stk K,by simp,stk_sub h4 b i hb hf⟩
  ·exact ⟨sto z,by simp,from_sub h2 b i hb hf⟩
theorem sqrI {w:World} {K:SK} {z x:Sl} {X:Nat} {L:List Item} (h:Bank w (stk K :: nl z 0 :: L)) (oz:Off K z) (hx:nlz x X∈L) (spx:SpC z x) (lx:x.l<80) (hn:2*x.l≤z.l) (hL:K.s.l≤2199023255552) (hg:Glb w) {Q:Ending→World→Prop}
  (q:∀ k (K':SK) w',k≤z.l→Nz w' (z.to k) (X*X)→Bank w' (stk K' :: nl z (X*X) :: L)→K'.a=K.a→K'.s.l=K.s.l→Nxt w K K'→Chg w w' (un (wds z) K.free)→Q (.returned (z.to k).v) w') :
  Calls Tryz.prog 79 #[z.v,.pointer K.a,x.v] w Q:=by
 have hz:Nt w z 0:=h.tail.head
 have hxP:Nz w x X:=h.tail.tail.all _ hx
 have dx:Dj K.free (wds x):=h.hdj (b:=nlz x X) (by simp [hx])
 refine (c79i K z x X w h.head hz hxP spx oz dx.offL lx hn hL hg).mono ?_
 rintro e w' ⟨_,rfl,k,rfl,hk,hnz,hsg,hlt,⟨K',b1,b2,b3⟩,hch⟩
 refine q k K' w' hk hnz ?_ (by unfold SK.a; rw [b2.p]) b3 b2 hch
 have d0:Dj K.free (wds z):=h.hdj (b:=nl z 0) (by simp)
 have hzl:=hz.lc
 refine Bank.updN (A:=[stk K,nl z 0]) (A':=[stk K',nl z (X*X)]) h hch (fun b i _ hm=>?_) (Bank.two b1 { hch.st hz.toSt with sg:=hsg,lt:=hlt } fun b i f1 f2=>?_) fun a' ha' b i hb hf=>?_
 ·rcases hm with hm | hm
  ·exact ⟨nl z 0,by simp,hm⟩
  ·exact ⟨stk K,by simp,hm⟩
 ·have f2:wds z b i:=f2
  have e1:=f2.1; have e2:=f2.2.1; have e3:=f2.2.2
  subst e1
  exact oz i e2 (by omega) (b2.free (hz.toSt.blk (by omega)) f1)
 ·simp only [List.mem_cons,List.not_mem_nil,or_false] at ha'
  rcases ha' with rfl | rfl
  ·exact ⟨stk K,by simp,stk_sub b2 b i hb hf⟩
  ·exact ⟨nl z 0,by simp,hf⟩
section
variable {w wm:World} {K:SK} {z x0 x1:Sl} {X0 X1 m n px0 px1 pz0 pz2 pz1:Nat}
def SqMid (w0:World) (K:SK) (z x0 x1:Sl) (X0 X1 m:Nat) (px0 px1 pz0 pz2 pz1:Nat) (w:World):Prop :=
 ∃ (K':SK) (r:Sl) (V:Nat),iv true V=((X0:Int)-X1)*((X1:Int)-X0)∧V<BB^(m+m)∧K'.a=K.a∧K'.s.l≤2199023255552∧Off K' z∧Nxt w0 K K'∧Chg w0 w (un (fp z) K.free)∧(∀ b i,b<w0.heap.size→fp r b i→K.free b i)∧w0.heap.size≤pz1∧w0.heap.size≤pz0∧w0.heap.size≤pz2 ∧
  Bank w [sto z,hdr pz1 true r,nmz r V,stk K',hdr pz2 false (z.sub (2*m) z.l),hdr pz0 false (z.sub 0 (2*m)),hdr px0 false x0,hdr px1 false x1,nlz x0 X0,nlz x1 X1]
theorem sqB {w7:World} {K1:SK} {t:Sl} {ptx:Nat} (hz:St w z) (b7:Bank w7 [hdr ptx false (z.sub 0 m),hdr pz1 false t,stk K1,sto t,hdr pz2 false (z.sub (2*m) z.l),hdr pz0 false (z.sub 0 (2*m)),hdr px0 false x0,hdr px1 false x1,nlz x0 X0,nlz x1 X1,sto z])
  (ch7:Chg w w7 (un (fp z) K.free)) (hKa:K1.a=K.a) (hnx:Nxt w K K1) (hK1:K1.s.l≤2199023255552) (ofz:Off K z) (hto:∀ b i,b<w.heap.size→fp t b i→K.free b i) (sptx:w.heap.size≤ptx) (hs3:w.heap.size≤pz1) (spz0:w.heap.size≤pz0) (spz2:w.heap.size≤pz2)
  (hm:m≤79) (h2m:2*m≤z.l) (lx0:x0.l≤79) (lx1:x1.l≤79) (x0b:X0<BB^m) (x1b:X1<BB^m) (hg:Glb w) {C:World→Prop} (q:∀ w',SqMid w K z x0 x1 X0 X1 m px0 px1 pz0 pz2 pz1 w'→C w') :
  Calls Tryz.prog 97 #[.pointer (ptr ptx),.pointer (ptr px0),.pointer (ptr px1)] w7 fun r_16 w_17=>(∃ x_18,r_16=.returned (.pointer x_18)∧(nc (ptr pz1) fun b_19 o_20=>(∃ x_21a,∃ x_21l,∃ x_21c,World.cell? (World.drew w_17) ⟨b_19,(o_20+1),none⟩=some (.slice x_21a x_21l x_21c)∧(nc (ptr ptx) fun b_22 o_23=>(∃ x_24a,∃ x_24l,∃ x_24c,World.cell? (World.drew w_17) ⟨b_22,(o_23+1),none⟩=some (.slice x_24a x_24l x_24c)∧(Calls Tryz.prog 79 #[(.slice x_21a x_21l x_21c),(.pointer K.a),(.slice x_24a x_24l x_24c)] (World.drew w_17) fun r_25 w_26=>(∃ x_27a,∃ x_27l,∃ x_27c,r_25=.returned (.slice x_27a x_27l x_27c)∧(nc (ptr pz1) fun b_28 o_29=>((∃ u_30,World.cell? w_26 ⟨b_28,(o_29+1),none⟩=some u_30)∧World.frozen? w_26 ⟨b_28,(o_29+1),none⟩=false∧(nc (ptr pz1) fun b_31 o_32=>((∃ u_33,World.cell? (World.setCell w_26 ⟨b_28,(o_29+1),none⟩ (.slice x_27a x_27l x_27c)) ⟨b_31,(o_32+0),none⟩=some u_33)∧World.frozen? (World.setCell w_26 ⟨b_28,(o_29+1),none⟩ (.slice x_27a x_27l x_27c)) ⟨b_31,(o_32+0),none⟩=false ∧
   C (World.setCell (World.setCell w_26 ⟨b_28,(o_29+1),none⟩ (.slice x_27a x_27l x_27c)) ⟨b_31,(o_32+0),none⟩ (.bool true))))))))))))):=by
 have hzc:=hz.lc
 have b8:Bank w7 [hdr ptx false (z.sub 0 m),sto z,hdr pz1 false t,stk K1,sto t,hdr pz2 false (z.sub (2*m) z.l),hdr pz0 false (z.sub 0 (2*m)),hdr px0 false x0,hdr px1 false x1,nlz x0 X0,nlz x1 X1]:=b7.pick 11 [0,10,1,2,3,4,5,6,7,8,9] rfl
 have ta:Tg (sto z) (z.sub 0 m):=⟨rfl,fun {w} h=>(h:St w z).sub_st 0 m (Nat.zero_le _) (by omega)⟩
 refine (c97x b8 ta (px:=px0) (py:=px1) (nx:=false) (ny:=false) (sx:=x0) (sy:=x1) (X:=X0) (Y:=X1) (.inr ⟨by simp,.inr (by simp)⟩) (.inr ⟨by simp,.inr (by simp)⟩) (by unfold Len; omega) (by unfold Len; omega)).mono ?_
 rintro e' w8 ⟨rfl,ng1,r1,V1,b9,hv1,-,f1,c8⟩
 have ch8:=ch7.via c8 fun b i hb hm=>hm.elim (fun hm=>by have:b=ptx:=hm; omega) .inl
 have V1b:V1<BB^m:=iv_lt hv1 x0b x1b
 have r1z:Nz w8 r1 V1:=b9.tail.head
 have lr1:r1.l≤m:=r1z.nm m V1b
 have cd:Chg w8 w8.drew none2:=Chg.drew0 w8 _
 have b10:=(b8.keepz ta b9 c8.size).none cd
 have Hx:HdrAt w8.drew ptx ng1 r1:=b10.head
 have b11:Bank w8.drew [stk K1,sto t,nlz r1 V1,hdr pz1 false t,hole (fun b i=>fp (z.sub 0 m) b i∧¬wds r1 b i),hdr pz2 false (z.sub (2*m) z.l),hdr pz0 false (z.sub 0 (2*m)),hdr px0 false x0,hdr px1 false x1,nlz x0 X0,nlz x1 X1] :=
  b10.pick 12 [4,5,1,3,2,6,7,8,9,10,11] rfl
 have Hz:HdrAt w8.drew pz1 false t:=(b11.pick 11 [3] rfl:Bank _ [hdr pz1 false t]).head
 have ch8d:=ch8.via cd fun _ _ _ h=>h.elim
 refine ⟨_,rfl,pz1,0,rfl,t.a,t.l,t.c,Hz.c1,ptx,0,rfl,r1.a,r1.l,r1.c,Hx.c1,?_⟩
 rw [←hKa]
 refine sqrL b11 (x:=r1) (X:=V1) (by simp) (by omega) hK1 (ch8d.glb hg) fun r3 K2 w9 b12 hKa2 hKl2 hnx2 f3 c9=>?_
 have hto':∀ b i,b<w.heap.size→fp t b i→K.free b i:=hto
 have ch9:=ch8d.via c9 fun b i hb hm=>.inr (hm.elim (fun hm=>hto b i hb hm) fun hm=>hnx.free hb hm)
 have b13:Bank w9 [hdr pz1 false t,nmz r3 (V1*V1),stk K2,nlz r1 V1,hole (fun b i=>fp (z.sub 0 m) b i∧¬wds r1 b i),hdr pz2 false (z.sub (2*m) z.l),hdr pz0 false (z.sub 0 (2*m)),hdr px0 false x0,hdr px1 false x1,nlz x0 X0,nlz x1 X1] :=
  b12.pick 11 [3,1,0,2,4,5,6,7,8,9,10] rfl
 have H9:HdrAt w9 pz1 false t:=b13.head
 obtain ⟨b14,c14⟩:=hset1 b13 r3
 have H14:HdrAt (w9.setCell ⟨pz1,1,none⟩ r3.v) pz1 false r3:=b14.head
 obtain ⟨b15,c15⟩:=hset0 b14 true
 have hb0:∀ b i,b<w.heap.size→blk pz1 b i→un (fp z) K.free b i:=fun b i hb hm=>by have:b=pz1:=hm; omega
 have ch15:=(ch9.via c14 hb0).via c15 hb0
 have hnx12:Nxt w K K2:=hnx.trans hnx2 ch8d.size
 refine ⟨_,_,_,rfl,pz1,0,rfl,⟨_,H9.c1⟩,H9.f1,pz1,0,rfl,⟨_,H14.c0⟩,H14.f0,q _ ⟨K2,r3,V1*V1,?_,prod_lt V1b V1b,hKa2.trans hKa,by omega,ofz.nxt hnx12 (fun h=>hz.blk h),hnx12,ch15,from_old (f3.later (w:=w) ch8d) hto,hs3,spz0,spz2,?_⟩⟩
 ·have h1:iv ng1 V1=(X0:Int)-X1:=hv1
  rw [show ((X1:Int)-X0) = -((X0:Int)-X1) by omega,←h1]
  cases ng1 <;> simp [iv,Int.neg_mul,Int.mul_neg]
 ·have b16:Bank _ [hole (fun b i=>fp (z.sub 0 m) b i∧¬wds r1 b i),nlz r1 V1,hdr pz1 true r3,nmz r3 (V1*V1),stk K2,hdr pz2 false (z.sub (2*m) z.l),hdr pz0 false (z.sub 0 (2*m)),hdr px0 false x0,hdr px1 false x1,nlz x0 X0,nlz x1 X1] :=
   b15.pick 11 [4,3,0,1,2,5,6,7,8,9,10] rfl
  refine b16.j2 (ch15.st hz) fun b i hm=>?_
  by_cases q1:wds r1 b i
  ·exact .inr q1
  ·exact .inl ⟨hm,q1⟩
def SqCond (K:SK) (z:Sl) (m px0 px1 pz0 pz2 pz1:Nat) (R:Value→World→Prop) (wm:World):Prop :=
 (∃ w_34,(Sem.run Tryz.prog (builtin .clear #[45] 0 #[false] #[(.slice z.a z.l z.c)]) wm=.ok (.value undef) w_34∧(nc (ptr pz0) fun b_35 o_36=>(∃ x_37a,∃ x_37l,∃ x_37c,World.cell? (World.drew w_34) ⟨b_35,(o_36+1),none⟩=some (.slice x_37a x_37l x_37c)∧(nc (ptr px0) fun b_38 o_39=>(∃ x_40a,∃ x_40l,∃ x_40c,World.cell? (World.drew w_34) ⟨b_38,(o_39+1),none⟩=some (.slice x_40a x_40l x_40c)∧(Calls Tryz.prog 79 #[(.slice x_37a x_37l x_37c),(.pointer K.a),(.slice x_40a x_40l x_40c)] (World.drew w_34) fun r_41 w_42=>(∃ x_43a,∃ x_43l,∃ x_43c,r_41=.returned (.slice x_43a x_43l x_43c)∧(nc (ptr pz0) fun b_44 o_45=>((∃ u_46,World.cell? w_42 ⟨b_44,(o_45+1),none⟩=some u_46)∧World.frozen? w_42 ⟨b_44,(o_45+1),none⟩=false∧(nc (ptr pz2) fun b_47 o_48=>(∃ x_49a,∃ x_49l,∃ x_49c,World.cell? (World.drew (World.setCell w_42 ⟨b_44,(o_45+1),none⟩ (.slice x_43a x_43l x_43c))) ⟨b_47,(o_48+1),none⟩=some (.slice x_49a x_49l x_49c)∧(nc (ptr px1) fun b_50 o_51=>(∃ x_52a,∃ x_52l,∃ x_52c,World.cell? (World.drew (World.setCell w_42 ⟨b_44,(o_45+1),none⟩ (.slice x_43a x_43l x_43c))) ⟨b_50,(o_51+1),none⟩=some (.slice x_52a x_52l x_52c)∧(Calls Tryz.prog 79 #[(.slice x_49a x_49l x_49c),(.pointer K.a),(.slice x_52a x_52l x_52c)] (World.drew (World.setCell w_42 ⟨b_44,(o_45+1),none⟩ (.slice x_43a x_43l x_43c))) fun r_53 w_54=>(∃ x_55a,∃ x_55l,∃ x_55c,r_53=.returned (.slice x_55a x_55l x_55c)∧(nc (ptr pz2) fun b_56 o_57=>((∃ u_58,World.cell? w_54 ⟨b_56,(o_57+1),none⟩=some u_58)∧World.frozen? w_54 ⟨b_56,(o_57+1),none⟩=false∧(Calls Tryz.prog 70 #[(.pointer (ptr pz1)),(.pointer (ptr pz1)),(.pointer (ptr pz0))] (World.setCell w_54 ⟨b_56,(o_57+1),none⟩ (.slice x_55a x_55l x_55c)) fun r_59 w_60=>(∃ x_61,r_59=.returned (.pointer x_61)∧(Calls Tryz.prog 70 #[(.pointer (ptr pz1)),(.pointer (ptr pz1)),(.pointer (ptr pz2))] w_60 fun r_62 w_63=>(∃ x_64,r_62=.returned (.pointer x_64)∧(∃ i_65:Nat,(m:Int)=(i_65:Int)∧i_65≤z.l∧(nc (ptr pz1) fun b_68 o_69=>(∃ x_70a,∃ x_70l,∃ x_70c,World.cell? (World.drew w_63) ⟨b_68,(o_69+1),none⟩=some (.slice x_70a x_70l x_70c)∧(Calls Tryz.prog 119 #[(.slice (shifted z.a i_65 z.c 1) (z.l-i_65) (z.c-i_65)),(.slice x_70a x_70l x_70c)] (World.drew w_63) fun r_71 w_72=>(r_71=.returned undef∧(∀ B_73,retK Tryz.prog [] R .normal (E [] B_73 [Dr K.a (K.s.l:Int)]) w_72))))))))))))))))))))))))))))
theorem sqC {n:Nat} (hz:St w z) (hzl:z.l=2*n) (hmn:m≤n) (hnm:n≤2*m) (hm:m≤79) (hkm:SqMid w K z x0 x1 X0 X1 m px0 px1 pz0 pz2 pz1 wm)
  (x0b:X0<BB^m) (x1b:X1<BB^(n-m)) (spx0:SpC z x0) (spx1:SpC z x1) (hg:Glb w) (R:Value→World→Prop)
  (hR:∀ w',Back w w' K→Sg w' z.b z.o z.l ((X0+BB^m*X1)*(X0+BB^m*X1))→Chg w w' (un (fp z) K.free)→R undef w') :
  SqCond K z m px0 px1 pz0 pz2 pz1 R wm:=by
 unfold SqCond
 obtain ⟨K1,r,V,hiv,hVb,hKa,hK1,oz,hnx,ch,hr,sp1,sp0,sp2,b⟩:=hkm
 have hzc:=hz.lc
 have zm:St wm z:=b.head
 have X0z:Nz wm x0 X0:=(b.pick 10 [8] rfl:Bank wm [nlz x0 X0]).head
 have X1z:Nz wm x1 X1:=(b.pick 10 [9] rfl:Bank wm [nlz x1 X1]).head
 have lx0:x0.l≤m:=X0z.nm m x0b
 have lx1:x1.l≤n-m:=X1z.nm _ x1b
 obtain ⟨w1,r1,b1,c1⟩:=clearB b zm (fun b i hm=>wds_fp zm.lc b i hm)
 have ch1:=ch.via c1 fun b i _ hm=>.inl (wds_fp hzc b i hm)
 have b2:=b1.split (2*m) (by omega)
 rw [Nat.zero_mod,Nat.zero_div,←hz.sub0] at b2
 have cd1:Chg w1 w1.drew none2:=Chg.drew0 w1 _
 have b3:Bank w1.drew [stk K1,nl (z.sub 0 (2*m)) 0,nl (z.sub (2*m) z.l) 0,hdr pz1 true r,nmz r V,hdr pz2 false (z.sub (2*m) z.l),hdr pz0 false (z.sub 0 (2*m)),hdr px0 false x0,hdr px1 false x1,nlz x0 X0,nlz x1 X1] :=
  (b2.none cd1).pick 11 [4,0,1,2,3,5,6,7,8,9,10] rfl
 have ch1d:=ch1.via cd1 fun _ _ _ h=>h.elim
 have so:∀ {s:Sl} (i h:Nat),SpC z s→i≤z.c→SpC (z.sub i h) s:=fun {s} i h hs hi=>by
  unfold SpC Sp at *
  show z.c-i=0∨s.c=0∨z.b≠s.b∨z.o+i+(z.c-i)≤s.o∨s.o+s.c≤z.o+i
  omega
 have oso:∀ {K':SK} (i h:Nat),Off K' z→i≤z.c→Off K' (z.sub i h):=fun {K'} i h ho hi j h1 h2=>ho j (by have:z.o+i≤j:=h1; omega) (by have:j<z.o+i+(z.c-i):=h2; omega)
 have Hz0:HdrAt w1.drew pz0 false (z.sub 0 (2*m)):=(b3.pick 11 [6] rfl:Bank _ [hdr pz0 false (z.sub 0 (2*m))]).head
 have Hx0:HdrAt w1.drew px0 false x0:=(b3.pick 11 [7] rfl:Bank _ [hdr px0 false x0]).head
 refine ⟨w1,r1,pz0,0,rfl,(z.sub 0 (2*m)).a,(z.sub 0 (2*m)).l,(z.sub 0 (2*m)).c,Hz0.c1,px0,0,rfl,x0.a,x0.l,x0.c,Hx0.c1,?_⟩
 rw [←hKa]
 refine sqrI b3 (oso 0 _ oz (by omega)) (x:=x0) (X:=X0) (by simp) (so 0 _ spx0 (by omega)) (by omega) (by show 2*x0.l≤2*m; omega) hK1 (ch1d.glb hg) fun k0 K2 w2 hk0 n0 b4 hKa2 hKl2 hnx2 c4=>?_
 have hk0:k0≤2*m:=hk0
 have ch2:=ch1d.via c4 fun b i hb hm=>hm.elim (fun hm=>.inl ⟨hm.1,hm.2.1,by have:i<z.o+0+(2*m-0):=hm.2.2; omega⟩) fun hm=>.inr (hnx.free hb hm)
 have b5:Bank w2 [hdr pz0 false (z.sub 0 (2*m)),stk K2,nl (z.sub 0 (2*m)) (X0*X0),nl (z.sub (2*m) z.l) 0,hdr pz1 true r,nmz r V,hdr pz2 false (z.sub (2*m) z.l),hdr px0 false x0,hdr px1 false x1,nlz x0 X0,nlz x1 X1] :=
  b4.pick 11 [6,0,1,2,3,4,5,7,8,9,10] rfl
 have H5:HdrAt w2 pz0 false (z.sub 0 (2*m)):=b5.head
 obtain ⟨b6,c6⟩:=hset1 b5 ((z.sub 0 (2*m)).to k0)
 have hb0:∀ {p:Nat},w.heap.size≤p→∀ b i,b<w.heap.size→blk p b i→un (fp z) K.free b i:=fun {p} hp b i hb hm=>by have:b=p:=hm; omega
 have ch3:=ch2.via c6 (hb0 sp0)
 have cd3:Chg (w2.setCell ⟨pz0,1,none⟩ ((z.sub 0 (2*m)).to k0).v) (w2.setCell ⟨pz0,1,none⟩ ((z.sub 0 (2*m)).to k0).v).drew none2:=Chg.drew0 _ _
 have ch3d:=ch3.via cd3 fun _ _ _ h=>h.elim
 have b7:Bank (w2.setCell ⟨pz0,1,none⟩ ((z.sub 0 (2*m)).to k0).v).drew [stk K2,nl (z.sub (2*m) z.l) 0,hdr pz0 false ((z.sub 0 (2*m)).to k0),nl (z.sub 0 (2*m)) (X0*X0),hdr pz1 true r,nmz r V,hdr pz2 false (z.sub (2*m) z.l),hdr px0 false x0,hdr px1 false x1,nlz x0 X0,nlz x1 X1] :=
  (b6.none cd3).pick 11 [1,3,0,2,4,5,6,7,8,9,10] rfl
 have Hz2:HdrAt (w2.setCell ⟨pz0,1,none⟩ ((z.sub 0 (2*m)).to k0).v).drew pz2 false (z.sub (2*m) z.l):=(b7.pick 11 [6] rfl:Bank _ [hdr pz2 false (z.sub (2*m) z.l)]).head
 have Hx1:HdrAt (w2.setCell ⟨pz0,1,none⟩ ((z.sub 0 (2*m)).to k0).v).drew px1 false x1:=(b7.pick 11 [8] rfl:Bank _ [hdr px1 false x1]).head
 have hnx12:Nxt w K K2:=hnx.trans hnx2 ch1d.size
 have oz2:Off K2 z:=oz.nxt hnx2 fun h=>Nat.lt_of_lt_of_le (hz.blk h) ch1d.size
 refine ⟨_,_,_,rfl,pz0,0,rfl,⟨_,H5.c1⟩,H5.f1,pz2,0,rfl,(z.sub (2*m) z.l).a,(z.sub (2*m) z.l).l,(z.sub (2*m) z.l).c,Hz2.c1,px1,0,rfl,x1.a,x1.l,x1.c,Hx1.c1,?_⟩
 rw [←hKa2]
 refine sqrI b7 (oso _ _ oz2 (by omega)) (x:=x1) (X:=X1) (by simp) (so _ _ spx1 (by omega)) (by omega) (by show 2*x1.l≤z.l-2*m; omega) (by omega) (ch3d.glb hg) fun k2 K3 w4 hk2 n2 b8 hKa3 hKl3 hnx3 c8=>?_
 have hk2:k2≤z.l-2*m:=hk2
 have ch4:=ch3d.via c8 fun b i hb hm=>hm.elim (fun hm=>.inl ⟨hm.1,by have:z.o+2*m≤i:=hm.2.1; omega,by have:i<z.o+2*m+(z.l-2*m):=hm.2.2; omega⟩) fun hm=>.inr (hnx12.free hb hm)
 have b9:Bank w4 [hdr pz2 false (z.sub (2*m) z.l),stk K3,nl (z.sub (2*m) z.l) (X1*X1),hdr pz0 false ((z.sub 0 (2*m)).to k0),nl (z.sub 0 (2*m)) (X0*X0),hdr pz1 true r,nmz r V] :=
  (b8.pick 11 [6,0,1,2,3,4,5] rfl).left (A:=[_,_,_,_,_,_,_])
 have H9:HdrAt w4 pz2 false (z.sub (2*m) z.l):=b9.head
 obtain ⟨b10,c10⟩:=hset1 b9 ((z.sub (2*m) z.l).to k2)
 have ch5:=ch4.via c10 (hb0 sp2)
 have hnx13:Nxt w K K3:=hnx12.trans hnx3 ch3d.size
 have b11:Bank _ [nl (z.sub (2*m) z.l) (X1*X1),hdr pz2 false ((z.sub (2*m) z.l).to k2),stk K3,hdr pz0 false ((z.sub 0 (2*m)).to k0),nl (z.sub 0 (2*m)) (X0*X0),hdr pz1 true r,nmz r V]:=b10.pick 7 [2,0,1,3,4,5,6] rfl
 have t2:Nt _ (z.sub (2*m) z.l) (X1*X1):=b11.head
 have b12:=b11.norm hk2 { t2.low k2 hk2 n2.lt with nm:=n2.nm }
 have b13:Bank _ [nl (z.sub 0 (2*m)) (X0*X0),nlz ((z.sub (2*m) z.l).to k2) (X1*X1),nl ((z.sub (2*m) z.l).sub k2 (z.l-2*m)) 0,hdr pz2 false ((z.sub (2*m) z.l).to k2),stk K3,hdr pz0 false ((z.sub 0 (2*m)).to k0),hdr pz1 true r,nmz r V]:=b12.pick 8 [5,0,1,2,3,4,6,7] rfl
 have t0:Nt _ (z.sub 0 (2*m)) (X0*X0):=b13.head
 have b14:=b13.norm hk0 { t0.low k0 hk0 n0.lt with nm:=n0.nm }
 have b15:Bank _ [hdr pz1 true r,nmz r V,nlz ((z.sub (2*m) z.l).to k2) (X1*X1),nl ((z.sub (2*m) z.l).sub k2 (z.l-2*m)) 0,nlz ((z.sub 0 (2*m)).to k0) (X0*X0),nl ((z.sub 0 (2*m)).sub k0 (2*m)) 0,stk K3,hdr pz0 false ((z.sub 0 (2*m)).to k0),hdr pz2 false ((z.sub (2*m) z.l).to k2)] :=
  b14.pick 9 [7,8,2,3,0,1,5,6,4] rfl
 have rz:Nz _ r V:=b15.tail.head
 have lr:r.l≤m+m:=rz.nm _ hVb
 refine ⟨_,_,_,rfl,pz2,0,rfl,⟨_,H9.c1⟩,H9.f1,(c70x b15 (Tg.nmz r V) (px:=pz1) (py:=pz0) (nx:=true) (ny:=false) (sx:=r) (sy:=(z.sub 0 (2*m)).to k0) (X:=V) (Y:=X0*X0) Opx.self (.inr ⟨by simp,.inr (by simp)⟩) (by unfold Len; omega) (by unfold Len; show k0≤_; omega)).mono ?_⟩
 rintro e' w6 ⟨rfl,ng4,r4,V4,b16,hv4,-,f4,c16⟩
 have ch6:=ch5.via c16 fun b i hb hm=>hm.elim (fun hm=>by have:b=pz1:=hm; omega) fun hm=>.inr (hr b i hb hm)
 have hv4':iv ng4 V4=iv true V+((X0*X0:Nat):Int):=hv4
 have P0b:X0*X0<BB^(m+m):=prod_lt x0b x0b
 have V4b:V4<BB^(m+m+1):=by
  have:=iv_add hv4'
  rw [BBpow_succ]
  have:BB^(m+m)*2≤BB^(m+m)*BB:=Nat.mul_le_mul_left _ (by rw [BB_eq]; omega)
  omega
 have r4z:Nz w6 r4 V4:=b16.tail.head
 have lr4:r4.l≤m+m+1:=r4z.nm _ V4b
 refine ⟨_,rfl,(c70x b16 (Tg.nmz r4 V4) (px:=pz1) (py:=pz2) (nx:=ng4) (ny:=false) (sx:=r4) (sy:=(z.sub (2*m) z.l).to k2) (X:=V4) (Y:=X1*X1) Opx.self (.inr ⟨by simp,.inr (by simp)⟩) (by unfold Len; omega) (by unfold Len; show k2≤_; omega)).mono ?_⟩
 rintro e' w7 ⟨rfl,ng5,r5,V5,b17,hv5,hz5,f5,c17⟩
 have ch7:=ch6.via c17 fun b i hb hm=>hm.elim (fun hm=>by have:b=pz1:=hm; omega) fun hm=>.inr (hr b i hb (from_old (f4.later (w:=w) ch5) (S:=fp r) (fun _ _ _ h=>h) b i hb hm))
 have hmid:V5=X0*X1+X1*X0:=kar_mid (Y0:=X0) (Y1:=X1) rfl rfl (by rw [hv5,hv4',hiv]; rfl) hz5
 have hval:=kar_val X0 X1 X0 X1 (BB^m)
 rw [←hmid,←Nat.pow_add,←Nat.two_mul] at hval
 refine ⟨_,rfl,?_⟩
 rw [hKa2,hKa]
 refine karEnd (L:=[hdr pz0 false ((z.sub 0 (2*m)).to k0),hdr pz2 false ((z.sub (2*m) z.l).to k2)]) hz (by omega) hk0 hk2 b17 ch7 (hKa3.trans (hKa2.trans hKa)) hnx13 ?_ R ?_
 ·rw [hval]
  have e1:X0+BB^m*X1<BB^n:=by
   have:=Nat.mul_le_mul_left (BB^m) x1b
   rw [←Nat.pow_add,show m+(n-m)=n by omega,Nat.mul_succ] at this
   omega
  have:=prod_lt e1 e1
  rw [hzl,Nat.two_mul]; exact this
 ·rw [hval]; exact hR
end
end Go.Proofs.YtlkjiiibmfpbcaaGreatDoor
namespace Go.Proofs.YtlkjiiibmfpbcaaGreatDoor
open Go
theorem c116 {w:World} {K:SK} {z x:Sl} {X n:Nat} (hb:Bank w [stk K,sto z,nl x X]) (spx:SpC z x) (lz:z.l=2*n) (lx:x.l=n) (hn:80≤n) (hn2:n≤158) (hL:K.s.l≤1099511627776) (hg:Glb w) :
  Calls Tryz.prog 116 #[.pointer K.a,z.v,x.v] w fun e w'=>e=.returned undef∧Back w w' K∧Sg w' z.b z.o z.l (X*X)∧Chg w w' (un (fp z) K.free):=by
 refine (F116.call K.a z.a z.l z.c x.a x.l x.c w (fun v w'=>v=undef∧Back w w' K∧Sg w' z.b z.o z.l (X*X)∧Chg w w' (un (fp z) K.free)) fun B=>⟨by unfold inI64; omega,bc_false (neF (by omega)) fun B1=>?_⟩).mono fun e w' ⟨v,h1,h2,h3⟩=>⟨by rw [h1,h2],h3⟩
 have hx0:Nt w x X:=(hb.pick 3 [2] rfl:Bank w [nl x X]).head
 have hz0:St w z:=(hb.pick 3 [1] rfl:Bank w [sto z]).head
 have dz:Dj K.free (fp z):=hb.hdj (b:=sto z) (by simp)
 have hxc:=hx0.lc
 have hzc:=hz0.lc
 have hgb:=hz0.gb
 obtain ⟨m,hm⟩:∃ m,m=(n+1)/2:=⟨_,rfl⟩
 have hq:iQuo .i64 ((x.l:Int)+1) 2=(m:Int):=by rw [hm,lx]; exact iQuoI (n+1) 2 (by omega)
 have b0:Bank w [nl x X,stk K,sto z]:=hb.pick 3 [2,0,1] rfl
 obtain ⟨k0,k1,C1,C2,C3,H1,H2⟩:=halvesC b0 (show m≤x.l by omega) hgb
 have fin:∀ (e:Env) (p0 p1:Option Addr) (w1:World),agree e (F116.l2 K.a z.a z.l z.c m p0 p1)→e.defers=[]→Halves w x X m [stk K,sto z] p0 p1 w1→W Tryz.prog 138 F116.p2 e w1 (retK Tryz.prog [] fun v w'=>v=undef∧Back w w' K∧Sg w' z.b z.o z.l (X*X)∧Chg w w' (un (fp z) K.free)):=by
  rintro e p0 p1 w1 ha hd ⟨px0,px1,kx0,kx1,rfl,rfl,hkx0,hkx1,sx0,sx1,cx,bx⟩
  have X1b:X/BB^m<BB^(n-m):=by rw [Nat.div_lt_iff_lt_mul (BBpow_pos m),←Nat.pow_add,show n-m+m=x.l by omega]; exact hx0.lt
  have X0b:X%BB^m<BB^m:=Nat.mod_lt _ (BBpow_pos m)
  have hz:St w1 z:=cx.st hz0
  have hg1:=cx.glb hg
  have hgb1:=hz.gb
  have e2:(2*(m:Int))=((2*m:Nat):Int):=by omega
  obtain ⟨b1,c1⟩:=newInt bx hgb1 false (z.sub 0 (2*m))
  obtain ⟨b2,c2⟩:=newInt b1 (Nat.le_trans hgb1 c1.size) false (z.sub (2*m) z.l)
  have c02:=c1.trans' c2
  refine F116.t2 K.a z.a z.l z.c m (ptr px0) (ptr px1) ha fun B=>?_
  unfold F116.v2
  rw [hd]
  refine ⟨by unfold inI64; omega,0,2*m,rfl,e2,Nat.zero_le _,by omega,by unfold inI64; omega,2*m,e2,by omega,?_⟩
  have hk2:StkAt _ K:=(b2.pick 8 [6] rfl:Bank _ [stk K]).head
  refine (c103 _ K hk2).mono ?_
  rintro e' w2 ⟨_,rfl,rfl,hw⟩
  subst hw
  have b3:=b2.pick 8 [6,0,1,2,3,4,5,7] rfl
  refine ⟨_,rfl,by unfold inI64; omega,by unfold inI64; omega,?_⟩
  rw [show (2*(m:Int))+1=((2*m+1:Nat):Int) by omega]
  refine takeB b3 (by omega) (by omega) fun t K1 w3 htl b4 hKa hK1l hnx htf c3=>?_
  have hg3:GB≤w3.heap.size:=Nat.le_trans hgb1 (Nat.le_trans c02.size c3.size)
  refine ⟨_,_,_,rfl,0,m,rfl,rfl,Nat.zero_le _,by omega,?_⟩
  obtain ⟨b5,c5⟩:=newInt b4 hg3 false t
  obtain ⟨b6,c6⟩:=newInt b5 (Nat.le_trans hg3 c5.size) false (z.sub 0 m)
  have c36:=c5.trans' c6
  have hs3:w1.heap.size≤w3.heap.size:=Nat.le_trans c02.size c3.size
  have ch7:Chg w1 _ (un (fp z) K.free):=((c02.none (un (fp z) K.free)).via c3 fun b i _ hm=>.inr hm).via c36 fun _ _ _ h=>h.elim
  have X0z:Nz w1 (x.to kx0) (X%BB^m):=(bx.pick 6 [2] rfl:Bank _ [nlz (x.to kx0) (X%BB^m)]).head
  have X1z:Nz w1 ((x.sub m x.l).to kx1) (X/BB^m):=(bx.pick 6 [3] rfl:Bank _ [nlz ((x.sub m x.l).to kx1) (X/BB^m)]).head
  refine sqB (w:=w1) (K1:=K1) (t:=t) (pz0:=w1.heap.size) (C:=SqCond K z m px0 px1 w1.heap.size _ _ (fun v w'=>v=undef∧Back w w' K∧Sg w' z.b z.o z.l (X*X)∧Chg w w' (un (fp z) K.free))) hz b6 ch7 hKa (hnx.mono c02.size) (by omega) dz.off (fun b i hb hm=>htf b i (Nat.lt_of_lt_of_le hb c02.size) hm) (Nat.le_trans hs3 c5.size) hs3 (Nat.le_refl _) c1.size (by omega) (by omega) (by have:=X0z.nm m X0b; omega) (by have:=X1z.nm _ X1b; omega) X0b (lt_pow_of_le X1b (by omega)) hg1 fun w' hk=>?_
  refine sqC hz lz (by omega) (by omega) (by omega) hk X0b X1b spx (spx.subR (h:=x.l) (by omega)) hg1 _ fun w3 h1 h2 h3=>⟨rfl,h1.from_ cx.size,?_,(cx.none _).trans' h3⟩
  rwa [Nat.mod_add_div] at h2
 refine F116.t1 K.a z.a z.l z.c x.a x.l x.c x.l ⟨rfl,rfl,rfl,rfl,trivial⟩ fun B2=>⟨_,hg.t4,bc_false (decF (by omega)) (bc_false (decF (by omega)) ⟨by unfold inI64; omega,by omega,fun B3=>?_⟩)⟩
 refine F116.t3 K.a z.a z.l z.c x.a x.l x.c m ⟨rfl,rfl,rfl,intv hq,trivial⟩ fun B4=>⟨m,rfl,by omega,C1 _ ⟨_,_,_,rfl,m,rfl,by omega,C3 _ ⟨_,_,_,rfl,?_⟩,C2 _ ⟨_,_,_,rfl,?_,?_⟩⟩⟩
 ·exact fin _ _ _ _ ⟨rfl,rfl,rfl,rfl,rfl,trivial⟩ rfl H1
 ·exact fin _ _ _ _ ⟨rfl,rfl,rfl,rfl,rfl,trivial⟩ rfl H1
 ·exact fin _ _ _ _ ⟨rfl,rfl,rfl,rfl,rfl,trivial⟩ rfl H2
end Go.Proofs.YtlkjiiibmfpbcaaGreatDoor
namespace Go.Proofs.YtlkjiiibmfpbcaaGreatDoor
open Go
theorem Apart.dj {z x:Sl} (h:Apart z x):Dj (fp z) (wds x):=fun b i h1 h2=>by
 have a1:=h1.1; have a2:=h1.2.1; have a3:=h1.2.2
 have b1:=h2.1; have b2:=h2.2.1; have b3:=h2.2.2
 unfold Apart at h
 omega
theorem OffL.dj {K:SK} {x:Sl} (h:OffL K x):Dj K.free (wds x):=fun b i h1 h2=>h i h2.2.1 h2.2.2 (by rw [←h2.1]; exact h1)
theorem c79b (K:SK) (z x:Sl) (X:Nat) (w:World) (hk:StkAt w K) (hz:St w z) (hx:Nz w x X) (sx:SpC z x) (oz:Off K z) (ox:OffL K x) (lx:80≤x.l) (lx2:x.l≤158) (hL:K.s.l≤1099511627776) (hg:Glb w) :
  Calls Tryz.prog 79 #[z.v,.pointer K.a,x.v] w (ResKE w K z (X*X)):=by
 have hzc:=hz.lc
 have hxc:=hx.lc
 refine F79.call z.a z.l z.c K.a x.a x.l x.c w _ fun B=>bc_false (eqF (by omega)) (bc_false (eqF (by omega)) ((c49 z x w hz.pc hx.toSt.pc hz.cm hx.cm).mono ?_))
 rintro e w1 ⟨_,rfl,q,rfl,rfl,hq⟩
 have cd:Chg w w.drew none2:=Chg.drew0 w _
 have hq0:q=false:=by
  cases q
  ·rfl
  ·exact absurd (hq.1 rfl) sx.noq
 subst hq0
 have e2:(2*(x.l:Int))=((2*x.l:Nat):Int):=by omega
 refine ⟨_,rfl,bc_false rfl fun B3=>F79.t1 z.a z.l z.c K.a x.a x.l x.c x.l ⟨rfl,rfl,rfl,rfl,trivial⟩ fun B4=>?_⟩
 unfold F79.v1
 rw [e2]
 refine ⟨by unfold inI64; omega,(c73 z (2*x.l) w.drew (cd.st hz) (by omega)).mono ?_⟩
 rintro e' w1 ⟨_,rfl,r,rfl,hrl,hr,hf,hc⟩
 have h01:=cd.trans' hc
 have hf0:From w z r:=hf.later cd
 have hrc:=hr.lc
 have hx1:=h01.nz_none hx
 have hg1:=h01.glb hg
 have hk1:=hk.none h01
 have or1:Off K r:=Off.new hk hf0 oz
 have srx:SpC r x:=from_spc hf0 sx (fun h=>hx.toNt.toSt.blk h)
 have hlt:X*X<BB^r.l:=by rw [hrl]; have:=prod_lt hx.lt hx.lt; rw [show x.l+x.l=2*x.l by omega] at this; exact this
 refine ⟨_,_,_,rfl,_,hg1.t3,bc_false (decF (by omega)) ⟨_,rfl,bc_false rfl fun B1=>F79.t2 r.a r.l r.c K.a x.a x.l x.c x.l ⟨rfl,rfl,rfl,rfl,trivial⟩ fun B2=>⟨_,hg1.t4,bc_false (decF (by omega)) ?_⟩⟩⟩
 have bb:Bank w1 [stk K,sto r,nl x X]:=Bank.three hk1 hr hx1.toNt or1.dj ox.dj (srx.apart hx.lc).dj
 refine (c116 bb srx hrl rfl lx lx2 hL hg1).mono ?_
 rintro e' w2 ⟨rfl,⟨K',b1,b2,b3⟩,hsg,hch⟩
 have hr2:=hch.st hr
 have hrm:=hr.cm
 refine ⟨rfl,(c46 r (X*X) w2 { hr2 with sg:=hsg,lt:=hlt } (by omega)).mono ?_⟩
 rintro e' w3 ⟨_,rfl,k,hk',rfl,hw,hnz⟩
 have hw:=hw.symm
 subst hw
 refine ⟨_,_,_,rfl,fun B3=>ret1 rfl rfl ⟨r.to k,K',rfl,hnz,hf0,b1,b2.mono h01.size,b3,or1.nxt b2 (fun h=>hr.blk h),fun h _=>(NoB.new hk h).nxt b2 (fun h0=>hr.blk h0),?_⟩⟩
 exact (h01.none (un (fp z) K.free)).via hch fun b i hb hm=>hm.imp (fun hm=>from_sub hf0 b i hb hm) id
end Go.Proofs.YtlkjiiibmfpbcaaGreatDoor
