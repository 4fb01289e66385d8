/- Contracts: a product of two whole numbers into a cleared place; the halves of a number. Conditions: factors below 40 words. -/
import Derived.Test.YtlkjiiibmfpbcaaGreatDoorS22
import Derived.Test.YtlkjiiibmfpbcaaGreatDoorS23
import Derived.Test.YtlkjiiibmfpbcaaGreatDoorS08
namespace Go.Proofs.YtlkjiiibmfpbcaaGreatDoor
open Go
theorem St.sub0 {w:World} {z:Sl} (h:St w z) (n:Nat):z.sub 0 n=z.to n:=by
 show Sl.mk (shifted z.a 0 z.c 1) (n-0) (z.c-0) z.b (z.o+0)=_
 rw [shifted0 h]; rfl
theorem c149i {w:World} {p px py:Nat} {z sx sy:Sl} {X Y:Nat} {L:List Item} (h:Bank w (hdr p false z :: nl z 0 :: L)) (hx:hdr px false sx∈L) (hx':nlz sx X∈L) (hy:hdr py false sy∈L) (hy':nlz sy Y∈L) (hne:px≠py) (hs:sx.l<40∧sy.l<40)
  (hn:sx.l+sy.l≤z.l) (spx:SpC z sx) (spy:SpC z sy) (hg:Glb w) (stk:Option Addr) :
  Calls Tryz.prog 149 #[.pointer (ptr p),.pointer stk,.pointer (ptr px),.pointer (ptr py)] w fun e w'=>e=.returned undef∧∃ k,k≤z.l∧Bank w' (nlz (z.to k) (X*Y) :: nl (z.sub k z.l) 0 :: hdr p false (z.to k) :: L)∧Chg w w' (un (blk p) (wds z)):=by
 refine (F149.call (ptr p) stk (ptr px) (ptr py) w (fun v w'=>v=undef∧∃ k,k≤z.l∧Bank w' (nlz (z.to k) (X*Y) :: nl (z.sub k z.l) 0 :: hdr p false (z.to k) :: L)∧Chg w w' (un (blk p) (wds z))) fun B=>?_).mono fun e w' ⟨v,h1,h2,h3⟩=>⟨by rw [h1,h2],h3⟩
 have c1:Chg w w.drew none2:=Chg.drew0 w _
 have b1:=h.none c1
 have X0:HdrAt w px false sx:=h.tail.tail.all _ hx
 have Y0:HdrAt w py false sy:=h.tail.tail.all _ hy
 have X1:HdrAt w.drew px false sx:=b1.tail.tail.all _ hx
 have Y1:HdrAt w.drew py false sy:=b1.tail.tail.all _ hy
 have Z1:HdrAt w.drew p false z:=b1.head
 have xz:Nz w.drew sx X:=b1.tail.tail.all _ hx'
 have yz:Nz w.drew sy Y:=b1.tail.tail.all _ hy'
 have zz:Nt w.drew z 0:=b1.tail.head
 refine ⟨false,ptrDiff X0.own.2 Y0.own.2 hne,bc_false rfl ⟨p,0,rfl,z.a,z.l,z.c,Z1.c1,px,0,rfl,sx.a,sx.l,sx.c,X1.c1,py,0,rfl,sy.a,sy.l,sy.c,Y1.c1,(c80i z sx sy X Y stk w.drew zz xz yz spx spy (by unfold Len; omega) (by unfold Len; omega) hs hn (c1.glb hg)).mono ?_⟩⟩
 rintro e w2 ⟨_,rfl,k,rfl,hk,hnz,hsg,hlt,hch⟩
 have b3:Bank w2 (nl z (X*Y) :: hdr p false z :: L):=(b1.perm (List.Perm.swap _ _ _)).upd hch (fun _ _ _ h=>h) { hch.st zz.toSt with sg:=hsg,lt:=hlt } fun _ _ _ h=>h
 have b3:=b3.perm (List.Perm.swap _ _ _)
 have H3:HdrAt w2 p false z:=b3.head
 obtain ⟨b4,c4⟩:=hset1 b3 (z.to k)
 have c5:Chg (w2.setCell ⟨p,1,none⟩ (z.to k).v) (w2.setCell ⟨p,1,none⟩ (z.to k).v).drew none2:=Chg.drew0 _ _
 have b5:=b4.none c5
 have H5:HdrAt (w2.setCell ⟨p,1,none⟩ (z.to k).v).drew p false (z.to k):=b5.head
 have nz4:Nz (w2.setCell ⟨p,1,none⟩ (z.to k).v).drew (z.to k) (X*Y):=by
  have t:Nt (w2.setCell ⟨p,1,none⟩ (z.to k).v).drew z (X*Y):=b5.tail.head
  exact { t.low k hk hnz.lt with nm:=hnz.nm }
 have ctot:Chg w (w2.setCell ⟨p,1,none⟩ (z.to k).v).drew (un (blk p) (wds z)):=(((c1.none _).trans' (hch.r _)).trans' (c4.l _)).trans' (c5.none _)
 have hX5:HdrAt (w2.setCell ⟨p,1,none⟩ (z.to k).v).drew px false sx:=b5.tail.tail.all _ hx
 have hY5:HdrAt (w2.setCell ⟨p,1,none⟩ (z.to k).v).drew py false sy:=b5.tail.tail.all _ hy
 obtain ⟨b6,c6⟩:=hset0 b5 false
 have t6:=ctot.trans' (c6.l _)
 have nz6:Nz ((w2.setCell ⟨p,1,none⟩ (z.to k).v).drew.setCell ⟨p,0,none⟩ (.bool false)) (z.to k) (X*Y):=by
  have t:Nt ((w2.setCell ⟨p,1,none⟩ (z.to k).v).drew.setCell ⟨p,0,none⟩ (.bool false)) z (X*Y):=b6.tail.head
  exact { t.low k hk hnz.lt with nm:=hnz.nm }
 have fin:=((b6.perm (List.Perm.swap _ _ _)).norm hk nz6)
 exact ⟨_,_,_,rfl,p,0,rfl,⟨_,H3.c1⟩,H3.f1,p,0,rfl,(z.to k).a,(z.to k).l,(z.to k).c,H5.c1,bc_intro (fun hb=>⟨px,0,rfl,false,hX5.c0,py,0,rfl,false,hY5.c0,p,0,rfl,⟨_,H5.c0⟩,H5.f0,fun B3=>ret0 rfl ⟨rfl,k,hk,fin,t6⟩⟩) (fun hb=>⟨p,0,rfl,⟨_,H5.c0⟩,H5.f0,fun B3=>ret0 rfl ⟨rfl,k,hk,fin,t6⟩⟩)⟩
theorem Nz.ex {w:World} {s:Sl} {V:Nat} (h:Nt w s V):∃ k,k≤s.l∧Nz w (s.to k) V:=by
 have:∀ n,V<BB^n→∃ k,k≤n∧V<BB^k∧(k≠0→BB^(k-1)≤V):=by
  intro n
  induction n with
  | zero=>exact fun h=>⟨0,Nat.le_refl _,h,fun h=>absurd rfl h⟩
  | succ n ih =>
   intro hV
   rcases Nat.lt_or_ge V (BB^n) with h1 | h1
   ·obtain ⟨k,a,b⟩:=ih h1
    exact ⟨k,by omega,b⟩
   ·exact ⟨n+1,Nat.le_refl _,hV,fun _=>h1⟩
 obtain ⟨k,h1,h2,h3⟩:=this s.l h.lt
 exact ⟨k,h1,{ h.low k h1 h2 with nm:=Nm.top h3 }⟩
theorem normQ {w:World} {s:Sl} {V k:Nat} {Q:Ending→World→Prop} (h:Nt w s V) (n:Nz w (s.to k) V) (_:k≤s.l) (q:Q (.returned (s.to k).v) w):Calls Tryz.prog 46 #[s.v] w Q :=
 normB h fun k' _ n'=>by
  have:k'=k:=Nm.uniq n'.nm n.nm n'.toNt n.toNt
  subst this; exact q
def Halves (w:World) (x:Sl) (X m:Nat) (L:List Item) (p0 p1:Option Addr) (w':World):Prop :=
 ∃ q0 q1 k0 k1,p0=ptr q0∧p1=ptr q1∧k0≤m∧k1≤x.l-m∧w.heap.size≤q0∧w.heap.size≤q1∧Chg w w' none2 ∧
  Bank w' (hdr q0 false (x.to k0) :: hdr q1 false ((x.sub m x.l).to k1) :: nlz (x.to k0) (X%BB^m) :: nlz ((x.sub m x.l).to k1) (X/BB^m) :: L)
theorem halves {w:World} {x:Sl} {X m k0 k1:Nat} {L:List Item} (h:Bank w (nl x X :: L)) (hm:m≤x.l) (hk0:k0≤m) (hk1:k1≤x.l-m) (n0:Nz w (x.to k0) (X%BB^m)) (n1:Nz w ((x.sub m x.l).to k1) (X/BB^m)) :
  Bank w (nlz (x.to k0) (X%BB^m) :: nlz ((x.sub m x.l).to k1) (X/BB^m) :: L):=by
 refine h.m2 n0 n1 (fun b i h1 h2=>?_) (fun b i h1=>?_) fun b i h1=>?_
 ·have a1:i<x.o+k0:=h1.2.2
  have a2:x.o+m≤i:=h2.2.1
  omega
 ·have a1:i<x.o+k0:=h1.2.2
  exact ⟨h1.1,h1.2.1,by omega⟩
 ·have a1:i<x.o+m+k1:=h1.2.2
  have a2:x.o+m≤i:=h1.2.1
  exact ⟨h1.1,by omega,by omega⟩
theorem halvesC {w:World} {x:Sl} {X m:Nat} {L:List Item} (h:Bank w (nl x X :: L)) (hm:m≤x.l) (hg:GB≤w.heap.size) :
  ∃ k0 k1,(∀ Q:Ending→World→Prop,Q (.returned (x.to k0).v) w.drew→Calls Tryz.prog 46 #[(x.to m).v] w.drew Q) ∧
   (∀ Q:Ending→World→Prop,Q (.returned ((x.sub m x.l).to k1).v) w.drew→Calls Tryz.prog 46 #[(x.sub m x.l).v] w.drew Q) ∧
   (∀ Q:Ending→World→Prop,Q (.returned ((x.sub m x.l).to k1).v) (w.drew.alloc (.cells #[.bool false,(x.to k0).v] 47))→Calls Tryz.prog 46 #[(x.sub m x.l).v] (w.drew.alloc (.cells #[.bool false,(x.to k0).v] 47)) Q) ∧
   Halves w x X m L (ptr w.drew.heap.size) (ptr (w.drew.alloc (.cells #[.bool false,(x.to k0).v] 47)).heap.size) ((w.drew.alloc (.cells #[.bool false,(x.to k0).v] 47)).alloc (.cells #[.bool false,((x.sub m x.l).to k1).v] 47)) ∧
   Halves w x X m L (ptr (w.drew.alloc (.cells #[.bool false,((x.sub m x.l).to k1).v] 47)).heap.size) (ptr w.drew.heap.size) ((w.drew.alloc (.cells #[.bool false,((x.sub m x.l).to k1).v] 47)).alloc (.cells #[.bool false,(x.to k0).v] 47)):=by
 have cd:Chg w w.drew none2:=Chg.drew0 w _
 have b1:=h.none cd
 have hx:Nt w.drew x X:=b1.head
 have hgd:GB≤w.drew.heap.size:=hg
 obtain ⟨k0,hk0,n0⟩:=Nz.ex (hx.lo_nt m hm)
 obtain ⟨k1,hk1,n1⟩:=Nz.ex (hx.hi_nt m hm)
 have hk0:k0≤m:=hk0
 have hk1:k1≤x.l-m:=hk1
 have b2:=halves b1 hm hk0 hk1 n0 n1
 refine ⟨k0,k1,fun Q q=>normQ (hx.lo_nt m hm) n0 hk0 q,fun Q q=>normQ (hx.hi_nt m hm) n1 hk1 q,fun Q q=>?_,?_,?_⟩
 ·obtain ⟨b3,c3⟩:=newInt b2 hgd false (x.to k0)
  exact normQ (c3.nt_none (hx.hi_nt m hm)) (c3.nz_none n1) hk1 q
 ·obtain ⟨b3,c3⟩:=newInt b2 hgd false (x.to k0)
  obtain ⟨b4,c4⟩:=newInt b3 (Nat.le_trans hgd c3.size) false ((x.sub m x.l).to k1)
  exact ⟨_,_,k0,k1,rfl,rfl,hk0,hk1,Nat.le_refl _,c3.size,(cd.trans' c3).trans' c4,b4.perm (List.Perm.swap _ _ _)⟩
 ·obtain ⟨b3,c3⟩:=newInt b2 hgd false ((x.sub m x.l).to k1)
  obtain ⟨b4,c4⟩:=newInt b3 (Nat.le_trans hgd c3.size) false (x.to k0)
  exact ⟨_,_,k0,k1,rfl,rfl,hk0,hk1,c3.size,Nat.le_refl _,(cd.trans' c3).trans' c4,b4⟩
end Go.Proofs.YtlkjiiibmfpbcaaGreatDoor
namespace Go.Proofs.YtlkjiiibmfpbcaaGreatDoor
open Go
theorem iv_lt {ng:Bool} {V A B n:Nat} (h:iv ng V=(A:Int)-(B:Int)) (hA:A<n) (hB:B<n):V<n:=by
 cases ng
 ·have h:(V:Int)=A-B:=h
  omega
 ·have h:-(V:Int)=A-B:=h
  omega
theorem iv_abs (ng:Bool) (V:Nat):(iv ng V).natAbs=V:=by cases ng <;> simp [iv]
theorem iv_mul {a b c:Bool} {U V W:Nat} (h:iv c W=iv a U*iv b V):W=U*V:=by
 have:=congrArg Int.natAbs h
 rwa [Int.natAbs_mul,iv_abs,iv_abs,iv_abs] at this
theorem iv_add {a b:Bool} {U V W:Nat} (h:iv b W=iv a U+(V:Int)):W≤U+V:=by
 cases a <;> cases b <;> simp only [iv] at h <;> simp at h <;> omega
theorem kar_mid {ng:Bool} {V X0 X1 Y0 Y1:Nat} {d e:Int} (hd:d=(X0:Int)-X1) (he:e=(Y1:Int)-Y0) (h:iv ng V=d*e+(X0*Y0:Nat)+(X1*Y1:Nat)) (hz:V=0→ng=false):V=X0*Y1+X1*Y0:=by
 have h1:iv ng V=((X0*Y1+X1*Y0:Nat):Int):=by
  rw [h,hd,he]
  push_cast
  rw [Int.sub_mul,Int.mul_sub,Int.mul_sub]
  omega
 cases ng
 ·have h1:(V:Int)=_:=h1
  omega
 ·have h1:-(V:Int)=_:=h1
  omega
theorem kar_val (X0 X1 Y0 Y1 B:Nat):X0*Y0+B*B*(X1*Y1)+B*(X0*Y1+X1*Y0)=(X0+B*X1)*(Y0+B*Y1):=by
 rw [Nat.add_mul,Nat.mul_add,Nat.mul_add,Nat.mul_add]
 have e1:X0*(B*Y1)=B*(X0*Y1):=Nat.mul_left_comm _ _ _
 have e2:B*X1*Y0=B*(X1*Y0):=Nat.mul_assoc _ _ _
 have e3:B*X1*(B*Y1)=B*B*(X1*Y1):=by rw [Nat.mul_assoc,Nat.mul_left_comm X1 B Y1,Nat.mul_assoc]
 omega
theorem from_old {w:World} {z r:Sl} (hf:From w z r) {S:Set2} (hS:∀ b i,b<w.heap.size→fp z b i→S b i):∀ b i,b<w.heap.size→fp r b i→S b i:=fun b i hb hm=>hS b i hb (from_sub hf b i hb hm)
theorem up_free {w:World} {z r:Sl} {n h:Nat} (hst:St w z) (hf:From w (z.sub 0 n) r) (hl:r.l≤n) (hn:n≤z.c):∀ b i,fp (z.sub n h) b i→fp (z.sub 0 n) b i∧¬wds r b i:=fun b i hm=>by
 have e1:b=z.b:=hm.1
 have e2:z.o+n≤i:=hm.2.1
 have e3:i<z.o+n+(z.c-n):=hm.2.2
 refine ⟨⟨e1,by show z.o+0≤i; omega,by show i<z.o+0+(z.c-0); omega⟩,fun hr=>?_⟩
 have r1:=hr.1; have r2:=hr.2.1; have r3:=hr.2.2
 rcases hf with ⟨_,_,f3,f4⟩ | hf
 ·have f4:r.o=z.o+0:=f4
  omega
 ·have:=hst.blk (by omega)
  omega
theorem Chg.via {w w1 w2:World} {S T:Set2} (h:Chg w w1 S) (h2:Chg w1 w2 T) (hT:∀ b i,b<w.heap.size→T b i→S b i):Chg w w2 S:=h.trans h2 (fun _ _ _ h=>h) hT
section
variable {w:World} {K:SK} {z x0 x1 y0 y1:Sl} {X0 X1 Y0 Y1 m n px0 px1 py0 py1:Nat}
def KarMid (w0:World) (K:SK) (z x0 x1 y0 y1:Sl) (X0 X1 Y0 Y1 m:Nat) (px0 px1 py0 py1 pz0 pz2 pz1:Nat) (w:World):Prop :=
 ∃ (K':SK) (ng:Bool) (r:Sl) (V:Nat) (d e:Int),d=(X0:Int)-X1∧e=(Y1:Int)-Y0∧iv ng V=d*e∧V<BB^(m+m)∧K'.a=K.a∧Nxt w0 K K'∧Chg w0 w (un (fp z) K.free)∧(∀ b i,b<w0.heap.size→fp r b i→K.free b i)∧w0.heap.size≤pz1∧w0.heap.size≤pz0∧w0.heap.size≤pz2 ∧
  Bank w [sto z,hdr pz1 ng r,nmz r V,stk K',hdr pz2 false (z.sub (2*m) z.l),hdr pz0 false (z.sub 0 (2*m)),hdr py0 false y0,hdr py1 false y1,nlz y0 Y0,nlz y1 Y1,hdr px0 false x0,hdr px1 false x1,nlz x0 X0,nlz x1 X1]
theorem karB {w7:World} {K1:SK} {t:Sl} {ptx pty pz1 pz0 pz2:Nat} (hz:St w z) (b7:Bank w7 [hdr pty false (z.sub m (2*m)),hdr ptx false (z.sub 0 m),hdr pz1 false t,stk K1,sto t,hdr pz2 false (z.sub (2*m) z.l),hdr pz0 false (z.sub 0 (2*m)),hdr py0 false y0,hdr py1 false y1,nlz y0 Y0,nlz y1 Y1,hdr px0 false x0,hdr px1 false x1,nlz x0 X0,nlz x1 X1,sto z])
  (ch7:Chg w w7 (un (fp z) K.free)) (hKa:K1.a=K.a) (hnx:Nxt w K K1) (hto:∀ b i,b<w.heap.size→fp t b i→K.free b i) (sptx:w.heap.size≤ptx) (spty:w.heap.size≤pty) (hs3:w.heap.size≤pz1) (spz0:w.heap.size≤pz0) (spz2:w.heap.size≤pz2)
  (hzl:z.l=2*n) (hmn:m≤n) (hnm:n≤2*m) (hm:m≤39) (h2m:2*m≤z.l) (lx0:x0.l≤39) (lx1:x1.l≤39) (ly0:y0.l≤39) (ly1:y1.l≤39)
  (x0b:X0<BB^m) (x1b:X1<BB^m) (y0b:Y0<BB^m) (y1b:Y1<BB^m) (hg:Glb w) {C:World→Prop} (q:∀ w',KarMid w K z x0 x1 y0 y1 X0 X1 Y0 Y1 m px0 px1 py0 py1 pz0 pz2 pz1 w'→C w') :
  Calls Tryz.prog 97 #[.pointer (ptr ptx),.pointer (ptr px0),.pointer (ptr px1)] w7 fun r_19 w_20=>(∃ x_21,r_19=.returned (.pointer x_21)∧(Calls Tryz.prog 97 #[.pointer (ptr pty),.pointer (ptr py1),.pointer (ptr py0)] w_20 fun r_22 w_23=>(∃ x_24,r_22=.returned (.pointer x_24)∧(Calls Tryz.prog 149 #[.pointer (ptr pz1),.pointer K.a,.pointer (ptr ptx),.pointer (ptr pty)] w_23 fun r_25 w_26=>(r_25=.returned undef∧C w_26))))):=by
 have hzc:=hz.lc
 have b8:Bank w7 [hdr ptx false (z.sub 0 m),sto z,hdr pty false (z.sub m (2*m)),hdr pz1 false t,stk K1,sto t,hdr pz2 false (z.sub (2*m) z.l),hdr pz0 false (z.sub 0 (2*m)),hdr py0 false y0,hdr py1 false y1,nlz y0 Y0,nlz y1 Y1,hdr px0 false x0,hdr px1 false x1,nlz x0 X0,nlz x1 X1]:=b7.pick 16 [1,15,0,2,3,4,5,6,7,8,9,10,11,12,13,14] rfl
 have ta:Tg (sto z) (z.sub 0 m):=⟨rfl,fun {w} h=>(h:St w z).sub_st 0 m (Nat.zero_le _) (by omega)⟩
 refine (c97x b8 ta (px:=px0) (py:=px1) (nx:=false) (ny:=false) (sx:=x0) (sy:=x1) (X:=X0) (Y:=X1) (.inr ⟨by simp,.inr (by simp)⟩) (.inr ⟨by simp,.inr (by simp)⟩) (by unfold Len; omega) (by unfold Len; omega)).mono ?_
 rintro e' w8 ⟨rfl,ng1,r1,V1,b9,hv1,-,f1,c8⟩
 have ch8:=ch7.via c8 fun b i hb hm=>hm.elim (fun hm=>by have:b=ptx:=hm; omega) .inl
 have V1b:V1<BB^m:=iv_lt hv1 x0b x1b
 have r1z:Nz w8 r1 V1:=b9.tail.head
 have lr1:r1.l≤m:=r1z.nm m V1b
 have z8:=ch8.st hz
 have b10:Bank w8 [hole (fun b i=>fp (z.sub 0 m) b i∧¬wds r1 b i),hdr ptx ng1 r1,nlz r1 V1,hdr pty false (z.sub m (2*m)),hdr pz1 false t,stk K1,sto t,hdr pz2 false (z.sub (2*m) z.l),hdr pz0 false (z.sub 0 (2*m)),hdr py0 false y0,hdr py1 false y1,nlz y0 Y0,nlz y1 Y1,hdr px0 false x0,hdr px1 false x1,nlz x0 X0,nlz x1 X1] :=
  (b8.keepz ta b9 c8.size).pick 17 [2,0,1,3,4,5,6,7,8,9,10,11,12,13,14,15,16] rfl
 have b11:=b10.carve (z8.sub_st m (2*m) (by omega) (by omega)) (up_free (ch7.st hz) f1 lr1 (by omega))
 have b12:Bank w8 [hdr pty false (z.sub m (2*m)),sto (z.sub m (2*m)),hole (fun b i=>(fp (z.sub 0 m) b i∧¬wds r1 b i)∧¬fp (z.sub m (2*m)) b i),hdr ptx ng1 r1,nlz r1 V1,hdr pz1 false t,stk K1,sto t,hdr pz2 false (z.sub (2*m) z.l),hdr pz0 false (z.sub 0 (2*m)),hdr py0 false y0,hdr py1 false y1,nlz y0 Y0,nlz y1 Y1,hdr px0 false x0,hdr px1 false x1,nlz x0 X0,nlz x1 X1] :=
  b11.pick 18 [4,0,1,2,3,5,6,7,8,9,10,11,12,13,14,15,16,17] rfl
 refine ⟨_,rfl,(c97x b12 (Tg.sto _) (px:=py1) (py:=py0) (nx:=false) (ny:=false) (sx:=y1) (sy:=y0) (X:=Y1) (Y:=Y0) (.inr ⟨by simp,.inr (by simp)⟩) (.inr ⟨by simp,.inr (by simp)⟩) (by unfold Len; omega) (by unfold Len; omega)).mono ?_⟩
 rintro e' w9 ⟨rfl,ng2,r2,V2,b13,hv2,-,f2,c9⟩
 have ch9:=ch8.via c9 fun b i hb hm=>hm.elim (fun hm=>by have:b=pty:=hm; omega) fun hm=>.inl ⟨hm.1,by have:z.o+m≤i:=hm.2.1; omega,by have:i<z.o+m+(z.c-m):=hm.2.2; omega⟩
 have V2b:V2<BB^m:=iv_lt hv2 y1b y0b
 have r2z:Nz w9 r2 V2:=b13.tail.head
 have lr2:r2.l≤m:=r2z.nm m V2b
 have b15:Bank w9 [hdr pz1 false t,sto t,hdr pty ng2 r2,nlz r2 V2,hole (fun b i=>fp (z.sub m (2*m)) b i∧¬wds r2 b i),hole (fun b i=>(fp (z.sub 0 m) b i∧¬wds r1 b i)∧¬fp (z.sub m (2*m)) b i),hdr ptx ng1 r1,nlz r1 V1,stk K1,hdr pz2 false (z.sub (2*m) z.l),hdr pz0 false (z.sub 0 (2*m)),hdr py0 false y0,hdr py1 false y1,nlz y0 Y0,nlz y1 Y1,hdr px0 false x0,hdr px1 false x1,nlz x0 X0,nlz x1 X1] :=
  (b12.keepz (Tg.sto _) b13 c9.size).pick 19 [6,8,0,1,2,3,4,5,7,9,10,11,12,13,14,15,16,17,18] rfl
 have hne:ptx≠pty:=HdrAt.ne (ng:=ng1) (s:=r1) (nq:=ng2) (t:=r2) (L:=[hdr pty ng2 r2]) (b15.pick 19 [6,2] rfl).left (by simp)
 refine ⟨_,rfl,(c149x b15 (Tg.sto _) (px:=ptx) (py:=pty) (nx:=ng1) (ny:=ng2) (sx:=r1) (sy:=r2) (X:=V1) (Y:=V2) (.inr ⟨by simp,.inr (by simp)⟩) (.inr ⟨by simp,.inr (by simp)⟩) hne (by unfold Len; omega) (by unfold Len; omega) (.inl (by omega)) (ch9.glb hg) K.a).mono ?_⟩
 rintro e' w10 ⟨rfl,ng3,r3,V3,b16,hv3,-,f3,c10⟩
 have ch10:=ch9.via c10 fun b i hb hm=>hm.elim (fun hm=>by have:b=pz1:=hm; omega) fun hm=>.inr (hto b i hb hm)
 have b17:Bank w10 [hole (fun b i=>fp (z.sub m (2*m)) b i∧¬wds r2 b i),hole (fun b i=>(fp (z.sub 0 m) b i∧¬wds r1 b i)∧¬fp (z.sub m (2*m)) b i),nlz r1 V1,nlz r2 V2,hdr pz1 ng3 r3,nmz r3 V3,stk K1,hdr pz2 false (z.sub (2*m) z.l),hdr pz0 false (z.sub 0 (2*m)),hdr py0 false y0,hdr py1 false y1,nlz y0 Y0,nlz y1 Y1,hdr px0 false x0,hdr px1 false x1,nlz x0 X0,nlz x1 X1] :=
  b16.pick 19 [4,5,7,3,0,1,8,9,10,11,12,13,14,15,16,17,18] rfl
 have b18:=Bank.remap (A:=[hole (fun b i=>fp (z.sub m (2*m)) b i∧¬wds r2 b i),hole (fun b i=>(fp (z.sub 0 m) b i∧¬wds r1 b i)∧¬fp (z.sub m (2*m)) b i),nlz r1 V1,nlz r2 V2]) (A':=[sto z]) b17 (Bank.one (ch10.st hz)) fun y hy b i hm=>by
  simp only [List.mem_cons,List.not_mem_nil,or_false] at hy
  subst hy
  by_cases q1:wds r1 b i
  ·exact ⟨nlz r1 V1,by simp,q1⟩
  by_cases q2:wds r2 b i
  ·exact ⟨nlz r2 V2,by simp,q2⟩
  by_cases q3:fp (z.sub m (2*m)) b i
  ·exact ⟨_,List.mem_cons_self,q3,q2⟩
  ·exact ⟨_,List.mem_cons_of_mem _ List.mem_cons_self,⟨hm,q1⟩,q3⟩
 exact ⟨rfl,q w10 ⟨K1,ng3,r3,V3,_,_,hv1,hv2,hv3,by rw [iv_mul hv3]; exact prod_lt V1b V2b,hKa,hnx,ch10,from_old (f3.later (w:=w) ch9) hto,hs3,spz0,spz2,b18⟩⟩
theorem karA (hb:Bank w [hdr py0 false y0,hdr py1 false y1,nlz y0 Y0,nlz y1 Y1,hdr px0 false x0,hdr px1 false x1,nlz x0 X0,nlz x1 X1,stk K,sto z]) (hzl:z.l=2*n) (hmn:m≤n) (hnm:n≤2*m) (hm:m≤39)
  (x0b:X0<BB^m) (x1b:X1<BB^m) (y0b:Y0<BB^m) (y1b:Y1<BB^m) (hL:K.s.l≤2199023255552) (hg:Glb w) (e:Env) (he:e.defers=[]) (R:Value→World→Prop)
  (q:∀ (w':World) (pz0 pz2 pz1:Nat),KarMid w K z x0 x1 y0 y1 X0 X1 Y0 Y1 m px0 px1 py0 py1 pz0 pz2 pz1 w' →
   (∃ w_27,(Sem.run Tryz.prog (builtin .clear #[45] 0 #[false] #[(.slice z.a z.l z.c)]) w'=.ok (.value undef) w_27∧(Calls Tryz.prog 149 #[(.pointer (ptr pz0)),(.pointer K.a),(.pointer (ptr px0)),(.pointer (ptr py0))] w_27 fun r_28 w_29=>(r_28=.returned undef∧(Calls Tryz.prog 149 #[(.pointer (ptr pz2)),(.pointer K.a),(.pointer (ptr px1)),(.pointer (ptr py1))] w_29 fun r_30 w_31=>(r_30=.returned undef∧(Calls Tryz.prog 70 #[(.pointer (ptr pz1)),(.pointer (ptr pz1)),(.pointer (ptr pz0))] w_31 fun r_32 w_33=>(∃ x_34,r_32=.returned (.pointer x_34)∧(Calls Tryz.prog 70 #[(.pointer (ptr pz1)),(.pointer (ptr pz1)),(.pointer (ptr pz2))] w_33 fun r_35 w_36=>(∃ x_37,r_35=.returned (.pointer x_37)∧(∃ i_38:Nat,(m:Int)=(i_38:Int)∧i_38≤z.l∧(nc (ptr pz1) fun b_41 o_42=>(∃ x_43a,∃ x_43l,∃ x_43c,World.cell? (World.drew w_36) ⟨b_41,(o_42+1),none⟩=some (.slice x_43a x_43l x_43c)∧(Calls Tryz.prog 119 #[(.slice (shifted z.a i_38 z.c 1) (z.l-i_38) (z.c-i_38)),(.slice x_43a x_43l x_43c)] (World.drew w_36) fun r_44 w_45=>(r_44=.returned undef∧(∀ B_46,retK Tryz.prog [] R .normal (E [] B_46 [Dr K.a (K.s.l:Int)]) w_45)))))))))))))))))
  (ha:agree e (F118.l4 K.a z.a z.l z.c m (ptr px0) (ptr px1) (ptr py0) (ptr py1))):W Tryz.prog 145 F118.p4 e w (retK Tryz.prog [] R):=by
 have hz:St w z:=(hb.pick 10 [9] rfl:Bank w [sto z]).head
 have hzc:=hz.lc
 have e2:(2*(m:Int))=((2*m:Nat):Int):=by omega
 have hgb:=hz.gb
 have X0z:Nz w x0 X0:=(hb.pick 10 [6] rfl:Bank w [nlz x0 X0]).head
 have X1z:Nz w x1 X1:=(hb.pick 10 [7] rfl:Bank w [nlz x1 X1]).head
 have Y0z:Nz w y0 Y0:=(hb.pick 10 [2] rfl:Bank w [nlz y0 Y0]).head
 have Y1z:Nz w y1 Y1:=(hb.pick 10 [3] rfl:Bank w [nlz y1 Y1]).head
 have lx0:x0.l≤39:=by have:=X0z.nm m x0b; omega
 have lx1:x1.l≤39:=by have:=X1z.nm m x1b; omega
 have ly0:y0.l≤39:=by have:=Y0z.nm m y0b; omega
 have ly1:y1.l≤39:=by have:=Y1z.nm m y1b; omega
 obtain ⟨b1,c1⟩:=newInt hb hgb false (z.sub 0 (2*m))
 obtain ⟨b2,c2⟩:=newInt b1 (Nat.le_trans hgb c1.size) false (z.sub (2*m) z.l)
 have c02:=c1.trans' c2
 refine F118.t4 K.a z.a z.l z.c m (ptr px0) (ptr px1) (ptr py0) (ptr py1) ha fun B=>?_
 unfold F118.v4
 rw [he]
 refine ⟨by unfold inI64; omega,0,2*m,rfl,e2,Nat.zero_le _,by omega,by unfold inI64; omega,2*m,e2,by omega,?_⟩
 have hk2:StkAt _ K:=(b2.pick 12 [10] rfl:Bank _ [stk K]).head
 refine (c103 _ K hk2).mono ?_
 rintro e' w2 ⟨_,rfl,rfl,hw⟩
 subst hw
 have b3:=b2.pick 12 [10,0,1,2,3,4,5,6,7,8,9,11] rfl
 refine ⟨_,rfl,by unfold inI64; omega,by unfold inI64; omega,?_⟩
 rw [show (2*(m:Int))+1=((2*m+1:Nat):Int) by omega]
 refine takeB b3 (by omega) hL fun t K1 w3 htl b4 hKa hK1l hnx htf c3=>?_
 have hg3:GB≤w3.heap.size:=Nat.le_trans hgb (Nat.le_trans c02.size c3.size)
 refine ⟨_,_,_,rfl,0,m,rfl,rfl,Nat.zero_le _,by omega,by unfold inI64; omega,m,2*m,rfl,e2,by omega,by omega,?_⟩
 obtain ⟨b5,c5⟩:=newInt b4 hg3 false t
 obtain ⟨b6,c6⟩:=newInt b5 (Nat.le_trans hg3 c5.size) false (z.sub 0 m)
 obtain ⟨b7,c7⟩:=newInt b6 (Nat.le_trans hg3 (Nat.le_trans c5.size c6.size)) false (z.sub m (2*m))
 have c37:=(c5.trans' c6).trans' c7
 have hs3:w.heap.size≤w3.heap.size:=Nat.le_trans c02.size c3.size
 have ch7:Chg w _ (un (fp z) K.free):=((c02.none (un (fp z) K.free)).via c3 fun b i _ hm=>.inr hm).via c37 fun _ _ _ h=>h.elim
 exact karB (K1:=K1) (t:=t) (pz0:=w.heap.size) hz b7 ch7 hKa (hnx.mono c02.size) (fun b i hb hm=>htf b i (Nat.lt_of_lt_of_le hb c02.size) hm) (Nat.le_trans hs3 c5.size) (Nat.le_trans hs3 (Nat.le_trans c5.size c6.size)) hs3 (Nat.le_refl _) c1.size hzl hmn hnm hm (by omega) lx0 lx1 ly0 ly1 x0b x1b y0b y1b hg fun w' h=>q w' _ _ _ h
end
end Go.Proofs.YtlkjiiibmfpbcaaGreatDoor
namespace Go.Proofs.YtlkjiiibmfpbcaaGreatDoor
open Go
theorem Dj.sp {a b:Sl} (h:Dj (wds a) (fp b)) (hb:b.l≤b.c):Sp a.b a.o a.l b.b b.o b.l:=by
 have:=Dj.apl (z:=b) (x:=a) h.symm
 unfold Apart at this; unfold Sp
 omega
section
variable {w wm:World} {K:SK} {z x0 x1 y0 y1:Sl} {X0 X1 Y0 Y1 m n px0 px1 py0 py1 pz0 pz2 pz1:Nat}
theorem karEnd {w3:World} {K1:SK} {r:Sl} {V P0 P2 k0 k2:Nat} {ng:Bool} {L:List Item} (hz:St w z) (h2m:2*m≤z.l) (k0m:k0≤2*m) (k2m:k2≤z.l-2*m)
  (b:Bank w3 (hdr pz1 ng r :: nmz r V :: nlz ((z.sub (2*m) z.l).to k2) P2 :: nl ((z.sub (2*m) z.l).sub k2 (z.l-2*m)) 0 :: nlz ((z.sub 0 (2*m)).to k0) P0 :: nl ((z.sub 0 (2*m)).sub k0 (2*m)) 0 :: stk K1 :: L))
  (ch:Chg w w3 (un (fp z) K.free)) (hKa:K1.a=K.a) (hnx:Nxt w K K1) (hlt:P0+BB^(2*m)*P2+BB^m*V<BB^z.l) (R:Value→World→Prop)
  (hR:∀ w',Back w w' K→Sg w' z.b z.o z.l (P0+BB^(2*m)*P2+BB^m*V)→Chg w w' (un (fp z) K.free)→R undef w') :
  (∃ i_38:Nat,(m:Int)=(i_38:Int)∧i_38≤z.l∧(nc (ptr pz1) fun b_41 o_42=>(∃ x_43a,∃ x_43l,∃ x_43c,World.cell? (World.drew w3) ⟨b_41,(o_42+1),none⟩=some (.slice x_43a x_43l x_43c)∧(Calls Tryz.prog 119 #[(.slice (shifted z.a i_38 z.c 1) (z.l-i_38) (z.c-i_38)),(.slice x_43a x_43l x_43c)] (World.drew w3) fun r_44 w_45=>(r_44=.returned undef∧(∀ B_46,retK Tryz.prog [] R .normal (E [] B_46 [Dr K.a (K.s.l:Int)]) w_45)))))):=by
 have hzc:=hz.lc
 have cd:Chg w3 w3.drew none2:=Chg.drew0 w3 _
 have b1:=b.none cd
 have H1:HdrAt w3.drew pz1 ng r:=b1.head
 have b2:Bank w3.drew (nlz ((z.sub 0 (2*m)).to k0) P0 :: nl ((z.sub 0 (2*m)).sub k0 (2*m)) 0 :: nlz ((z.sub (2*m) z.l).to k2) P2 :: nl ((z.sub (2*m) z.l).sub k2 (z.l-2*m)) 0 :: nmz r V :: stk K1 :: []) :=
  (b1.pick 7 [4,5,2,3,1,6] rfl).left (A:=[_,_,_,_,_,_])
 have b3:Bank w3.drew (nl (z.sub 0 (2*m)) P0 :: nlz ((z.sub (2*m) z.l).to k2) P2 :: nl ((z.sub (2*m) z.l).sub k2 (z.l-2*m)) 0 :: nmz r V :: stk K1 :: []):=b2.unnorm k0m
 have b4:Bank w3.drew [nlz ((z.sub (2*m) z.l).to k2) P2,nl ((z.sub (2*m) z.l).sub k2 (z.l-2*m)) 0,nl (z.sub 0 (2*m)) P0,nmz r V,stk K1]:=b3.pick 5 [1,2,0,3,4] rfl
 have b5:Bank w3.drew [nl (z.sub (2*m) z.l) P2,nl (z.sub 0 (2*m)) P0,nmz r V,stk K1]:=b4.unnorm k2m
 have b6:Bank w3.drew [nl (z.sub 0 (2*m)) P0,nl (z.sub (2*m) z.l) P2,nmz r V,stk K1]:=b5.pick 4 [1,0,2,3] rfl
 rw [hz.sub0] at b6
 have b7:=b6.join h2m
 have b8:=b7.split m (by omega)
 generalize hZt:P0+BB^(2*m)*P2=Zt at b8 hlt hR
 have lo:Nt w3.drew (z.to m) (Zt%BB^m):=b8.head
 have hi:Nt w3.drew (z.sub m z.l) (Zt/BB^m):=b8.tail.head
 have rz:Nz w3.drew r V:=b8.tail.tail.head
 have hk:StkAt w3.drew K1:=b8.tail.tail.tail.head
 have hsplit:=Nat.mod_add_div Zt (BB^m)
 have hpow:BB^z.l=BB^m*BB^(z.l-m):=by rw [←Nat.pow_add]; congr 1; omega
 have hm0:=Nat.zero_le (Zt%BB^m)
 have hs:Zt/BB^m+V<BB^(z.l-m):=by
  rw [hpow] at hlt
  rcases Nat.lt_or_ge (Zt/BB^m+V) (BB^(z.l-m)) with h | h
  ·exact h
  ·have:=Nat.mul_le_mul_left (BB^m) h
   rw [Nat.mul_add] at this
   omega
 have hrl:r.l≤z.l-m:=rz.nm _ (Nat.lt_of_le_of_lt (Nat.le_add_left _ _) hs)
 have dzr:Dj (wds (z.sub m z.l)) (fp r):=b8.tail.hdj (b:=nmz r V) (by simp)
 have dzk:Dj (wds (z.sub m z.l)) K1.free:=b8.tail.hdj (b:=stk K1) (by simp)
 have dlk:Dj (wds (z.to m)) K1.free:=b8.hdj (b:=stk K1) (by simp)
 refine ⟨m,rfl,by omega,pz1,0,rfl,r.a,r.l,r.c,H1.c1,(c119 (z.sub m z.l) r (Zt/BB^m) V w3.drew hi rz.toNt.rd rz.lc hrl (dzr.sp rz.lc) hs).mono ?_⟩
 rintro e w6 ⟨rfl,h6,c6⟩
 have c6:Chg w3.drew w6 (wds (z.sub m z.l)):=c6
 have lo6:Nt w6 (z.to m) (Zt%BB^m):=c6.nt lo fun i hi hm=>cut_dj z m _ _ ⟨rfl,Nat.le_add_right _ _,by show z.o+i<z.o+m; have:i<m:=hi; omega⟩ hm
 have z6:Nt w6 z (Zt+BB^m*V):=by
  have:=lo6.join h6 (by omega)
  rwa [Nat.mul_add,←Nat.add_assoc,hsplit] at this
 have hk6:StkAt w6 K1:=(stk K1).keep hk c6 fun b i h1 h2=>dzk b i h2 h1
 have ch6:=(ch.via cd fun _ _ _ h=>h.elim).via c6 fun b i hb hm=>.inl ⟨hm.1,by have:z.o+m≤i:=hm.2.1; omega,by have:i<z.o+m+(z.l-m):=hm.2.2; omega⟩
 refine ⟨rfl,fun B=>retR0n (K:=K1) (n:=K.s.l) (by rw [hKa]) hk6 hnx.l fun w7 hk7 c7=>hR w7 ⟨K1.cut K.s.l,hk7,hnx.cut' _ (Nat.le_refl _),rfl⟩ ?_ (ch6.via c7 fun b i hb hm=>.inr (hnx.free hb hm))⟩
 refine c7.sg z6.sg fun i hi hm=>?_
 rcases Nat.lt_or_ge i m with h | h
 ·exact dlk _ _ ⟨rfl,by show z.o≤z.o+i; omega,by show z.o+i<z.o+m; omega⟩ hm
 ·exact dzk _ _ ⟨rfl,by show z.o+m≤z.o+i; omega,by show z.o+i<z.o+m+(z.l-m); omega⟩ hm
theorem karC (hz:St w z) (hzl:z.l=2*n) (hmn:m≤n) (hnm:n≤2*m) (hm:m≤39) (hkm:KarMid w K z x0 x1 y0 y1 X0 X1 Y0 Y1 m px0 px1 py0 py1 pz0 pz2 pz1 wm)
  (x0b:X0<BB^m) (x1b:X1<BB^(n-m)) (y0b:Y0<BB^m) (y1b:Y1<BB^(n-m)) (spx0:SpC z x0) (spx1:SpC z x1) (spy0:SpC z y0) (spy1:SpC z y1) (hg:Glb w) (R:Value→World→Prop)
  (hR:∀ w',Back w w' K→Sg w' z.b z.o z.l ((X0+BB^m*X1)*(Y0+BB^m*Y1))→Chg w w' (un (fp z) K.free)→R undef w') :
  (∃ w_27,(Sem.run Tryz.prog (builtin .clear #[45] 0 #[false] #[(.slice z.a z.l z.c)]) wm=.ok (.value undef) w_27∧(Calls Tryz.prog 149 #[(.pointer (ptr pz0)),(.pointer K.a),(.pointer (ptr px0)),(.pointer (ptr py0))] w_27 fun r_28 w_29=>(r_28=.returned undef∧(Calls Tryz.prog 149 #[(.pointer (ptr pz2)),(.pointer K.a),(.pointer (ptr px1)),(.pointer (ptr py1))] w_29 fun r_30 w_31=>(r_30=.returned undef∧(Calls Tryz.prog 70 #[(.pointer (ptr pz1)),(.pointer (ptr pz1)),(.pointer (ptr pz0))] w_31 fun r_32 w_33=>(∃ x_34,r_32=.returned (.pointer x_34)∧(Calls Tryz.prog 70 #[(.pointer (ptr pz1)),(.pointer (ptr pz1)),(.pointer (ptr pz2))] w_33 fun r_35 w_36=>(∃ x_37,r_35=.returned (.pointer x_37)∧(∃ i_38:Nat,(m:Int)=(i_38:Int)∧i_38≤z.l∧(nc (ptr pz1) fun b_41 o_42=>(∃ x_43a,∃ x_43l,∃ x_43c,World.cell? (World.drew w_36) ⟨b_41,(o_42+1),none⟩=some (.slice x_43a x_43l x_43c)∧(Calls Tryz.prog 119 #[(.slice (shifted z.a i_38 z.c 1) (z.l-i_38) (z.c-i_38)),(.slice x_43a x_43l x_43c)] (World.drew w_36) fun r_44 w_45=>(r_44=.returned undef∧(∀ B_46,retK Tryz.prog [] R .normal (E [] B_46 [Dr K.a (K.s.l:Int)]) w_45)))))))))))))))):=by
 obtain ⟨K1,ng,r,V,d,e,hd,he,hiv,hVb,hKa,hnx,ch,hr,sp1,sp0,sp2,b⟩:=hkm
 have hzc:=hz.lc
 have zm:St wm z:=b.head
 have X0z:Nz wm x0 X0:=(b.pick 14 [12] rfl:Bank wm [nlz x0 X0]).head
 have X1z:Nz wm x1 X1:=(b.pick 14 [13] rfl:Bank wm [nlz x1 X1]).head
 have Y0z:Nz wm y0 Y0:=(b.pick 14 [8] rfl:Bank wm [nlz y0 Y0]).head
 have Y1z:Nz wm y1 Y1:=(b.pick 14 [9] rfl:Bank wm [nlz y1 Y1]).head
 have lx0:x0.l≤m:=X0z.nm m x0b
 have lx1:x1.l≤n-m:=X1z.nm _ x1b
 have ly0:y0.l≤m:=Y0z.nm m y0b
 have ly1:y1.l≤n-m:=Y1z.nm _ y1b
 obtain ⟨w1,r1,b1,c1⟩:=clearB b zm (fun b i hm=>wds_fp zm.lc b i hm)
 have ch1:=ch.via c1 fun b i _ hm=>.inl (wds_fp hzc b i hm)
 have b2:=b1.split (2*m) (by omega)
 rw [Nat.zero_mod,Nat.zero_div,←hz.sub0] at b2
 have b3:Bank w1 [hdr pz0 false (z.sub 0 (2*m)),nl (z.sub 0 (2*m)) 0,nl (z.sub (2*m) z.l) 0,hdr pz1 ng r,nmz r V,stk K1,hdr pz2 false (z.sub (2*m) z.l),hdr py0 false y0,hdr py1 false y1,nlz y0 Y0,nlz y1 Y1,hdr px0 false x0,hdr px1 false x1,nlz x0 X0,nlz x1 X1] :=
  b2.pick 15 [6,0,1,2,3,4,5,7,8,9,10,11,12,13,14] rfl
 have ne0:px0≠py0:=HdrAt.ne (ng:=false) (s:=x0) (nq:=false) (t:=y0) (L:=[hdr py0 false y0]) (b3.pick 15 [11,7] rfl).left (by simp)
 have ne1:px1≠py1:=HdrAt.ne (ng:=false) (s:=x1) (nq:=false) (t:=y1) (L:=[hdr py1 false y1]) (b3.pick 15 [12,8] rfl).left (by simp)
 have so:∀ {s:Sl} (i h:Nat),SpC z s→i≤z.c→SpC (z.sub i h) s:=fun {s} i h hs hi=>by
  unfold SpC Sp at *
  show z.c-i=0∨s.c=0∨z.b≠s.b∨z.o+i+(z.c-i)≤s.o∨s.o+s.c≤z.o+i
  omega
 refine ⟨w1,r1,(c149i b3 (px:=px0) (py:=py0) (sx:=x0) (sy:=y0) (X:=X0) (Y:=Y0) (by simp) (by simp) (by simp) (by simp) ne0 (by omega) (by show x0.l+y0.l≤2*m; omega) (so 0 _ spx0 (by omega)) (so 0 _ spy0 (by omega)) (ch1.glb hg) K.a).mono ?_⟩
 rintro e' w2 ⟨rfl,k0,hk0,b4,c4⟩
 have hk0:k0≤2*m:=hk0
 have ch2:=ch1.via c4 fun b i hb hm=>hm.elim (fun hm=>by have:b=pz0:=hm; omega) fun hm=>.inl ⟨hm.1,hm.2.1,by have:i<z.o+0+(2*m-0):=hm.2.2; omega⟩
 have b5:Bank w2 [hdr pz2 false (z.sub (2*m) z.l),nl (z.sub (2*m) z.l) 0,nlz ((z.sub 0 (2*m)).to k0) (X0*Y0),nl ((z.sub 0 (2*m)).sub k0 (2*m)) 0,hdr pz0 false ((z.sub 0 (2*m)).to k0),hdr pz1 ng r,nmz r V,stk K1,hdr py0 false y0,hdr py1 false y1,nlz y0 Y0,nlz y1 Y1,hdr px0 false x0,hdr px1 false x1,nlz x0 X0,nlz x1 X1] :=
  b4.pick 16 [7,3,0,1,2,4,5,6,8,9,10,11,12,13,14,15] rfl
 refine ⟨rfl,(c149i b5 (px:=px1) (py:=py1) (sx:=x1) (sy:=y1) (X:=X1) (Y:=Y1) (by simp) (by simp) (by simp) (by simp) ne1 (by omega) (by show x1.l+y1.l≤z.l-2*m; omega) (so _ _ spx1 (by omega)) (so _ _ spy1 (by omega)) (ch2.glb hg) K.a).mono ?_⟩
 rintro e' w3 ⟨rfl,k2,hk2,b6,c6⟩
 have hk2:k2≤z.l-2*m:=hk2
 have ch3:=ch2.via c6 fun b i hb hm=>hm.elim (fun hm=>by have:b=pz2:=hm; omega) fun hm=>.inl ⟨hm.1,by have:z.o+2*m≤i:=hm.2.1; omega,by have:i<z.o+2*m+(z.l-2*m):=hm.2.2; omega⟩
 have b7:Bank w3 [hdr pz1 ng r,nmz r V,nlz ((z.sub (2*m) z.l).to k2) (X1*Y1),nl ((z.sub (2*m) z.l).sub k2 (z.l-2*m)) 0,nlz ((z.sub 0 (2*m)).to k0) (X0*Y0),nl ((z.sub 0 (2*m)).sub k0 (2*m)) 0,stk K1,hdr pz0 false ((z.sub 0 (2*m)).to k0),hdr pz2 false ((z.sub (2*m) z.l).to k2)] :=
  (b6.pick 17 [6,7,0,1,3,4,8,5,2] rfl).left (A:=[_,_,_,_,_,_,_,_,_])
 have rz:Nz w3 r V:=b7.tail.head
 have lr:r.l≤m+m:=rz.nm _ hVb
 refine ⟨rfl,(c70x b7 (Tg.nmz r V) (px:=pz1) (py:=pz0) (nx:=ng) (ny:=false) (sx:=r) (sy:=(z.sub 0 (2*m)).to k0) (X:=V) (Y:=X0*Y0) Opx.self (.inr ⟨by simp,.inr (by simp)⟩) (by unfold Len; omega) (by unfold Len; show k0≤_; omega)).mono ?_⟩
 rintro e' w4 ⟨rfl,ng4,r4,V4,b8,hv4,-,f4,c8⟩
 have ch4:=ch3.via c8 fun b i hb hm=>hm.elim (fun hm=>by have:b=pz1:=hm; omega) fun hm=>.inr (hr b i hb hm)
 have hv4':iv ng4 V4=iv ng V+((X0*Y0:Nat):Int):=hv4
 have P0b:X0*Y0<BB^(m+m):=prod_lt x0b y0b
 have V4b:V4<BB^(m+m+1):=by
  have:=iv_add hv4'
  rw [BBpow_succ]
  have:BB^(m+m)*2≤BB^(m+m)*BB:=Nat.mul_le_mul_left _ (by rw [BB_eq]; omega)
  omega
 have r4z:Nz w4 r4 V4:=b8.tail.head
 have lr4:r4.l≤m+m+1:=r4z.nm _ V4b
 refine ⟨_,rfl,(c70x b8 (Tg.nmz r4 V4) (px:=pz1) (py:=pz2) (nx:=ng4) (ny:=false) (sx:=r4) (sy:=(z.sub (2*m) z.l).to k2) (X:=V4) (Y:=X1*Y1) Opx.self (.inr ⟨by simp,.inr (by simp)⟩) (by unfold Len; omega) (by unfold Len; show k2≤_; omega)).mono ?_⟩
 rintro e' w5 ⟨rfl,ng5,r5,V5,b9,hv5,hz5,f5,c9⟩
 have ch5:=ch4.via c9 fun b i hb hm=>hm.elim (fun hm=>by have:b=pz1:=hm; omega) fun hm=>.inr (hr b i hb (from_old (f4.later (w:=w) ch3) (S:=fp r) (fun _ _ _ h=>h) b i hb hm))
 have hmid:V5=X0*Y1+X1*Y0:=kar_mid hd he (by rw [hv5,hv4',hiv]; rfl) hz5
 have hval:=kar_val X0 X1 Y0 Y1 (BB^m)
 rw [←hmid,←Nat.pow_add,←Nat.two_mul] at hval
 refine ⟨_,rfl,karEnd (L:=[hdr pz0 false ((z.sub 0 (2*m)).to k0),hdr pz2 false ((z.sub (2*m) z.l).to k2)]) hz (by omega) hk0 hk2 b9 ch5 hKa hnx ?_ R ?_⟩
 ·rw [hval]
  have e1:X0+BB^m*X1<BB^n:=by
   have:=Nat.mul_le_mul_left (BB^m) x1b
   rw [←Nat.pow_add,show m+(n-m)=n by omega,Nat.mul_succ] at this
   omega
  have e2:Y0+BB^m*Y1<BB^n:=by
   have:=Nat.mul_le_mul_left (BB^m) y1b
   rw [←Nat.pow_add,show m+(n-m)=n by omega,Nat.mul_succ] at this
   omega
  have:=prod_lt e1 e2
  rw [hzl,Nat.two_mul]; exact this
 ·rw [hval]; exact hR
end
end Go.Proofs.YtlkjiiibmfpbcaaGreatDoor
namespace Go.Proofs.YtlkjiiibmfpbcaaGreatDoor
open Go
theorem iQuoI (a b:Nat) (ha:a≤9223372036854775807):iQuo .i64 (a:Int) (b:Int)=((a/b:Nat):Int):=by
 unfold iQuo
 have h:(a:Int).tdiv b=((a/b:Nat):Int):=by rw [Int.tdiv_eq_ediv_of_nonneg (by omega),Int.natCast_ediv]
 rw [h,wrapIN _ (Nat.le_trans (Nat.div_le_self _ _) ha)]
theorem iShlI (a k:Nat) (hk:k≤64) (h:a*2^k≤9223372036854775807):iShl .i64 (a:Int) (k:Int)=((a*2^k:Nat):Int):=by
 unfold iShl
 have e:((a:Int)*2^(min (k:Int).toNat IntKind.i64.bits))=((a*2^k:Nat):Int):=by
  rw [show min (k:Int).toNat IntKind.i64.bits=k by show min (k:Int).toNat 64=k; omega]
  simp
 rw [e,wrapIN _ h]
theorem iShrI (a k:Nat) (hk:k≤64):iShr .i64 (a:Int) (k:Int)=((a/2^k:Nat):Int):=by
 unfold iShr
 rw [show min (k:Int).toNat IntKind.i64.bits=k by show min (k:Int).toNat 64=k; omega]
 rw [Int.fdiv_eq_ediv_of_nonneg _ (Int.pow_nonneg (by omega)),Int.natCast_ediv,Int.natCast_pow]
 rfl
theorem iAnd1 (a:Nat) (ha:a≤9223372036854775807):iAnd .i64 (a:Int) 1=((a%2:Nat):Int):=by
 unfold iAnd
 have e:(BitVec.ofInt IntKind.i64.bits (a:Int) &&& BitVec.ofInt IntKind.i64.bits 1).toNat=a%2:=by
  show (BitVec.ofInt 64 (a:Int) &&& BitVec.ofInt 64 ((1:Nat):Int)).toNat=_
  rw [BitVec.toNat_and,ofInt_nat 64 a (by omega),ofInt_nat 64 1 (by omega)]
  exact Nat.and_one_is_mod a
 rw [e,wrapIN _ (by omega)]
theorem rem16 (a:Nat):iRem (a:Int) 65536=((a%65536:Nat):Int):=iRemN a 65536
theorem quo16 (a:Nat) (ha:a≤9223372036854775807):iQuo .i64 (a:Int) 65536=((a/65536:Nat):Int):=iQuoI a 65536 ha
end Go.Proofs.YtlkjiiibmfpbcaaGreatDoor
namespace Go.Proofs.YtlkjiiibmfpbcaaGreatDoor
open Go
theorem SpC.subR {z s:Sl} {i h:Nat} (hs:SpC z s) (hi:i≤s.c):SpC z (s.sub i h):=by
 unfold SpC Sp at *
 show z.c=0∨s.c-i=0∨z.b≠s.b∨z.o+z.c≤s.o+i∨s.o+i+(s.c-i)≤z.o
 omega
theorem Back.from_ {w w1 w':World} {K:SK} (h:Back w1 w' K) (hs:w.heap.size≤w1.heap.size):Back w w' K:=by
 obtain ⟨K',h1,h2,h3⟩:=h
 exact ⟨K',h1,h2.mono hs,h3⟩
theorem c118 {w:World} {K:SK} {z x y:Sl} {X Y n:Nat} (hb:Bank w [stk K,sto z,nl x X,nl y Y]) (spx:SpC z x) (spy:SpC z y) (lz:z.l=2*n) (lx:x.l=n) (ly:y.l=n) (hn:40≤n) (hn2:n≤78) (hL:K.s.l≤2199023255552) (hg:Glb w) :
  Calls Tryz.prog 118 #[.pointer K.a,z.v,x.v,y.v] w fun e w'=>e=.returned undef∧Back w w' K∧Sg w' z.b z.o z.l (X*Y)∧Chg w w' (un (fp z) K.free):=by
 refine (F118.call K.a z.a z.l z.c x.a x.l x.c y.a y.l y.c w (fun v w'=>v=undef∧Back w w' K∧Sg w' z.b z.o z.l (X*Y)∧Chg w w' (un (fp z) K.free)) fun B=>bc_false (neF (by omega)) ⟨by unfold inI64; omega,bc_false (neF (by omega)) fun B1=>?_⟩).mono fun e w' ⟨v,h1,h2,h3⟩=>⟨by rw [h1,h2],h3⟩
 have hx0:Nt w x X:=(hb.pick 4 [2] rfl:Bank w [nl x X]).head
 have hy0:Nt w y Y:=(hb.pick 4 [3] rfl:Bank w [nl y Y]).head
 have hz0:St w z:=(hb.pick 4 [1] rfl:Bank w [sto z]).head
 have hxc:=hx0.lc
 have hyc:=hy0.lc
 have hgb:=hz0.gb
 obtain ⟨m,hm⟩:∃ m,m=(n+1)/2:=⟨_,rfl⟩
 have hq:iQuo .i64 ((y.l:Int)+1) 2=(m:Int):=by rw [hm,ly]; exact iQuoI (n+1) 2 (by omega)
 have b0:Bank w [nl x X,nl y Y,stk K,sto z]:=hb.pick 4 [2,3,0,1] rfl
 obtain ⟨k0,k1,C1,C2,C3,H1,H2⟩:=halvesC b0 (show m≤x.l by omega) hgb
 have fin:∀ (e:Env) (p0 p1:Option Addr) (w1:World),agree e (F118.l2 K.a z.a z.l z.c y.a y.l y.c m p0 p1)→e.defers=[]→Halves w x X m [nl y Y,stk K,sto z] p0 p1 w1→W Tryz.prog 145 F118.p2 e w1 (retK Tryz.prog [] fun v w'=>v=undef∧Back w w' K∧Sg w' z.b z.o z.l (X*Y)∧Chg w w' (un (fp z) K.free)):=by
  rintro e p0 p1 w1 ha hd ⟨px0,px1,kx0,kx1,rfl,rfl,hkx0,hkx1,sx0,sx1,cx,bx⟩
  have bx':Bank w1 [nl y Y,hdr px0 false (x.to kx0),hdr px1 false ((x.sub m x.l).to kx1),nlz (x.to kx0) (X%BB^m),nlz ((x.sub m x.l).to kx1) (X/BB^m),stk K,sto z]:=bx.pick 7 [4,0,1,2,3,5,6] rfl
  obtain ⟨j0,j1,D1,D2,D3,G1,G2⟩:=halvesC bx' (show m≤y.l by omega) (Nat.le_trans hgb cx.size)
  have fin2:∀ (e:Env) (p0 p1:Option Addr) (w2:World),agree e (F118.l4 K.a z.a z.l z.c m (ptr px0) (ptr px1) p0 p1)→e.defers=[]→Halves w1 y Y m [hdr px0 false (x.to kx0),hdr px1 false ((x.sub m x.l).to kx1),nlz (x.to kx0) (X%BB^m),nlz ((x.sub m x.l).to kx1) (X/BB^m),stk K,sto z] p0 p1 w2→W Tryz.prog 145 F118.p4 e w2 (retK Tryz.prog [] fun v w'=>v=undef∧Back w w' K∧Sg w' z.b z.o z.l (X*Y)∧Chg w w' (un (fp z) K.free)):=by
   rintro e p0 p1 w2 ha hd ⟨py0,py1,ky0,ky1,rfl,rfl,hky0,hky1,sy0,sy1,cy,bY⟩
   have c02:=cx.trans' cy
   have X1b:X/BB^m<BB^(n-m):=by rw [Nat.div_lt_iff_lt_mul (BBpow_pos m),←Nat.pow_add,show n-m+m=x.l by omega]; exact hx0.lt
   have Y1b:Y/BB^m<BB^(n-m):=by rw [Nat.div_lt_iff_lt_mul (BBpow_pos m),←Nat.pow_add,show n-m+m=y.l by omega]; exact hy0.lt
   refine karA bY lz (by omega) (by omega) (by omega) (Nat.mod_lt _ (BBpow_pos m)) (lt_pow_of_le X1b (by omega)) (Nat.mod_lt _ (BBpow_pos m)) (lt_pow_of_le Y1b (by omega)) hL (c02.glb hg) e hd _ (fun w' pz0 pz2 pz1 hk=>?_) ha
   refine karC (c02.st hz0) lz (by omega) (by omega) (by omega) hk (Nat.mod_lt _ (BBpow_pos m)) X1b (Nat.mod_lt _ (BBpow_pos m)) Y1b spx (spx.subR (h:=x.l) (by omega)) spy (spy.subR (h:=y.l) (by omega)) (c02.glb hg) _ fun w3 h1 h2 h3=>⟨rfl,h1.from_ c02.size,?_,(c02.none _).trans' h3⟩
   rwa [Nat.mod_add_div,Nat.mod_add_div] at h2
  refine F118.t2 K.a z.a z.l z.c y.a y.l y.c m (ptr px0) (ptr px1) ha fun B2 B3=>F118.t5 K.a z.a z.l z.c y.a y.l y.c m (ptr px0) (ptr px1) ⟨rfl,rfl,rfl,rfl,rfl,rfl,trivial⟩ fun B4=>⟨m,rfl,by omega,D1 _ ⟨_,_,_,rfl,m,rfl,by omega,D3 _ ⟨_,_,_,rfl,?_⟩,D2 _ ⟨_,_,_,rfl,?_,?_⟩⟩⟩
  ·exact fin2 _ _ _ _ ⟨rfl,rfl,rfl,rfl,rfl,rfl,rfl,trivial⟩ hd G1
  ·exact fin2 _ _ _ _ ⟨rfl,rfl,rfl,rfl,rfl,rfl,rfl,trivial⟩ hd G1
  ·exact fin2 _ _ _ _ ⟨rfl,rfl,rfl,rfl,rfl,rfl,rfl,trivial⟩ hd G2
 refine F118.t1 K.a z.a z.l z.c x.a x.l x.c y.a y.l y.c y.l ⟨rfl,rfl,rfl,rfl,rfl,trivial⟩ fun B2=>⟨_,hg.t5,bc_false (decF (by omega)) (bc_false (decF (by omega)) ⟨by unfold inI64; omega,by omega,fun B3=>?_⟩)⟩
 refine F118.t3 K.a z.a z.l z.c x.a x.l x.c y.a y.l y.c m ⟨rfl,rfl,rfl,rfl,intv hq,trivial⟩ fun B4=>⟨m,rfl,by omega,C1 _ ⟨_,_,_,rfl,m,rfl,by omega,C3 _ ⟨_,_,_,rfl,?_⟩,C2 _ ⟨_,_,_,rfl,?_,?_⟩⟩⟩
 ·exact fin _ _ _ _ ⟨rfl,rfl,rfl,rfl,rfl,rfl,trivial⟩ rfl H1
 ·exact fin _ _ _ _ ⟨rfl,rfl,rfl,rfl,rfl,rfl,trivial⟩ rfl H1
 ·exact fin _ _ _ _ ⟨rfl,rfl,rfl,rfl,rfl,rfl,trivial⟩ rfl H2
end Go.Proofs.YtlkjiiibmfpbcaaGreatDoor
