/- Contracts: divisors. Conditions: bases 2 to 62, numbers of at most 260 words. -/
import Derived.ArgAppend
import Derived.Test.YtlkjiiibmfpbcaaGreatDoorS33
import Derived.Test.YtlkjiiibmfpbcaaGreatDoorS32
import Derived.Test.YtlkjiiibmfpbcaaGreatDoorS22
import Derived.Test.YtlkjiiibmfpbcaaGreatDoorS05
namespace Go.Proofs.YtlkjiiibmfpbcaaGreatDoor
open Go
theorem c59n (w:World) (sp:Option Addr) (m b nd bb:Nat) (hm:m≤8) (hg:Glc w):Calls Tryz.prog 59 #[.pointer sp,.int .i64 (m:Int),.int .u64 (b:Int),.int .i64 (nd:Int),.int .u64 (bb:Int)] w fun e w'=>e=.returned (.slice none 0 0)∧w'=w :=
 (F59.call sp m b nd bb w (fun v w'=>v=.slice none 0 0∧w'=w) fun B=>⟨8,hg.t2,bc_false rfl ⟨8,hg.t2,bc_true (decT (by omega)) fun B1=>ret1 rfl rfl ⟨rfl,rfl⟩⟩⟩).mono fun e w' ⟨v,h1,h2,h3⟩=>⟨by rw [h1,h2],h3⟩
theorem c59 {w:World} {K:SK} {m b nd bb:Nat} {L:List Item} (h:Bank w (stk K :: L)) (hm:9≤m) (hm2:m≤260) (hbb:bb=b^nd) (hb2:2≤b) (hb62:b≤62) (hbb1:bb<BB) (hbb2:BB≤bb*b) (hnd:1≤nd∧nd≤64) (hKa:K.a≠none) (hL:K.s.l≤549755813888) (hg:Glc w) {Q:Ending→World→Prop}
  (q:∀ tb k (K':SK) r d f w',1≤k→k≤6→LD w K tb b k k L w' K' r d f→w.heap.size≤tb→Q (.returned (.slice (some ⟨tb,0,none⟩) k k)) w') :
  Calls Tryz.prog 59 #[.pointer K.a,.int .i64 (m:Int),.int .u64 (b:Int),.int .i64 (nd:Int),.int .u64 (bb:Int)] w Q:=by
 refine (F59.call K.a m b nd bb w (fun v w'=>Q (.returned v) w') fun B=>⟨8,hg.t2,bc_false rfl ⟨8,hg.t2,bc_false (decF (by omega)) ⟨8,hg.t2,fun B1=>?_⟩⟩⟩).mono fun e w' ⟨v,h1,h2⟩=>by rw [h1]; exact h2
 rw [F59.q3]
 refine W_for' (σ:=Nat) (fun i=>F59.l2 K.a m b nd bb (i+1:Nat) (8*2^i:Nat)) (fun i w'=>i≤5∧w'=w) (fun i=>6-i) 0 ⟨rfl,rfl,rfl,rfl,rfl,rfl,rfl,trivial⟩ ⟨by omega,rfl⟩ ?_
 rintro i B2 w1 K0 ⟨hi,hw⟩ hnext hexit -
 subst hw
 have h2i:2^i≤2^5:=Nat.pow_le_pow_right (by omega) hi
 have fin:∀ (e:Env),agree e (F59.l1 K.a b nd bb (i+1:Nat))→e.defers=[]→W Tryz.prog 136 F59.p1 e w1 (retK Tryz.prog [.tmp 10] fun v w'=>Q (.returned v) w'):=by
  intro e ha hd
  refine F59.t1 K.a b nd bb (i+1:Nat) ha fun B3=>?_
  obtain ⟨b1,c1⟩:=rowMade w1 hg.gb #[(Value.slice none 0 0),(Value.int IntKind.i64 0),(Value.int IntKind.i64 0)] ((i+1)*3) 128 h
  have R1:RowAt _ w1.heap.size ((i+1)*3) _:=b1.head
  have hz:∀ j,(fun j=>#[(Value.slice none 0 0),(Value.int IntKind.i64 0),(Value.int IntKind.i64 0)][j%#[(Value.slice none 0 0),(Value.int IntKind.i64 0),(Value.int IntKind.i64 0)].size]!) (j*3+2)=Value.int IntKind.i64 0:=fun j=>by
   show #[(Value.slice none 0 0),(Value.int IntKind.i64 0),(Value.int IntKind.i64 0)][(j*3+2)%3]! = _
   rw [show (j*3+2)%3=2 by omega]; rfl
  refine ⟨i+1,i+1,rfl,rfl,Nat.le_refl _,by omega,by omega,by unfold inI64; omega,w1.heap.size,0,rfl,i,by omega,by omega,0,?_,bc_true rfl fun B4=>?_⟩
  ·rw [show 0+i*3+2=i*3+2 by omega,R1.cell _ (by omega)]; exact congrArg some (hz i)
  generalize hw2:World.alloc w1 (.cells (madeCells #[(Value.slice none 0 0),(Value.int IntKind.i64 0),(Value.int IntKind.i64 0)] ((i+1)*3)) 128)=w2 at b1 c1 R1 ⊢
  generalize hfe:(fun j=>#[(Value.slice none 0 0),(Value.int IntKind.i64 0),(Value.int IntKind.i64 0)][j%#[(Value.slice none 0 0),(Value.int IntKind.i64 0),(Value.int IntKind.i64 0)].size]!)=f0 at b1 hz
  rw [hd]
  rw [F59.q6]
  have ld:LD w1 K w1.heap.size b (i+1) 0 L w2 K (fun _=>nilS w1) (fun _=>0) f0:=⟨b1.perm (List.Perm.swap _ _ _),⟨fun j hj=>by omega,fun j hj=>by omega,fun j hj=>by omega⟩,fun j _ _=>hz j,⟨fun j hj=>by omega,fun j hj=>by omega,fun j hj=>by omega,fun j hj=>by omega⟩,rfl,rfl,Nxt.refl _ _,c1.none _⟩
  refine W_for' (σ:=Nat) (fun j=>F59.l5 K.a b nd bb (i+1:Nat) (some ⟨w1.heap.size,0,none⟩) (i+1) (i+1) j) (fun j w'=>j≤i+1∧∃ K' r d f,LD w1 K w1.heap.size b (i+1) j L w' K' r d f) (fun j=>i+1-j) 0 ⟨rfl,rfl,rfl,rfl,rfl,rfl,rfl,trivial⟩ ⟨Nat.zero_le _,_,_,_,_,ld⟩ ?_
  rintro j B5 w3 K1 ⟨hj,K',r,d,f,hld⟩ hnext1 hexit1 -
  refine F59.t5 K.a b nd bb (i+1:Nat) (some ⟨w1.heap.size,0,none⟩) (i+1) (i+1) j ⟨rfl,rfl,rfl,rfl,rfl,rfl,rfl,trivial⟩ fun B6=>bc_intro (fun hb B7=>?_) (fun hb B7=>hexit1 _ _ ?_)
  ·have hj1:j<i+1:=by have:=dT hb; omega
   rw [F59.q9]
   refine W_block ?_
   refine round59 hld hj1 (by omega) (Nat.le_refl _) hbb hb2 hb62 hbb1 hbb2 hnd hKa hL hg ⟨rfl,rfl,rfl,rfl,rfl,rfl,rfl,trivial⟩ fun e' w4 K'' r' d' f' h1 h2 h3=>?_
   refine F59.t7 K.a b nd bb (i+1:Nat) (some ⟨w1.heap.size,0,none⟩) (i+1) (i+1) j h2 fun B8=>⟨by unfold inI64; omega,fun B9=>hnext1 _ _ (j+1) ⟨rfl,rfl,rfl,rfl,rfl,rfl,intv (by omega),trivial⟩ h3 ⟨by omega,_,_,_,_,h1⟩ (by omega)⟩
  ·have hj1:j=i+1:=by have:=dF hb; omega
   subst hj1
   exact F59.t4 (some ⟨w1.heap.size,0,none⟩) (i+1) (i+1) ⟨rfl,trivial⟩ fun B8 B9=>ret1 rfl rfl (q _ _ _ _ _ _ _ (by omega) (by omega) hld (Nat.le_refl _))
 have eS:iShr .i64 (m:Int) 1=((m/2:Nat):Int):=iShrI m 1 (by omega)
 have eL:iShl .i64 ((8*2^i:Nat):Int) 1=((8*2^(i+1):Nat):Int):=by
  have:=iShlI (8*2^i) 1 (by omega) (by omega)
  rw [Nat.pow_succ,←Nat.mul_assoc]; exact this
 refine F59.t2 K.a m b nd bb (i+1:Nat) (8*2^i:Nat) ⟨rfl,rfl,rfl,rfl,rfl,rfl,rfl,trivial⟩ fun B3=>⟨by omega,bc_intro (fun hb=>bc_true (decT (by omega)) ⟨by unfold inI64; omega,by omega,fun B4=>hnext _ _ (i+1) ⟨rfl,rfl,rfl,rfl,rfl,intv (by omega),intv eL,trivial⟩ rfl ⟨?_,rfl⟩ (by omega)⟩) (fun hb B4=>hexit _ _ ?_)⟩
 ·rw [eS] at hb
  have:=dT hb
  have hc:i=5∨i≤4:=by omega
  rcases hc with h5 | h5
  ·subst h5
   have:((8*2^5:Nat):Int)=256:=by decide
   omega
  ·omega
 ·exact fin _ ⟨rfl,rfl,rfl,rfl,rfl,trivial⟩ rfl
end Go.Proofs.YtlkjiiibmfpbcaaGreatDoor
namespace Go.Proofs.YtlkjiiibmfpbcaaGreatDoor
open Go
theorem Bank.mid {w:World} {A C:List Item} {b:Item} (h:Bank w (A++b :: C)):Bank w (b :: (A++C)):=h.perm List.perm_middle
theorem alloc_nt (w:World) (hg:GB≤w.heap.size) (n:Nat) (hc:n≤281474976710656) :
  Nt (w.alloc (.cells (madeCells #[(Value.int IntKind.u64 0)] n) 61)) ⟨some ⟨w.heap.size,0,none⟩,n,n,w.heap.size,0⟩ 0:=by
 refine { alloc_st w hg n n (Nat.le_refl _) hc with sg:=fun i hi=>?_,lt:=BBpow_pos _ }
 have hi:i<n:=hi
 have hh:(w.alloc (.cells (madeCells #[(Value.int IntKind.u64 0)] n) 61)).heap[w.heap.size]?=some (.cells (madeCells #[(Value.int IntKind.u64 0)] n) 61 (0,0)):=heap_alloc_new ..
 rw [cell_eq]
 show (match (w.alloc (.cells (madeCells #[(Value.int IntKind.u64 0)] n) 61)).heap[w.heap.size]? with
  | some (.cells c _ _)=>c[0+i]?
  | _=>none)=_
 rw [hh,dg_zero]
 simp [madeCells,hi,Nat.mod_one]
theorem Bank.alloc {w:World} {L:List Item} (h:Bank w L) (hg:GB≤w.heap.size) (n:Nat) (hc:n≤281474976710656) :
  Bank (w.alloc (.cells (madeCells #[(Value.int IntKind.u64 0)] n) 61)) (num ⟨some ⟨w.heap.size,0,Option.none⟩,n,n,w.heap.size,0⟩ 0 :: L) :=
 h.new (Chg.alloc _ _ (alloc_froz w _) _) (alloc_nt w hg n hc) fun _ _ hm=>Nat.le_of_eq hm.1.symm
theorem pow_split (B:Nat) {k n:Nat} (h:k≤n):B^n=B^k*B^(n-k):=by rw [←Nat.pow_add,Nat.add_sub_cancel' h]
end Go.Proofs.YtlkjiiibmfpbcaaGreatDoor
namespace Go.Proofs.YtlkjiiibmfpbcaaGreatDoor
open Go
def Cell1 (t e:TypeId) (z:Value):Prop:=Tryz.prog.underlying t=some (.slice e)∧(∃ ie,Tryz.prog.info? e=some ie∧ie.size=1∧ie.bytes≤8∧ie.zero=some z)∧z.cells=#[z]
def Cs (w:World) (b o n:Nat) (f:Nat→Value):Prop:=∀ i,i<n→w.cell? ⟨b,o+i,none⟩=some (f i)
theorem row_st (w:World) (hg:GB≤w.heap.size) (C:Array Value) (e n:Nat) (hn:n≤C.size) (hc:C.size≤9223372036854775807) :
  St (w.alloc (.cells C e)) ⟨some ⟨w.heap.size,0,none⟩,n,C.size,w.heap.size,0⟩:=by
 have hh:(w.alloc (.cells C e)).heap[w.heap.size]?=some (.cells C e (0,0)):=heap_alloc_new ..
 refine ⟨hn,fun _=>rfl,fun i hi=>⟨?_,?_⟩,fun _=>⟨hg,_,_,hh⟩,hc,by simp; omega⟩
 ·have hi':i<C.size:=hi
  refine ⟨C[i],?_⟩
  rw [cell_eq,hh]
  simp [hi']
 ·rw [frozen_eq,hh]; simp
theorem app1 {t e:TypeId} {z:Value} (ht:Cell1 t e z) (s:Sl) (v:Value) (w:World) (hs:St w s) (src:Addr) (c0:Nat) (hsrc:w.cell? src=some v) (h1:v.oneCell'=true) (hl:s.l≤1099511627776) (f:Nat→Value) (hf:Cs w s.b s.o s.l f) :
  ∃ (r:Sl) (w':World),Sem.run Tryz.prog (builtin .append #[t,t] t #[false,false] #[s.v,.slice (some src) 1 c0]) w=.ok (.value r.v) w'∧r.l=s.l+1∧St w' r∧Cs w' r.b r.o (s.l+1) (setF f s.l v)∧From w s r∧(w.heap.size≤r.b∨r.c=s.c) ∧
   Chg w w' (fp s):=by
 obtain ⟨hu,⟨ie,hi,hsz,hby,hzz⟩,hzc⟩:=ht
 have hlc:=hs.lc
 have hcm:=hs.cm
 have key:∀ (r:Sl) (w':World),(Builtin.append_ #[t,t] t #[s.v,.slice (some src) 1 c0]).run Tryz.prog w=.ok r.v w'→Sem.run Tryz.prog (builtin .append #[t,t] t #[false,false] #[s.v,.slice (some src) 1 c0]) w=.ok (.value r.v) w':=fun r w' h=>by
  rw [BigFrame.builtin_append]
  simp only [Sem.run_bind,h]
  rfl
 have hnews:∀ j u,([v]:List Value)[j]?=some u→w.cell? (src.add j)=some u:=fun j u hj=>by
  cases j with
  | zero =>
   simp at hj; subst hj
   rw [show src.add 0=src by unfold Addr.add; split <;> simp_all]; exact hsrc
  | succ j=>simp at hj
 by_cases hroom:s.l+1≤s.c
 ·have ha:=hs.at_ (by omega)
  obtain ⟨⟨u,hu1⟩,hu2⟩:=hs.wr s.l (by omega)
  have hr:=run_append_room_cells (P:=Tryz.prog) w t t e ie hu hi s.b s.o s.l s.c src 1 c0 [v] (by simp [hsz]) hnews (by simp [h1]) hroom
   (fun j hj=>by
    have:j=0:=by simpa using hj
    subst this
    rw [hsz,Nat.mul_one,Nat.add_zero,hu1]; rfl)
   (fun j hj=>by
    have:j=0:=by simpa using hj
    subst this
    rw [hsz,Nat.mul_one,Nat.add_zero]; exact hu2)
  rw [hsz,Nat.mul_one] at hr
  have hc:Chg w (w.setCell ⟨s.b,s.o+s.l,none⟩ v) (inR s.b (s.o+s.l) (s.o+s.l+1)):=Chg.setCell (hs.pl (by omega)) _ ⟨rfl,Nat.le_refl _,by omega⟩
  have hrv:(s.to (s.l+1)).v=.slice (some ⟨s.b,s.o,none⟩) (s.l+1) s.c:=by rw [←ha]; rfl
  refine ⟨s.to (s.l+1),w.setCell ⟨s.b,s.o+s.l,none⟩ v,key _ _ ?_,rfl,(hc.st hs).to_st _ hroom,fun i hi=>?_,From.self _ _ _,.inr rfl,hc.mono fun b i _ hm=>⟨hm.1,by have:=hm.2.1; omega,by have:=hm.2.2; omega⟩⟩
  ·rw [hrv]
   unfold Sl.v
   rw [ha]; exact hr
  ·show (w.setCell ⟨s.b,s.o+s.l,none⟩ v).cell? ⟨s.b,s.o+i,none⟩=_
   by_cases h:i=s.l
   ·subst h
    rw [setF_self]
    exact World.cell?_setCell_same _ _ _ hu1
   ·rw [setF_ne _ _ h,hc.cell (lt_of_cell (hf i (by omega))) (fun hm=>by have:=hm.2.1; omega)]
    exact hf i (by omega)
 ·have hlc':s.l=s.c:=by omega
  obtain ⟨olds,hol,hold⟩:=exists_cells (w:=w) (b:=s.b) s.l s.o (fun i hi=>⟨_,hf i hi⟩)
  have holds:∀ i,i<s.l→olds[i]?=some (f i):=fun i hi=>by
   have h1:olds[i]?=some (olds[i]'(by omega)):=List.getElem?_eq_getElem (by omega)
   have h2:=hold i _ h1
   rw [hf i hi] at h2
   rw [h1,←h2]
  have fin:∀ cap,s.l+1≤cap→cap≤maxLen→(Builtin.append_ #[t,t] t #[s.v,.slice (some src) 1 c0]).run Tryz.prog w=.ok (.slice (some ⟨w.heap.size,0,none⟩) (s.l+1) cap) (w.drew.alloc (.cells (olds.toArray++#[v]++Builtin.zeroCells z.cells (cap-(s.l+1))) e))→_:=fun cap hc1 hc2 hr=>by
   unfold maxLen at hc2
   have hsize:(olds.toArray++#[v]++Builtin.zeroCells z.cells (cap-(s.l+1))).size=cap:=by
    rw [hzc]; simp [Builtin.zeroCells,hol]; omega
   have hst:=row_st w.drew hs.gb (olds.toArray++#[v]++Builtin.zeroCells z.cells (cap-(s.l+1))) e (s.l+1) (by rw [hsize]; exact hc1) (by rw [hsize]; omega)
   rw [hsize] at hst
   have hh:(w.drew.alloc (.cells (olds.toArray++#[v]++Builtin.zeroCells z.cells (cap-(s.l+1))) e)).heap[w.heap.size]?=some (.cells (olds.toArray++#[v]++Builtin.zeroCells z.cells (cap-(s.l+1))) e (0,0)):=heap_alloc_new w.drew _
   exact (⟨⟨some ⟨w.heap.size,0,none⟩,s.l+1,cap,w.heap.size,0⟩,_,key ⟨some ⟨w.heap.size,0,none⟩,s.l+1,cap,w.heap.size,0⟩ _ hr,rfl,hst,fun i hi=>by
    show (w.drew.alloc _).cell? ⟨w.heap.size,0+i,none⟩=_
    rw [cell_eq,hh,Nat.zero_add]
    show (olds.toArray++#[v]++_)[i]?=_
    rw [Array.getElem?_append_left (by simp [hol]; omega)]
    by_cases h:i=s.l
    ·subst h
     rw [setF_self,Array.getElem?_append_right (by simp [hol])]
     simp [hol]
    ·rw [setF_ne _ _ h,Array.getElem?_append_left (by simp [hol]; omega)]
     simpa using holds i (by omega),.inr (Nat.le_refl _),.inl (Nat.le_refl _),(Chg.drew0 w _).trans' (Chg.alloc w.drew _ (fun a=>RowKit.frozen?_alloc_cells w.drew _ _ a) _)⟩ :
    ∃ (r:Sl) (w':World),Sem.run Tryz.prog (builtin .append #[t,t] t #[false,false] #[s.v,.slice (some src) 1 c0]) w=.ok (.value r.v) w'∧r.l=s.l+1∧St w' r∧Cs w' r.b r.o (s.l+1) (setF f s.l v)∧From w s r∧(w.heap.size≤r.b∨r.c=s.c) ∧
     Chg w w' (fp s))
  cases hsa:s.a with
  | none =>
   have h0:s.c=0:=by
    rcases Nat.eq_zero_or_pos s.c with h | h
    ·exact h
    ·have:=hs.at_ (by omega); rw [hsa] at this; cases this
   have h0l:s.l=0:=by omega
   obtain rfl:olds=[]:=List.length_eq_zero_iff.1 (by omega)
   have hr:=run_append_nil (P:=Tryz.prog) w t t e ie z hu hi hzz src 1 c0 [v] (by simp [hsz]) hnews (by omega) (by omega) (by omega)
   refine fin (grownCap w 1 0 e) (by have:=grownCap_ge w 1 0 e; omega) (grownCap_le_maxLen w 1 0 e (by decide)) ?_
   unfold Sl.v
   rw [hsa,h0l,h0]
   simpa using hr
  | some b =>
   have hb:s.c≠0→b=⟨s.b,s.o,none⟩:=fun h=>by have:=hs.at_ h; rw [hsa] at this; exact Option.some.inj this
   have hr:=run_append_grow (P:=Tryz.prog) w t t e ie z hu hi hzz b s.l s.c olds (by rw [hsz,hol,Nat.mul_one]) (fun j u hj=>by
    have hj':j<olds.length:=(List.getElem?_eq_some_iff.1 hj).1
    rw [hb (by omega),addr_add]
    exact hold j u hj) src 1 c0 [v] (by simp [hsz]) hnews (by omega) (by omega) (growslice_fits (by omega) (Nat.le_trans (Nat.mul_le_mul_left _ hby) (by omega)))
   refine fin (grownCap w (s.l+1) s.c e) (grownCap_ge w (s.l+1) s.c e) (grownCap_le_maxLen w (s.l+1) s.c e (by unfold maxLen; omega)) ?_
   unfold Sl.v
   rw [hsa]
   simpa using hr
end Go.Proofs.YtlkjiiibmfpbcaaGreatDoor
namespace Go.Proofs.YtlkjiiibmfpbcaaGreatDoor
open Go
theorem cell45:Cell1 45 61 (.int .u64 0):=by
 refine ⟨Tryz.underlying45,?_,rfl⟩
 have h:(Tryz.prog.info? 61).map (fun i=>(i.size,i.bytes,i.zero))=some (1,8,some (.int .u64 0)):=by kernel_rfl
 cases hi:Tryz.prog.info? 61 with
 | none=>rw [hi] at h; simp at h
 | some ie =>
  rw [hi] at h
  simp only [Option.map_some,Option.some.injEq,Prod.mk.injEq] at h
  exact ⟨ie,rfl,h.1,by omega,h.2.2⟩
def setD (V k d:Nat):Nat:=V%BB^k+BB^k*(d+BB^1*(V/BB^(k+1)))
theorem setD_lo (V k d:Nat) (hd:d<BB):setD V k d%BB^(k+1)=V%BB^k+BB^k*d:=by
 unfold setD
 have h1:=Nat.mod_lt V (BBpow_pos k)
 rw [Nat.mul_add,←Nat.mul_assoc,←Nat.pow_add,←Nat.add_assoc,Nat.add_mul_mod_self_left]
 refine Nat.mod_eq_of_lt ?_
 have:BB^k*d+BB^k≤BB^(k+1):=by rw [BBpow_succ,←Nat.mul_succ]; exact Nat.mul_le_mul_left _ hd
 omega
theorem setD_hi (V k d:Nat) (hd:d<BB):setD V k d/BB^(k+1)=V/BB^(k+1):=by
 unfold setD
 have h1:=Nat.mod_lt V (BBpow_pos k)
 rw [Nat.mul_add,←Nat.mul_assoc,←Nat.pow_add,←Nat.add_assoc,Nat.add_mul_div_left _ _ (BBpow_pos _)]
 have:BB^k*d+BB^k≤BB^(k+1):=by rw [BBpow_succ,←Nat.mul_succ]; exact Nat.mul_le_mul_left _ hd
 rw [Nat.div_eq_of_lt (by omega),Nat.zero_add]
theorem setD_bank {w:World} {s:Sl} {V k d:Nat} {L:List Item} (h:Bank w (num s V :: L)) (hk:k<s.l) (hd:d<BB) :
  Bank (w.setCell ⟨s.b,s.o+k,none⟩ (.int .u64 (d:Int))) (num s (setD V k d) :: L)∧Chg w (w.setCell ⟨s.b,s.o+k,none⟩ (.int .u64 (d:Int))) (fp s):=by
 have hs:Nt w s V:=h.head
 have hlc:=hs.lc
 have hp:=hs.pl (by omega)
 have hc:Chg w (w.setCell ⟨s.b,s.o+k,none⟩ (.int .u64 (d:Int))) (inR s.b (s.o+k) (s.o+k+1)):=Chg.setCell hp _ ⟨rfl,by omega,by omega⟩
 have hc':Chg w (w.setCell ⟨s.b,s.o+k,none⟩ (.int .u64 (d:Int))) (fp s):=hc.mono fun b i _ hm=>⟨hm.1,by have:=hm.2.1; omega,by have:=hm.2.2; omega⟩
 refine ⟨h.upd hc' (fun _ _ _ hm=>hm) ?_ fun _ _ _ hm=>hm,hc'⟩
 have h0:Sg (w.setCell ⟨s.b,s.o+k,none⟩ (.int .u64 (d:Int))) s.b s.o k (V%BB^k):=hc.sg ((hs.sg.le (by omega)).mod) fun i hi hm=>by have:=hm.2.1; omega
 have h1:Sg (w.setCell ⟨s.b,s.o+k,none⟩ (.int .u64 (d:Int))) s.b (s.o+k) 1 d:=fun i hi=>by
  obtain rfl:i=0:=by omega
  rw [dg_self d hd]
  exact World.cell?_setCell_same _ _ _ (hs.sg k hk)
 have h2:Sg (w.setCell ⟨s.b,s.o+k,none⟩ (.int .u64 (d:Int))) s.b (s.o+k+1) (s.l-(k+1)) (V/BB^(k+1)):=by
  have:=hs.sg.hi (k+1) (s.l-(k+1)) (by omega)
  rw [←Nat.add_assoc] at this
  exact hc.sg this fun i _ hm=>by have:=hm.2.2; omega
 have h3:=h1.join h2 (by rw [Nat.pow_one]; exact hd)
 have h4:=h0.join h3 (Nat.mod_lt _ (BBpow_pos k))
 rw [show k+(1+(s.l-(k+1)))=s.l by omega] at h4
 refine { hc.st hs.toSt with sg:=h4,lt:=?_ }
 have h5:V/BB^(k+1)<BB^(s.l-(k+1)):=by rw [Nat.div_lt_iff_lt_mul (BBpow_pos _),←Nat.pow_add,Nat.sub_add_cancel (by omega)]; exact hs.lt
 have h6:=pow_split BB (show k+1≤s.l by omega)
 have h7:=Nat.mod_add_div (setD V k d) (BB^(k+1))
 rw [setD_hi V k d hd] at h7
 have h8:=Nat.mod_lt (setD V k d) (BBpow_pos (k+1))
 rw [h6]
 have h9:BB^(k+1)*(V/BB^(k+1))+BB^(k+1)≤BB^(k+1)*BB^(s.l-(k+1)):=by rw [←Nat.mul_succ]; exact Nat.mul_le_mul_left _ h5
 omega
theorem app_bank {w:World} {s:Sl} {V d b c0:Nat} {L:List Item} (h:Bank w (num s V :: L)) (hsrc:w.cell? ⟨b,0,none⟩=some (.int .u64 (d:Int))) (hd:d<BB) (hl:s.l≤1099511627776) :
  ∃ (r:Sl) (w':World),Sem.run Tryz.prog (builtin .append #[45,45] 45 #[false,false] #[s.v,.slice (some ⟨b,0,none⟩) 1 c0]) w=.ok (.value r.v) w'∧r.l=s.l+1∧Bank w' (num r (V+BB^s.l*d) :: L)∧From w s r∧Chg w w' (fp s):=by
 have hs:Nt w s V:=h.head
 obtain ⟨r,w',r1,r2,r3,r4,r5,_,r7⟩:=app1 cell45 s (.int .u64 (d:Int)) w hs.toSt ⟨b,0,none⟩ c0 hsrc rfl hl (fun i=>.int .u64 (dg V i:Int)) hs.sg
 refine ⟨r,w',r1,r2,h.res (a':=num r (V+BB^s.l*d)) rfl r5 r7 ?_ rfl,r5,r7⟩
 refine { r3 with sg:=fun i hi=>?_,lt:=?_ }
 ·rw [r4 i (by omega)]
  by_cases hi':i=s.l
  ·subst hi'
   rw [setF_self,show dg (V+BB^s.l*d) s.l=d by have:=dg_add_hi V d s.l 0 hs.lt; rw [Nat.add_zero] at this; rw [this,dg_self d hd]]
  ·rw [setF_ne _ _ hi',dg_add_lo _ _ _ _ (by omega)]
 ·rw [r2]
  exact dlt hs.lt hd
end Go.Proofs.YtlkjiiibmfpbcaaGreatDoor
namespace Go.Proofs.YtlkjiiibmfpbcaaGreatDoor
open Go
set_option maxRecDepth 100000
set_option linter.unusedVariables false
namespace F18
noncomputable def body:Code:=bodyOf Tryz.f18
def kt:List (Nat × List Nat):=[]
variable (D0:Option Addr)
abbrev l0:List (Nat × Value):=[eP 0 D0]
def v0:VP:=fun B ds w K=>nc D0 fun b1 o2=>∃ x3a,∃ x3l,∃ x3c,w.cell? ⟨b1,o2+1,none⟩=some (.slice x3a x3l x3c)∧bc ((x3l:Int)==0) (Kd K .ret [eI 2 0] ds w) (nc D0 fun b5 o6=>∃ x7,w.cell? ⟨b5,o6+0,none⟩=some (.bool x7)∧bc x7 (Kd K .ret [eI 2 (-1)] ds w) (Kd K .ret [eI 2 1] ds w))
theorem t0:VZ 13 body (l0 D0) (v0 D0):=tz kt [2] fun B ds w K=>by kernel_rfl
theorem call:VCl 18 [.tmp 2] #[.pointer D0] (v0 D0):=cz Tryz.func18 (by kernel_rfl) Tryz.ntmps18 Tryz.results18 (by kernel_rfl) (t0 D0)
end F18
namespace F32
noncomputable def body:Code:=bodyOf Tryz.f32
def kt:List (Nat × List Nat):=[]
variable (D0:Option Addr)
abbrev l0:List (Nat × Value):=[eP 0 D0]
def v0:VP:=fun B ds w K=>nc D0 fun b1 o2=>∃ x3a,∃ x3l,∃ x3c,w.cell? ⟨b1,o2+1,none⟩=some (.slice x3a x3l x3c)∧Kd K .ret [eS 2 x3a x3l x3c] ds w
theorem t0:VZ 7 body (l0 D0) (v0 D0):=tz kt [2] fun B ds w K=>by kernel_rfl
theorem call:VCl 32 [.tmp 2] #[.pointer D0] (v0 D0):=cz Tryz.func32 (by kernel_rfl) Tryz.ntmps32 Tryz.results32 (by kernel_rfl) (t0 D0)
end F32
namespace F19
noncomputable def body:Code:=bodyOf Tryz.f19
def kt:List (Nat × List Nat):=[(3,[3,7,8,9]),(7,[3])]
noncomputable def p1:Code:=sb 3 7 body
noncomputable def p2:Code:=sb 6 52 body
noncomputable def p3:Code:=sb 4 13 body
theorem q3:p3=.block 0 (.loop p2):=by kernel_rfl
variable (D0 A3:Option Addr) (N3 C3:Nat) (A7:Option Addr) (N7 C7:Nat) (I8 I9:Int)
abbrev l0:List (Nat × Value):=[eP 0 D0]
def v0:VP:=fun B ds w K=>Cl 32 #[(.pointer D0)] w fun r1 w2=>∃ x3a,∃ x3l,∃ x3c,r1=.returned (.slice x3a x3l x3c)∧Wd 19 p3 [eS 3 none 0 0,eS 7 x3a x3l x3c,eI 8 (x3l:Int),eI 9 0] ds w2 (thenW Tryz.prog 19 p1 K)
theorem t0:VZ 19 body (l0 D0) (v0 D0):=tz kt [2] fun B ds w K=>by kernel_rfl
theorem call:VCl 19 [.tmp 2] #[.pointer D0] (v0 D0):=cz Tryz.func19 (by kernel_rfl) Tryz.ntmps19 Tryz.results19 (by kernel_rfl) (t0 D0)
abbrev l1:List (Nat × Value):=[eS 3 A3 N3 C3]
def v1:VP:=fun B ds w K=>Kd K .ret [eS 2 A3 N3 C3] ds w
theorem t1:VT 19 p1 (l1 A3 N3 C3) (v1 A3 N3 C3):=tw kt [2] fun B ds w K=>by kernel_rfl
abbrev l2:List (Nat × Value):=[eS 3 A3 N3 C3,eS 7 A7 N7 C7,eI 8 I8,eI 9 I9]
def v2:VP:=fun B ds w K=>bc (decide (I9<(I8:Int))) (nc A7 fun b2 o3=>∃ k1:Nat,I9=(k1:Int)∧k1<N7∧∃ x4,w.cell? ⟨b2,o3+k1,none⟩=some (.int .u64 x4)∧∃ w5,∃ x6a,∃ x6l,∃ x6c,Sem.run Tryz.prog (Instr.buildSlice 22 1 #[(0,(.int .u64 x4))]) w=.ok (.slice x6a x6l x6c) w5∧∃ w7,∃ x8a,∃ x8l,∃ x8c,Sem.run Tryz.prog (builtin .append #[22,22] 22 #[false,false] #[(.slice A3 N3 C3),(.slice x6a x6l x6c)]) w5=.ok (.value (.slice x8a x8l x8c)) w7∧inI64 (I9+1)∧Kd K .normal [eS 3 x8a x8l x8c,eS 7 A7 N7 C7,eI 8 I8,eI 9 (I9+1)] ds w7) (Kd K (.exit 0) [eS 3 A3 N3 C3,eS 7 A7 N7 C7,eI 8 I8,eI 9 I9] ds w)
theorem t2:VT 19 p2 (l2 A3 N3 C3 A7 N7 C7 I8 I9) (v2 A3 N3 C3 A7 N7 C7 I8 I9):=tw kt [3,7,8,9] fun B ds w K=>by kernel_rfl
end F19
namespace F27
noncomputable def body:Code:=bodyOf Tryz.f27
def kt:List (Nat × List Nat):=[]
variable (A0:Option Addr) (N0 C0:Nat)
abbrev l0:List (Nat × Value):=[eS 0 A0 N0 C0]
def v0:VP:=fun B ds w K=>Cl 43 #[(.slice A0 N0 C0)] w fun r1 w2=>∃ x3a,∃ x3l,∃ x3c,r1=.returned (.slice x3a x3l x3c)∧Cl 42 #[(.slice x3a x3l x3c)] w2 fun r4 w5=>∃ x6a,∃ x6l,∃ x6c,r4=.returned (.slice x6a x6l x6c)∧Kd K .ret [eS 2 x6a x6l x6c] ds w5
theorem t0:VZ 6 body (l0 A0 N0 C0) (v0 A0 N0 C0):=tz kt [2] fun B ds w K=>by kernel_rfl
theorem call:VCl 27 [.tmp 2] #[.slice A0 N0 C0] (v0 A0 N0 C0):=cz Tryz.func27 (by kernel_rfl) Tryz.ntmps27 Tryz.results27 (by kernel_rfl) (t0 A0 N0 C0)
end F27
namespace F42
noncomputable def body:Code:=bodyOf Tryz.f42
def kt:List (Nat × List Nat):=[]
variable (A0:Option Addr) (N0 C0:Nat)
abbrev l0:List (Nat × Value):=[eS 0 A0 N0 C0]
def v0:VP:=fun B ds w K=>Cl 40 #[(.slice A0 N0 C0)] w fun r1 w2=>∃ x3a,∃ x3l,∃ x3c,r1=.returned (.slice x3a x3l x3c)∧Cl 46 #[(.slice x3a x3l x3c)] w2 fun r4 w5=>∃ x6a,∃ x6l,∃ x6c,r4=.returned (.slice x6a x6l x6c)∧Cl 62 #[(.slice x6a x6l x6c)] w5 fun r7 w8=>∃ x9a,∃ x9l,∃ x9c,r7=.returned (.slice x9a x9l x9c)∧Kd K .ret [eS 2 x9a x9l x9c] ds w8
theorem t0:VZ 7 body (l0 A0 N0 C0) (v0 A0 N0 C0):=tz kt [2] fun B ds w K=>by kernel_rfl
theorem call:VCl 42 [.tmp 2] #[.slice A0 N0 C0] (v0 A0 N0 C0):=cz Tryz.func42 (by kernel_rfl) Tryz.ntmps42 Tryz.results42 (by kernel_rfl) (t0 A0 N0 C0)
end F42
namespace F40
noncomputable def body:Code:=bodyOf Tryz.f40
def kt:List (Nat × List Nat):=[(3,[3,9,10,11]),(7,[3])]
noncomputable def p1:Code:=sb 3 7 body
noncomputable def p2:Code:=sb 6 52 body
noncomputable def p3:Code:=sb 4 13 body
theorem q3:p3=.block 0 (.loop p2):=by kernel_rfl
variable (A0 A3:Option Addr) (N0 N3 C0 C3:Nat) (A9:Option Addr) (N9 C9:Nat) (I10 I11:Int)
abbrev l0:List (Nat × Value):=[eS 0 A0 N0 C0]
def v0:VP:=fun B ds w K=>∃ l1 c2:Nat,(N0:Int)=(l1:Int)∧(N0:Int)=(c2:Int)∧l1≤c2∧8*c2≤281474976710656∧c2≤281474976710656∧Wd 22 p3 [eS 3 (some ⟨(World.heap w).size,0,none⟩) l1 c2,eS 9 A0 N0 C0,eI 10 (N0:Int),eI 11 0] ds (World.alloc w (.cells (madeCells #[(Value.int IntKind.u64 0)] c2) 61)) (thenW Tryz.prog 22 p1 K)
theorem t0:VZ 22 body (l0 A0 N0 C0) (v0 A0 N0 C0):=tz kt [2] fun B ds w K=>by kernel_rfl
theorem call:VCl 40 [.tmp 2] #[.slice A0 N0 C0] (v0 A0 N0 C0):=cz Tryz.func40 (by kernel_rfl) Tryz.ntmps40 Tryz.results40 (by kernel_rfl) (t0 A0 N0 C0)
abbrev l1:List (Nat × Value):=[eS 3 A3 N3 C3]
def v1:VP:=fun B ds w K=>Kd K .ret [eS 2 A3 N3 C3] ds w
theorem t1:VT 22 p1 (l1 A3 N3 C3) (v1 A3 N3 C3):=tw kt [2] fun B ds w K=>by kernel_rfl
abbrev l2:List (Nat × Value):=[eS 3 A3 N3 C3,eS 9 A9 N9 C9,eI 10 I10,eI 11 I11]
def v2:VP:=fun B ds w K=>bc (decide (I11<(I10:Int))) (nc A9 fun b2 o3=>∃ k1:Nat,I11=(k1:Int)∧k1<N9∧∃ x4,w.cell? ⟨b2,o3+k1,none⟩=some (.int .u64 x4)∧nc A3 fun b6 o7=>∃ k5:Nat,I11=(k5:Int)∧k5<N3∧(∃ u8,w.cell? ⟨b6,o7+k5,none⟩=some u8)∧w.frozen? ⟨b6,o7+k5,none⟩=false∧inI64 (I11+1)∧Kd K .normal [eS 3 A3 N3 C3,eS 9 A9 N9 C9,eI 10 I10,eI 11 (I11+1)] ds (w.setCell ⟨b6,o7+k5,none⟩ (.int .u64 x4))) (Kd K (.exit 0) [eS 3 A3 N3 C3,eS 9 A9 N9 C9,eI 10 I10,eI 11 I11] ds w)
theorem t2:VT 22 p2 (l2 A3 N3 C3 A9 N9 C9 I10 I11) (v2 A3 N3 C3 A9 N9 C9 I10 I11):=tw kt [3,9,10,11] fun B ds w K=>by kernel_rfl
end F40
namespace F62
noncomputable def body:Code:=bodyOf Tryz.f62
def kt:List (Nat × List Nat):=[(3,[3,9,10,11]),(7,[3])]
noncomputable def p1:Code:=sb 3 7 body
noncomputable def p2:Code:=sb 6 52 body
noncomputable def p3:Code:=sb 4 13 body
theorem q3:p3=.block 0 (.loop p2):=by kernel_rfl
variable (A0 A3:Option Addr) (N0 N3 C0 C3:Nat) (A9:Option Addr) (N9 C9:Nat) (I10 I11:Int)
abbrev l0:List (Nat × Value):=[eS 0 A0 N0 C0]
def v0:VP:=fun B ds w K=>∃ l1 c2:Nat,(N0:Int)=(l1:Int)∧(N0:Int)=(c2:Int)∧l1≤c2∧8*c2≤281474976710656∧c2≤281474976710656∧Wd 22 p3 [eS 3 (some ⟨(World.heap w).size,0,none⟩) l1 c2,eS 9 A0 N0 C0,eI 10 (N0:Int),eI 11 0] ds (World.alloc w (.cells (madeCells #[(Value.int IntKind.u64 0)] c2) 38)) (thenW Tryz.prog 22 p1 K)
theorem t0:VZ 22 body (l0 A0 N0 C0) (v0 A0 N0 C0):=tz kt [2] fun B ds w K=>by kernel_rfl
theorem call:VCl 62 [.tmp 2] #[.slice A0 N0 C0] (v0 A0 N0 C0):=cz Tryz.func62 (by kernel_rfl) Tryz.ntmps62 Tryz.results62 (by kernel_rfl) (t0 A0 N0 C0)
abbrev l1:List (Nat × Value):=[eS 3 A3 N3 C3]
def v1:VP:=fun B ds w K=>Kd K .ret [eS 2 A3 N3 C3] ds w
theorem t1:VT 22 p1 (l1 A3 N3 C3) (v1 A3 N3 C3):=tw kt [2] fun B ds w K=>by kernel_rfl
abbrev l2:List (Nat × Value):=[eS 3 A3 N3 C3,eS 9 A9 N9 C9,eI 10 I10,eI 11 I11]
def v2:VP:=fun B ds w K=>bc (decide (I11<(I10:Int))) (nc A9 fun b2 o3=>∃ k1:Nat,I11=(k1:Int)∧k1<N9∧∃ x4,w.cell? ⟨b2,o3+k1,none⟩=some (.int .u64 x4)∧nc A3 fun b6 o7=>∃ k5:Nat,I11=(k5:Int)∧k5<N3∧(∃ u8,w.cell? ⟨b6,o7+k5,none⟩=some u8)∧w.frozen? ⟨b6,o7+k5,none⟩=false∧inI64 (I11+1)∧Kd K .normal [eS 3 A3 N3 C3,eS 9 A9 N9 C9,eI 10 I10,eI 11 (I11+1)] ds (w.setCell ⟨b6,o7+k5,none⟩ (.int .u64 x4))) (Kd K (.exit 0) [eS 3 A3 N3 C3,eS 9 A9 N9 C9,eI 10 I10,eI 11 I11] ds w)
theorem t2:VT 22 p2 (l2 A3 N3 C3 A9 N9 C9 I10 I11) (v2 A3 N3 C3 A9 N9 C9 I10 I11):=tw kt [3,9,10,11] fun B ds w K=>by kernel_rfl
end F62
namespace F6
noncomputable def body:Code:=bodyOf Tryz.f6
def kt:List (Nat × List Nat):=[(2,[0,7,8,9]),(7,[])]
noncomputable def p1:Code:=sb 2 3 body
noncomputable def p2:Code:=sb 5 20 body
noncomputable def p3:Code:=sb 3 5 body
theorem q3:p3=.block 0 (.loop p2):=by kernel_rfl
variable (I0:Int) (A1 A7:Option Addr) (N1 N7 C1 C7:Nat) (I8 I9:Int)
abbrev l0:List (Nat × Value):=[eI 0 I0,eS 1 A1 N1 C1]
def v0:VP:=fun B ds w K=>Wd 18 p3 [eI 0 I0,eS 7 A1 N1 C1,eI 8 (N1:Int),eI 9 0] ds w (thenW Tryz.prog 18 p1 K)
theorem t0:VZ 18 body (l0 I0 A1 N1 C1) (v0 I0 A1 N1 C1):=tz kt [4] fun B ds w K=>by kernel_rfl
theorem call:VCl 6 [.tmp 4] #[.int .i64 I0,.slice A1 N1 C1] (v0 I0 A1 N1 C1):=cz Tryz.func6 (by kernel_rfl) Tryz.ntmps6 Tryz.results6 (by kernel_rfl) (t0 I0 A1 N1 C1)
abbrev l1:List (Nat × Value):=[]
def v1:VP:=fun B ds w K=>Kd K .ret [eB 4 true] ds w
theorem t1:VT 18 p1 l1 v1:=tw kt [4] fun B ds w K=>by kernel_rfl
abbrev l2:List (Nat × Value):=[eI 0 I0,eS 7 A7 N7 C7,eI 8 I8,eI 9 I9]
def v2:VP:=fun B ds w K=>bc (decide (I9<(I8:Int))) (nc A7 fun b2 o3=>∃ k1:Nat,I9=(k1:Int)∧k1<N7∧∃ x4a,∃ x4l,∃ x4c,w.cell? ⟨b2,o3+k1,none⟩=some (.slice x4a x4l x4c)∧bc (decide ((x4l:Int)>(I0:Int))) (Kd K .ret [eI 0 I0,eB 4 false,eS 7 A7 N7 C7,eI 8 I8,eI 9 I9] ds w) (inI64 (I9+1)∧Kd K .normal [eI 0 I0,(4,B 4),eS 7 A7 N7 C7,eI 8 I8,eI 9 (I9+1)] ds w)) (Kd K (.exit 0) [eI 0 I0,(4,B 4),eS 7 A7 N7 C7,eI 8 I8,eI 9 I9] ds w)
theorem t2:VT 18 p2 (l2 I0 A7 N7 C7 I8 I9) (v2 I0 A7 N7 C7 I8 I9):=tw kt [0,4,7,8,9] fun B ds w K=>by kernel_rfl
end F6
namespace F10
noncomputable def body:Code:=bodyOf Tryz.f10
def kt:List (Nat × List Nat):=[]
variable (A0:Option Addr) (N0 C0:Nat) (A1:Option Addr) (N1 C1:Nat)
abbrev l0:List (Nat × Value):=[eS 0 A0 N0 C0,eS 1 A1 N1 C1]
def v0:VP:=fun B ds w K=>Cl 21 #[(.slice A0 N0 C0),(.slice A1 N1 C1)] w fun r1 w2=>∃ x3,r1=.returned (.bool x3)∧Kd K .ret [eB 4 x3] ds w2
theorem t0:VZ 8 body (l0 A0 N0 C0 A1 N1 C1) (v0 A0 N0 C0 A1 N1 C1):=tz kt [4] fun B ds w K=>by kernel_rfl
theorem call:VCl 10 [.tmp 4] #[.slice A0 N0 C0,.slice A1 N1 C1] (v0 A0 N0 C0 A1 N1 C1):=cz Tryz.func10 (by kernel_rfl) Tryz.ntmps10 Tryz.results10 (by kernel_rfl) (t0 A0 N0 C0 A1 N1 C1)
end F10
end Go.Proofs.YtlkjiiibmfpbcaaGreatDoor
