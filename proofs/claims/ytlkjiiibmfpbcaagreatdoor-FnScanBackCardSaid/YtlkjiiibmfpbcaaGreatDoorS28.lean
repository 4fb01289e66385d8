/- Recursive division: what a round wants and leaves. -/
import Derived.Test.YtlkjiiibmfpbcaaGreatDoorS27
namespace Go.Proofs.YtlkjiiibmfpbcaaGreatDoor
open Go
def H63:Nat:=9223372036854775808
def D171 (n:Nat):Prop:=∀ (w:World) (K:SK) (z u vv:Sl) (U V:Nat) (L:List Item) (dp:Int),vv.l=n→Bank w (stk K :: nl z 0 :: nl u U :: nl vv V :: L)→2≤n→BB^(n-1)*H63≤V→1≤z.l→z.l≤1000000→u.l≤1000000 →
 U<BB^(n+z.l-1)*H63→(n≤158∨U<BB^(n+38))→Off K vv→K.s.l+16*n≤549755813888→(0≤dp∧dp+n≤1000000000)→n≤1000000→Glb w→∀ Q:Ending→World→Prop,
 (∀ (K':SK) w',Bank w' (stk K' :: nl z (U/V) :: nl u (U%V) :: nl vv V :: L)→K'.a=K.a→K'.s.l=K.s.l→Nxt w K K'→Chg w w' (un (un (wds z) (wds u)) K.free)→Q (.returned undef) w') →
 Calls Tryz.prog 171 #[z.v,.pointer K.a,u.v,vv.v,.int .i64 dp] w Q
theorem Bank.top0 {w:World} {s:Sl} {V k:Nat} {L:List Item} (h:Bank w (nl s V :: L)) (hk:k≤s.l) (hV:V<BB^k):Bank w (nl (s.to k) V :: nl (s.sub k s.l) 0 :: L):=by
 have:=h.split k hk
 rwa [Nat.mod_eq_of_lt hV,Nat.div_eq_of_lt hV] at this
theorem Bank.untop0 {w:World} {s:Sl} {V k:Nat} {L:List Item} (h:Bank w (nl (s.to k) V :: nl (s.sub k s.l) 0 :: L)) (hk:k≤s.l):Bank w (nl s V :: L):=by
 have:=h.join hk
 rwa [Nat.mul_zero,Nat.add_zero] at this
theorem clearN {w:World} {t:Sl} {L:List Item} (h:Bank w (sto t :: L)) :
  ∃ w',Sem.run Tryz.prog (builtin .clear #[45] 0 #[false] #[t.v]) w=.ok (.value undef) w'∧Bank w' (num t 0 :: L)∧Chg w w' (wds t):=by
 have hz:St w t:=h.head
 obtain ⟨w1,r1,r2,r3⟩:=clearW 45 Tryz.underlying45 t w hz.wt
 exact ⟨w1,r1,h.upd r3 (fun b i _ hm=>wds_fp hz.lc b i hm) { r3.st hz with sg:=r2,lt:=BBpow_pos _ } fun _ _ _ h=>h,r3⟩
theorem spcT {w:World} {K:SK} {t x:Sl} (htf:∀ b i,b<w.heap.size→fp t b i→K.free b i) (ho:Off K x) (hx:St w x):SpC t x :=
 Dj.spc fun b i h1 h2=>by
  have e1:=h2.1; have e2:=h2.2.1; have e3:=h2.2.2
  exact ho i e2 e3 (by rw [←e1]; exact htf b i (by rw [e1]; exact hx.blk (by omega)) h1)
theorem renew {w w':World} {K K':SK} {z u vv qz:Sl} {Z U V Z' U':Nat} (h:Bank w [stk K,hole (wds qz),nl z Z,nl u U,nl vv V]) (hn:Nxt w K K') (hk:StkAt w' K') (hz:Nt w' z Z') (hu:Nt w' u U') (hc:Chg w w' (un (un (wds z) (wds u)) (un (wds qz) K.free))) :
  Bank w' [stk K',hole (wds qz),nl z Z',nl u U',nl vv V]:=by
 have hd:[wds qz,wds z,wds u].Pairwise Dj:=by
  have b:Bank w [hole (wds qz),nl z Z,nl u U]:=(h.pick 5 [1,2,3] rfl).left (A:=[_,_,_])
  have:=b.dj
  simp only [List.pairwise_cons,List.mem_cons,List.not_mem_nil,or_false,forall_eq_or_imp,forall_eq,List.Pairwise.nil,and_true,false_implies,implies_true] at this ⊢
  exact this
 have ho:∀ a∈[hole (wds qz),nl z Z,nl u U],∀ b i,a.fp b i→¬K'.free b i:=fun a ha b i hm hf=>by
  have ha':a∈[hole (wds qz),nl z Z,nl u U,nl vv V]:=by simp only [List.mem_cons] at ha ⊢; rcases ha with h | h | h | h <;> simp_all
  exact h.hdj ha' b i (hn.free (a.old (h.tail.all a ha') hm) hf) hm
 have o1:Dj K'.free (wds qz):=fun b i h1 h2=>ho (hole (wds qz)) (by simp) b i h2 h1
 have o2:Dj K'.free (wds z):=fun b i h1 h2=>ho (nl z Z) (by simp) b i h2 h1
 have o3:Dj K'.free (wds u):=fun b i h1 h2=>ho (nl u U) (by simp) b i h2 h1
 have hq:(hole (wds qz)).P w:=h.tail.head
 have hA:Bank w' [stk K',hole (wds qz),nl z Z',nl u U']:=by
  refine ⟨by simp only [List.mem_cons,List.not_mem_nil,or_false,forall_eq_or_imp,forall_eq]; exact ⟨hk,fun b i hm=>Nat.lt_of_lt_of_le (hq b i hm) hc.size,hz,hu⟩,?_⟩
  simp only [List.pairwise_cons,List.mem_cons,List.not_mem_nil,or_false,forall_eq_or_imp,forall_eq,List.Pairwise.nil,and_true,false_implies,implies_true] at hd ⊢
  exact ⟨⟨o1,o2,o3⟩,hd⟩
 refine Bank.updN (A:=[stk K,hole (wds qz),nl z Z,nl u U]) (A':=[stk K',hole (wds qz),nl z Z',nl u U']) h hc (fun b i _ hm=>?_) hA fun a' ha' b i hb hf=>?_
 ·rcases hm with (hm | hm) | hm | hm
  ·exact ⟨nl z Z,by simp,hm⟩
  ·exact ⟨nl u U,by simp,hm⟩
  ·exact ⟨hole (wds qz),by simp,hm⟩
  ·exact ⟨stk K,by simp,hm⟩
 ·simp only [List.mem_cons,List.not_mem_nil,or_false] at ha'
  rcases ha' with rfl | rfl | rfl | rfl
  ·exact ⟨stk K,by simp,stk_sub hn b i hb hf⟩
  ·exact ⟨hole (wds qz),by simp,hf⟩
  ·exact ⟨nl z Z,by simp,hf⟩
  ·exact ⟨nl u U,by simp,hf⟩
structure Ctx (z u vv qz:Sl) (U V n B m s:Nat) (dp:Int):Prop where
 vl:vv.l=n
 ul:u.l=n+m
 hB:B=n/2
 hs:s+1=B
 n40:40≤n
 nM:n≤1000000
 uM:u.l≤1000000
 zM:z.l≤1000000
 ql:qz.l=B+1
 qc:B+1≤qz.c
 mz:m≤z.l
 top:BB^(n-1)*H63≤V
 hU:U<BB^(n+z.l-1)*H63
 z1:1≤z.l
 hP:n≤158∨m≤38
 dp0:0≤dp∧dp+n≤1000000000
 vB:V<BB^n
 ih:∀ n',n'<n→D171 n'
section
variable {z u vv qz:Sl} {U V n B m s:Nat} {dp:Int}
theorem Ctx.sv (h:Ctx z u vv qz U V n B m s dp):BB^(n-1)*H63≤BB^s*(V/BB^s):=by
 have h1:BB^(n-1)*H63=BB^s*(BB^(n-1-s)*H63):=by
  rw [←Nat.mul_assoc,←Nat.pow_add]; congr 2; have:=h.hs; have:=h.hB; omega
 rw [h1]
 refine Nat.mul_le_mul_left _ ?_
 rw [Nat.le_div_iff_mul_le (BBpow_pos s),Nat.mul_comm,←h1]
 exact h.top
theorem Ctx.top1 (h:Ctx z u vv qz U V n B m s dp):BB^(n-s-1)*H63≤V/BB^s:=by
 rw [Nat.le_div_iff_mul_le (BBpow_pos s),Nat.mul_right_comm,←Nat.pow_add,show n-s-1+s=n-1 by have:=h.hs; have:=h.hB; have:=h.n40; omega]
 exact h.top
theorem Ctx.v1 (h:Ctx z u vv qz U V n B m s dp):0<V/BB^s:=by
 have:=h.top1
 have h1:0<BB^(n-s-1)*H63:=Nat.mul_pos (BBpow_pos _) (by decide)
 omega
theorem Ctx.room (h:Ctx z u vv qz U V n B m s dp) {j q W:Nat} (hj:j≤z.l) (hq:q*(BB^s*(V/BB^s))≤W) (hW:BB^j*W≤U):q<BB^(z.l-j):=by
 have h1:=h.sv
 have h2:=h.hU
 have e:BB^(n+z.l-1)*H63=BB^z.l*(BB^(n-1)*H63):=by
  rw [←Nat.mul_assoc,←Nat.pow_add]; congr 2; have:=h.n40; omega
 rw [e] at h2
 have h3:BB^j*q*(BB^s*(V/BB^s))≤U:=by
  rw [Nat.mul_assoc]; exact Nat.le_trans (Nat.mul_le_mul_left _ hq) hW
 have h4:BB^j*q*(BB^s*(V/BB^s))<BB^z.l*(BB^s*(V/BB^s)):=Nat.lt_of_le_of_lt h3 (Nat.lt_of_lt_of_le h2 (Nat.mul_le_mul_left _ h1))
 have h5:=Nat.lt_of_mul_lt_mul_right h4
 have e2:BB^z.l=BB^j*BB^(z.l-j):=by rw [←Nat.pow_add]; congr 1; omega
 rw [e2] at h5
 exact Nat.lt_of_mul_lt_mul_left h5
theorem Ctx.quo (h:Ctx z u vv qz U V n B m s dp) {q:Nat} (hq:q*V≤U):q<BB^z.l:=by
 have h1:=h.top
 have h2:=h.hU
 have e:BB^(n+z.l-1)*H63=BB^z.l*(BB^(n-1)*H63):=by
  rw [←Nat.mul_assoc,←Nat.pow_add]; congr 2; have:=h.n40; omega
 rw [e] at h2
 exact Nat.lt_of_mul_lt_mul_right (Nat.lt_of_le_of_lt hq (Nat.lt_of_lt_of_le h2 (Nat.mul_le_mul_left _ h1)))
theorem Ctx.gs (h:Ctx z u vv qz U V n B m s dp) {W1:Nat} (hW:W1<BB^(n-s+B)):W1/(V/BB^s)≤V/BB^s∧W1<BB^(n-s+(B+1)-1)*H63:=by
 have h1:=h.top1
 have hb:n-s+B≤(n-s-1)+(n-s):=by have:=h.hs; have:=h.hB; have:=h.n40; omega
 refine ⟨?_,?_⟩
 ·refine Nat.le_of_lt (Nat.div_lt_of_lt_mul ?_)
  refine Nat.lt_of_lt_of_le (lt_pow_of_le hW hb) ?_
  have h2:BB^(n-s-1)≤V/BB^s:=Nat.le_trans (Nat.le_mul_of_pos_right _ (by decide)) h1
  have h3:BB^(n-s)≤BB^(n-s-1)*H63*2:=by
   rw [Nat.mul_assoc,show H63*2=BB from rfl,←BBpow_succ]
   exact Nat.pow_le_pow_right BB_pos (by omega)
  rw [Nat.pow_add]
  have h4:BB^(n-s-1)*2≤V/BB^s:=Nat.le_trans (Nat.mul_le_mul_left _ (by decide)) h1
  calc BB^(n-s-1)*BB^(n-s)≤BB^(n-s-1)*(BB^(n-s-1)*H63*2):=Nat.mul_le_mul_left _ h3
   _=(BB^(n-s-1)*2)*(BB^(n-s-1)*H63):=by rw [Nat.mul_comm (BB^(n-s-1)*H63) 2,←Nat.mul_assoc]
   _≤(V/BB^s)*(V/BB^s):=Nat.mul_le_mul h4 h1
 ·refine Nat.lt_of_lt_of_le hW ?_
  rw [show n-s+(B+1)-1=n-s+B by omega]
  exact Nat.le_mul_of_pos_right _ (by decide)
end
end Go.Proofs.YtlkjiiibmfpbcaaGreatDoor
namespace Go.Proofs.YtlkjiiibmfpbcaaGreatDoor
open Go
structure LI (w0:World) (K:SK) (z u vv qz:Sl) (U V n lq j:Nat) (w:World) (K':SK) (Z Uj:Nat):Prop where
 bank:Bank w [stk K',hole (wds qz),nl z Z,nl u Uj,nl vv V]
 val:U=Z*V+Uj
 lt:Uj<BB^(n+j)
 lev:K'.s.l=lq
 nx:Nxt w0 K K'
 ch:Chg w0 w (un (un (wds z) (wds u)) K.free)
 sq:St w qz
 ov:Off K' vv
 oq:Off K' qz
theorem LI.next {w0 w w':World} {K K' Kn:SK} {z u vv qz:Sl} {U V n lq j j' Z Uj Z' U':Nat} (h:LI w0 K z u vv qz U V n lq j w K' Z Uj) (hqK:∀ b i,b<w0.heap.size→fp qz b i→K.free b i) (hn:Nxt w K' Kn) (hl:Kn.s.l=lq) (hk:StkAt w' Kn) (hz:Nt w' z Z') (hu:Nt w' u U') (hc:Chg w w' (un (un (wds z) (wds u)) (un (wds qz) K'.free)))
  (hv:U=Z'*V+U') (hlt:U'<BB^(n+j')):LI w0 K z u vv qz U V n lq j' w' Kn Z' U':=by
 have hvv:Nt w vv V:=h.bank.tail.tail.tail.tail.head
 refine ⟨renew h.bank hn hk hz hu hc,hv,hlt,hl,h.nx.trans hn h.ch.size,h.ch.via hc fun b i hb hm=>?_,hc.st h.sq,h.ov.nxt hn fun h0=>hvv.toSt.blk h0,h.oq.nxt hn fun h0=>h.sq.blk h0⟩
 rcases hm with hm | hm | hm
 ·exact .inl hm
 ·exact .inr (hqK b i hb (wds_fp h.sq.lc b i hm))
 ·exact .inr (h.nx.free hb hm)
section
variable {w0 w:World} {K K':SK} {z u vv qz:Sl} {U V n B m s lq j Z Uj:Nat} {dp:Int}
theorem tail12 (cx:Ctx z u vv qz U V n B m s dp) (hli:LI w0 K z u vv qz U V n lq j w K' Z Uj) (hj:B<j) (hjm:j≤m) (hqK:∀ b i,b<w0.heap.size→fp qz b i→K.free b i) {t:Sl} {k kq M V0 V1 Wv Ulo:Nat} {K7:SK} {w8 w9:World}
  (hUW:Ulo+BB^(j-B)*Wv=Uj) (hUlob:Ulo<BB^(j-B)) (h2:St2 w8 (qz.to kq) t vv (u.sub (j-B) u.l) s k M V0 V1 Wv V [stk K7,nl (u.to (j-B)) Ulo,nl z Z] w9) (hk:k≤n) (hkq:kq≤z.l-(j-B)) (hnx:Nxt w K' K7) (chT:Chg w w9 (un (un (wds z) (wds u)) (un (wds qz) K'.free)))
  {e:Env} {K0:Kont} (ha:agree e (F171.l12 z.a z.l z.c K7.a u.a u.l u.c vv.a vv.l vv.c dp n B qz.a qz.l qz.c j (u.sub (j-B) u.l).a (u.sub (j-B) u.l).l (u.sub (j-B) u.l).c (qz.to kq).a (qz.to kq).l (qz.to kq).c (lq:Int) t.a k t.c))
  (q:∀ e' w' K'' Z' U',agree e' (F171.l2 z.a z.l z.c K7.a u.a u.l u.c vv.a vv.l vv.c dp n B qz.a qz.l qz.c (j-B:Nat))→e'.defers=e.defers→LI w0 K z u vv qz U V n lq (j-B) w' K'' Z' U'→K0 .normal e' w') :
  W Tryz.prog 297 F171.p12 e w9 K0:=by
 have hvl:=cx.vl; have hul:=cx.ul; have hB:=cx.hB; have hs:=cx.hs; have n40:=cx.n40; have uM:=cx.uM; have zM:=cx.zM; have mz:=cx.mz
 have hlev:=hli.lev
 obtain ⟨q',qv,uv,b,hle,hq,hr,hz,-⟩:=h2
 have uN:Nt w9 (u.sub (j-B) u.l) uv:=b.tail.tail.tail.tail.head
 have tN:Nt w9 (t.to k) qv:=b.tail.head
 refine F171.t12 z.a z.l z.c K7.a u.a u.l u.c vv.a vv.l vv.c dp n B qz.a qz.l qz.c j (u.sub (j-B) u.l).a (u.sub (j-B) u.l).l (u.sub (j-B) u.l).c (qz.to kq).a (qz.to kq).l (qz.to kq).c lq t.a k t.c ha fun B1=>?_
 refine cmpU (uu:=u.sub (j-B) u.l) uN tN hz fun w10 c10=>bc_false (decF ?_) fun B2=>?_
 ·intro hg
  have:=sgnPos.1 hg; omega
 have b1:Bank w10 (nl (u.sub (j-B) u.l) uv :: nl (t.to k) qv :: [nl (qz.to kq) q',stk K7,nl (u.to (j-B)) Ulo,nl z Z]):=((b.none c10).pick 8 [4,1,0,5,6,7] rfl).left (A:=[_,_,_,_,_,_])
 refine F171.t16 z.a z.l z.c K7.a u.a u.l u.c vv.a vv.l vv.c dp n B qz.a qz.l qz.c j (u.sub (j-B) u.l).a (u.sub (j-B) u.l).l (u.sub (j-B) u.l).c (qz.to kq).a (qz.to kq).l (qz.to kq).c lq t.a k t.c ⟨rfl,rfl,rfl,rfl,rfl,rfl,rfl,rfl,rfl,rfl,rfl,rfl,rfl,trivial⟩ fun B3=>?_
 refine subAll (uu:=u.sub (j-B) u.l) b1 (by show k≤u.l-(j-B); omega) hle fun w11 b2 c11 B4=>?_
 have b3:Bank w11 (nl z Z :: nl (qz.to kq) q' :: [nl (u.to (j-B)) Ulo,nl (u.sub (j-B) u.l) (uv-qv),stk K7]):=(b2.pick 6 [5,2,4,0,3] rfl).left (A:=[_,_,_,_,_])
 have qN:Nt w11 (qz.to kq) q':=b3.tail.head
 have hUdiv:Uj=BB^(j-B)*(q'*V)+(Ulo+BB^(j-B)*(uv-qv)):=by
  have:=Nat.div_add_mod Wv V
  rw [←hUW,←hr,←hq,Nat.add_left_comm,←Nat.mul_add,Nat.mul_comm (Wv/V) V,this]
 have hUval:U=(Z+BB^(j-B)*q')*V+(Ulo+BB^(j-B)*(uv-qv)):=by
  rw [hli.val,Nat.add_mul,Nat.mul_assoc]; omega
 have hZb:Z+BB^(j-B)*q'<BB^z.l:=cx.quo (by rw [hUval]; exact Nat.le_add_right _ _)
 refine F171.t20 z.a z.l z.c K7.a u.a u.l u.c vv.a vv.l vv.c dp n B qz.a qz.l qz.c j (qz.to kq).a (qz.to kq).l (qz.to kq).c lq ⟨rfl,rfl,rfl,rfl,rfl,rfl,rfl,rfl,rfl,rfl,rfl,trivial⟩ fun B5=>?_
 unfold F171.v20
 rw [show ((j:Int)-B)=((j-B:Nat):Int) by omega]
 refine ⟨by unfold inI64; omega,j-B,rfl,by omega,add_up b3 (by omega) (fun _ _ h=>h) qN hkq hZb fun w12 b4 c12=>⟨rfl,by unfold inI64; omega,?_⟩⟩
 have b5:Bank w12 (nl (u.to (j-B)) Ulo :: nl (u.sub (j-B) u.l) (uv-qv) :: [nl z (Z+BB^(j-B)*q'),stk K7]):=(b4.pick 5 [2,3,0,4] rfl).left (A:=[_,_,_,_])
 have b6:=b5.join (by omega)
 have hk7:StkAt w12 K7:=b6.tail.tail.head
 refine (c102 w12 K7 hk7 lq (by rw [←hlev]; exact hnx.l)).mono ?_
 rintro e' w13 ⟨rfl,hk13,c13⟩
 have dj1:Dj (wds u) K7.free:=b6.hdj (b:=stk K7) (by simp)
 have dj2:Dj (wds z) K7.free:=b6.tail.hdj (b:=stk K7) (by simp)
 have u13:Nt w13 u _:=c13.nt b6.head fun i hi hm=>dj1 _ _ ⟨rfl,by omega,by omega⟩ hm
 have z13:Nt w13 z _:=c13.nt b6.tail.head fun i hi hm=>dj2 _ _ ⟨rfl,by omega,by omega⟩ hm
 have hjl:j-B≤u.l:=by omega
 have ch13:Chg w w13 (un (un (wds z) (wds u)) (un (wds qz) K'.free)):=((((chT.via c10 fun _ _ _ h=>h.elim).via c11 fun b i _ hm=>.inl (.inr (cut_hi hjl b i hm))).via c12 fun b i _ hm=>.inl (.inl hm)).via c13 fun b i hb hm=>.inr (.inr (hnx.free hb hm)))
 have hrb:uv-qv<V:=by rw [←hr]; exact Nat.mod_lt _ (by have:=cx.top; have:0<BB^(n-1)*H63:=Nat.mul_pos (BBpow_pos _) (by decide); omega)
 refine ⟨rfl,fun B6=>q _ _ _ _ _ ⟨rfl,rfl,rfl,rfl,rfl,rfl,rfl,rfl,rfl,trivial⟩ rfl (hli.next hqK (hnx.cut' lq (by omega)) rfl hk13 z13 u13 ch13 hUval ?_)⟩
 have e1:BB^(n+(j-B))=BB^(j-B)*BB^n:=by rw [←Nat.pow_add]; congr 1; omega
 rw [e1]
 have:=Nat.mul_le_mul_left (BB^(j-B)) (show uv-qv+1≤BB^n by have:=cx.vB; omega)
 rw [Nat.mul_succ] at this
 omega
theorem iter (cx:Ctx z u vv qz U V n B m s dp) (hli:LI w0 K z u vv qz U V n lq j w K' Z Uj) (hj:B<j) (hjm:j≤m) (hlq:lq+16*(n-s)≤549755813888) (hqK:∀ b i,b<w0.heap.size→fp qz b i→K.free b i) (hg:Glb w0) {e:Env} {K0:Kont}
  (ha:agree e (F171.l7 z.a z.l z.c K.a u.a u.l u.c vv.a vv.l vv.c dp n B qz.a qz.l qz.c j))
  (q:∀ e' w' K'' Z' U',agree e' (F171.l2 z.a z.l z.c K.a u.a u.l u.c vv.a vv.l vv.c dp n B qz.a qz.l qz.c (j-B:Nat))→e'.defers=e.defers→LI w0 K z u vv qz U V n lq (j-B) w' K'' Z' U'→K0 .normal e' w') :
  W Tryz.prog 297 F171.p7 e w K0:=by
 have hvl:=cx.vl; have hul:=cx.ul; have hB:=cx.hB; have hs:=cx.hs; have n40:=cx.n40; have nM:=cx.nM; have uM:=cx.uM; have zM:=cx.zM; have hql:=cx.ql; have hqc:=cx.qc; have mz:=cx.mz; have hdp:=cx.dp0
 have b:=hli.bank
 have uN:Nt w u Uj:=b.tail.tail.tail.head
 have vN:Nt w vv V:=b.tail.tail.tail.tail.head
 have huc:=uN.lc
 have hvc:=vN.lc
 have hKa:K'.a=K.a:=by unfold SK.a; rw [hli.nx.p]
 obtain ⟨w1,r1,b1,c1⟩:=clearB (show Bank w (hole (wds qz) :: [stk K',nl z Z,nl u Uj,nl vv V]) from b.pick 5 [1,0,2,3,4] rfl) hli.sq (fun _ _ h=>h)
 have cd1:Chg w1 w1.drew none2:=Chg.drew0 w1 _
 have b2:Bank w1.drew (nl u Uj :: [stk K',nl qz 0,nl z Z,nl vv V]):=(b1.none cd1).pick 5 [3,1,0,2,4] rfl
 have b3:=b2.split (j-B) (by omega)
 generalize hUlo:Uj%BB^(j-B)=Ulo at b3
 generalize hW:Uj/BB^(j-B)=Wv at b3
 have hUW:Ulo+BB^(j-B)*Wv=Uj:=by rw [←hUlo,←hW]; exact Nat.mod_add_div _ _
 have hUlob:Ulo<BB^(j-B):=by rw [←hUlo]; exact Nat.mod_lt _ (BBpow_pos _)
 have hWb:Wv<BB^(n+B):=by
  rw [←hW,Nat.div_lt_iff_lt_mul (BBpow_pos _),←Nat.pow_add,show n+B+(j-B)=n+j by omega]; exact hli.lt
 obtain ⟨uu,huu⟩:∃ uu,uu=u.sub (j-B) u.l:=⟨_,rfl⟩
 have uul:uu.l=n+m-(j-B):=by rw [huu]; show u.l-(j-B)=_; omega
 rw [←huu] at b3
 have b4:Bank w1.drew (nl uu Wv :: [nl (u.to (j-B)) Ulo,stk K',nl qz 0,nl z Z,nl vv V]):=b3.pick 6 [1,0,2,3,4,5] rfl
 have b5:=b4.split s (by omega)
 generalize hW0:Wv%BB^s=W0 at b5
 generalize hW1:Wv/BB^s=W1 at b5
 have hWs:W0+BB^s*W1=Wv:=by rw [←hW0,←hW1]; exact Nat.mod_add_div _ _
 have hW0b:W0<BB^s:=by rw [←hW0]; exact Nat.mod_lt _ (BBpow_pos _)
 have hW1b:W1<BB^(n-s+B):=by
  rw [←hW1,Nat.div_lt_iff_lt_mul (BBpow_pos _),←Nat.pow_add,show n-s+B+s=n+B by omega]; exact hWb
 have b6:Bank w1.drew (nl (uu.sub s uu.l) W1 :: [nl (uu.to s) W0,nl (u.to (j-B)) Ulo,stk K',nl qz 0,nl z Z,nl vv V]):=b5.pick 7 [1,0,2,3,4,5,6] rfl
 have b7:=b6.top0 (k:=B+n-s) (by show _≤uu.l-s; omega) (lt_pow_of_le hW1b (by omega))
 have b8:Bank w1.drew (nl vv V :: [stk K',nl qz 0,nl ((uu.sub s uu.l).to (B+n-s)) W1,nl ((uu.sub s uu.l).sub (B+n-s) (uu.sub s uu.l).l) 0,nl (uu.to s) W0,nl (u.to (j-B)) Ulo,nl z Z]):=b7.pick 8 [7,4,5,0,1,2,3,6] rfl
 have b9:=b8.split s (by omega)
 generalize hV0:V%BB^s=V0 at b9
 have hV0b:V0<BB^s:=by rw [←hV0]; exact Nat.mod_lt _ (BBpow_pos _)
 obtain ⟨V1,hV1⟩:∃ V1,V1=V/BB^s:=⟨_,rfl⟩
 rw [←hV1] at b9
 have hVs:V0+BB^s*V1=V:=by rw [←hV0,hV1]; exact Nat.mod_add_div _ _
 have hv1:=cx.v1
 have htop1:=cx.top1
 obtain ⟨hgq,hgU⟩:=cx.gs hW1b
 have hsv:=cx.sv
 rw [←hV1] at hv1 htop1 hgq hsv
 have b10:Bank w1.drew (stk K' :: nl qz 0 :: nl ((uu.sub s uu.l).to (B+n-s)) W1 :: nl (vv.sub s vv.l) V1 :: [nl (vv.to s) V0,nl ((uu.sub s uu.l).sub (B+n-s) (uu.sub s uu.l).l) 0,nl (uu.to s) W0,nl (u.to (j-B)) Ulo,nl z Z]):=b9.pick 9 [2,3,4,1,0,5,6,7,8] rfl
 have chA:Chg w w1.drew (un (un (wds z) (wds u)) (un (wds qz) K'.free)):=((c1.mono fun b i _ hm=>.inr (.inl hm)).trans' (cd1.none _))
 have toT:Chg w0 w1.drew (un (un (wds z) (wds u)) K.free):=hli.ch.via chA fun b i hb hm=>by
  rcases hm with hm | hm | hm
  ·exact .inl hm
  ·exact .inr (hqK b i hb (wds_fp hli.sq.lc b i hm))
  ·exact .inr (hli.nx.free hb hm)
 refine F171.t7 z.a z.l z.c K.a u.a u.l u.c vv.a vv.l vv.c dp n B qz.a qz.l qz.c j ha fun B1=>?_
 unfold F171.v7
 rw [show ((B:Int)-1)=((s:Nat):Int) by omega,show ((j:Int)-B)=((j-B:Nat):Int) by omega,show ((B:Int)+n)=((B+n:Nat):Int) by omega,show (3*(n:Int))=((3*n:Nat):Int) by omega]
 refine ⟨by unfold inI64; omega,by unfold inI64; omega,j-B,rfl,by omega,w1,r1,by unfold inI64; omega,s,B+n,rfl,rfl,by omega,by omega,s,rfl,by omega,by unfold inI64; omega,?_⟩
 have ov1:Off K' (vv.sub s vv.l):=fun i h1 h2=>hli.ov i (by have:vv.o+s≤i:=h1; omega) (by have:i<vv.o+s+(vv.c-s):=h2; omega)
 rw [←hKa]
 have midl:((uu.sub s uu.l).to (B+n-s)).v=(uu.sub s (B+n)).v:=rfl
 have ihc:=cx.ih (n-s) (by omega) w1.drew K' qz ((uu.sub s uu.l).to (B+n-s)) (vv.sub s vv.l) W1 V1 _ (dp+1) (by show vv.l-s=n-s; omega) b10 (by omega) (by rw [hV1]; exact cx.top1) (by omega) (by omega) (by show B+n-s≤_; omega) (by rw [hql]; exact hgU)
  (by
   rcases cx.hP with h | h
   ·exact .inl (by omega)
   ·exact .inr (lt_pow_of_le hW1b (by omega))) ov1 (by have:=hli.lev; omega) (by omega) (by omega) (toT.glb hg)
 subst huu
 refine ihc _ fun K5 w5 b11 hKa5 hl5 hnx5 c5=>⟨rfl,?_⟩
 have qzN:Nt w5 qz (W1/V1):=b11.tail.head
 refine normB qzN fun kq hkq nq=>⟨_,_,_,rfl,?_⟩
 have hs1:w.heap.size≤w1.drew.heap.size:=chA.size
 have hnx5':Nxt w K' K5:=hnx5.mono hs1
 have hlev:=hli.lev
 rw [←hKa5]
 refine (c103 w5 K5 b11.head).mono ?_
 rintro e' w6 ⟨_,rfl,rfl,hw⟩
 have hw:=hw.symm
 subst hw
 refine ⟨_,rfl,by unfold inI64; omega,takeB b11 (by omega) (by omega) fun t K6 w6 htl b12 hKa6 hK6l hnx6 htf c6=>⟨_,_,_,rfl,?_⟩⟩
 have vN1:Nt w1.drew vv V:=(b8.head:Nt w1.drew vv V)
 have vS5:St w5 vv:=(c5.st vN1.toSt)
 have sqz:SpC t qz:=spcT htf (hli.oq.nxt hnx5' fun h=>hli.sq.blk h) qzN.toSt
 have svv:SpC t vv:=spcT htf (hli.ov.nxt hnx5' fun h=>vN.toSt.blk h) vS5
 obtain ⟨w7,r7,b13,c7⟩:=clearN (show Bank w6 (sto t :: stk K6 :: nl qz (W1/V1) :: nl ((( u.sub (j-B) u.l).sub s (u.sub (j-B) u.l).l).to (B+n-s)) (W1%V1) :: nl (vv.sub s vv.l) V1 :: [nl (vv.to s) V0,nl (((u.sub (j-B) u.l).sub s (u.sub (j-B) u.l).l).sub (B+n-s) ((u.sub (j-B) u.l).sub s (u.sub (j-B) u.l).l).l) 0,nl ((u.sub (j-B) u.l).to s) W0,nl (u.to (j-B)) Ulo,nl z Z]) from b12.perm (List.Perm.swap _ _ _))
 have b14:Bank w7 (nl qz (W1/V1) :: [stk K6,num t 0,nl (vv.to s) V0,nl (((u.sub (j-B) u.l).sub s (u.sub (j-B) u.l).l).to (B+n-s)) (W1%V1),nl (vv.sub s vv.l) V1,nl (((u.sub (j-B) u.l).sub s (u.sub (j-B) u.l).l).sub (B+n-s) ((u.sub (j-B) u.l).sub s (u.sub (j-B) u.l).l).l) 0,nl ((u.sub (j-B) u.l).to s) W0,nl (u.to (j-B)) Ulo,nl z Z]):=b13.pick 10 [2,1,0,5,3,4,6,7,8,9] rfl
 have b15:=b14.top0 hkq nq.lt
 have b16:Bank w7 (stk K6 :: num t 0 :: nl (qz.to kq) (W1/V1) :: nl (vv.to s) V0 :: [nl (((u.sub (j-B) u.l).sub s (u.sub (j-B) u.l).l).to (B+n-s)) (W1%V1),nl (vv.sub s vv.l) V1,nl (((u.sub (j-B) u.l).sub s (u.sub (j-B) u.l).l).sub (B+n-s) ((u.sub (j-B) u.l).sub s (u.sub (j-B) u.l).l).l) 0,nl ((u.sub (j-B) u.l).to s) W0,nl (u.to (j-B)) Ulo,nl z Z]):=b15.pick 11 [2,3,0,4,5,6,7,8,9,10] rfl
 have hjl:j-B≤u.l:=by omega
 have hsl:s≤(u.sub (j-B) u.l).l:=by show s≤u.l-(j-B); omega
 have hml:B+n-s≤((u.sub (j-B) u.l).sub s (u.sub (j-B) u.l).l).l:=by show B+n-s≤u.l-(j-B)-s; omega
 have mid_u:∀ b i,wds (((u.sub (j-B) u.l).sub s (u.sub (j-B) u.l).l).to (B+n-s)) b i→wds u b i:=fun b i hm=>cut_hi hjl b i (cut_hi hsl b i (cut_lo hml b i hm))
 have chB:Chg w w7 (un (un (wds z) (wds u)) (un (wds qz) K'.free)):=((chA.via c5 fun b i hb hm=>by
  rcases hm with (hm | hm) | hm
  ·exact .inr (.inl hm)
  ·exact .inl (.inr (mid_u b i hm))
  ·exact .inr (.inr hm)).via c6 fun b i hb hm=>.inr (.inr (hnx5'.free hb hm))).via c7 fun b i hb hm=>.inr (.inr (hnx5'.free hb (htf b i (Nat.lt_of_lt_of_le hb (Nat.le_trans hs1 c5.size)) (wds_fp ((b12.tail.head:St w6 t)).lc b i hm))))
 have hnx6':Nxt w K' K6:=hnx5'.trans hnx6 (Nat.le_trans hs1 c5.size)
 have toT7:∀ {wx:World},Chg w wx (un (un (wds z) (wds u)) (un (wds qz) K'.free))→Chg w0 wx (un (un (wds z) (wds u)) K.free):=fun h=>hli.ch.via h fun b i hb hm=>by
  rcases hm with hm | hm | hm
  ·exact .inl hm
  ·exact .inr (hqK b i hb (wds_fp hli.sq.lc b i hm))
  ·exact .inr (hli.nx.free hb hm)
 rw [←hKa6]
 refine ⟨w7,r7,s,rfl,by omega,mulB b16 nq.one (fun h=>by have:s=1:=h; omega) sqz svv (by show kq≤_; omega) (by show s≤_; omega) (by
   show kq<40∨s<40∨(s≤78∧kq≤s+2)
   rcases cx.hP with h | h <;> omega) (by show kq+s≤t.l; omega) (by omega) ((toT7 chB).glb hg) fun k K7 w8 hk nk b17 hKa7 hl7 hnx7 c8=>⟨_,_,_,rfl,fun B2=>?_⟩⟩
 have hk:k≤kq+s:=hk
 have ht7:∀ b i,b<w.heap.size→fp t b i→K'.free b i:=fun b i hb hm=>hnx5'.free hb (htf b i (Nat.lt_of_lt_of_le hb (Nat.le_trans hs1 c5.size)) hm)
 have chC:Chg w w8 (un (un (wds z) (wds u)) (un (wds qz) K'.free)):=chB.via c8 fun b i hb hm=>by
  rcases hm with hm | hm
  ·exact .inr (.inr (ht7 b i hb hm))
  ·exact .inr (.inr (hnx6'.free hb hm))
 have hnx7':Nxt w K' K7:=hnx6'.trans hnx7 chB.size
 have b18:Bank w8 (nl (((u.sub (j-B) u.l).sub s (u.sub (j-B) u.l).l).to (B+n-s)) (W1%V1) :: nl (((u.sub (j-B) u.l).sub s (u.sub (j-B) u.l).l).sub (B+n-s) ((u.sub (j-B) u.l).sub s (u.sub (j-B) u.l).l).l) 0 :: [nl ((u.sub (j-B) u.l).to s) W0,stk K7,num (t.to (kq+s)) (W1/V1*V0),nl (qz.to kq) (W1/V1),nl (vv.to s) V0,nl (vv.sub s vv.l) V1,nl (u.to (j-B)) Ulo,nl z Z]):=b17.pick 10 [4,6,7,0,1,2,3,5,8,9] rfl
 have b19:Bank w8 (nl ((u.sub (j-B) u.l).to s) W0 :: nl ((u.sub (j-B) u.l).sub s (u.sub (j-B) u.l).l) (W1%V1) :: _):=(b18.untop0 hml).perm (List.Perm.swap _ _ _)
 have b20:=b19.join hsl
 have b21:Bank w8 (num (t.to (kq+s)) (W1/V1*V0) :: [nl (qz.to kq) (W1/V1),nl (vv.to s) V0,nl (vv.sub s vv.l) V1,nl (u.sub (j-B) u.l) (W0+BB^s*(W1%V1)),stk K7,nl (u.to (j-B)) Ulo,nl z Z]):=b20.pick 8 [2,3,4,5,0,1,6,7] rfl
 have tN:Nt w8 (t.to (kq+s)) (W1/V1*V0):=b21.head
 have hMN:max k s≤kq+s:=by omega
 have hfM:∀ b i,wds (t.to (max k s)) b i→fp (t.to (kq+s)) b i:=fun b i hm=>⟨hm.1,hm.2.1,by have h1:i<t.o+max k s:=hm.2.2; have h2:kq+s≤t.c:=tN.lc; show i<t.o+t.c; omega⟩
 have b22:=b21.map1 (a':=nl (t.to (max k s)) (W1/V1*V0)) (tN.low (max k s) hMN (lt_pow_of_le nk.lt (Nat.le_max_left k s))) hfM
 have st1:St1 w8 (qz.to kq) t vv (u.sub (j-B) u.l) s k (max k s) V0 V1 W0 W1 [stk K7,nl (u.to (j-B)) Ulo,nl z Z]:={
  bank:=b22.pick 8 [1,0,2,3,4,5,6,7] rfl
  nz:=nk
  hM:=rfl
  hs:=by omega
  v0:=hV0b
  w0:=hW0b
  v1:=hv1
  hq:=hgq
  top:=by rw [hvl]; exact Nat.le_trans (Nat.le_mul_of_pos_right _ (by decide)) hsv
  hk:=by omega
  hW:=by rw [hWs]; exact lt_pow_of_le hWb (by omega)
  vl:=by omega }
 have hqW:W1/V1*(BB^s*V1)≤Wv:=by
  rw [←hWs,Nat.mul_left_comm]
  have:=Nat.div_mul_le_self W1 V1
  have:=Nat.mul_le_mul_left (BB^s) this
  omega
 have hkz:kq≤z.l-(j-B):=nq.nm _ (cx.room (j:=j-B) (W:=Wv) (by omega) (by rw [←hV1]; exact hqW) (by have:=hli.val; omega))
 have hK7a:K7.a=K.a:=by rw [hKa7,hKa6,hKa5,hKa]
 refine loop13 st1 ⟨rfl,rfl,rfl,rfl,rfl,rfl,rfl,rfl,rfl,rfl,rfl,rfl,rfl,rfl,rfl,trivial⟩ fun e' w9 ha' hd' h2=>?_
 have chD:Chg w w9 (un (un (wds z) (wds u)) (un (wds qz) K'.free)):=by
  obtain ⟨_,_,_,_,_,_,_,_,c9⟩:=h2
  refine chC.via c9 fun b i hb hm=>?_
  rcases hm with hm | hm | hm
  ·exact .inr (.inl (cut_lo hkq b i hm))
  ·exact .inr (.inr (ht7 b i hb ⟨hm.1,hm.2.1,by have h1:i<t.o+max k s:=hm.2.2; have:kq+s≤t.c:=tN.lc; omega⟩))
  ·exact .inl (.inr (cut_hi hjl b i hm))
 rw [hWs,hVs] at h2
 exact tail12 cx hli hj hjm hqK hUW hUlob h2 (by omega) hkz hnx7' chD (K0:=K0) (by rw [hKa7,←hl5.trans hlev]; exact ha') fun e'' w' K'' Z' U' h1 h2' h3=>q e'' w' K'' Z' U' (by rw [←hK7a]; exact h1) (h2'.trans hd') h3
end
end Go.Proofs.YtlkjiiibmfpbcaaGreatDoor
namespace Go.Proofs.YtlkjiiibmfpbcaaGreatDoor
open Go
section
variable {w0 w:World} {K K':SK} {z u vv qz:Sl} {U V n B m s lq j Z Uj:Nat} {dp:Int}
theorem tail4 (cx:Ctx z u vv qz U V n B m s dp) (hli:LI w0 K z u vv qz U V n lq j w K' Z Uj) (hqK:∀ b i,b<w0.heap.size→fp qz b i→K.free b i) (lvl:K.s.l≤lq) {t:Sl} {k kq M V0 V1:Nat} {K7:SK} {w8 w9:World}
  (h2:St2 w8 (qz.to kq) t vv u s k M V0 V1 Uj V [stk K7,nl z Z] w9) (hk:k≤n) (hnx:Nxt w K' K7) (chT:Chg w w9 (un (un (wds z) (wds u)) (un (wds qz) K'.free)))
  {e:Env} (ha:agree e (F171.l4 z.a z.l z.c u.a u.l u.c (qz.to kq).a (qz.to kq).l (qz.to kq).c t.a k t.c)) (hd:e.defers=[Dr K7.a (K.s.l:Int)]) {R:Value→World→Prop}
  (q:∀ w' Kn,StkAt w' Kn→Nxt w0 K Kn→Kn.s.l=K.s.l→Nt w' z (U/V)→Nt w' u (U%V)→Chg w0 w' (un (un (wds z) (wds u)) K.free)→R undef w') :
  W Tryz.prog 297 F171.p4 e w9 (retK Tryz.prog [] R):=by
 have hul:=cx.ul; have n40:=cx.n40; have zM:=cx.zM
 have hlev:=hli.lev
 obtain ⟨q',qv,uv,b,hle,hq,hr,hz,-⟩:=h2
 have uN:Nt w9 u uv:=b.tail.tail.tail.tail.head
 have tN:Nt w9 (t.to k) qv:=b.tail.head
 refine F171.t4 z.a z.l z.c u.a u.l u.c (qz.to kq).a (qz.to kq).l (qz.to kq).c t.a k t.c ha fun B1=>?_
 refine cmpU (uu:=u) uN tN hz fun w10 c10=>bc_false (decF ?_) fun B2=>?_
 ·intro hg
  have:=sgnPos.1 hg; omega
 have b1:Bank w10 (nl u uv :: nl (t.to k) qv :: [nl (qz.to kq) q',stk K7,nl z Z]):=((b.none c10).pick 7 [4,1,0,5,6] rfl).left (A:=[_,_,_,_,_])
 refine F171.t9 z.a z.l z.c u.a u.l u.c (qz.to kq).a (qz.to kq).l (qz.to kq).c t.a k t.c ⟨rfl,rfl,rfl,rfl,trivial⟩ fun B3=>?_
 refine subAll (uu:=u) b1 (by omega) hle (P:=fun c w8=>∀ B_20,W Tryz.prog 297 F171.p15 (E [(0,(.slice z.a z.l z.c)),(25,(.slice (qz.to kq).a (qz.to kq).l (qz.to kq).c)),(30,(.int .u64 c))] B_20 e.defers) w8 (retK Tryz.prog [] R)) fun w11 b2 c11 B4=>?_
 refine F171.t15 z.a z.l z.c (qz.to kq).a (qz.to kq).l (qz.to kq).c 0 ⟨rfl,rfl,rfl,trivial⟩ fun B5=>bc_false (decF (by omega)) fun B6=>?_
 refine F171.t19 z.a z.l z.c (qz.to kq).a (qz.to kq).l (qz.to kq).c ⟨rfl,rfl,trivial⟩ fun B7=>?_
 have b3:Bank w11 (nl z Z :: nl (qz.to kq) q' :: [nl u (uv-qv),stk K7]):=(b2.pick 5 [4,2,0,3] rfl).left (A:=[_,_,_,_])
 have qN:Nt w11 (qz.to kq) q':=b3.tail.head
 have zN:Nt w11 z Z:=b3.head
 have hUdiv:Uj=q'*V+(uv-qv):=by
  have:=Nat.div_add_mod Uj V
  rw [←hr,←hq,Nat.mul_comm (Uj/V) V,this]
 have hUval:U=(Z+q')*V+(uv-qv):=by
  rw [hli.val,Nat.add_mul]; omega
 have hrb:uv-qv<V:=by rw [←hr]; exact Nat.mod_lt _ (by have:=cx.top; have:0<BB^(n-1)*H63:=Nat.mul_pos (BBpow_pos _) (by decide); omega)
 obtain ⟨g1,g2⟩:=divmod_of hUval hrb
 have hZb:Z+q'<BB^z.l:=cx.quo (by rw [hUval]; exact Nat.le_add_right _ _)
 refine normB qN fun kk hkk nk=>⟨_,_,_,rfl,?_⟩
 have hkz:((qz.to kq).to kk).l≤z.l-0:=nk.nm _ (by rw [Nat.sub_zero]; omega)
 have ad:=add_up (x:=(qz.to kq).to kk) (n:=0) b3 (Nat.zero_le _) (cut_lo hkk) nk.toNt hkz (by rw [Nat.pow_zero,Nat.one_mul]; exact hZb) (Q:=fun e' w'=>e'=.returned undef∧Bank w' (nl z (Z+BB^0*q') :: nl (qz.to kq) q' :: [nl u (uv-qv),stk K7])∧Chg w11 w' (wds z)) fun w' h1 h2=>⟨rfl,h1,h2⟩
 rw [zN.toSt.sub0] at ad
 refine ad.mono ?_
 rintro e' w12 ⟨rfl,b4,c12⟩
 rw [Nat.pow_zero,Nat.one_mul] at b4
 have hk7:StkAt w12 K7:=b4.tail.tail.tail.head
 have u12:Nt w12 u (uv-qv):=b4.tail.tail.head
 have dj1:Dj (wds u) K7.free:=b4.tail.tail.hdj (b:=stk K7) (by simp)
 have dj2:Dj (wds z) K7.free:=b4.hdj (b:=stk K7) (by simp)
 have hnx0:Nxt w0 K K7:=hli.nx.trans hnx hli.ch.size
 have ch12:Chg w w12 (un (un (wds z) (wds u)) (un (wds qz) K'.free)):=(((chT.via c10 fun _ _ _ h=>h.elim).via c11 fun b i _ hm=>.inl (.inr hm)).via c12 fun b i _ hm=>.inl (.inl hm))
 have ch0:Chg w0 w12 (un (un (wds z) (wds u)) K.free):=hli.ch.via ch12 fun b i hb hm=>by
  rcases hm with hm | hm | hm
  ·exact .inl hm
  ·exact .inr (hqK b i hb (wds_fp hli.sq.lc b i hm))
  ·exact .inr (hli.nx.free hb hm)
 refine ⟨rfl,fun B8=>retR0n (K:=K7) (n:=K.s.l) hd hk7 hnx0.l fun w13 hk13 c13=>q w13 _ hk13 (hnx0.cut' _ (Nat.le_refl _)) rfl ?_ ?_ (ch0.via c13 fun b i hb hm=>.inr (hnx0.free hb hm))⟩
 ·rw [g1]; exact c13.nt b4.head fun i hi hm=>dj2 _ _ ⟨rfl,by omega,by omega⟩ hm
 ·rw [g2]; exact c13.nt u12 fun i hi hm=>dj1 _ _ ⟨rfl,by omega,by omega⟩ hm
theorem fin171 (cx:Ctx z u vv qz U V n B m s dp) (hli:LI w0 K z u vv qz U V n lq j w K' Z Uj) (hj:j≤B) (hjm:j≤m) (hlq:lq+16*(n-s)≤549755813888) (lvl:K.s.l≤lq) (hqK:∀ b i,b<w0.heap.size→fp qz b i→K.free b i) (hg:Glb w0) {e:Env}
  (ha:agree e (F171.l1 z.a z.l z.c K.a u.a u.l u.c vv.a vv.l vv.c dp n B qz.a qz.l qz.c)) (hd:e.defers=[Dr K.a (K.s.l:Int)]) {R:Value→World→Prop}
  (q:∀ w' Kn,StkAt w' Kn→Nxt w0 K Kn→Kn.s.l=K.s.l→Nt w' z (U/V)→Nt w' u (U%V)→Chg w0 w' (un (un (wds z) (wds u)) K.free)→R undef w') :
  W Tryz.prog 297 F171.p1 e w (retK Tryz.prog [] R):=by
 have hvl:=cx.vl; have hul:=cx.ul; have hB:=cx.hB; have hs:=cx.hs; have n40:=cx.n40; have nM:=cx.nM; have uM:=cx.uM; have zM:=cx.zM; have hql:=cx.ql; have hqc:=cx.qc; have mz:=cx.mz; have hdp:=cx.dp0
 have b:=hli.bank
 have uN:Nt w u Uj:=b.tail.tail.tail.head
 have vN:Nt w vv V:=b.tail.tail.tail.tail.head
 have huc:=uN.lc
 have hvc:=vN.lc
 have hKa:K'.a=K.a:=by unfold SK.a; rw [hli.nx.p]
 obtain ⟨w1,r1,b1,c1⟩:=clearB (show Bank w (hole (wds qz) :: [stk K',nl z Z,nl u Uj,nl vv V]) from b.pick 5 [1,0,2,3,4] rfl) hli.sq (fun _ _ h=>h)
 have cd1:Chg w1 w1.drew none2:=Chg.drew0 w1 _
 have hUjb:Uj<BB^(n+B):=lt_pow_of_le hli.lt (by omega)
 have b4:Bank w1.drew (nl u Uj :: [stk K',nl qz 0,nl z Z,nl vv V]):=(b1.none cd1).pick 5 [3,1,0,2,4] rfl
 have b5:=b4.split s (by omega)
 generalize hW0:Uj%BB^s=W0 at b5
 generalize hW1:Uj/BB^s=W1 at b5
 have hWs:W0+BB^s*W1=Uj:=by rw [←hW0,←hW1]; exact Nat.mod_add_div _ _
 have hW0b:W0<BB^s:=by rw [←hW0]; exact Nat.mod_lt _ (BBpow_pos _)
 have hW1j:W1<BB^(n-s+j):=by
  rw [←hW1,Nat.div_lt_iff_lt_mul (BBpow_pos _),←Nat.pow_add,show n-s+j+s=n+j by omega]; exact hli.lt
 have hW1b:W1<BB^(n-s+B):=lt_pow_of_le hW1j (by omega)
 have b6:Bank w1.drew (nl (u.sub s u.l) W1 :: [nl (u.to s) W0,stk K',nl qz 0,nl z Z,nl vv V]):=b5.pick 6 [1,0,2,3,4,5] rfl
 refine F171.t1 z.a z.l z.c K.a u.a u.l u.c vv.a vv.l vv.c dp n B qz.a qz.l qz.c ha fun B1=>?_
 unfold F171.v1
 rw [show ((B:Int)-1)=((s:Nat):Int) by omega,show (3*(n:Int))=((3*n:Nat):Int) by omega]
 refine ⟨by unfold inI64; omega,w1,r1,s,rfl,by omega,?_⟩
 have uhN:Nt w1.drew (u.sub s u.l) W1:=b6.head
 refine normB (s:=u.sub s u.l) uhN fun ku hku nu=>⟨_,_,_,rfl,s,rfl,by omega,by unfold inI64; omega,?_⟩
 have hku':ku≤u.l-s:=hku
 have b7:=b6.top0 hku nu.lt
 have b8:Bank w1.drew (nl vv V :: [stk K',nl qz 0,nl ((u.sub s u.l).to ku) W1,nl ((u.sub s u.l).sub ku (u.sub s u.l).l) 0,nl (u.to s) W0,nl z Z]):=b7.pick 7 [6,3,4,0,1,2,5] rfl
 have b9:=b8.split s (by omega)
 generalize hV0:V%BB^s=V0 at b9
 have hV0b:V0<BB^s:=by rw [←hV0]; exact Nat.mod_lt _ (BBpow_pos _)
 obtain ⟨V1,hV1⟩:∃ V1,V1=V/BB^s:=⟨_,rfl⟩
 rw [←hV1] at b9
 have hVs:V0+BB^s*V1=V:=by rw [←hV0,hV1]; exact Nat.mod_add_div _ _
 have hv1:=cx.v1
 have htop1:=cx.top1
 obtain ⟨hgq,hgU⟩:=cx.gs hW1b
 have hsv:=cx.sv
 rw [←hV1] at hv1 htop1 hgq hsv
 have b10:Bank w1.drew (stk K' :: nl qz 0 :: nl ((u.sub s u.l).to ku) W1 :: nl (vv.sub s vv.l) V1 :: [nl (vv.to s) V0,nl ((u.sub s u.l).sub ku (u.sub s u.l).l) 0,nl (u.to s) W0,nl z Z]):=b9.pick 8 [2,3,4,1,0,5,6,7] rfl
 have chA:Chg w w1.drew (un (un (wds z) (wds u)) (un (wds qz) K'.free)):=((c1.mono fun b i _ hm=>.inr (.inl hm)).trans' (cd1.none _))
 have toT7:∀ {wx:World},Chg w wx (un (un (wds z) (wds u)) (un (wds qz) K'.free))→Chg w0 wx (un (un (wds z) (wds u)) K.free):=fun h=>hli.ch.via h fun b i hb hm=>by
  rcases hm with hm | hm | hm
  ·exact .inl hm
  ·exact .inr (hqK b i hb (wds_fp hli.sq.lc b i hm))
  ·exact .inr (hli.nx.free hb hm)
 have ov1:Off K' (vv.sub s vv.l):=fun i h1 h2=>hli.ov i (by have:vv.o+s≤i:=h1; omega) (by have:i<vv.o+s+(vv.c-s):=h2; omega)
 rw [←hKa]
 have ihc:=cx.ih (n-s) (by omega) w1.drew K' qz ((u.sub s u.l).to ku) (vv.sub s vv.l) W1 V1 _ (dp+1) (by show vv.l-s=n-s; omega) b10 (by omega) (by rw [hV1]; exact cx.top1) (by omega) (by omega) (by show ku≤_; omega) (by rw [hql]; exact hgU)
  (by
   rcases cx.hP with h | h
   ·exact .inl (by omega)
   ·exact .inr (lt_pow_of_le hW1j (by omega))) ov1 (by have:=hli.lev; omega) (by omega) (by omega) ((toT7 chA).glb hg)
 refine ihc _ fun K5 w5 b11 hKa5 hl5 hnx5 c5=>⟨rfl,?_⟩
 have qzN:Nt w5 qz (W1/V1):=b11.tail.head
 refine normB qzN fun kq hkq nq=>⟨_,_,_,rfl,?_⟩
 have hs1:w.heap.size≤w1.drew.heap.size:=chA.size
 have hnx5':Nxt w K' K5:=hnx5.mono hs1
 have hlev:=hli.lev
 rw [←hKa5]
 refine ⟨by unfold inI64; omega,takeB b11 (by omega) (by omega) fun t K6 w6 htl b12 hKa6 hK6l hnx6 htf c6=>⟨_,_,_,rfl,?_⟩⟩
 have vN1:Nt w1.drew vv V:=(b8.head:Nt w1.drew vv V)
 have vS5:St w5 vv:=(c5.st vN1.toSt)
 have sqz:SpC t qz:=spcT htf (hli.oq.nxt hnx5' fun h=>hli.sq.blk h) qzN.toSt
 have svv:SpC t vv:=spcT htf (hli.ov.nxt hnx5' fun h=>vN.toSt.blk h) vS5
 obtain ⟨w7,r7,b13,c7⟩:=clearN (show Bank w6 (sto t :: stk K6 :: nl qz (W1/V1) :: nl ((u.sub s u.l).to ku) (W1%V1) :: nl (vv.sub s vv.l) V1 :: [nl (vv.to s) V0,nl ((u.sub s u.l).sub ku (u.sub s u.l).l) 0,nl (u.to s) W0,nl z Z]) from b12.perm (List.Perm.swap _ _ _))
 have b14:Bank w7 (nl qz (W1/V1) :: [stk K6,num t 0,nl (vv.to s) V0,nl ((u.sub s u.l).to ku) (W1%V1),nl (vv.sub s vv.l) V1,nl ((u.sub s u.l).sub ku (u.sub s u.l).l) 0,nl (u.to s) W0,nl z Z]):=b13.pick 9 [2,1,0,5,3,4,6,7,8] rfl
 have b15:=b14.top0 hkq nq.lt
 have b16:Bank w7 (stk K6 :: num t 0 :: nl (qz.to kq) (W1/V1) :: nl (vv.to s) V0 :: [nl ((u.sub s u.l).to ku) (W1%V1),nl (vv.sub s vv.l) V1,nl ((u.sub s u.l).sub ku (u.sub s u.l).l) 0,nl (u.to s) W0,nl z Z]):=b15.pick 10 [2,3,0,4,5,6,7,8,9] rfl
 have hsl:s≤u.l:=by omega
 have mid_u:∀ b i,wds ((u.sub s u.l).to ku) b i→wds u b i:=fun b i hm=>cut_hi hsl b i (cut_lo hku b i hm)
 have chB:Chg w w7 (un (un (wds z) (wds u)) (un (wds qz) K'.free)):=((chA.via c5 fun b i hb hm=>by
  rcases hm with (hm | hm) | hm
  ·exact .inr (.inl hm)
  ·exact .inl (.inr (mid_u b i hm))
  ·exact .inr (.inr hm)).via c6 fun b i hb hm=>.inr (.inr (hnx5'.free hb hm))).via c7 fun b i hb hm=>.inr (.inr (hnx5'.free hb (htf b i (Nat.lt_of_lt_of_le hb (Nat.le_trans hs1 c5.size)) (wds_fp ((b12.tail.head:St w6 t)).lc b i hm))))
 have hnx6':Nxt w K' K6:=hnx5'.trans hnx6 (Nat.le_trans hs1 c5.size)
 have hqW:W1/V1*(BB^s*V1)≤Uj:=by
  rw [←hWs,Nat.mul_left_comm]
  have:=Nat.div_mul_le_self W1 V1
  have:=Nat.mul_le_mul_left (BB^s) this
  omega
 have hkj:kq≤j+1:=nq.nm _ (by
  have hp:0<H63:=by decide
  have h0:BB^(n-s-1)≤BB^(n-s-1)*H63:=Nat.le_mul_of_pos_right (BB^(n-s-1)) hp
  have h2:BB^(n-s-1)≤V1:=Nat.le_trans h0 htop1
  have h1:W1/V1*BB^(n-s-1)≤W1:=Nat.le_trans (Nat.mul_le_mul_left (W1/V1) h2) (Nat.div_mul_le_self W1 V1)
  have e1:BB^(n-s+j)=BB^(j+1)*BB^(n-s-1):=by rw [←Nat.pow_add,show j+1+(n-s-1)=n-s+j by omega]
  rw [e1] at hW1j
  exact Nat.lt_of_mul_lt_mul_right (Nat.lt_of_le_of_lt h1 hW1j))
 rw [←hKa6]
 refine ⟨w7,r7,s,rfl,by omega,mulB b16 nq.one (fun h=>by have:s=1:=h; omega) sqz svv (by show kq≤_; omega) (by show s≤_; omega) (by
   show kq<40∨s<40∨(s≤78∧kq≤s+2)
   rcases cx.hP with h | h <;> omega) (by show kq+s≤t.l; omega) (by omega) ((toT7 chB).glb hg) fun k K7 w8 hk nk b17 hKa7 hl7 hnx7 c8=>⟨_,_,_,rfl,fun B2=>?_⟩⟩
 have hk:k≤kq+s:=hk
 have ht7:∀ b i,b<w.heap.size→fp t b i→K'.free b i:=fun b i hb hm=>hnx5'.free hb (htf b i (Nat.lt_of_lt_of_le hb (Nat.le_trans hs1 c5.size)) hm)
 have chC:Chg w w8 (un (un (wds z) (wds u)) (un (wds qz) K'.free)):=chB.via c8 fun b i hb hm=>by
  rcases hm with hm | hm
  ·exact .inr (.inr (ht7 b i hb hm))
  ·exact .inr (.inr (hnx6'.free hb hm))
 have hnx7':Nxt w K' K7:=hnx6'.trans hnx7 chB.size
 have b18:Bank w8 (nl ((u.sub s u.l).to ku) (W1%V1) :: nl ((u.sub s u.l).sub ku (u.sub s u.l).l) 0 :: [nl (u.to s) W0,stk K7,num (t.to (kq+s)) (W1/V1*V0),nl (qz.to kq) (W1/V1),nl (vv.to s) V0,nl (vv.sub s vv.l) V1,nl z Z]):=b17.pick 9 [4,6,7,0,1,2,3,5,8] rfl
 have b19:Bank w8 (nl (u.to s) W0 :: nl (u.sub s u.l) (W1%V1) :: _):=(b18.untop0 hku).perm (List.Perm.swap _ _ _)
 have b20:=b19.join hsl
 have b21:Bank w8 (num (t.to (kq+s)) (W1/V1*V0) :: [nl (qz.to kq) (W1/V1),nl (vv.to s) V0,nl (vv.sub s vv.l) V1,nl u (W0+BB^s*(W1%V1)),stk K7,nl z Z]):=b20.pick 7 [2,3,4,5,0,1,6] rfl
 have tN:Nt w8 (t.to (kq+s)) (W1/V1*V0):=b21.head
 have hMN:max k s≤kq+s:=by omega
 have hfM:∀ b i,wds (t.to (max k s)) b i→fp (t.to (kq+s)) b i:=fun b i hm=>⟨hm.1,hm.2.1,by have h1:i<t.o+max k s:=hm.2.2; have h2:kq+s≤t.c:=tN.lc; show i<t.o+t.c; omega⟩
 have b22:=b21.map1 (a':=nl (t.to (max k s)) (W1/V1*V0)) (tN.low (max k s) hMN (lt_pow_of_le nk.lt (Nat.le_max_left k s))) hfM
 have uN8:Nt w8 u (W0+BB^s*(W1%V1)):=b20.head
 have st1:St1 w8 (qz.to kq) t vv u s k (max k s) V0 V1 W0 W1 [stk K7,nl z Z]:={
  bank:=b22.pick 7 [1,0,2,3,4,5,6] rfl
  nz:=nk
  hM:=rfl
  hs:=by omega
  v0:=hV0b
  w0:=hW0b
  v1:=hv1
  hq:=hgq
  top:=by rw [hvl]; exact Nat.le_trans (Nat.le_mul_of_pos_right _ (by decide)) hsv
  hk:=by omega
  hW:=by rw [hWs]; exact uN.lt
  vl:=by omega }
 have hK7a:K7.a=K.a:=by rw [hKa7,hKa6,hKa5,hKa]
 refine loop5 (uu:=u) st1 ⟨rfl,rfl,rfl,rfl,rfl,rfl,rfl,trivial⟩ fun e' w9 ha' hd' h2=>?_
 have chD:Chg w w9 (un (un (wds z) (wds u)) (un (wds qz) K'.free)):=by
  obtain ⟨_,_,_,_,_,_,_,_,c9⟩:=h2
  refine chC.via c9 fun b i hb hm=>?_
  rcases hm with hm | hm | hm
  ·exact .inr (.inl (cut_lo hkq b i hm))
  ·exact .inr (.inr (ht7 b i hb ⟨hm.1,hm.2.1,by have h1:i<t.o+max k s:=hm.2.2; have:kq+s≤t.c:=tN.lc; omega⟩))
  ·exact .inl (.inr hm)
 rw [hWs,hVs] at h2
 have hd0:e'.defers=e.defers:=hd'
 exact tail4 cx hli hqK lvl h2 (by omega) hnx7' chD ha' (by rw [hd0,hd,hK7a]) q
end
end Go.Proofs.YtlkjiiibmfpbcaaGreatDoor
