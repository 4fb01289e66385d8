/- Numbers as digits of base 65536 in slices of int; one digit appended or stored; trim, Len, Bits, Small, Of. Condition: lengths up to a million. -/
import Derived.Laws.BytesArg
import Derived.Test.YtlkjiiibmfpbcaaGreatDoorS24
import Derived.Test.YtlkjiiibmfpbcaaGreatDoorS35
import Derived.Test.YtlkjiiibmfpbcaaGreatDoorS29
namespace Go.Proofs.YtlkjiiibmfpbcaaGreatDoor
open Go
theorem notP {x:Nat} (h:¬((x:Nat):Int)>0):x=0:=by omega
theorem isP {x:Nat} (h:((x:Nat):Int)>0):x≠0:=by omega
theorem hpos (n:Nat):0<65536^n:=Nat.pow_pos (by omega)
def hg (v i:Nat):Nat:=v/65536^i%65536
theorem hg_lt (v i:Nat):hg v i<65536:=Nat.mod_lt _ (by omega)
theorem hmod_succ (v i:Nat):v%65536^(i+1)=v%65536^i+65536^i*hg v i:=by
 unfold hg
 rw [Nat.pow_succ,Nat.mod_mul]
theorem hg_mod (v n i:Nat) (h:i<n):hg (v%65536^n) i=hg v i:=by
 unfold hg
 obtain ⟨d,rfl⟩:∃ d,n=i+1+d:=⟨n-(i+1),by omega⟩
 rw [show i+1+d=i+(1+d) by omega,Nat.pow_add,Nat.mod_mul_right_div_self]
 rw [show 1+d=d+1 by omega,Nat.pow_succ,Nat.mul_comm (65536^d) 65536,Nat.mod_mul_right_mod]
theorem hg_add_lo (v u n i:Nat) (h:i<n):hg (v+65536^n*u) i=hg v i:=by
 rw [←hg_mod (v+65536^n*u) n i h,Nat.add_mul_mod_self_left,hg_mod v n i h]
theorem hg_add_hi (v u n i:Nat) (h:v<65536^n):hg (v+65536^n*u) (n+i)=hg u i:=by
 unfold hg
 rw [Nat.pow_add,←Nat.div_div_eq_div_mul,Nat.add_mul_div_left _ _ (hpos n),Nat.div_eq_of_lt h,Nat.zero_add]
theorem hg_zero (i:Nat):hg 0 i=0:=by simp [hg]
theorem hg_of_lt (v i:Nat) (h:v<65536^i):hg v i=0:=by simp [hg,Nat.div_eq_of_lt h]
theorem hg_self (v:Nat) (h:v<65536):hg v 0=v:=by simp [hg,Nat.mod_eq_of_lt h]
theorem hdlt {Z k d:Nat} (hZ:Z<65536^k) (hd:d<65536):Z+65536^k*d<65536^(k+1):=by
 have:65536^k*d+65536^k≤65536^(k+1):=by rw [Nat.pow_succ,←Nat.mul_succ]; exact Nat.mul_le_mul_left _ hd
 omega
def setH (v k d:Nat):Nat:=v%65536^k+65536^k*(d+65536^1*(v/65536^(k+1)))
theorem setH_add (v k d:Nat):setH v k d+65536^k*hg v k=v+65536^k*d:=by
 have h1:=Nat.mod_add_div v (65536^(k+1))
 rw [hmod_succ] at h1
 unfold setH
 rw [Nat.mul_add,←Nat.mul_assoc,←Nat.pow_add]
 omega
theorem hg_setH (v k d i:Nat) (hd:d<65536):hg (setH v k d) i=if i=k then d else hg v i:=by
 have hm:=Nat.mod_lt v (hpos k)
 unfold setH
 by_cases h1:i<k
 ·rw [hg_add_lo _ _ _ _ h1,hg_mod _ _ _ h1,if_neg (by omega)]
 ·obtain ⟨j,rfl⟩:∃ j,i=k+j:=⟨i-k,by omega⟩
  rw [hg_add_hi _ _ _ _ hm]
  cases j with
  | zero=>rw [hg_add_lo _ _ _ _ (by omega),hg_self d hd,if_pos (by omega)]
  | succ j =>
   rw [show j+1=1+j by omega,hg_add_hi _ _ _ _ (by omega),if_neg (by omega)]
   unfold hg
   rw [Nat.div_div_eq_div_mul,←Nat.pow_add,show k+1+j=k+(1+j) by omega]
theorem setH_lt {v k d n:Nat} (hv:v<65536^n) (hk:k<n) (hd:d<65536):setH v k d<65536^n:=by
 have hm:=Nat.mod_lt v (hpos k)
 have h2:v/65536^(k+1)<65536^(n-(k+1)):=by rw [Nat.div_lt_iff_lt_mul (hpos _),←Nat.pow_add,Nat.sub_add_cancel (by omega)]; exact hv
 have h3:setH v k d=(v%65536^k+65536^k*d)+65536^(k+1)*(v/65536^(k+1)):=by
  unfold setH
  rw [Nat.mul_add,←Nat.mul_assoc,←Nat.pow_add]; omega
 have h4:65536^n=65536^(k+1)*65536^(n-(k+1)):=by rw [←Nat.pow_add]; congr 1; omega
 have h5:65536^(k+1)*(v/65536^(k+1))+65536^(k+1)≤65536^(k+1)*65536^(n-(k+1)):=by rw [←Nat.mul_succ]; exact Nat.mul_le_mul_left _ h2
 have h6:=hdlt hm hd
 rw [h3,h4]
 omega
def Hc (w:World) (b o n v:Nat):Prop:=∀ i,i<n→w.cell? ⟨b,o+i,none⟩=some (.int .i64 (hg v i:Int))
structure Rh (w:World) (s:Sl) (v:Nat):Prop where
 lc:s.l≤s.c
 at_:s.l≠0→s.a=some ⟨s.b,s.o,none⟩
 hc:Hc w s.b s.o s.l v
 lt:v<65536^s.l
structure Hn (w:World) (s:Sl) (v:Nat):Prop extends Rh w s v where
 nm:∀ k,v<65536^k→s.l≤k
structure Ho (w0 w:World) (s:Sl) (v:Nat):Prop extends St w s where
 hc:Hc w s.b s.o s.l v
 lt:v<65536^s.l
 nw:s.c≠0→w0.heap.size≤s.b
 ch:Chg w0 w none2
section
variable {w0 w w':World} {s:Sl} {v:Nat}
theorem Hc.keep {b o n:Nat} (h:Hc w b o n v) (c:Chg w w' none2):Hc w' b o n v:=fun i hi=>by
 have:=h i hi
 rw [c.cell (lt_of_cell this) (fun h=>h)]; exact this
theorem Rh.keep (h:Rh w s v) (c:Chg w w' none2):Rh w' s v:=⟨h.lc,h.at_,h.hc.keep c,h.lt⟩
theorem Hn.keep (h:Hn w s v) (c:Chg w w' none2):Hn w' s v:=⟨h.toRh.keep c,h.nm⟩
theorem Ho.rh (h:Ho w0 w s v):Rh w s v:=⟨h.lc,fun h0=>h.at_ (by have:=h.lc; omega),h.hc,h.lt⟩
theorem Ho.keep (h:Ho w0 w s v) (c:Chg w w' none2):Ho w0 w' s v:=⟨c.st h.toSt,h.hc.keep c,h.lt,h.nw,h.ch.trans' c⟩
theorem Hn.le (h:Hn w s v) (h0:s.l≠0):65536^(s.l-1)≤v:=by
 rcases Nat.lt_or_ge v (65536^(s.l-1)) with h1 | h1
 ·have:=h.nm _ h1; omega
 ·exact h1
theorem Hn.zero_iff (h:Hn w s v):s.l=0↔v=0 :=
 ⟨fun h0=>by have:=h.lt; rw [h0] at this; simpa using this,fun h0=>by have:=h.nm 0 (by subst h0; simp); omega⟩
theorem rdH {i:Int} {k d:Nat} {Q:Nat→Nat→Nat→Int→Prop} (ha:s.a=some ⟨s.b,s.o,none⟩) (hi:i=(k:Int)) (hk:k<s.l) (hc:w.cell? ⟨s.b,s.o+k,none⟩=some (.int .i64 (d:Int)))
  (q:Q s.b s.o k d):nc s.a fun b o=>∃ k':Nat,i=(k':Int)∧k'<s.l∧∃ x,w.cell? ⟨b,o+k',none⟩=some (.int .i64 x)∧Q b o k' x :=
 ⟨s.b,s.o,ha,k,hi,hk,_,hc,q⟩
theorem rdR {i:Int} {k:Nat} {Q:Nat→Nat→Nat→Int→Prop} (h:Rh w s v) (hi:i=(k:Int)) (hk:k<s.l)
  (q:Q s.b s.o k (hg v k:Int)):nc s.a fun b o=>∃ k':Nat,i=(k':Int)∧k'<s.l∧∃ x,w.cell? ⟨b,o+k',none⟩=some (.int .i64 x)∧Q b o k' x :=
 rdH (h.at_ (by omega)) hi hk (h.hc k hk) q
theorem Ho.put {i d:Nat} (h:Ho w0 w s v) (hi:i<s.l) (hd:d<65536):Ho w0 (w.setCell ⟨s.b,s.o+i,none⟩ (.int .i64 (d:Int))) s (setH v i d):=by
 have hlc:=h.lc
 have hc:Chg w (w.setCell ⟨s.b,s.o+i,none⟩ (.int .i64 (d:Int))) (inR s.b (s.o+i) (s.o+i+1)):=Chg.setCell (h.pl (by omega)) _ ⟨rfl,by omega,by omega⟩
 refine ⟨hc.st h.toSt,fun j hj=>?_,setH_lt h.lt hi hd,h.nw,h.ch.trans hc (fun _ _ _ h=>h) fun b j hb hm=>?_⟩
 ·rw [hg_setH _ _ _ _ hd]
  by_cases hji:j=i
  ·subst hji
   rw [if_pos rfl]
   exact World.cell?_setCell_same _ _ _ (h.hc j hj)
  ·rw [if_neg hji,hc.cell (lt_of_cell (h.hc j hj)) (fun hm=>by have:=hm.2.1; have:=hm.2.2; omega)]
   exact h.hc j hj
 ·have:=h.nw (by omega)
  have:=hm.1; omega
end
theorem cell26:Cell1 26 3 (.int .i64 0):=cell1_of Tryz.underlying26 (by kernel_rfl) rfl
theorem Ho.empty {w0 w:World} (hg:GB≤w0.heap.size) (c:Chg w0 w none2) :
  ∃ (s:Sl) (w':World),Sem.run Tryz.prog (Instr.buildSlice 26 0 #[]) w=.ok s.v w'∧s.l=0∧Ho w0 w' s 0∧Chg w w' none2:=by
 have c1:Chg w (w.alloc (.cells #[] 3)) none2:=Chg.alloc _ _ (fun a=>RowKit.frozen?_alloc_cells _ _ _ _) _
 refine ⟨⟨some ⟨w.heap.size,0,none⟩,0,0,w.heap.size,0⟩,_,build0e cell26 w,rfl,⟨⟨Nat.le_refl _,fun h=>absurd rfl h,Wr.zero,fun h=>absurd rfl h,Nat.zero_le _,Nat.le_trans hg (c.trans' c1).size⟩,fun i hi=>?_,hpos 0,fun h=>absurd rfl h,c.trans' c1⟩,c1⟩
 have hi:i<0:=hi
 omega
theorem Ho.push {w0 w:World} {out:Sl} {V d:Nat} {z:Int} (h:Ho w0 w out V) (hz:z=(d:Int)) (hd:d<65536) (hl:out.l≤1000000) :
  ∃ w1,∃ a l c,Sem.run Tryz.prog (Instr.buildSlice 26 1 #[(0,.int .i64 z)]) w=.ok (.slice a l c) w1∧∃ (r:Sl) (w':World),Sem.run Tryz.prog (builtin .append #[26,26] 26 #[false,false] #[out.v,.slice a l c]) w1=.ok (.value r.v) w' ∧
   r.l=out.l+1∧Ho w0 w' r (V+65536^out.l*d):=by
 subst hz
 have c1:Chg w (w.alloc (.cells #[.int .i64 (d:Int)] 3)) none2:=Chg.alloc _ _ (fun a=>RowKit.frozen?_alloc_cells _ _ _ _) _
 have hh:(w.alloc (.cells #[.int .i64 (d:Int)] 3)).heap[w.heap.size]?=some (.cells #[.int .i64 (d:Int)] 3 (0,0)):=heap_alloc_new ..
 have h1:=h.keep c1
 obtain ⟨r,w',r1,r2,r3,r4,r5,r6,r7⟩:=app1 cell26 out (.int .i64 (d:Int)) _ h1.toSt ⟨w.heap.size,0,none⟩ 1 (by rw [cell_eq,hh]; rfl) rfl (by omega) (fun i=>.int .i64 (hg V i:Int)) h1.hc
 refine ⟨_,_,_,_,build1 cell26 w _ rfl,r,w',r1,r2,r3,fun i hi=>?_,by rw [r2]; exact hdlt h.lt hd,fun h0=>?_,h1.ch.trans r7 (fun _ _ _ h=>h) fun b i hb hm=>?_⟩
 ·rw [r4 i (by omega)]
  by_cases hi':i=out.l
  ·subst hi'
   rw [setF_self,show hg (V+65536^out.l*d) out.l=d by have:=hg_add_hi V d out.l 0 h.lt; rw [Nat.add_zero] at this; rw [this,hg_self d hd]]
  ·rw [setF_ne _ _ hi',hg_add_lo _ _ _ _ (by omega)]
 ·rcases r5 with ⟨_,e2,e3,_⟩ | hf
  ·rw [e3]; exact h.nw (by omega)
  ·exact Nat.le_trans h1.ch.size hf
 ·have:=h.nw (by have:=hm.2.1; have:=hm.2.2; omega)
  have:=hm.1; omega
theorem Ho.make {w0 w:World} (hg:GB≤w0.heap.size) (c:Chg w0 w none2) (n:Nat) (hn:n≤281474976710656) :
  Ho w0 (w.alloc (.cells (madeCells #[(Value.int IntKind.i64 0)] n) 3)) ⟨some ⟨w.heap.size,0,none⟩,n,n,w.heap.size,0⟩ 0:=by
 have c1:Chg w (w.alloc (.cells (madeCells #[(Value.int IntKind.i64 0)] n) 3)) none2:=Chg.alloc _ _ (fun a=>RowKit.frozen?_alloc_cells _ _ _ _) _
 have hst:=row_st w (Nat.le_trans hg c.size) (madeCells #[(Value.int IntKind.i64 0)] n) 3 n (by rw [size_madeCells]; exact Nat.le_refl _) (by rw [size_madeCells]; omega)
 rw [size_madeCells] at hst
 refine ⟨hst,fun i hi=>?_,hpos _,fun _=>c.size,c.trans' c1⟩
 have hi:i<n:=hi
 have hh:(w.alloc (.cells (madeCells #[(Value.int IntKind.i64 0)] n) 3)).heap[w.heap.size]?=some (.cells (madeCells #[(Value.int IntKind.i64 0)] n) 3 (0,0)):=heap_alloc_new ..
 rw [cell_eq]
 show (match (w.alloc (.cells (madeCells #[(Value.int IntKind.i64 0)] n) 3)).heap[w.heap.size]? with
  | some (.cells c _ _)=>c[0+i]?
  | _=>none)=_
 rw [hh,hg_zero]
 simp [madeCells,hi,Nat.mod_one]
theorem c16b (a:Sl) (A:Nat) (w:World) (ha:Rh w a A) (hl:a.l≤1000000) :
  Calls Tryz.prog 16 #[a.v] w fun e w'=>∃ r:Sl,e=.returned r.v∧Hn w' r A∧r.b=a.b∧w'=w:=by
 refine (F16.call a.a a.l a.c w (fun v w'=>∃ r:Sl,v=r.v∧Hn w' r A∧r.b=a.b∧w'=w) fun B B1=>?_).mono fun e w' ⟨v,h1,r,h2,h3⟩=>⟨r,by rw [h1,h2],h3⟩
 rw [F16.q3]
 refine W_for' (σ:=Nat) (fun k=>F16.l2 a.a k a.c) (fun k w'=>w'=w∧k≤a.l∧A<65536^k) (fun k=>k) a.l ⟨rfl,trivial⟩ ⟨rfl,Nat.le_refl _,ha.lt⟩ ?_
 rintro k B2 wr K2 ⟨hw,hk,hA⟩ hKn hKe _
 subst hw
 have hrk:Rh wr (a.to k) A:=⟨Nat.le_trans hk ha.lc,fun h0=>ha.at_ (by have:k≠0:=h0; omega),fun i hi=>ha.hc i (by have:i<k:=hi; omega),hA⟩
 have fin:∀ B',(k=0∨hg A (k-1)≠0)→K2 (.exit 0) (E (F16.l2 a.a k a.c) B' []) wr:=fun B' h=>by
  refine hKe _ _ ?_
  show W Tryz.prog 21 F16.p1 _ wr _
  refine F16.t1 a.a k a.c ⟨rfl,trivial⟩ fun B4 B5=>ret1 rfl rfl ⟨a.to k,rfl,⟨hrk,fun j hj=>?_⟩,rfl,rfl⟩
  show k≤j
  rcases h with h | h
  ·omega
  ·rcases Nat.lt_or_ge j k with h1 | h1
   ·exact absurd (hg_of_lt A (k-1) (Nat.lt_of_lt_of_le hj (Nat.pow_le_pow_right (by omega) (by omega)))) h
   ·exact h1
 refine F16.t2 a.a k a.c ⟨rfl,trivial⟩ fun B3=>bc_intro (fun hb=>?_) (fun hb B4=>?_)
 ·have h0:0<k:=by have:=dT hb; omega
  refine ⟨by unfold inI64; omega,rdR (s:=a.to k) (k:=k-1) hrk (by omega) (by show k-1<k; omega) (bc_intro (fun hb2=>?_) (fun hb2 B4=>?_))⟩
  ·have hz:hg A (k-1)=0:=by have:=eqE hb2; omega
   refine ⟨by unfold inI64; omega,k-1,by omega,by have:=ha.lc; omega,fun B5=>hKn _ _ (k-1) ⟨rfl,trivial⟩ rfl ⟨rfl,by omega,?_⟩ (by show k-1<k; omega)⟩
   have h1:=hmod_succ A (k-1)
   rw [show k-1+1=k by omega,Nat.mod_eq_of_lt hA,hz] at h1
   rw [h1]
   have:=Nat.mod_lt A (hpos (k-1))
   omega
  ·exact fin B4 (.inr fun e=>eqN hb2 (by rw [e]; rfl))
 ·exact fin B4 (.inl (by have:=dF hb; omega))
theorem c16 (a:Sl) (A:Nat) (w:World) (ha:Rh w a A) (hl:a.l≤1000000) :
  Calls Tryz.prog 16 #[a.v] w fun e w'=>∃ r:Sl,e=.returned r.v∧Hn w' r A∧w'=w :=
 (c16b a A w ha hl).mono fun _ _ ⟨r,h1,h2,_,h3⟩=>⟨r,h1,h2,h3⟩
def BitsOf (V n:Nat):Prop:=V<2^n∧(n≠0→2^(n-1)≤V)
theorem p16 (k:Nat):65536^k=2^(16*k):=by rw [Nat.pow_mul]
theorem c15 (a:Sl) (A:Nat) (w:World) (ha:Hn w a A) (hl:a.l≤1000000) :
  Calls Tryz.prog 15 #[a.v] w fun e w'=>∃ n:Nat,e=.returned (.int .i64 (n:Int))∧BitsOf A n∧n≤16*a.l∧w'=w:=by
 refine (F15.call a.a a.l a.c w (fun v w'=>∃ n:Nat,v=.int .i64 (n:Int)∧BitsOf A n∧n≤16*a.l∧w'=w) fun B=>bc_intro (fun hb B1=>?_) (fun hb=>?_)).mono fun e w' ⟨v,h1,r,h2,h3⟩=>⟨r,by rw [h1,h2],h3⟩
 ·have h0:a.l=0:=by have:=eqE hb; omega
  have hA:A=0:=ha.zero_iff.1 h0
  exact ret1 rfl rfl ⟨0,rfl,⟨by rw [hA]; exact Nat.one_pos,fun h=>absurd rfl h⟩,Nat.zero_le _,rfl⟩
 ·have h0:a.l≠0:=fun e=>eqN hb (by rw [e]; rfl)
  refine ⟨by unfold inI64; omega,by unfold inI64; omega,by unfold inI64; omega,rdR (k:=a.l-1) ha.toRh (by omega) (by omega) fun B1=>?_⟩
  have hle:=ha.le h0
  have hlt:=ha.lt
  obtain ⟨k,hk⟩:∃ k,k=a.l-1:=⟨_,rfl⟩
  rw [←hk] at hle ⊢
  rw [show a.l=k+1 by omega] at hlt ⊢
  have hd:hg A k=A/65536^k:=by
   unfold hg
   refine Nat.mod_eq_of_lt ?_
   rw [Nat.div_lt_iff_lt_mul (hpos k),Nat.mul_comm]
   rw [Nat.pow_succ] at hlt; exact hlt
  rw [F15.q3,hd]
  refine W_for' (σ:=Nat) (fun j=>F15.l2 ((16*k+j:Nat):Int) ((A/65536^k/2^j:Nat):Int)) (fun j w'=>w'=w∧j≤16∧(j≠0→0<A/65536^k/2^(j-1))) (fun j=>16-j) 0 ⟨intv (by omega),intv (by rw [Nat.pow_zero,Nat.div_one]),trivial⟩ ⟨rfl,by omega,fun h=>absurd rfl h⟩ ?_
  rintro j B2 wr K2 ⟨hw,hj,hp⟩ hKn hKe _
  subst hw
  have e1:A/65536^k/2^j=A/2^(16*k+j):=by rw [Nat.div_div_eq_div_mul,Nat.pow_add,p16]
  refine F15.t2 _ _ ⟨rfl,rfl,trivial⟩ fun B3=>bc_intro (fun hb2=>?_) (fun hb2 B4=>?_)
  ·have hpos':0<A/65536^k/2^j:=Nat.pos_of_ne_zero (isP (dT hb2))
   have hj16:j≠16:=fun e=>by
    subst e
    have:A/65536^k<65536:=by rw [Nat.div_lt_iff_lt_mul (hpos k),Nat.mul_comm]; rw [Nat.pow_succ] at hlt; exact hlt
    rw [Nat.div_eq_of_lt (by omega)] at hpos'; omega
   have hlt2:A/65536^k<65536:=by rw [Nat.div_lt_iff_lt_mul (hpos k),Nat.mul_comm]; rw [Nat.pow_succ] at hlt; exact hlt
   have hle2:=Nat.div_le_self (A/65536^k) (2^j)
   refine ⟨by unfold inI64; omega,by decide,fun B4=>hKn _ _ (j+1) ⟨intv (by omega),intv ?_,trivial⟩ rfl ⟨rfl,by omega,fun _=>by rw [Nat.add_sub_cancel]; exact hpos'⟩ (by show 16-(j+1)<16-j; omega)⟩
   show iQuo .i64 _ ((2:Nat):Int)=_
   rw [iQuoI _ _ (by omega),Nat.pow_succ,Nat.div_div_eq_div_mul (A/65536^k) (2^j) 2]
  ·have hz:A/65536^k/2^j=0:=notP (dF hb2)
   refine hKe _ _ ?_
   show W Tryz.prog 25 F15.p1 _ wr _
   refine F15.t1 _ ⟨rfl,trivial⟩ fun B4 B5=>ret1 rfl rfl ⟨16*k+j,rfl,⟨?_,fun hne=>?_⟩,by omega,rfl⟩
   ·rw [e1] at hz
    have:=Nat.div_add_mod A (2^(16*k+j))
    rw [hz] at this
    have:=Nat.mod_lt A (Nat.two_pow_pos (16*k+j))
    omega
   ·have hj0:j≠0:=fun e=>by
     rw [e,Nat.pow_zero,Nat.div_one] at hz
     have:=(Nat.div_eq_zero_iff_lt (hpos k)).1 hz
     omega
    have h3:=hp hj0
    rw [Nat.div_div_eq_div_mul,p16,←Nat.pow_add] at h3
    rw [show 16*k+j-1=16*k+(j-1) by omega]
    rcases Nat.lt_or_ge A (2^(16*k+(j-1))) with h4 | h4
    ·rw [Nat.div_eq_of_lt h4] at h3; omega
    ·exact h4
theorem c7 (a:Sl) (A:Nat) (w:World) (ha:Hn w a A) (hl:a.l≤1000000) :
  Calls Tryz.prog 7 #[a.v] w fun e w'=>∃ n:Nat,e=.returned (.int .i64 (n:Int))∧BitsOf A n∧n≤16*a.l∧w'=w:=by
 refine (F7.call a.a a.l a.c w (fun v w'=>∃ n:Nat,v=.int .i64 (n:Int)∧BitsOf A n∧n≤16*a.l∧w'=w) fun B=>?_).mono fun e w' ⟨v,h1,r,h2,h3⟩=>⟨r,by rw [h1,h2],h3⟩
 refine (c15 a A w ha hl).mono ?_
 rintro e1 w1 ⟨n,rfl,h⟩
 exact ⟨_,rfl,fun B2=>ret1 rfl rfl ⟨n,rfl,h⟩⟩
theorem c23 (n:Nat) (w:World) (hG:GB≤w.heap.size) (hn:n≤4294967295) :
  Calls Tryz.prog 23 #[.int .i64 (n:Int)] w fun e w'=>∃ r:Sl,e=.returned r.v∧Hn w' r n∧Chg w w' none2:=by
 refine (F23.call (n:Int) w (fun v w'=>∃ r:Sl,v=r.v∧Hn w' r n∧Chg w w' none2) fun B=>?_).mono fun e w' ⟨v,h1,r,h2,h3⟩=>⟨r,by rw [h1,h2],h3⟩
 obtain ⟨s0,w1,e1,l1,h1,c1⟩:=Ho.empty hG (Chg.refl w none2)
 refine ⟨w1,_,_,_,e1,fun B1=>?_⟩
 rw [F23.q3]
 refine W_for' (σ:=Nat × Sl) (fun s=>F23.l2 ((n/65536^s.1:Nat):Int) s.2.a s.2.l s.2.c) (fun s w'=>s.2.l=s.1∧s.1≤2∧Ho w w' s.2 (n%65536^s.1)∧(s.1≠0→n/65536^(s.1-1)≠0)) (fun s=>2-s.1) (0,s0) ⟨intv (by rw [Nat.pow_zero,Nat.div_one]),rfl,trivial⟩
  ⟨l1,by omega,by rw [Nat.pow_zero,Nat.mod_one]; exact h1,fun h=>absurd rfl h⟩ ?_
 rintro ⟨i,out⟩ B2 wr K2 ⟨hl,hi,ho,hz⟩ hKn hKe _
 simp only at hl hi ho hz
 have hle:=Nat.div_le_self n (65536^i)
 refine F23.t2 _ out.a out.l out.c ⟨rfl,rfl,trivial⟩ fun B3=>bc_intro (fun hb=>⟨by decide,?_⟩) (fun hb B4=>?_)
 ·have hp:n/65536^i≠0:=isP (dT hb)
  have hi2:i≠2:=fun e=>hp (by rw [e]; exact Nat.div_eq_of_lt (by omega))
  obtain ⟨w2,a2,l2,c2,e2,r,w3,e3,l3,h3⟩:=ho.push (d:=hg n i) (z:=iRem ((n/65536^i:Nat):Int) 65536) (rem16 _) (hg_lt n i) (by omega)
  refine ⟨w2,a2,l2,c2,e2,w3,r.a,r.l,r.c,e3,by decide,fun B5=>hKn _ _ (i+1,r) ⟨intv ?_,rfl,trivial⟩ rfl ⟨by show r.l=i+1; omega,by show i+1≤2; omega,?_,fun _=>?_⟩ (by show 2-(i+1)<2-i; omega)⟩
  ·rw [quo16 _ (show n/65536^i≤_ from Nat.le_trans hle (by omega)),Nat.pow_succ,←Nat.div_div_eq_div_mul]
  ·show Ho w w3 r (n%65536^(i+1))
   rw [hmod_succ,←hl]; rw [hl] at h3 ⊢; exact h3
  ·show n/65536^(i+1-1)≠0
   rw [Nat.add_sub_cancel]; exact hp
 ·have hz0:n/65536^i=0:=notP (dF hb)
  have hni:n<65536^i:=(Nat.div_eq_zero_iff_lt (hpos i)).1 hz0
  rw [Nat.mod_eq_of_lt hni] at ho
  refine hKe _ _ ?_
  show W Tryz.prog 15 F23.p1 _ wr _
  refine F23.t1 out.a out.l out.c ⟨rfl,trivial⟩ fun B4 B5=>ret1 rfl rfl ⟨out,rfl,⟨ho.rh,fun k hk=>?_⟩,ho.ch⟩
  rw [hl]
  rcases Nat.lt_or_ge k i with h | h
  ·exact absurd (Nat.div_eq_of_lt (Nat.lt_of_lt_of_le hk (Nat.pow_le_pow_right (by omega) (by omega)))) (hz (by omega))
  ·exact h
end Go.Proofs.YtlkjiiibmfpbcaaGreatDoor
namespace Go.Proofs.YtlkjiiibmfpbcaaGreatDoor
open Go
theorem hdiv (A i:Nat):A/65536^i=65536*(A/65536^(i+1))+hg A i:=by
 unfold hg
 rw [Nat.pow_succ,←Nat.div_div_eq_div_mul]
 exact (Nat.div_add_mod _ _).symm
theorem c28b (a:Sl) (A d:Nat) (w:World) (hG:GB≤w.heap.size) (ha:Rh w a A) (hl:a.l≤1000000) (hd:0<d) (hd2:d<65536) :
  Calls Tryz.prog 28 #[a.v,.int .i64 (d:Int)] w fun e w'=>∃ r:Sl,e=.returned (.tuple #[r.v,.int .i64 ((A%d:Nat):Int)])∧Hn w' r (A/d)∧w.heap.size≤r.b∧Chg w w' none2:=by
 refine (F28.call a.a a.l a.c (d:Int) w (fun v w'=>∃ r:Sl,v=.tuple #[r.v,.int .i64 ((A%d:Nat):Int)]∧Hn w' r (A/d)∧w.heap.size≤r.b∧Chg w w' none2) fun B0=>?_).mono fun e w' ⟨v,h1,r,h2,h3⟩=>⟨r,by rw [h1,h2],h3⟩
 refine ⟨a.l,a.l,rfl,rfl,Nat.le_refl _,by omega,by omega,by unfold inI64; omega,fun B1=>?_⟩
 have ho:=Ho.make hG (Chg.refl w none2) a.l (by omega)
 obtain ⟨z,hz⟩:∃ z:Sl,z=⟨some ⟨w.heap.size,0,none⟩,a.l,a.l,w.heap.size,0⟩:=⟨_,rfl⟩
 rw [←hz] at ho
 have hzv:Value.slice (some ⟨w.heap.size,0,none⟩) a.l a.l=z.v:=by rw [hz]
 have hzl:z.l=a.l:=by rw [hz]
 rw [F28.q3]
 have hd0:(d:Int)≠0:=by omega
 refine W_for' (σ:=Nat) (fun j=>F28.l2 a.a a.l a.c (d:Int) z.a z.l z.c ((A/65536^j%d:Nat):Int) ((j:Int)-1)) (fun j w'=>j≤a.l∧Ho w w' z (65536^j*(A/65536^j/d))) (fun j=>j) a.l
  ⟨rfl,rfl,hzv,intv (by rw [Nat.div_eq_of_lt ha.lt,Nat.zero_mod]; rfl),rfl,trivial⟩ ⟨Nat.le_refl _,by rw [Nat.div_eq_of_lt ha.lt,Nat.zero_div,Nat.mul_zero]; exact ho⟩ ?_
 rintro j B2 wr K2 ⟨hj,hr⟩ hKn hKe _
 have ra:=ha.keep hr.ch
 refine F28.t2 a.a a.l a.c (d:Int) z.a z.l z.c _ _ ⟨rfl,rfl,rfl,rfl,rfl,trivial⟩ fun B3=>bc_intro (fun h3=>?_) (fun h3 B4=>?_)
 ·have h3:=dT h3
  obtain ⟨i,rfl⟩:∃ i,j=i+1:=⟨j-1,by omega⟩
  obtain ⟨U,hU⟩:∃ U,U=A/65536^(i+1):=⟨_,rfl⟩
  rw [←hU] at hr ⊢
  have hg1:=hg_lt A i
  have hm:=Nat.mod_lt U hd
  obtain ⟨N,hN⟩:∃ N,N=U%d*65536+hg A i:=⟨_,rfl⟩
  have hNi:((U%d:Nat):Int)*65536+(hg A i:Int)=(N:Int):=by omega
  have hNd:N/d<65536:=by
   rw [Nat.div_lt_iff_lt_mul hd]
   have:(U%d+1)*65536≤d*65536:=Nat.mul_le_mul_right _ hm
   omega
  have hAi:A/65536^i=65536*U+hg A i:=by rw [hdiv A i,←hU]
  have hsplit:65536*U+hg A i=N+d*(65536*(U/d)):=by
   have h5:=Nat.div_add_mod U d
   have h6:=congrArg (65536*·) h5
   simp only [Nat.mul_add] at h6
   rw [show d*(65536*(U/d))=65536*(d*(U/d)) by rw [Nat.mul_left_comm]]
   omega
  have hq:A/65536^i/d=N/d+65536*(U/d):=by rw [hAi,hsplit,Nat.add_mul_div_left _ _ hd]
  have hrm:A/65536^i%d=N%d:=by rw [hAi,hsplit,Nat.add_mul_mod_self_left]
  refine ⟨by unfold inI64; omega,rdR (k:=i) ra (by omega) (by omega) ⟨by unfold inI64; omega,hd0,?_⟩⟩
  rw [hNi,iQuoI N d (by omega),iRemN N d]
  have hp:=hr.put (i:=i) (d:=N/d) (by omega) hNd
  have hv:setH (65536^(i+1)*(U/d)) i (N/d)=65536^i*(A/65536^i/d):=by
   have h7:=setH_add (65536^(i+1)*(U/d)) i (N/d)
   rw [show hg (65536^(i+1)*(U/d)) i=0 by
    have:=hg_add_lo 0 (U/d) (i+1) i (by omega)
    rw [Nat.zero_add,hg_zero] at this; exact this,Nat.mul_zero,Nat.add_zero] at h7
   rw [h7,hq,Nat.pow_succ,Nat.mul_add,Nat.mul_assoc,Nat.add_comm]
  rw [hv] at hp
  refine wtC (k:=i) hr.toSt.wt (by omega) (by omega) ⟨hd0,by unfold inI64; omega,fun B4=>hKn _ _ i ⟨rfl,rfl,rfl,intv (by rw [hrm]),intv (by omega),trivial⟩ rfl ⟨by omega,hp⟩ (by omega)⟩
 ·have h3:=dF h3
  obtain rfl:j=0:=by omega
  rw [Nat.pow_zero,Nat.div_one,Nat.one_mul] at hr
  refine hKe _ _ ?_
  show W Tryz.prog 38 F28.p1 _ wr _
  refine F28.t1 z.a z.l z.c ((A%d:Nat):Int) ⟨rfl,intv (by rw [Nat.pow_zero,Nat.div_one]),trivial⟩ fun B4=>(c16b z (A/d) wr hr.rh (by omega)).mono ?_
  rintro e4 w4 ⟨r4,rfl,h4,hb4,hw⟩
  subst hw
  exact ⟨_,_,_,rfl,fun B5=>ret2 rfl rfl rfl ⟨r4,rfl,h4,by rw [hb4,hz]; exact Nat.le_refl _,hr.ch⟩⟩
end Go.Proofs.YtlkjiiibmfpbcaaGreatDoor
namespace Go.Proofs.YtlkjiiibmfpbcaaGreatDoor
open Go
structure Hv (w0 w:World) (s:Sl) (f:Nat→Value):Prop extends St w s where
 cs:Cs w s.b s.o s.l f
 nw:s.c≠0→w0.heap.size≤s.b
 ch:Chg w0 w none2
section
variable {w0 w w':World} {s:Sl} {f:Nat→Value}
theorem Cs.keep {b o n:Nat} (h:Cs w b o n f) (c:Chg w w' none2):Cs w' b o n f:=fun i hi=>by
 have:=h i hi
 rw [c.cell (lt_of_cell this) (fun h=>h)]; exact this
theorem Hv.keep (h:Hv w0 w s f) (c:Chg w w' none2):Hv w0 w' s f:=⟨c.st h.toSt,h.cs.keep c,h.nw,h.ch.trans' c⟩
theorem Hv.congr {g:Nat→Value} (h:Hv w0 w s f) (hg:∀ i,i<s.l→g i=f i):Hv w0 w s g:=⟨h.toSt,fun i hi=>by rw [hg i hi]; exact h.cs i hi,h.nw,h.ch⟩
theorem Hv.at0 (h:Hv w0 w s f) (h0:s.l≠0):s.a=some ⟨s.b,s.o,none⟩:=h.at_ (by have:=h.lc; omega)
theorem Hv.put {i:Nat} (v:Value) (h:Hv w0 w s f) (hi:i<s.l):Hv w0 (w.setCell ⟨s.b,s.o+i,none⟩ v) s (setF f i v):=by
 have hlc:=h.lc
 have hc:Chg w (w.setCell ⟨s.b,s.o+i,none⟩ v) (inR s.b (s.o+i) (s.o+i+1)):=Chg.setCell (h.pl (by omega)) _ ⟨rfl,by omega,by omega⟩
 refine ⟨hc.st h.toSt,fun j hj=>?_,h.nw,h.ch.trans hc (fun _ _ _ h=>h) fun b j hb hm=>?_⟩
 ·by_cases hji:j=i
  ·subst hji
   rw [setF_self]
   exact World.cell?_setCell_same _ _ _ (h.cs j hj)
  ·rw [setF_ne _ _ hji,hc.cell (lt_of_cell (h.cs j hj)) (fun hm=>by have:=hm.2.1; have:=hm.2.2; omega)]
   exact h.cs j hj
 ·have:=h.nw (by omega)
  have:=hm.1; omega
end
theorem Hv.empty {t e:TypeId} {z:Value} (ht:Cell1 t e z) {w0 w:World} (hg:GB≤w0.heap.size) (c:Chg w0 w none2) (f:Nat→Value) :
  ∃ (s:Sl) (w':World),Sem.run Tryz.prog (Instr.buildSlice t 0 #[]) w=.ok s.v w'∧s.l=0∧Hv w0 w' s f∧Chg w w' none2:=by
 have c1:Chg w (w.alloc (.cells #[] e)) none2:=Chg.alloc _ _ (fun a=>RowKit.frozen?_alloc_cells _ _ _ _) _
 refine ⟨⟨some ⟨w.heap.size,0,none⟩,0,0,w.heap.size,0⟩,_,build0e ht w,rfl,⟨⟨Nat.le_refl _,fun h=>absurd rfl h,Wr.zero,fun h=>absurd rfl h,Nat.zero_le _,Nat.le_trans hg (c.trans' c1).size⟩,fun i hi=>?_,fun h=>absurd rfl h,c.trans' c1⟩,c1⟩
 have hi:i<0:=hi
 omega
theorem Hv.push {t e:TypeId} {z:Value} (ht:Cell1 t e z) {w0 w:World} {out:Sl} {f:Nat→Value} (v:Value) (hv:v.cells=#[v]) (hv1:v.oneCell'=true) (h:Hv w0 w out f) (hl:out.l≤1000000) :
  ∃ w1,∃ a l c,Sem.run Tryz.prog (Instr.buildSlice t 1 #[(0,v)]) w=.ok (.slice a l c) w1∧∃ (r:Sl) (w':World),Sem.run Tryz.prog (builtin .append #[t,t] t #[false,false] #[out.v,.slice a l c]) w1=.ok (.value r.v) w' ∧
   r.l=out.l+1∧Hv w0 w' r (setF f out.l v)∧Chg w w' (fp out):=by
 have c1:Chg w (w.alloc (.cells #[v] e)) none2:=Chg.alloc _ _ (fun a=>RowKit.frozen?_alloc_cells _ _ _ _) _
 have hh:(w.alloc (.cells #[v] e)).heap[w.heap.size]?=some (.cells #[v] e (0,0)):=heap_alloc_new ..
 have h1:=h.keep c1
 obtain ⟨r,w',r1,r2,r3,r4,r5,r6,r7⟩:=app1 ht out v _ h1.toSt ⟨w.heap.size,0,none⟩ 1 (by rw [cell_eq,hh]; rfl) hv1 (by omega) f h1.cs
 refine ⟨_,_,_,_,build1 ht w _ hv,r,w',r1,r2,⟨r3,by rw [r2]; exact r4,fun h0=>?_,h1.ch.trans r7 (fun _ _ _ h=>h) fun b i hb hm=>?_⟩,c1.trans r7 (fun _ _ _ h=>h.elim) (fun _ _ _ h=>h)⟩
 ·rcases r5 with ⟨_,e2,e3,_⟩ | hf
  ·rw [e3]; exact h.nw (by omega)
  ·exact Nat.le_trans h1.ch.size hf
 ·have:=h.nw (by have:=hm.2.1; have:=hm.2.2; omega)
  have:=hm.1; omega
theorem cell55:Cell1 55 5 (.int .u8 0):=by
 refine ⟨Tryz.underlying55,?_,rfl⟩
 have h:(Tryz.prog.info? 5).map (fun i=>(i.size,i.bytes,i.zero))=some (1,1,some (.int .u8 0)):=by kernel_rfl
 cases hi:Tryz.prog.info? 5 with
 | none=>rw [hi] at h; simp at h
 | some ie =>
  rw [hi] at h
  simp only [Option.map_some,Option.some.injEq,Prod.mk.injEq] at h
  exact ⟨ie,rfl,h.1,by omega,h.2.2⟩
def chr (d:Nat):Nat:=if d<10 then 48+d else if d<36 then 87+d else 29+d
theorem chr_lt {d:Nat} (h:d<62):chr d<256:=by
 unfold chr
 split
 ·omega
 ·split <;> omega
theorem c29 (d:Nat) (hd:d<62):Told 29 #[.int .i64 (d:Int)] (.int .u8 (chr d:Int)):=fun w =>
 told <| F29.call (d:Int) w _ fun B=>bc_intro (fun h=>⟨by unfold inI64; omega,fun B1=>ret1 rfl rfl ⟨by
   have h:=dT h
   have e:chr d=48+d:=by unfold chr; rw [if_pos (by omega)]
   have:=wrapU8 (48+d) (by omega)
   rw [e,←this]; rfl,rfl⟩⟩)
  (fun h=>bc_intro (fun h2=>⟨by unfold inI64; omega,by unfold inI64; omega,fun B1=>ret1 rfl rfl ⟨by
   have h:=dF h
   have h2:=dT h2
   have e:chr d=87+d:=by unfold chr; rw [if_neg (by omega),if_pos (by omega)]
   have:=wrapU8 (87+d) (by omega)
   rw [e,←this]
   show Value.int .u8 (IntKind.wrap .u8 (97+(d:Int)-10))=_
   rw [show 97+(d:Int)-10=((87+d:Nat):Int) by omega],rfl⟩⟩)
  (fun h2=>⟨by unfold inI64; omega,by unfold inI64; omega,fun B1=>ret1 rfl rfl ⟨by
   have h:=dF h
   have h2:=dF h2
   have e:chr d=29+d:=by unfold chr; rw [if_neg (by omega),if_neg (by omega)]
   have:=wrapU8 (29+d) (by omega)
   rw [e,←this]
   show Value.int .u8 (IntKind.wrap .u8 (65+(d:Int)-36))=_
   rw [show 65+(d:Int)-36=((29+d:Nat):Int) by omega],rfl⟩⟩))
def fgs (b A j:Nat):Nat:=chr (A/b^j%b)
def figs (b n A:Nat):List Int:=(List.range n).map fun j=>(fgs b A (n-1-j):Int)
def IsN (b A n:Nat):Prop:=A<b^n∧1≤n∧(n≠1→b^(n-1)≤A)
theorem IsN.uniq {b A n m:Nat} (hb:2≤b) (h:IsN b A n) (k:IsN b A m):n=m:=by
 have key:∀ {n m:Nat},IsN b A n→IsN b A m→n≤m:=fun {n m} h k=>by
  rcases Nat.lt_or_ge m n with h1 | h1
  ·have h2:=h.2.2 (by have:=k.2.1; omega)
   have h3:=Nat.pow_le_pow_right (show 0<b by omega) (show m≤n-1 by omega)
   have:=k.1; omega
  ·exact h1
 exact Nat.le_antisymm (key h k) (key k h)
theorem Hn.keepS {w w':World} {s:Sl} {v:Nat} {S:Set2} (h:Hn w s v) (c:Chg w w' S) (hd:∀ i,i<s.l→¬S s.b (s.o+i)):Hn w' s v :=
 ⟨⟨h.lc,h.at_,fun i hi=>by
  have:=h.hc i hi
  rw [c.cell (lt_of_cell this) (hd i hi)]; exact this,h.lt⟩,h.nm⟩
theorem c13 (a:Sl) (A b:Nat) (w:World) (hG:GB≤w.heap.size) (ha:Hn w a A) (hl:a.l≤5000) (hb:2≤b) (hb2:b≤62) :
  Calls Tryz.prog 13 #[a.v,.int .i64 (b:Int)] w fun e w'=>∃ n,IsN b A n∧e=.returned (.string (strOfNums (figs b n A)))∧Chg w w' none2:=by
 refine (F13.call a.a a.l a.c (b:Int) w (fun v w'=>∃ n,IsN b A n∧v=.string (strOfNums (figs b n A))∧Chg w w' none2) fun B0=>?_).mono fun e w' ⟨v,h1,n,h2,h3,h4⟩=>⟨n,h2,by rw [h1,h3],h4⟩
 obtain ⟨f,hf⟩:∃ f:Nat→Value,f=fun j=>.int .u8 (fgs b A j:Int):=⟨_,rfl⟩
 obtain ⟨s0,w1,e1,l1,h1,c1⟩:=Hv.empty cell55 hG (Chg.refl w none2) f
 refine ⟨w1,_,_,_,e1,fun B1=>?_⟩
 have few:∀ i,(i≠0→A/b^(i-1)≠0)→i≤16*a.l:=fun i h=>by
  rcases Nat.eq_zero_or_pos i with h0 | h0
  ·omega
  ·have h2:b^(i-1)≤A:=by
    rcases Nat.lt_or_ge A (b^(i-1)) with h3 | h3
    ·exact absurd (Nat.div_eq_of_lt h3) (h (by omega))
    ·exact h3
   have h3:2^(i-1)≤b^(i-1):=Nat.pow_le_pow_left hb _
   have h4:2^(i-1)<2^(16*a.l):=by rw [←p16]; exact Nat.lt_of_le_of_lt (Nat.le_trans h3 h2) ha.lt
   have:=(Nat.pow_lt_pow_iff_right (show 1<2 by omega)).1 h4
   omega
 rw [F13.q3]
 refine W_for' (σ:=Nat × Sl × Sl) (fun s=>F13.l2 s.2.1.a s.2.1.l s.2.1.c (b:Int) s.2.2.a s.2.2.l s.2.2.c)
  (fun s w'=>s.2.2.l=s.1∧Hn w' s.2.1 (A/b^s.1)∧Hv w w' s.2.2 f∧(s.1≠0→A/b^(s.1-1)≠0)) (fun s=>16*a.l+1-s.1) (0,a,s0) ⟨rfl,rfl,rfl,trivial⟩ ⟨l1,by show Hn w1 a (A/b^0); rw [Nat.pow_zero,Nat.div_one]; exact ha.keep c1,h1,fun h=>absurd rfl h⟩ ?_
 rintro ⟨i,a',out⟩ B2 wr K2 ⟨hol,ha',ho,hi0⟩ hKn hKe _
 simp only at hol ha' ho hi0
 have hi:=few i hi0
 have hle:A/b^i≤A:=Nat.div_le_self _ _
 have la:a'.l≤a.l:=ha'.nm _ (Nat.lt_of_le_of_lt hle ha.lt)
 refine F13.t2 a'.a a'.l a'.c (b:Int) out.a out.l out.c ⟨rfl,rfl,rfl,trivial⟩ fun B3=>bc_intro (fun h3=>?_) (fun h3 B4=>?_)
 ·have h3:=dT h3
  have hA0:A/b^i≠0:=fun e=>by have:=ha'.zero_iff.2 e; omega
  refine (c28b a' (A/b^i) b wr (Nat.le_trans hG ho.ch.size) ha'.toRh (by omega) (by omega) (by omega)).mono ?_
  rintro e4 w4 ⟨q,rfl,hq,hqb,c4⟩
  have hrest:=Nat.mod_lt (A/b^i) (show 0<b by omega)
  refine ⟨_,_,_,trivial,_,trivial,rfl,(c29 (A/b^i%b) (by omega) w4).mono ?_⟩
  rintro e5 w5 ⟨rfl,hw⟩
  have hw:=hw.symm
  subst hw
  refine ⟨_,rfl,?_⟩
  obtain ⟨w6,a6,l6,c6,e6,r,w7,e7,l7,h7,c7⟩:=(ho.keep c4).push cell55 (.int .u8 (chr (A/b^i%b):Int)) rfl rfl (by omega)
  refine ⟨w6,a6,l6,c6,e6,w7,r.a,r.l,r.c,e7,fun B5=>hKn _ _ (i+1,q,r) ⟨rfl,rfl,rfl,trivial⟩ rfl ⟨by show r.l=i+1; omega,?_,?_,fun _=>by show A/b^(i+1-1)≠0; rw [Nat.add_sub_cancel]; exact hA0⟩ ?_⟩
  ·show Hn w7 q (A/b^(i+1))
   rw [Nat.pow_succ,←Nat.div_div_eq_div_mul]
   refine hq.keepS c7 fun j _ hm=>?_
   have h8:=ho.toSt.blk (by have:=hm.2.1; have:=hm.2.2; omega)
   have:=hm.1; omega
  ·refine h7.congr fun j hj=>?_
   by_cases hji:j=out.l
   ·rw [hji,setF_self,hf,hol]; rfl
   ·rw [setF_ne _ _ hji]
  ·have:=few (i+1) (fun _=>by rw [Nat.add_sub_cancel]; exact hA0)
   show 16*a.l+1-(i+1)<16*a.l+1-i
   omega
 ·have hl0:a'.l=0:=by have:=dF h3; omega
  have hz:A/b^i=0:=ha'.zero_iff.1 hl0
  have hAi:A<b^i:=(Nat.div_eq_zero_iff_lt (Nat.pow_pos (by omega))).1 hz
  refine hKe _ _ ?_
  show W Tryz.prog 55 F13.p1 _ wr _
  refine F13.t1 out.a out.l out.c ⟨rfl,trivial⟩ fun B4=>bc_intro (fun h4 B5=>?_) (fun h4=>?_)
  ·have h0:i=0:=by have:=eqE h4; omega
   subst h0
   have hA:A=0:=by rw [Nat.pow_zero] at hAi; omega
   refine ret1 rfl rfl ⟨1,⟨by rw [hA]; exact Nat.pow_pos (by omega),Nat.le_refl _,fun h=>absurd rfl h⟩,?_,ho.ch⟩
   rw [hA]
   have e:figs b 1 0=[48]:=by simp [figs,fgs,chr]
   rw [e]; rfl
  ·have hn0:i≠0:=fun e=>eqN h4 (by rw [hol,e]; rfl)
   have hN:IsN b A i:=⟨hAi,by omega,fun _=>by
    rcases Nat.lt_or_ge A (b^(i-1)) with h5 | h5
    ·exact absurd (Nat.div_eq_of_lt h5) (hi0 hn0)
    ·exact h5⟩
   refine ⟨by unfold inI64; omega,fun B5=>?_⟩
   rw [F13.q6]
   obtain ⟨g,hg⟩:∃ g:Nat→Nat→Value,g=fun k j=>if j<k∨i-k≤j then f (i-1-j) else f j:=⟨_,rfl⟩
   refine W_for' (σ:=Nat) (fun k=>F13.l5 out.a out.l out.c (k:Int) ((out.l:Int)-1-(k:Int))) (fun k w'=>2*k≤i+1∧Hv w w' out (g k)) (fun k=>i-k) 0 ⟨rfl,rfl,intv (by omega),trivial⟩ ⟨by omega,ho.congr fun j hj=>by rw [hg]; simp only; rw [if_neg (by omega)]⟩ ?_
   rintro k B6 wq K3 ⟨hk,hv⟩ hKn3 hKe3 _
   refine F13.t5 out.a out.l out.c (k:Int) _ ⟨rfl,rfl,rfl,trivial⟩ fun B7=>bc_intro (fun h6=>?_) (fun h6 B8=>?_)
   ·have h6:=dT h6
    have hat:=hv.at0 (by omega)
    have hvd:=hv.keep (Chg.drew0 wq none2)
    have u1:=hvd.cs (i-1-k) (by omega)
    have u2:=hvd.cs k (by omega)
    have hg1:g k (i-1-k)=.int .u8 (fgs b A (i-1-k):Int):=by rw [hg]; simp only; rw [if_neg (by omega),hf]
    have hg2:g k k=.int .u8 (fgs b A k:Int):=by rw [hg]; simp only; rw [if_neg (by omega),hf]
    rw [hg1] at u1
    rw [hg2] at u2
    have p1:=hvd.put (i:=k) (.int .u8 (fgs b A (i-1-k):Int)) (by omega)
    have p2:=p1.put (i:=i-1-k) (.int .u8 (fgs b A k:Int)) (by omega)
    refine ⟨out.b,out.o,hat,i-1-k,by omega,by omega,_,u1,out.b,out.o,hat,k,rfl,by omega,_,u2,wtC (k:=k) hvd.toSt.wt rfl (by omega) (wtC (k:=i-1-k) p1.toSt.wt (by omega) (by omega) ⟨by unfold inI64; omega,by unfold inI64; omega,fun B8=>hKn3 _ _ (k+1) ⟨rfl,intv (by omega),intv (by omega),trivial⟩ rfl ⟨by omega,?_⟩ (by omega)⟩)⟩
    refine p2.congr fun j hj=>?_
    rw [hg]
    simp only [setF]
    by_cases h7:j=i-1-k
    ·rw [if_pos (by omega),if_pos h7,h7,show i-1-(i-1-k)=k by omega,hf]
    ·by_cases h8:j=k
     ·rw [if_pos (by omega),if_neg h7,if_pos h8,h8,hf]
     ·rw [if_neg h7,if_neg h8]
      by_cases h9:j<k∨i-k≤j
      ·rw [if_pos h9,if_pos (by omega)]
      ·rw [if_neg h9,if_neg (by omega)]
   ·have h6:=dF h6
    refine hKe3 _ _ ?_
    show W Tryz.prog 55 F13.p4 _ wq _
    refine F13.t4 out.a out.l out.c ⟨rfl,trivial⟩ fun B9=>?_
    have hall:∀ j,j<i→g k j=.int .u8 ((figs b i A).getD j 0):=fun j hj=>by
     rw [hg]
     have e:(figs b i A).getD j 0=(fgs b A (i-1-j):Int):=by simp [figs,List.getD,hj]
     rw [e]
     simp only
     by_cases h9:j<k∨i-k≤j
     ·rw [if_pos h9,hf]
     ·rw [if_neg h9,hf,show i-1-j=j by omega]
    have hcv:=run_convert_bytes_arg (P:=Tryz.prog) wq 55 5 Tryz.underlying55 Tryz.underlying5 out.b out.o out.l out.c (figs b i A) (by simp [figs,hol]) (fun j hj=>by rw [hv.cs j hj,hall j (by omega)]) 9 Tryz.underlying9
    refine ⟨wq,_,?_,fun B10=>ret1 rfl rfl ⟨i,hN,rfl,hv.ch⟩⟩
    rw [←hv.at0 (by omega)] at hcv
    exact hcv
end Go.Proofs.YtlkjiiibmfpbcaaGreatDoor
namespace Go.Proofs.YtlkjiiibmfpbcaaGreatDoor
open Go
theorem c58 (b:Nat) (hb:2≤b) (hb2:b≤62) (w:World) :
  Calls Tryz.prog 58 #[.int .u64 (b:Int)] w fun e w'=>∃ n:Nat,e=.returned (.tuple #[.int .u64 ((b^n:Nat):Int),.int .i64 (n:Int)])∧1≤n∧n≤64∧b^n<BB∧BB≤b^n*b∧w'=w:=by
 refine (F58.call (b:Int) w (fun v w'=>∃ n:Nat,v=.tuple #[.int .u64 ((b^n:Nat):Int),.int .i64 (n:Int)]∧1≤n∧n≤64∧b^n<BB∧BB≤b^n*b∧w'=w) fun B=>⟨by omega,fun B1=>?_⟩).mono fun e w' ⟨v,h1,n,h2,h3⟩=>⟨n,by rw [h1,h2],h3⟩
 have hq:iQuo .u64 18446744073709551615 (b:Int)=((18446744073709551615/b:Nat):Int):=iQuoN 18446744073709551615 b (by omega)
 obtain ⟨m,hm⟩:∃ m,m=18446744073709551615/b:=⟨_,rfl⟩
 have hm1:m*b≤18446744073709551615:=by rw [hm]; exact Nat.div_mul_le_self _ _
 have hm2:18446744073709551616≤(m+1)*b:=by
  have:=Nat.lt_div_mul_add (a:=18446744073709551615) (b:=b) (by omega)
  rw [←hm] at this
  rw [Nat.add_mul]; omega
 have hBB:BB=18446744073709551616:=rfl
 rw [hq,←hm,F58.q3]
 refine W_for' (σ:=Nat) (fun n=>F58.l2 (b:Int) ((b^n:Nat):Int) (n:Int) (m:Int)) (fun n w'=>w'=w∧1≤n∧n≤64∧b^n<BB) (fun n=>64-n) 1 ⟨rfl,intv (by rw [Nat.pow_one]),rfl,rfl,trivial⟩ ⟨rfl,Nat.le_refl _,by omega,by rw [Nat.pow_one]; omega⟩ ?_
 rintro n B2 wr K2 ⟨hw,h1,h2,h3⟩ hKn hKe _
 subst hw
 refine F58.t2 (b:Int) _ (n:Int) (m:Int) ⟨rfl,rfl,rfl,rfl,trivial⟩ fun B3=>bc_intro (fun h=>?_) (fun h B4=>?_)
 ·have h4:b^n≤m:=by have:=dT h; omega
  have h5:b^n*b≤18446744073709551615:=Nat.le_trans (Nat.mul_le_mul_right b h4) hm1
  have h6:b^(n+1)<BB:=by rw [Nat.pow_succ]; omega
  have h7:n+1≤64:=by
   have h8:2^(n+1)≤b^(n+1):=Nat.pow_le_pow_left hb _
   have h9:2^(n+1)<2^64:=by rw [hBB] at h6; omega
   have:=(Nat.pow_lt_pow_iff_right (show 1<2 by omega)).1 h9
   omega
  refine ⟨by unfold inI64; omega,fun B4=>hKn _ _ (n+1) ⟨rfl,intv ?_,intv (by omega),rfl,trivial⟩ rfl ⟨rfl,by omega,h7,h6⟩ (by omega)⟩
  rw [mulN,wrapN _ (by omega),Nat.pow_succ]
 ·have h4:m<b^n:=by have:=dF h; omega
  refine hKe _ _ ?_
  show W Tryz.prog 16 F58.p1 _ wr _
  exact F58.t1 _ (n:Int) ⟨rfl,rfl,trivial⟩ fun B4 B5=>ret2 rfl rfl rfl ⟨n,rfl,h1,h2,h3,by rw [hBB]; exact Nat.le_trans hm2 (Nat.mul_le_mul_right b h4),rfl⟩
end Go.Proofs.YtlkjiiibmfpbcaaGreatDoor
