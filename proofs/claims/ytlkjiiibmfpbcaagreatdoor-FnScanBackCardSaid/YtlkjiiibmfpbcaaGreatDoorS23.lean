/- A region with operations whose order matters and is open: each order is walked, as a tree. Condition: the closed check 'okO'. -/
import Derived.Test.YtlkjiiibmfpbcaaGreatDoorS04
import Derived.Test.YtlkjiiibmfpbcaaGreatDoorS22
namespace Go.Proofs.YtlkjiiibmfpbcaaGreatDoor
open Go
inductive OT where
 | fin | one (i:Nat) (t:OT) | two (i:Nat) (t1:OT) (j:Nat) (t2:OT)
section
variable {P:Program} {tab:Tab} {N:Nat} {ops:Array Oper}
def memB (l:List Nat) (i:Nat):Bool:=l.any fun j=>Nat.beq j i
theorem memB_iff {l:List Nat} {i:Nat}:memB l i=true↔i∈l:=by
 unfold memB
 rw [List.any_eq_true]
 constructor
 ·rintro ⟨j,hj,hb⟩
  rw [←Nat.eq_of_beq_eq_true hb]; exact hj
 ·exact fun h=>⟨i,h,Nat.beq_refl i⟩
def closeL:List Nat→Nat→List Oper→List Nat
 | B,_,[]=>B
 | B,j,o :: r=>closeL (match o.after.toList.any (fun e=>Region.binds .any e && memB B e.on) with
  | true=>j :: B
  | false=>B) (j+1) r
def blocked (ops:Array Oper) (i:Nat):List Nat:=closeL (closeL [i] 0 ops.toList) 0 ops.toList
def freeO (tab:Tab) (ops:Array Oper) (l ex:List Nat) (i:Nat) (oi:Oper):Nat→List Oper→Bool
 | _,[]=>true
 | j,oj :: r=>(memB l j || Nat.beq j i || memB ex j || (oj.after.toList.any fun e=>Region.binds .any e && Nat.beq e.on i) || memB (blocked ops i) j || (oi.apart ops oj && swapB tab oi oj)) && freeO tab ops l ex i oi (j+1) r
def okAt (tab:Tab) (ops:Array Oper) (l ex:List Nat) (i:Nat):Bool:=match ops.toList[i]? with
 | none=>false
 | some o=>!(memB l i) && (o.after.toList.all fun e=>!Region.binds .any e || memB l e.on) && (blocked ops i).all (fun j=>!(memB l j)) && freeO tab ops l ex i o 0 ops.toList
def allB (l:List Nat):Nat→List Oper→Bool
 | _,[]=>true
 | j,_ :: r=>memB l j && allB l (j+1) r
def hasEff (tab:Tab) (ops:Array Oper) (i j:Nat):Bool:=match ops.toList[i]?,ops.toList[j]? with
 | some oi,some oj=>!(Nat.beq (cls tab oi) 0) || !(Nat.beq (cls tab oj) 0)
 | _,_=>false
def okO (tab:Tab) (ops:Array Oper):List Nat→OT→Bool
 | l,.fin=>allB l 0 ops.toList
 | l,.one i t=>okAt tab ops l [] i && okO tab ops (i :: l) t
 | l,.two i t1 j t2=>!(Nat.beq i j) && hasEff tab ops i j && okAt tab ops l (j :: blocked ops j) i && okAt tab ops l (i :: blocked ops i) j && okO tab ops (i :: l) t1 && okO tab ops (j :: l) t2
def selsB:List Oper→Bool
 | []=>true
 | o :: r=>selB o && selsB r
def wpO (P:Program) (tab:Tab) (ops:Array Oper) (Q:Act→World→Prop):OT→Act→World→Prop
 | .fin,a,w=>Q a w
 | .one i t,a,w=>tAt P tab ops i (wpO P tab ops Q t) a w
 | .two i t1 j t2,a,w=>tAt P tab ops i (wpO P tab ops Q t1) a w∧tAt P tab ops j (wpO P tab ops Q t2) a w
structure Rel (ops:Array Oper) (l:List Nat) (listed:Array Bool):Prop where
 size:listed.size=ops.size
 at_:∀ j,j<ops.size→listed.getD j true=memB l j
 lt:∀ j∈l,j<ops.size
theorem Rel.cons {l:List Nat} {listed:Array Bool} (h:Rel ops l listed) (i:Nat) (hi:i<ops.size):Rel ops (i :: l) (listed.setIfInBounds i true):=by
 refine ⟨by simpa using h.size,fun j hj=>?_,fun j hj=>by
  rcases List.mem_cons.1 hj with rfl | hj
  ·exact hi
  ·exact h.lt j hj⟩
 by_cases hij:i=j
 ·subst hij
  have:i<listed.size:=by rw [h.size]; exact hj
  have h2:memB (i :: l) i=true:=memB_iff.2 (by simp)
  rw [h2]; simp [this]
 ·rw [getD_set_ne true hij,h.at_ j hj]
  have h2:memB (i :: l) j=memB l j:=by
   have:Nat.beq i j=false:=Bool.eq_false_iff.2 fun hb=>hij (Nat.eq_of_beq_eq_true hb)
   simp [memB,this]
  rw [h2]
theorem freeO_spec {l ex:List Nat} {i:Nat} {oi:Oper}:∀ (r:List Oper) (k:Nat),freeO tab ops l ex i oi k r=true→∀ (j:Nat) (oj:Oper),r[j]?=some oj →
  memB l (k+j)=false→k+j≠i→k+j ∉ ex→k+j ∉ blocked ops i→(∀ e∈oj.after,Region.binds .any e=true→e.on≠i)→oi.apart ops oj=true∧(cls tab oi=0∨cls tab oj=0∨(cls tab oi=1∧cls tab oj=1))
 | [],_,_,j,oj,hj,_,_,_,_,_=>by simp at hj
 | o :: r,k,h,j,oj,hj,h1,h2,h3,h5,hno=>by
  simp only [freeO,Bool.and_eq_true,Bool.or_eq_true] at h
  cases j with
  | zero =>
   simp only [List.getElem?_cons_zero,Option.some.injEq] at hj
   subst hj
   rw [Nat.add_zero] at h1 h2 h3 h5
   rcases h.1 with ((((h4 | h4) | h4) | h4) | h4) | h4
   ·rw [h1] at h4; cases h4
   ·exact absurd (Nat.eq_of_beq_eq_true h4) h2
   ·exact absurd (memB_iff.1 h4) h3
   ·obtain ⟨e,he,hb⟩:=List.any_eq_true.1 h4
    simp only [Bool.and_eq_true] at hb
    exact absurd (Nat.eq_of_beq_eq_true hb.2) (hno e (by simpa using he) hb.1)
   ·exact absurd (memB_iff.1 h4) h5
   ·exact ⟨h4.1,swapB_spec h4.2⟩
  | succ j =>
   rw [show k+(j+1)=k+1+j by omega] at h1 h2 h3 h5
   exact freeO_spec r (k+1) h.2 j oj (by simpa using hj) h1 h2 h3 h5 hno
def Waits (ops:Array Oper) (i:Nat) (B:List Nat):Prop:=∀ j∈B,j≠i→∃ oj,ops[j]?=some oj∧∃ e∈oj.after,Region.binds .any e=true∧e.on∈B
theorem closeL_spec {i:Nat}:∀ (r:List Oper) (B:List Nat) (k:Nat),(∀ j,r[j]?=ops[k+j]?)→Waits ops i B→Waits ops i (closeL B k r)
 | [],B,_,_,h=>h
 | o :: r,B,k,hr,h=>by
  unfold closeL
  have h0:ops[k]?=some o:=by simpa using (hr 0).symm
  have hr':∀ j,r[j]?=ops[k+1+j]?:=fun j=>by have:=hr (j+1); simpa [Nat.add_assoc,Nat.add_comm 1 j] using this
  refine closeL_spec r _ (k+1) hr' ?_
  split
  ·rename_i hb
   intro j hj hji
   obtain ⟨e,he,hbe⟩:=List.any_eq_true.1 hb
   simp only [Bool.and_eq_true] at hbe
   rcases List.mem_cons.1 hj with rfl | hj
   ·exact ⟨o,h0,e,by simpa using he,hbe.1,List.mem_cons_of_mem _ (memB_iff.1 hbe.2)⟩
   ·obtain ⟨oj,h1,e',h2,h3,h4⟩:=h j hj hji
    exact ⟨oj,h1,e',h2,h3,List.mem_cons_of_mem _ h4⟩
  ·exact h
theorem blocked_spec (i:Nat):Waits ops i (blocked ops i):=closeL_spec ops.toList _ 0 (by simp) (closeL_spec ops.toList [i] 0 (by simp) (fun j hj hji=>absurd (by simpa using hj) hji))
theorem not_ready {i j:Nat} {B:List Nat} {listed:Array Bool} (hw:Waits ops i B) (hu:∀ k∈B,listed.getD k true=false) (hj:j∈Region.ready .any ops listed) (hji:j≠i):j ∉ B:=fun hB=>by
 obtain ⟨oj,h1,e,h2,h3,h4⟩:=hw j hB hji
 obtain ⟨_,oj',h5,h6⟩:=mem_ready.1 hj
 rw [h1] at h5
 cases h5
 have h7:=h6 e h2 h3
 have h8:=hu e.on h4
 rcases Nat.lt_or_ge e.on listed.size with h' | h'
 ·simp [h'] at h7 h8; rw [h7] at h8; cases h8
 ·simp [Array.getElem?_eq_none h'] at h7
theorem unl_set {B:List Nat} {listed:Array Bool} {j:Nat} (hu:∀ k∈B,listed.getD k true=false) (hj:j ∉ B):∀ k∈B,(listed.setIfInBounds j true).getD k true=false:=fun k hk=>by
 have:j≠k:=fun e=>hj (by rw [e]; exact hk)
 rw [getD_set_ne true this]; exact hu k hk
theorem anyT_firstB {Q:Act→World→Prop} {i:Nat} {oi:Oper} {B:List Nat} (hi:ops[i]?=some oi) (hw:Waits ops i B) (hsel:∀ (j:Nat) (o:Oper),ops[j]?=some o→noSel o) :
  ∀ (fuel:Nat) (listed:Array Bool) (a:Act) (w:World),(∀ k∈B,listed.getD k true=false) →
   (∀ j oj,ops[j]?=some oj→j≠i→j ∉ B→listed.getD j true=false→(∀ e∈oj.after,Region.binds .any e=true→e.on≠i) →
    oi.apart ops oj=true∧(cls tab oi=0∨cls tab oj=0∨(cls tab oi=1∧cls tab oj=1))) →
   i∈Region.ready .any ops listed→tOp P tab ops oi (anyT P tab ops Q fuel (listed.setIfInBounds i true)) a w→anyT P tab ops Q (fuel+1) listed a w:=by
 intro fuel
 induction fuel with
 | zero =>
  intro listed a w _ _ hr H
  refine ⟨fun h=>(by rw [h] at hr; cases hr),fun j hj=>?_⟩
  by_cases hji:j=i
  ·subst hji; unfold tAt; simp only [hi]; exact H
  ·obtain ⟨a',w',hk⟩:=tOp_some H
   have:=ready_mono hj hji
   rw [hk.1] at this
   cases this
 | succ fuel ih =>
  intro listed a w hu hfree hr H
  refine ⟨fun h=>(by rw [h] at hr; cases hr),fun j hj=>?_⟩
  by_cases hji:j=i
  ·subst hji; unfold tAt; simp only [hi]; exact H
  ·have hjB:=not_ready hw hu hj hji
   obtain ⟨hjun,oj,hoj,hall⟩:=mem_ready.1 hj
   have hnot:∀ e∈oj.after,Region.binds .any e=true→e.on≠i:=fun e he hb heq=>by
    have h1:=hall e he hb
    have h0:=(mem_ready.1 hr).1
    rw [heq] at h1
    rcases Nat.lt_or_ge i listed.size with h' | h'
    ·simp [h'] at h0 h1; rw [h0] at h1; cases h1
    ·simp [Array.getElem?_eq_none h'] at h1
   obtain ⟨hap,hcl⟩:=hfree j oj hoj hji hjB hjun hnot
   have h1:tOp P tab ops oi (fun a w=>tOp P tab ops oj (anyT P tab ops Q fuel ((listed.setIfInBounds i true).setIfInBounds j true)) a w) a w :=
    tOp_mono (fun a' w' hk=>by
     have:=hk.2 j (ready_mono hj hji)
     unfold tAt at this; simp only [hoj] at this; exact this) H
   have h2:=tOp_swap hap hcl (hsel i oi hi) (hsel j oj hoj) h1
   have hfree':∀ k ok,ops[k]?=some ok→k≠i→k ∉ B→(listed.setIfInBounds j true).getD k true=false →
     (∀ e∈ok.after,Region.binds .any e=true→e.on≠i)→oi.apart ops ok=true∧(cls tab oi=0∨cls tab ok=0∨(cls tab oi=1∧cls tab ok=1)):=fun k ok hk hki hkB hun hno=>by
    refine hfree k ok hk hki hkB ?_ hno
    by_cases hjk:j=k
    ·subst hjk; exact hjun
    ·rw [getD_set_ne true hjk] at hun; exact hun
   unfold tAt; simp only [hoj]
   refine tOp_mono (fun a' w' h3=>ih (listed.setIfInBounds j true) a' w' (unl_set hu hjB) hfree' (ready_mono hr (Ne.symm hji)) ?_) h2
   rw [Array.setIfInBounds_comm _ _ hji]
   exact h3
theorem allB_spec {l:List Nat}:∀ (r:List Oper) (k:Nat),allB l k r=true→∀ j,j<r.length→memB l (k+j)=true
 | [],_,_,j,hj=>by simp at hj
 | o :: r,k,h,j,hj=>by
  simp only [allB,Bool.and_eq_true] at h
  cases j with
  | zero=>exact h.1
  | succ j=>rw [show k+(j+1)=k+1+j by omega]; exact allB_spec r (k+1) h.2 j (by simpa using hj)
theorem selsB_spec:∀ (l:List Oper),selsB l=true→∀ o∈l,noSel o
 | [],_,o,ho=>by cases ho
 | x :: l,h,o,ho=>by
  simp only [selsB,Bool.and_eq_true] at h
  cases ho with
  | head=>intro cs b he; have:=h.1; simp [selB,he] at this
  | tail _ ho=>exact selsB_spec l h.2 o ho
theorem tOp_and {o:Oper} {a:Act} {w:World} {K1 K2:Act→World→Prop} (hc:cls tab o=0∨cls tab o=1) (h1:tOp P tab ops o K1 a w) (h2:tOp P tab ops o K2 a w):tOp P tab ops o (fun a w=>K1 a w∧K2 a w) a w:=by
 unfold tOp at *
 by_cases hw:Region.wanted o (yielded ops a.tmps)=true
 ·simp only [hw,if_true] at h1 h2 ⊢
  unfold tRun at *
  rcases hc with hc | hc
  ·simp only [hc] at h1 h2 ⊢
   obtain ⟨v,hv,hk⟩:=h1
   obtain ⟨u,hu,hk2⟩:=h2
   have:u=v:=by have:=(hu w).symm.trans (hv w); simpa using this
   subst this
   exact ⟨u,hu,hk,hk2⟩
  ·simp only [hc] at h1 h2 ⊢
   obtain ⟨v,hv,hk⟩:=h1
   obtain ⟨u,hu,hk2⟩:=h2
   have:u=v:=by have:=hu.symm.trans hv; simpa using this
   subst this
   exact ⟨u,hu,hk,hk2⟩
 ·simp only [hw] at h1 h2 ⊢
  exact ⟨h1,h2⟩
theorem anyT_two {Q:Act→World→Prop} {i k:Nat} {oi ok:Oper} {B B':List Nat} (hw:Waits ops i B) (hw':Waits ops k B') (hi:ops[i]?=some oi) (hk:ops[k]?=some ok) (hik:i≠k) (hne:cls tab oi≠0∨cls tab ok≠0) (hsel:∀ (j:Nat) (o:Oper),ops[j]?=some o→noSel o) :
  ∀ (fuel:Nat) (listed:Array Bool) (a:Act) (w:World),(∀ j∈B,listed.getD j true=false)→(∀ j∈B',listed.getD j true=false) →
   (∀ j oj,ops[j]?=some oj→j≠i→j≠k→j ∉ B→j ∉ B'→listed.getD j true=false→(∀ e∈oj.after,Region.binds .any e=true→e.on≠i) →
    oi.apart ops oj=true∧(cls tab oi=0∨cls tab oj=0∨(cls tab oi=1∧cls tab oj=1))) →
   (∀ j oj,ops[j]?=some oj→j≠k→j≠i→j ∉ B'→j ∉ B→listed.getD j true=false→(∀ e∈oj.after,Region.binds .any e=true→e.on≠k) →
    ok.apart ops oj=true∧(cls tab ok=0∨cls tab oj=0∨(cls tab ok=1∧cls tab oj=1))) →
   i∈Region.ready .any ops listed→k∈Region.ready .any ops listed→tOp P tab ops oi (anyT P tab ops Q fuel (listed.setIfInBounds i true)) a w→tOp P tab ops ok (anyT P tab ops Q fuel (listed.setIfInBounds k true)) a w →
   anyT P tab ops Q (fuel+1) listed a w:=by
 intro fuel
 induction fuel with
 | zero =>
  intro listed a w _ _ _ _ hr hr2 H _
  obtain ⟨a',w',hh⟩:=tOp_some H
  have:=ready_mono hr2 (Ne.symm hik)
  rw [hh.1] at this
  cases this
 | succ fuel ih =>
  intro listed a w hu hu' hfree hfree2 hr hr2 H H2
  refine ⟨fun h=>(by rw [h] at hr; cases hr),fun j hj=>?_⟩
  by_cases hji:j=i
  ·subst hji; unfold tAt; simp only [hi]; exact H
  by_cases hjk:j=k
  ·subst hjk; unfold tAt; simp only [hk]; exact H2
  have hjB:=not_ready hw hu hj hji
  have hjB':=not_ready hw' hu' hj hjk
  obtain ⟨hjun,oj,hoj,hall⟩:=mem_ready.1 hj
  have hnot:∀ m,m∈Region.ready .any ops listed→∀ e∈oj.after,Region.binds .any e=true→e.on≠m:=fun m hm e he hb heq=>by
   have h1:=hall e he hb
   have h0:=(mem_ready.1 hm).1
   rw [heq] at h1
   rcases Nat.lt_or_ge m listed.size with h' | h'
   ·simp [h'] at h0 h1; rw [h0] at h1; cases h1
   ·simp [Array.getElem?_eq_none h'] at h1
  have side:∀ (m:Nat) (om:Oper),ops[m]?=some om→j≠m→om.apart ops oj=true→(cls tab om=0∨cls tab oj=0∨(cls tab om=1∧cls tab oj=1)) →
    tOp P tab ops om (anyT P tab ops Q (fuel+1) (listed.setIfInBounds m true)) a w →
    tOp P tab ops oj (fun a w=>tOp P tab ops om (anyT P tab ops Q fuel ((listed.setIfInBounds j true).setIfInBounds m true)) a w) a w:=by
   intro m om hm hjm hap hcl H
   have h1:tOp P tab ops om (fun a w=>tOp P tab ops oj (anyT P tab ops Q fuel ((listed.setIfInBounds m true).setIfInBounds j true)) a w) a w :=
    tOp_mono (fun a' w' hh=>by
     have:=hh.2 j (ready_mono hj hjm)
     unfold tAt at this; simp only [hoj] at this; exact this) H
   have h2:=tOp_swap hap hcl (hsel m om hm) (hsel j oj hoj) h1
   rw [Array.setIfInBounds_comm _ _ hjm]
   exact h2
  obtain ⟨hap,hcl⟩:=hfree j oj hoj hji hjk hjB hjB' hjun (hnot i hr)
  obtain ⟨hap2,hcl2⟩:=hfree2 j oj hoj hjk hji hjB' hjB hjun (hnot k hr2)
  have s1:=side i oi hi hji hap hcl H
  have s2:=side k ok hk hjk hap2 hcl2 H2
  have un:∀ m,m≠j→(listed.setIfInBounds j true).getD m true=false→listed.getD m true=false:=fun m hm h=>by rw [getD_set_ne true (Ne.symm hm)] at h; exact h
  have unj:∀ m,(listed.setIfInBounds j true).getD m true=false→listed.getD m true=false:=fun m h=>by
   by_cases hm:m=j
   ·subst hm; exact hjun
   ·exact un m hm h
  have both:tOp P tab ops oj (fun a w=>tOp P tab ops oi (anyT P tab ops Q fuel ((listed.setIfInBounds j true).setIfInBounds i true)) a w∧tOp P tab ops ok (anyT P tab ops Q fuel ((listed.setIfInBounds j true).setIfInBounds k true)) a w) a w:=by
   exact tOp_and (by omega) s1 s2
  unfold tAt; simp only [hoj]
  refine tOp_mono (fun a' w' h3=>ih (listed.setIfInBounds j true) a' w' (unl_set hu hjB) (unl_set hu' hjB') (fun m om hm h1 h2 h5 h6 h3 h4=>hfree m om hm h1 h2 h5 h6 (unj m h3) h4) (fun m om hm h1 h2 h5 h6 h3 h4=>hfree2 m om hm h1 h2 h5 h6 (unj m h3) h4) (ready_mono hr (Ne.symm hji)) (ready_mono hr2 (Ne.symm hjk)) h3.1 h3.2) both
theorem okAt_spec {l ex:List Nat} {i:Nat} {listed:Array Bool} (hr:Rel ops l listed) (h:okAt tab ops l ex i=true):∃ oi,ops[i]?=some oi∧i∈Region.ready .any ops listed∧(∀ j∈blocked ops i,listed.getD j true=false) ∧
  ∀ j oj,ops[j]?=some oj→j≠i→j ∉ ex→j ∉ blocked ops i→listed.getD j true=false→(∀ e∈oj.after,Region.binds .any e=true→e.on≠i)→oi.apart ops oj=true∧(cls tab oi=0∨cls tab oj=0∨(cls tab oi=1∧cls tab oj=1)):=by
 unfold okAt at h
 split at h
 ·cases h
 ·rename_i o ho
  simp only [Bool.and_eq_true] at h
  obtain ⟨⟨⟨h1,h2⟩,h5⟩,h3⟩:=h
  have ho':ops[i]?=some o:=by simpa using ho
  have his:i<ops.size:=(Array.getElem?_eq_some_iff.1 ho').1
  refine ⟨o,ho',mem_ready.2 ⟨?_,o,ho',fun e he hb=>?_⟩,fun j hj=>?_,fun j oj hj hji hex hbl hun hno=>?_⟩
  ·rw [hr.at_ i his]; simpa using h1
  ·have:=List.all_eq_true.1 h2 e (by simpa using he)
   simp only [hb,Bool.not_true,Bool.false_or] at this
   have hlt:e.on<ops.size:=hr.lt _ (memB_iff.1 this)
   have h4:=hr.at_ e.on hlt
   rw [this] at h4
   have h5:e.on<listed.size:=by rw [hr.size]; exact hlt
   simp [h5] at h4 ⊢
   exact h4
  ·have h6:=List.all_eq_true.1 h5 j hj
   have hjs:j<ops.size:=by
    by_cases hji:j=i
    ·rw [hji]; exact his
    ·obtain ⟨oj,h7,_⟩:=blocked_spec (ops:=ops) i j hj hji
     exact (Array.getElem?_eq_some_iff.1 h7).1
   rw [hr.at_ j hjs]
   simpa using h6
  ·have hjs:j<ops.size:=(Array.getElem?_eq_some_iff.1 hj).1
   have hun':memB l (0+j)=false:=by rw [Nat.zero_add,←hr.at_ j hjs]; exact hun
   exact freeO_spec ops.toList 0 h3 j oj (by simpa using hj) hun' (by omega) (by rw [Nat.zero_add]; exact hex) (by rw [Nat.zero_add]; exact hbl) hno
def depth:OT→Nat
 | .fin=>0
 | .one _ t=>depth t+1
 | .two _ t1 _ _=>depth t1+1
def evenB:OT→Bool
 | .fin=>true
 | .one _ t=>evenB t
 | .two _ t1 _ t2=>Nat.beq (depth t1) (depth t2) && evenB t1 && evenB t2
theorem okO_spec {Q:Act→World→Prop} (hsel:∀ (j:Nat) (o:Oper),ops[j]?=some o→noSel o):∀ (t:OT) (l:List Nat) (listed:Array Bool) (a:Act) (w:World),Rel ops l listed→evenB t=true→okO tab ops l t=true →
  wpO P tab ops Q t a w→anyT P tab ops Q (depth t) listed a w
 | .fin,l,listed,a,w,hr,_,hok,h=>by
  refine ⟨?_,h⟩
  cases hrd:Region.ready .any ops listed with
  | nil=>rfl
  | cons x xs =>
   have hx:x∈Region.ready .any ops listed:=by rw [hrd]; simp
   obtain ⟨h0,o,ho,_⟩:=mem_ready.1 hx
   have hlt:x<ops.size:=(Array.getElem?_eq_some_iff.1 ho).1
   have:=allB_spec ops.toList 0 hok x (by simpa using hlt)
   rw [hr.at_ x hlt] at h0
   rw [Nat.zero_add] at this
   rw [this] at h0; cases h0
 | .one i t,l,listed,a,w,hr,he,hok,h=>by
  simp only [okO,Bool.and_eq_true] at hok
  obtain ⟨oi,hi,hrd,hub,hfree⟩:=okAt_spec hr hok.1
  have his:i<ops.size:=(Array.getElem?_eq_some_iff.1 hi).1
  unfold wpO tAt at h
  simp only [hi] at h
  exact anyT_firstB hi (blocked_spec i) hsel (depth t) listed a w hub (fun j oj h1 h2 h5 h3 h4=>hfree j oj h1 h2 (by simp) h5 h3 h4) hrd
   (tOp_mono (fun a' w' hk=>okO_spec hsel t (i :: l) _ a' w' (hr.cons i his) he hok.2 hk) h)
 | .two i t1 k t2,l,listed,a,w,hr,he,hok,h=>by
  simp only [okO,Bool.and_eq_true] at hok
  simp only [evenB,Bool.and_eq_true] at he
  obtain ⟨⟨⟨⟨⟨hik,heff⟩,h1⟩,h2⟩,h3⟩,h4⟩:=hok
  have hne:i≠k:=fun e=>by subst e; simp [Nat.beq_refl] at hik
  obtain ⟨oi,hi,hrd,hub,hfree⟩:=okAt_spec hr h1
  obtain ⟨ok,hk,hrd2,hub2,hfree2⟩:=okAt_spec hr h2
  have his:i<ops.size:=(Array.getElem?_eq_some_iff.1 hi).1
  have hks:k<ops.size:=(Array.getElem?_eq_some_iff.1 hk).1
  have hd:depth t1=depth t2:=Nat.eq_of_beq_eq_true he.1.1
  have heff':cls tab oi≠0∨cls tab ok≠0:=by
   unfold hasEff at heff
   have e1:ops.toList[i]?=some oi:=by simpa using hi
   have e2:ops.toList[k]?=some ok:=by simpa using hk
   rw [e1,e2] at heff
   simp only [Bool.or_eq_true,Bool.not_eq_true'] at heff
   rcases heff with hh | hh
   ·exact .inl fun e=>by rw [e] at hh; simp [Nat.beq_refl] at hh
   ·exact .inr fun e=>by rw [e] at hh; simp [Nat.beq_refl] at hh
  unfold wpO tAt at h
  simp only [hi,hk] at h
  refine anyT_two (blocked_spec i) (blocked_spec k) hi hk hne heff' hsel (depth t1) listed a w hub hub2 (fun j oj h1 h2 h5 h6 h7 h3 h4=>hfree j oj h1 h2 (by simp [h5,h7]) h6 h3 h4) (fun j oj h1 h2 h5 h6 h7 h3 h4=>hfree2 j oj h1 h2 (by simp [h5,h7]) h6 h3 h4) hrd hrd2
   (tOp_mono (fun a' w' hk=>okO_spec hsel t1 (i :: l) _ a' w' (hr.cons i his) he.1.2 h3 hk) h.1) ?_
  rw [hd]
  exact tOp_mono (fun a' w' hk=>okO_spec hsel t2 (k :: l) _ a' w' (hr.cons k hks) he.2 h4 hk) h.2
def vcO (P:Program) (tab:Tab) (N:Nat) (ops:Array Oper) (K:Env→World→Prop):OT→Env→World→Prop
 | .fin,e,w=>K e w
 | .one i t,e,w=>match ops.toList[i]? with
  | none=>False
  | some o=>vcOps P tab N ops [o] e w fun e' w'=>vcO P tab N ops K t e' w'
 | .two i t1 j t2,e,w=>(match ops.toList[i]? with
  | none=>False
  | some o=>vcOps P tab N ops [o] e w fun e' w'=>vcO P tab N ops K t1 e' w')∧match ops.toList[j]? with
  | none=>False
  | some o=>vcOps P tab N ops [o] e w fun e' w'=>vcO P tab N ops K t2 e' w'
theorem vcO_wpO (hT:TabOk P tab) {K:Env→World→Prop} {K':Act→World→Prop} (hK:∀ e' w' a',rep N e' a'→K e' w'→K' a' w') (hdef:∀ o∈ops.toList,defB [o]=true):∀ (t:OT) (e:Env) (a:Act) (w:World),rep N e a→vcO P tab N ops K t e w→wpO P tab ops K' t a w
 | .fin,e,a,w,hr,h=>hK _ _ _ hr h
 | .one i t,e,a,w,hr,h=>by
  unfold vcO at h
  unfold wpO tAt
  cases ho:ops.toList[i]? with
  | none=>rw [ho] at h; exact h.elim
  | some o =>
   rw [ho] at h
   have ho':ops[i]?=some o:=by simpa using ho
   simp only [ho']
   exact vcOps_wpT hT (fun e' w' a' hr' hk=>vcO_wpO hT hK hdef t e' a' w' hr' hk) [o] e a w (hdef o (List.mem_of_getElem? ho)) hr h
 | .two i t1 j t2,e,a,w,hr,h=>by
  unfold vcO at h
  unfold wpO tAt
  refine ⟨?_,?_⟩
  ·cases ho:ops.toList[i]? with
   | none=>rw [ho] at h; exact h.1.elim
   | some o =>
    rw [ho] at h
    have ho':ops[i]?=some o:=by simpa using ho
    simp only [ho']
    exact vcOps_wpT hT (fun e' w' a' hr' hk=>vcO_wpO hT hK hdef t1 e' a' w' hr' hk) [o] e a w (hdef o (List.mem_of_getElem? ho)) hr h.1
  ·cases ho:ops.toList[j]? with
   | none=>rw [ho] at h; exact h.2.elim
   | some o =>
    rw [ho] at h
    have ho':ops[j]?=some o:=by simpa using ho
    simp only [ho']
    exact vcOps_wpT hT (fun e' w' a' hr' hk=>vcO_wpO hT hK hdef t2 e' a' w' hr' hk) [o] e a w (hdef o (List.mem_of_getElem? ho)) hr h.2
def defsB:List Oper→Bool
 | []=>true
 | o :: r=>defB [o] && defsB r
theorem defsB_spec:∀ (l:List Oper),defsB l=true→∀ o∈l,defB [o]=true
 | [],_,o,ho=>by cases ho
 | x :: l,h,o,ho=>by
  simp only [defsB,Bool.and_eq_true] at h
  cases ho with
  | head=>exact h.1
  | tail _ ho=>exact defsB_spec l h.2 o ho
def treeB (tab:Tab) (ops:Array Oper) (t:OT):Bool:=selsB ops.toList && defsB ops.toList && evenB t && Nat.beq (depth t) ops.toList.length && okO tab ops [] t
theorem W_tree (hT:TabOk P tab) (hm:P.follows .mixedOrders=true) {id:Nat} (t:OT) (hB:treeB tab ops t=true) {e:Env} {w:World} {K:Kont} (h:vcO P tab N ops (fun e' w'=>K .normal e' w') t e w.drew):W P N (.region id ops true) e w K:=by
 intro a hr
 simp only [treeB,Bool.and_eq_true] at hB
 obtain ⟨⟨⟨⟨h1,h2⟩,h3⟩,h4⟩,h5⟩:=hB
 have hd:depth t=ops.size:=by have:=Nat.eq_of_beq_eq_true h4; simpa using this
 refine wp_region_any hm ?_
 refine wpAny_of_anyT (tab:=tab) (Q:=fun a' w'=>∃ e',rep N e' a'∧K .normal e' w') (fun _ _ h=>h) _ _ _ _ ?_
 rw [←hd]
 refine okO_spec (fun j o ho=>selsB_spec ops.toList h1 o (by simpa using Array.mem_of_getElem? ho)) t [] _ a w.drew ⟨by simp [hd],fun j hj=>?_,by simp⟩ h3 h5 (vcO_wpO hT (fun e' w' a' hr' hK=>⟨e',hr',hK⟩) (defsB_spec ops.toList h2) t e a w.drew hr h)
 simp [memB,hd,hj]
end
end Go.Proofs.YtlkjiiibmfpbcaaGreatDoor
namespace Go.Proofs.YtlkjiiibmfpbcaaGreatDoor
open Go
set_option maxRecDepth 100000
set_option linter.unusedVariables false
def regOpsU:Code→Array Oper
 | .region _ ops _=>ops
 | _=>#[]
noncomputable def F116.o3:Array Oper:=regOpsU F116.p3
theorem F116.q3:F116.p3=.region 6 F116.o3 true:=by kernel_rfl
def F116.tr3:OT:=(.one 0 (.one 1 (.one 2 (.one 3 (.one 6 (.one 7 (.one 8 (.one 4 (.two 5 (.one 9 (.one 10 (.one 11 (.one 12 (.one 13 .fin))))) 9 (.one 10 (.two 5 (.one 11 (.one 12 (.one 13 .fin))) 11 (.one 5 (.one 12 (.one 13 .fin))))))))))))))
theorem F116.ok3:treeB tab F116.o3 F116.tr3=true:=by kernel_rfl
abbrev F116.l3 (stk0:Option Addr) (z1a:Option Addr) (z1l:Nat) (z1c:Nat) (x2a:Option Addr) (x2l:Nat) (x2c:Nat) (n2_7:Int):List (Nat × Value):=[(0,(.pointer stk0)),(1,(.slice z1a z1l z1c)),(2,(.slice x2a x2l x2c)),(7,(.int .i64 n2_7))]
def F116.v3 (stk0:Option Addr) (z1a:Option Addr) (z1l:Nat) (z1c:Nat) (x2a:Option Addr) (x2l:Nat) (x2c:Nat) (n2_7:Int) (B:Nat→Value) (ds:List Deferred) (w:World) (K:Kont):Prop :=
 (∃ h_2:Nat,n2_7=(h_2:Int)∧h_2≤x2c∧(Calls Tryz.prog 46 #[(.slice x2a h_2 x2c)] (World.drew w) fun r_4 w_5=>(∃ x_6a,∃ x_6l,∃ x_6c,r_4=.returned (.slice x_6a x_6l x_6c)∧(∃ i_7:Nat,n2_7=(i_7:Int)∧i_7≤x2l∧((Calls Tryz.prog 46 #[(.slice (shifted x2a i_7 x2c 1) (x2l-i_7) (x2c-i_7))] (World.alloc w_5 (.cells #[(.bool false),(.slice x_6a x_6l x_6c)] 47)) fun r_10 w_11=>(∃ x_12a,∃ x_12l,∃ x_12c,r_10=.returned (.slice x_12a x_12l x_12c)∧(K .normal (E [(9,(.pointer (some ⟨(World.heap w_11).size,0,none⟩))),(8,(.pointer (some ⟨(World.heap w_5).size,0,none⟩))),(47,(.pointer (some ⟨(World.heap w_11).size,0,none⟩))),(46,(.agg #[(.bool false),(.slice x_12a x_12l x_12c)])),(45,(.slice x_12a x_12l x_12c)),(41,(.pointer (some ⟨(World.heap w_5).size,0,none⟩))),(40,(.agg #[(.bool false),(.slice x_6a x_6l x_6c)])),(44,(.slice (shifted x2a i_7 x2c 1) (x2l-i_7) (x2c-i_7))),(43,(.int .i64 n2_7)),(42,(.slice x2a x2l x2c)),(39,(.slice x_6a x_6l x_6c)),(38,(.slice x2a h_2 x2c)),(37,(.int .i64 n2_7)),(36,(.slice x2a x2l x2c)),(0,(.pointer stk0)),(1,(.slice z1a z1l z1c)),(2,(.slice x2a x2l x2c)),(7,(.int .i64 n2_7))] B ds) (World.alloc w_11 (.cells #[(.bool false),(.slice x_12a x_12l x_12c)] 47)))))∧(Calls Tryz.prog 46 #[(.slice (shifted x2a i_7 x2c 1) (x2l-i_7) (x2c-i_7))] w_5 fun r_13 w_14=>(∃ x_15a,∃ x_15l,∃ x_15c,r_13=.returned (.slice x_15a x_15l x_15c)∧((K .normal (E [(9,(.pointer (some ⟨(World.heap (World.alloc w_14 (.cells #[(.bool false),(.slice x_6a x_6l x_6c)] 47))).size,0,none⟩))),(8,(.pointer (some ⟨(World.heap w_14).size,0,none⟩))),(47,(.pointer (some ⟨(World.heap (World.alloc w_14 (.cells #[(.bool false),(.slice x_6a x_6l x_6c)] 47))).size,0,none⟩))),(41,(.pointer (some ⟨(World.heap w_14).size,0,none⟩))),(46,(.agg #[(.bool false),(.slice x_15a x_15l x_15c)])),(45,(.slice x_15a x_15l x_15c)),(40,(.agg #[(.bool false),(.slice x_6a x_6l x_6c)])),(44,(.slice (shifted x2a i_7 x2c 1) (x2l-i_7) (x2c-i_7))),(43,(.int .i64 n2_7)),(42,(.slice x2a x2l x2c)),(39,(.slice x_6a x_6l x_6c)),(38,(.slice x2a h_2 x2c)),(37,(.int .i64 n2_7)),(36,(.slice x2a x2l x2c)),(0,(.pointer stk0)),(1,(.slice z1a z1l z1c)),(2,(.slice x2a x2l x2c)),(7,(.int .i64 n2_7))] B ds) (World.alloc (World.alloc w_14 (.cells #[(.bool false),(.slice x_6a x_6l x_6c)] 47)) (.cells #[(.bool false),(.slice x_15a x_15l x_15c)] 47)))∧(K .normal (E [(9,(.pointer (some ⟨(World.heap w_14).size,0,none⟩))),(8,(.pointer (some ⟨(World.heap (World.alloc w_14 (.cells #[(.bool false),(.slice x_15a x_15l x_15c)] 47))).size,0,none⟩))),(41,(.pointer (some ⟨(World.heap (World.alloc w_14 (.cells #[(.bool false),(.slice x_15a x_15l x_15c)] 47))).size,0,none⟩))),(47,(.pointer (some ⟨(World.heap w_14).size,0,none⟩))),(46,(.agg #[(.bool false),(.slice x_15a x_15l x_15c)])),(45,(.slice x_15a x_15l x_15c)),(40,(.agg #[(.bool false),(.slice x_6a x_6l x_6c)])),(44,(.slice (shifted x2a i_7 x2c 1) (x2l-i_7) (x2c-i_7))),(43,(.int .i64 n2_7)),(42,(.slice x2a x2l x2c)),(39,(.slice x_6a x_6l x_6c)),(38,(.slice x2a h_2 x2c)),(37,(.int .i64 n2_7)),(36,(.slice x2a x2l x2c)),(0,(.pointer stk0)),(1,(.slice z1a z1l z1c)),(2,(.slice x2a x2l x2c)),(7,(.int .i64 n2_7))] B ds) (World.alloc (World.alloc w_14 (.cells #[(.bool false),(.slice x_15a x_15l x_15c)] 47)) (.cells #[(.bool false),(.slice x_6a x_6l x_6c)] 47)))))))))))
section
variable (stk0:Option Addr) (z1a:Option Addr) (z1l:Nat) (z1c:Nat) (x2a:Option Addr) (x2l:Nat) (x2c:Nat) (n2_7:Int)
theorem F116.e3 (B:Nat→Value) (ds:List Deferred) (w:World) (K:Kont):F116.v3 stk0 z1a z1l z1c x2a x2l x2c n2_7 B ds w K=vcO Tryz.prog tab 138 F116.o3 (fun e' w'=>K .normal e' w') F116.tr3 (E (F116.l3 stk0 z1a z1l z1c x2a x2l x2c n2_7) B ds) w.drew:=by kernel_rfl
theorem F116.t3 {e:Env} {w:World} {K:Kont} (ha:agree e (F116.l3 stk0 z1a z1l z1c x2a x2l x2c n2_7)) (h:∀ B,F116.v3 stk0 z1a z1l z1c x2a x2l x2c n2_7 B e.defers w K):W Tryz.prog 138 F116.p3 e w K:=by
 rw [F116.q3]
 exact W_agree _ ha fun B=>W_tree tabOk mixed F116.tr3 F116.ok3 (Eq.mp (F116.e3 stk0 z1a z1l z1c x2a x2l x2c n2_7 B _ w K) (h B))
end
noncomputable def F118.o3:Array Oper:=regOpsU F118.p3
theorem F118.q3:F118.p3=.region 6 F118.o3 true:=by kernel_rfl
def F118.tr3:OT:=(.one 0 (.one 1 (.one 2 (.one 3 (.one 6 (.one 7 (.one 8 (.one 4 (.two 5 (.one 9 (.one 10 (.one 11 (.one 12 (.one 13 .fin))))) 9 (.one 10 (.two 5 (.one 11 (.one 12 (.one 13 .fin))) 11 (.one 5 (.one 12 (.one 13 .fin))))))))))))))
theorem F118.ok3:treeB tab F118.o3 F118.tr3=true:=by kernel_rfl
abbrev F118.l3 (stk0:Option Addr) (z1a:Option Addr) (z1l:Nat) (z1c:Nat) (x2a:Option Addr) (x2l:Nat) (x2c:Nat) (y3a:Option Addr) (y3l:Nat) (y3c:Nat) (n2_9:Int):List (Nat × Value):=[(0,(.pointer stk0)),(1,(.slice z1a z1l z1c)),(2,(.slice x2a x2l x2c)),(3,(.slice y3a y3l y3c)),(9,(.int .i64 n2_9))]
def F118.v3 (stk0:Option Addr) (z1a:Option Addr) (z1l:Nat) (z1c:Nat) (x2a:Option Addr) (x2l:Nat) (x2c:Nat) (y3a:Option Addr) (y3l:Nat) (y3c:Nat) (n2_9:Int) (B:Nat→Value) (ds:List Deferred) (w:World) (K:Kont):Prop :=
 (∃ h_2:Nat,n2_9=(h_2:Int)∧h_2≤x2c∧(Calls Tryz.prog 46 #[(.slice x2a h_2 x2c)] (World.drew w) fun r_4 w_5=>(∃ x_6a,∃ x_6l,∃ x_6c,r_4=.returned (.slice x_6a x_6l x_6c)∧(∃ i_7:Nat,n2_9=(i_7:Int)∧i_7≤x2l∧((Calls Tryz.prog 46 #[(.slice (shifted x2a i_7 x2c 1) (x2l-i_7) (x2c-i_7))] (World.alloc w_5 (.cells #[(.bool false),(.slice x_6a x_6l x_6c)] 47)) fun r_10 w_11=>(∃ x_12a,∃ x_12l,∃ x_12c,r_10=.returned (.slice x_12a x_12l x_12c)∧(K .normal (E [(11,(.pointer (some ⟨(World.heap w_11).size,0,none⟩))),(10,(.pointer (some ⟨(World.heap w_5).size,0,none⟩))),(58,(.pointer (some ⟨(World.heap w_11).size,0,none⟩))),(57,(.agg #[(.bool false),(.slice x_12a x_12l x_12c)])),(56,(.slice x_12a x_12l x_12c)),(52,(.pointer (some ⟨(World.heap w_5).size,0,none⟩))),(51,(.agg #[(.bool false),(.slice x_6a x_6l x_6c)])),(55,(.slice (shifted x2a i_7 x2c 1) (x2l-i_7) (x2c-i_7))),(54,(.int .i64 n2_9)),(53,(.slice x2a x2l x2c)),(50,(.slice x_6a x_6l x_6c)),(49,(.slice x2a h_2 x2c)),(48,(.int .i64 n2_9)),(47,(.slice x2a x2l x2c)),(0,(.pointer stk0)),(1,(.slice z1a z1l z1c)),(2,(.slice x2a x2l x2c)),(3,(.slice y3a y3l y3c)),(9,(.int .i64 n2_9))] B ds) (World.alloc w_11 (.cells #[(.bool false),(.slice x_12a x_12l x_12c)] 47)))))∧(Calls Tryz.prog 46 #[(.slice (shifted x2a i_7 x2c 1) (x2l-i_7) (x2c-i_7))] w_5 fun r_13 w_14=>(∃ x_15a,∃ x_15l,∃ x_15c,r_13=.returned (.slice x_15a x_15l x_15c)∧((K .normal (E [(11,(.pointer (some ⟨(World.heap (World.alloc w_14 (.cells #[(.bool false),(.slice x_6a x_6l x_6c)] 47))).size,0,none⟩))),(10,(.pointer (some ⟨(World.heap w_14).size,0,none⟩))),(58,(.pointer (some ⟨(World.heap (World.alloc w_14 (.cells #[(.bool false),(.slice x_6a x_6l x_6c)] 47))).size,0,none⟩))),(52,(.pointer (some ⟨(World.heap w_14).size,0,none⟩))),(57,(.agg #[(.bool false),(.slice x_15a x_15l x_15c)])),(56,(.slice x_15a x_15l x_15c)),(51,(.agg #[(.bool false),(.slice x_6a x_6l x_6c)])),(55,(.slice (shifted x2a i_7 x2c 1) (x2l-i_7) (x2c-i_7))),(54,(.int .i64 n2_9)),(53,(.slice x2a x2l x2c)),(50,(.slice x_6a x_6l x_6c)),(49,(.slice x2a h_2 x2c)),(48,(.int .i64 n2_9)),(47,(.slice x2a x2l x2c)),(0,(.pointer stk0)),(1,(.slice z1a z1l z1c)),(2,(.slice x2a x2l x2c)),(3,(.slice y3a y3l y3c)),(9,(.int .i64 n2_9))] B ds) (World.alloc (World.alloc w_14 (.cells #[(.bool false),(.slice x_6a x_6l x_6c)] 47)) (.cells #[(.bool false),(.slice x_15a x_15l x_15c)] 47)))∧(K .normal (E [(11,(.pointer (some ⟨(World.heap w_14).size,0,none⟩))),(10,(.pointer (some ⟨(World.heap (World.alloc w_14 (.cells #[(.bool false),(.slice x_15a x_15l x_15c)] 47))).size,0,none⟩))),(52,(.pointer (some ⟨(World.heap (World.alloc w_14 (.cells #[(.bool false),(.slice x_15a x_15l x_15c)] 47))).size,0,none⟩))),(58,(.pointer (some ⟨(World.heap w_14).size,0,none⟩))),(57,(.agg #[(.bool false),(.slice x_15a x_15l x_15c)])),(56,(.slice x_15a x_15l x_15c)),(51,(.agg #[(.bool false),(.slice x_6a x_6l x_6c)])),(55,(.slice (shifted x2a i_7 x2c 1) (x2l-i_7) (x2c-i_7))),(54,(.int .i64 n2_9)),(53,(.slice x2a x2l x2c)),(50,(.slice x_6a x_6l x_6c)),(49,(.slice x2a h_2 x2c)),(48,(.int .i64 n2_9)),(47,(.slice x2a x2l x2c)),(0,(.pointer stk0)),(1,(.slice z1a z1l z1c)),(2,(.slice x2a x2l x2c)),(3,(.slice y3a y3l y3c)),(9,(.int .i64 n2_9))] B ds) (World.alloc (World.alloc w_14 (.cells #[(.bool false),(.slice x_15a x_15l x_15c)] 47)) (.cells #[(.bool false),(.slice x_6a x_6l x_6c)] 47)))))))))))
section
variable (stk0:Option Addr) (z1a:Option Addr) (z1l:Nat) (z1c:Nat) (x2a:Option Addr) (x2l:Nat) (x2c:Nat) (y3a:Option Addr) (y3l:Nat) (y3c:Nat) (n2_9:Int)
theorem F118.e3 (B:Nat→Value) (ds:List Deferred) (w:World) (K:Kont):F118.v3 stk0 z1a z1l z1c x2a x2l x2c y3a y3l y3c n2_9 B ds w K=vcO Tryz.prog tab 145 F118.o3 (fun e' w'=>K .normal e' w') F118.tr3 (E (F118.l3 stk0 z1a z1l z1c x2a x2l x2c y3a y3l y3c n2_9) B ds) w.drew:=by kernel_rfl
theorem F118.t3 {e:Env} {w:World} {K:Kont} (ha:agree e (F118.l3 stk0 z1a z1l z1c x2a x2l x2c y3a y3l y3c n2_9)) (h:∀ B,F118.v3 stk0 z1a z1l z1c x2a x2l x2c y3a y3l y3c n2_9 B e.defers w K):W Tryz.prog 145 F118.p3 e w K:=by
 rw [F118.q3]
 exact W_agree _ ha fun B=>W_tree tabOk mixed F118.tr3 F118.ok3 (Eq.mp (F118.e3 stk0 z1a z1l z1c x2a x2l x2c y3a y3l y3c n2_9 B _ w K) (h B))
end
noncomputable def F118.o5:Array Oper:=regOpsU F118.p5
theorem F118.q5:F118.p5=.region 7 F118.o5 true:=by kernel_rfl
def F118.tr5:OT:=(.one 0 (.one 1 (.one 2 (.one 3 (.one 6 (.one 7 (.one 8 (.one 4 (.two 5 (.one 9 (.one 10 (.one 11 (.one 12 (.one 13 .fin))))) 9 (.one 10 (.two 5 (.one 11 (.one 12 (.one 13 .fin))) 11 (.one 5 (.one 12 (.one 13 .fin))))))))))))))
theorem F118.ok5:treeB tab F118.o5 F118.tr5=true:=by kernel_rfl
abbrev F118.l5 (stk0:Option Addr) (z1a:Option Addr) (z1l:Nat) (z1c:Nat) (y3a:Option Addr) (y3l:Nat) (y3c:Nat) (n2_9:Int) (x0_10:Option Addr) (x1_11:Option Addr):List (Nat × Value):=[(0,(.pointer stk0)),(1,(.slice z1a z1l z1c)),(3,(.slice y3a y3l y3c)),(9,(.int .i64 n2_9)),(10,(.pointer x0_10)),(11,(.pointer x1_11))]
def F118.v5 (stk0:Option Addr) (z1a:Option Addr) (z1l:Nat) (z1c:Nat) (y3a:Option Addr) (y3l:Nat) (y3c:Nat) (n2_9:Int) (x0_10:Option Addr) (x1_11:Option Addr) (B:Nat→Value) (ds:List Deferred) (w:World) (K:Kont):Prop :=
 (∃ h_2:Nat,n2_9=(h_2:Int)∧h_2≤y3c∧(Calls Tryz.prog 46 #[(.slice y3a h_2 y3c)] (World.drew w) fun r_4 w_5=>(∃ x_6a,∃ x_6l,∃ x_6c,r_4=.returned (.slice x_6a x_6l x_6c)∧(∃ i_7:Nat,n2_9=(i_7:Int)∧i_7≤y3l∧((Calls Tryz.prog 46 #[(.slice (shifted y3a i_7 y3c 1) (y3l-i_7) (y3c-i_7))] (World.alloc w_5 (.cells #[(.bool false),(.slice x_6a x_6l x_6c)] 47)) fun r_10 w_11=>(∃ x_12a,∃ x_12l,∃ x_12c,r_10=.returned (.slice x_12a x_12l x_12c)∧(K .normal (E [(13,(.pointer (some ⟨(World.heap w_11).size,0,none⟩))),(12,(.pointer (some ⟨(World.heap w_5).size,0,none⟩))),(70,(.pointer (some ⟨(World.heap w_11).size,0,none⟩))),(69,(.agg #[(.bool false),(.slice x_12a x_12l x_12c)])),(68,(.slice x_12a x_12l x_12c)),(64,(.pointer (some ⟨(World.heap w_5).size,0,none⟩))),(63,(.agg #[(.bool false),(.slice x_6a x_6l x_6c)])),(67,(.slice (shifted y3a i_7 y3c 1) (y3l-i_7) (y3c-i_7))),(66,(.int .i64 n2_9)),(65,(.slice y3a y3l y3c)),(62,(.slice x_6a x_6l x_6c)),(61,(.slice y3a h_2 y3c)),(60,(.int .i64 n2_9)),(59,(.slice y3a y3l y3c)),(0,(.pointer stk0)),(1,(.slice z1a z1l z1c)),(3,(.slice y3a y3l y3c)),(9,(.int .i64 n2_9)),(10,(.pointer x0_10)),(11,(.pointer x1_11))] B ds) (World.alloc w_11 (.cells #[(.bool false),(.slice x_12a x_12l x_12c)] 47)))))∧(Calls Tryz.prog 46 #[(.slice (shifted y3a i_7 y3c 1) (y3l-i_7) (y3c-i_7))] w_5 fun r_13 w_14=>(∃ x_15a,∃ x_15l,∃ x_15c,r_13=.returned (.slice x_15a x_15l x_15c)∧((K .normal (E [(13,(.pointer (some ⟨(World.heap (World.alloc w_14 (.cells #[(.bool false),(.slice x_6a x_6l x_6c)] 47))).size,0,none⟩))),(12,(.pointer (some ⟨(World.heap w_14).size,0,none⟩))),(70,(.pointer (some ⟨(World.heap (World.alloc w_14 (.cells #[(.bool false),(.slice x_6a x_6l x_6c)] 47))).size,0,none⟩))),(64,(.pointer (some ⟨(World.heap w_14).size,0,none⟩))),(69,(.agg #[(.bool false),(.slice x_15a x_15l x_15c)])),(68,(.slice x_15a x_15l x_15c)),(63,(.agg #[(.bool false),(.slice x_6a x_6l x_6c)])),(67,(.slice (shifted y3a i_7 y3c 1) (y3l-i_7) (y3c-i_7))),(66,(.int .i64 n2_9)),(65,(.slice y3a y3l y3c)),(62,(.slice x_6a x_6l x_6c)),(61,(.slice y3a h_2 y3c)),(60,(.int .i64 n2_9)),(59,(.slice y3a y3l y3c)),(0,(.pointer stk0)),(1,(.slice z1a z1l z1c)),(3,(.slice y3a y3l y3c)),(9,(.int .i64 n2_9)),(10,(.pointer x0_10)),(11,(.pointer x1_11))] B ds) (World.alloc (World.alloc w_14 (.cells #[(.bool false),(.slice x_6a x_6l x_6c)] 47)) (.cells #[(.bool false),(.slice x_15a x_15l x_15c)] 47)))∧(K .normal (E [(13,(.pointer (some ⟨(World.heap w_14).size,0,none⟩))),(12,(.pointer (some ⟨(World.heap (World.alloc w_14 (.cells #[(.bool false),(.slice x_15a x_15l x_15c)] 47))).size,0,none⟩))),(64,(.pointer (some ⟨(World.heap (World.alloc w_14 (.cells #[(.bool false),(.slice x_15a x_15l x_15c)] 47))).size,0,none⟩))),(70,(.pointer (some ⟨(World.heap w_14).size,0,none⟩))),(69,(.agg #[(.bool false),(.slice x_15a x_15l x_15c)])),(68,(.slice x_15a x_15l x_15c)),(63,(.agg #[(.bool false),(.slice x_6a x_6l x_6c)])),(67,(.slice (shifted y3a i_7 y3c 1) (y3l-i_7) (y3c-i_7))),(66,(.int .i64 n2_9)),(65,(.slice y3a y3l y3c)),(62,(.slice x_6a x_6l x_6c)),(61,(.slice y3a h_2 y3c)),(60,(.int .i64 n2_9)),(59,(.slice y3a y3l y3c)),(0,(.pointer stk0)),(1,(.slice z1a z1l z1c)),(3,(.slice y3a y3l y3c)),(9,(.int .i64 n2_9)),(10,(.pointer x0_10)),(11,(.pointer x1_11))] B ds) (World.alloc (World.alloc w_14 (.cells #[(.bool false),(.slice x_15a x_15l x_15c)] 47)) (.cells #[(.bool false),(.slice x_6a x_6l x_6c)] 47)))))))))))
section
variable (stk0:Option Addr) (z1a:Option Addr) (z1l:Nat) (z1c:Nat) (y3a:Option Addr) (y3l:Nat) (y3c:Nat) (n2_9:Int) (x0_10:Option Addr) (x1_11:Option Addr)
theorem F118.e5 (B:Nat→Value) (ds:List Deferred) (w:World) (K:Kont):F118.v5 stk0 z1a z1l z1c y3a y3l y3c n2_9 x0_10 x1_11 B ds w K=vcO Tryz.prog tab 145 F118.o5 (fun e' w'=>K .normal e' w') F118.tr5 (E (F118.l5 stk0 z1a z1l z1c y3a y3l y3c n2_9 x0_10 x1_11) B ds) w.drew:=by kernel_rfl
theorem F118.t5 {e:Env} {w:World} {K:Kont} (ha:agree e (F118.l5 stk0 z1a z1l z1c y3a y3l y3c n2_9 x0_10 x1_11)) (h:∀ B,F118.v5 stk0 z1a z1l z1c y3a y3l y3c n2_9 x0_10 x1_11 B e.defers w K):W Tryz.prog 145 F118.p5 e w K:=by
 rw [F118.q5]
 exact W_agree _ ha fun B=>W_tree tabOk mixed F118.tr5 F118.ok5 (Eq.mp (F118.e5 stk0 z1a z1l z1c y3a y3l y3c n2_9 x0_10 x1_11 B _ w K) (h B))
end
end Go.Proofs.YtlkjiiibmfpbcaaGreatDoor
