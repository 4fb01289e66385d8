/- A region that draws its order: if what its operations do with memory is ordered by its edges, one walk in the order of the text serves. Conditions: the closed check 'chainB'. -/
import Derived.Test.YtlkjiiibmfpbcaaGreatDoorS02
namespace Go.Proofs.YtlkjiiibmfpbcaaGreatDoor
open Go
section
variable {P:Program} {tab:Tab} {ops:Array Oper}
theorem sres_mono {K K':Value→World→Prop} {r:Result Next} (h:∀ v w,K v w→K' v w) (hh:sres P K r):sres P K' r:=by
 cases r with
 | ok n w=>cases n <;> simp only [sres] at hh ⊢ <;> first
  | exact h _ _ hh
  | exact Calls.mono hh fun e w'' ⟨v,he,hk⟩=>⟨v,he,h _ _ hk⟩
 | halt x w=>exact hh
theorem sres_false {K:Value→World→Prop} {r:Result Next} (hh:sres P K r):∃ v w,K v w:=by
 cases r with
 | ok n w =>
  cases n <;> simp only [sres] at hh
  case enter f args=>obtain ⟨e,w',fr,⟨v,_,hk⟩,_⟩:=hh []; exact ⟨_,_,hk⟩
  all_goals exact ⟨_,_,hh⟩
 | halt x w=>exact hh.elim
def tRun (P:Program) (tab:Tab) (o:Oper) (a:Act) (w:World) (K:Value→World→Prop):Prop :=
 match cls tab o with
 | 0=>∃ v,(∀ w',(execOp a.eval o).run P w'=.ok (.value v) w')∧K v w
 | 1=>∃ v,(execOp a.eval o).run P w=.ok (.value v) w∧K v w
 | _=>sres P K ((execOp a.eval o).run P w)
theorem tRun_sres {o:Oper} {a:Act} {w:World} {K:Value→World→Prop} (h:tRun P tab o a w K):sres P K ((execOp a.eval o).run P w):=by
 unfold tRun at h
 split at h
 ·obtain ⟨v,hv,hk⟩:=h; rw [hv]; exact hk
 ·obtain ⟨v,hv,hk⟩:=h; rw [hv]; exact hk
 ·exact h
theorem tRun_mono {o:Oper} {a:Act} {w:World} {K K':Value→World→Prop} (h:∀ v w,K v w→K' v w) (hh:tRun P tab o a w K):tRun P tab o a w K':=by
 unfold tRun at hh ⊢
 split at hh
 ·obtain ⟨v,hv,hk⟩:=hh; exact ⟨v,hv,h _ _ hk⟩
 ·obtain ⟨v,hv,hk⟩:=hh; exact ⟨v,hv,h _ _ hk⟩
 ·exact sres_mono h hh
theorem tRun_congr {o:Oper} {a a':Act} {w:World} {K:Value→World→Prop} (he:execOp a'.eval o=execOp a.eval o) (h:tRun P tab o a w K):tRun P tab o a' w K:=by
 unfold tRun at *; rw [he]; exact h
def tOp (P:Program) (tab:Tab) (ops:Array Oper) (o:Oper) (K:Act→World→Prop) (a:Act) (w:World):Prop :=
 if Region.wanted o (yielded ops a.tmps) then tRun P tab o a w (fun v w'=>K (a.put o.dst v) w') else K (a.put o.dst undef) w
theorem tOp_mono {o:Oper} {a:Act} {w:World} {K K':Act→World→Prop} (h:∀ a w,K a w→K' a w) (hh:tOp P tab ops o K a w):tOp P tab ops o K' a w:=by
 unfold tOp at *
 split
 ·rename_i hw; simp only [hw,if_true] at hh; exact tRun_mono (fun v w hk=>h _ _ hk) hh
 ·rename_i hw; simp only [hw] at hh; exact h _ _ hh
theorem tOp_some {o:Oper} {a:Act} {w:World} {K:Act→World→Prop} (hh:tOp P tab ops o K a w):∃ a' w',K a' w':=by
 unfold tOp at hh
 split at hh
 ·obtain ⟨v,w',hk⟩:=sres_false (tRun_sres hh); exact ⟨_,_,hk⟩
 ·exact ⟨_,_,hh⟩
def noSel (o:Oper):Prop:=∀ cs b,o.op≠.select cs b
theorem tOp_swap {x y:Oper} (hap:x.apart ops y=true) (hc:cls tab x=0∨cls tab y=0∨(cls tab x=1∧cls tab y=1)) (sx:noSel x) (sy:noSel y)
  {K:Act→World→Prop} {a:Act} {w:World} (h:tOp P tab ops x (fun a w=>tOp P tab ops y K a w) a w):tOp P tab ops y (fun a w=>tOp P tab ops x K a w) a w:=by
 obtain ⟨h1,h2,h3⟩:=Oper.apart_spec hap
 have wy:∀ (a:Act) (v:Value),Region.wanted y (yielded ops (a.put x.dst v).tmps)=Region.wanted y (yielded ops a.tmps):=fun a v=>wanted_put y a x.dst v h1
 have wx:∀ (a:Act) (v:Value),Region.wanted x (yielded ops (a.put y.dst v).tmps)=Region.wanted x (yielded ops a.tmps):=fun a v=>wanted_put x a y.dst v h3
 have ey:∀ (a:Act) (v:Value),execOp (a.put x.dst v).eval y=execOp a.eval y:=fun a v=>execOp_put y sy a x.dst v h1
 have ex:∀ (a:Act) (v:Value),execOp (a.put y.dst v).eval x=execOp a.eval x:=fun a v=>execOp_put x sx a y.dst v h3
 have cm:∀ (a:Act) (v u:Value),(a.put y.dst u).put x.dst v=(a.put x.dst v).put y.dst u:=fun a v u=>(Act.put_comm a v u h2).symm
 have k1:∀ (a:Act) (v u:Value) (w:World),K ((a.put x.dst v).put y.dst u) w→K ((a.put y.dst u).put x.dst v) w:=fun a v u w h=>by rw [cm]; exact h
 unfold tOp at h ⊢
 simp only [wy,wx] at h ⊢
 by_cases hx:Region.wanted x (yielded ops a.tmps)=true
 ·by_cases hy:Region.wanted y (yielded ops a.tmps)=true
  ·simp only [hx,hy,if_true] at h ⊢
   have h':tRun P tab x a w fun v w'=>tRun P tab y a w' fun u w''=>K ((a.put x.dst v).put y.dst u) w'' :=
    tRun_mono (fun v w' hk=>tRun_congr (ey a v).symm hk) h
   suffices hs:tRun P tab y a w fun u w'=>tRun P tab x a w' fun v w''=>K ((a.put x.dst v).put y.dst u) w'' from
    tRun_mono (fun u w' hk=>tRun_congr (ex a u) (tRun_mono (fun v w'' hk=>k1 a v u w'' hk) hk)) hs
   clear h
   rcases hc with hc | hc | ⟨hc1,hc2⟩
   ·unfold tRun at h'
    simp only [hc] at h'
    obtain ⟨v,hv,hk⟩:=h'
    refine tRun_mono (fun u w' hk=>?_) (show tRun P tab y a w _ from hk)
    unfold tRun
    simp only [hc]
    exact ⟨v,hv,hk⟩
   ·
    obtain ⟨v0,w0,hk0⟩:=sres_false (tRun_sres h')
    unfold tRun at hk0
    simp only [hc] at hk0
    obtain ⟨u,hu,_⟩:=hk0
    have h'':tRun P tab x a w fun v w'=>K ((a.put x.dst v).put y.dst u) w':=by
     refine tRun_mono (fun v w' hk=>?_) h'
     unfold tRun at hk
     simp only [hc] at hk
     obtain ⟨u',hu',hk⟩:=hk
     have:u'=u:=by have:=(hu' w').symm.trans (hu w'); simpa using this
     subst this; exact hk
    unfold tRun
    simp only [hc]
    exact ⟨u,hu,h''⟩
   ·unfold tRun at h'
    simp only [hc1] at h'
    obtain ⟨v,hv,hk⟩:=h'
    simp only [hc2] at hk
    obtain ⟨u,hu,hk⟩:=hk
    unfold tRun
    simp only [hc1,hc2]
    exact ⟨u,hu,v,hv,hk⟩
  ·simp only [hx,hy,if_true] at h ⊢
   exact tRun_congr (ex a undef) (tRun_mono (fun v w' hk=>k1 a v undef w' hk) h)
 ·by_cases hy:Region.wanted y (yielded ops a.tmps)=true
  ·simp only [hx,hy,if_true] at h ⊢
   exact tRun_mono (fun u w' hk=>k1 a undef u w' hk) (tRun_congr (ey a undef).symm h)
  ·simp only [hx,hy] at h ⊢
   exact k1 a undef undef w h
def tAt (P:Program) (tab:Tab) (ops:Array Oper) (i:Nat) (K:Act→World→Prop) (a:Act) (w:World):Prop :=
 match ops[i]? with
 | none=>K a w
 | some o=>tOp P tab ops o K a w
theorem tAt_mono {i:Nat} {a:Act} {w:World} {K K':Act→World→Prop} (h:∀ a w,K a w→K' a w) (hh:tAt P tab ops i K a w):tAt P tab ops i K' a w:=by
 unfold tAt at *
 split
 ·rename_i ho; simp only [ho] at hh; exact h _ _ hh
 ·rename_i o ho; simp only [ho] at hh; exact tOp_mono h hh
def anyT (P:Program) (tab:Tab) (ops:Array Oper) (Q:Act→World→Prop):Nat→Array Bool→Act→World→Prop
 | 0,listed,a,w=>Region.ready .any ops listed=[]∧Q a w
 | fuel+1,listed,a,w =>
  (Region.ready .any ops listed=[]→Q a w) ∧
  ∀ i∈Region.ready .any ops listed,tAt P tab ops i (anyT P tab ops Q fuel (listed.setIfInBounds i true)) a w
theorem wp_of_sres {o:Oper} {a:Act} {w:World} {K:Act→World→Prop} {Q:Exit→Act→World→Prop} (h:sres P (fun v w'=>K (a.put o.dst v) w') ((execOp a.eval o).run P w)) :
  o.wp P a w K Q:=by
 unfold Oper.wp
 generalize (execOp a.eval o).run P w=r at *
 cases r with
 | ok n w' =>
  cases n <;> simp only [sres] at h <;> simp only [Oper.upon]
  case enter f args=>exact Calls.mono h fun e w'' ⟨v,he,hk⟩=>by subst he; exact hk
  all_goals exact h
 | halt x w'=>exact h.elim
theorem wpAny_of_anyT {Q:Act→World→Prop} {Q':Exit→Act→World→Prop} (hQ:∀ a w,Q a w→Q' .normal a w):∀ (fuel:Nat) (listed:Array Bool) (a:Act) (w:World),
  anyT P tab ops Q fuel listed a w→wpAny P .any ops Q' fuel listed a w
 | 0,_,_,_,h=>⟨h.1,hQ _ _ h.2⟩
 | fuel+1,listed,a,w,h=>⟨fun h0=>hQ _ _ (h.1 h0),fun i hi=>by
   have:=tAt_mono (fun a' w'=>wpAny_of_anyT hQ fuel (listed.setIfInBounds i true) a' w') (h.2 i hi)
   unfold tAt at this
   unfold wpOp
   split
   ·rename_i ho; simp only [ho] at this; exact this
   ·rename_i o ho
    simp only [ho,tOp] at this
    split
    ·rename_i hw; simp only [hw,if_true] at this; exact .inl (wp_of_sres (tRun_sres this))
    ·rename_i hw; simp only [hw] at this; exact this⟩
theorem anyT_first {Q:Act→World→Prop} {i:Nat} {oi:Oper} (hi:ops[i]?=some oi) (hsel:∀ (j:Nat) (o:Oper),ops[j]?=some o→noSel o) :
  ∀ (fuel:Nat) (listed:Array Bool) (a:Act) (w:World),
   (∀ j oj,ops[j]?=some oj→j≠i→listed.getD j true=false→(∀ e∈oj.after,Region.binds .any e=true→e.on≠i) →
    oi.apart ops oj=true∧(cls tab oi=0∨cls tab oj=0∨(cls tab oi=1∧cls tab oj=1))) →
   i∈Region.ready .any ops listed→tOp P tab ops oi (anyT P tab ops Q fuel (listed.setIfInBounds i true)) a w→anyT P tab ops Q (fuel+1) listed a w:=by
 intro fuel
 induction fuel with
 | zero =>
  intro listed a w _ hr H
  refine ⟨fun h=>(by rw [h] at hr; cases hr),fun j hj=>?_⟩
  by_cases hji:j=i
  ·subst hji; unfold tAt; simp only [hi]; exact H
  ·obtain ⟨a',w',hk⟩:=tOp_some H
   have:=ready_mono hj hji
   rw [hk.1] at this
   cases this
 | succ fuel ih =>
  intro listed a w hfree hr H
  refine ⟨fun h=>(by rw [h] at hr; cases hr),fun j hj=>?_⟩
  by_cases hji:j=i
  ·subst hji; unfold tAt; simp only [hi]; exact H
  ·obtain ⟨hjun,oj,hoj,hall⟩:=mem_ready.1 hj
   have hnot:∀ e∈oj.after,Region.binds .any e=true→e.on≠i:=fun e he hb heq=>by
    have h1:=hall e he hb
    have h0:=(mem_ready.1 hr).1
    rw [heq] at h1
    rcases Nat.lt_or_ge i listed.size with h' | h'
    ·simp [h'] at h0 h1; rw [h0] at h1; cases h1
    ·simp [Array.getElem?_eq_none h'] at h1
   obtain ⟨hap,hcl⟩:=hfree j oj hoj hji hjun hnot
   have h1:tOp P tab ops oi (fun a w=>tOp P tab ops oj (anyT P tab ops Q fuel ((listed.setIfInBounds i true).setIfInBounds j true)) a w) a w :=
    tOp_mono (fun a' w' hk=>by
     have:=hk.2 j (ready_mono hj hji)
     unfold tAt at this; simp only [hoj] at this; exact this) H
   have h2:=tOp_swap hap hcl (hsel i oi hi) (hsel j oj hoj) h1
   have hfree':∀ k ok,ops[k]?=some ok→k≠i→(listed.setIfInBounds j true).getD k true=false →
     (∀ e∈ok.after,Region.binds .any e=true→e.on≠i)→oi.apart ops ok=true∧(cls tab oi=0∨cls tab ok=0∨(cls tab oi=1∧cls tab ok=1)):=fun k ok hk hki hun hno=>by
    refine hfree k ok hk hki ?_ hno
    by_cases hjk:j=k
    ·subst hjk; exact hjun
    ·rw [getD_set_ne true hjk] at hun; exact hun
   unfold tAt; simp only [hoj]
   refine tOp_mono (fun a' w' h3=>ih (listed.setIfInBounds j true) a' w' hfree' (ready_mono hr (Ne.symm hji)) ?_) h2
   rw [Array.setIfInBounds_comm _ _ hji]
   exact h3
def swapB (tab:Tab) (x y:Oper):Bool:=match cls tab x,cls tab y with
 | 0,_=>true
 | _,0=>true
 | 1,1=>true
 | _,_=>false
theorem swapB_spec {x y:Oper} (h:swapB tab x y=true):cls tab x=0∨cls tab y=0∨(cls tab x=1∧cls tab y=1):=by
 unfold swapB at h
 split at h <;> simp_all
def selB (o:Oper):Bool:=match o.op with
 | .select _ _=>false
 | _=>true
def freeL (tab:Tab) (ops:Array Oper) (i:Nat) (oi:Oper):Nat→List Oper→Bool
 | _,[]=>true
 | j,oj :: r=>((oj.after.toList.any fun e=>Region.binds .any e && Nat.beq e.on i) || (oi.apart ops oj && swapB tab oi oj)) && freeL tab ops i oi (j+1) r
def chainL (tab:Tab) (ops:Array Oper):Nat→List Oper→Bool
 | _,[]=>true
 | i,o :: r=>selB o && (o.after.toList.all fun e=>!Region.binds .any e || Nat.blt e.on i) && freeL tab ops i o (i+1) r && chainL tab ops (i+1) r
def chainB (tab:Tab) (ops:Array Oper):Bool:=chainL tab ops 0 ops.toList
def wpT (P:Program) (tab:Tab) (ops:Array Oper) (Q:Act→World→Prop):List Oper→Act→World→Prop
 | [],a,w=>Q a w
 | o :: r,a,w=>tOp P tab ops o (wpT P tab ops Q r) a w
theorem freeL_spec {i:Nat} {oi:Oper}:∀ (l:List Oper) (j:Nat),freeL tab ops i oi j l=true→∀ (k:Nat) (oj:Oper),l[k]?=some oj →
  (∀ e∈oj.after,Region.binds .any e=true→e.on≠i)→oi.apart ops oj=true∧(cls tab oi=0∨cls tab oj=0∨(cls tab oi=1∧cls tab oj=1))
 | [],_,_,k,oj,hk,_=>by simp at hk
 | o :: r,j,h,k,oj,hk,hno=>by
  simp only [freeL,Bool.and_eq_true,Bool.or_eq_true] at h
  cases k with
  | zero =>
   simp only [List.getElem?_cons_zero,Option.some.injEq] at hk
   subst hk
   rcases h.1 with h1 | h1
   ·obtain ⟨e,he,hb⟩:=List.any_eq_true.1 h1
    simp only [Bool.and_eq_true] at hb
    exact absurd (Nat.eq_of_beq_eq_true hb.2) (hno e (by simpa using he) hb.1)
   ·exact ⟨h1.1,swapB_spec h1.2⟩
  | succ k=>exact freeL_spec r (j+1) h.2 k oj (by simpa using hk) hno
theorem chainL_spec {Q:Act→World→Prop}:∀ (l:List Oper) (k:Nat) (listed:Array Bool) (a:Act) (w:World),(∀ j,l[j]?=ops[k+j]?)→listed.size=ops.size →
  (∀ j,j<k→listed.getD j true=true)→(∀ j,k≤j→j<ops.size→listed.getD j true=false)→(∀ (j:Nat) (o:Oper),ops[j]?=some o→noSel o) →
  chainL tab ops k l=true→wpT P tab ops Q l a w→anyT P tab ops Q l.length listed a w
 | [],k,listed,a,w,hl,hsz,hlt,_,_,_,h=>by
  refine ⟨?_,h⟩
  have hk:ops.size≤k:=by
   have:=hl 0
   simp only [List.getElem?_nil,Nat.add_zero] at this
   have:=this.symm
   rw [Array.getElem?_eq_none_iff] at this; exact this
  cases hr:Region.ready .any ops listed with
  | nil=>rfl
  | cons x xs =>
   have hx:x∈Region.ready .any ops listed:=by rw [hr]; simp
   obtain ⟨h0,o,ho,_⟩:=mem_ready.1 hx
   have:x<ops.size:=(Array.getElem?_eq_some_iff.1 ho).1
   rw [hlt x (by omega)] at h0; cases h0
 | o :: l,k,listed,a,w,hl,hsz,hlt,hge,hsel,hc,h=>by
  have h0:ops[k]?=some o:=by simpa using (hl 0).symm
  have hks:k<ops.size:=(Array.getElem?_eq_some_iff.1 h0).1
  simp only [chainL,Bool.and_eq_true] at hc
  obtain ⟨⟨⟨_,hdep⟩,hfr⟩,hc'⟩:=hc
  have hl':∀ j,l[j]?=ops[k+1+j]?:=fun j=>by have:=hl (j+1); simpa [Nat.add_assoc,Nat.add_comm 1 j] using this
  refine anyT_first h0 hsel l.length listed a w ?_ ?_ ?_
  ·intro j oj hj hne hun hno
   have hjk:k<j:=by
    rcases Nat.lt_trichotomy j k with h1 | h1 | h1
    ·rw [hlt j h1] at hun; cases hun
    ·exact absurd h1 hne
    ·exact h1
   exact freeL_spec l (k+1) hfr (j-(k+1)) oj (by rw [hl',←hj]; congr 1; omega) hno
  ·refine mem_ready.2 ⟨hge k (Nat.le_refl _) hks,o,h0,fun e he hb=>?_⟩
   have:=List.all_eq_true.1 hdep e (by simpa using he)
   simp only [hb,Bool.not_true,Bool.false_or] at this
   have hlt':e.on<k:=by
    have:=Nat.le_of_ble_eq_true (show Nat.ble (e.on+1) k=true from this); omega
   have h1:=hlt e.on hlt'
   have h2:e.on<listed.size:=by omega
   simpa [h2] using h1
  ·exact tOp_mono (fun a' w' hk=>chainL_spec l (k+1) _ a' w' hl' (by simpa using hsz)
    (fun j hj=>by
     by_cases hjk:k=j
     ·subst hjk; have:k<listed.size:=by omega
      simp [this]
     ·rw [getD_set_ne true hjk]; exact hlt j (by omega))
    (fun j hj hjs=>by rw [getD_set_ne true (by omega)]; exact hge j (by omega) hjs) hsel hc' hk) h
theorem chainL_sel:∀ (l:List Oper) (k:Nat),chainL tab ops k l=true→∀ o∈l,noSel o
 | [],_,_,o,ho=>by cases ho
 | x :: l,k,h,o,ho=>by
  simp only [chainL,Bool.and_eq_true] at h
  cases ho with
  | head=>intro cs b he; have:=h.1.1.1; simp [selB,he] at this
  | tail _ ho=>exact chainL_sel l (k+1) h.2 o ho
theorem wp_region_chain {id:Nat} {Q:Exit→Act→World→Prop} {a:Act} {w:World} (hm:P.follows .mixedOrders=true) (hB:chainB tab ops=true)
  (h:wpT P tab ops (fun a w=>Q .normal a w) ops.toList a w.drew):(Code.region id ops true).wp P Q a w:=by
 refine wp_region_any hm ?_
 refine wpAny_of_anyT (tab:=tab) (Q:=fun a w=>Q .normal a w) (fun _ _ h=>h) _ _ _ _ ?_
 have:=chainL_spec (P:=P) (Q:=fun a w=>Q .normal a w) ops.toList 0 (Array.replicate ops.size false) a w.drew (by simp) (by simp) (by omega)
  (fun j _ hj=>by simp [hj]) (fun j o ho=>chainL_sel ops.toList 0 hB o (by simpa using Array.mem_of_getElem? ho)) hB h
 simpa using this
end
end Go.Proofs.YtlkjiiibmfpbcaaGreatDoor
namespace Go.Proofs.YtlkjiiibmfpbcaaGreatDoor
open Go
def rep (N:Nat) (e:Env) (a:Act):Prop:=a.tmps.size=N∧(∀ t,a.tmps.getD t undef=e.get t)∧a.defers=e.defers
theorem rep.eval {N:Nat} {e:Env} {a:Act} (h:rep N e a):a.eval=e.eval:=by
 funext x
 cases x with
 | tmp t=>exact h.2.1 t
 | const v=>rfl
 | global g=>rfl
 | func f=>rfl
theorem look_cons (s:Nat) (v:Value) (r:List (Nat × Value)) (t:Nat) (b:Nat→Value):look ((s,v) :: r) t b=if s=t then v else look r t b:=by
 simp only [look]
 by_cases h:s=t
 ·subst h; rw [if_pos rfl]; simp [Nat.beq_refl]
 ·rw [if_neg h]
  have:Nat.beq s t=false:=Bool.eq_false_iff.2 fun hb=>h (Nat.eq_of_beq_eq_true hb)
  rw [this]
theorem rep.put {N:Nat} {e:Env} {a:Act} {dst:Option Tmp} {v:Value} (h:rep N e a) (hd:∀ d,dst=some d→d<N):rep N (e.put dst v) (a.put dst v):=by
 cases dst with
 | none=>exact h
 | some d =>
  obtain ⟨h1,h2,h3⟩:=h
  have hd:=hd d rfl
  refine ⟨by simpa [Act.put] using h1,fun t=>?_,h3⟩
  show (a.tmps.setIfInBounds d v).getD t undef=look ((d,v) :: e.known) t e.base
  rw [look_cons]
  by_cases hdt:d=t
  ·subst hdt; rw [if_pos rfl]; have hlt:d<a.tmps.size:=by rw [h1]; exact hd
   simp [hlt]
  ·rw [if_neg hdt]
   have:=h2 t
   simp only [Env.get] at this
   rw [←this]
   simp [Array.getElem?_setIfInBounds_ne hdt]
theorem rep.upd {N:Nat} {e:Env} {a:Act} {s:Nat} {v:Value} (h:rep N e a) (hv:e.get s=v):rep N (e.upd s v) a:=by
 refine ⟨h.1,fun t=>?_,h.2.2⟩
 show _=look ((s,v) :: e.known) t e.base
 rw [look_cons]
 by_cases hst:s=t
 ·subst hst; rw [if_pos rfl,h.2.1 s,hv]
 ·rw [if_neg hst]; exact h.2.1 t
theorem rep.of_get {N:Nat} {e e':Env} {a:Act} (h:rep N e a) (hg:∀ t,e'.get t=e.get t) (hd:e'.defers=e.defers):rep N e' a :=
 ⟨h.1,fun t=>(h.2.1 t).trans (hg t).symm,h.2.2.trans hd.symm⟩
def prune (keep:List Nat) (e:Env) (B:Nat→Value):Env:=⟨keep.map fun t=>(t,e.get t),B,e.defers⟩
theorem prune_get (keep:List Nat) (e:Env) (t:Nat):(prune keep e e.get).get t=e.get t:=by
 unfold prune Env.get
 simp only []
 induction keep with
 | nil=>rfl
 | cons s r ih =>
  simp only [List.map_cons]
  rw [look_cons]
  by_cases h:s=t
  ·subst h; rw [if_pos rfl]
  ·rw [if_neg h]; exact ih
def agree (e:Env):List (Nat × Value)→Prop
 | []=>True
 | (t,v) :: r=>e.get t=v∧agree e r
theorem agree_get {e:Env}:∀ (l:List (Nat × Value)),agree e l→∀ t,(Env.mk l e.get e.defers).get t=e.get t
 | [],_,t=>rfl
 | (s,v) :: r,h,t=>by
  show look ((s,v) :: r) t e.get=_
  rw [look_cons]
  by_cases hs:s=t
  ·subst hs; rw [if_pos rfl]; exact h.1.symm
  ·rw [if_neg hs]; exact agree_get r h.2 t
def dstOk (N:Nat):Option Tmp→Bool
 | none=>true
 | some d=>Nat.blt d N
def gslot (ops:Array Oper) (j:Nat):Option Nat:=(ops.toList[j]?).bind (·.dst)
def vcOp1 (P:Program) (tab:Tab) (o:Oper) (e:Env) (w:World) (K:Env→World→Prop):Prop :=
 match o.op with
 | .defer c=>match c.callee with
  | .value (.func f)=>K (({ e with defers:=⟨.fn (.func f) #[],(c.args.toList.map e.eval).toArray⟩ :: e.defers }:Env).put o.dst undef) w
  | _=>False
 | _=>vcOp P tab o e.eval w fun v w'=>K (e.put o.dst v) w'
def vcOps (P:Program) (tab:Tab) (N:Nat) (ops:Array Oper):List Oper→Env→World→(Env→World→Prop)→Prop
 | [],e,w,K=>K e w
 | o :: r,e,w,K=>match dstOk N o.dst with
  | false=>False
  | true=>match o.guard with
   | none=>vcOp1 P tab o e w fun e' w'=>vcOps P tab N ops r e' w' K
   | some (j,want)=>match gslot ops j with
    | none=>False
    | some s=>match e.get s with
     | .bool b=>bc b
      (match want with
       | true=>vcOp1 P tab o (e.upd s (.bool true)) w fun e' w'=>vcOps P tab N ops r e' w' K
       | false=>vcOps P tab N ops r ((e.upd s (.bool true)).put o.dst undef) w K)
      (match want with
       | false=>vcOp1 P tab o (e.upd s (.bool false)) w fun e' w'=>vcOps P tab N ops r e' w' K
       | true=>vcOps P tab N ops r ((e.upd s (.bool false)).put o.dst undef) w K)
     | .tuple _=>vcOps P tab N ops r (e.put o.dst undef) w K
     | _=>False
section
variable {P:Program} {tab:Tab} {N:Nat} {ops:Array Oper}
theorem env_func (e:Env):∀ f,e.eval (.func f)=.func (.func f) #[] #[]:=fun _=>rfl
theorem vcOp_tRun (hT:TabOk P tab) {o:Oper} {e:Env} {a:Act} {w:World} {K:Value→World→Prop} (hr:a.eval=e.eval) (h:vcOp P tab o e.eval w K):tRun P tab o a w K:=by
 unfold tRun
 split
 ·rename_i hc
  obtain ⟨v,hv,hK⟩:=vcOp_pure hT hc h
  exact ⟨v,by rw [hr]; exact hv,hK⟩
 ·rename_i hc
  have hs:=vcOp_sound hT (env_func e) h
  rw [hr]
  have ho:∃ t x,o.op=.load t x:=by
   revert hc; unfold cls; split <;> simp_all <;> (repeat' split) <;> simp_all
  obtain ⟨t,x,ho⟩:=ho
  have h2:∀ (r:Result Next),r=(execOp e.eval o).run P w→sres P K r→∃ v,r=.ok (.value v) w∧K v w:=by
   intro r hr hs
   unfold vcOp at h
   rw [ho] at h
   simp only [] at h
   split at h
   ·rename_i b p hg
    have hk:∃ v,w.cell? ⟨b,p,none⟩=some v∧K v w∧(isAgg t).run P w=.ok false w:=by
     have key:∀ k,kindAt tab t=k→(∀ fs,k≠.struct fs)→(∀ n e,k≠.arr n e)→k≠.other →
       typed k (fun v=>w.cell? ⟨b,p,none⟩=some v) (fun v=>K v w)→∃ v,w.cell? ⟨b,p,none⟩=some v∧K v w∧(isAgg t).run P w=.ok false w:=by
      intro k hk h1 h2 h3 h
      obtain ⟨v,hv,hK⟩:=typed_ex h
      obtain ⟨d,hd,hd'⟩:=kind_under hT hk h3
      refine ⟨v,hv,hK,?_⟩
      simp only [isAgg,Sem.run_bind,hd,Result.andThen_ok]
      cases d <;> try rfl
      ·cases k <;> simp [kindOk] at hd' h1 h2 h3
      ·cases k <;> simp [kindOk] at hd' h1 h2 h3
     split at h
     ·exact h.elim
     ·exact h.elim
     ·exact h.elim
     ·exact h.elim
     ·rename_i n1 n2 n3 n4
      exact key _ rfl (fun fs=>n1 fs) (fun n e=>n2 n e) n4 h
    obtain ⟨v,hv,hK,ha⟩:=hk
    refine ⟨v,?_,hK⟩
    rw [hr]
    simp [execOp,ho,hg,Instr.loadAt,Instr.sureAddr,loadVar,ha,hv]
   ·exact h.elim
  exact h2 _ rfl hs
 ·rw [hr]; exact vcOp_sound hT (env_func e) h
def goesOn (P:Program) (o:Oper) (a:Act) (w:World) (K:Act→World→Prop):Prop :=
 (∃ d,(execOp a.eval o).run P w=.ok (.defer d) w∧K (({ a with defers:=d :: a.defers }:Act).put o.dst undef) w) ∨
  sres P (fun v w'=>K (a.put o.dst v) w') ((execOp a.eval o).run P w)
theorem wp_of_goesOn {o:Oper} {a:Act} {w:World} {K:Act→World→Prop} {Q:Exit→Act→World→Prop} (h:goesOn P o a w K):o.wp P a w K Q:=by
 rcases h with ⟨d,hd,hk⟩ | h
 ·unfold Oper.wp; rw [hd]; exact hk
 ·exact wp_of_sres h
def wpG (P:Program) (ops:Array Oper) (Q:Act→World→Prop):List Oper→Act→World→Prop
 | [],a,w=>Q a w
 | o :: r,a,w=>if Region.wanted o (yielded ops a.tmps) then goesOn P o a w (wpG P ops Q r) else wpG P ops Q r (a.put o.dst undef) w
theorem wpList_of_wpG {Q:Act→World→Prop} {Q':Exit→Act→World→Prop} (hQ:∀ a w,Q a w→Q' .normal a w):∀ (l:List Oper) (a:Act) (w:World),wpG P ops Q l a w→wpList P ops Q' l a w
 | [],a,w,h=>hQ _ _ h
 | o :: r,a,w,h=>by
  unfold wpG at h
  unfold wpList
  split
  ·rename_i hw; rw [if_pos hw] at h
   refine .inl ?_
   have h':goesOn P o a w (wpList P ops Q' r):=by
    rcases h with ⟨d,hd,hk⟩ | h
    ·exact .inl ⟨d,hd,wpList_of_wpG hQ r _ _ hk⟩
    ·exact .inr (sres_mono (fun v w' hk=>wpList_of_wpG hQ r _ _ hk) h)
   exact wp_of_goesOn h'
  ·rename_i hw; rw [if_neg hw] at h; exact wpList_of_wpG hQ r _ _ h
theorem dstOk_spec {d:Option Tmp} (h:dstOk N d=true):∀ t,d=some t→t<N:=by
 intro t ht; subst ht
 exact Nat.le_of_ble_eq_true (show Nat.ble (t+1) N=true from h)
theorem vcOp1_sound (hT:TabOk P tab) {o:Oper} {e:Env} {a:Act} {w:World} {K:Env→World→Prop} {K':Act→World→Prop} (hd:dstOk N o.dst=true) (hr:rep N e a)
  (hK:∀ e' w' a',rep N e' a'→K e' w'→K' a' w') (h:vcOp1 P tab o e w K):goesOn P o a w K':=by
 unfold vcOp1 at h
 split at h
 ·rename_i c ho
  split at h
  ·rename_i f hc
   refine .inl ⟨⟨.fn (.func f) #[],(c.args.toList.map e.eval).toArray⟩,?_,hK _ _ _ ?_ h⟩
   ·have:(c.args.toList.map e.eval).toArray=c.args.map e.eval:=by rw [←Array.toList_map]
    rw [this]
    simp [execOp,ho,resolve,hc,hr.eval,Deferred.ofValue,Env.eval]
   ·refine rep.put ⟨hr.1,hr.2.1,?_⟩ (dstOk_spec hd)
    show _ :: a.defers=_ :: e.defers
    rw [hr.2.2]
  ·exact h.elim
 ·refine .inr (sres_mono (fun v w' hk=>hK _ _ _ (hr.put (dstOk_spec hd)) hk) ?_)
  rw [hr.eval]
  exact vcOp_sound hT (env_func e) h
theorem wanted_of {o:Oper} {j s:Nat} {want b:Bool} {a:Act} {e:Env} (hr:rep N e a) (hg:o.guard=some (j,want)) (hs:gslot ops j=some s) (hb:e.get s=.bool b) :
  Region.wanted o (yielded ops a.tmps)=(b==want):=by
 have h1:yielded ops a.tmps j=some b:=by
  unfold yielded
  have hs':(ops[j]?).bind (·.dst)=some s:=by rw [←Array.getElem?_toList]; exact hs
  rw [hs']
  have h2:=hr.2.1 s
  rw [hb] at h2
  simp only [Option.bind_some]
  cases ht:a.tmps[s]? with
  | none =>
   have:a.tmps.getD s undef=undef:=by simp [ht]
   rw [this] at h2; exact absurd h2 (by simp [undef])
  | some x =>
   have:a.tmps.getD s undef=x:=by simp [ht]
   rw [this] at h2; subst h2; rfl
 simp only [Region.wanted,hg,h1]
 cases b <;> cases want <;> rfl
theorem unwanted_of {o:Oper} {j s:Nat} {want:Bool} {vs:Array Value} {a:Act} {e:Env} (hr:rep N e a) (hg:o.guard=some (j,want)) (hs:gslot ops j=some s) (hb:e.get s=.tuple vs) :
  Region.wanted o (yielded ops a.tmps)=false:=by
 have h1:yielded ops a.tmps j=none:=by
  unfold yielded
  have hs':(ops[j]?).bind (·.dst)=some s:=by rw [←Array.getElem?_toList]; exact hs
  rw [hs']
  have h2:=hr.2.1 s
  rw [hb] at h2
  simp only [Option.bind_some]
  cases ht:a.tmps[s]? with
  | none=>rfl
  | some x =>
   have:a.tmps.getD s undef=x:=by simp [ht]
   rw [this] at h2; subst h2; rfl
 simp only [Region.wanted,hg,h1]
 cases want <;> rfl
theorem vcOps_sound (hT:TabOk P tab) {K:Env→World→Prop} {K':Act→World→Prop} (hK:∀ e' w' a',rep N e' a'→K e' w'→K' a' w') :
  ∀ (l:List Oper) (e:Env) (a:Act) (w:World),rep N e a→vcOps P tab N ops l e w K→wpG P ops K' l a w
 | [],e,a,w,hr,h=>hK _ _ _ hr h
 | o :: r,e,a,w,hr,h=>by
  unfold vcOps at h
  unfold wpG
  split at h
  ·exact h.elim
  ·rename_i hd
   split at h
   ·rename_i hg
    rw [if_pos (by simp [Region.wanted,hg])]
    exact vcOp1_sound hT hd hr (fun e' w' a' hr' hk=>vcOps_sound hT hK r e' a' w' hr' hk) h
   ·rename_i j want hg
    split at h
    ·exact h.elim
    ·rename_i s hs
     split at h
     ·rename_i b hb
      have hw:=wanted_of (ops:=ops) hr hg hs hb
      have h':=bc_elim h
      cases b
      ·have hru:rep N (e.upd s (.bool false)) a:=hr.upd hb
       have h'':=h'.2 rfl
       cases want
       ·rw [if_pos (by rw [hw]; rfl)]
        exact vcOp1_sound hT hd hru (fun e' w' a' hr' hk=>vcOps_sound hT hK r e' a' w' hr' hk) h''
       ·rw [if_neg (by rw [hw]; simp)]
        exact vcOps_sound hT hK r _ _ w (hru.put (dstOk_spec hd)) h''
      ·have hru:rep N (e.upd s (.bool true)) a:=hr.upd hb
       have h'':=h'.1 rfl
       cases want
       ·rw [if_neg (by rw [hw]; simp)]
        exact vcOps_sound hT hK r _ _ w (hru.put (dstOk_spec hd)) h''
       ·rw [if_pos (by rw [hw]; rfl)]
        exact vcOp1_sound hT hd hru (fun e' w' a' hr' hk=>vcOps_sound hT hK r e' a' w' hr' hk) h''
     ·rename_i vs hb
      rw [if_neg (by rw [unwanted_of hr hg hs hb]; simp)]
      exact vcOps_sound hT hK r _ _ w (hr.put (dstOk_spec hd)) h
     ·exact h.elim
def defB:List Oper→Bool
 | []=>true
 | o :: r=>(match o.op with
  | .defer _=>false
  | _=>true) && defB r
theorem vcOps_wpT (hT:TabOk P tab) {K:Env→World→Prop} {K':Act→World→Prop} (hK:∀ e' w' a',rep N e' a'→K e' w'→K' a' w') :
  ∀ (l:List Oper) (e:Env) (a:Act) (w:World),defB l=true→rep N e a→vcOps P tab N ops l e w K→wpT P tab ops K' l a w
 | [],e,a,w,_,hr,h=>hK _ _ _ hr h
 | o :: r,e,a,w,hb,hr,h=>by
  have one:∀ (e:Env) (hd:dstOk N o.dst=true),rep N e a→vcOp1 P tab o e w (fun e' w'=>vcOps P tab N ops r e' w' K) →
    tRun P tab o a w fun v w'=>wpT P tab ops K' r (a.put o.dst v) w':=by
   intro e hd hr h
   unfold vcOp1 at h
   split at h
   ·rename_i c ho; simp [defB,ho] at hb
   ·refine tRun_mono (fun v w' hk=>?_) (vcOp_tRun hT hr.eval h)
    simp only [defB,Bool.and_eq_true] at hb
    exact vcOps_wpT hT hK r _ _ _ hb.2 (hr.put (dstOk_spec hd)) hk
  have hb':defB r=true:=by simp only [defB,Bool.and_eq_true] at hb; exact hb.2
  unfold vcOps at h
  unfold wpT tOp
  split at h
  ·exact h.elim
  ·rename_i hd
   split at h
   ·rename_i hg
    rw [if_pos (by simp [Region.wanted,hg])]
    exact one e hd hr h
   ·rename_i j want hg
    split at h
    ·exact h.elim
    ·rename_i s hs
     split at h
     ·rename_i b hbb
      have hw:=wanted_of (ops:=ops) hr hg hs hbb
      have h':=bc_elim h
      cases b
      ·have hru:rep N (e.upd s (.bool false)) a:=hr.upd hbb
       have h'':=h'.2 rfl
       cases want
       ·rw [if_pos (by rw [hw]; rfl)]
        exact one _ hd hru h''
       ·rw [if_neg (by rw [hw]; simp)]
        exact vcOps_wpT hT hK r _ _ w hb' (hru.put (dstOk_spec hd)) h''
      ·have hru:rep N (e.upd s (.bool true)) a:=hr.upd hbb
       have h'':=h'.1 rfl
       cases want
       ·rw [if_neg (by rw [hw]; simp)]
        exact vcOps_wpT hT hK r _ _ w hb' (hru.put (dstOk_spec hd)) h''
       ·rw [if_pos (by rw [hw]; rfl)]
        exact one _ hd hru h''
     ·rename_i vs hbb
      rw [if_neg (by rw [unwanted_of hr hg hs hbb]; simp)]
      exact vcOps_wpT hT hK r _ _ w hb' (hr.put (dstOk_spec hd)) h
     ·exact h.elim
end
end Go.Proofs.YtlkjiiibmfpbcaaGreatDoor
