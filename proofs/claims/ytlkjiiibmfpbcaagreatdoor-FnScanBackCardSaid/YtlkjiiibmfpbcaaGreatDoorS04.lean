/- The verification condition of code, its soundness, and the rules for loops, cuts and calls. No condition. -/
import Derived.Test.YtlkjiiibmfpbcaaGreatDoorS03
namespace Go.Proofs.YtlkjiiibmfpbcaaGreatDoor
open Go
abbrev Kont:=Exit→Env→World→Prop
def W (P:Program) (N:Nat) (c:Code) (e:Env) (w:World) (K:Kont):Prop :=
 ∀ a,rep N e a→c.wp P (fun x a' w'=>∃ e',rep N e' a'∧K x e' w') a w
def thenW (P:Program) (N:Nat) (b:Code) (K:Kont):Kont
 | .normal,e,w=>W P N b e w K
 | x,e,w=>K x e w
def blockK (id:Nat) (K:Kont):Kont
 | .exit i,e,w=>match Nat.beq i id with
  | true=>K .normal e w
  | false=>K (.exit i) e w
 | x,e,w=>K x e w
def hasLoop:Code→Bool
 | .seq a b=>hasLoop a || hasLoop b
 | .cond _ x y=>hasLoop x || hasLoop y
 | .block _ c=>hasLoop c
 | .loop _=>true
 | .skip=>false
 | .region _ _ _=>false
 | .exit _=>false
 | .ret=>false
 | _=>true
def exits (id:Nat):Code→Bool
 | .seq a b=>exits id a || exits id b
 | .cond _ x y=>exits id x || exits id y
 | .block _ c=>exits id c
 | .exit i=>Nat.beq i id
 | _=>false
def ways:Code→Nat
 | .seq a b=>match ways a with
  | 0=>0
  | 1=>ways b
  | _=>match ways b with
   | 0=>0
   | _=>2
 | .cond _ x y=>match ways x,ways y with
  | 0,n=>n
  | n,0=>n
  | _,_=>2
 | .block id c=>match exits id c with
  | true=>2
  | false=>ways c
 | .exit _=>0
 | .ret=>0
 | _=>1
def cut:Code→Bool
 | .seq a b=>cut a || cut b || Nat.beq (ways a) 2
 | .cond c x y=>cut x || cut y || Nat.beq (ways (.cond c x y)) 2
 | .block id c=>cut c || Nat.beq (ways (.block id c)) 2
 | .loop _=>true
 | _=>false
def firstReg:Code→Option Nat
 | .region id _ _=>some id
 | .seq a b=>match firstReg a with
  | some i=>some i
  | none=>firstReg b
 | .cond _ x y=>match firstReg x with
  | some i=>some i
  | none=>firstReg y
 | .block _ c=>firstReg c
 | .loop c=>firstReg c
 | _=>none
def keepIn:List (Nat × List Nat)→Nat→List Nat
 | [],_=>[]
 | (s,l) :: r,t=>match Nat.beq s t with
  | true=>l
  | false=>keepIn r t
def keepAt (kt:List (Nat × List Nat)) (c:Code):List Nat:=match firstReg c with
 | some i=>keepIn kt i
 | none=>keepIn kt 1000000
def thenV (f:Env→World→Prop) (K:Kont):Kont
 | .normal,e,w=>f e w
 | x,e,w=>K x e w
def vc (P:Program) (tab:Tab) (kt:List (Nat × List Nat)) (N:Nat):Code→Env→World→Kont→Kont→Prop
 | .skip,e,w,_,k=>k .normal e w
 | .region id ops draw,e,w,K,k=>match draw with
  | false=>vcOps P tab N ops ops.toList e w fun e' w'=>k .normal e' w'
  | true=>match chainB tab ops,defB ops.toList with
   | true,true=>vcOps P tab N ops ops.toList e w.drew fun e' w'=>k .normal e' w'
   | _,_=>∀ B,W P N (.region id ops true) (prune (keepIn kt id) e B) w K
 | .seq a b,e,w,K,k=>match cut a with
  | true=>vc P tab kt N a e w (thenW P N b K) (thenV (fun e' w'=>∀ B,W P N b (prune (keepAt kt b) e' B) w' K) k)
  | false=>vc P tab kt N a e w (thenW P N b K) (thenV (fun e' w'=>vc P tab kt N b e' w' K k) k)
 | .cond c x y,e,w,K,k=>match c with
  | .tmp t=>match e.get t with
   | .bool b=>bc b (vc P tab kt N x (e.upd t (.bool true)) w K k) (vc P tab kt N y (e.upd t (.bool false)) w K k)
   | _=>False
  | .const v=>match v with
   | .bool b=>bc b (vc P tab kt N x e w K k) (vc P tab kt N y e w K k)
   | _=>False
  | _=>False
 | .block id c,e,w,K,k=>match hasLoop c with
  | true=>∀ B,W P N (.block id c) (prune (keepAt kt c) e B) w K
  | false=>vc P tab kt N c e w (blockK id K) (blockK id k)
 | .loop c,e,w,K,_=>∀ B,W P N (.loop c) (prune (keepAt kt c) e B) w K
 | .exit id,e,w,_,k=>k (.exit id) e w
 | .ret,e,w,_,k=>k .ret e w
 | _,_,_,_,_=>False
def pruneK (L:List Nat) (K:Kont):Kont:=fun x e w=>∀ B,K x (prune L e B) w
def bodyOf (f:Func):Code:=match f.body with
 | some c=>c
 | none=>.skip
def sub:List Nat→Code→Code
 | [],c=>c
 | i :: p,c=>match c with
  | .seq a b=>match i with
   | 0=>sub p a
   | _=>sub p b
  | .cond _ x y=>match i with
   | 0=>sub p x
   | _=>sub p y
  | .block _ c=>sub p c
  | .loop c=>sub p c
  | c=>c
section
variable {P:Program} {tab:Tab} {N:Nat} {kt:List (Nat × List Nat)}
theorem W_mono {c:Code} {e:Env} {w:World} {K K':Kont} (h:W P N c e w K) (hk:∀ x e w,K x e w→K' x e w):W P N c e w K' :=
 fun a hr=>wp_mono (h a hr) fun x a' w' ⟨e',hr',hK⟩=>⟨e',hr',hk _ _ _ hK⟩
theorem W_agree {c:Code} {e:Env} {w:World} {K:Kont} (l:List (Nat × Value)) (hl:agree e l) (h:∀ B,W P N c (Env.mk l B e.defers) w K):W P N c e w K :=
 fun a hr=>h e.get a (hr.of_get (fun t=>agree_get l hl t) rfl)
theorem W_prune {c:Code} {e:Env} {w:World} {K:Kont} {keep:List Nat} (h:∀ B,W P N c (prune keep e B) w K):W P N c e w K :=
 fun a hr=>h e.get a (hr.of_get (fun t=>prune_get keep e t) rfl)
theorem W_seq {a b:Code} {e:Env} {w:World} {K:Kont} (h:W P N a e w (thenW P N b K)):W P N (.seq a b) e w K :=
 fun ac hr=>wp_seq (wp_mono (h ac hr) fun x a' w' ⟨e',hr',hK⟩=>by
  cases x with
  | normal=>exact hK a' hr'
  | _=>exact ⟨e',hr',hK⟩)
theorem W_block {id:Nat} {c:Code} {e:Env} {w:World} {K:Kont} (h:W P N c e w (blockK id K)):W P N (.block id c) e w K :=
 fun ac hr=>wp_block (wp_mono (h ac hr) fun x a' w' ⟨e',hr',hK⟩=>by
  cases x with
  | exit i =>
   by_cases hi:i=id
   ·subst hi; simp only [blockK,Nat.beq_refl] at hK; simp only [Exit.inBlock,if_true]; exact ⟨e',hr',hK⟩
   ·have:Nat.beq i id=false:=Bool.eq_false_iff.2 fun hb=>hi (Nat.eq_of_beq_eq_true hb)
    simp only [blockK,this] at hK; simp only [Exit.inBlock,hi,if_false]; exact ⟨e',hr',hK⟩
  | _=>exact ⟨e',hr',hK⟩)
theorem W_cond {t:Nat} {x y:Code} {e:Env} {w:World} {K:Kont} {b:Bool} (hb:e.get t=.bool b) (h1:b=true→W P N x (e.upd t (.bool true)) w K)
  (h2:b=false→W P N y (e.upd t (.bool false)) w K):W P N (.cond (.tmp t) x y) e w K :=
 fun a hr=>by
  have he:a.eval (.tmp t)=.bool b:=by rw [hr.eval]; exact hb
  cases b
  ·exact wp_cond_false he (h2 rfl a (hr.upd hb))
  ·exact wp_cond_true he (h1 rfl a (hr.upd hb))
theorem W_condC {x y:Code} {e:Env} {w:World} {K:Kont} {b:Bool} (h1:b=true→W P N x e w K) (h2:b=false→W P N y e w K):W P N (.cond (.const (.bool b)) x y) e w K :=
 fun a hr=>by
  cases b
  ·exact wp_cond_false rfl (h2 rfl a hr)
  ·exact wp_cond_true rfl (h1 rfl a hr)
theorem W_skip {e:Env} {w:World} {K:Kont} (h:K .normal e w):W P N .skip e w K:=fun _ hr=>wp_skip ⟨e,hr,h⟩
theorem W_exit {id:Nat} {e:Env} {w:World} {K:Kont} (h:K (.exit id) e w):W P N (.exit id) e w K:=fun _ hr=>wp_exit ⟨e,hr,h⟩
theorem W_ret {e:Env} {w:World} {K:Kont} (h:K .ret e w):W P N .ret e w K:=fun _ hr=>wp_ret ⟨e,hr,h⟩
theorem W_region {id:Nat} {ops:Array Oper} {e:Env} {w:World} {K:Kont} (hT:TabOk P tab) (h:vcOps P tab N ops ops.toList e w fun e' w'=>K .normal e' w') :
  W P N (.region id ops false) e w K :=
 fun a hr=>wp_region_list (wpList_of_wpG (Q:=fun a' w'=>∃ e',rep N e' a'∧K .normal e' w') (fun _ _ h=>h) _ _ _ (vcOps_sound hT (fun e' w' a' hr' hK=>⟨e',hr',hK⟩) _ e a w hr h))
theorem W_draw {id:Nat} {ops:Array Oper} {e:Env} {w:World} {K:Kont} (hT:TabOk P tab) (hm:P.follows .mixedOrders=true) (hc:chainB tab ops=true) (hd:defB ops.toList=true)
  (h:vcOps P tab N ops ops.toList e w.drew fun e' w'=>K .normal e' w'):W P N (.region id ops true) e w K :=
 fun a hr=>wp_region_chain hm hc (vcOps_wpT hT (fun e' w' a' hr' hK=>⟨e',hr',hK⟩) _ e a w.drew hd hr h)
def KLe (k K:Kont):Prop:=∀ x e w,k x e w→∃ e',(∀ t,e'.get t=e.get t)∧e'.defers=e.defers∧K x e' w
theorem KLe.thenV {k K:Kont} (h:KLe k K) (f:Env→World→Prop):KLe (thenV f k) (thenV f K):=by
 intro x e w hk
 cases x with
 | normal=>exact ⟨e,fun _=>rfl,rfl,hk⟩
 | _=>exact h _ e w hk
theorem KLe.blockK {k K:Kont} (h:KLe k K) (id:Nat):KLe (blockK id k) (blockK id K):=by
 intro x e w hk
 cases x with
 | exit i =>
  simp only [Go.Proofs.YtlkjiiibmfpbcaaGreatDoor.blockK] at hk ⊢
  cases hb:Nat.beq i id <;> simp only [hb] at hk ⊢ <;> exact h _ e w hk
 | _=>exact h _ e w hk
theorem KLe.prune (L:List Nat) (K:Kont):KLe (pruneK L K) K:=fun _ e _ h=>⟨_,fun t=>prune_get L e t,rfl,h e.get⟩
theorem KLe.refl (K:Kont):KLe K K:=fun _ e _ h=>⟨e,fun _=>rfl,rfl,h⟩
theorem W_le {c:Code} {e:Env} {w:World} {k K:Kont} (hk:KLe k K) (h:W P N c e w k):W P N c e w K :=
 fun a hr=>wp_mono (h a hr) fun x a' w' ⟨e',hr',hq⟩=>by
  obtain ⟨e'',h1,h2,h3⟩:=hk x e' w' hq
  exact ⟨e'',hr'.of_get h1 h2,h3⟩
theorem vc_sound (hT:TabOk P tab) (hm:P.follows .mixedOrders=true):∀ (c:Code) (e:Env) (w:World) (K k:Kont),KLe k K→vc P tab kt N c e w K k→W P N c e w K
 | .skip,e,w,K,k,hk,h=>W_le hk (W_skip h)
 | .region id ops draw,e,w,K,k,hk,h=>by
  unfold vc at h
  split at h
  ·exact W_le hk (W_region hT h)
  ·split at h
   ·rename_i hc hd; exact W_le hk (W_draw hT hm hc hd h)
   ·exact W_prune h
 | .seq a b,e,w,K,k,hk,h=>by
  unfold vc at h
  split at h
  ·refine W_seq (vc_sound hT hm a e w _ _ ?_ h)
   intro x e w hx
   cases x with
   | normal=>exact ⟨e,fun _=>rfl,rfl,W_prune hx⟩
   | _=>exact hk _ e w hx
  ·refine W_seq (vc_sound hT hm a e w _ _ ?_ h)
   intro x e w hx
   cases x with
   | normal=>exact ⟨e,fun _=>rfl,rfl,vc_sound hT hm b e w K k hk hx⟩
   | _=>exact hk _ e w hx
 | .cond c x y,e,w,K,k,hk,h=>by
  unfold vc at h
  split at h
  ·split at h
   ·rename_i t b hb
    have h':=bc_elim h
    exact W_cond hb (fun ht=>vc_sound hT hm x _ w K k hk (h'.1 ht)) (fun hf=>vc_sound hT hm y _ w K k hk (h'.2 hf))
   ·exact h.elim
  ·split at h
   ·rename_i v b
    have h':=bc_elim h
    exact W_condC (fun ht=>vc_sound hT hm x _ w K k hk (h'.1 ht)) (fun hf=>vc_sound hT hm y _ w K k hk (h'.2 hf))
   ·exact h.elim
  ·exact h.elim
 | .block id c,e,w,K,k,hk,h=>by
  unfold vc at h
  split at h
  ·exact W_prune h
  ·exact W_block (vc_sound hT hm c e w _ _ (hk.blockK id) h)
 | .loop c,e,w,K,k,hk,h=>W_prune h
 | .exit id,e,w,K,k,hk,h=>W_le hk (W_exit h)
 | .ret,e,w,K,k,hk,h=>W_le hk (W_ret h)
 | .rangeFunc _ _ _ _,e,w,K,k,hk,h=>by unfold vc at h; exact h.elim
 | .scope _,e,w,K,k,hk,h=>by unfold vc at h; exact h.elim
 | .label _,e,w,K,k,hk,h=>by unfold vc at h; exact h.elim
 | .goto _,e,w,K,k,hk,h=>by unfold vc at h; exact h.elim
 | .refuse _,e,w,K,k,hk,h=>by unfold vc at h; exact h.elim
theorem W_loop {σ:Type} {c:Code} {e:Env} {w:World} {K:Kont} (vars:σ→List (Nat × Value)) (I:σ→World→Prop) (μ:σ→Nat) (s0:σ)
  (h0:agree e (vars s0)) (hI:I s0 w)
  (round:∀ s B w,I s w→W P N c (Env.mk (vars s) B e.defers) w fun x e' w'=>match x with
   | .normal=>∃ s',agree e' (vars s')∧e'.defers=e.defers∧I s' w'∧μ s'<μ s
   | x=>K x e' w'):W P N (.loop c) e w K:=by
 intro a hr b k cs
 have key:∀ n s w a,μ s=n→I s w→(∃ B,rep N (Env.mk (vars s) B e.defers) a) →
   ∃ x a' w',(∃ e',rep N e' a'∧K x e' w')∧Arrives P (lone (b.at a (.code c :: .inLoop c :: k)) cs w) b k cs x a' w':=by
  intro n
  induction n using Nat.strongRecOn with
  | _ n ih =>
   intro s w a hn hI ⟨B,hr⟩
   obtain ⟨x,a₁,w₁,⟨e',hr',hq⟩,harr⟩:=round s B w hI a hr b (.inLoop c :: k) cs
   cases x with
   | normal =>
    obtain ⟨s',hag,hdef,hI',hlt⟩:=hq
    have hr'':rep N (Env.mk (vars s') e'.get e.defers) a₁ :=
     hr'.of_get (fun t=>agree_get (vars s') hag t) hdef.symm
    obtain ⟨x₂,a₂,w₂,hq₂,harr₂⟩:=ih (μ s') (hn ▸ hlt) s' w₁ a₁ rfl hI' ⟨_,hr''⟩
    exact ⟨x₂,a₂,w₂,hq₂,.of_steps (Steps.trans harr (.one step_inLoop)) harr₂⟩
   | exit id=>exact ⟨_,a₁,w₁,⟨e',hr',hq⟩,.pass (x:=.inLoop c) rfl (fun _ _=>.inl (by simp)) harr⟩
   | goto l=>exact ⟨_,a₁,w₁,⟨e',hr',hq⟩,.pass (x:=.inLoop c) rfl (fun _ _=>.inl (by simp)) harr⟩
   | ret=>exact ⟨_,a₁,w₁,⟨e',hr',hq⟩,.pass (x:=.inLoop c) rfl (fun _ _=>.inl (by simp)) harr⟩
   | panic ch=>exact ⟨_,a₁,w₁,⟨e',hr',hq⟩,.pass (x:=.inLoop c) rfl (fun _ _=>.inl (by simp)) harr⟩
   | outgrown=>exact ⟨_,a₁,w₁,⟨e',hr',hq⟩,.pass (x:=.inLoop c) rfl (fun _ _=>.inl (by simp)) harr⟩
 obtain ⟨x,a',w',hq,harr⟩:=key _ s0 w a rfl hI ⟨e.get,hr.of_get (fun t=>agree_get (vars s0) h0 t) rfl⟩
 exact ⟨x,a',w',hq,.of_steps (.one step_loop) harr⟩
theorem W_for {σ:Type} {id:Nat} {c:Code} {e:Env} {w:World} {K:Kont} (vars:σ→List (Nat × Value)) (I:σ→World→Prop) (μ:σ→Nat) (s0:σ)
  (h0:agree e (vars s0)) (hI:I s0 w)
  (round:∀ s B w,I s w→W P N c (Env.mk (vars s) B e.defers) w fun x e' w'=>match x with
   | .normal=>∃ s',agree e' (vars s')∧e'.defers=e.defers∧I s' w'∧μ s'<μ s
   | .exit i=>match Nat.beq i id with
    | true=>K .normal e' w'
    | false=>K (.exit i) e' w'
   | x=>K x e' w'):W P N (.block id (.loop c)) e w K :=
 W_block (W_loop vars I μ s0 h0 hI fun s B w hs=>W_mono (round s B w hs) fun x e' w' hk=>by cases x <;> exact hk)
def resV (e:Env):List ResultVar→Option (List Value)
 | []=>some []
 | .tmp t :: r=>(resV e r).map (e.get t :: ·)
 | _=>none
def resOne (e:Env) (rs:List ResultVar) (K:Value→Prop):Prop :=
 match rs with
 | []=>K (.tuple #[])
 | [.tmp t]=>K (e.get t)
 | [.tmp t,.tmp u]=>K (.tuple #[e.get t,e.get u])
 | rs=>match resV e rs with
  | some vs=>K (.tuple vs.toArray)
  | none=>False
def DCalls (P:Program) (f:FuncId) (args:Array Value) (w:World) (Q:World→Prop):Prop :=
 CallsD P f args .returning w fun x u w'=>u=.returning∧(∃ v,x=.returned v)∧Q w'
def runD (P:Program):List Deferred→World→(World→Prop)→Prop
 | [],w,K=>K w
 | d :: ds,w,K=>match d.target with
  | .fn (.func f) cap=>cap.toList=[]∧(∀ args w,(callFunc f args).run P w=.ok (.enter f args) w)∧DCalls P f d.args w fun w'=>runD P ds w' K
  | _=>False
def retK (P:Program) (rs:List ResultVar) (R:Value→World→Prop):Kont
 | .ret,e,w=>runD P e.defers w fun w'=>resOne e rs fun v=>R v w'
 | .normal,e,w=>runD P e.defers w fun w'=>resOne e rs fun v=>R v w'
 | _,_,_=>False
def argEnv:Nat→List Value→List (Nat × Value)
 | _,[]=>[]
 | i,v :: r=>(i,v) :: argEnv (i+1) r
theorem look_argEnv:∀ (l:List Value) (i:Nat) (B:Nat→Value) (t:Nat),(∀ j,j<i+l.length→i≤j→B j=l.getD (j-i) undef)→(∀ j,i+l.length≤j→B j=undef)→i≤t →
  look (argEnv i l) t B=(l.getD (t-i) undef)
 | [],i,B,t,_,h2,ht=>by simp [argEnv,look,h2 t (by simpa using ht)]
 | v :: r,i,B,t,h1,h2,ht=>by
  simp only [argEnv]
  rw [look_cons]
  by_cases h:i=t
  ·subst h; simp
  ·rw [if_neg h]
   have:=look_argEnv r (i+1) B t (fun j hj hi=>by
    rw [h1 j (by simp only [List.length_cons]; omega) (by omega)]
    rw [show j-i=(j-(i+1))+1 by omega,List.getD_cons_succ]) (fun j hj=>h2 j (by simp only [List.length_cons]; omega)) (by omega)
   rw [this,show t-i=(t-(i+1))+1 by omega,List.getD_cons_succ]
theorem rep_enter {args:List Value} (h:args.length≤N):rep N (Env.mk (argEnv 0 args) (fun t=>args.getD t undef) []) { tmps:=args.toArray++Array.replicate (N-args.toArray.size) undef,defers:=[] }:=by
 refine ⟨by simp; omega,fun t=>?_,rfl⟩
 show _=look (argEnv 0 args) t _
 rw [look_argEnv args 0 _ t (fun j _ _=>by simp) (fun j hj=>by simp [List.getElem?_eq_none (show args.length≤j by omega)]) (Nat.zero_le _)]
 by_cases h1:t<args.length
 ·simp [Array.getElem?_append,h1]
 ·by_cases h2:t<N
  ·simp [Array.getElem?_append,h1,List.getElem?_eq_none (show args.length≤t by omega)]
   rw [Array.getElem?_replicate]; split <;> simp
  ·simp [Array.getElem?_append,h1,List.getElem?_eq_none (show args.length≤t by omega)]
   rw [Array.getElem?_replicate]; split <;> simp
theorem resV_spec {g:ResultVar→Sem Value} {rs:List ResultVar}:∀ (e:Env) (a:Act),rep N e a→(∀ t,g (.tmp t)=pure (a.tmps.getD t undef))→∀ vs,resV e rs=some vs→∀ w,
  (rs.mapM (m:=Sem) g).run P w=.ok vs w:=by
 induction rs with
 | nil=>intro e a _ _ vs h w; simp only [resV,Option.some.injEq] at h; subst h; rfl
 | cons r rs ih =>
  intro e a hr hg vs h w
  cases r with
  | tmp t =>
   simp only [resV] at h
   obtain ⟨us,hu,rfl⟩:=Option.map_eq_some_iff.1 h
   have:=ih e a hr hg us hu
   simp only [List.mapM_cons,Sem.run_bind,hg,Sem.run_pure,Result.andThen_ok]
   rw [this]
   simp only [Result.andThen_ok,hr.2.1 t]
  | cell p t=>simp [resV] at h
theorem results_run {fn:Func} {rs:List ResultVar} (hrs:fn.results=rs.toArray) {e:Env} {a:Act} (hr:rep N e a) {K:Value→Prop} (h:resOne e rs K) (w:World) :
  ∃ v,(results fn a.tmps).run P w=.ok v w∧K v:=by
 have main:∀ vs,resV e rs=some vs→(results fn a.tmps).run P w=.ok (if h:vs.toArray.size=1 then vs.toArray[0] else .tuple vs.toArray) w:=by
  intro vs hv
  unfold results
  rw [hrs]
  simp only [Sem.run_bind,List.mapM_toArray]
  simp only [Sem.run_map]
  rw [resV_spec (P:=P) e a hr (fun _=>rfl) vs hv w]
  rfl
 unfold resOne at h
 split at h
 ·exact ⟨_,main [] rfl,h⟩
 ·exact ⟨_,main _ rfl,h⟩
 ·exact ⟨_,main _ rfl,h⟩
 ·rename_i h1 h2 h3
  split at h
  ·rename_i vs hv
   refine ⟨_,main vs hv,?_⟩
   have hl:vs.toArray.size≠1:=by
    intro hc
    rcases rs with _ | ⟨r,_ | ⟨r2,rs⟩⟩
    ·exact h1 rfl
    ·cases r with
     | tmp t=>exact h2 t rfl
     | cell=>simp [resV] at hv
    ·cases r with
     | cell=>simp [resV] at hv
     | tmp t =>
      simp only [resV] at hv
      obtain ⟨us,hu,rfl⟩:=Option.map_eq_some_iff.1 hv
      cases r2 with
      | cell=>simp [resV] at hu
      | tmp u =>
       simp only [resV] at hu
       obtain ⟨xs,hx,rfl⟩:=Option.map_eq_some_iff.1 hu
       simp at hc
   rw [dif_neg hl]; exact h
  ·exact h.elim
theorem runD_leaves {fn:Func} {rs:List ResultVar} (hrs:fn.results=rs.toArray) {e:Env} {a:Act} (hr:rep N e a) {R:Value→World→Prop}:∀ (ds:List Deferred) (w:World),
  runD P ds w (fun w'=>resOne e rs fun v=>R v w')→Leaves P fn a.tmps (fun x w'=>∃ v,x=.returned v∧R v w') ds .returning w
 | [],w,h=>by
  obtain ⟨v,hv,hR⟩:=results_run (P:=P) hrs hr (show resOne e rs fun v=>R v w from h) w
  exact ⟨v,hv,v,rfl,hR⟩
 | d :: ds,w,h=>by
  obtain ⟨target,args⟩:=d
  unfold runD at h
  split at h
  ·rename_i f cap ht
   obtain ⟨hcap,hcf,h⟩:=h
   have hcap':cap=#[]:=by rw [←Array.toArray_toList (xs:=cap),hcap]
   subst hcap'
   simp only at ht
   subst ht
   refine leaves_cons (f:=f) (args:=args) (by simp) (by simp [invoke,hcf]) (CallsD.mono h fun x u w' ⟨hu,⟨v,hx⟩,hk⟩=>?_)
   subst hu hx
   exact runD_leaves hrs hr ds w' hk
  ·exact h.elim
theorem calls_W {f:FuncId} {fn:Func} {c:Code} {rs:List ResultVar} {args:List Value} {w:World} {R:Value→World→Prop} (hf:P.funcs[f]?=some fn) (hb:fn.body=some c)
  (hN:fn.ntmps=N) (hrs:fn.results=rs.toArray) (hl:args.length≤N) (h:∀ B,W P N c (Env.mk (argEnv 0 args) B []) w (retK P rs R)) :
  Calls P f args.toArray w fun x w'=>∃ v,x=.returned v∧R v w':=by
 refine calls_of_wp_defers hf hb ?_
 subst hN
 refine wp_mono (h _ _ (rep_enter hl)) fun x a' w' ⟨e',hr',hK⟩=>?_
 cases x <;> simp only [retK] at hK
 case normal=>exact runD_leaves hrs hr' _ _ (by rw [hr'.2.2]; exact hK)
 case ret=>exact runD_leaves hrs hr' _ _ (by rw [hr'.2.2]; exact hK)
theorem dcalls_W {f:FuncId} {fn:Func} {c:Code} {args:List Value} {w:World} {R:World→Prop} (hf:P.funcs[f]?=some fn) (hb:fn.body=some c)
  (hN:fn.ntmps=N) (hrs:fn.results=#[]) (hl:args.length≤N)
  (h:∀ B,W P N c (Env.mk (argEnv 0 args) B []) w fun x e w'=>match x with
   | .ret=>e.defers=[]∧R w'
   | .normal=>e.defers=[]∧R w'
   | _=>False):DCalls P f args.toArray w R:=by
 refine CallsD.mono (callsD_of_wp (R:=fun x w'=>(∃ v,x=.returned v)∧R w') hf hb ?_) fun x u w' ⟨hu,hv,hR⟩=>⟨hu,hv,hR⟩
 subst hN
 refine wp_mono (h _ _ (rep_enter hl)) fun x a' w' ⟨e',hr',hK⟩=>?_
 cases x <;> simp only [] at hK
 case normal=>exact ⟨hr'.2.2.trans hK.1,_,results_none hrs _ _ _,⟨_,rfl⟩,hK.2⟩
 case ret=>exact ⟨hr'.2.2.trans hK.1,_,results_none hrs _ _ _,⟨_,rfl⟩,hK.2⟩
end
end Go.Proofs.YtlkjiiibmfpbcaaGreatDoor
