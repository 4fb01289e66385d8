/- The verification condition of one operation holds: the operation goes on as it says. No condition. -/
import Derived.Test.YtlkjiiibmfpbcaaGreatDoorS01
namespace Go.Proofs.YtlkjiiibmfpbcaaGreatDoor
open Go
def sres (P:Program) (K:Value→World→Prop):Result Next→Prop
 | .ok (.value v) w'=>K v w'
 | .ok .skip w'=>K undef w'
 | .ok (.enter f args) w'=>Calls P f args w' fun e w''=>∃ v,e=.returned v∧K v w''
 | _=>False
section
variable {P:Program} {tab:Tab}
theorem kind_row {t:Nat} {k:TK} (h:kindAt tab t=k) (hk:k≠.other):∃ r,tab.ty t=some r∧r.kind=k:=by
 unfold kindAt at h
 cases hr:tab.ty t with
 | none=>rw [hr] at h; exact absurd h.symm hk
 | some r=>rw [hr] at h; exact ⟨r,rfl,h⟩
theorem kind_under (hT:TabOk P tab) {t:Nat} {k:TK} (h:kindAt tab t=k) (hk:k≠.other):∃ d,(∀ w,(underlying t).run P w=.ok d w)∧kindOk P d k:=by
 obtain ⟨r,hr,hk'⟩:=kind_row h hk
 have:=(hT.1 t r hr).under
 rw [hk'] at this; exact this
theorem called_sres {t f:Nat} {args:Array Value} {w:World} {K:Value→World→Prop} (h:called P tab t f args w K) :
  Calls P f args w fun e w''=>∃ v,e=.returned v∧K v w'':=Calls.mono h fun _ _ hr=>rets_ex hr
theorem intBin_sound {op:BinOp} {t:Nat} {k k':IntKind} {x y:Int} {Q:Value→Prop} (h:intBin op k x y Q)
  (hkk:k'=k∨op=.shl∨op=.shr):∃ v,(∀ w,(binOp op t (.int k x) (.int k' y)).run P w=.ok v w)∧Q v:=by
 cases op
 case add =>
  obtain rfl:k'=k:=by simpa using hkk
  cases k' <;> simp only [intBin] at h
  case i64=>exact ⟨_,fun w=>by simp only [binOp,ne_eq,not_true,if_false,Op.intArith,IntWalk.i64_in _ h.1]; rfl,h.2⟩
  all_goals exact ⟨_,fun w=>by simp only [binOp,ne_eq,not_true,if_false,Op.intArith]; rfl,h⟩
 case sub =>
  obtain rfl:k'=k:=by simpa using hkk
  cases k' <;> simp only [intBin] at h
  case i64=>exact ⟨_,fun w=>by simp only [binOp,ne_eq,not_true,if_false,Op.intArith,IntWalk.i64_in _ h.1]; rfl,h.2⟩
  all_goals exact ⟨_,fun w=>by simp only [binOp,ne_eq,not_true,if_false,Op.intArith]; rfl,h⟩
 case mul =>
  obtain rfl:k'=k:=by simpa using hkk
  cases k' <;> simp only [intBin] at h
  case i64=>exact ⟨_,fun w=>by simp only [binOp,ne_eq,not_true,if_false,Op.intArith,IntWalk.i64_in _ h.1]; rfl,h.2⟩
  all_goals exact ⟨_,fun w=>by simp only [binOp,ne_eq,not_true,if_false,Op.intArith]; rfl,h⟩
 case quo =>
  obtain rfl:k'=k:=by simpa using hkk
  exact ⟨_,fun w=>by simp only [binOp,ne_eq,not_true,if_false,Op.intDiv,if_neg h.1]; rfl,h.2⟩
 case rem =>
  obtain rfl:k'=k:=by simpa using hkk
  exact ⟨_,fun w=>by simp only [binOp,ne_eq,not_true,if_false,Op.intDiv,if_neg h.1]; rfl,h.2⟩
 case shl =>
  have:¬y<0:=by have:=h.1; omega
  exact ⟨_,fun w=>by simp only [binOp,Op.shift,if_neg this]; rfl,h.2⟩
 case shr =>
  have:¬y<0:=by have:=h.1; omega
  exact ⟨_,fun w=>by simp only [binOp,Op.shift,if_neg this]; rfl,h.2⟩
 all_goals (obtain rfl:k'=k:=by simpa using hkk)
 all_goals exact ⟨_,fun w=>by simp only [binOp,ne_eq,not_true,if_false]; rfl,h⟩
theorem knum_inj {k k':IntKind} (h:Nat.beq (knum k') (knum k)=true):k'=k:=by
 cases k <;> cases k' <;> first | rfl | (exact absurd h (by decide))
theorem isShift_of {op:BinOp} (h:isShift op=true):op=.shl∨op=.shr:=by
 cases op <;> first | exact .inl rfl | exact .inr rfl | (exact absurd h (by decide))
theorem runsV_ex {t:Nat} {m:Sem Value} {w:World} {K:Value→World→Prop} (h:runsV P tab t m w K):∃ v w',m.run P w=.ok v w'∧K v w':=by
 obtain ⟨w',h⟩:=h
 obtain ⟨v,h⟩:=rets_ex h
 exact ⟨v,w',h⟩
theorem runsV_sres {g:Operand→Value} {o:Oper} {t:Nat} {m:Sem Value} {w:World} {K:Value→World→Prop} (h:runsV P tab t m w K)
  (hm:(execOp g o).run P w=(m.run P w).andThen fun v w=>.ok (.value v) w):sres P K ((execOp g o).run P w):=by
 obtain ⟨v,w',h1,h2⟩:=runsV_ex h
 rw [hm,h1]; exact h2
theorem sameAddr_run {w:World} {a b:Addr} {r:Bool} (h:ptrEq w (some a) (some b) r):(sameAddr a b).run P w=.ok r w:=by
 simp only [ptrEq] at h
 rcases h with ⟨h1,h2⟩ | ⟨h1,⟨cs,e,ha⟩,⟨cs',e',hb⟩,h2⟩
 ·subst h2; simp [sameAddr,h1]
 ·subst h2
  have fa:∀ o,w.frozen? ⟨a.block,o,none⟩=false:=fun o=>by simp [World.frozen?,ha]
  have fb:∀ o,w.frozen? ⟨b.block,o,none⟩=false:=fun o=>by simp [World.frozen?,hb]
  have fa':w.frozen? a=false:=by simp [World.frozen?,ha]
  have fb':w.frozen? b=false:=by simp [World.frozen?,hb]
  have sa:w.shape? a.block=some (e,cs.size):=by simp [World.shape?,ha]
  have sb:w.shape? b.block=some (e',cs'.size):=by simp [World.shape?,hb]
  have h1':(a.block==b.block)=false:=by simpa using h1
  simp [sameAddr,h1',fa',fb',noView,viewAt,sa,sb,mayBeOne,stringish,fa,fb]
theorem equal_succ:∃ d,∀ t x y,Op.equal t x y=Op.equalIn (d+1) t x y:=⟨9999,fun _ _ _=>rfl⟩
theorem equal_ptr (hT:TabOk P tab) {w:World} {t:Nat} {p q:Option Addr} {r:Bool} (hk:kindAt tab t=.ptr) (h:ptrEq w p q r) :
  (Op.equal t (.pointer p) (.pointer q)).run P w=.ok r w:=by
 obtain ⟨d,hd,e,i,rfl,hi,hs⟩:=kind_under hT hk (by simp)
 obtain ⟨dd,he⟩:=equal_succ
 have hz:∀ w,(sizeOf e).run P w=.ok i.size w:=fun w=>by simp [sizeOf,typeInfo,hi]
 cases p with
 | none =>
  cases q with
  | none=>simp only [ptrEq] at h; subst h; simp [he,Op.equalIn,hd]
  | some b=>simp only [ptrEq] at h; subst h; simp [he,Op.equalIn,hd]
 | some a =>
  cases q with
  | none=>simp only [ptrEq] at h; subst h; simp [he,Op.equalIn,hd]
  | some b=>simp [he,Op.equalIn,hd,hz,hs,sameAddr_run h]
theorem equal_slice (hT:TabOk P tab) {w:World} {t e:Nat} {a:Option Addr} {l n l' n':Nat} (hk:kindAt tab t=.slice e) :
  (Op.equal t (.slice a l n) (.slice none l' n')).run P w=.ok a.isNone w:=by
 obtain ⟨d,hd,hd'⟩:=kind_under hT hk (by simp)
 simp only [kindOk] at hd'; subst hd'
 obtain ⟨dd,he⟩:=equal_succ
 cases a <;> simp [he,Op.equalIn,hd]
theorem equal_bool (hT:TabOk P tab) {w:World} {t:Nat} {a b:Bool} (hk:kindAt tab t=.bool) :
  (Op.equal t (.bool a) (.bool b)).run P w=.ok (a==b) w:=by
 obtain ⟨d,hd,hd'⟩:=kind_under hT hk (by simp)
 simp only [kindOk] at hd'; subst hd'
 obtain ⟨dd,he⟩:=equal_succ
 simp [he,Op.equalIn,hd]
theorem binOp_run {g:Operand→Value} {o:Oper} {op:BinOp} {t ty:TypeId} {x y:Operand} (ho:o.op=.binOp op t x y ty) (w:World) :
  (execOp g o).run P w=((eqGuard op t x y (g x) (g y)).run P w).andThen fun _ w=>((binOp op t (g x) (g y)).run P w).andThen fun v w=>.ok (.value v) w:=by
 simp [execOp,ho]
theorem fill1_ok (fs:List (Nat × Nat)):∀ (parts:List (Nat × Value)) (cells:List Value) (cs:List Value),fill1 fs cells parts=some cs →
  Instr.fill (fun i=>fs[i]?) cells.toArray parts=some cs.toArray
 | [],cells,cs,h=>by simp only [fill1,Option.some.injEq] at h; subst h; rfl
 | (i,v) :: rest,cells,cs,h=>by
  simp only [fill1] at h
  split at h
  ·rename_i off h1 h2
   split at h
   ·rename_i hb
    have hlt:off<cells.length:=by
     have:=Nat.le_of_ble_eq_true (show Nat.ble (off+1) cells.length=true from hb); omega
    have hv:v.cells=#[v]:=by cases v <;> first | rfl | (exact absurd h2 (by decide)) | (simp [Value.oneCell'] at h2)
    have:=fill1_ok fs rest (cells.set off v) cs h
    simp only [Instr.fill,h1,hv]
    simp only [List.size_toArray,List.length_cons,List.length_nil,Nat.zero_add,ne_eq,not_true,decide_false,Bool.false_or,decide_eq_true_eq]
    rw [if_neg (by omega)]
    simpa using this
   ·exact absurd h (by simp)
  ·exact absurd h (by simp)
theorem nc_ex {p:Option Addr} {f:Nat→Nat→Prop} (h:nc p f):∃ b o,p=some ⟨b,o,none⟩∧f b o:=h
def yields (P:Program) (g:Operand→Value) (o:Oper) (Q:Value→Prop):Prop:=∃ v,(∀ w,(execOp g o).run P w=.ok (.value v) w)∧Q v
theorem yields_sres {g:Operand→Value} {o:Oper} {w:World} {K:Value→World→Prop} (h:yields P g o fun v=>K v w):sres P K ((execOp g o).run P w):=by
 obtain ⟨v,hv,hK⟩:=h
 rw [hv]; exact hK
theorem binOpV_pure (hT:TabOk P tab) {g:Operand→Value} {o:Oper} {op:BinOp} {t ty:TypeId} {x y:Operand} {w:World} {K:Value→World→Prop} (ho:o.op=.binOp op t x y ty)
  (hc:cls tab o=0) (h:binOpV P tab o.type op t x y (g x) (g y) w K):yields P g o fun v=>K v w:=by
 simp only [cls,ho] at hc
 unfold binOpV at h
 split at h
 ·split at h
  ·rename_i k a k' b e1 e2
   have hb:∃ v,(∀ w,(binOp op t (.int k a) (.int k' b)).run P w=.ok v w)∧K v w:=by
    split at h
    ·rename_i hs; exact intBin_sound h (.inr (isShift_of hs))
    ·rename_i hs hk; exact intBin_sound h (.inl (knum_inj hk))
    ·exact h.elim
   obtain ⟨v,hv,hK⟩:=hb
   refine ⟨v,fun w=>?_,hK⟩
   have hg:(eqGuard op t x y (.int k a) (.int k' b)).run P w=.ok () w:=by
    unfold eqGuard; cases op <;> simp
   rw [binOp_run ho,e1,e2,hg]; simp [hv]
  ·exact h.elim
 ·rename_i hk
  split at h
  ·rename_i a b e1 e2
   have hg:∀ op w,(eqGuard op t x y (.bool a) (.bool b)).run P w=.ok () w:=by
    intro op w; unfold eqGuard; cases op <;> simp
   split at h
   ·exact ⟨_,fun w=>by rw [binOp_run ho,e1,e2,hg]; simp only [binOp,equal_bool hT hk,Result.andThen_ok,Sem.run_bind,Sem.run_pure],h⟩
   ·exact ⟨_,fun w=>by rw [binOp_run ho,e1,e2,hg]; simp only [binOp,equal_bool hT hk,Result.andThen_ok,Sem.run_bind,Sem.run_pure],h⟩
   ·exact h.elim
  ·exact h.elim
 all_goals (exfalso; revert hc; split <;> simp_all)
theorem binOpV_sound (hT:TabOk P tab) {g:Operand→Value} {o:Oper} {op:BinOp} {t ty:TypeId} {x y:Operand} {w:World} {K:Value→World→Prop} (ho:o.op=.binOp op t x y ty)
  (h:binOpV P tab o.type op t x y (g x) (g y) w K):sres P K ((execOp g o).run P w):=by
 by_cases hc:cls tab o=0
 ·exact yields_sres (binOpV_pure hT ho hc h)
 simp only [cls,ho] at hc
 unfold binOpV at h
 split at h
 ·rename_i hk; rw [hk] at hc; exact absurd rfl hc
 ·rename_i hk; rw [hk] at hc; exact absurd rfl hc
 ·rename_i hk
  split at h
  ·rename_i p q e1 e2
   have hg:∀ op,(eqGuard op t x y (.pointer p) (.pointer q)).run P w=.ok () w:=by
    intro op; unfold eqGuard; cases op <;> simp
   split at h
   ·obtain ⟨r,hr,h⟩:=h
    rw [binOp_run ho,e1,e2,hg]; simpa [binOp,equal_ptr hT hk hr,sres] using h
   ·obtain ⟨r,hr,h⟩:=h
    rw [binOp_run ho,e1,e2,hg]; simpa [binOp,equal_ptr hT hk hr,sres] using h
   ·exact h.elim
  ·exact h.elim
 ·rename_i e hk
  split at h
  ·rename_i a l n l' n' e1 e2
   have hg:∀ op,(eqGuard op t x y (.slice a l n) (.slice none l' n')).run P w=.ok () w:=by
    intro op; unfold eqGuard; cases op <;> simp
   split at h
   ·rw [binOp_run ho,e1,e2,hg]; simpa [binOp,equal_slice hT hk,sres] using h
   ·rw [binOp_run ho,e1,e2,hg]; simpa [binOp,equal_slice hT hk,sres] using h
   ·exact h.elim
  ·exact h.elim
 ·split at h
  ·rename_i a b e1 e2
   split at h
   ·have hg:(eqGuard .eql t x y (.string a) (.string b)).run P w=.ok () w:=by
     unfold eqGuard; simp
    rw [binOp_run ho,e1,e2,hg]; simp only [binOp,Op.stringOp,Result.andThen_ok,Sem.run_pure,sres]; exact h
   ·exact h.elim
  ·exact h.elim
 ·refine runsV_sres h ?_
  rw [binOp_run ho]
  simp only [Sem.run_bind]
  cases (eqGuard op t x y (g x) (g y)).run P w <;> rfl
theorem vcOp_pure (hT:TabOk P tab) {g:Operand→Value} {o:Oper} {w:World} {K:Value→World→Prop} (hcl:cls tab o=0) (h:vcOp P tab o g w K) :
  yields P g o fun v=>K v w:=by
 unfold vcOp at h
 split at h
 case h_1 x ho=>exact ⟨_,fun w=>by simp only [execOp,ho]; rfl,h⟩
 case h_2 x ho=>exact ⟨_,fun w=>by simp only [execOp,ho]; rfl,h⟩
 case h_3 c a b ho =>
  split at h
  ·rename_i cb hc
   have hb:=bc_elim h
   cases cb
   ·exact ⟨_,fun w=>by simp [execOp,ho,hc,asBool],hb.2 rfl⟩
   ·exact ⟨_,fun w=>by simp [execOp,ho,hc,asBool],hb.1 rfl⟩
  ·exact h.elim
 case h_4 t x ho=>simp [cls,ho] at hcl
 case h_5 t x v ho=>simp [cls,ho] at hcl
 case h_6 t ho=>simp [cls,ho] at hcl
 case h_7 t x ho=>simp [cls,ho] at hcl
 case h_8 t parts ho =>
  split at h
  ·rename_i r hr
   split at h
   ·rename_i fs hk
    split at h
    ·rename_i cs hcs
     obtain ⟨d,hd,hd'⟩:=(hT.1 t r hr).under
     rw [hk] at hd'
     obtain ⟨fields,rfl,hf⟩:=hd'
     have hpl:∀ w,(fields.mapM (m:=Sem) fun f=>do pure (f.offset,←sizeOf f.type)).run P w=.ok fs.toArray w:=by
      have key:∀ (l:List Field) (gs:List (Nat × Nat)),l.map (fun f=>(f.offset,(P.info? f.type).map (·.size)))=gs.map (fun x=>(x.1,some x.2)) →
        ∀ w,(l.mapM (m:=Sem) fun f=>do pure (f.offset,←sizeOf f.type)).run P w=.ok gs w:=by
       intro l
       induction l with
       | nil=>intro gs h w; cases gs with
        | nil=>rfl
        | cons a b=>simp at h
       | cons a l ih=>intro gs h w; cases gs with
        | nil=>simp at h
        | cons b gs =>
         simp only [List.map_cons,List.cons.injEq,Prod.mk.injEq] at h
         obtain ⟨⟨h1,h2⟩,h3⟩:=h
         obtain ⟨i,hi,hi'⟩:=Option.map_eq_some_iff.1 h2
         have hs:∀ w,(sizeOf a.type).run P w=.ok b.2 w:=fun w=>by simp [sizeOf,typeInfo,hi,hi']
         simp only [List.mapM_cons,Sem.run_bind,hs,Result.andThen_ok,Sem.run_pure,ih gs h3 w,h1]
      intro w
      have h0:=key fields.toList fs hf w
      rw [Array.mapM_eq_mapM_toList]
      simp only [Sem.run_map,h0]
      rfl
     have hfill:=fill1_ok fs _ _ _ hcs
     refine ⟨.agg cs.toArray,fun w=>?_,h⟩
     ·simp only [execOp,ho,Instr.build,Sem.run_bind,(hT.1 t r hr).zero w,hd,hpl,Result.andThen_ok]
      simp only [List.getElem?_toArray,Array.toList_map,Array.toArray_toList] at hfill ⊢
      rw [hfill]
      rfl
    ·exact h.elim
   ·exact h.elim
  ·exact h.elim
 case h_9 op t x y ty ho=>exact binOpV_pure hT ho hcl h
 case h_10 op ty x ho=>simp [cls,ho] at hcl
 case h_11 s t x ho =>
  split at h
  ·rename_i k0 k hs ht
   split at h
   ·rename_i k1 n hx
    obtain ⟨d1,hd1,hd1'⟩:=kind_under hT hs (by simp)
    obtain ⟨d2,hd2,hd2'⟩:=kind_under hT ht (by simp)
    simp only [kindOk] at hd1' hd2'; subst hd1' hd2'
    exact ⟨_,fun w=>by simp [execOp,ho,hx,convert,hd1,hd2,Conv.intToInt],h⟩
   ·exact h.elim
  ·exfalso; revert hcl; simp only [cls,ho]; simp
 case h_12 x ho =>
  split at h
  ·rename_i p hx
   obtain ⟨b,q,rfl,hK⟩:=nc_ex h
   have hthis:∀ w,(execOp g o).run P w=.ok (.value (.pointer (some ⟨b,q,none⟩))) w:=fun w=>by simp [execOp,ho,hx]
   exact ⟨_,hthis,hK⟩
  ·exact h.elim
 case h_13 t x f ho =>
  split at h
  ·rename_i b p hx
   split at h
   ·rename_i fs hk
    split at h
    ·rename_i off sz hfs
     split at h
     ·exact h.elim
     ·rename_i hz
      obtain ⟨d,hd,hd'⟩:=kind_under hT hk (by simp)
      obtain ⟨fields,rfl,hf⟩:=hd'
      have hz':sz≠0:=fun e=>by subst e; simp at hz
      have hff:=congrArg (·[f]?) hf
      simp only [List.getElem?_map,hfs,Option.map_some] at hff
      obtain ⟨fd,hfd,hfd'⟩:=Option.map_eq_some_iff.1 hff
      simp only [Prod.mk.injEq] at hfd'
      obtain ⟨i,hi,hi'⟩:=Option.map_eq_some_iff.1 hfd'.2
      have hsz:∀ w,(sizeOf fd.type).run P w=.ok sz w:=fun w=>by simp [sizeOf,typeInfo,hi,hi']
      have hfa:fields[f]?=some fd:=by rw [←Array.getElem?_toList]; exact hfd
      have hadd:(⟨b,p,none⟩:Addr).add off=⟨b,p+off,none⟩:=by
       by_cases h0:off=0 <;> simp [Addr.add,h0]
      have hthis:∀ w,(execOp g o).run P w=.ok (.value (.pointer (some ⟨b,p+off,none⟩))) w:=fun w=>by
       simp only [execOp,ho,hx,Instr.fieldAt,Sem.run_bind,hd,Result.andThen_ok,hfa,Instr.sureAddr,Sem.run_pure,fieldPlace,hsz,if_neg hz',hfd'.1,hadd]
      exact ⟨_,hthis,h⟩
    ·exact h.elim
   ·exact h.elim
  ·exact h.elim
 case h_14 t x i ho =>
  split at h
  ·rename_i e a l c ik n hk hx hi
   obtain ⟨b,p,rfl,kk,rfl,hb,h⟩:=nc_ex h
   obtain ⟨d,hd,hd'⟩:=kind_under hT hk (by simp)
   simp only [kindOk] at hd'; subst hd'
   split at h
   ·rename_i s hs
    obtain ⟨r,hr,hr1⟩:=Option.map_eq_some_iff.1 hs
    have hsz:∀ w,(sizeOf e).run P w=.ok s w:=fun w=>by rw [(hT.1 e r hr).sizeOf,hr1]
    have hadd:(⟨b,p,none⟩:Addr).add (kk*s)=⟨b,p+kk*s,none⟩:=by
     by_cases h0:kk*s=0 <;> simp only [Addr.add,h0,if_true,if_false,Nat.add_zero]
    have hthis:∀ w,(execOp g o).run P w=.ok (.value (.pointer (some ⟨b,p+times kk s,none⟩))) w:=fun w=>by
     simp [execOp,ho,hx,hi,Instr.indexAt,asIntOf,hd,hb,hsz,hadd,times_eq]
    exact ⟨_,hthis,h⟩
   ·exact h.elim
  ·rename_i len e b p ik n hk hx hi
   obtain ⟨kk,rfl,hb,h⟩:=h
   obtain ⟨d,hd,hd'⟩:=kind_under hT hk (by simp)
   simp only [kindOk] at hd'; subst hd'
   split at h
   ·rename_i s hs
    obtain ⟨r,hr,hr1⟩:=Option.map_eq_some_iff.1 hs
    have hsz:∀ w,(sizeOf e).run P w=.ok s w:=fun w=>by rw [(hT.1 e r hr).sizeOf,hr1]
    have hadd:(⟨b,p,none⟩:Addr).add (kk*s)=⟨b,p+kk*s,none⟩:=by
     by_cases h0:kk*s=0 <;> simp only [Addr.add,h0,if_true,if_false,Nat.add_zero]
    have hthis:∀ w,(execOp g o).run P w=.ok (.value (.pointer (some ⟨b,p+times kk s,none⟩))) w:=fun w=>by
     simp [execOp,ho,hx,hi,Instr.indexAt,asIntOf,hd,hb,hsz,hadd,times_eq,Instr.sureAddr]
    exact ⟨_,hthis,h⟩
   ·exact h.elim
  ·exact h.elim
 case h_15 t x lo hi mx ho =>
  split at h
  ·rename_i e hk
   split at h
   case h_2=>exact h.elim
   rename_i a l n hx
   obtain ⟨d,hd,hd'⟩:=kind_under hT hk (by simp)
   simp only [kindOk] at hd'; subst hd'
   unfold sliceV at h
   split at h
   ·exact h.elim
   ·rename_i s hs
    obtain ⟨r,hr,hr1⟩:=Option.map_eq_some_iff.1 hs
    have hsz:∀ w,(sizeOf e).run P w=.ok s w:=fun w=>by rw [(hT.1 e r hr).sizeOf,hr1]
    have hrun:∀ w,(execOp g o).run P w=((Instr.slice t (.slice a l n) (lo.map g) (hi.map g) (mx.map g)).run P w).andThen fun v w=>.ok (.value v) w:=fun w=>by
     simp [execOp,ho,hx,Instr.sliceAt,hd]
    have hsl:∀ (lo hi mx:Option Value) (b:Nat × Nat × Nat) (w:World),(Instr.sliceBounds true l n lo hi mx).run P w=.ok b w →
      (Instr.slice t (.slice a l n) lo hi mx).run P w=.ok (.slice (shifted a b.1 b.2.2 s) (b.2.1-b.1) (b.2.2-b.1)) w:=by
     intro lo hi mx b w hb
     simp only [Instr.slice,Sem.run_bind,hd,Result.andThen_ok,hb,hsz,Sem.run_pure,shifted]
    generalize lo.map g=lo' at h hrun
    generalize hi.map g=hi' at h hrun
    generalize mx.map g=mx' at h hrun
    split at h
    ·refine ⟨_,fun w=>by rw [hrun,hsl _ _ _ (0,l,n) w (by simp [Instr.sliceBounds])]; rfl,?_⟩
     simp only [Nat.sub_zero]
     have:shifted a 0 n s=a:=by
      unfold shifted; split
      ·rfl
      ·cases a <;> simp [Addr.add]
     rw [this]; exact h
    ·rename_i kh hh
     obtain ⟨h',rfl,h1,hK⟩:=h
     refine ⟨_,fun w=>by rw [hrun,hsl _ _ _ (0,h',n) w (by simp [Instr.sliceBounds,Instr.sliceBound,asIntOf,h1])]; rfl,?_⟩
     simp only [Nat.sub_zero]
     have:shifted a 0 n s=a:=by
      unfold shifted; split
      ·rfl
      ·cases a <;> simp [Addr.add]
     rw [this]; exact hK
    ·rename_i ki i
     obtain ⟨i',rfl,h1,hK⟩:=h
     exact ⟨_,fun w=>by rw [hrun,hsl _ _ _ (i',l,n) w (by simp [Instr.sliceBounds,Instr.sliceBound,asIntOf,h1])]; rfl,hK⟩
    ·rename_i ki i kh hh
     obtain ⟨i',h',rfl,rfl,h1,h2,hK⟩:=h
     exact ⟨_,fun w=>by rw [hrun,hsl _ _ _ (i',h',n) w (by simp [Instr.sliceBounds,Instr.sliceBound,asIntOf,h1,h2])]; rfl,hK⟩
    ·rename_i ki i kh hh km m
     obtain ⟨i',h',m',rfl,rfl,rfl,h1,h2,h3,hK⟩:=h
     exact ⟨_,fun w=>by rw [hrun,hsl _ _ _ (i',h',m') w (by simp [Instr.sliceBounds,Instr.sliceBound,asIntOf,h1,h2,h3])]; rfl,hK⟩
    ·exact h.elim
  ·exfalso; revert hcl; simp only [cls,ho]; simp
 case h_16 t l c ho=>simp [cls,ho] at hcl
 case h_17 x i ho =>
  split at h
  ·rename_i vs hx
   split at h
   ·rename_i v hv
    have hthis:∀ w,(execOp g o).run P w=.ok (.value v) w:=fun w=>by simp [execOp,ho,hx,Instr.extract,hv]
    exact ⟨_,hthis,h⟩
   ·exact h.elim
  ·exact h.elim
 case h_18 t x ho=>simp [cls,ho] at hcl
 case h_19 t x i ho=>simp [cls,ho] at hcl
 case h_20 c ho =>
  have hargs:(c.args.toList.map g).toArray=c.args.map g:=by rw [←Array.toList_map]
  split at h
  ·rename_i b hc
   have hres:resolve g c o.type=(pure { target:=.builtin b c.argTypes o.type (c.args.map isC),args:=c.args.map g }:Sem Deferred):=by
    unfold resolve
    rw [hc]
    simp only []
    congr
   have hrun:∀ w,(execOp g o).run P w=(builtin b c.argTypes o.type (c.args.map isC) (c.args.map g)).run P w:=fun w=>by
    simp only [execOp,ho,hres,Sem.run_bind,Sem.run_pure,Result.andThen_ok,invoke]
   split at h
   ·split at h
    ·rename_i e a l n ht hl
     have h1:c.argTypes.toList.map (kindAt tab)=[.slice e]:=ht
     cases hat:c.argTypes.toList with
     | nil=>rw [hat] at h1; simp at h1
     | cons t1 ts =>
      rw [hat] at h1; simp only [List.map_cons,List.cons.injEq,List.map_eq_nil_iff] at h1
      obtain ⟨h1,rfl⟩:=h1
      obtain ⟨d,hd,hd'⟩:=kind_under hT h1 (by simp)
      simp only [kindOk] at hd'; subst hd'
      have e1:c.argTypes=#[t1]:=by rw [←Array.toArray_toList (xs:=c.argTypes),hat]
      have e2:c.args.map g=#[.slice a l n]:=by rw [←hargs,hl]
      exact ⟨_,fun w=>by rw [hrun,e1,e2]; simp [builtin,Builtin.len_,hd,goInt],h⟩
    ·rename_i s ht hl
     have h1:c.argTypes.toList.map (kindAt tab)=[.str]:=ht
     cases hat:c.argTypes.toList with
     | nil=>rw [hat] at h1; simp at h1
     | cons t1 ts =>
      rw [hat] at h1; simp only [List.map_cons,List.cons.injEq,List.map_eq_nil_iff] at h1
      obtain ⟨h1,rfl⟩:=h1
      obtain ⟨d,hd,hd'⟩:=kind_under hT h1 (by simp)
      simp only [kindOk] at hd'; subst hd'
      have e1:c.argTypes=#[t1]:=by rw [←Array.toArray_toList (xs:=c.argTypes),hat]
      have e2:c.args.map g=#[.string s]:=by rw [←hargs,hl]
      exact ⟨_,fun w=>by rw [hrun,e1,e2]; simp [builtin,Builtin.len_,hd,goInt],h⟩
    ·exact h.elim
   ·split at h
    ·rename_i e a l n ht hl
     have h1:c.argTypes.toList.map (kindAt tab)=[.slice e]:=ht
     cases hat:c.argTypes.toList with
     | nil=>rw [hat] at h1; simp at h1
     | cons t1 ts =>
      rw [hat] at h1; simp only [List.map_cons,List.cons.injEq,List.map_eq_nil_iff] at h1
      obtain ⟨h1,rfl⟩:=h1
      obtain ⟨d,hd,hd'⟩:=kind_under hT h1 (by simp)
      simp only [kindOk] at hd'; subst hd'
      have e1:c.argTypes=#[t1]:=by rw [←Array.toArray_toList (xs:=c.argTypes),hat]
      have e2:c.args.map g=#[.slice a l n]:=by rw [←hargs,hl]
      exact ⟨_,fun w=>by rw [hrun,e1,e2]; simp [builtin,Builtin.cap_,hd,goInt],h⟩
    ·exact h.elim
   ·split at h
    ·rename_i k a k' b hl
     have e2:c.args.map g=#[.int k a,.int k' b]:=by rw [←hargs,hl]
     exact ⟨_,fun w=>by rw [hrun,e2]; simp [builtin,Builtin.max_,Builtin.max2],h⟩
    ·exact h.elim
   ·split at h
    ·rename_i k a k' b hl
     have e2:c.args.map g=#[.int k a,.int k' b]:=by rw [←hargs,hl]
     exact ⟨_,fun w=>by rw [hrun,e2]; simp [builtin,Builtin.min_,Builtin.min2],h⟩
    ·exact h.elim
   ·rename_i n1 n2 n3 n4
    simp only [cls,ho,hc] at hcl
    split at hcl
    case h_5=>exact absurd hcl (by simp)
    all_goals (rename_i hb; injection hb with hb; first | exact (n1 hb).elim | exact (n2 hb).elim | exact (n3 hb).elim | exact (n4 hb).elim)
  ·rename_i hc; simp [cls,ho,hc] at hcl
  ·rename_i hc; simp [cls,ho,hc] at hcl
  ·exact h.elim
 case h_21 t n parts ho=>simp [cls,ho] at hcl
 case h_22=>exact h.elim
 case h_23=>exact h.elim
 case h_24=>exact h.elim
theorem vcOp_sound (hT:TabOk P tab) {g:Operand→Value} {o:Oper} {w:World} {K:Value→World→Prop} (hg:∀ f,g (.func f)=.func (.func f) #[] #[]) (h:vcOp P tab o g w K) :
  sres P K ((execOp g o).run P w):=by
 by_cases hcl:cls tab o=0
 ·exact yields_sres (vcOp_pure hT hcl h)
 unfold vcOp at h
 split at h
 case h_1 x ho=>simp [cls,ho] at hcl
 case h_2 x ho=>simp [cls,ho] at hcl
 case h_3 c a b ho=>simp [cls,ho] at hcl
 case h_8 t parts ho=>simp [cls,ho] at hcl
 case h_12 x ho=>simp [cls,ho] at hcl
 case h_13 t x f ho=>simp [cls,ho] at hcl
 case h_14 t x i ho=>simp [cls,ho] at hcl
 case h_17 x i ho=>simp [cls,ho] at hcl
 case h_4 t x ho =>
  split at h
  ·rename_i b p hgx
   have key:∀ k,kindAt tab t=k→(∀ fs,k≠.struct fs)→(∀ n e,k≠.arr n e)→k≠.other →
     typed k (fun v=>w.cell? ⟨b,p,none⟩=some v) (fun v=>K v w)→sres P K ((execOp g o).run P w):=by
    intro k hk h1 h2 h3 h
    obtain ⟨v,hv,hK⟩:=typed_ex h
    obtain ⟨d,hd,hd'⟩:=kind_under hT hk h3
    have ha:(isAgg t).run P w=.ok false w:=by
     simp only [isAgg,Sem.run_bind,hd,Result.andThen_ok]
     cases d <;> try rfl
     ·cases k <;> simp [kindOk] at hd' h1 h2 h3
     ·cases k <;> simp [kindOk] at hd' h1 h2 h3
    have:(execOp g o).run P w=.ok (.value v) w:=by
     simp [execOp,ho,hgx,Instr.loadAt,Instr.sureAddr,loadVar,ha,hv]
    rw [this]; exact hK
   split at h
   ·exact h.elim
   ·exact h.elim
   ·exact h.elim
   ·exact h.elim
   ·rename_i n1 n2 n3 n4
    exact key _ rfl (fun fs=>n1 fs) (fun n e=>n2 n e) n4 h
  ·exact h.elim
 case h_5 t x v ho =>
  split at h
  ·rename_i b p hgx
   split at h
   ·rename_i hs h1
    obtain ⟨⟨u,hu⟩,hf,hK⟩:=h
    obtain ⟨r,hr,hr1⟩:=Option.map_eq_some_iff.1 hs
    have hsz:=(hT.1 t r hr).sizeOf w
    rw [hr1] at hsz
    have hv:(g v).cells=#[g v]:=by
     cases hgv:g v <;> first | rfl | (rw [hgv] at h1; exact absurd h1 (by simp [Value.oneCell']))
    have:(execOp g o).run P w=.ok .skip (w.setCell ⟨b,p,none⟩ (g v)):=by
     simp [execOp,ho,hgx,Instr.storeAt,Instr.sureAddr,storeVar,hsz,hv,storeCells,Addr.add,run_store _ _ _ _ _ h1,hu,hf]
    rw [this]; exact hK
   ·exact h.elim
  ·exact h.elim
 case h_6 t ho =>
  split at h
  ·rename_i r hr
   have:(execOp g o).run P w=.ok (.value (.pointer (some ⟨w.heap.size,0,none⟩))) (w.alloc (.cells r.zero.cells t)):=by
    simp [execOp,ho,Instr.alloc,(hT.1 t r hr).zero,newVar,newRow]
   rw [this]; exact h
  ·exact h.elim
 case h_7 t x ho =>
  have:(execOp g o).run P w=.ok (.value (.pointer (some ⟨w.heap.size,0,none⟩))) (w.alloc (.cells (g x).cells t)):=by
   simp [execOp,ho,Instr.box,newVar,newRow]
  rw [this]; exact h
 case h_9 op t x y ty ho=>exact binOpV_sound hT ho h
 case h_10 op ty x ho =>
  split at h
  ·rename_i k n hx
   have:(execOp g o).run P w=.ok (.value (.int k (k.wrap (0-n)))) w:=by simp only [execOp,ho,hx]; rfl
   rw [this]; exact h
  ·rename_i b hx
   have:(execOp g o).run P w=.ok (.value (.bool (!b))) w:=by simp only [execOp,ho,hx]; rfl
   rw [this]; exact h
  ·rename_i k n hx
   have:(execOp g o).run P w=.ok (.value (.int k (iNot k n))) w:=by
    simp only [execOp,ho,hx]; rfl
   rw [this]; exact h
  ·rename_i x' hx; exact runsV_sres h (by simp [execOp,ho])
 case h_11 s t x ho =>
  split at h
  ·rename_i k0 k hs ht; simp [cls,ho,hs,ht] at hcl
  ·exact runsV_sres h (by simp [execOp,ho])
 case h_15 t x lo hi mx ho =>
  split at h
  ·rename_i e hk; simp [cls,ho,hk] at hcl
  ·exact runsV_sres h (by simp [execOp,ho])
 case h_16 t l c ho =>
  split at h
  ·rename_i e kl l0 kc c0 hk hl hc
   split at h
   ·rename_i r hr
    obtain ⟨l',c',rfl,rfl,h1,h2,h3,hK⟩:=h
    obtain ⟨d,hd,hd'⟩:=kind_under hT hk (by simp)
    simp only [kindOk] at hd'; subst hd'
    obtain ⟨i,hi,hi1,hi2,hi3⟩:=(hT.1 e r hr).info
    have wl:IntKind.i64.wrap (l':Int)=l':=IntWalk.i64_in _ (by omega)
    have wc:IntKind.i64.wrap (c':Int)=c':=IntWalk.i64_in _ (by omega)
    have hb0:¬(c':Int)<0:=by omega
    have hbb:¬(2^48:Int)<(r.bytes:Int)*c':=by
     have:((r.bytes*c':Nat):Int)≤((281474976710656:Nat):Int):=Int.ofNat_le.2 h2
     rw [Int.natCast_mul] at this; omega
    have hl0:¬(l':Int)<0:=by omega
    have hlc:¬(c':Int)<l':=by omega
    have:(execOp g o).run P w=.ok (.value (.slice (some ⟨w.heap.size,0,none⟩) l' c')) (w.alloc (.cells (madeCells r.zero.cells (times c' r.size)) e)):=by
     have hsz:∀ w,(sizeOf e).run P w=.ok r.size w:=(hT.1 e r hr).sizeOf
     simp only [execOp,ho,hl,hc,Instr.makeSlice,Sem.run_bind,hd,Result.andThen_ok,asInt,asIntOf,Sem.run_pure,hi,hi2,wl,wc]
     simp only [hb0,hbb,hl0,hlc,gt_iff_lt,decide_false,Bool.or_false,Bool.false_eq_true,if_false,Sem.run_bind,run_askRoom,Result.andThen_ok,hsz,Sem.run_pure,times_eq,Int.toNat_natCast]
     by_cases hn:c'*r.size=0
     ·simp [hn,newRow,madeCells,show Array.range 0=#[] from rfl]
     ·simp [hn,(hT.1 e r hr).zero,newRow,madeCells]
    rw [this]; exact hK
   ·exact h.elim
  ·exact h.elim
 case h_18 t x ho =>
  split at h
  ·exact h.elim
  ·exact h.elim
  ·rename_i n1 n2
   obtain ⟨d,hd,hd'⟩:=kind_under hT (k:=kindAt tab t) rfl n2
   have:(execOp g o).run P w=.ok (.value (.iface t (g x))) w:=by
    simp only [execOp,ho,Instr.makeInterface,Sem.run_bind,hd,Result.andThen_ok]
    cases d <;> try rfl
    all_goals (generalize hkk:kindAt tab t=k at hd' n1 n2; cases k <;> simp [kindOk] at hd' n1 n2)
   rw [this]; exact h
 case h_19 t x i ho =>
  split at h
  ·rename_i s ik n hk hx hi
   obtain ⟨kk,c,rfl,hc,h⟩:=h
   obtain ⟨d,hd,hd'⟩:=kind_under hT hk (by simp)
   simp only [kindOk] at hd'; subst hd'
   have:(execOp g o).run P w=.ok (.value (.int .u8 c.toNat)) w:=by
    simp [execOp,ho,hx,hi,Instr.index,asIntOf,hd,hc]
   rw [this]; exact h
  ·exact runsV_sres h (by simp [execOp,ho])
 case h_20 c ho =>
  have hargs:(c.args.toList.map g).toArray=c.args.map g:=by rw [←Array.toList_map]
  split at h
  ·rename_i b hc
   have hres:resolve g c o.type=(pure { target:=.builtin b c.argTypes o.type (c.args.map isC),args:=c.args.map g }:Sem Deferred):=by
    unfold resolve
    rw [hc]
    simp only []
    congr
   have hrun:(execOp g o).run P w=(builtin b c.argTypes o.type (c.args.map isC) (c.args.map g)).run P w:=by
    simp only [execOp,ho,hres,Sem.run_bind,Sem.run_pure,Result.andThen_ok,invoke]
   split at h
   ·simp [cls,ho,hc] at hcl
   ·simp [cls,ho,hc] at hcl
   ·simp [cls,ho,hc] at hcl
   ·simp [cls,ho,hc] at hcl
   ·obtain ⟨w',h⟩:=h
    obtain ⟨v,hv,hK⟩:=rets_ex h
    have e3:(c.args.toList.map isC).toArray=c.args.map isC:=by rw [←Array.toList_map]
    rw [hrun,←hargs,←e3,hv]; exact hK
  ·rename_i f hc
   have hrun0:(execOp g o).run P w=(callFunc f (c.args.map g)).run P w:=by
    have hres:resolve g c o.type=Deferred.ofValue (g (.func f)) (c.args.map g):=by
     unfold resolve; rw [hc]
    simp only [execOp,ho,hres,hg,Deferred.ofValue,Sem.run_bind,Sem.run_pure,Result.andThen_ok,invoke]
    simp
   split at h
   ·rename_i hf
    rw [hrun0,←hargs,hT.2 f hf]
    exact called_sres h
   ·obtain ⟨w',h⟩:=h
    obtain ⟨v,hv,hK⟩:=rets_ex h
    rw [hrun0,←hargs,hv]; exact hK
  ·rename_i r name hc
   obtain ⟨f,args,hf,hK⟩:=h
   have hres:resolve g c o.type=(pure { target:=.fn (.method name) #[],args:=#[g r]++c.args.map g }:Sem Deferred):=by
    unfold resolve; rw [hc]
   have hrun:(execOp g o).run P w=.ok (.enter f args) w:=by
    simp only [execOp,ho,hres,Sem.run_bind,Sem.run_pure,Result.andThen_ok,invoke]
    rw [←hf,hargs]
    have h0:(#[g r]++c.args.map g)[0]?=some (g r):=by rw [Array.getElem?_append_left (by simp)]; rfl
    have h1:(c.args.map g).extract 0 c.args.size=c.args.map g:=by
     simp
    rw [h0]
    simp [h1]
   rw [hrun]; exact called_sres hK
  ·exact h.elim
 case h_21 t n parts ho =>
  refine runsV_sres h ?_
  have:(parts.toList.map fun p=>(p.1,g p.2)).toArray=parts.map fun (i,x)=>(i,g x):=by rw [←Array.toList_map]
  rw [this]
  simp [execOp,ho]
 case h_22=>exact h.elim
 case h_23=>exact h.elim
 case h_24=>exact h.elim
end
end Go.Proofs.YtlkjiiibmfpbcaaGreatDoor
