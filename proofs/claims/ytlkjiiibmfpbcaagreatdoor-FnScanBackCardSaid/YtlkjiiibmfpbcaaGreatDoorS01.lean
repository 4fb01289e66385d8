/- A verification condition over the code of a function: what must hold for each operation to go on without a panic. No condition. -/
import Derived.WalkKit
import Derived.ChangeKeysEq
namespace Go.Proofs.YtlkjiiibmfpbcaaGreatDoor
open Go
structure Env where
 known:List (Nat × Value)
 base:Nat→Value
 defers:List Deferred
def look:List (Nat × Value)→Nat→(Nat→Value)→Value
 | [],t,b=>b t
 | (s,v) :: r,t,b=>match Nat.beq s t with
  | true=>v
  | false=>look r t b
def Env.get (e:Env) (t:Nat):Value:=look e.known t e.base
def Env.eval (e:Env):Operand→Value
 | .tmp t=>look e.known t e.base
 | .const v=>v
 | .global g=>.pointer (some ⟨g,0,none⟩)
 | .func f=>.func (.func f) #[] #[]
def Env.upd (e:Env) (t:Nat) (v:Value):Env:=⟨(t,v) :: e.known,e.base,e.defers⟩
def Env.put (e:Env) (dst:Option Tmp) (v:Value):Env :=
 match dst with
 | some d=>⟨(d,v) :: e.known,e.base,e.defers⟩
 | none=>e
abbrev E (l:List (Nat × Value)) (b:Nat→Value) (ds:List Deferred):Env:=⟨l,b,ds⟩
inductive TK where
 | int (k:IntKind) | bool | str | float | ptr | slice (e:TypeId) | arr (n:Nat) (e:TypeId)
 | struct (fs:List (Nat × Nat)) | iface | tuple (ts:List TypeId) | other
structure TRow where
 kind:TK
 size:Nat
 bytes:Nat
 zero:Value
def kindOk (P:Program) (d:TypeDesc):TK→Prop
 | .int k=>d=.int k
 | .bool=>d=.bool
 | .str=>d=.string
 | .float=>d=.float .f64
 | .ptr=>∃ e i,d=.pointer e∧P.info? e=some i∧i.size≠0
 | .slice e=>d=.slice e
 | .arr n e=>d=.array n e
 | .struct fs=>∃ fields,d=.struct fields∧fields.toList.map (fun f=>(f.offset,(P.info? f.type).map (·.size)))=fs.map (fun x=>(x.1,some x.2))
 | .iface=>∃ ms,d=.interface ms
 | .tuple ts=>d=.tuple ts.toArray
 | .other=>True
def rowOk (P:Program) (t:TypeId) (r:TRow):Prop :=
 (∃ i,P.info? t=some i∧i.size=r.size∧i.bytes=r.bytes∧i.zero=some r.zero)∧∃ d,P.underlying t=some d∧kindOk P d r.kind
structure Tab where
 ty:Nat→Option TRow
 fn:Nat→Bool
def TabOk (P:Program) (tab:Tab):Prop:=(∀ t r,tab.ty t=some r→rowOk P t r) ∧
 ∀ f,tab.fn f=true→∀ (args:Array Value) w,(callFunc f args).run P w=.ok (.enter f args) w
section
variable {P:Program} {tab:Tab}
theorem rowOk.under {t:TypeId} {r:TRow} (h:rowOk P t r):∃ d,(∀ w,(underlying t).run P w=.ok d w)∧kindOk P d r.kind:=by
 obtain ⟨_,d,hd,hk⟩:=h
 exact ⟨d,fun w=>run_underlying hd w,hk⟩
theorem rowOk.info {t:TypeId} {r:TRow} (h:rowOk P t r):∃ i,(∀ w,(typeInfo t).run P w=.ok i w)∧i.size=r.size∧i.bytes=r.bytes∧i.zero=some r.zero:=by
 obtain ⟨⟨i,hi,h1,h2,h3⟩,_⟩:=h
 refine ⟨i,fun w=>?_,h1,h2,h3⟩
 simp [typeInfo,hi]
theorem rowOk.sizeOf {t:TypeId} {r:TRow} (h:rowOk P t r) (w:World):(Go.sizeOf t).run P w=.ok r.size w:=by
 obtain ⟨i,hi,h1,_⟩:=h.info
 simp [Go.sizeOf,hi,h1]
theorem rowOk.zero {t:TypeId} {r:TRow} (h:rowOk P t r) (w:World):(zeroValue t).run P w=.ok r.zero w:=by
 obtain ⟨i,hi,_,_,h3⟩:=h.info
 simp [zeroValue,hi,h3]
theorem rowOk.slice {t e:TypeId} {r:TRow} (h:rowOk P t r) (hk:r.kind=.slice e) (w:World):(underlying t).run P w=.ok (.slice e) w:=by
 obtain ⟨d,hd,hk'⟩:=h.under
 rw [hk] at hk'; rw [hd,hk']
end
def bc (b:Bool) (t f:Prop):Prop:=match b with
 | true=>t
 | false=>f
theorem bc_intro {b:Bool} {t f:Prop} (h1:b=true→t) (h2:b=false→f):bc b t f:=by
 cases b
 ·exact h2 rfl
 ·exact h1 rfl
theorem bc_true {b:Bool} {t f:Prop} (h:b=true) (h1:t):bc b t f:=by subst h; exact h1
theorem bc_false {b:Bool} {t f:Prop} (h:b=false) (h1:f):bc b t f:=by subst h; exact h1
theorem bc_elim {b:Bool} {t f:Prop} (h:bc b t f):(b=true→t)∧(b=false→f):=by
 cases b
 ·exact ⟨(fun h=>by cases h),fun _=>h⟩
 ·exact ⟨fun _=>h,(fun h=>by cases h)⟩
def nc (p:Option Addr) (f:Nat→Nat→Prop):Prop:=∃ b o,p=some ⟨b,o,none⟩∧f b o
def typed (k:TK) (c:Value→Prop) (K:Value→Prop):Prop :=
 match k with
 | .int k=>∃ n,c (.int k n)∧K (.int k n)
 | .bool=>∃ b,c (.bool b)∧K (.bool b)
 | .str=>∃ s,c (.string s)∧K (.string s)
 | .float=>∃ n,c (.float .f64 n)∧K (.float .f64 n)
 | .ptr=>∃ p,c (.pointer p)∧K (.pointer p)
 | .slice _=>∃ a l n,c (.slice a l n)∧K (.slice a l n)
 | _=>∃ v,c v∧K v
theorem typed_ex {k:TK} {c K:Value→Prop} (h:typed k c K):∃ v,c v∧K v:=by
 cases k <;> simp only [typed] at h
 case int k=>obtain ⟨n,h⟩:=h; exact ⟨_,h⟩
 case bool=>obtain ⟨n,h⟩:=h; exact ⟨_,h⟩
 case str=>obtain ⟨n,h⟩:=h; exact ⟨_,h⟩
 case float=>obtain ⟨n,h⟩:=h; exact ⟨_,h⟩
 case ptr=>obtain ⟨n,h⟩:=h; exact ⟨_,h⟩
 case slice=>obtain ⟨a,l,n,h⟩:=h; exact ⟨_,h⟩
 all_goals exact h
def kindAt (tab:Tab) (t:Nat):TK:=match tab.ty t with
 | some r=>r.kind
 | none=>.other
def tupEx:List TK→(List Value→Prop)→(List Value→Prop)→Prop
 | [],c,K=>c []∧K []
 | k :: r,c,K=>typed k (fun _=>True) fun v=>tupEx r (fun vs=>c (v :: vs)) (fun vs=>K (v :: vs))
theorem tupEx_ex:∀ (l:List TK) {c K:List Value→Prop},tupEx l c K→∃ vs,c vs∧K vs
 | [],_,_,h=>⟨_,h⟩
 | _ :: r,_,_,h=>by
  obtain ⟨v,_,h⟩:=typed_ex h
  obtain ⟨vs,h⟩:=tupEx_ex r h
  exact ⟨_,h⟩
def rets (tab:Tab) (t:Nat) (c:Value→Prop) (K:Value→Prop):Prop :=
 match kindAt tab t with
 | .tuple ts=>tupEx (ts.map (kindAt tab)) (fun vs=>c (.tuple vs.toArray)) fun vs=>K (.tuple vs.toArray)
 | k=>typed k c K
theorem rets_ex {tab:Tab} {t:Nat} {c K:Value→Prop} (h:rets tab t c K):∃ v,c v∧K v:=by
 unfold rets at h
 split at h
 ·obtain ⟨vs,h⟩:=tupEx_ex _ h; exact ⟨_,h⟩
 ·exact typed_ex h
def called (P:Program) (tab:Tab) (t:Nat) (f:FuncId) (args:Array Value) (w:World) (K:Value→World→Prop):Prop :=
 Calls P f args w fun e w'=>rets tab t (fun v=>e=.returned v) fun v=>K v w'
def runsV (P:Program) (tab:Tab) (t:Nat) (m:Sem Value) (w:World) (K:Value→World→Prop):Prop :=
 ∃ w',rets tab t (fun v=>m.run P w=.ok v w') fun v=>K v w'
def inI64 (x:Int):Prop:=-9223372036854775808≤x∧x≤9223372036854775807
def iAnd (k:IntKind) (a b:Int):Int:=k.wrap (BitVec.ofInt k.bits a &&& BitVec.ofInt k.bits b).toNat
def iOr (k:IntKind) (a b:Int):Int:=k.wrap (BitVec.ofInt k.bits a ||| BitVec.ofInt k.bits b).toNat
def iXor (k:IntKind) (a b:Int):Int:=k.wrap (BitVec.ofInt k.bits a ^^^ BitVec.ofInt k.bits b).toNat
def iAndNot (k:IntKind) (a b:Int):Int:=k.wrap (BitVec.ofInt k.bits a &&& ~~~BitVec.ofInt k.bits b).toNat
def iShl (k:IntKind) (a b:Int):Int:=k.wrap (a*2^(min b.toNat k.bits))
def iShr (k:IntKind) (a b:Int):Int:=a.fdiv (2^(min b.toNat k.bits))
def iQuo (k:IntKind) (a b:Int):Int:=k.wrap (a.tdiv b)
def iRem (a b:Int):Int:=a.tmod b
def iNot (k:IntKind) (n:Int):Int:=k.wrap (BitVec.ofInt k.bits (if k.signed then -1 else k.max) ^^^ BitVec.ofInt k.bits n).toNat
def intBin (op:BinOp) (k:IntKind) (a b:Int) (K:Value→Prop):Prop :=
 match op with
 | .add=>match k with
  | .i64=>inI64 (a+b)∧K (.int .i64 (a+b))
  | k=>K (.int k (k.wrap (a+b)))
 | .sub=>match k with
  | .i64=>inI64 (a-b)∧K (.int .i64 (a-b))
  | k=>K (.int k (k.wrap (a-b)))
 | .mul=>match k with
  | .i64=>inI64 (a*b)∧K (.int .i64 (a*b))
  | k=>K (.int k (k.wrap (a*b)))
 | .quo=>b≠0∧K (.int k (iQuo k a b))
 | .rem=>b≠0∧K (.int k (iRem a b))
 | .and=>K (.int k (iAnd k a b))
 | .or=>K (.int k (iOr k a b))
 | .xor=>K (.int k (iXor k a b))
 | .andNot=>K (.int k (iAndNot k a b))
 | .shl=>0≤b∧K (.int k (iShl k a b))
 | .shr=>0≤b∧K (.int k (iShr k a b))
 | .eql=>K (.bool (a==b))
 | .neq=>K (.bool (a != b))
 | .lss=>K (.bool (decide (a<b)))
 | .leq=>K (.bool (decide (a≤b)))
 | .gtr=>K (.bool (decide (a>b)))
 | .geq=>K (.bool (decide (a≥b)))
def knum:IntKind→Nat
 | .i8=>0 | .i16=>1 | .i32=>2 | .i64=>3 | .u8=>4 | .u16=>5 | .u32=>6 | .u64=>7
def isShift:BinOp→Bool
 | .shl=>true
 | .shr=>true
 | _=>false
def plainAt (w:World) (b:Nat):Prop:=∃ cs e,w.heap[b]?=some (.cells cs e (0,0))
def ptrEq (w:World) (p q:Option Addr) (r:Bool):Prop :=
 match p,q with
 | some a,some b=>(a.block=b.block∧r=(a==b))∨(a.block≠b.block∧plainAt w a.block∧plainAt w b.block∧r=false)
 | none,none=>r=true
 | _,_=>r=false
def binOpV (P:Program) (tab:Tab) (ty:TypeId) (op:BinOp) (t:TypeId) (ox oy:Operand) (x y:Value) (w:World) (K:Value→World→Prop):Prop :=
 match kindAt tab t with
 | .int _=>match x,y with
  | .int k a,.int k' b=>match isShift op,Nat.beq (knum k') (knum k) with
   | true,_=>intBin op k a b fun v=>K v w
   | false,true=>intBin op k a b fun v=>K v w
   | false,false=>False
  | _,_=>False
 | .bool=>match x,y with
  | .bool a,.bool b=>match op with
   | .eql=>K (.bool (a==b)) w
   | .neq=>K (.bool (!(a==b))) w
   | _=>False
  | _,_=>False
 | .ptr=>match x,y with
  | .pointer p,.pointer q=>match op with
   | .eql=>∃ r,ptrEq w p q r∧K (.bool r) w
   | .neq=>∃ r,ptrEq w p q r∧K (.bool (!r)) w
   | _=>False
  | _,_=>False
 | .slice _=>match x,y with
  | .slice a _ _,.slice none _ _=>match op with
   | .eql=>K (.bool a.isNone) w
   | .neq=>K (.bool (!a.isNone)) w
   | _=>False
  | _,_=>False
 | .str=>match x,y with
  | .string a,.string b=>match op with
   | .eql=>K (.bool (a.toList==b.toList)) w
   | _=>False
  | _,_=>False
 | _=>runsV P tab ty (do eqGuard op t ox oy x y; Go.binOp op t x y) w K
def shifted (a:Option Addr) (l m s:Nat):Option Addr:=if m=l then a else a.map (·.add (l*s))
theorem shifted_eq (b o l m:Nat) (h:l<m):shifted (some ⟨b,o,none⟩) l m 1=some ⟨b,o+l,none⟩:=by
 unfold shifted
 rw [if_neg (by omega)]
 by_cases h0:l=0 <;> simp [Addr.add,h0]
theorem shifted_zero (b o m s:Nat):shifted (some ⟨b,o,none⟩) 0 m s=some ⟨b,o,none⟩:=by
 unfold shifted
 by_cases h:m=0 <;> simp [Addr.add,h]
theorem shifted_full (a:Option Addr) (l s:Nat):shifted a l l s=a:=by simp [shifted]
def times (n s:Nat):Nat:=match s with
 | 1=>n
 | s=>n*s
theorem times_eq (n s:Nat):times n s=n*s:=by unfold times; split <;> simp
def sliceV (tab:Tab) (e:TypeId) (a:Option Addr) (l n:Nat) (lo hi mx:Option Value) (K:Value→Prop):Prop :=
 match (tab.ty e).map (·.size) with
 | none=>False
 | some s =>
  match lo,hi,mx with
  | none,none,none=>K (.slice a l n)
  | none,some (.int _ h),none=>∃ h':Nat,h=h'∧h'≤n∧K (.slice a h' n)
  | some (.int _ i),none,none=>∃ i':Nat,i=i'∧i'≤l∧K (.slice (shifted a i' n s) (l-i') (n-i'))
  | some (.int _ i),some (.int _ h),none=>∃ i' h':Nat,i=i'∧h=h'∧i'≤h'∧h'≤n∧K (.slice (shifted a i' n s) (h'-i') (n-i'))
  | some (.int _ i),some (.int _ h),some (.int _ m)=>∃ i' h' m':Nat,i=i'∧h=h'∧m=m'∧i'≤h'∧h'≤m'∧m'≤n∧K (.slice (shifted a i' m' s) (h'-i') (m'-i'))
  | _,_,_=>False
def isC:Operand→Bool
 | .const _=>true
 | _=>false
def fill1 (fs:List (Nat × Nat)) (cells:List Value):List (Nat × Value)→Option (List Value)
 | []=>some cells
 | (i,v) :: rest=>match fs[i]?,v.oneCell' with
  | some (off,1),true=>match Nat.blt off cells.length with
   | true=>fill1 fs (cells.set off v) rest
   | false=>none
  | _,_=>none
def vcOp (P:Program) (tab:Tab) (o:Oper) (g:Operand→Value) (w:World) (K:Value→World→Prop):Prop :=
 match o.op with
 | .move x=>K (g x) w
 | .assign x=>K (g x) w
 | .pick c a b=>match g c with
  | .bool c=>bc c (K (g a) w) (K (g b) w)
  | _=>False
 | .load t x=>match g x with
  | .pointer (some ⟨b,p,none⟩)=>match (kindAt tab t) with
   | .struct _=>False
   | .arr _ _=>False
   | .tuple _=>False
   | .other=>False
   | k=>typed k (fun v=>w.cell? ⟨b,p,none⟩=some v) fun v=>K v w
  | _=>False
 | .store t x v=>match g x with
  | .pointer (some ⟨b,p,none⟩)=>match (tab.ty t).map (·.size),(g v).oneCell' with
   | some 1,true=>(∃ u,w.cell? ⟨b,p,none⟩=some u)∧w.frozen? ⟨b,p,none⟩=false∧K undef (w.setCell ⟨b,p,none⟩ (g v))
   | _,_=>False
  | _=>False
 | .alloc t=>match tab.ty t with
  | some r=>K (.pointer (some ⟨w.heap.size,0,none⟩)) (w.alloc (.cells r.zero.cells t))
  | none=>False
 | .box t x=>K (.pointer (some ⟨w.heap.size,0,none⟩)) (w.alloc (.cells (g x).cells t))
 | .build t parts=>match tab.ty t with
  | some r=>match r.kind with
   | .struct fs=>match fill1 fs r.zero.cells.toList (parts.toList.map fun p=>(p.1,g p.2)) with
    | some cs=>K (.agg cs.toArray) w
    | none=>False
   | _=>False
  | none=>False
 | .binOp op t x y _=>binOpV P tab o.type op t x y (g x) (g y) w K
 | .unOp op _ x=>match op,g x with
  | .neg,.int k n=>K (.int k (k.wrap (0-n))) w
  | .not,.bool b=>K (.bool (!b)) w
  | .xor,.int k n=>K (.int k (iNot k n)) w
  | _,x=>runsV P tab o.type (Op.unary op x) w K
 | .convert s t x=>match kindAt tab s,kindAt tab t with
  | .int _,.int k=>match g x with
   | .int _ n=>K (.int k (k.wrap n)) w
   | _=>False
  | _,_=>runsV P tab o.type (Go.convert s t (g x)) w K
 | .nilCheck x=>match g x with
  | .pointer p=>nc p fun b o=>K (.pointer (some ⟨b,o,none⟩)) w
  | _=>False
 | .fieldAddr t x f=>match g x with
  | .pointer (some ⟨b,p,none⟩)=>match kindAt tab t with
   | .struct fs=>match fs[f]? with
    | some (off,sz)=>match Nat.beq sz 0 with
     | true=>False
     | false=>K (.pointer (some ⟨b,p+off,none⟩)) w
    | none=>False
   | _=>False
  | _=>False
 | .indexAddr t x i=>match kindAt tab t,g x,g i with
  | .slice e,.slice a l _,.int _ n=>nc a fun b p=>∃ k:Nat,n=k∧k<l∧match (tab.ty e).map (·.size) with
   | some s=>K (.pointer (some ⟨b,p+times k s,none⟩)) w
   | none=>False
  | .arr len e,.pointer (some ⟨b,p,none⟩),.int _ n=>∃ k:Nat,n=k∧k<len∧match (tab.ty e).map (·.size) with
   | some s=>K (.pointer (some ⟨b,p+times k s,none⟩)) w
   | none=>False
  | _,_,_=>False
 | .slice t x lo hi mx=>match kindAt tab t with
  | .slice e=>match g x with
   | .slice a l n=>sliceV tab e a l n (lo.map g) (hi.map g) (mx.map g) fun v=>K v w
   | _=>False
  | _=>runsV P tab o.type (Instr.sliceAt t (g x) (lo.map g) (hi.map g) (mx.map g)) w K
 | .makeSlice t l c=>match kindAt tab t,g l,g c with
  | .slice e,.int _ l,.int _ c=>match tab.ty e with
   | some r=>∃ l' c':Nat,l=l'∧c=c'∧l'≤c'∧r.bytes*c'≤281474976710656∧c'≤281474976710656 ∧
     K (.slice (some ⟨w.heap.size,0,none⟩) l' c') (w.alloc (.cells (madeCells r.zero.cells (times c' r.size)) e))
   | none=>False
  | _,_,_=>False
 | .extract x i=>match g x with
  | .tuple vs=>match vs[i]? with
   | some v=>K v w
   | none=>False
  | _=>False
 | .makeInterface t x=>match kindAt tab t with
  | .iface=>False
  | .other=>False
  | _=>K (.iface t (g x)) w
 | .index t x i=>match kindAt tab t,g x,g i with
  | .str,.string s,.int _ n=>∃ (k:Nat) (c:UInt8),n=k∧s[k]?=some c∧K (.int .u8 c.toNat) w
  | _,_,_=>runsV P tab o.type (Instr.index t (g x) (g i)) w K
 | .call c=>match c.callee with
  | .builtin b=>match b with
   | .len=>match c.argTypes.toList.map (kindAt tab),c.args.toList.map g with
    | [.slice _],[.slice _ l _]=>K (.int .i64 l) w
    | [.str],[.string s]=>K (.int .i64 s.size) w
    | _,_=>False
   | .cap=>match c.argTypes.toList.map (kindAt tab),c.args.toList.map g with
    | [.slice _],[.slice _ _ n]=>K (.int .i64 n) w
    | _,_=>False
   | .max=>match c.args.toList.map g with
    | [.int k a,.int _ b]=>K (.int k (if b>a then b else a)) w
    | _=>False
   | .min=>match c.args.toList.map g with
    | [.int k a,.int _ b]=>K (.int k (if b<a then b else a)) w
    | _=>False
   | b=>∃ w',rets tab o.type (fun v=>(builtin b c.argTypes o.type (c.args.toList.map isC).toArray (c.args.toList.map g).toArray).run P w=.ok (.value v) w') fun v=>K v w'
  | .value (.func f)=>match tab.fn f with
   | true=>called P tab o.type f (c.args.toList.map g).toArray w K
   | false=>∃ w',rets tab o.type (fun v=>(callFunc f (c.args.toList.map g).toArray).run P w=.ok (.value v) w') fun v=>K v w'
  | .invoke r name=>∃ f args,(callMethod (g r) name (c.args.toList.map g).toArray).run P w=.ok (.enter f args) w∧called P tab o.type f args w K
  | _=>False
 | .buildSlice t n parts=>runsV P tab o.type (Instr.buildSlice t n (parts.toList.map fun p=>(p.1,g p.2)).toArray) w K
 | .panic _=>False
 | .defer _=>False
 | _=>False
def cls (tab:Tab) (o:Oper):Nat :=
 match o.op with
 | .move _=>0
 | .assign _=>0
 | .pick _ _ _=>0
 | .nilCheck _=>0
 | .fieldAddr _ _ _=>0
 | .indexAddr _ _ _=>0
 | .extract _ _=>0
 | .binOp _ t _ _ _=>match kindAt tab t with
  | .int _=>0
  | .bool=>0
  | _=>2
 | .convert s t _=>match kindAt tab s,kindAt tab t with
  | .int _,.int _=>0
  | _,_=>2
 | .slice t _ _ _ _=>match kindAt tab t with
  | .slice _=>0
  | _=>2
 | .build _ _=>0
 | .call c=>match c.callee with
  | .builtin .len=>0
  | .builtin .cap=>0
  | .builtin .max=>0
  | .builtin .min=>0
  | _=>2
 | .load _ _=>1
 | _=>2
end Go.Proofs.YtlkjiiibmfpbcaaGreatDoor
