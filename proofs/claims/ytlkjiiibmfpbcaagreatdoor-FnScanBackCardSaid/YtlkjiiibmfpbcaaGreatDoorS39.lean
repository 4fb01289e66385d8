/- A law on powers: when 2^bl passes b^n, bl/n is not below a fraction p/q that stands next above 2's share of b. No condition beyond those written. -/
import Derived.KernelRfl
import Derived.Test.YtlkjiiibmfpbcaaGreatDoorS06
import Derived.Test.YtlkjiiibmfpbcaaGreatDoorS29
import Derived.Test.YtlkjiiibmfpbcaaGreatDoorS08
namespace Go.Proofs.YtlkjiiibmfpbcaaGreatDoor
open Go
theorem dio {b n bl p q p' q':Nat} (h1:p*q'=p'*q+1) (h2:2^p'≤b^q') (hb:b^n<2^bl) (hn:n<q+q'):n*p≤bl*q:=by
 rcases Nat.lt_or_ge (bl*q) (n*p) with hlt | hge
 ·exfalso
  have hq0:q'≠0:=fun e=>by rw [e,Nat.mul_zero] at h1; omega
  have h3:2^(p'*n)<2^(bl*q'):=by
   rw [Nat.pow_mul,Nat.pow_mul]
   refine Nat.lt_of_le_of_lt (Nat.pow_le_pow_left h2 n) ?_
   rw [←Nat.pow_mul,Nat.mul_comm,Nat.pow_mul]
   exact Nat.pow_lt_pow_left hb hq0
  have h4:=(Nat.pow_lt_pow_iff_right (show 1<2 by omega)).1 h3
  have e1:n+q*(p'*n)=q'*(n*p):=by
   have:=congrArg (n*·) h1
   simp only [Nat.mul_add,Nat.mul_one] at this
   have e2:q'*(n*p)=n*(p*q'):=by simp only [Nat.mul_comm,Nat.mul_left_comm]
   have e3:q*(p'*n)=n*(p'*q):=by simp only [Nat.mul_comm,Nat.mul_left_comm]
   omega
  have e4:q'*(bl*q+1)≤q'*(n*p):=Nat.mul_le_mul_left _ hlt
  have e5:q*(p'*n+1)≤q*(bl*q'):=Nat.mul_le_mul_left _ h4
  rw [Nat.mul_add,Nat.mul_one] at e4 e5
  have e6:q'*(bl*q)=q*(bl*q'):=by simp only [Nat.mul_comm,Nat.mul_left_comm]
  omega
 ·exact hge
end Go.Proofs.YtlkjiiibmfpbcaaGreatDoor
namespace Go.Proofs.YtlkjiiibmfpbcaaGreatDoor
open Go
def logOk (x:Nat × Nat × Nat × Nat × Nat × Nat):Bool :=
 match x with
 | (b,c,p,q,p',q')=>Nat.beq (p*q') (p'*q+1) && Nat.ble (2^p') (b^q') && Nat.ble 16700 (q+q') && Nat.ble ((2^52+c%2^52)*q) (p*2^(1075-c/2^52))
end Go.Proofs.YtlkjiiibmfpbcaaGreatDoor
namespace Go.Proofs.YtlkjiiibmfpbcaaGreatDoor
open Go
structure LgRun (x fr a m t r:Nat) (ex:Int):Prop where
 r1:∀ w,Sem.run Tryz.prog (callFunc 175 #[.float .f64 x]) w=.ok (.value (.int .u64 (x:Int))) w
 r2:∀ w,Sem.run Tryz.prog (callFunc 176 #[.int .u64 (iAndNot .u64 (x:Int) 9223372036854775808)]) w=.ok (.value (.float .f64 x)) w
 q1:∀ w,Sem.run Tryz.prog (do eqGuard .eql 80 (Operand.tmp 6) (Operand.const (Value.float FloatKind.f64 0)) (.float .f64 x) (Value.float FloatKind.f64 0); Go.binOp .eql 80 (.float .f64 x) (Value.float FloatKind.f64 0)) w=.ok (.bool false) w
 q2:∀ w,Sem.run Tryz.prog (do eqGuard .gtr 80 (Operand.tmp 13) (Operand.const (Value.float FloatKind.f64 9218868437227405311)) (.float .f64 x) (Value.float FloatKind.f64 9218868437227405311); Go.binOp .gtr 80 (.float .f64 x) (Value.float FloatKind.f64 9218868437227405311)) w=.ok (.bool false) w
 q3:∀ w,Sem.run Tryz.prog (do eqGuard .neq 80 (Operand.tmp 3) (Operand.tmp 4) (.float .f64 x) (.float .f64 x); Go.binOp .neq 80 (.float .f64 x) (.float .f64 x)) w=.ok (.bool false) w
 q4:∀ w,Sem.run Tryz.prog (do eqGuard .lss 80 (Operand.tmp 5) (Operand.const (Value.float FloatKind.f64 4503599627370496)) (.float .f64 x) (Value.float FloatKind.f64 4503599627370496); Go.binOp .lss 80 (.float .f64 x) (Value.float FloatKind.f64 4503599627370496)) w=.ok (.bool false) w
 e1:(0+(((IntKind.wrap .i64 (iAnd .u64 (iShr .u64 (x:Int) 52) 2047))-1023)+1))=ex
 e2:-2000≤ex∧ex≤2000
 r3:∀ w,Sem.run Tryz.prog (callFunc 176 #[.int .u64 (iOr .u64 (iAndNot .u64 (x:Int) 9218868437227405312) 4602678819172646912)]) w=.ok (.value (.float .f64 fr)) w
 q5:∀ w,Sem.run Tryz.prog (do eqGuard .eql 80 (Operand.tmp 10) (Operand.const (Value.float FloatKind.f64 4602678819172646912)) (.float .f64 fr) (Value.float FloatKind.f64 4602678819172646912); Go.binOp .eql 80 (.float .f64 fr) (Value.float FloatKind.f64 4602678819172646912)) w=.ok (.bool false) w
 r4:∀ w,Sem.run Tryz.prog (callFunc 156 #[.float .f64 fr]) w=.ok (.value (.float .f64 a)) w
 r5:∀ w,Sem.run Tryz.prog (do eqGuard .mul 80 (Operand.tmp 16) (Operand.const (Value.float FloatKind.f64 4609176140021203710)) (.float .f64 a) (Value.float FloatKind.f64 4609176140021203710); Go.binOp .mul 80 (.float .f64 a) (Value.float FloatKind.f64 4609176140021203710)) w=.ok (.float .f64 m) w
 r6:∀ w,Sem.run Tryz.prog (Go.convert 3 80 (.int .i64 ex)) w=.ok (.float .f64 t) w
 r7:∀ w,Sem.run Tryz.prog (do eqGuard .add 80 (Operand.tmp 17) (Operand.tmp 19) (.float .f64 m) (.float .f64 t); Go.binOp .add 80 (.float .f64 m) (.float .f64 t)) w=.ok (.float .f64 r) w
section
variable {x fr a m t r:Nat} {ex:Int}
theorem LgRun.c182 (h:LgRun x fr a m t r ex):Told 182 #[.float .f64 x] (.float .f64 x):=fun w =>
 told <| F182.call x w _ fun B=>⟨w,_,h.r1 w,w,_,h.r2 w,fun B1=>ret1 rfl rfl ⟨rfl,rfl⟩⟩
theorem LgRun.c172 (h:LgRun x fr a m t r ex):Told 172 #[.float .f64 x,.int .i64 0] (.bool false):=fun w =>
 told <| F172.call x 0 w _ fun B=>bc_true rfl ((h.c182 w).mono fun e w' ⟨he,hw⟩=>by
  subst hw
  exact ⟨_,he,fun B1=>F172.t1 x ⟨rfl,trivial⟩ fun B2=>⟨w',_,h.q2 w',fun B3=>ret1 rfl rfl ⟨rfl,rfl⟩⟩⟩)
theorem LgRun.c173 (h:LgRun x fr a m t r ex):Told 173 #[.float .f64 x] (.bool false):=fun w =>
 told <| F173.call x w _ fun B=>⟨w,_,h.q3 w,fun B1=>ret1 rfl rfl ⟨rfl,rfl⟩⟩
theorem LgRun.c174 (h:LgRun x fr a m t r ex):Told 174 #[.float .f64 x] (.tuple #[.float .f64 x,.int .i64 0]):=fun w =>
 told <| F174.call x w _ fun B=>(h.c182 w).mono fun e w' ⟨he,hw⟩=>by
  subst hw
  exact ⟨_,he,w',_,h.q4 w',bc_false rfl fun B1=>ret2 rfl rfl rfl ⟨rfl,rfl⟩⟩
theorem LgRun.c155 (h:LgRun x fr a m t r ex):Told 155 #[.float .f64 x] (.tuple #[.float .f64 fr,.int .i64 ex]):=fun w =>
 told <| F155.call x w _ fun B=>⟨w,_,h.q1 w,bc_false rfl ((h.c172 w).mono fun e w' ⟨he,hw⟩=>by
  subst hw
  refine ⟨_,he,bc_false rfl ((h.c173 w').mono fun e2 w2 ⟨he2,hw2⟩=>?_)⟩
  subst hw2
  refine ⟨_,he2,bc_false rfl ((h.c174 w2).mono fun e3 w3 ⟨he3,hw3⟩=>?_)⟩
  subst hw3
  have h1:=h.e1
  have h2:=h.e2
  refine ⟨_,trivial,_,trivial,he3,w3,_,h.r1 w3,by decide,by unfold inI64; omega,by unfold inI64; omega,by unfold inI64; omega,w3,_,h.r3 w3,fun B1=>ret2 rfl rfl rfl ⟨?_,rfl⟩⟩
  rw [←h1]
  rfl)⟩
theorem LgRun.c125 (h:LgRun x fr a m t r ex):Told 125 #[.float .f64 x] (.tuple #[.float .f64 fr,.int .i64 ex]):=fun w =>
 told <| F125.call x w _ fun B=>(h.c155 w).mono fun e w' ⟨he,hw⟩=>by
  subst hw
  exact ⟨_,trivial,_,trivial,he,fun B1=>ret2 rfl rfl rfl ⟨rfl,rfl⟩⟩
theorem LgRun.c126 (h:LgRun x fr a m t r ex):Told 126 #[.float .f64 fr] (.float .f64 a):=fun w =>
 told <| F126.call fr w _ fun B=>⟨w,_,h.r4 w,fun B1=>ret1 rfl rfl ⟨rfl,rfl⟩⟩
theorem LgRun.c86 (h:LgRun x fr a m t r ex):Told 86 #[.float .f64 x] (.float .f64 r):=fun w =>
 told <| F86.call x w _ fun B=>(h.c125 w).mono fun e w' ⟨he,hw⟩=>by
  subst hw
  refine ⟨_,trivial,_,trivial,he,w',_,h.q5 w',bc_false rfl ((h.c126 w').mono fun e2 w2 ⟨he2,hw2⟩=>?_)⟩
  subst hw2
  exact ⟨_,he2,w2,_,h.r5 w2,w2,_,h.r6 w2,w2,_,h.r7 w2,fun B1=>ret1 rfl rfl ⟨rfl,rfl⟩⟩
theorem LgRun.c54 (h:LgRun x fr a m t r ex):Told 54 #[.float .f64 x] (.float .f64 r):=fun w =>
 told <| F54.call x w _ fun B=>(h.c86 w).mono fun e w' ⟨he,hw⟩=>by
  subst hw
  exact ⟨_,he,fun B1=>ret1 rfl rfl ⟨rfl,rfl⟩⟩
end
end Go.Proofs.YtlkjiiibmfpbcaaGreatDoor
namespace Go.Proofs.YtlkjiiibmfpbcaaGreatDoor
open Go
set_option maxRecDepth 100000
theorem lg3:LgRun 4613937818241073152 4604930618986332160 13822226076269861778 13824520307681069661 4611686018427387904 4609816855700290921 2:=⟨fun w=>by kernel_rfl,fun w=>by kernel_rfl,fun w=>by kernel_rfl,fun w=>by kernel_rfl,fun w=>by kernel_rfl,fun w=>by kernel_rfl,by kernel_rfl,by decide,fun w=>by kernel_rfl,fun w=>by kernel_rfl,fun w=>by kernel_rfl,fun w=>by kernel_rfl,fun w=>by kernel_rfl,fun w=>by kernel_rfl⟩
theorem lg5:LgRun 4617315517961601024 4603804719079489536 13825510489450817230 13827654785158443579 4613937818241073152 4612410936051475313 3:=⟨fun w=>by kernel_rfl,fun w=>by kernel_rfl,fun w=>by kernel_rfl,fun w=>by kernel_rfl,fun w=>by kernel_rfl,fun w=>by kernel_rfl,by kernel_rfl,by decide,fun w=>by kernel_rfl,fun w=>by kernel_rfl,fun w=>by kernel_rfl,fun w=>by kernel_rfl,fun w=>by kernel_rfl,fun w=>by kernel_rfl⟩
theorem lg6:LgRun 4618441417868443648 4604930618986332160 13822226076269861778 13824520307681069661 4613937818241073152 4613003236877524660 3:=⟨fun w=>by kernel_rfl,fun w=>by kernel_rfl,fun w=>by kernel_rfl,fun w=>by kernel_rfl,fun w=>by kernel_rfl,fun w=>by kernel_rfl,by kernel_rfl,by decide,fun w=>by kernel_rfl,fun w=>by kernel_rfl,fun w=>by kernel_rfl,fun w=>by kernel_rfl,fun w=>by kernel_rfl,fun w=>by kernel_rfl⟩
theorem lg7:LgRun 4619567317775286272 4606056518893174784 13817351032585839740 13819480827555200306 4613937818241073152 4613504020090455085 3:=⟨fun w=>by kernel_rfl,fun w=>by kernel_rfl,fun w=>by kernel_rfl,fun w=>by kernel_rfl,fun w=>by kernel_rfl,fun w=>by kernel_rfl,by kernel_rfl,by decide,fun w=>by kernel_rfl,fun w=>by kernel_rfl,fun w=>by kernel_rfl,fun w=>by kernel_rfl,fun w=>by kernel_rfl,fun w=>by kernel_rfl⟩
theorem lg9:LgRun 4621256167635550208 4603241769126068224 13826729675897232274 13829023907308440157 4616189618054758400 4614320455327661417 4:=⟨fun w=>by kernel_rfl,fun w=>by kernel_rfl,fun w=>by kernel_rfl,fun w=>by kernel_rfl,fun w=>by kernel_rfl,fun w=>by kernel_rfl,by kernel_rfl,by decide,fun w=>by kernel_rfl,fun w=>by kernel_rfl,fun w=>by kernel_rfl,fun w=>by kernel_rfl,fun w=>by kernel_rfl,fun w=>by kernel_rfl⟩
theorem lg10:LgRun 4621819117588971520 4603804719079489536 13825510489450817230 13827654785158443579 4616189618054758400 4614662735865160561 4:=⟨fun w=>by kernel_rfl,fun w=>by kernel_rfl,fun w=>by kernel_rfl,fun w=>by kernel_rfl,fun w=>by kernel_rfl,fun w=>by kernel_rfl,by kernel_rfl,by decide,fun w=>by kernel_rfl,fun w=>by kernel_rfl,fun w=>by kernel_rfl,fun w=>by kernel_rfl,fun w=>by kernel_rfl,fun w=>by kernel_rfl⟩
theorem lg11:LgRun 4622382067542392832 4604367669032910848 13823793533889811740 13826416263521798904 4616189618054758400 4614972366274321730 4:=⟨fun w=>by kernel_rfl,fun w=>by kernel_rfl,fun w=>by kernel_rfl,fun w=>by kernel_rfl,fun w=>by kernel_rfl,fun w=>by kernel_rfl,by kernel_rfl,by decide,fun w=>by kernel_rfl,fun w=>by kernel_rfl,fun w=>by kernel_rfl,fun w=>by kernel_rfl,fun w=>by kernel_rfl,fun w=>by kernel_rfl⟩
theorem lg12:LgRun 4622945017495814144 4604930618986332160 13822226076269861778 13824520307681069661 4616189618054758400 4615255036691209908 4:=⟨fun w=>by kernel_rfl,fun w=>by kernel_rfl,fun w=>by kernel_rfl,fun w=>by kernel_rfl,fun w=>by kernel_rfl,fun w=>by kernel_rfl,by kernel_rfl,by decide,fun w=>by kernel_rfl,fun w=>by kernel_rfl,fun w=>by kernel_rfl,fun w=>by kernel_rfl,fun w=>by kernel_rfl,fun w=>by kernel_rfl⟩
theorem lg13:LgRun 4623507967449235456 4605493568939753472 13820021053672053220 13822440055067700841 4616189618054758400 4615515068267881011 4:=⟨fun w=>by kernel_rfl,fun w=>by kernel_rfl,fun w=>by kernel_rfl,fun w=>by kernel_rfl,fun w=>by kernel_rfl,fun w=>by kernel_rfl,by kernel_rfl,by decide,fun w=>by kernel_rfl,fun w=>by kernel_rfl,fun w=>by kernel_rfl,fun w=>by kernel_rfl,fun w=>by kernel_rfl,fun w=>by kernel_rfl⟩
theorem lg14:LgRun 4624070917402656768 4606056518893174784 13817351032585839740 13819480827555200306 4616189618054758400 4615755819904140333 4:=⟨fun w=>by kernel_rfl,fun w=>by kernel_rfl,fun w=>by kernel_rfl,fun w=>by kernel_rfl,fun w=>by kernel_rfl,fun w=>by kernel_rfl,by kernel_rfl,by decide,fun w=>by kernel_rfl,fun w=>by kernel_rfl,fun w=>by kernel_rfl,fun w=>by kernel_rfl,fun w=>by kernel_rfl,fun w=>by kernel_rfl⟩
theorem lg15:LgRun 4624633867356078080 4606619468846596096 13812686948073880071 13814745697180695373 4616189618054758400 4615979954315297318 4:=⟨fun w=>by kernel_rfl,fun w=>by kernel_rfl,fun w=>by kernel_rfl,fun w=>by kernel_rfl,fun w=>by kernel_rfl,fun w=>by kernel_rfl,by kernel_rfl,by decide,fun w=>by kernel_rfl,fun w=>by kernel_rfl,fun w=>by kernel_rfl,fun w=>by kernel_rfl,fun w=>by kernel_rfl,fun w=>by kernel_rfl⟩
theorem lg17:LgRun 4625478292286210048 4602960294149357568 13827244513119773637 13829766660416265629 4617315517961601024 4616288092459574348 5:=⟨fun w=>by kernel_rfl,fun w=>by kernel_rfl,fun w=>by kernel_rfl,fun w=>by kernel_rfl,fun w=>by kernel_rfl,fun w=>by kernel_rfl,by kernel_rfl,by decide,fun w=>by kernel_rfl,fun w=>by kernel_rfl,fun w=>by kernel_rfl,fun w=>by kernel_rfl,fun w=>by kernel_rfl,fun w=>by kernel_rfl⟩
theorem lg18:LgRun 4625759767262920704 4603241769126068224 13826729675897232274 13829023907308440157 4617315517961601024 4616380936598052532 5:=⟨fun w=>by kernel_rfl,fun w=>by kernel_rfl,fun w=>by kernel_rfl,fun w=>by kernel_rfl,fun w=>by kernel_rfl,fun w=>by kernel_rfl,by kernel_rfl,by decide,fun w=>by kernel_rfl,fun w=>by kernel_rfl,fun w=>by kernel_rfl,fun w=>by kernel_rfl,fun w=>by kernel_rfl,fun w=>by kernel_rfl⟩
theorem lg19:LgRun 4626041242239631360 4603523244102778880 13826242681662100730 13828321323140474365 4617315517961601024 4616468759619048256 5:=⟨fun w=>by kernel_rfl,fun w=>by kernel_rfl,fun w=>by kernel_rfl,fun w=>by kernel_rfl,fun w=>by kernel_rfl,fun w=>by kernel_rfl,by kernel_rfl,by decide,fun w=>by kernel_rfl,fun w=>by kernel_rfl,fun w=>by kernel_rfl,fun w=>by kernel_rfl,fun w=>by kernel_rfl,fun w=>by kernel_rfl⟩
theorem lg20:LgRun 4626322717216342016 4603804719079489536 13825510489450817230 13827654785158443579 4617315517961601024 4616552076866802105 5:=⟨fun w=>by kernel_rfl,fun w=>by kernel_rfl,fun w=>by kernel_rfl,fun w=>by kernel_rfl,fun w=>by kernel_rfl,fun w=>by kernel_rfl,by kernel_rfl,by decide,fun w=>by kernel_rfl,fun w=>by kernel_rfl,fun w=>by kernel_rfl,fun w=>by kernel_rfl,fun w=>by kernel_rfl,fun w=>by kernel_rfl⟩
theorem lg21:LgRun 4626604192193052672 4604086194056200192 13824631563990126032 13827020774456718459 4617315517961601024 4616631328204517745 5:=⟨fun w=>by kernel_rfl,fun w=>by kernel_rfl,fun w=>by kernel_rfl,fun w=>by kernel_rfl,fun w=>by kernel_rfl,fun w=>by kernel_rfl,by kernel_rfl,by decide,fun w=>by kernel_rfl,fun w=>by kernel_rfl,fun w=>by kernel_rfl,fun w=>by kernel_rfl,fun w=>by kernel_rfl,fun w=>by kernel_rfl⟩
theorem lg22:LgRun 4626885667169763328 4604367669032910848 13823793533889811740 13826416263521798904 4617315517961601024 4616706892071382689 5:=⟨fun w=>by kernel_rfl,fun w=>by kernel_rfl,fun w=>by kernel_rfl,fun w=>by kernel_rfl,fun w=>by kernel_rfl,fun w=>by kernel_rfl,by kernel_rfl,by decide,fun w=>by kernel_rfl,fun w=>by kernel_rfl,fun w=>by kernel_rfl,fun w=>by kernel_rfl,fun w=>by kernel_rfl,fun w=>by kernel_rfl⟩
theorem lg23:LgRun 4627167142146473984 4604649144009621504 13822992762124411864 13825626401561348787 4617315517961601024 4616779096412309333 5:=⟨fun w=>by kernel_rfl,fun w=>by kernel_rfl,fun w=>by kernel_rfl,fun w=>by kernel_rfl,fun w=>by kernel_rfl,fun w=>by kernel_rfl,by kernel_rfl,by decide,fun w=>by kernel_rfl,fun w=>by kernel_rfl,fun w=>by kernel_rfl,fun w=>by kernel_rfl,fun w=>by kernel_rfl,fun w=>by kernel_rfl⟩
theorem lg24:LgRun 4627448617123184640 4604930618986332160 13822226076269861778 13824520307681069661 4617315517961601024 4616848227279826778 5:=⟨fun w=>by kernel_rfl,fun w=>by kernel_rfl,fun w=>by kernel_rfl,fun w=>by kernel_rfl,fun w=>by kernel_rfl,fun w=>by kernel_rfl,by kernel_rfl,by decide,fun w=>by kernel_rfl,fun w=>by kernel_rfl,fun w=>by kernel_rfl,fun w=>by kernel_rfl,fun w=>by kernel_rfl,fun w=>by kernel_rfl⟩
theorem lg25:LgRun 4627730092099895296 4605212093963042816 13821434128785191802 13823459373296765162 4617315517961601024 4616914535678845809 5:=⟨fun w=>by kernel_rfl,fun w=>by kernel_rfl,fun w=>by kernel_rfl,fun w=>by kernel_rfl,fun w=>by kernel_rfl,fun w=>by kernel_rfl,by kernel_rfl,by decide,fun w=>by kernel_rfl,fun w=>by kernel_rfl,fun w=>by kernel_rfl,fun w=>by kernel_rfl,fun w=>by kernel_rfl,fun w=>by kernel_rfl⟩
theorem lg26:LgRun 4628011567076605952 4605493568939753472 13820021053672053220 13822440055067700841 4617315517961601024 4616978243068162329 5:=⟨fun w=>by kernel_rfl,fun w=>by kernel_rfl,fun w=>by kernel_rfl,fun w=>by kernel_rfl,fun w=>by kernel_rfl,fun w=>by kernel_rfl,by kernel_rfl,by decide,fun w=>by kernel_rfl,fun w=>by kernel_rfl,fun w=>by kernel_rfl,fun w=>by kernel_rfl,fun w=>by kernel_rfl,fun w=>by kernel_rfl⟩
theorem lg27:LgRun 4628293042053316608 4605775043916464128 13818661315055730098 13821371165576674868 4617315517961601024 4617039545823120910 5:=⟨fun w=>by kernel_rfl,fun w=>by kernel_rfl,fun w=>by kernel_rfl,fun w=>by kernel_rfl,fun w=>by kernel_rfl,fun w=>by kernel_rfl,by kernel_rfl,by decide,fun w=>by kernel_rfl,fun w=>by kernel_rfl,fun w=>by kernel_rfl,fun w=>by kernel_rfl,fun w=>by kernel_rfl,fun w=>by kernel_rfl⟩
theorem lg28:LgRun 4628574517030027264 4606056518893174784 13817351032585839740 13819480827555200306 4617315517961601024 4617098618886291990 5:=⟨fun w=>by kernel_rfl,fun w=>by kernel_rfl,fun w=>by kernel_rfl,fun w=>by kernel_rfl,fun w=>by kernel_rfl,fun w=>by kernel_rfl,by kernel_rfl,by decide,fun w=>by kernel_rfl,fun w=>by kernel_rfl,fun w=>by kernel_rfl,fun w=>by kernel_rfl,fun w=>by kernel_rfl,fun w=>by kernel_rfl⟩
theorem lg29:LgRun 4628855992006737920 4606337993869885440 13815129812321782153 13817656831044695191 4617315517961601024 4617155618777245275 5:=⟨fun w=>by kernel_rfl,fun w=>by kernel_rfl,fun w=>by kernel_rfl,fun w=>by kernel_rfl,fun w=>by kernel_rfl,fun w=>by kernel_rfl,by kernel_rfl,by decide,fun w=>by kernel_rfl,fun w=>by kernel_rfl,fun w=>by kernel_rfl,fun w=>by kernel_rfl,fun w=>by kernel_rfl,fun w=>by kernel_rfl⟩
theorem lg30:LgRun 4629137466983448576 4606619468846596096 13812686948073880071 13814745697180695373 4617315517961601024 4617210686091870483 5:=⟨fun w=>by kernel_rfl,fun w=>by kernel_rfl,fun w=>by kernel_rfl,fun w=>by kernel_rfl,fun w=>by kernel_rfl,fun w=>by kernel_rfl,by kernel_rfl,by decide,fun w=>by kernel_rfl,fun w=>by kernel_rfl,fun w=>by kernel_rfl,fun w=>by kernel_rfl,fun w=>by kernel_rfl,fun w=>by kernel_rfl⟩
theorem lg31:LgRun 4629418941960159232 4606900943823306752 13808108327519339588 13810133865233733845 4617315517961601024 4617263947591732558 5:=⟨fun w=>by kernel_rfl,fun w=>by kernel_rfl,fun w=>by kernel_rfl,fun w=>by kernel_rfl,fun w=>by kernel_rfl,fun w=>by kernel_rfl,by kernel_rfl,by decide,fun w=>by kernel_rfl,fun w=>by kernel_rfl,fun w=>by kernel_rfl,fun w=>by kernel_rfl,fun w=>by kernel_rfl,fun w=>by kernel_rfl⟩
theorem lg33:LgRun 4629841154425225216 4602819556661002240 13827513404707207255 13830154588975992871 4618441417868443648 4617365501296451067 6:=⟨fun w=>by kernel_rfl,fun w=>by kernel_rfl,fun w=>by kernel_rfl,fun w=>by kernel_rfl,fun w=>by kernel_rfl,fun w=>by kernel_rfl,by kernel_rfl,by decide,fun w=>by kernel_rfl,fun w=>by kernel_rfl,fun w=>by kernel_rfl,fun w=>by kernel_rfl,fun w=>by kernel_rfl,fun w=>by kernel_rfl⟩
theorem lg34:LgRun 4629981891913580544 4602960294149357568 13827244513119773637 13829766660416265629 4618441417868443648 4617413992366416972 6:=⟨fun w=>by kernel_rfl,fun w=>by kernel_rfl,fun w=>by kernel_rfl,fun w=>by kernel_rfl,fun w=>by kernel_rfl,fun w=>by kernel_rfl,by kernel_rfl,by decide,fun w=>by kernel_rfl,fun w=>by kernel_rfl,fun w=>by kernel_rfl,fun w=>by kernel_rfl,fun w=>by kernel_rfl,fun w=>by kernel_rfl⟩
theorem lg35:LgRun 4630122629401935872 4603101031637712896 13826983416599252102 13829389977760915847 4618441417868443648 4617461077698335695 6:=⟨fun w=>by kernel_rfl,fun w=>by kernel_rfl,fun w=>by kernel_rfl,fun w=>by kernel_rfl,fun w=>by kernel_rfl,fun w=>by kernel_rfl,by kernel_rfl,by decide,fun w=>by kernel_rfl,fun w=>by kernel_rfl,fun w=>by kernel_rfl,fun w=>by kernel_rfl,fun w=>by kernel_rfl,fun w=>by kernel_rfl⟩
theorem lg36:LgRun 4630263366890291200 4603241769126068224 13826729675897232274 13829023907308440157 4618441417868443648 4617506836504895156 6:=⟨fun w=>by kernel_rfl,fun w=>by kernel_rfl,fun w=>by kernel_rfl,fun w=>by kernel_rfl,fun w=>by kernel_rfl,fun w=>by kernel_rfl,by kernel_rfl,by decide,fun w=>by kernel_rfl,fun w=>by kernel_rfl,fun w=>by kernel_rfl,fun w=>by kernel_rfl,fun w=>by kernel_rfl,fun w=>by kernel_rfl⟩
theorem lg37:LgRun 4630404104378646528 4603382506614423552 13826482887877344422 13828667867455997146 4618441417868443648 4617551341486450533 6:=⟨fun w=>by kernel_rfl,fun w=>by kernel_rfl,fun w=>by kernel_rfl,fun w=>by kernel_rfl,fun w=>by kernel_rfl,fun w=>by kernel_rfl,by kernel_rfl,by decide,fun w=>by kernel_rfl,fun w=>by kernel_rfl,fun w=>by kernel_rfl,fun w=>by kernel_rfl,fun w=>by kernel_rfl,fun w=>by kernel_rfl⟩
theorem lg38:LgRun 4630544841867001856 4603523244102778880 13826242681662100730 13828321323140474365 4618441417868443648 4617594659525890880 6:=⟨fun w=>by kernel_rfl,fun w=>by kernel_rfl,fun w=>by kernel_rfl,fun w=>by kernel_rfl,fun w=>by kernel_rfl,fun w=>by kernel_rfl,by kernel_rfl,by decide,fun w=>by kernel_rfl,fun w=>by kernel_rfl,fun w=>by kernel_rfl,fun w=>by kernel_rfl,fun w=>by kernel_rfl,fun w=>by kernel_rfl⟩
theorem lg39:LgRun 4630685579355357184 4603663981591134208 13825966574533232772 13827983781001755747 4618441417868443648 4617636852293230708 6:=⟨fun w=>by kernel_rfl,fun w=>by kernel_rfl,fun w=>by kernel_rfl,fun w=>by kernel_rfl,fun w=>by kernel_rfl,fun w=>by kernel_rfl,by kernel_rfl,by decide,fun w=>by kernel_rfl,fun w=>by kernel_rfl,fun w=>by kernel_rfl,fun w=>by kernel_rfl,fun w=>by kernel_rfl,fun w=>by kernel_rfl⟩
theorem lg40:LgRun 4630826316843712512 4603804719079489536 13825510489450817230 13827654785158443579 4618441417868443648 4617677976773644729 6:=⟨fun w=>by kernel_rfl,fun w=>by kernel_rfl,fun w=>by kernel_rfl,fun w=>by kernel_rfl,fun w=>by kernel_rfl,fun w=>by kernel_rfl,by kernel_rfl,by decide,fun w=>by kernel_rfl,fun w=>by kernel_rfl,fun w=>by kernel_rfl,fun w=>by kernel_rfl,fun w=>by kernel_rfl,fun w=>by kernel_rfl⟩
theorem lg41:LgRun 4630967054332067840 4603945456567844864 13825065666887374025 13827333913505266065 4618441417868443648 4617718085730291918 6:=⟨fun w=>by kernel_rfl,fun w=>by kernel_rfl,fun w=>by kernel_rfl,fun w=>by kernel_rfl,fun w=>by kernel_rfl,fun w=>by kernel_rfl,by kernel_rfl,by decide,fun w=>by kernel_rfl,fun w=>by kernel_rfl,fun w=>by kernel_rfl,fun w=>by kernel_rfl,fun w=>by kernel_rfl,fun w=>by kernel_rfl⟩
theorem lg42:LgRun 4631107791820423168 4604086194056200192 13824631563990126032 13827020774456718459 4618441417868443648 4617757228111360369 6:=⟨fun w=>by kernel_rfl,fun w=>by kernel_rfl,fun w=>by kernel_rfl,fun w=>by kernel_rfl,fun w=>by kernel_rfl,fun w=>by kernel_rfl,by kernel_rfl,by decide,fun w=>by kernel_rfl,fun w=>by kernel_rfl,fun w=>by kernel_rfl,fun w=>by kernel_rfl,fun w=>by kernel_rfl,fun w=>by kernel_rfl⟩
theorem lg43:LgRun 4631248529308778496 4604226931544555520 13824207676232652462 13826715004073918128 4618441417868443648 4617795449409210410 6:=⟨fun w=>by kernel_rfl,fun w=>by kernel_rfl,fun w=>by kernel_rfl,fun w=>by kernel_rfl,fun w=>by kernel_rfl,fun w=>by kernel_rfl,by kernel_rfl,by decide,fun w=>by kernel_rfl,fun w=>by kernel_rfl,fun w=>by kernel_rfl,fun w=>by kernel_rfl,fun w=>by kernel_rfl,fun w=>by kernel_rfl⟩
theorem lg44:LgRun 4631389266797133824 4604367669032910848 13823793533889811740 13826416263521798904 4618441417868443648 4617832791978225313 6:=⟨fun w=>by kernel_rfl,fun w=>by kernel_rfl,fun w=>by kernel_rfl,fun w=>by kernel_rfl,fun w=>by kernel_rfl,fun w=>by kernel_rfl,by kernel_rfl,by decide,fun w=>by kernel_rfl,fun w=>by kernel_rfl,fun w=>by kernel_rfl,fun w=>by kernel_rfl,fun w=>by kernel_rfl,fun w=>by kernel_rfl⟩
theorem lg45:LgRun 4631530004285489152 4604508406521266176 13823388698908846612 13826124236812090520 4618441417868443648 4617869295316938861 6:=⟨fun w=>by kernel_rfl,fun w=>by kernel_rfl,fun w=>by kernel_rfl,fun w=>by kernel_rfl,fun w=>by kernel_rfl,fun w=>by kernel_rfl,by kernel_rfl,by decide,fun w=>by kernel_rfl,fun w=>by kernel_rfl,fun w=>by kernel_rfl,fun w=>by kernel_rfl,fun w=>by kernel_rfl,fun w=>by kernel_rfl⟩
theorem lg46:LgRun 4631670741773844480 4604649144009621504 13822992762124411864 13825626401561348787 4618441417868443648 4617904996319151957 6:=⟨fun w=>by kernel_rfl,fun w=>by kernel_rfl,fun w=>by kernel_rfl,fun w=>by kernel_rfl,fun w=>by kernel_rfl,fun w=>by kernel_rfl,by kernel_rfl,by decide,fun w=>by kernel_rfl,fun w=>by kernel_rfl,fun w=>by kernel_rfl,fun w=>by kernel_rfl,fun w=>by kernel_rfl,fun w=>by kernel_rfl⟩
theorem lg47:LgRun 4631811479262199808 4604789881497976832 13822605340773134724 13825067470699126757 4618441417868443648 4617939929498040834 6:=⟨fun w=>by kernel_rfl,fun w=>by kernel_rfl,fun w=>by kernel_rfl,fun w=>by kernel_rfl,fun w=>by kernel_rfl,fun w=>by kernel_rfl,by kernel_rfl,by decide,fun w=>by kernel_rfl,fun w=>by kernel_rfl,fun w=>by kernel_rfl,fun w=>by kernel_rfl,fun w=>by kernel_rfl,fun w=>by kernel_rfl⟩
theorem lg48:LgRun 4631952216750555136 4604930618986332160 13822226076269861778 13824520307681069661 4618441417868443648 4617974127186669402 6:=⟨fun w=>by kernel_rfl,fun w=>by kernel_rfl,fun w=>by kernel_rfl,fun w=>by kernel_rfl,fun w=>by kernel_rfl,fun w=>by kernel_rfl,by kernel_rfl,by decide,fun w=>by kernel_rfl,fun w=>by kernel_rfl,fun w=>by kernel_rfl,fun w=>by kernel_rfl,fun w=>by kernel_rfl,fun w=>by kernel_rfl⟩
theorem lg49:LgRun 4632092954238910464 4605071356474687488 13821854632213210236 13823984427182570802 4618441417868443648 4618007619717825581 6:=⟨fun w=>by kernel_rfl,fun w=>by kernel_rfl,fun w=>by kernel_rfl,fun w=>by kernel_rfl,fun w=>by kernel_rfl,fun w=>by kernel_rfl,by kernel_rfl,by decide,fun w=>by kernel_rfl,fun w=>by kernel_rfl,fun w=>by kernel_rfl,fun w=>by kernel_rfl,fun w=>by kernel_rfl,fun w=>by kernel_rfl⟩
theorem lg50:LgRun 4632233691727265792 4605212093963042816 13821434128785191802 13823459373296765162 4618441417868443648 4618040435585688433 6:=⟨fun w=>by kernel_rfl,fun w=>by kernel_rfl,fun w=>by kernel_rfl,fun w=>by kernel_rfl,fun w=>by kernel_rfl,fun w=>by kernel_rfl,by kernel_rfl,by decide,fun w=>by kernel_rfl,fun w=>by kernel_rfl,fun w=>by kernel_rfl,fun w=>by kernel_rfl,fun w=>by kernel_rfl,fun w=>by kernel_rfl⟩
theorem lg51:LgRun 4632374429215621120 4605352831451398144 13820720663945895547 13822944717204014488 4618441417868443648 4618072601591485350 6:=⟨fun w=>by kernel_rfl,fun w=>by kernel_rfl,fun w=>by kernel_rfl,fun w=>by kernel_rfl,fun w=>by kernel_rfl,fun w=>by kernel_rfl,by kernel_rfl,by decide,fun w=>by kernel_rfl,fun w=>by kernel_rfl,fun w=>by kernel_rfl,fun w=>by kernel_rfl,fun w=>by kernel_rfl,fun w=>by kernel_rfl⟩
theorem lg52:LgRun 4632515166703976448 4605493568939753472 13820021053672053220 13822440055067700841 4618441417868443648 4618104142975004953 6:=⟨fun w=>by kernel_rfl,fun w=>by kernel_rfl,fun w=>by kernel_rfl,fun w=>by kernel_rfl,fun w=>by kernel_rfl,fun w=>by kernel_rfl,by kernel_rfl,by decide,fun w=>by kernel_rfl,fun w=>by kernel_rfl,fun w=>by kernel_rfl,fun w=>by kernel_rfl,fun w=>by kernel_rfl,fun w=>by kernel_rfl⟩
theorem lg53:LgRun 4632655904192331776 4605634306428108800 13819334770121876418 13821945006130458969 4618441417868443648 4618135083533582570 6:=⟨fun w=>by kernel_rfl,fun w=>by kernel_rfl,fun w=>by kernel_rfl,fun w=>by kernel_rfl,fun w=>by kernel_rfl,fun w=>by kernel_rfl,by kernel_rfl,by decide,fun w=>by kernel_rfl,fun w=>by kernel_rfl,fun w=>by kernel_rfl,fun w=>by kernel_rfl,fun w=>by kernel_rfl,fun w=>by kernel_rfl⟩
theorem lg54:LgRun 4632796641680687104 4605775043916464128 13818661315055730098 13821371165576674868 4618441417868443648 4618165445729963534 6:=⟨fun w=>by kernel_rfl,fun w=>by kernel_rfl,fun w=>by kernel_rfl,fun w=>by kernel_rfl,fun w=>by kernel_rfl,fun w=>by kernel_rfl,by kernel_rfl,by decide,fun w=>by kernel_rfl,fun w=>by kernel_rfl,fun w=>by kernel_rfl,fun w=>by kernel_rfl,fun w=>by kernel_rfl,fun w=>by kernel_rfl⟩
theorem lg55:LgRun 4632937379169042432 4605915781404819456 13818000217663180822 13820417403646899404 4618441417868443648 4618195250790269018 6:=⟨fun w=>by kernel_rfl,fun w=>by kernel_rfl,fun w=>by kernel_rfl,fun w=>by kernel_rfl,fun w=>by kernel_rfl,fun w=>by kernel_rfl,by kernel_rfl,by decide,fun w=>by kernel_rfl,fun w=>by kernel_rfl,fun w=>by kernel_rfl,fun w=>by kernel_rfl,fun w=>by kernel_rfl,fun w=>by kernel_rfl⟩
theorem lg56:LgRun 4633078116657397760 4606056518893174784 13817351032585839740 13819480827555200306 4618441417868443648 4618224518793134614 6:=⟨fun w=>by kernel_rfl,fun w=>by kernel_rfl,fun w=>by kernel_rfl,fun w=>by kernel_rfl,fun w=>by kernel_rfl,fun w=>by kernel_rfl,by kernel_rfl,by decide,fun w=>by kernel_rfl,fun w=>by kernel_rfl,fun w=>by kernel_rfl,fun w=>by kernel_rfl,fun w=>by kernel_rfl,fun w=>by kernel_rfl⟩
theorem lg57:LgRun 4633218854145753088 4606197256381530112 13816383019457726114 13818560828904811698 4618441417868443648 4618253268750959258 6:=⟨fun w=>by kernel_rfl,fun w=>by kernel_rfl,fun w=>by kernel_rfl,fun w=>by kernel_rfl,fun w=>by kernel_rfl,fun w=>by kernel_rfl,by kernel_rfl,by decide,fun w=>by kernel_rfl,fun w=>by kernel_rfl,fun w=>by kernel_rfl,fun w=>by kernel_rfl,fun w=>by kernel_rfl,fun w=>by kernel_rfl⟩
theorem lg58:LgRun 4633359591634108416 4606337993869885440 13815129812321782153 13817656831044695191 4618441417868443648 4618281518684087899 6:=⟨fun w=>by kernel_rfl,fun w=>by kernel_rfl,fun w=>by kernel_rfl,fun w=>by kernel_rfl,fun w=>by kernel_rfl,fun w=>by kernel_rfl,by kernel_rfl,by decide,fun w=>by kernel_rfl,fun w=>by kernel_rfl,fun w=>by kernel_rfl,fun w=>by kernel_rfl,fun w=>by kernel_rfl,fun w=>by kernel_rfl⟩
theorem lg59:LgRun 4633500329122463744 4606478731358240768 13813898028582469292 13816492917024554326 4618441417868443648 4618309285688652811 6:=⟨fun w=>by kernel_rfl,fun w=>by kernel_rfl,fun w=>by kernel_rfl,fun w=>by kernel_rfl,fun w=>by kernel_rfl,fun w=>by kernel_rfl,by kernel_rfl,by decide,fun w=>by kernel_rfl,fun w=>by kernel_rfl,fun w=>by kernel_rfl,fun w=>by kernel_rfl,fun w=>by kernel_rfl,fun w=>by kernel_rfl⟩
theorem lg60:LgRun 4633641066610819072 4606619468846596096 13812686948073880071 13814745697180695373 4618441417868443648 4618336585998713107 6:=⟨fun w=>by kernel_rfl,fun w=>by kernel_rfl,fun w=>by kernel_rfl,fun w=>by kernel_rfl,fun w=>by kernel_rfl,fun w=>by kernel_rfl,by kernel_rfl,by decide,fun w=>by kernel_rfl,fun w=>by kernel_rfl,fun w=>by kernel_rfl,fun w=>by kernel_rfl,fun w=>by kernel_rfl,fun w=>by kernel_rfl⟩
theorem lg61:LgRun 4633781804099174400 4606760206334951424 13810451715542987587 13813027358329820317 4618441417868443648 4618363435043258030 6:=⟨fun w=>by kernel_rfl,fun w=>by kernel_rfl,fun w=>by kernel_rfl,fun w=>by kernel_rfl,fun w=>by kernel_rfl,fun w=>by kernel_rfl,by kernel_rfl,by decide,fun w=>by kernel_rfl,fun w=>by kernel_rfl,fun w=>by kernel_rfl,fun w=>by kernel_rfl,fun w=>by kernel_rfl,fun w=>by kernel_rfl⟩
theorem lg62:LgRun 4633922541587529728 4606900943823306752 13808108327519339588 13810133865233733845 4618441417868443648 4618389847498575182 6:=⟨fun w=>by kernel_rfl,fun w=>by kernel_rfl,fun w=>by kernel_rfl,fun w=>by kernel_rfl,fun w=>by kernel_rfl,fun w=>by kernel_rfl,by kernel_rfl,by decide,fun w=>by kernel_rfl,fun w=>by kernel_rfl,fun w=>by kernel_rfl,fun w=>by kernel_rfl,fun w=>by kernel_rfl,fun w=>by kernel_rfl⟩
end Go.Proofs.YtlkjiiibmfpbcaaGreatDoor
