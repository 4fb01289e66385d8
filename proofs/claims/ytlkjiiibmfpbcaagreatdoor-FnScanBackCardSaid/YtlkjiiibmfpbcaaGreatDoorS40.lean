/- Quotients of a small whole number and a float near one, cut to a whole number. Conditions: the number is below 2^15, the float between 1 and 8. -/
import Derived.Laws.FloatArith
import Derived.Test.YtlkjiiibmfpbcaaGreatDoorS39
import Derived.Test.YtlkjiiibmfpbcaaGreatDoorS38
namespace Go.Proofs.YtlkjiiibmfpbcaaGreatDoor
open Go
abbrev dbl:Ieee.Format:=Ieee.double
theorem dbl_binade:dbl.binade=4503599627370496:=rfl
theorem dbl_sign:dbl.signWeight=9223372036854775808:=rfl
theorem dbl_inf:dbl.infRung=9218868437227405312:=by decide
theorem dbl_least:dbl.leastPlace = -1074:=by decide
theorem read_norm {c:Nat} (h1:4503599627370496≤c) (h2:c<9218868437227405312):dbl.read c=.number false (4503599627370496+c%4503599627370496) ((c/4503599627370496:Nat)-1075):=by
 unfold Ieee.Format.read
 simp only [dbl_binade,dbl_sign,dbl_inf,dbl_least]
 have e1:c/9223372036854775808=0:=Nat.div_eq_of_lt (by omega)
 have e2:c%9223372036854775808=c:=Nat.mod_eq_of_lt (by omega)
 rw [e1,e2,if_neg (by omega),if_pos h2]
 have e3:(-1074:Int)+((c/4503599627370496-1:Nat):Int)=((c/4503599627370496:Nat):Int)-1075:=by omega
 rw [e3]
 rfl
theorem read_rung {e k:Nat} (he:1≤e) (he2:e≤2000) (hk:4503599627370496≤k) (hk2:k<9007199254740992):dbl.read ((e-1)*4503599627370496+k)=.number false k ((e:Int)-1075):=by
 have hd:((e-1)*4503599627370496+k)/4503599627370496=e:=by omega
 have hm:((e-1)*4503599627370496+k)%4503599627370496=k-4503599627370496:=by omega
 rw [read_norm (by omega) (by omega),hd,hm,show 4503599627370496+(k-4503599627370496)=k by omega]
theorem word_f (x:Nat):dbl.word false x=x:=rfl
theorem shl_eq (a k:Nat):a <<< k=a*2^k:=Nat.shiftLeft_eq a k
theorem one_shl (k:Nat):1 <<< k=2^k:=by rw [shl_eq,Nat.one_mul]
theorem log2_pos {n l:Nat} (h:n≠0) (hl:n.log2=l):2^l≤n∧n<2^(l+1):=by
 subst hl
 exact ⟨Nat.log2_self_le h,Nat.lt_log2_self⟩
theorem log2_is {n l:Nat} (h1:2^l≤n) (h2:n<2^(l+1)):n.log2=l:=by
 have h0:n≠0:=by have:=Nat.two_pow_pos l; omega
 obtain ⟨a,b⟩:=log2_pos h0 rfl
 have c1:=(Nat.pow_lt_pow_iff_right (show 1<2 by omega)).1 (Nat.lt_of_le_of_lt h1 b)
 have c2:=(Nat.pow_lt_pow_iff_right (show 1<2 by omega)).1 (Nat.lt_of_le_of_lt a h2)
 omega
theorem cut_even (neg:Bool) (n drop:Nat) (h:drop≤n.log2+2):Ieee.Toward.even.cut neg n drop=n/2^drop∨Ieee.Toward.even.cut neg n drop=n/2^drop+1:=by
 unfold Ieee.Toward.cut
 simp only
 rw [Nat.min_eq_left h,one_shl]
 cases (decide (2^drop<2*(n%2^drop)) || (2^drop==2*(n%2^drop) && n/2^drop%2==1))
 ·exact .inl rfl
 ·exact .inr rfl
theorem cut_zero (neg:Bool) (n drop:Nat):Ieee.Toward.zero.cut neg n drop=n/2^(min drop (n.log2+2)):=by
 unfold Ieee.Toward.cut
 simp only [one_shl]
 rfl
theorem near_hi {mag l:Nat} {pl:Nat} (h0:mag≠0) (hl:mag.log2=l) (h52:52≤l) (hl2:l≤60) (hp:pl≤900):∃ kept,(kept=mag/2^(l-52)∨kept=mag/2^(l-52)+1)∧dbl.nearest false mag (-(pl:Int))=(l+1022-pl)*4503599627370496+kept:=by
 unfold Ieee.Format.nearest
 have hf:dbl.fractionBits=52:=rfl
 simp only [hl,dbl_binade,dbl_inf,dbl_least,hf]
 rw [if_neg h0]
 have e1:max (-(pl:Int)+(l:Int)-((52:Nat):Int)) (-1074) = -(pl:Int)+(l:Int)-((52:Nat):Int):=by omega
 rw [e1]
 have e2:(-(pl:Int)-(-(pl:Int)+(l:Int)-((52:Nat):Int))).toNat=0:=by omega
 have e3:(-(pl:Int)+(l:Int)-((52:Nat):Int) - -(pl:Int)).toNat=l-52:=by omega
 have e4:(-(pl:Int)+(l:Int)-((52:Nat):Int) - -1074).toNat=l+1022-pl:=by omega
 rw [e2,e3,e4,Nat.shiftLeft_zero]
 obtain ⟨g1,g2⟩:=log2_pos h0 hl
 have hlow:mag/2^(l-52)<9007199254740992:=by
  rw [Nat.div_lt_iff_lt_mul (Nat.two_pow_pos _)]
  have:(9007199254740992:Nat)=2^53:=by decide
  rw [this,←Nat.pow_add,show 53+(l-52)=l+1 by omega]; exact g2
 refine ⟨Ieee.Toward.even.cut false mag (l-52),cut_even false mag (l-52) (by omega),?_⟩
 have hc:=cut_even false mag (l-52) (by omega)
 generalize Ieee.Toward.even.cut false mag (l-52)=kept at hc ⊢
 rw [word_f]
 exact Nat.min_eq_left (by omega)
theorem toInt_of {k h:Nat} (hh:1≤h):∃ z:Nat,(Ieee.Datum.number false k (-(h:Int))).toInt .zero=some (z:Int)∧(∀ t,t*2^h≤k→t≤z)∧(37≤h→k≤9007199254740992→z≤65536):=by
 refine ⟨k/2^(min h (k.log2+2)),?_,fun t ht=>?_,fun h1 h2=>?_⟩
 ·unfold Ieee.Datum.toInt Ieee.Datum.integral
  simp only
  have e1:(-(h:Int)).toNat=0:=by omega
  have e2:(- -(h:Int)).toNat=h:=by omega
  rw [e1,e2,Nat.shiftLeft_zero,cut_zero]
  rfl
 ·rcases Nat.le_total h (k.log2+2) with h1 | h1
  ·rw [Nat.min_eq_left h1,Nat.le_div_iff_mul_le (Nat.two_pow_pos _)]; exact ht
  ·rcases Nat.eq_zero_or_pos t with h2 | h2
   ·rw [h2]; exact Nat.zero_le _
   ·exfalso
    have h3:2^h≤k:=Nat.le_trans (Nat.le_mul_of_pos_left _ h2) ht
    have h4:k<2^(k.log2+1):=Nat.lt_log2_self
    have:=(Nat.pow_lt_pow_iff_right (show 1<2 by omega)).1 (Nat.lt_of_le_of_lt h3 h4)
    omega
 ·rcases Nat.le_total h (k.log2+2) with h3 | h3
  ·rw [Nat.min_eq_left h3]
   have h4:k/2^h≤k/2^37:=Nat.div_le_div_left (Nat.pow_le_pow_right (by omega) h1) (Nat.two_pow_pos _)
   have h5:k/2^37≤9007199254740992/2^37:=Nat.div_le_div_right h2
   have h6:9007199254740992/2^37=65536:=by decide
   omega
  ·rw [Nat.min_eq_right h3]
   have h4:k<2^(k.log2+1):=Nat.lt_log2_self
   rw [Nat.div_eq_of_lt (Nat.lt_of_lt_of_le h4 (Nat.pow_le_pow_right (by omega) (by omega)))]
   omega
def fbits (n:Nat):Nat:=(n.log2+1022)*4503599627370496+n*2^(52-n.log2)
theorem fbits_read {n:Nat} (h1:1≤n) (h2:n<32768):dbl.write (.number false n 0)=fbits n∧dbl.read (fbits n)=.number false (n*2^(52-n.log2)) ((n.log2:Int)-52)∧4503599627370496≤n*2^(52-n.log2)∧n*2^(52-n.log2)<9007199254740992∧n.log2≤14:=by
 obtain ⟨g1,g2⟩:=log2_pos (n:=n) (by omega) rfl
 have hl:n.log2≤14:=by
  have:(32768:Nat)=2^15:=by decide
  have:=(Nat.pow_lt_pow_iff_right (show 1<2 by omega)).1 (Nat.lt_of_le_of_lt g1 (by omega:n<2^15))
  omega
 have b1:4503599627370496≤n*2^(52-n.log2):=by
  have h:=Nat.mul_le_mul_right (2^(52-n.log2)) g1
  rw [←Nat.pow_add,show n.log2+(52-n.log2)=52 by omega] at h
  have:(4503599627370496:Nat)=2^52:=by decide
  omega
 have b2:n*2^(52-n.log2)<9007199254740992:=by
  have h:=Nat.mul_lt_mul_of_pos_right g2 (Nat.two_pow_pos (52-n.log2))
  rw [←Nat.pow_add,show n.log2+1+(52-n.log2)=53 by omega] at h
  have:(9007199254740992:Nat)=2^53:=by decide
  omega
 refine ⟨?_,?_,b1,b2,hl⟩
 ·show dbl.nearest false n 0=_
  unfold Ieee.Format.nearest
  have hf:dbl.fractionBits=52:=rfl
  simp only [dbl_binade,dbl_inf,dbl_least,hf]
  rw [if_neg (by omega)]
  have e1:max (0+(n.log2:Int)-((52:Nat):Int)) (-1074)=(n.log2:Int)-52:=by omega
  rw [e1]
  have e2:(0-((n.log2:Int)-52)).toNat=52-n.log2:=by omega
  have e3:((n.log2:Int)-52-0).toNat=0:=by omega
  have e4:((n.log2:Int)-52 - -1074).toNat=n.log2+1022:=by omega
  rw [e2,e3,e4,shl_eq]
  have hc:Ieee.Toward.even.cut false (n*2^(52-n.log2)) 0=n*2^(52-n.log2):=by
   unfold Ieee.Toward.cut
   simp only [Nat.zero_min,Nat.shiftLeft_zero,Nat.mod_one,Nat.div_one]
   rfl
  rw [hc]
  rw [word_f]
  unfold fbits
  exact Nat.min_eq_left (by omega)
 ·have:=read_rung (e:=n.log2+1023) (k:=n*2^(52-n.log2)) (by omega) (by omega) b1 b2
  unfold fbits
  have e:((n.log2+1023:Nat):Int)-1075=(n.log2:Int)-52:=by omega
  rw [show n.log2+1023-1=n.log2+1022 by omega,e] at this
  exact this
theorem quo_cut {bl c n J:Nat} (h1:1≤bl) (h2:bl<32768) (hc:dbl.read c=.number false n (-(J:Int))) (hn1:4503599627370496≤n) (hn2:n<9007199254740992) (hJ1:50≤J) (hJ2:J≤52) :
  ∃ r z:Nat,floatBits .quo .f64 (fbits bl) c=some r∧floatToIntVal .f64 r .i64=some (z:Int)∧z≤65536∧∀ t,t*n≤bl*2^J→t≤z:=by
 obtain ⟨_,hr,m1,m2,hl14⟩:=fbits_read h1 h2
 obtain ⟨l,hl⟩:∃ l,l=bl.log2:=⟨_,rfl⟩
 rw [←hl] at hr m1 m2 hl14
 obtain ⟨m,hm⟩:∃ m,m=bl*2^(52-l):=⟨_,rfl⟩
 rw [←hm] at hr m1 m2
 have p52:(4503599627370496:Nat)=2^52:=by decide
 have p53:(9007199254740992:Nat)=2^53:=by decide
 have lm:m.log2=52:=log2_is (by omega) (by omega)
 have ln:n.log2=52:=log2_is (by omega) (by omega)
 obtain ⟨F,hF⟩:∃ F,F=m*2^54/n:=⟨_,rfl⟩
 obtain ⟨D,hD⟩:∃ D,D=2*F+((m*2^54)%n != 0).toNat:=⟨_,rfl⟩
 have hsb:((m*2^54)%n != 0).toNat≤1:=by cases ((m*2^54)%n != 0) <;> simp
 have hF1:2^53≤F:=by
  rw [hF,Nat.le_div_iff_mul_le (by omega)]
  have n53:n≤2^53:=by omega
  have m52:2^52≤m:=by omega
  have e:(2:Nat)^53*2^53=2^52*2^54:=by rw [←Nat.pow_add]
  exact Nat.le_trans (Nat.mul_le_mul_left _ n53) (Nat.le_trans (Nat.le_of_eq e) (Nat.mul_le_mul_right _ m52))
 have hF2:F<2^55:=by
  rw [hF,Nat.div_lt_iff_lt_mul (by omega)]
  have m53:m<2^53:=by omega
  have n52:2^52≤n:=by omega
  have e:(2:Nat)^53*2^54=2^55*2^52:=by rw [←Nat.pow_add]
  exact Nat.lt_of_lt_of_le (Nat.mul_lt_mul_of_pos_right m53 (Nat.two_pow_pos _)) (Nat.le_trans (Nat.le_of_eq e) (Nat.mul_le_mul_left _ n52))
 obtain ⟨k,hk⟩:∃ k,k=D.log2:=⟨_,rfl⟩
 have hD0:D≠0:=by have:=Nat.two_pow_pos 53; omega
 obtain ⟨d1,d2⟩:=log2_pos hD0 hk.symm
 have p54:(2:Nat)^54=2*2^53:=by decide
 have p56:(2:Nat)^56=2*2^55:=by decide
 have hk1:54≤k:=by
  have h3:2^54<2^(k+1):=Nat.lt_of_le_of_lt (by omega) d2
  have:=(Nat.pow_lt_pow_iff_right (show 1<2 by omega)).1 h3
  omega
 have hk2:k≤55:=by
  have h3:2^k<2^56:=Nat.lt_of_le_of_lt d1 (by omega)
  have:=(Nat.pow_lt_pow_iff_right (show 1<2 by omega)).1 h3
  omega
 obtain ⟨kept,hkept,hnear⟩:=near_hi (mag:=D) (l:=k) (pl:=107-l-J) hD0 hk.symm (by omega) (by omega) (by omega)
 have hdiv:floatBits .quo .f64 (fbits bl) c=some (dbl.nearest false D (-((107-l-J:Nat):Int))):=by
  show dbl.div (fbits bl) c=_
  unfold Ieee.Format.div
  rw [hr,hc]
  have hf:dbl.fractionBits=52:=rfl
  unfold Ieee.Datum.quotient
  simp only [hf]
  rw [if_neg (by omega),lm,ln,show 52+2+52-52=54 by omega,shl_eq,←hF,←hD]
  have e:((l:Int)-52 - -(J:Int)-((54:Nat):Int)-1) = -((107-l-J:Nat):Int):=by omega
  rw [e]
  rfl
 rw [hnear] at hdiv
 have hkb:4503599627370496≤kept∧kept≤9007199254740992:=by
  have g1:2^52≤D/2^(k-52):=by
   rw [Nat.le_div_iff_mul_le (Nat.two_pow_pos _),←Nat.pow_add,show 52+(k-52)=k by omega]; exact d1
  have g2:D/2^(k-52)<2^53:=by
   rw [Nat.div_lt_iff_lt_mul (Nat.two_pow_pos _),←Nat.pow_add,show 53+(k-52)=k+1 by omega]; exact d2
  omega
 have hlow:∀ t,t*n≤bl*2^J→t*2^(107-l-J-(k-52))≤kept:=by
  intro t ht
  have a1:t*2^(106-l-J)≤F:=by
   rw [hF,Nat.le_div_iff_mul_le (by omega)]
   have h3:t*n*2^(106-l-J)≤bl*2^J*2^(106-l-J):=Nat.mul_le_mul_right _ ht
   have e1:bl*2^J*2^(106-l-J)=m*2^54:=by
    rw [hm,Nat.mul_assoc,Nat.mul_assoc,←Nat.pow_add,←Nat.pow_add,show J+(106-l-J)=52-l+54 by omega]
   rw [e1] at h3
   rw [Nat.mul_right_comm]; exact h3
  have a2:t*2^(107-l-J)≤D:=by
   have e2:(2:Nat)^(107-l-J)=2*2^(106-l-J):=by rw [show 107-l-J=106-l-J+1 by omega,Nat.pow_succ]; omega
   rw [e2,Nat.mul_left_comm]; omega
  have a3:t*2^(107-l-J-(k-52))≤D/2^(k-52):=by
   rw [Nat.le_div_iff_mul_le (Nat.two_pow_pos _),Nat.mul_assoc,←Nat.pow_add,show 107-l-J-(k-52)+(k-52)=107-l-J by omega]; exact a2
  omega
 have fin:∀ (r q h:Nat),dbl.read r=.number false q (-(h:Int))→37≤h→q≤9007199254740992→(∀ t,t*n≤bl*2^J→t*2^h≤q)→floatBits .quo .f64 (fbits bl) c=some r→∃ r z:Nat,floatBits .quo .f64 (fbits bl) c=some r∧floatToIntVal .f64 r .i64=some (z:Int)∧z≤65536∧∀ t,t*n≤bl*2^J→t≤z:=by
  intro r q h g1 g2 g3 g4 g5
  obtain ⟨z,z1,z2,z3⟩:=toInt_of (k:=q) (h:=h) (by omega)
  refine ⟨r,z,g5,?_,z3 g2 g3,fun t ht=>z2 t (g4 t ht)⟩
  unfold floatToIntVal
  have e:(FloatKind.f64.decode r).toInt .zero=some (z:Int):=by
   show (dbl.read r).toInt .zero=_
   rw [g1]; exact z1
  rw [e]
  simp only
  have:=z3 g2 g3
  rw [if_pos ⟨by show (-9223372036854775808:Int)≤z; omega,by show (z:Int)≤9223372036854775807; omega⟩]
 rcases Nat.lt_or_ge kept 9007199254740992 with hlt | hge
 ·refine fin _ kept (107-l-J-(k-52)) ?_ (by omega) hkb.2 hlow hdiv
  have:=read_rung (e:=k+1023-(107-l-J)) (k:=kept) (by omega) (by omega) hkb.1 hlt
  have e:((k+1023-(107-l-J):Nat):Int)-1075 = -((107-l-J-(k-52):Nat):Int):=by omega
  rw [e] at this
  rw [show k+1022-(107-l-J)=k+1023-(107-l-J)-1 by omega]; exact this
 ·have hke:kept=9007199254740992:=by omega
  refine fin _ 4503599627370496 (107-l-J-(k-52)-1) ?_ (by omega) (by omega) (fun t ht=>?_) hdiv
  ·have:=read_rung (e:=k+1024-(107-l-J)) (k:=4503599627370496) (by omega) (by omega) (Nat.le_refl _) (by omega)
   rw [show (k+1022-(107-l-J))*4503599627370496+kept=(k+1024-(107-l-J)-1)*4503599627370496+4503599627370496 by omega]
   have e:((k+1024-(107-l-J):Nat):Int)-1075 = -((107-l-J-(k-52)-1:Nat):Int):=by omega
   rw [e] at this
   exact this
  ·have h3:=hlow t ht
   have e2:(2:Nat)^(107-l-J-(k-52))=2*2^(107-l-J-(k-52)-1):=by rw [show 107-l-J-(k-52)=107-l-J-(k-52)-1+1 by omega,Nat.pow_succ]; simp only [Nat.add_sub_cancel]; omega
   rw [e2,Nat.mul_left_comm] at h3
   omega
end Go.Proofs.YtlkjiiibmfpbcaaGreatDoor
namespace Go.Proofs.YtlkjiiibmfpbcaaGreatDoor
open Go
set_option maxRecDepth 100000
structure LgTwo (x fr t:Nat) (ex:Int):Prop where
 r1:∀ w,Sem.run Tryz.prog (callFunc 175 #[.float .f64 x]) w=.ok (.value (.int .u64 (x:Int))) w
 r2:∀ w,Sem.run Tryz.prog (callFunc 176 #[.int .u64 (iAndNot .u64 (x:Int) 9223372036854775808)]) w=.ok (.value (.float .f64 x)) w
 q1:∀ w,Sem.run Tryz.prog (do eqGuard .eql 80 (Operand.tmp 6) (Operand.const (Value.float FloatKind.f64 0)) (.float .f64 x) (Value.float FloatKind.f64 0); Go.binOp .eql 80 (.float .f64 x) (Value.float FloatKind.f64 0)) w=.ok (.bool false) w
 q2:∀ w,Sem.run Tryz.prog (do eqGuard .gtr 80 (Operand.tmp 13) (Operand.const (Value.float FloatKind.f64 9218868437227405311)) (.float .f64 x) (Value.float FloatKind.f64 9218868437227405311); Go.binOp .gtr 80 (.float .f64 x) (Value.float FloatKind.f64 9218868437227405311)) w=.ok (.bool false) w
 q3:∀ w,Sem.run Tryz.prog (do eqGuard .neq 80 (Operand.tmp 3) (Operand.tmp 4) (.float .f64 x) (.float .f64 x); Go.binOp .neq 80 (.float .f64 x) (.float .f64 x)) w=.ok (.bool false) w
 q4:∀ w,Sem.run Tryz.prog (do eqGuard .lss 80 (Operand.tmp 5) (Operand.const (Value.float FloatKind.f64 4503599627370496)) (.float .f64 x) (Value.float FloatKind.f64 4503599627370496); Go.binOp .lss 80 (.float .f64 x) (Value.float FloatKind.f64 4503599627370496)) w=.ok (.bool false) w
 e1:(0+(((IntKind.wrap .i64 (iAnd .u64 (iShr .u64 (x:Int) 52) 2047))-1023)+1))=ex
 e2:-2000≤ex∧ex≤2000
 r3:∀ w,Sem.run Tryz.prog (callFunc 176 #[.int .u64 (iOr .u64 (iAndNot .u64 (x:Int) 9218868437227405312) 4602678819172646912)]) w=.ok (.value (.float .f64 fr)) w
 q5:∀ w,Sem.run Tryz.prog (do eqGuard .eql 80 (Operand.tmp 10) (Operand.const (Value.float FloatKind.f64 4602678819172646912)) (.float .f64 fr) (Value.float FloatKind.f64 4602678819172646912); Go.binOp .eql 80 (.float .f64 fr) (Value.float FloatKind.f64 4602678819172646912)) w=.ok (.bool true) w
 r6:∀ w,Sem.run Tryz.prog (Go.convert 3 80 (.int .i64 (ex-1))) w=.ok (.float .f64 t) w
section
variable {x fr t:Nat} {ex:Int}
theorem LgTwo.c182 (h:LgTwo x fr t ex):Told 182 #[.float .f64 x] (.float .f64 x):=fun w =>
 told <| F182.call x w _ fun B=>⟨w,_,h.r1 w,w,_,h.r2 w,fun B1=>ret1 rfl rfl ⟨rfl,rfl⟩⟩
theorem LgTwo.c172 (h:LgTwo x fr t ex):Told 172 #[.float .f64 x,.int .i64 0] (.bool false):=fun w =>
 told <| F172.call x 0 w _ fun B=>bc_true rfl ((h.c182 w).mono fun e w' ⟨he,hw⟩=>by
  subst hw
  exact ⟨_,he,fun B1=>F172.t1 x ⟨rfl,trivial⟩ fun B2=>⟨w',_,h.q2 w',fun B3=>ret1 rfl rfl ⟨rfl,rfl⟩⟩⟩)
theorem LgTwo.c173 (h:LgTwo x fr t ex):Told 173 #[.float .f64 x] (.bool false):=fun w =>
 told <| F173.call x w _ fun B=>⟨w,_,h.q3 w,fun B1=>ret1 rfl rfl ⟨rfl,rfl⟩⟩
theorem LgTwo.c174 (h:LgTwo x fr t ex):Told 174 #[.float .f64 x] (.tuple #[.float .f64 x,.int .i64 0]):=fun w =>
 told <| F174.call x w _ fun B=>(h.c182 w).mono fun e w' ⟨he,hw⟩=>by
  subst hw
  exact ⟨_,he,w',_,h.q4 w',bc_false rfl fun B1=>ret2 rfl rfl rfl ⟨rfl,rfl⟩⟩
theorem LgTwo.c155 (h:LgTwo x fr t ex):Told 155 #[.float .f64 x] (.tuple #[.float .f64 fr,.int .i64 ex]):=fun w =>
 told <| F155.call x w _ fun B=>⟨w,_,h.q1 w,bc_false rfl ((h.c172 w).mono fun e w' ⟨he,hw⟩=>by
  subst hw
  refine ⟨_,he,bc_false rfl ((h.c173 w').mono fun e2 w2 ⟨he2,hw2⟩=>?_)⟩
  subst hw2
  refine ⟨_,he2,bc_false rfl ((h.c174 w2).mono fun e3 w3 ⟨he3,hw3⟩=>?_)⟩
  subst hw3
  have h1:=h.e1
  have h2:=h.e2
  refine ⟨_,trivial,_,trivial,he3,w3,_,h.r1 w3,by decide,by unfold inI64; omega,by unfold inI64; omega,by unfold inI64; omega,w3,_,h.r3 w3,fun B1=>ret2 rfl rfl rfl ⟨?_,rfl⟩⟩
  rw [←h1]
  rfl)⟩
theorem LgTwo.c125 (h:LgTwo x fr t ex):Told 125 #[.float .f64 x] (.tuple #[.float .f64 fr,.int .i64 ex]):=fun w =>
 told <| F125.call x w _ fun B=>(h.c155 w).mono fun e w' ⟨he,hw⟩=>by
  subst hw
  exact ⟨_,trivial,_,trivial,he,fun B1=>ret2 rfl rfl rfl ⟨rfl,rfl⟩⟩
theorem LgTwo.c86 (h:LgTwo x fr t ex):Told 86 #[.float .f64 x] (.float .f64 t):=fun w =>
 told <| F86.call x w _ fun B=>(h.c125 w).mono fun e w' ⟨he,hw⟩=>by
  subst hw
  have h2:=h.e2
  exact ⟨_,trivial,_,trivial,he,w',_,h.q5 w',bc_true rfl ⟨by unfold inI64; omega,w',_,h.r6 w',fun B1=>ret1 rfl rfl ⟨rfl,rfl⟩⟩⟩
theorem LgTwo.c54 (h:LgTwo x fr t ex):Told 54 #[.float .f64 x] (.float .f64 t):=fun w =>
 told <| F54.call x w _ fun B=>(h.c86 w).mono fun e w' ⟨he,hw⟩=>by
  subst hw
  exact ⟨_,he,fun B1=>ret1 rfl rfl ⟨rfl,rfl⟩⟩
end
theorem lt2:LgTwo 4611686018427387904 4602678819172646912 4607182418800017408 2:=⟨fun w=>by kernel_rfl,fun w=>by kernel_rfl,fun w=>by kernel_rfl,fun w=>by kernel_rfl,fun w=>by kernel_rfl,fun w=>by kernel_rfl,by kernel_rfl,by decide,fun w=>by kernel_rfl,fun w=>by kernel_rfl,fun w=>by kernel_rfl⟩
theorem lt4:LgTwo 4616189618054758400 4602678819172646912 4611686018427387904 3:=⟨fun w=>by kernel_rfl,fun w=>by kernel_rfl,fun w=>by kernel_rfl,fun w=>by kernel_rfl,fun w=>by kernel_rfl,fun w=>by kernel_rfl,by kernel_rfl,by decide,fun w=>by kernel_rfl,fun w=>by kernel_rfl,fun w=>by kernel_rfl⟩
theorem lt8:LgTwo 4620693217682128896 4602678819172646912 4613937818241073152 4:=⟨fun w=>by kernel_rfl,fun w=>by kernel_rfl,fun w=>by kernel_rfl,fun w=>by kernel_rfl,fun w=>by kernel_rfl,fun w=>by kernel_rfl,by kernel_rfl,by decide,fun w=>by kernel_rfl,fun w=>by kernel_rfl,fun w=>by kernel_rfl⟩
theorem lt16:LgTwo 4625196817309499392 4602678819172646912 4616189618054758400 5:=⟨fun w=>by kernel_rfl,fun w=>by kernel_rfl,fun w=>by kernel_rfl,fun w=>by kernel_rfl,fun w=>by kernel_rfl,fun w=>by kernel_rfl,by kernel_rfl,by decide,fun w=>by kernel_rfl,fun w=>by kernel_rfl,fun w=>by kernel_rfl⟩
theorem lt32:LgTwo 4629700416936869888 4602678819172646912 4617315517961601024 6:=⟨fun w=>by kernel_rfl,fun w=>by kernel_rfl,fun w=>by kernel_rfl,fun w=>by kernel_rfl,fun w=>by kernel_rfl,fun w=>by kernel_rfl,by kernel_rfl,by decide,fun w=>by kernel_rfl,fun w=>by kernel_rfl,fun w=>by kernel_rfl⟩
def LogOf (b:Nat):Prop:=∃ c n J:Nat,Told 54 #[.float .f64 (fbits b)] (.float .f64 c)∧dbl.read c=.number false n (-(J:Int))∧4503599627370496≤n∧n<9007199254740992∧50≤J∧J≤52 ∧
 ((∃ p q p' q',p*q'=p'*q+1∧2^p'≤b^q'∧16700≤q+q'∧n*q≤p*2^J)∨∃ s,b=2^s∧n=s*2^J)
theorem log_mk {b c p q p' q' x:Nat} (h:Told 54 #[.float .f64 x] (.float .f64 c)) (hx:fbits b=x) (h1:4607182418800017408≤c) (h2:c<4620693217682128896) (hk:logOk (b,c,p,q,p',q')=true):LogOf b:=by
 subst hx
 simp only [logOk,Bool.and_eq_true] at hk
 obtain ⟨⟨⟨k1,k2⟩,k3⟩,k4⟩:=hk
 have hr:=read_norm (c:=c) (by omega) (by omega)
 have e:((c/4503599627370496:Nat):Int)-1075 = -((1075-c/4503599627370496:Nat):Int):=by omega
 rw [e] at hr
 have k4:=Nat.le_of_ble_eq_true k4
 have p52:(2:Nat)^52=4503599627370496:=by decide
 rw [p52] at k4
 exact ⟨c,_,_,h,hr,by omega,by omega,by omega,by omega,.inl ⟨p,q,p',q',Nat.eq_of_beq_eq_true k1,Nat.le_of_ble_eq_true k2,Nat.le_of_ble_eq_true k3,k4⟩⟩
theorem log_mk2 {s c x n J:Nat} (h:Told 54 #[.float .f64 x] (.float .f64 c)) (hx:fbits (2^s)=x) (h1:4607182418800017408≤c) (h2:c<4620693217682128896) (hn:4503599627370496+c%4503599627370496=n) (hJ:1075-c/4503599627370496=J) (hs:n=s*2^J):LogOf (2^s):=by
 subst hx
 have hr:=read_norm (c:=c) (by omega) (by omega)
 have e:((c/4503599627370496:Nat):Int)-1075 = -(J:Int):=by omega
 rw [e,hn] at hr
 exact ⟨c,n,J,h,hr,by omega,by omega,by omega,by omega,.inr ⟨s,rfl,hs⟩⟩
theorem lo2:LogOf 2:=log_mk2 (s:=1) (n:=4503599627370496) (J:=52) lt2.c54 (by kernel_rfl) (by omega) (by omega) (by decide) (by decide) (by decide)
theorem lo3:LogOf 3:=log_mk (p:=24727) (q:=15601) (p':=25781) (q':=16266) lg3.c54 (by kernel_rfl) (by omega) (by omega) (by kernel_rfl)
theorem lo4:LogOf 4:=log_mk2 (s:=2) (n:=4503599627370496) (J:=51) lt4.c54 (by kernel_rfl) (by omega) (by omega) (by decide) (by decide) (by decide)
theorem lo5:LogOf 5:=log_mk (p:=20087) (q:=8651) (p':=29384) (q':=12655) lg5.c54 (by kernel_rfl) (by omega) (by omega) (by kernel_rfl)
theorem lo6:LogOf 6:=log_mk (p:=40328) (q:=15601) (p':=42047) (q':=16266) lg6.c54 (by kernel_rfl) (by omega) (by omega) (by kernel_rfl)
theorem lo7:LogOf 7:=log_mk (p:=8321) (q:=2964) (p':=40002) (q':=14249) lg7.c54 (by kernel_rfl) (by omega) (by omega) (by kernel_rfl)
theorem lo8:LogOf 8:=log_mk2 (s:=3) (n:=6755399441055744) (J:=51) lt8.c54 (by kernel_rfl) (by omega) (by omega) (by decide) (by decide) (by decide)
theorem lo9:LogOf 9:=log_mk (p:=49454) (q:=15601) (p':=25781) (q':=8133) lg9.c54 (by kernel_rfl) (by omega) (by omega) (by kernel_rfl)
theorem lo10:LogOf 10:=log_mk (p:=28738) (q:=8651) (p':=42039) (q':=12655) lg10.c54 (by kernel_rfl) (by omega) (by omega) (by kernel_rfl)
theorem lo11:LogOf 11:=log_mk (p:=16799) (q:=4856) (p':=57091) (q':=16503) lg11.c54 (by kernel_rfl) (by omega) (by omega) (by kernel_rfl)
theorem lo12:LogOf 12:=log_mk (p:=55929) (q:=15601) (p':=58313) (q':=16266) lg12.c54 (by kernel_rfl) (by omega) (by omega) (by kernel_rfl)
theorem lo13:LogOf 13:=log_mk (p:=20197) (q:=5458) (p':=59751) (q':=16147) lg13.c54 (by kernel_rfl) (by omega) (by omega) (by kernel_rfl)
theorem lo14:LogOf 14:=log_mk (p:=11285) (q:=2964) (p':=54251) (q':=14249) lg14.c54 (by kernel_rfl) (by omega) (by omega) (by kernel_rfl)
theorem lo15:LogOf 15:=log_mk (p:=61178) (q:=15659) (p':=15819) (q':=4049) lg15.c54 (by kernel_rfl) (by omega) (by omega) (by kernel_rfl)
theorem lo16:LogOf 16:=log_mk2 (s:=4) (n:=4503599627370496) (J:=50) lt16.c54 (by kernel_rfl) (by omega) (by omega) (by decide) (by decide) (by decide)
theorem lo17:LogOf 17:=log_mk (p:=67390) (q:=16487) (p':=16497) (q':=4036) lg17.c54 (by kernel_rfl) (by omega) (by omega) (by kernel_rfl)
theorem lo18:LogOf 18:=log_mk (p:=65055) (q:=15601) (p':=33914) (q':=8133) lg18.c54 (by kernel_rfl) (by omega) (by omega) (by kernel_rfl)
theorem lo19:LogOf 19:=log_mk (p:=49705) (q:=11701) (p':=22034) (q':=5187) lg19.c54 (by kernel_rfl) (by omega) (by omega) (by kernel_rfl)
theorem lo20:LogOf 20:=log_mk (p:=37389) (q:=8651) (p':=54694) (q':=12655) lg20.c54 (by kernel_rfl) (by omega) (by omega) (by kernel_rfl)
theorem lo21:LogOf 21:=log_mk (p:=59002) (q:=13433) (p':=65977) (q':=15021) lg21.c54 (by kernel_rfl) (by omega) (by omega) (by kernel_rfl)
theorem lo22:LogOf 22:=log_mk (p:=21655) (q:=4856) (p':=73594) (q':=16503) lg22.c54 (by kernel_rfl) (by omega) (by omega) (by kernel_rfl)
theorem lo23:LogOf 23:=log_mk (p:=26974) (q:=5963) (p':=67867) (q':=15003) lg23.c54 (by kernel_rfl) (by omega) (by omega) (by kernel_rfl)
theorem lo24:LogOf 24:=log_mk (p:=71530) (q:=15601) (p':=74579) (q':=16266) lg24.c54 (by kernel_rfl) (by omega) (by omega) (by kernel_rfl)
theorem lo25:LogOf 25:=log_mk (p:=49471) (q:=10653) (p':=58768) (q':=12655) lg25.c54 (by kernel_rfl) (by omega) (by omega) (by kernel_rfl)
theorem lo26:LogOf 26:=log_mk (p:=25655) (q:=5458) (p':=75898) (q':=16147) lg26.c54 (by kernel_rfl) (by omega) (by omega) (by kernel_rfl)
theorem lo27:LogOf 27:=log_mk (p:=74181) (q:=15601) (p':=25781) (q':=5422) lg27.c54 (by kernel_rfl) (by omega) (by omega) (by kernel_rfl)
theorem lo28:LogOf 28:=log_mk (p:=14249) (q:=2964) (p':=68500) (q':=14249) lg28.c54 (by kernel_rfl) (by omega) (by omega) (by kernel_rfl)
theorem lo29:LogOf 29:=log_mk (p:=76178) (q:=15681) (p':=24013) (q':=4943) lg29.c54 (by kernel_rfl) (by omega) (by omega) (by kernel_rfl)
theorem lo30:LogOf 30:=log_mk (p:=76837) (q:=15659) (p':=19868) (q':=4049) lg30.c54 (by kernel_rfl) (by omega) (by omega) (by kernel_rfl)
theorem lo31:LogOf 31:=log_mk (p:=70305) (q:=14191) (p':=17414) (q':=3515) lg31.c54 (by kernel_rfl) (by omega) (by omega) (by kernel_rfl)
theorem lo32:LogOf 32:=log_mk2 (s:=5) (n:=5629499534213120) (J:=50) lt32.c54 (by kernel_rfl) (by omega) (by omega) (by decide) (by decide) (by decide)
theorem lo33:LogOf 33:=log_mk (p:=73517) (q:=14574) (p':=22271) (q':=4415) lg33.c54 (by kernel_rfl) (by omega) (by omega) (by kernel_rfl)
theorem lo34:LogOf 34:=log_mk (p:=83877) (q:=16487) (p':=20533) (q':=4036) lg34.c54 (by kernel_rfl) (by omega) (by omega) (by kernel_rfl)
theorem lo35:LogOf 35:=log_mk (p:=67963) (q:=13250) (p':=50149) (q':=9777) lg35.c54 (by kernel_rfl) (by omega) (by omega) (by kernel_rfl)
theorem lo36:LogOf 36:=log_mk (p:=80656) (q:=15601) (p':=42047) (q':=8133) lg36.c54 (by kernel_rfl) (by omega) (by omega) (by kernel_rfl)
theorem lo37:LogOf 37:=log_mk (p:=81007) (q:=15550) (p':=28876) (q':=5543) lg37.c54 (by kernel_rfl) (by omega) (by omega) (by kernel_rfl)
theorem lo38:LogOf 38:=log_mk (p:=61406) (q:=11701) (p':=27221) (q':=5187) lg38.c54 (by kernel_rfl) (by omega) (by omega) (by kernel_rfl)
theorem lo39:LogOf 39:=log_mk (p:=55650) (q:=10529) (p':=41131) (q':=7782) lg39.c54 (by kernel_rfl) (by omega) (by omega) (by kernel_rfl)
theorem lo40:LogOf 40:=log_mk (p:=46040) (q:=8651) (p':=67349) (q':=12655) lg40.c54 (by kernel_rfl) (by omega) (by omega) (by kernel_rfl)
theorem lo41:LogOf 41:=log_mk (p:=17771) (q:=3317) (p':=86053) (q':=16062) lg41.c54 (by kernel_rfl) (by omega) (by omega) (by kernel_rfl)
theorem lo42:LogOf 42:=log_mk (p:=72435) (q:=13433) (p':=80998) (q':=15021) lg42.c54 (by kernel_rfl) (by omega) (by omega) (by kernel_rfl)
theorem lo43:LogOf 43:=log_mk (p:=5041) (q:=929) (p':=88383) (q':=16288) lg43.c54 (by kernel_rfl) (by omega) (by omega) (by kernel_rfl)
theorem lo44:LogOf 44:=log_mk (p:=26511) (q:=4856) (p':=90097) (q':=16503) lg44.c54 (by kernel_rfl) (by omega) (by omega) (by kernel_rfl)
theorem lo45:LogOf 45:=log_mk (p:=84937) (q:=15466) (p':=19886) (q':=3621) lg45.c54 (by kernel_rfl) (by omega) (by omega) (by kernel_rfl)
theorem lo46:LogOf 46:=log_mk (p:=32937) (q:=5963) (p':=82870) (q':=15003) lg46.c54 (by kernel_rfl) (by omega) (by omega) (by kernel_rfl)
theorem lo47:LogOf 47:=log_mk (p:=52352) (q:=9425) (p':=72143) (q':=12988) lg47.c54 (by kernel_rfl) (by omega) (by omega) (by kernel_rfl)
theorem lo48:LogOf 48:=log_mk (p:=87131) (q:=15601) (p':=90845) (q':=16266) lg48.c54 (by kernel_rfl) (by omega) (by omega) (by kernel_rfl)
theorem lo49:LogOf 49:=log_mk (p:=8321) (q:=1482) (p':=88325) (q':=15731) lg49.c54 (by kernel_rfl) (by omega) (by omega) (by kernel_rfl)
theorem lo50:LogOf 50:=log_mk (p:=60124) (q:=10653) (p':=71423) (q':=12655) lg50.c54 (by kernel_rfl) (by omega) (by omega) (by kernel_rfl)
theorem lo51:LogOf 51:=log_mk (p:=76175) (q:=13429) (p':=42356) (q':=7467) lg51.c54 (by kernel_rfl) (by omega) (by omega) (by kernel_rfl)
theorem lo52:LogOf 52:=log_mk (p:=31113) (q:=5458) (p':=92045) (q':=16147) lg52.c54 (by kernel_rfl) (by omega) (by omega) (by kernel_rfl)
theorem lo53:LogOf 53:=log_mk (p:=34568) (q:=6035) (p':=73157) (q':=12772) lg53.c54 (by kernel_rfl) (by omega) (by omega) (by kernel_rfl)
theorem lo54:LogOf 54:=log_mk (p:=89782) (q:=15601) (p':=31203) (q':=5422) lg54.c54 (by kernel_rfl) (by omega) (by omega) (by kernel_rfl)
theorem lo55:LogOf 55:=log_mk (p:=18113) (q:=3133) (p':=80702) (q':=13959) lg55.c54 (by kernel_rfl) (by omega) (by omega) (by kernel_rfl)
theorem lo56:LogOf 56:=log_mk (p:=17213) (q:=2964) (p':=82749) (q':=14249) lg56.c54 (by kernel_rfl) (by omega) (by omega) (by kernel_rfl)
theorem lo57:LogOf 57:=log_mk (p:=50437) (q:=8647) (p':=87715) (q':=15038) lg57.c54 (by kernel_rfl) (by omega) (by omega) (by kernel_rfl)
theorem lo58:LogOf 58:=log_mk (p:=91859) (q:=15681) (p':=28956) (q':=4943) lg58.c54 (by kernel_rfl) (by omega) (by omega) (by kernel_rfl)
theorem lo59:LogOf 59:=log_mk (p:=93034) (q:=15815) (p':=5965) (q':=1014) lg59.c54 (by kernel_rfl) (by omega) (by omega) (by kernel_rfl)
theorem lo60:LogOf 60:=log_mk (p:=92496) (q:=15659) (p':=23917) (q':=4049) lg60.c54 (by kernel_rfl) (by omega) (by omega) (by kernel_rfl)
theorem lo61:LogOf 61:=log_mk (p:=72954) (q:=12301) (p':=91535) (q':=15434) lg61.c54 (by kernel_rfl) (by omega) (by omega) (by kernel_rfl)
theorem lo62:LogOf 62:=log_mk (p:=84496) (q:=14191) (p':=20929) (q':=3515) lg62.c54 (by kernel_rfl) (by omega) (by omega) (by kernel_rfl)
theorem log_up {P:Nat→Prop} {n:Nat} (h:P n) (k:∀ b,n+1≤b→b≤62→P b):∀ b,n≤b→b≤62→P b:=fun b h1 h2=>if e:b=n then e ▸ h else k b (by omega) h2
theorem logAt62:∀ b,63≤b→b≤62→LogOf b:=fun b h1 h2=>by omega
theorem logAt61:∀ b,62≤b→b≤62→LogOf b:=log_up lo62 logAt62
theorem logAt60:∀ b,61≤b→b≤62→LogOf b:=log_up lo61 logAt61
theorem logAt59:∀ b,60≤b→b≤62→LogOf b:=log_up lo60 logAt60
theorem logAt58:∀ b,59≤b→b≤62→LogOf b:=log_up lo59 logAt59
theorem logAt57:∀ b,58≤b→b≤62→LogOf b:=log_up lo58 logAt58
theorem logAt56:∀ b,57≤b→b≤62→LogOf b:=log_up lo57 logAt57
theorem logAt55:∀ b,56≤b→b≤62→LogOf b:=log_up lo56 logAt56
theorem logAt54:∀ b,55≤b→b≤62→LogOf b:=log_up lo55 logAt55
theorem logAt53:∀ b,54≤b→b≤62→LogOf b:=log_up lo54 logAt54
theorem logAt52:∀ b,53≤b→b≤62→LogOf b:=log_up lo53 logAt53
theorem logAt51:∀ b,52≤b→b≤62→LogOf b:=log_up lo52 logAt52
theorem logAt50:∀ b,51≤b→b≤62→LogOf b:=log_up lo51 logAt51
theorem logAt49:∀ b,50≤b→b≤62→LogOf b:=log_up lo50 logAt50
theorem logAt48:∀ b,49≤b→b≤62→LogOf b:=log_up lo49 logAt49
theorem logAt47:∀ b,48≤b→b≤62→LogOf b:=log_up lo48 logAt48
theorem logAt46:∀ b,47≤b→b≤62→LogOf b:=log_up lo47 logAt47
theorem logAt45:∀ b,46≤b→b≤62→LogOf b:=log_up lo46 logAt46
theorem logAt44:∀ b,45≤b→b≤62→LogOf b:=log_up lo45 logAt45
theorem logAt43:∀ b,44≤b→b≤62→LogOf b:=log_up lo44 logAt44
theorem logAt42:∀ b,43≤b→b≤62→LogOf b:=log_up lo43 logAt43
theorem logAt41:∀ b,42≤b→b≤62→LogOf b:=log_up lo42 logAt42
theorem logAt40:∀ b,41≤b→b≤62→LogOf b:=log_up lo41 logAt41
theorem logAt39:∀ b,40≤b→b≤62→LogOf b:=log_up lo40 logAt40
theorem logAt38:∀ b,39≤b→b≤62→LogOf b:=log_up lo39 logAt39
theorem logAt37:∀ b,38≤b→b≤62→LogOf b:=log_up lo38 logAt38
theorem logAt36:∀ b,37≤b→b≤62→LogOf b:=log_up lo37 logAt37
theorem logAt35:∀ b,36≤b→b≤62→LogOf b:=log_up lo36 logAt36
theorem logAt34:∀ b,35≤b→b≤62→LogOf b:=log_up lo35 logAt35
theorem logAt33:∀ b,34≤b→b≤62→LogOf b:=log_up lo34 logAt34
theorem logAt32:∀ b,33≤b→b≤62→LogOf b:=log_up lo33 logAt33
theorem logAt31:∀ b,32≤b→b≤62→LogOf b:=log_up lo32 logAt32
theorem logAt30:∀ b,31≤b→b≤62→LogOf b:=log_up lo31 logAt31
theorem logAt29:∀ b,30≤b→b≤62→LogOf b:=log_up lo30 logAt30
theorem logAt28:∀ b,29≤b→b≤62→LogOf b:=log_up lo29 logAt29
theorem logAt27:∀ b,28≤b→b≤62→LogOf b:=log_up lo28 logAt28
theorem logAt26:∀ b,27≤b→b≤62→LogOf b:=log_up lo27 logAt27
theorem logAt25:∀ b,26≤b→b≤62→LogOf b:=log_up lo26 logAt26
theorem logAt24:∀ b,25≤b→b≤62→LogOf b:=log_up lo25 logAt25
theorem logAt23:∀ b,24≤b→b≤62→LogOf b:=log_up lo24 logAt24
theorem logAt22:∀ b,23≤b→b≤62→LogOf b:=log_up lo23 logAt23
theorem logAt21:∀ b,22≤b→b≤62→LogOf b:=log_up lo22 logAt22
theorem logAt20:∀ b,21≤b→b≤62→LogOf b:=log_up lo21 logAt21
theorem logAt19:∀ b,20≤b→b≤62→LogOf b:=log_up lo20 logAt20
theorem logAt18:∀ b,19≤b→b≤62→LogOf b:=log_up lo19 logAt19
theorem logAt17:∀ b,18≤b→b≤62→LogOf b:=log_up lo18 logAt18
theorem logAt16:∀ b,17≤b→b≤62→LogOf b:=log_up lo17 logAt17
theorem logAt15:∀ b,16≤b→b≤62→LogOf b:=log_up lo16 logAt16
theorem logAt14:∀ b,15≤b→b≤62→LogOf b:=log_up lo15 logAt15
theorem logAt13:∀ b,14≤b→b≤62→LogOf b:=log_up lo14 logAt14
theorem logAt12:∀ b,13≤b→b≤62→LogOf b:=log_up lo13 logAt13
theorem logAt11:∀ b,12≤b→b≤62→LogOf b:=log_up lo12 logAt12
theorem logAt10:∀ b,11≤b→b≤62→LogOf b:=log_up lo11 logAt11
theorem logAt9:∀ b,10≤b→b≤62→LogOf b:=log_up lo10 logAt10
theorem logAt8:∀ b,9≤b→b≤62→LogOf b:=log_up lo9 logAt9
theorem logAt7:∀ b,8≤b→b≤62→LogOf b:=log_up lo8 logAt8
theorem logAt6:∀ b,7≤b→b≤62→LogOf b:=log_up lo7 logAt7
theorem logAt5:∀ b,6≤b→b≤62→LogOf b:=log_up lo6 logAt6
theorem logAt4:∀ b,5≤b→b≤62→LogOf b:=log_up lo5 logAt5
theorem logAt3:∀ b,4≤b→b≤62→LogOf b:=log_up lo4 logAt4
theorem logAt2:∀ b,3≤b→b≤62→LogOf b:=log_up lo3 logAt3
theorem logAt1:∀ b,2≤b→b≤62→LogOf b:=log_up lo2 logAt2
theorem logAt (b:Nat) (h1:2≤b) (h2:b≤62):LogOf b:=logAt1 b h1 h2
end Go.Proofs.YtlkjiiibmfpbcaaGreatDoor
namespace Go.Proofs.YtlkjiiibmfpbcaaGreatDoor
open Go
theorem chr_48 {d:Nat} (h:chr d=48) (hd:d<62):d=0:=by
 unfold chr at h
 split at h
 ·omega
 ·split at h <;> omega
section
variable {w:World} {s:Sl} {X b:Nat} {L:List Item}
theorem strip9 (hb:Bank w (seg s (fig b s.l X) :: L)) (hsl:s.l≤1000000) (hb2:2≤b) (hb62:b≤62) (hX0:X≠0) (hX:X<b^s.l) {e:Env} {K0:Kont} (ha:agree e (F41.l8 false 0 s.a s.l s.c))
  (q:∀ e' i,IsN b X (s.l-i)→i≤s.l→agree e' (F41.l5 false (i:Nat) s.a s.l s.c)→e'.defers=e.defers→K0 .normal e' w) :
  W Tryz.prog 176 F41.p9 e w K0:=by
 have hS:SegAt w s (fig b s.l X):=hb.head
 have hlc:=hS.lc
 rw [F41.q9]
 refine W_for' (σ:=Nat) (fun i=>F41.l8 false (i:Nat) s.a s.l s.c) (fun i w'=>w'=w∧i≤s.l∧X<b^(s.l-i)) (fun i=>s.l-i) 0 ⟨ha.1,ha.2.1,ha.2.2.1,trivial⟩ ⟨rfl,Nat.zero_le _,hX⟩ ?_
 rintro i B1 w1 K1 ⟨rfl,hi,hXi⟩ hnext hexit -
 have hi2:i<s.l:=by
  rcases Nat.lt_or_ge i s.l with h | h
  ·exact h
  ·exfalso
   rw [show s.l-i=0 by omega,Nat.pow_zero] at hXi
   omega
 have hc:=hS.cs i hi2
 obtain ⟨d,hd⟩:∃ d,d=X/b^(s.l-1-i):=⟨_,rfl⟩
 have hdb:d<b:=by
  rw [hd,Nat.div_lt_iff_lt_mul (Nat.pow_pos (by omega)),Nat.mul_comm,←Nat.pow_succ,show (s.l-1-i).succ=s.l-i by omega]; exact hXi
 have hf:fgs b X (s.l-1-i)=chr d:=by
  unfold fgs
  rw [←hd,Nat.mod_eq_of_lt hdb]
 have hc2:w1.cell? ⟨s.b,s.o+i,none⟩=some (.int .u8 (chr d:Int)):=by rw [hc]; unfold fig; rw [hf]
 refine F41.t8 false (i:Nat) s.a s.l s.c ⟨rfl,rfl,rfl,trivial⟩ fun B2=>⟨s.b,s.o,hS.toSt.wt.at_ (by omega),i,rfl,hi2,_,hc2,bc_intro (fun h=>?_) (fun h=>?_)⟩
 ·have hd0:d=0:=chr_48 (by have:=eqE h; omega) (by omega)
  refine ⟨by unfold inI64; omega,fun B3=>hnext _ _ (i+1) ⟨rfl,intv (by omega),rfl,trivial⟩ rfl ⟨rfl,by omega,?_⟩ (by omega)⟩
  rw [hd0] at hd
  have h1:=(Nat.div_eq_zero_iff_lt (Nat.pow_pos (n:=s.l-1-i) (show 0<b by omega))).1 hd.symm
  rw [show s.l-(i+1)=s.l-1-i by omega]; exact h1
 ·have hd0:d≠0:=fun h0=>by
   subst h0
   exact eqN h rfl
  intro B3
  refine hexit _ _ (q _ i ⟨hXi,by omega,fun _=>?_⟩ (by omega) ⟨rfl,rfl,rfl,trivial⟩ rfl)
  rw [show s.l-i-1=s.l-1-i by omega]
  rcases Nat.lt_or_ge X (b^(s.l-1-i)) with h1 | h1
  ·exact absurd (hd.trans (Nat.div_eq_of_lt h1)) hd0
  ·exact h1
theorem madeSeg (h:Bank w L) (hg:GB≤w.heap.size) (n:Nat) (hn:n≤281474976710656) :
  Bank (w.alloc (.cells (madeCells #[(Value.int IntKind.u8 0)] n) 5)) (seg ⟨some ⟨w.heap.size,0,none⟩,n,n,w.heap.size,0⟩ (fun _=>.int .u8 0) :: L)∧Chg w (w.alloc (.cells (madeCells #[(Value.int IntKind.u8 0)] n) 5)) none2:=by
 have hh:(w.alloc (.cells (madeCells #[(Value.int IntKind.u8 0)] n) 5)).heap[w.heap.size]?=some (.cells (madeCells #[(Value.int IntKind.u8 0)] n) 5 (0,0)):=heap_alloc_new ..
 have hc:Chg w (w.alloc (.cells (madeCells #[(Value.int IntKind.u8 0)] n) 5)) none2:=Chg.alloc _ _ (fun a=>RowKit.frozen?_alloc_cells _ _ _ _) _
 have hcell:∀ i,i<n→(w.alloc (.cells (madeCells #[(Value.int IntKind.u8 0)] n) 5)).cell? ⟨w.heap.size,0+i,none⟩=some (.int .u8 0):=fun i hi=>by
  rw [cell_eq,hh]
  show (madeCells #[(Value.int IntKind.u8 0)] n)[0+i]?=_
  simp [madeCells,hi,Nat.mod_one]
 refine ⟨h.new hc ⟨⟨Nat.le_refl _,fun _=>rfl,fun i hi=>⟨⟨_,hcell i hi⟩,by rw [frozen_eq,hh]; simp⟩,fun _=>⟨hg,_,_,hh⟩,by show n≤_; omega,by simp; omega⟩,hcell⟩ fun _ _ hm=>Nat.le_of_eq hm.1.symm,hc⟩
theorem fin5 {g:Nat→Value} {i:Nat} (hb:Bank w (seg s g :: L)) (hi:i≤s.l) (hd:Done b X s i g) {e:Env} {K0:Kont} (ha:agree e (F41.l5 false i s.a s.l s.c))
  (q:∀ e' (r:Sl),r.l=s.l-i→Bank w (seg r (fun j=>.int .u8 (fgs b X (s.l-i-1-j):Int)) :: L)→e'.get 6=r.v→e'.defers=e.defers→K0 .ret e' w):W Tryz.prog 176 F41.p5 e w K0:=by
 refine F41.t5 false i s.a s.l s.c ha fun B1=>bc_false rfl fun B2=>F41.t10 i s.a s.l s.c ⟨rfl,rfl,trivial⟩ fun B3=>⟨i,rfl,hi,fun B4=>q _ (s.sub i s.l) rfl ?_ rfl rfl⟩
 refine (hb.segSplit hi).tail.segCongr fun j hj=>?_
 have hj:j<s.l-i:=hj
 show _=g (i+j)
 rw [hd (i+j) (by omega) (by omega)]
 unfold fig
 rw [show s.l-1-(i+j)=s.l-i-1-j by omega]
end
theorem nearest_f {n:Nat} (h1:1≤n) (h2:n<32768):floatOfInt .f64 (n:Int)=fbits n:=by
 have h:=(fbits_read h1 h2).1
 show FloatKind.encode .f64 (.number (decide ((n:Int)<0)) (n:Int).natAbs 0)=_
 rw [decF (by omega),Int.natAbs_natCast]
 exact h
theorem room {b X z n J:Nat} (hb2:2≤b) (hbl:blen X≤16640) (hJ:4503599627370496≤n)
  (hl:(∃ p q p' q',p*q'=p'*q+1∧2^p'≤b^q'∧16700≤q+q'∧n*q≤p*2^J)∨∃ s,b=2^s∧n=s*2^J)
  (hz:∀ t,t*n≤blen X*2^J→t≤z):X<b^(z+1):=by
 have hXb:X<2^blen X:=blen_lt X
 rcases hl with ⟨p,q,p',q',h1,h2,h3,h4⟩ | ⟨s,rfl,rfl⟩
 ·rcases Nat.lt_or_ge X (b^(z+1)) with h | h
  ·exact h
  ·exfalso
   have hlt:b^(z+1)<2^blen X:=Nat.lt_of_le_of_lt h hXb
   have hz1:z+1<blen X:=by
    have h5:2^(z+1)≤b^(z+1):=Nat.pow_le_pow_left hb2 _
    exact (Nat.pow_lt_pow_iff_right (show 1<2 by omega)).1 (Nat.lt_of_le_of_lt h5 hlt)
   have h6:=dio h1 h2 hlt (by omega)
   have hq0:0<q:=by
    rcases Nat.eq_zero_or_pos q with h0 | h0
    ·subst h0
     rw [Nat.mul_zero,Nat.zero_add] at h1
     rw [Nat.mul_zero] at h6
     have h7:p≠0:=fun e=>by rw [e,Nat.zero_mul] at h1; omega
     have h8:=Nat.mul_pos (show 0<z+1 by omega) (Nat.pos_of_ne_zero h7)
     omega
    ·exact h0
   have h7:(z+1)*n≤blen X*2^J:=by
    refine Nat.le_of_mul_le_mul_right ?_ hq0
    calc (z+1)*n*q=(z+1)*(n*q):=Nat.mul_assoc ..
     _≤(z+1)*(p*2^J):=Nat.mul_le_mul_left _ h4
     _=(z+1)*p*2^J:=(Nat.mul_assoc ..).symm
     _≤blen X*q*2^J:=Nat.mul_le_mul_right _ h6
     _=blen X*2^J*q:=by rw [Nat.mul_assoc,Nat.mul_comm q,Nat.mul_assoc]
   have:=hz _ h7
   omega
 ·have hs:s≠0:=fun e=>by rw [e,Nat.pow_zero] at hb2; omega
  have h1:=hz (blen X/s) (by
   rw [←Nat.mul_assoc]
   exact Nat.mul_le_mul_right _ (Nat.div_mul_le_self _ _))
  refine Nat.lt_of_lt_of_le hXb ?_
  rw [←Nat.pow_mul]
  refine Nat.pow_le_pow_right (by omega) ?_
  have h2:=Nat.lt_mul_div_succ (blen X) (show 0<s by omega)
  have h3:s*(blen X/s+1)≤s*(z+1):=Nat.mul_le_mul_left _ (by omega)
  omega
end Go.Proofs.YtlkjiiibmfpbcaaGreatDoor
