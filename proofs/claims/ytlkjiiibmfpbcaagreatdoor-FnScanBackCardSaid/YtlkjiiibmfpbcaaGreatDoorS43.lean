/- The loop of nat.scan, for a base from 2 to 62: figure by figure. Conditions: the string is the figures of a number of at most 260 words. -/
import Derived.Test.YtlkjiiibmfpbcaaGreatDoorS21
import Derived.Test.YtlkjiiibmfpbcaaGreatDoorS41
import Derived.Test.YtlkjiiibmfpbcaaGreatDoorS42
import Derived.Test.YtlkjiiibmfpbcaaGreatDoorS22
import Derived.Test.YtlkjiiibmfpbcaaGreatDoorS35
namespace Go.Proofs.YtlkjiiibmfpbcaaGreatDoor
open Go
structure Sc (b X n N bn:Nat) (pw:Bool):Prop where
 b2:2≤b
 b62:b≤62
 isn:IsN b X n
 lt:X<BB^260
 nl:n≤1000000
 N1:1≤N
 N64:N≤64
 le:b^N≤BB
 yes:pw=true→bn=0∧b^N=BB∧b=2^(64/N)
 no:pw=false→bn=b^N∧b^N<BB
structure Zok (pw:Bool) (b X n N g:Nat) (z:Sl) (V:Nat):Prop where
 yes:pw=true→z.l=g∧∀ j,j<g→dg V j=pfx b X n ((j+1)*N)%BB
 no:pw=false→V=pfx b X n (g*N)∧∀ k,V<BB^k→z.l≤k
def zit (pw:Bool) (b X n N g:Nat) (z:Sl):Item where
 fp:=fp z
 P w:=∃ V,Nt w z V∧Zok pw b X n N g z V
 keep h hc hd:=by
  obtain ⟨V,h1,h2⟩:=h
  exact ⟨V,hc.nt h1 fun i hi hS=>hd _ _ ⟨rfl,by omega,by have:=h1.lc; omega⟩ hS,h2⟩
 old h hf:=by
  obtain ⟨V,h1,h2⟩:=h
  have h3:=hf.2.1
  have h4:=hf.2.2
  rw [hf.1]; exact h1.toSt.blk (by omega)
section
variable {w:World} {z:Sl} {b X n N bn k:Nat} {pw:Bool} {L:List Item}
theorem step8 {r:Value} {cnt prev gr i:Int} {d:Nat} (hd:d<b) (hb2:2≤b) (hb62:b≤62) {e:Env} {K0:Kont}
  (ha:agree e (F95.l8 z.a z.l z.c r b false b cnt .nilIface prev false (chr d:Nat) 0 b bn N gr i (-1)))
  (h:∀ e',agree e' (F95.l15 z.a z.l z.c r b false b cnt .nilIface prev false 0 b bn N gr i (-1) (d:Nat))→e'.defers=e.defers→W Tryz.prog 274 F95.p15 e' w (thenW Tryz.prog 274 F95.p12 (blockK 3 K0))) :
  W Tryz.prog 274 F95.p8 e w K0:=by
 have wu:∀ x:Nat,x<256→IntKind.wrap .u64 (x:Int)=(x:Int):=fun x hx=>wrapN x (by omega)
 have w8:∀ x y:Nat,y≤x→x<256→IntKind.wrap .u8 ((x:Int)-(y:Int))=((x-y:Nat):Int):=fun x y h1 h2=>by
  rw [show ((x:Int)-(y:Int))=((x-y:Nat):Int) by omega]
  exact wrapU8 _ (by omega)
 have w9:∀ x y:Nat,x+y<256→IntKind.wrap .u8 ((x:Int)+(y:Int))=((x+y:Nat):Int):=fun x y h1=>by
  rw [show ((x:Int)+(y:Int))=((x+y:Nat):Int) by omega]
  exact wrapU8 _ (by omega)
 obtain ⟨c,hc⟩:∃ c,c=chr d:=⟨_,rfl⟩
 rw [←hc] at ha
 refine F95.t8 z.a z.l z.c r b false b cnt .nilIface prev false (c:Nat) 0 b bn N gr i (-1) ha fun B1=>⟨w,true,en_nil w,bc_true rfl ?_⟩
 unfold chr at hc
 by_cases h1:d<10
 ·rw [if_pos h1] at hc
  refine bc_false (eqF (by omega)) (bc_false (eqF (by omega)) (bc_true (decT (by omega)) (bc_true (decT (by omega)) fun B2=>h _ ⟨rfl,rfl,rfl,rfl,rfl,rfl,rfl,rfl,rfl,rfl,rfl,rfl,rfl,rfl,rfl,rfl,intv ?_,trivial⟩ rfl)))
  have e1:=w8 c 48 (by omega) (by omega)
  rw [show ((48:Nat):Int)=48 from rfl] at e1
  rw [e1,wu _ (by omega)]; omega
 ·rw [if_neg h1] at hc
  by_cases h2:d<36
  ·rw [if_pos h2] at hc
   refine bc_false (eqF (by omega)) (bc_false (eqF (by omega)) (bc_true (decT (by omega)) (bc_false (decF (by omega)) (bc_true (decT (by omega)) (bc_true (decT (by omega)) fun B2=>h _ ⟨rfl,rfl,rfl,rfl,rfl,rfl,rfl,rfl,rfl,rfl,rfl,rfl,rfl,rfl,rfl,rfl,intv ?_,trivial⟩ rfl)))))
   have e1:=w8 c 97 (by omega) (by omega)
   rw [show ((97:Nat):Int)=97 from rfl] at e1
   have e2:=w9 (c-97) 10 (by omega)
   rw [show ((10:Nat):Int)=10 from rfl] at e2
   rw [e1,e2,wu _ (by omega)]; omega
  ·rw [if_neg h2] at hc
   refine bc_false (eqF (by omega)) (bc_false (eqF (by omega)) (bc_true (decT (by omega)) (bc_false (decF (by omega)) (bc_false (decF (by omega)) (bc_true (decT (by omega)) (bc_true (decT (by omega)) (bc_false (decF (by omega)) fun B2=>h _ ⟨rfl,rfl,rfl,rfl,rfl,rfl,rfl,rfl,rfl,rfl,rfl,rfl,rfl,rfl,rfl,rfl,intv ?_,trivial⟩ rfl)))))))
   have e1:=w8 c 65 (by omega) (by omega)
   rw [show ((65:Nat):Int)=65 from rfl] at e1
   have e2:=w9 (c-65) 36 (by omega)
   rw [show ((36:Nat):Int)=36 from rfl] at e2
   rw [e1,e2,wu _ (by omega)]; omega
theorem step15 (S:Sc b X n N bn pw) (hk:k<n) (hb:Bank w (zit pw b X n N (k/N) z :: L)) (hG:GB≤w.heap.size) {r err:Value} {prev:Int} {e:Env} {K0:Kont}
  (ha:agree e (F95.l15 z.a z.l z.c r b false b (k:Nat) err prev false 0 b bn N (grp b X n N k:Nat) (k%N:Nat) (-1) (fg b X n k:Nat)))
  (q:∀ e' z' w',Bank w' (zit pw b X n N ((k+1)/N) z' :: L)→From w z z'→Chg w w' (fp z)→agree e' (F95.l12 z'.a z'.l z'.c r b false b (k+1:Nat) 48 false 0 b bn N (grp b X n N (k+1):Nat) ((k+1)%N:Nat) (-1))→e'.defers=e.defers→K0 .normal e' w') :
  W Tryz.prog 274 F95.p15 e w K0:=by
 have hb2:=S.b2
 have hnl:=S.nl
 have hdb:fg b X n k<b:=Nat.mod_lt _ (by omega)
 have hmod:=Nat.mod_lt k S.N1
 have hN64:=S.N64
 have hstep:=grp_step (b:=b) (X:=X) (N:=N) (by omega) hk
 have hle:b^(k%N+1)≤BB:=Nat.le_trans (Nat.pow_le_pow_right (by omega) (by omega)) S.le
 have hD:grp b X n N k*b+fg b X n k<BB:=by
  rw [hstep]
  exact Nat.lt_of_lt_of_le (Nat.mod_lt _ (Nat.pow_pos (by omega))) hle
 have hBB:BB=18446744073709551616:=rfl
 have ed:IntKind.wrap .u64 (IntKind.wrap .u64 ((grp b X n N k:Nat)*(b:Int))+(fg b X n k:Nat))=((grp b X n N k*b+fg b X n k:Nat):Int):=by
  rw [show ((grp b X n N k:Nat):Int)*(b:Int)=((grp b X n N k*b:Nat):Int) by rw [Int.natCast_mul],wrapN _ (by omega),show ((grp b X n N k*b:Nat):Int)+(fg b X n k:Nat)=((grp b X n N k*b+fg b X n k:Nat):Int) by omega]
  exact wrapN _ (by omega)
 refine F95.t15 z.a z.l z.c r b false b (k:Nat) err prev false 0 b bn N (grp b X n N k:Nat) (k%N:Nat) (-1) (fg b X n k:Nat) ha fun B1=>bc_false (decF (by omega)) ⟨by unfold inI64; omega,by unfold inI64; omega,bc_intro (fun hf=>?_) (fun hf=>?_)⟩
 ·have hf:k%N+1=N:=by have:=eqE hf; omega
  obtain ⟨m1,m2⟩:=(mod_step S.N1).1 hf
  have hfull:=grp_full (b:=b) (X:=X) (by omega) S.N1 hk hf
  have hkN:k+1=(k/N+1)*N:=by
   have h1:=Nat.div_add_mod k N
   rw [Nat.add_mul,Nat.one_mul,Nat.mul_comm]; omega
  have hg0:grp b X n N (k+1)=0:=by unfold grp; rw [m1,Nat.pow_zero,Nat.mod_one]
  rw [ed]
  obtain ⟨D,hDe⟩:∃ D,D=grp b X n N k*b+fg b X n k:=⟨_,rfl⟩
  rw [←hDe] at hD hfull hstep ⊢
  obtain ⟨V,hV,hZ⟩:=hb.head
  cases hp:pw with
  | true =>
   obtain ⟨hbn,hBN,_⟩:=S.yes hp
   obtain ⟨zl,zd⟩:=hZ.yes hp
   have hkd:k/N≤k:=Nat.div_le_self _ _
   have b0:Bank w (num z V :: L):=hb.map1 hV fun _ _ h=>h
   have c1:Chg w (w.alloc (.cells #[(.int .u64 (D:Int):Value)] 61)) none2:=Chg.alloc _ _ (fun a=>RowKit.frozen?_alloc_cells _ _ _ _) _
   have hh:(w.alloc (.cells #[(.int .u64 (D:Int):Value)] 61)).heap[w.heap.size]?=some (.cells #[.int .u64 (D:Int)] 61 (0,0)):=heap_alloc_new ..
   obtain ⟨r1,w2,hrun,hl1,b2,f1,c2⟩:=app_bank (b:=w.heap.size) (c0:=1) (b0.none c1) (by rw [cell_eq,hh]; rfl) hD (by omega)
   refine bc_true (by rw [hbn]; rfl) ⟨_,_,_,_,build1 cell45 w _ rfl,w2,_,_,_,hrun,fun B2=>?_⟩
   refine F95.t17 r1.a r1.l r1.c r b false b ((k:Nat)+1) 48 false 0 b bn N (-1) ⟨rfl,rfl,rfl,rfl,rfl,rfl,rfl,rfl,rfl,rfl,rfl,rfl,rfl,trivial⟩ fun B3 B4=>?_
   refine q _ r1 w2 ?_ (f1.later c1) ((c1.none _).trans' c2) ⟨rfl,rfl,rfl,rfl,rfl,intv (by omega),rfl,rfl,rfl,rfl,rfl,rfl,intv (by rw [hg0]; rfl),intv (by rw [m1]; rfl),rfl,trivial⟩ rfl
   rw [m2]
   have hN2:Nt w2 r1 (V+BB^z.l*D):=b2.head
   refine b2.map1 ⟨_,hN2,fun _=>⟨by omega,fun j hj=>?_⟩,fun h=>by rw [hp] at h; cases h⟩ fun _ _ h=>h
   by_cases hj2:j<k/N
   ·rw [dg_add_lo _ _ _ _ (by omega)]; exact zd j hj2
   ·obtain rfl:j=k/N:=by omega
    have:=dg_add_hi V D z.l 0 hV.lt
    rw [Nat.add_zero,zl,dg_self D hD] at this
    rw [zl,this,hstep,hf,hBN,←hkN]
  | false =>
   obtain ⟨hbn,hBN⟩:=S.no hp
   obtain ⟨zv,znm⟩:=hZ.no hp
   have hbn0:bn≠0:=by rw [hbn]; exact Nat.pos_iff_ne_zero.1 (Nat.pow_pos (by omega))
   have hlen:z.l≤260:=znm _ (Nat.lt_of_le_of_lt (by rw [zv]; exact pfx_le) S.lt)
   refine bc_false (eqF (by omega)) (ResE.pass (c117t z z V bn D w hV.toSt hV (Or.inr (Or.inr (Or.inr (Or.inr (Or.inr rfl))))) (by unfold Len; omega) (by omega) (by omega)) fun r1 w2 h1 f1 c1=>⟨_,_,_,rfl,fun B2=>?_⟩)
   refine F95.t17 r1.a r1.l r1.c r b false b ((k:Nat)+1) 48 false 0 b bn N (-1) ⟨rfl,rfl,rfl,rfl,rfl,rfl,rfl,rfl,rfl,rfl,rfl,rfl,rfl,trivial⟩ fun B3 B4=>?_
   refine q _ r1 w2 ?_ f1 c1 ⟨rfl,rfl,rfl,rfl,rfl,intv (by omega),rfl,rfl,rfl,rfl,rfl,rfl,intv (by rw [hg0]; rfl),intv (by rw [m1]; rfl),rfl,trivial⟩ rfl
   rw [m2]
   refine hb.res (z:=z) rfl f1 c1 (a':=zit pw b X n N (k/N+1) r1) ⟨_,h1.toNt,fun h=>(by rw [hp] at h; cases h),fun _=>⟨?_,h1.nm⟩⟩ rfl
   rw [zv,hbn,←hkN,hfull]
 ·have hf:k%N+1≠N:=fun h=>eqN hf (by omega)
  obtain ⟨m1,m2⟩:=(mod_step S.N1).2 hf
  intro B2
  refine q _ z w (by rw [m2]; exact hb) (From.self w z z.l) (Chg.refl _ _) ⟨rfl,rfl,rfl,rfl,rfl,intv (by omega),rfl,rfl,rfl,rfl,rfl,rfl,intv ?_,intv (by rw [m1]; omega),rfl,trivial⟩ rfl
  rw [ed,hstep]
  unfold grp
  rw [m1]
end
end Go.Proofs.YtlkjiiibmfpbcaaGreatDoor
namespace Go.Proofs.YtlkjiiibmfpbcaaGreatDoor
open Go
set_option maxRecDepth 100000
theorem equal_eof (w:World) (a:EofA):Sem.run Tryz.prog (Op.equal 95 (eof a) (eof a)) w=.ok true w:=by
 have ht:∀ w,(typeInfo a.u).run Tryz.prog w=.ok a.i w:=fun w=>by simp [typeInfo,a.h1]
 have hz:∀ w,(sizeOf a.e).run Tryz.prog w=.ok a.j.size w:=fun w=>by simp [sizeOf,typeInfo,a.h4]
 obtain ⟨d,he⟩:∃ d,∀ t x y,Op.equal t x y=Op.equalIn (d+1+1) t x y:=⟨9998,fun _ _ _=>rfl⟩
 rw [he]
 by_cases h0:a.j.size=0
 ·simp [eof,Op.equalIn,run_underlying Tryz.underlying95,run_underlying a.h3,ht,a.h2,hz,h0]
 ·simp [eof,Op.equalIn,run_underlying Tryz.underlying95,run_underlying a.h3,ht,a.h2,hz,h0,sameAddr]
theorem ee_eof (w:World) {o o2:Operand} (a:EofA):Sem.run Tryz.prog (do eqGuard .eql 95 o o2 (eof a) (eof a); Go.binOp .eql 95 (eof a) (eof a)) w=.ok (.bool true) w:=by
 have h:=equal_eof w a
 simp only [eof] at h ⊢
 simp [eqGuard,binOp,h]
theorem ne_eof (w:World) {o o2:Operand} (a:EofA):Sem.run Tryz.prog (do eqGuard .neq 95 o o2 (eof a) (eof a); Go.binOp .neq 95 (eof a) (eof a)) w=.ok (.bool false) w:=by
 have h:=equal_eof w a
 simp only [eof] at h ⊢
 simp [eqGuard,binOp,h]
section
variable {w:World} {z:Sl} {b X n N bn p:Nat} {pw:Bool} {str:ByteArray} {L:List Item} {a:EofA}
theorem fresh_from {w0 w1:World} {z r:Sl} (h:From w1 z r) (hz:z.c≠0→w0.heap.size≤z.b) (hs:w0.heap.size≤w1.heap.size):r.c≠0→w0.heap.size≤r.b:=fun hr=>by
 rcases h with ⟨_,e2,e3,_⟩ | h
 ·rw [e3]; exact hz (by rw [←e2]; exact hr)
 ·omega
theorem loop9 {w0:World} (S:Sc b X n N bn pw) (hs:StrOf b X n str) (hb:Bank w (zit pw b X n N 0 z :: rdr p str 1 :: L)) (hz:z.c≠0→w0.heap.size≤z.b) (hc:Chg w0 w (blk p)) (hE:w0.cell? ⟨0,0,none⟩=some (eof a)) (hG:GB≤w0.heap.size) {e:Env} {K0:Kont}
  (ha:agree e (F95.l8 z.a z.l z.c (rif p) b false b 0 .nilIface 46 false (chr (fg b X n 0):Nat) 0 b bn N 0 0 (-1)))
  (q:∀ e' z' w',Bank w' (zit pw b X n N (n/N) z' :: rdr p str n :: L)→(z'.c≠0→w0.heap.size≤z'.b)→Chg w0 w' (blk p)→agree e' (F95.l7 z'.a z'.l z'.c b (n:Nat) (eof a) 48 false 0 b bn N (grp b X n N n:Nat) (n%N:Nat) (-1))→e'.defers=e.defers→K0 .normal e' w') :
  W Tryz.prog 274 F95.p9 e w K0:=by
 have hn1:=S.isn.2.1
 have hnl:=S.nl
 have hb2:=S.b2
 have hb62:=S.b62
 rw [F95.q9]
 refine W_for' (σ:=Nat × Sl) (fun s=>F95.l8 s.2.a s.2.l s.2.c (rif p) b false b (s.1:Nat) (if s.1<n then .nilIface else eof a) (if s.1=0 then 46 else 48) false (if s.1<n then (chr (fg b X n s.1):Int) else 0) 0 b bn N (grp b X n N s.1:Nat) (s.1%N:Nat) (-1))
  (fun s w'=>s.1≤n∧Chg w0 w' (blk p)∧(s.2.c≠0→w0.heap.size≤s.2.b)∧Bank w' (zit pw b X n N (s.1/N) s.2 :: rdr p str (if s.1<n then s.1+1 else n) :: L)) (fun s=>n-s.1) (0,z) ?_ ?_ ?_
 ·have h0:0<n:=by omega
  have hg0:grp b X n N 0=0:=by unfold grp; rw [Nat.zero_mod,Nat.pow_zero,Nat.mod_one]
  obtain ⟨a1,a2,a3,a4,a5,a6,a7,a8,a9,a10,a11,a12,a13,a14,a15,a16,a17,_⟩:=ha
  refine ⟨a1,a2,a3,a4,a5,a6,?_,a8,a9,?_,a11,a12,a13,a14,?_,?_,a17,trivial⟩
  ·show _=(if 0<n then Value.nilIface else eof a)
   rw [if_pos h0]; exact a7
  ·show _=Value.int .u8 (if 0<n then (chr (fg b X n 0):Int) else 0)
   rw [if_pos h0]; exact a10
  ·show _=Value.int .u64 (grp b X n N 0:Nat)
   rw [hg0]; exact a15
  ·show _=Value.int .i64 (0%N:Nat)
   rw [Nat.zero_mod]; exact a16
 ·refine ⟨by show 0≤n; omega,hc,hz,?_⟩
  show Bank w (zit pw b X n N (0/N) z :: rdr p str (if 0<n then 0+1 else n) :: L)
  rw [Nat.zero_div,if_pos (by omega)]; exact hb
 rintro ⟨k,z1⟩ B1 w1 K1 ⟨hk,c1,hz1,b1⟩ hnext hexit -
 simp only at hk c1 hz1 b1
 by_cases hkn:k<n
 ·rw [if_pos hkn] at b1
  refine step8 (bn:=bn) (N:=N) (cnt:=(k:Nat)) (gr:=(grp b X n N k:Nat)) (i:=(k%N:Nat)) (d:=fg b X n k) (prev:=if k=0 then 46 else 48) (r:=rif p) (z:=z1) (Nat.mod_lt _ (by omega)) hb2 hb62 ?_ fun e1 ha1 hd1=>?_
  ·refine ⟨rfl,rfl,rfl,rfl,rfl,rfl,?_,rfl,rfl,?_,rfl,rfl,rfl,rfl,rfl,rfl,rfl,trivial⟩
   ·show (if k<n then Value.nilIface else eof a)=_
    rw [if_pos hkn]
   ·show Value.int .u8 (if k<n then (chr (fg b X n k):Int) else 0)=_
    rw [if_pos hkn]
  ·have hG1:GB≤w1.heap.size:=Nat.le_trans hG c1.size
   refine step15 S hkn b1 hG1 ha1 fun e2 z2 w2 b2 f2 c2 ha2 hd2=>?_
   show W Tryz.prog 274 F95.p12 e2 w2 _
   have hz2:=fresh_from f2 hz1 c1.size
   have c02:Chg w0 w2 (blk p):=c1.trans c2 (fun _ _ _ h=>h) fun x i hx hm=>by
    have:=hz1 (by have:=hm.2.1; have:=hm.2.2; omega)
    have:=hm.1
    omega
   have b3:Bank w2 (rdr p str (k+1) :: zit pw b X n N ((k+1)/N) z2 :: L):=b2.pick 2 [1,0] rfl
   have hsz:=hs.size
   refine F95.t12 z2.a z2.l z2.c (rif p) b false b (k+1:Nat) 48 false 0 b bn N (grp b X n N (k+1):Nat) ((k+1)%N:Nat) (-1) ha2 fun B3=>⟨203,_,rbI w2 p,c203 b3 (by omega) (by omega) (chgVar c02 hE (by decide)) (fun c w3 hcc b4 c4=>⟨_,trivial,_,trivial,rfl,fun B4=>?_⟩) fun w3 hkk b4 c4=>⟨_,trivial,_,trivial,rfl,fun B4=>?_⟩⟩
   ·have hk1:k+1<n:=by
     rcases Nat.lt_or_ge (k+1) n with h | h
     ·exact h
     ·exfalso
      have:str[k+1]?=none:=by rw [getElem?_neg]; omega
      rw [this] at hcc; cases hcc
    obtain ⟨c',h1,h2⟩:=hs.at_ (k+1) hk1
    rw [hcc] at h1
    obtain rfl:=Option.some.inj h1
    show K1 .normal _ w3
    refine hnext _ _ (k+1,z2) ⟨rfl,rfl,rfl,rfl,rfl,rfl,?_,?_,rfl,?_,rfl,rfl,rfl,rfl,rfl,rfl,rfl,trivial⟩ (hd2.trans hd1) ⟨by show k+1≤n; omega,c02.trans' c4,hz2,?_⟩ (by show n-(k+1)<n-k; omega)
    ·show Value.nilIface=(if k+1<n then Value.nilIface else eof a)
     rw [if_pos hk1]
    ·show Value.int .i32 48=Value.int .i32 (if k+1=0 then 46 else 48)
     rw [if_neg (by omega)]
    ·show Value.int .u8 (c.toNat:Int)=Value.int .u8 (if k+1<n then (chr (fg b X n (k+1)):Int) else 0)
     rw [if_pos hk1,h2]
    ·show Bank w3 (zit pw b X n N ((k+1)/N) z2 :: rdr p str (if k+1<n then k+1+1 else n) :: L)
     rw [if_pos hk1]
     exact b4.pick 2 [1,0] rfl
   ·have hk1:k+1=n:=by omega
    show K1 .normal _ w3
    refine hnext _ _ (k+1,z2) ⟨rfl,rfl,rfl,rfl,rfl,rfl,?_,?_,rfl,?_,rfl,rfl,rfl,rfl,rfl,rfl,rfl,trivial⟩ (hd2.trans hd1) ⟨by show k+1≤n; omega,c02.trans' c4,hz2,?_⟩ (by show n-(k+1)<n-k; omega)
    ·show eof a=(if k+1<n then Value.nilIface else eof a)
     rw [if_neg (by omega)]
    ·show Value.int .i32 48=Value.int .i32 (if k+1=0 then 46 else 48)
     rw [if_neg (by omega)]
    ·show Value.int .u8 0=Value.int .u8 (if k+1<n then (chr (fg b X n (k+1)):Int) else 0)
     rw [if_neg (by omega)]
    ·show Bank w3 (zit pw b X n N ((k+1)/N) z2 :: rdr p str (if k+1<n then k+1+1 else n) :: L)
     rw [if_neg (by omega)]
     have er:rdr p str (k+1)=rdr p str n:=by rw [hk1]
     rw [er] at b4
     exact b4.pick 2 [1,0] rfl
 ·obtain rfl:k=n:=by omega
  rw [if_neg hkn] at b1
  refine F95.t8 z1.a z1.l z1.c (rif p) b false b (k:Nat) (eof a) 48 false 0 0 b bn N (grp b X k N k:Nat) (k%N:Nat) (-1) ⟨rfl,rfl,rfl,rfl,rfl,rfl,?_,?_,rfl,?_,rfl,rfl,rfl,rfl,rfl,rfl,rfl,trivial⟩ fun B2=>⟨w1,false,en_eof w1 a,bc_false rfl fun B3=>hexit _ _ (q _ z1 w1 b1 hz1 c1 ⟨rfl,rfl,rfl,rfl,rfl,rfl,rfl,rfl,rfl,rfl,rfl,rfl,rfl,trivial⟩ rfl)⟩
  ·show (if k<k then Value.nilIface else eof a)=_
   rw [if_neg hkn]
  ·show Value.int .i32 (if k=0 then 46 else 48)=_
   rw [if_neg (by omega)]
  ·show Value.int .u8 (if k<k then (chr (fg b X k k):Int) else 0)=_
   rw [if_neg hkn]
end
end Go.Proofs.YtlkjiiibmfpbcaaGreatDoor
namespace Go.Proofs.YtlkjiiibmfpbcaaGreatDoor
open Go
theorem ret4 {t u v x:Nat} {e:Env} {w:World} {R:Value→World→Prop} {a b c d:Value} (hd:e.defers=[]) (h1:e.get t=a) (h2:e.get u=b) (h3:e.get v=c) (h4:e.get x=d) (h:R (.tuple #[a,b,c,d]) w) :
  retK Tryz.prog [.tmp t,.tmp u,.tmp v,.tmp x] R .ret e w:=by
 simp only [retK,hd,runD,resOne,resV,h1,h2,h3,h4]; exact h
theorem dg_ext {A B:Nat}:∀ g,A<BB^g→B<BB^g→(∀ j,j<g→dg A j=dg B j)→A=B
 | 0,h1,h2,_=>by rw [Nat.pow_zero] at h1 h2; omega
 | g+1,h1,h2,h=>by
  have e1:=mod_succ A g
  have e2:=mod_succ B g
  rw [Nat.mod_eq_of_lt h1] at e1
  rw [Nat.mod_eq_of_lt h2] at e2
  have:=dg_ext g (Nat.mod_lt A (BBpow_pos g)) (Nat.mod_lt B (BBpow_pos g)) fun j hj=>by rw [dg_mod _ _ _ hj,dg_mod _ _ _ hj]; exact h j (by omega)
  rw [e1,e2,this,h g (by omega)]
section
variable {b X n N g i V V':Nat}
theorem turn0 (hBN:b^N=BB) (hg:g*N=n) (hX:X<b^n) (hd:∀ j,j<g→dg V j=pfx b X n ((j+1)*N)%BB) (hV':V'<BB^g) (hr:∀ j,j<g→dg V' j=dg V (g-1-j)):V'=X:=by
 refine dg_ext g hV' (by rw [←hBN,←Nat.pow_mul,Nat.mul_comm,hg]; exact hX) fun j hj=>?_
 rw [hr j hj,hd _ (by omega)]
 unfold pfx dg
 have e:n-(g-1-j+1)*N=N*j:=by
  rw [←hg,←Nat.sub_mul,show g-(g-1-j+1)=j by omega,Nat.mul_comm]
 rw [e,Nat.pow_mul,hBN]
theorem turn1 (hb:0<b) (hBN:b^N=BB) (hg:g*N+i=n) (hi:i<N) (hX:X<b^n) (hd:∀ j,j<g→dg V j=pfx b X n ((j+1)*N)%BB) (hdg:dg V g=X%b^i*b^(N-i)) (hV':V'<BB^(g+1)) (hr:∀ j,j<g+1→dg V' j=dg V (g-j)):V'=X*b^(N-i):=by
 have hP:0<b^(N-i):=Nat.pow_pos hb
 refine dg_ext (g+1) hV' ?_ fun j hj=>?_
 ·have h1:X*b^(N-i)<b^n*b^(N-i):=Nat.mul_lt_mul_of_pos_right hX hP
  rw [←Nat.pow_add,show n+(N-i)=N*(g+1) by rw [Nat.mul_add,Nat.mul_comm N g]; omega,Nat.pow_mul,hBN] at h1
  exact h1
 ·rw [hr j hj]
  cases j with
  | zero =>
   rw [Nat.sub_zero,hdg]
   unfold dg
   rw [Nat.pow_zero,Nat.div_one,←hBN,show b^N=b^i*b^(N-i) by rw [←Nat.pow_add,show i+(N-i)=N by omega],Nat.mul_mod_mul_right]
  | succ j =>
   rw [hd _ (by omega)]
   unfold pfx dg
   have hm:(g-(j+1)+1)*N+j*N=g*N:=by rw [←Nat.add_mul,show g-(j+1)+1+j=g by omega]
   have e:n-(g-(j+1)+1)*N=i+j*N:=by omega
   have e2:BB^(j+1)=b^(i+j*N)*b^(N-i):=by
    rw [←hBN,←Nat.pow_mul,←Nat.pow_add,show i+j*N+(N-i)=N*(j+1) by rw [Nat.mul_add,Nat.mul_comm N j]; omega]
   rw [e,e2,Nat.mul_div_mul_right _ _ hP]
end
section
variable {w w0:World} {z:Sl} {b X n N bn:Nat} {pw:Bool} {L:List Item} {T:Set2}
theorem end19 {R:Value→World→Prop} {e:Env} {cnt:Int} (hd:e.defers=[]) (ha:agree e (F95.l19 z.a z.l z.c b cnt .nilIface (-1))) (h:R (.tuple #[z.v,.int .i64 (b:Int),.int .i64 cnt,.nilIface]) w) :
  W Tryz.prog 274 F95.p19 e w (retK Tryz.prog [.tmp 8,.tmp 9,.tmp 10,.tmp 11] R) :=
 F95.t19 z.a z.l z.c b cnt .nilIface (-1) ha fun B1=>bc_false (decF (by omega)) fun B2=>F95.t21 z.a z.l z.c b cnt .nilIface ⟨rfl,rfl,rfl,rfl,trivial⟩ fun B3 B4=>ret4 hd rfl rfl rfl rfl h
theorem new_chg {w1 w2:World} (h:Chg w0 w1 T) (hz:z.c≠0→w0.heap.size≤z.b) (c:Chg w1 w2 (fp z)):Chg w0 w2 T:=h.trans c (fun _ _ _ h=>h) fun x i hx hm=>by
 have:=hz (by have:=hm.2.1; have:=hm.2.2; omega)
 have:=hm.1
 omega
theorem end18 (S:Sc b X n N bn pw) (hb:Bank w (zit pw b X n N (n/N) z :: L)) (hz:z.c≠0→w0.heap.size≤z.b) (hc:Chg w0 w T) (hG:GB≤w0.heap.size) {e:Env} {R:Value→World→Prop} (hd:e.defers=[])
  (ha:agree e (F95.l18 z.a z.l z.c b (n:Nat) .nilIface b bn N (grp b X n N n:Nat) (n%N:Nat) (-1)))
  (q:∀ (r:Sl) w',Bank w' (nmz r X :: L)→(r.c≠0→w0.heap.size≤r.b)→Chg w0 w' T→R (.tuple #[r.v,.int .i64 (b:Int),.int .i64 (n:Int),.nilIface]) w') :
  W Tryz.prog 274 F95.p18 e w (retK Tryz.prog [.tmp 8,.tmp 9,.tmp 10,.tmp 11] R):=by
 have hb2:=S.b2
 have hb62:=S.b62
 have hnl:=S.nl
 have hN64:=S.N64
 have hmod:=Nat.mod_lt n S.N1
 have hdm:=Nat.div_add_mod n N
 have hgn:n/N≤n:=Nat.div_le_self _ _
 have hBB:BB=18446744073709551616:=rfl
 have hgX:grp b X n N n=X%b^(n%N):=by unfold grp; rw [pfx_n]
 have hbp:∀ m,m≤N→b^m≤BB:=fun m hm=>Nat.le_trans (Nat.pow_le_pow_right (by omega) hm) S.le
 have hblt:∀ m,m<N→b^m<BB:=fun m hm=>Nat.lt_of_lt_of_le (Nat.pow_lt_pow_right (by omega) hm) S.le
 obtain ⟨V,hV,hZ⟩:=hb.head
 obtain ⟨i,hi⟩:∃ i,i=n%N:=⟨_,rfl⟩
 rw [←hi] at ha hmod hdm hgX
 refine F95.t18 z.a z.l z.c b (n:Nat) .nilIface b bn N (grp b X n N n:Nat) (i:Nat) (-1) ha fun B1=>?_
 cases hp:pw with
 | false =>
  obtain ⟨hbn,hBN⟩:=S.no hp
  obtain ⟨zv,znm⟩:=hZ.no hp
  have hbn0:bn≠0:=by rw [hbn]; exact Nat.pos_iff_ne_zero.1 (Nat.pow_pos (by omega))
  have hlen:z.l≤260:=znm _ (Nat.lt_of_le_of_lt (by rw [zv]; exact pfx_le) S.lt)
  refine bc_false (eqF (by omega)) (bc_intro (fun hi0=>?_) (fun hi0=>?_))
  ·have hi1:0<i:=by have:=dT hi0; omega
   have hpl:=hblt i hmod
   have hgl:grp b X n N n<BB:=by rw [hgX]; exact Nat.lt_trans (Nat.mod_lt _ (Nat.pow_pos (by omega))) hpl
   refine (c129 b i (by omega) (by omega) (by omega) w).mono ?_
   rintro e1 w1 ⟨rfl,rfl⟩
   refine ⟨_,rfl,ResE.pass (c117t z z V (b^i) (grp b X n N n) w1 hV.toSt hV (Or.inr (Or.inr (Or.inr (Or.inr (Or.inr rfl))))) (by unfold Len; omega) (by omega) (by omega)) fun r1 w2 h1 f1 c1=>⟨_,_,_,rfl,fun B2=>?_⟩⟩
   have hv:V*b^i+grp b X n N n=X:=by
    rw [zv,hgX]
    have h2:=pfx_back (b:=b) (X:=X) (n:=n) (k:=n) (i:=i) (by omega) (Nat.le_refl _)
    rw [pfx_n,show n-i=n/N*N by rw [Nat.mul_comm]; omega] at h2
    rw [←h2,Nat.mul_comm]
    exact Nat.div_add_mod _ _
   rw [hv] at h1
   refine end19 (z:=r1) hd ⟨rfl,rfl,rfl,rfl,rfl,trivial⟩ (q r1 w2 (hb.res (z:=z) rfl f1 c1 (a':=nmz r1 X) h1 rfl) (fresh_from f1 hz hc.size) (new_chg hc hz c1))
  ·have hi1:i=0:=by have:=dF hi0; omega
   intro B2
   have hv:V=X:=by
    rw [zv,show n/N*N=n by rw [Nat.mul_comm]; omega,pfx_n]
   refine end19 hd ⟨rfl,rfl,rfl,rfl,rfl,trivial⟩ (q z w (hb.map1 (a':=nmz z X) ?_ fun _ _ h=>h) hz hc)
   rw [←hv]
   exact { hV with nm:=znm }
 | true =>
  obtain ⟨hbn,hBN,hsh⟩:=S.yes hp
  obtain ⟨zl,zd⟩:=hZ.yes hp
  have b0:Bank w (num z V :: L):=hb.map1 hV fun _ _ h=>h
  have t20:∀ (B:Nat→Value) (z1:Sl) (V1:Nat) (w1:World),Bank w1 (num z1 V1 :: L)→(z1.c≠0→w0.heap.size≤z1.b)→Chg w0 w1 T→z1.l≤1000001→(∀ V',V'<BB^z1.l→(∀ j,j<z1.l→dg V' j=dg V1 (z1.l-1-j))→V'=if i=0 then X else X*b^(N-i)) →
    W Tryz.prog 274 F95.p20 (E [(0,.slice z1.a z1.l z1.c),(9,.int .i64 (b:Int)),(10,.int .i64 (n:Int)),(11,.nilIface),(19,.int .i64 (N:Int)),(21,.int .i64 (i:Int)),(22,.int .i64 (-1))] B e.defers) w1 (thenW Tryz.prog 274 F95.p19 (retK Tryz.prog [.tmp 8,.tmp 9,.tmp 10,.tmp 11] R)):=by
   intro B z1 V1 w1 b1 hz1 c1 hl1 hv
   refine F95.t20 z1.a z1.l z1.c b (n:Nat) .nilIface N (i:Nat) (-1) ⟨rfl,rfl,rfl,rfl,rfl,rfl,rfl,trivial⟩ fun B2=>c130 b1 (by omega) fun V' w2 b2 hV' c2=>⟨rfl,?_⟩
   have n2:Nt w2 z1 V':=b2.head
   have hve:=hv V' n2.lt hV'
   have c02:=new_chg c1 hz1 c2
   refine (c46 z1 V' w2 n2 (by omega)).mono ?_
   rintro e3 w3 ⟨_,rfl,k,hk,rfl,hw,n3⟩
   have hw:=hw.symm
   subst hw
   have b3:Bank w2 (nmz (z1.to k) V' :: L):=b2.map1 (a':=nmz (z1.to k) V') n3 fun _ _ h=>h
   refine ⟨_,_,_,rfl,bc_intro (fun hi0=>?_) (fun hi0 B4=>?_)⟩
   ·have hi1:0<i:=by have:=dT hi0; omega
    rw [if_neg (by omega)] at hve
    have eq1:iQuo .i64 64 (N:Int)=((64/N:Nat):Int):=iQuoI 64 N (by omega)
    have hq64:64/N≤64:=Nat.div_le_self _ _
    have hm64:(N-i)*(64/N)≤64*64:=Nat.mul_le_mul (by omega) hq64
    have es:IntKind.wrap .u64 (IntKind.wrap .u64 ((N:Int)-(i:Int))*IntKind.wrap .u64 (iQuo .i64 64 (N:Int)))=(((N-i)*(64/N):Nat):Int):=by
     rw [eq1,show ((N:Int)-(i:Int))=((N-i:Nat):Int) by omega,wrapN _ (by omega),wrapN _ (by omega),←Int.natCast_mul]
     exact wrapN _ (by omega)
    refine ⟨by unfold inI64; omega,by omega,?_⟩
    rw [es]
    refine ResE.pass (c109 (z1.to k) (z1.to k) V' ((N-i)*(64/N)) w2 n3.toSt n3 (Or.inr (Or.inr (Or.inr (Or.inr (Or.inr rfl))))) (by unfold Len; show k≤_; omega) (by omega)) fun r1 w4 h4 f4 c4=>⟨_,_,_,rfl,fun B4=>?_⟩
    have hx:V'/2^((N-i)*(64/N))=X:=by
     rw [hve,Nat.mul_comm (N-i),Nat.pow_mul,←hsh]
     exact Nat.mul_div_cancel _ (Nat.pow_pos (by omega))
    rw [hx] at h4
    have hz3:(z1.to k).c≠0→w0.heap.size≤(z1.to k).b:=hz1
    show W Tryz.prog 274 F95.p19 _ w4 _
    exact end19 (z:=r1) hd ⟨rfl,rfl,rfl,rfl,rfl,trivial⟩ (q r1 w4 (b3.res (z:=z1.to k) rfl f4 c4 (a':=nmz r1 X) h4 rfl) (fresh_from f4 hz3 c02.size) (new_chg c02 hz3 c4))
   ·have hi1:i=0:=by have:=dF hi0; omega
    rw [if_pos hi1] at hve
    rw [hve] at b3
    show W Tryz.prog 274 F95.p19 _ w2 _
    exact end19 (z:=z1.to k) hd ⟨rfl,rfl,rfl,rfl,rfl,trivial⟩ (q (z1.to k) w2 b3 hz1 c02)
  refine bc_true (by rw [hbn]; rfl) (bc_intro (fun hi0=>?_) (fun hi0 B2=>?_))
  ·have hi1:0<i:=by have:=dT hi0; omega
   have hni:((N:Int)-(i:Int))=((N-i:Nat):Int):=by omega
   refine ⟨by unfold inI64; omega,?_⟩
   rw [hni]
   have hpl:=hblt (N-i) (by omega)
   refine (c129 b (N-i) (by omega) (by omega) (by omega) w).mono ?_
   rintro e1 w1 ⟨rfl,hw⟩
   have hw:=hw.symm
   subst hw
   have hD:grp b X n N n*b^(N-i)<BB:=by
    rw [hgX]
    have h1:X%b^i*b^(N-i)<b^i*b^(N-i):=Nat.mul_lt_mul_of_pos_right (Nat.mod_lt _ (Nat.pow_pos (by omega))) (Nat.pow_pos (by omega))
    rw [←Nat.pow_add,show i+(N-i)=N by omega,hBN] at h1
    exact h1
   obtain ⟨D,hDe⟩:∃ D,D=grp b X n N n*b^(N-i):=⟨_,rfl⟩
   have ed:IntKind.wrap .u64 ((grp b X n N n:Nat)*((b^(N-i):Nat):Int))=(D:Int):=by
    rw [←Int.natCast_mul,←hDe]
    exact wrapN _ (by omega)
   refine ⟨_,rfl,?_⟩
   rw [ed]
   rw [←hDe] at hD
   have c1:Chg w (w.alloc (.cells #[(.int .u64 (D:Int):Value)] 61)) none2:=Chg.alloc _ _ (fun a=>RowKit.frozen?_alloc_cells _ _ _ _) _
   have hh:(w.alloc (.cells #[(.int .u64 (D:Int):Value)] 61)).heap[w.heap.size]?=some (.cells #[.int .u64 (D:Int)] 61 (0,0)):=heap_alloc_new ..
   obtain ⟨r1,w2,hrun,hl1,b2,f1,c2⟩:=app_bank (b:=w.heap.size) (c0:=1) (b0.none c1) (by rw [cell_eq,hh]; rfl) hD (by omega)
   refine ⟨_,_,_,_,build1 cell45 w _ rfl,w2,_,_,_,hrun,fun B2=>?_⟩
   have hz1:=fresh_from f1 hz (hc.trans' (c1.none _)).size
   refine t20 _ r1 _ w2 b2 hz1 (new_chg (hc.trans' (c1.none _)) hz c2) (by omega) fun V' hV' hr=>?_
   rw [if_neg (by omega)]
   have hVl:V<BB^z.l:=hV.lt
   rw [hl1,zl] at hV' hr
   rw [zl] at hVl
   refine turn1 (V:=V+BB^z.l*D) (g:=n/N) (by omega) hBN (by rw [Nat.mul_comm]; omega) hmod S.isn.1 (fun j hj=>?_) ?_ hV' fun j hj=>?_
   ·rw [zl,dg_add_lo _ _ _ _ hj]; exact zd j hj
   ·have:=dg_add_hi V D (n/N) 0 hVl
    rw [Nat.add_zero,dg_self D hD] at this
    rw [zl,this,hDe,hgX]
   ·have:=hr j hj
    rw [show n/N+1-1-j=n/N-j by omega] at this
    rw [zl]; exact this
  ·have hi1:i=0:=by have:=dF hi0; omega
   refine t20 _ z V w b0 hz hc (by omega) fun V' hV' hr=>?_
   rw [if_pos hi1]
   rw [zl] at hV' hr
   exact turn0 hBN (by rw [Nat.mul_comm]; omega) S.isn.1 zd hV' hr
end
end Go.Proofs.YtlkjiiibmfpbcaaGreatDoor
namespace Go.Proofs.YtlkjiiibmfpbcaaGreatDoor
open Go
structure IR where
 p:Nat
 ng:Bool
 s:Sl
 V:Nat
abbrev IR.h (X:IR):Item:=hdr X.p X.ng X.s
abbrev IR.n (X:IR):Item:=nmz X.s X.V
abbrev IR.v (X:IR):Int:=iv X.ng X.V
structure G (w0 w:World) (M:List Item):Prop where
 bank:Bank w M
 ch:Chg w0 w none2
 hg:Glb w0
section
variable {w0 w:World} {M:List Item}
theorem G.pick (g:G w0 w M) (n:Nat) (is:List Nat) (hk:okP n is=true):G w0 w (pk M is++dropL n M):=⟨g.bank.pick n is hk,g.ch,g.hg⟩
end
end Go.Proofs.YtlkjiiibmfpbcaaGreatDoor
namespace Go.Proofs.YtlkjiiibmfpbcaaGreatDoor
open Go
theorem app_bankT {t e:TypeId} (ht:Cell1 t e (.int .u64 0)) {w:World} {s:Sl} {V d b c0:Nat} {L:List Item} (h:Bank w (num s V :: L)) (hsrc:w.cell? ⟨b,0,none⟩=some (.int .u64 (d:Int))) (hd:d<BB) (hl:s.l≤1099511627776) :
  ∃ (r:Sl) (w':World),Sem.run Tryz.prog (builtin .append #[t,t] t #[false,false] #[s.v,.slice (some ⟨b,0,none⟩) 1 c0]) w=.ok (.value r.v) w'∧r.l=s.l+1∧Bank w' (num r (V+BB^s.l*d) :: L)∧From w s r∧Chg w w' (fp s):=by
 have hs:Nt w s V:=h.head
 obtain ⟨r,w',r1,r2,r3,r4,r5,_,r7⟩:=app1 ht s (.int .u64 (d:Int)) w hs.toSt ⟨b,0,none⟩ c0 hsrc rfl hl (fun i=>.int .u64 (dg V i:Int)) hs.sg
 refine ⟨r,w',r1,r2,h.res (a':=num r (V+BB^s.l*d)) rfl r5 r7 ?_ rfl,r5,r7⟩
 refine { r3 with sg:=fun i hi=>?_,lt:=?_ }
 ·rw [r4 i (by omega)]
  by_cases hi':i=s.l
  ·subst hi'
   rw [setF_self,show dg (V+BB^s.l*d) s.l=d by have:=dg_add_hi V d s.l 0 hs.lt; rw [Nat.add_zero] at this; rw [this,dg_self d hd]]
  ·rw [setF_ne _ _ hi',dg_add_lo _ _ _ _ (by omega)]
 ·rw [r2]
  exact dlt hs.lt hd
theorem push {t e:TypeId} (ht:Cell1 t e (.int .u64 0)) {w0 w:World} {out:Sl} {V X i:Nat} {M:List Item} (g:G w0 w (num out V :: M)) (hn:out.c≠0→w0.heap.size≤out.b) (hl:out.l=i) (hi:i≤1000000) (hV:V=X%BB^i) :
  ∃ (w1:World) (r:Sl) (w':World),Sem.run Tryz.prog (Instr.buildSlice t 1 #[(0,.int .u64 (dg X i:Int))]) w=.ok (.slice (some ⟨w.heap.size,0,none⟩) 1 1) w1∧Sem.run Tryz.prog (builtin .append #[t,t] t #[false,false] #[out.v,.slice (some ⟨w.heap.size,0,none⟩) 1 1]) w1=.ok (.value r.v) w' ∧
   r.l=i+1∧G w0 w' (num r (X%BB^(i+1)) :: M)∧(r.c≠0→w0.heap.size≤r.b):=by
 have hh:(w.alloc (.cells #[.int .u64 (dg X i:Int)] e)).heap[w.heap.size]?=some (.cells #[.int .u64 (dg X i:Int)] e (0,0)):=heap_alloc_new ..
 have c1:Chg w (w.alloc (.cells #[.int .u64 (dg X i:Int)] e)) none2:=Chg.alloc _ _ (fun a=>RowKit.frozen?_alloc_cells _ _ _ _) _
 have b1:=g.bank.none c1
 obtain ⟨r,w',r1,r2,r3,r4,r5⟩:=app_bankT ht (d:=dg X i) (b:=w.heap.size) (c0:=1) b1 (by rw [cell_eq,hh]; rfl) (dg_lt X i) (by omega)
 have hval:V+BB^out.l*dg X i=X%BB^(i+1):=by rw [hl,hV,mod_succ]
 rw [hval] at r3
 have cw:Chg w0 (w.alloc (.cells #[.int .u64 (dg X i:Int)] e)) none2:=g.ch.trans' c1
 refine ⟨_,r,w',build1 ht w _ rfl,r1,by omega,⟨r3,cw.trans r5 (fun _ _ _ h=>h) fun b i hb hm=>?_,g.hg⟩,fun h0=>?_⟩
 ·have:=hn (by have:=hm.2.1; have:=hm.2.2; omega)
  have:=hm.1; omega
 ·rcases r4 with ⟨_,e2,e3,_⟩ | hf
  ·rw [e3]; exact hn (by omega)
  ·exact Nat.le_trans cw.size hf
section
variable {w0 w:World} {M:List Item}
theorem G.none {w':World} (g:G w0 w M) (hc:Chg w w' none2):G w0 w' M:=⟨g.bank.none hc,g.ch.trans' hc,g.hg⟩
theorem G.addNil (g:G w0 w M):G w0 w (num (nilS w) 0 :: M):=⟨(g.bank.nilF (g.ch.glb g.hg).gb).weak,g.ch,g.hg⟩
theorem c18 {J:IR} (h:Bank w M) (h1:J.h∈M) (h2:J.n∈M) (hJ:J.ng=false) (h0:J.V≠0):Calls Tryz.prog 18 #[.pointer (ptr J.p)] w fun e w'=>e=.returned (.int .i64 1)∧w'=w:=by
 refine (F18.call (ptr J.p) w (fun v w'=>v=.int .i64 1∧w'=w) fun B=>?_).mono fun e w' ⟨v,h1,h2,h3⟩=>⟨by rw [h1,h2],h3⟩
 have H:HdrAt w J.p J.ng J.s:=h.all _ h1
 have z:Nz w J.s J.V:=h.all _ h2
 have hl:J.s.l≠0:=fun e=>h0 (Nz.zero z.toNt e)
 refine ⟨J.p,0,rfl,J.s.a,J.s.l,J.s.c,H.c1,bc_false (eqF (by omega)) ⟨J.p,0,rfl,J.ng,H.c0,?_⟩⟩
 rw [hJ]
 exact bc_false rfl fun B2=>ret1 rfl rfl ⟨rfl,rfl⟩
theorem c32 {J:IR} (h:Bank w M) (h1:J.h∈M):Calls Tryz.prog 32 #[.pointer (ptr J.p)] w fun e w'=>e=.returned J.s.v∧w'=w:=by
 refine (F32.call (ptr J.p) w (fun v w'=>v=J.s.v∧w'=w) fun B=>?_).mono fun e w' ⟨v,h1,h2,h3⟩=>⟨by rw [h1,h2],h3⟩
 have H:HdrAt w J.p J.ng J.s:=h.all _ h1
 exact ⟨J.p,0,rfl,J.s.a,J.s.l,J.s.c,H.c1,fun B2=>ret1 rfl rfl ⟨rfl,rfl⟩⟩
theorem c19 {J:IR} (g:G w0 w M) (h1:J.h∈M) (h2:J.n∈M) (hl:J.s.l≤1000000) {Q:Ending→World→Prop}
  (q:∀ (r:Sl) w',G w0 w' (nmz r J.V :: M)→r.l=J.s.l→Chg w w' none2→Q (.returned r.v) w'):Calls Tryz.prog 19 #[.pointer (ptr J.p)] w Q:=by
 refine (F19.call (ptr J.p) w (fun v w'=>Q (.returned v) w') fun B=>?_).mono fun e w' ⟨v,h1,h2⟩=>by rw [h1]; exact h2
 refine (c32 g.bank h1).mono ?_
 rintro e1 w1 ⟨rfl,hw⟩
 have hw:=hw.symm
 subst hw
 refine ⟨_,_,_,rfl,fun B1=>?_⟩
 obtain ⟨r,hr⟩:∃ r,r=J.s:=⟨_,rfl⟩
 obtain ⟨X,hX⟩:∃ X,X=J.V:=⟨_,rfl⟩
 have hrn:nmz r X∈M:=by rw [hr,hX]; exact h2
 rw [←hr] at hl ⊢
 have g2:=g.addNil
 rw [F19.q3]
 refine W_for' (σ:=Nat × Sl) (fun s=>F19.l2 s.2.a s.2.l s.2.c r.a r.l r.c r.l s.1) (fun s w'=>s.1≤r.l∧s.2.l=s.1∧(s.2.c≠0→w.heap.size≤s.2.b)∧G w w' (num s.2 (X%BB^s.1) :: M)) (fun s=>r.l-s.1) (0,nilS w) ⟨rfl,rfl,rfl,rfl,trivial⟩
  ⟨Nat.zero_le _,rfl,fun h=>absurd rfl h,⟨by have b:=g2.bank; rw [show X%BB^0=0 by rw [Nat.pow_zero,Nat.mod_one]]; exact b,Chg.refl _ _,g.ch.glb g.hg⟩⟩ ?_
 rintro ⟨i,out⟩ B2 wr K2 ⟨hi,ho,hn,gi⟩ hKn hKe _
 simp only at hi ho hn gi
 have hrP:Nz wr r X:=gi.bank.all (nmz r X) (by simp [hrn])
 refine F19.t2 out.a out.l out.c r.a r.l r.c r.l i ⟨rfl,rfl,rfl,rfl,trivial⟩ fun B3=>bc_intro (fun hb=>?_) (fun hb B4=>?_)
 ·have hlt:i<r.l:=by have:=dT hb; omega
  obtain ⟨w2,r2,w3,e2,e3,l3,g3,n3⟩:=push cell22 (X:=X) gi hn ho (by omega) rfl
  exact rdC (k:=i) (hrP.at_ (by have:=hrP.lc; omega)) rfl hlt (hrP.sg i hlt) ⟨w2,⟨_,_,_,e2,w3,⟨_,_,_,e3,by unfold inI64; omega,fun B4=>hKn _ _ (i+1,r2) ⟨rfl,rfl,rfl,intv (by omega),trivial⟩ rfl ⟨hlt,l3,n3,g3⟩ (by show r.l-(i+1)<r.l-i; omega)⟩⟩⟩
 ·have hil:i=r.l:=by have:=dF hb; omega
  refine hKe _ _ ?_
  show W Tryz.prog 19 F19.p1 _ wr _
  rw [hil,Nat.mod_eq_of_lt hrP.lt] at gi
  refine F19.t1 out.a out.l out.c ⟨rfl,trivial⟩ fun B5 B6=>ret1 rfl rfl ?_
  have hol:out.l=r.l:=by omega
  have b7:Bank wr (nmz out J.V :: M):=by
   rw [←hX]
   exact gi.bank.weaken (a':=nmz out X) rfl fun h=>{ h with nm:=hrP.nm.of_len hol }
  exact q out wr ⟨b7,g.ch.trans' gi.ch,g.hg⟩ (by rw [hol,hr]) gi.ch
end
end Go.Proofs.YtlkjiiibmfpbcaaGreatDoor
