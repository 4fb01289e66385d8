/- nat.scan, Int.scan, setFromScanner, SetString, impl.Scan on the figures of a number. Conditions: base from 2 to 62, at most 260 words. -/
import Derived.ProofKit
import Derived.OpenShut
import Derived.LaidMore
import Derived.Lay
import Derived.OpenVars
import Derived.SevenTiedAt
import Derived.Stop.Joined
import Derived.Test.YtlkjiiibmfpbcaaGreatDoorS43
import Derived.Test.YtlkjiiibmfpbcaaGreatDoorS36
import Derived.Test.YtlkjiiibmfpbcaaGreatDoorS35
import Derived.Test.YtlkjiiibmfpbcaaGreatDoorS34
import Derived.Test.YtlkjiiibmfpbcaaGreatDoorS08
import Derived.Test.YtlkjiiibmfpbcaaGreatDoorTie
import Derived.Test.YtlkjiiibmfpbcaaGreatDoorCards
namespace Go.Proofs.YtlkjiiibmfpbcaaGreatDoor
open Go
set_option maxRecDepth 100000
theorem ret3 {t u v:Nat} {e:Env} {w:World} {R:Value→World→Prop} {a b c:Value} (hd:e.defers=[]) (h1:e.get t=a) (h2:e.get u=b) (h3:e.get v=c) (h:R (.tuple #[a,b,c]) w) :
  retK Tryz.prog [.tmp t,.tmp u,.tmp v] R .ret e w:=by
 simp only [retK,hd,runD,resOne,resV,h1,h2,h3]; exact h
section
variable {w:World} {b X n p:Nat} {str:ByteArray} {L:List Item} {a:EofA}
theorem str_end (hs:StrOf b X n str) {k:Nat} (hk:n≤k):str[k]?=none:=by
 have:=hs.size
 rw [getElem?_neg]; omega
theorem c95 (hb2:2≤b) (hb62:b≤62) (hn:IsN b X n) (hX:X<BB^260) (hnl:n≤1000000) (hs:StrOf b X n str) (hb:Bank w (rdr p str 0 :: L)) (hE:w.cell? ⟨0,0,none⟩=some (eof a)) (hG:GB≤w.heap.size) {Q:Ending→World→Prop}
  (q:∀ (r:Sl) w',Bank w' (nmz r X :: rdr p str n :: L)→(r.c≠0→w.heap.size≤r.b)→Chg w w' (blk p)→Q (.returned (.tuple #[r.v,.int .i64 (b:Int),.int .i64 (n:Int),.nilIface])) w') :
  Calls Tryz.prog 95 #[.slice none 0 0,rif p,.int .i64 (b:Int),.bool false] w Q:=by
 have hn1:=hn.2.1
 have hsz:=hs.size
 refine (F95.call none 0 0 (rif p) b false w (fun v w'=>Q (.returned v) w') fun B0=>bc_false (eqF (by omega)) (bc_true rfl (bc_true (decT (by omega)) (bc_true (decT (by omega)) (bc_false rfl fun B1=>?_))))).mono fun e w' ⟨v,h1,h2⟩=>by rw [h1]; exact h2
 refine F95.t1 none 0 0 (rif p) b false 0 ⟨rfl,rfl,rfl,rfl,rfl,trivial⟩ fun B2=>⟨203,_,rbI w p,c203 hb (by omega) (by omega) hE (fun c w1 hcc b1 c1=>⟨_,trivial,_,trivial,rfl,bc_false (eqF (by omega)) fun B3=>?_⟩) fun w1 h0 _ _=>by omega⟩
 obtain ⟨c',h1,h2⟩:=hs.at_ 0 (by omega)
 rw [hcc] at h1
 obtain rfl:=Option.some.inj h1
 have hG1:GB≤w1.heap.size:=Nat.le_trans hG c1.size
 have eb:IntKind.wrap .u64 (b:Int)=(b:Int):=wrapN b (by omega)
 have go:∀ (B:Nat→Value) (N bn:Nat) (pw:Bool),Sc b X n N bn pw→W Tryz.prog 274 F95.p5 (E [(0,.slice none 0 0),(1,rif p),(2,.int .i64 (b:Int)),(3,.bool false),(9,.int .i64 (b:Int)),(10,.int .i64 0),(11,.nilIface),(13,.int .i32 46),(14,.bool false),(15,.int .u8 (c.toNat:Int)),(16,.int .i64 0),(17,.int .u64 (b:Int)),(18,.int .u64 (bn:Int)),(19,.int .i64 (N:Int))] B []) w1 (retK Tryz.prog [.tmp 8,.tmp 9,.tmp 10,.tmp 11] fun v w'=>Q (.returned v) w'):=by
  intro B N bn pw S
  refine F95.t5 none 0 0 (rif p) b false b 0 .nilIface 46 false (c.toNat:Int) 0 b bn N ⟨rfl,rfl,rfl,rfl,rfl,rfl,rfl,rfl,rfl,rfl,rfl,rfl,rfl,rfl,trivial⟩ fun B4 B5=>?_
  have b2:Bank w1 (zit pw b X n N 0 (nilS w1) :: rdr p str 1 :: L):=(b1.nilF hG1).map1 (a':=zit pw b X n N 0 (nilS w1)) ⟨0,((b1.nilF hG1).head:Nz w1 (nilS w1) 0).toNt,fun _=>⟨rfl,fun j hj=>by omega⟩,fun _=>⟨by rw [Nat.zero_mul,pfx_0 hn.1],fun k _=>Nat.zero_le k⟩⟩ fun _ _ h=>h
  refine loop9 (w0:=w) (z:=nilS w1) S hs b2 (fun h=>absurd rfl h) c1 hE hG ?_ fun e' z2 w2 b3 hz2 c2 ha2 hd2=>?_
  ·exact ⟨rfl,rfl,rfl,rfl,rfl,rfl,rfl,rfl,rfl,by show Value.int .u8 (c.toNat:Int)=_; rw [h2],rfl,rfl,rfl,rfl,rfl,rfl,rfl,trivial⟩
  ·show W Tryz.prog 274 F95.p7 e' w2 _
   refine F95.t7 z2.a z2.l z2.c b (n:Nat) (eof a) 48 false 0 b bn N (grp b X n N n:Nat) (n%N:Nat) (-1) ha2 fun B6=>⟨eof a,chgVar c2 hE (by decide),w2,true,ee_eof w2 a,bc_true rfl fun B7=>?_⟩
   refine F95.t11 z2.a z2.l z2.c b (n:Nat) .nilIface 48 false 0 b bn N (grp b X n N n:Nat) (n%N:Nat) (-1) ⟨rfl,rfl,rfl,rfl,rfl,rfl,rfl,rfl,rfl,rfl,rfl,rfl,rfl,trivial⟩ fun B8=>⟨w2,true,en_nil w2,bc_true rfl (bc_false rfl (bc_false rfl fun B9=>?_))⟩
   refine F95.t16 z2.a z2.l z2.c b (n:Nat) .nilIface 0 b bn N (grp b X n N n:Nat) (n%N:Nat) (-1) ⟨rfl,rfl,rfl,rfl,rfl,rfl,rfl,rfl,rfl,rfl,rfl,trivial⟩ fun B10=>bc_false (eqF (by omega)) fun B11=>?_
   exact end18 (w0:=w) S b3 hz2 c2 hG hd2 ⟨rfl,rfl,rfl,rfl,rfl,rfl,rfl,rfl,rfl,rfl,trivial⟩ q
 refine F95.t3 none 0 0 (rif p) b false b 0 .nilIface 46 false (c.toNat:Int) 0 ⟨rfl,rfl,rfl,rfl,rfl,rfl,rfl,rfl,rfl,rfl,rfl,trivial⟩ fun B4=>⟨0,rfl,Nat.le_refl _,?_⟩
 rw [eb]
 refine bc_intro (fun h=>?_) (fun h=>bc_intro (fun h'=>?_) (fun h'=>bc_intro (fun h''=>?_) (fun h''=>?_)))
 ·obtain rfl:b=2:=by have:=eqE h; omega
  exact fun B5=>go B5 64 0 true ⟨hb2,hb62,hn,hX,hnl,by omega,by omega,by decide,fun _=>⟨rfl,by decide,by decide⟩,fun h=>by cases h⟩
 ·obtain rfl:b=4:=by have:=eqE h'; omega
  exact fun B5=>go B5 32 0 true ⟨hb2,hb62,hn,hX,hnl,by omega,by omega,by decide,fun _=>⟨rfl,by decide,by decide⟩,fun h=>by cases h⟩
 ·obtain rfl:b=16:=by have:=eqE h''; omega
  exact fun B5=>go B5 16 0 true ⟨hb2,hb62,hn,hX,hnl,by omega,by omega,by decide,fun _=>⟨rfl,by decide,by decide⟩,fun h=>by cases h⟩
 ·refine (c58 b hb2 hb62 w1).mono ?_
  rintro e5 w5 ⟨N,rfl,hN1,hN2,hN3,_,hw⟩
  have hw:=hw.symm
  subst hw
  exact ⟨_,trivial,_,trivial,rfl,fun B5=>go B5 N (b^N) false ⟨hb2,hb62,hn,hX,hnl,hN1,hN2,Nat.le_of_lt hN3,fun h=>(by cases h),fun _=>⟨rfl,hN3⟩⟩⟩
theorem c94 (hb2:2≤b) (hb62:b≤62) (hn1:1≤n) (hnl:n≤1000000) (hs:StrOf b X n str) (hb:Bank w (rdr p str 0 :: L)) (hE:w.cell? ⟨0,0,none⟩=some (eof a)) {Q:Ending→World→Prop}
  (q:∀ w',Bank w' (rdr p str 0 :: L)→Chg w w' (blk p)→Q (.returned (.tuple #[.bool false,.nilIface])) w'):Calls Tryz.prog 94 #[rif p] w Q:=by
 have hsz:=hs.size
 refine (F94.call (rif p) w (fun v w'=>Q (.returned v) w') fun B0=>⟨203,_,rbI w p,c203 hb (by omega) (by omega) hE (fun c w1 hcc b1 c1=>⟨_,trivial,_,trivial,rfl,w1,false,nn_nil w1,bc_false rfl ?_⟩) fun w1 h0 _ _=>by omega⟩).mono fun e w' ⟨v,h1,h2⟩=>by rw [h1]; exact h2
 obtain ⟨c',h1,h2⟩:=hs.at_ 0 (by omega)
 rw [hcc] at h1
 obtain rfl:=Option.some.inj h1
 have hdb:fg b X n 0<b:=Nat.mod_lt _ (by omega)
 have hch:48≤c.toNat:=by
  rw [h2]
  unfold chr
  split
  ·omega
  ·split <;> omega
 refine bc_false (eqF (by omega)) (bc_false (eqF (by omega)) ⟨204,_,ubI w1 p,c204 b1 (by omega) (by omega) fun w2 b2 c2=>⟨_,rfl,fun B1=>?_⟩⟩)
 exact F94.t1 false .nilIface ⟨rfl,rfl,trivial⟩ fun B2 B3=>ret2 rfl rfl rfl (q w2 b2 (c1.trans' c2))
variable {pz:Nat} {ng:Bool} {s:Sl}
theorem c63 (hb2:2≤b) (hb62:b≤62) (hn:IsN b X n) (hX:X<BB^260) (hnl:n≤1000000) (hs:StrOf b X n str) (hsv:s.v=.slice none 0 0) (hb:Bank w (rdr p str 0 :: hdr pz ng s :: L)) (hE:w.cell? ⟨0,0,none⟩=some (eof a)) (hG:GB≤w.heap.size) {Q:Ending→World→Prop}
  (q:∀ (r:Sl) w',Bank w' (hdr pz false r :: nmz r X :: rdr p str n :: L)→(r.c≠0→w.heap.size≤r.b)→Chg w w' (un (blk p) (blk pz))→Q (.returned (.tuple #[.pointer (ptr pz),.int .i64 (b:Int),.nilIface])) w') :
  Calls Tryz.prog 63 #[.pointer (ptr pz),rif p,.int .i64 (b:Int)] w Q:=by
 refine (F63.call (ptr pz) (rif p) b w (fun v w'=>Q (.returned v) w') fun B0=>c94 hb2 hb62 hn.2.1 hnl hs hb hE fun w1 b1 c1=>⟨_,trivial,_,trivial,rfl,w1,false,nn_nil w1,bc_false rfl ?_⟩).mono fun e w' ⟨v,h1,h2⟩=>by rw [h1]; exact h2
 have H1:HdrAt w1 pz ng s:=b1.tail.head
 have hc1:=H1.c1
 rw [hsv] at hc1
 have hG1:GB≤w1.heap.size:=Nat.le_trans hG c1.size
 refine ⟨pz,0,rfl,_,_,_,hc1,c95 hb2 hb62 hn hX hnl hs b1 (chgVar c1 hE (by decide)) hG1 fun r w2 b2 hr c2=>⟨_,_,_,trivial,_,trivial,_,trivial,_,trivial,rfl,?_⟩⟩
 have b3:Bank w2 (hdr pz ng s :: nmz r X :: rdr p str n :: L):=b2.pick 3 [2,0,1] rfl
 have H3:HdrAt w2 pz ng s:=b3.head
 obtain ⟨b4,c4⟩:=hset1 b3 r
 obtain ⟨w4,hw4⟩:∃ w4,w4=w2.setCell ⟨pz,1,none⟩ r.v:=⟨_,rfl⟩
 rw [←hw4] at b4 c4
 have H4:HdrAt w4 pz ng r:=b4.head
 obtain ⟨b5,c5⟩:=hset0 b4 false
 have hr2:r.c≠0→w.heap.size≤r.b:=fun h=>Nat.le_trans c1.size (hr h)
 have cc:Chg w (w4.setCell ⟨pz,0,none⟩ (.bool false)) (un (blk p) (blk pz)):=((c1.trans' c2).mono fun _ _ _ h=>.inl h).trans' ((c4.trans' c5).mono fun _ _ _ h=>.inr h)
 refine ⟨pz,0,rfl,⟨_,H3.c1⟩,H3.f1,?_⟩
 rw [show (w2.setCell ⟨pz,0+1,none⟩ (Value.slice r.a r.l r.c))=w4 from hw4.symm]
 refine ⟨w4,false,nn_nil w4,bc_false rfl ⟨pz,0,rfl,_,_,_,H4.c1,bc_intro (fun _=>?_) (fun _=>?_)⟩⟩
 ·exact ⟨pz,0,rfl,⟨_,H4.c0⟩,H4.f0,fun B1=>ret3 rfl rfl rfl rfl (q r _ b5 hr2 cc)⟩
 ·exact ⟨pz,0,rfl,⟨_,H4.c0⟩,H4.f0,fun B1=>ret3 rfl rfl rfl rfl (q r _ b5 hr2 cc)⟩
theorem c44 (hb2:2≤b) (hb62:b≤62) (hn:IsN b X n) (hX:X<BB^260) (hnl:n≤1000000) (hs:StrOf b X n str) (hsv:s.v=.slice none 0 0) (hb:Bank w (rdr p str 0 :: hdr pz ng s :: L)) (hE:w.cell? ⟨0,0,none⟩=some (eof a)) (hG:GB≤w.heap.size) {Q:Ending→World→Prop}
  (q:∀ (r:Sl) w',Bank w' (hdr pz false r :: nmz r X :: L)→(r.c≠0→w.heap.size≤r.b)→Chg w w' (un (blk p) (blk pz))→Q (.returned (.tuple #[.pointer (ptr pz),.bool true])) w') :
  Calls Tryz.prog 44 #[.pointer (ptr pz),rif p,.int .i64 (b:Int)] w Q:=by
 have hsz:=hs.size
 refine (F44.call (ptr pz) (rif p) b w (fun v w'=>Q (.returned v) w') fun B0=>c63 hb2 hb62 hn hX hnl hs hsv hb hE hG fun r w1 b1 hr c1=>⟨_,trivial,_,trivial,_,trivial,rfl,w1,false,nn_nil w1,bc_false rfl ⟨203,_,rbI w1 p,?_⟩⟩).mono fun e w' ⟨v,h1,h2⟩=>by rw [h1]; exact h2
 have b2:Bank w1 (rdr p str n :: hdr pz false r :: nmz r X :: L):=b1.pick 3 [2,0,1] rfl
 have hE1:=chgVar c1 hE (b:=0) (by decide)
 refine c203 b2 (by omega) (by omega) hE1 (fun c w2 hcc _ _=>?_) fun w2 _ b3 c3=>⟨_,trivial,_,trivial,rfl,eof a,chgVar c3 hE1 (by decide),w2,false,ne_eof w2 a,bc_false rfl fun B1=>ret2 rfl rfl rfl ?_⟩
 ·rw [str_end hs (Nat.le_refl _)] at hcc; cases hcc
 ·exact q r w2 b3.tail hr (c1.trans' (c3.mono fun _ _ _ h=>.inl h))
theorem c30 (hb2:2≤b) (hb62:b≤62) (hn:IsN b X n) (hX:X<BB^260) (hnl:n≤1000000) (hs:StrOf b X n str) (hsv:s.v=.slice none 0 0) (hb:Bank w (hdr pz ng s :: L)) (hE:w.cell? ⟨0,0,none⟩=some (eof a)) (hG:GB≤w.heap.size) {Q:Ending→World→Prop}
  (q:∀ (r:Sl) w',Bank w' (hdr pz false r :: nmz r X :: L)→(r.c≠0→w.heap.size≤r.b)→Chg w w' (blk pz)→Q (.returned (.tuple #[.pointer (ptr pz),.bool true])) w') :
  Calls Tryz.prog 30 #[.pointer (ptr pz),.string str,.int .i64 (b:Int)] w Q:=by
 refine (F30.call (ptr pz) str b w (fun v w'=>Q (.returned v) w') fun B0=>c45 hb hG str fun p w1 b1 hp c1=>⟨_,rfl,?_⟩).mono fun e w' ⟨v,h1,h2⟩=>by rw [h1]; exact h2
 refine c44 hb2 hb62 hn hX hnl hs hsv b1 (chgVar c1 hE (by decide)) (Nat.le_trans hG c1.size) fun r w2 b2 hr c2=>⟨_,trivial,_,trivial,rfl,fun B1=>ret2 rfl rfl rfl ?_⟩
 refine q r w2 b2 (fun h=>Nat.le_trans c1.size (hr h)) (c1.trans c2 (fun _ _ _ h=>h.elim) fun x i hx hm=>?_)
 rcases hm with hm | hm
 ·have hm:x=p:=hm
  omega
 ·exact hm
theorem c18f {r:Sl} (hb:Bank w (hdr pz false r :: nmz r X :: L)):Calls Tryz.prog 18 #[.pointer (ptr pz)] w fun e w'=>∃ k:Int,e=.returned (.int .i64 k)∧¬k<0∧w'=w:=by
 have H:HdrAt w pz false r:=hb.head
 refine (F18.call (ptr pz) w (fun v w'=>∃ k:Int,v=.int .i64 k∧¬k<0∧w'=w) fun B=>⟨pz,0,rfl,r.a,r.l,r.c,H.c1,bc_intro (fun h B1=>ret1 rfl rfl ⟨_,rfl,by omega,rfl⟩) fun h=>⟨pz,0,rfl,false,H.c0,bc_false rfl fun B2=>ret1 rfl rfl ⟨_,rfl,by omega,rfl⟩⟩⟩).mono fun e w' ⟨v,h1,k,h2,h3⟩=>⟨k,by rw [h1,h2],h3⟩
theorem c14 (hb2:2≤b) (hb62:b≤62) (hn:IsN b X n) (hX:X<BB^260) (hnl:n≤1000000) (hs:StrOf b X n str) (hE:w.cell? ⟨0,0,none⟩=some (eof a)) (hg:Glb w) {Q:Ending→World→Prop}
  (q:∀ (r:Sl) w',Nz w' r X→Chg w w' none2→Q (.returned (.tuple #[r.v,.bool true])) w'):Calls Tryz.prog 14 #[.string str,.int .i64 (b:Int)] w Q:=by
 have hG:=hg.gb
 refine (F14.call str b w (fun v w'=>Q (.returned v) w') fun B0=>bc_true (by simp; omega) (bc_false (decF (by omega)) (bc_false (decF (by omega)) ?_))).mono fun e w' ⟨v,h1,h2⟩=>by rw [h1]; exact h2
 obtain ⟨b1,c1⟩:=newInt (Bank.nil w) hG false (nilS w)
 refine c30 (pz:=w.heap.size) (s:=nilS w) hb2 hb62 hn hX hnl hs rfl b1 (chgVar c1 hE (by decide)) (Nat.le_trans hG c1.size) fun r w2 b2 hr c2=>⟨_,trivial,_,trivial,rfl,bc_false rfl ((c18f b2).mono ?_)⟩
 have c12:Chg w w2 none2:=c1.trans c2 (fun _ _ _ h=>h) fun x i hx hm=>by
  have hm:x=w.heap.size:=hm
  omega
 rintro e3 w3 ⟨k,rfl,hk,rfl⟩
 have hrl:r.l≤260:=(b2.tail.head:Nz w3 r X).nm _ hX
 have g3:G w w3 [hdr w.heap.size false r,nmz r X]:=⟨b2,c12,hg⟩
 refine ⟨_,rfl,bc_false (decF hk) (c19 (J:=⟨w.heap.size,false,r,X⟩) g3 (by simp) (by simp) (by show r.l≤_; omega) fun r4 w4 g4 l4 c4=>⟨_,_,_,rfl,fun B1=>ret2 rfl rfl rfl (q r4 w4 g4.bank.head g4.ch)⟩)⟩
end
end Go.Proofs.YtlkjiiibmfpbcaaGreatDoor
namespace Go.Proofs.YtlkjiiibmfpbcaaGreatDoor
open Go
theorem bb16 (n:Nat):BB^n=65536^(4*n):=by rw [Nat.pow_mul]; rfl
theorem hg_dg (X i k:Nat) (hk:k<4):hg (dg X i) k=hg X (4*i+k):=by
 unfold dg
 rw [show BB=65536^4 from rfl,hg_mod _ _ _ hk,←Nat.pow_mul]
 unfold hg
 rw [Nat.div_div_eq_div_mul,←Nat.pow_add]
theorem mask16 (a:Nat) (ha:a<18446744073709551616):iAnd .u64 (a:Int) 65535=((a%65536:Nat):Int):=iAndMask a 16 (by omega) ha
theorem c8 (x:Sl) (X:Nat) (w:World) (hG:GB≤w.heap.size) (hx:Rd w x X) (hl:x.l≤100000) :
  Calls Tryz.prog 8 #[x.v] w fun e w'=>∃ r:Sl,e=.returned r.v∧Hn w' r X∧r.l≤4*x.l∧Chg w w' none2:=by
 refine (F8.call x.a x.l x.c w (fun v w'=>∃ r:Sl,v=r.v∧Hn w' r X∧r.l≤4*x.l∧Chg w w' none2) fun B0=>?_).mono fun e w' ⟨v,h1,r,h2,h3⟩=>⟨r,by rw [h1,h2],h3⟩
 obtain ⟨s0,w1,e1,l1,h1,c1⟩:=Ho.empty hG (Chg.refl w none2)
 refine ⟨w1,_,_,_,e1,fun B1=>?_⟩
 rw [F8.q3]
 refine W_for' (σ:=Nat × Sl) (fun s=>F8.l2 s.2.a s.2.l s.2.c x.a x.l x.c (x.l:Int) (s.1:Int)) (fun s w'=>s.1≤x.l∧s.2.l=4*s.1∧Ho w w' s.2 (X%65536^(4*s.1))) (fun s=>x.l-s.1) (0,s0)
  ⟨rfl,rfl,rfl,rfl,trivial⟩ ⟨Nat.zero_le _,by rw [l1]; rfl,by rw [Nat.mul_zero,Nat.pow_zero,Nat.mod_one]; exact h1⟩ ?_
 rintro ⟨i,out⟩ B2 wr K2 ⟨hi,hol,ho⟩ hKn hKe _
 simp only at hi hol ho
 refine F8.t2 out.a out.l out.c x.a x.l x.c _ _ ⟨rfl,rfl,rfl,rfl,trivial⟩ fun B3=>bc_intro (fun h3 B4=>?_) (fun h3 B4=>?_)
 ·have hlt:i<x.l:=by have:=dT h3; omega
  have rx:=ho.ch.rd hx (fun _ _ h=>h)
  obtain ⟨d,hd⟩:∃ d,d=dg X i:=⟨_,rfl⟩
  have hd2:d<18446744073709551616:=by rw [hd]; exact dg_lt' X i
  rw [F8.q6]
  refine W_block (F8.t5 out.a out.l out.c x.a x.l x.c _ _ ⟨rfl,rfl,rfl,rfl,trivial⟩ fun B5=>rdC (k:=i) (hx.at_ (by omega)) rfl hlt (rx.sg i hlt) fun B6=>?_)
  rw [←hd,F8.q8]
  refine W_for' (σ:=Nat × Sl) (fun s=>F8.l7 s.2.a s.2.l s.2.c (d:Int) (s.1:Int) x.a x.l x.c (x.l:Int) (i:Int)) (fun s w'=>s.1≤4∧s.2.l=4*i+s.1∧Ho w w' s.2 (X%65536^(4*i+s.1))) (fun s=>4-s.1) (0,out)
   ⟨rfl,rfl,rfl,rfl,rfl,rfl,trivial⟩ ⟨Nat.zero_le _,hol,ho⟩ ?_
  rintro ⟨k,o2⟩ B7 wq K3 ⟨hk,hol2,ho2⟩ hKn3 hKe3 _
  simp only at hk hol2 ho2
  refine F8.t7 o2.a o2.l o2.c (d:Int) (k:Int) x.a x.l x.c _ _ ⟨rfl,rfl,rfl,rfl,rfl,rfl,trivial⟩ fun B8=>bc_intro (fun h4=>?_) (fun h4 B9=>?_)
  ·have hk4:k<4:=by have:=dT h4; omega
   have hdig:IntKind.wrap .i64 (iAnd .u64 (iShr .u64 (d:Int) (16*(k:Int))) 65535)=((hg X (4*i+k):Nat):Int):=by
    rw [show (16*(k:Int))=((16*k:Nat):Int) by omega,iShrN,show min (16*k) 64=16*k by omega,mask16 _ (Nat.lt_of_le_of_lt (Nat.div_le_self _ _) hd2),wrapIN _ (by omega),←hg_dg X i k hk4,←hd]
    unfold hg
    rw [p16]
   obtain ⟨w2,a2,l2,c2,e2,r,w3,e3,l3,h3⟩:=ho2.push (d:=hg X (4*i+k)) hdig (hg_lt _ _) (by omega)
   refine ⟨by unfold inI64; omega,by omega,w2,a2,l2,c2,e2,w3,r.a,r.l,r.c,e3,by unfold inI64; omega,fun B9=>hKn3 _ _ (k+1,r) ⟨rfl,rfl,intv (by omega),rfl,rfl,rfl,trivial⟩ rfl ⟨hk4,by show r.l=4*i+(k+1); omega,?_⟩ (by show 4-(k+1)<4-k; omega)⟩
   show Ho w w3 r (X%65536^(4*i+k+1))
   rw [hmod_succ,←hol2]; rw [hol2] at h3 ⊢; exact h3
  ·have hk4:k=4:=by have:=dF h4; omega
   refine hKe3 _ _ ?_
   show W Tryz.prog 30 F8.p4 _ wq K2
   refine F8.t4 o2.a o2.l o2.c x.a x.l x.c _ _ ⟨rfl,rfl,rfl,rfl,trivial⟩ fun B10=>⟨by unfold inI64; omega,fun B11=>hKn _ _ (i+1,o2) ⟨rfl,rfl,rfl,intv (by omega),trivial⟩ rfl ⟨hlt,by show o2.l=4*(i+1); omega,?_⟩ (by show x.l-(i+1)<x.l-i; omega)⟩
   show Ho w wq o2 (X%65536^(4*(i+1)))
   rw [show 4*(i+1)=4*i+k by omega]; exact ho2
 ·have hil:i=x.l:=by have:=dF h3; omega
  rw [hil,Nat.mod_eq_of_lt (by rw [←bb16]; exact hx.lt)] at ho
  refine hKe _ _ ?_
  show W Tryz.prog 30 F8.p1 _ wr _
  refine F8.t1 out.a out.l out.c ⟨rfl,trivial⟩ fun B4=>(c16 out X wr ho.rh (by omega)).mono ?_
  rintro e4 w4 ⟨r4,rfl,h4,hw⟩
  subst hw
  exact ⟨_,_,_,rfl,fun B5=>ret1 rfl rfl ⟨r4,rfl,h4,h4.nm _ (by rw [←bb16]; exact hx.lt),ho.ch⟩⟩
end Go.Proofs.YtlkjiiibmfpbcaaGreatDoor
namespace Go.Proofs.YtlkjiiibmfpbcaaGreatDoor
open Go
theorem setD_add (v k d:Nat):setD v k d+BB^k*dg v k=v+BB^k*d:=by
 have h1:=Nat.mod_add_div v (BB^(k+1))
 rw [mod_succ] at h1
 unfold setD
 rw [Nat.mul_add,←Nat.mul_assoc,←Nat.pow_add]
 omega
theorem or_high (x d s:Nat) (h:x<2^s):x ||| d*2^s=x+d*2^s:=by
 rw [Nat.or_comm,←Nat.shiftLeft_eq,←Nat.shiftLeft_add_eq_or_of_lt h,Nat.add_comm]
theorem c34 (a:Sl) (A:Nat) (w:World) (hgl:Glb w) (ha:Hn w a A) (hl:a.l≤100000) :
  Calls Tryz.prog 34 #[a.v] w fun e w'=>∃ r:Sl,e=.returned r.v∧Nz w' r A∧Chg w w' none2:=by
 refine (F34.call a.a a.l a.c w (fun v w'=>∃ r:Sl,v=r.v∧Nz w' r A∧Chg w w' none2) fun B0=>?_).mono fun e w' ⟨v,h1,r,h2,h3⟩=>⟨r,by rw [h1,h2],h3⟩
 have hG:=hgl.gb
 have c1:Chg w (w.alloc (.cells #[] 38)) none2:=Chg.alloc _ _ (fun a=>RowKit.frozen?_alloc_cells _ _ _ _) _
 obtain ⟨s0,hs0⟩:∃ s:Sl,s=⟨some ⟨w.heap.size,0,none⟩,0,0,w.heap.size,0⟩:=⟨_,rfl⟩
 have n0:Nt (w.alloc (.cells #[] 38)) s0 0:=by
  rw [hs0]
  exact { lc:=Nat.le_refl _,at_:=fun h=>absurd rfl h,wr:=Wr.zero,pl:=fun h=>absurd rfl h,cm:=Nat.zero_le _,gb:=Nat.le_trans hG c1.size,sg:=Sg.zero,lt:=BBpow_pos _ }
 have g0:G w (w.alloc (.cells #[] 38)) [num s0 0]:=⟨⟨by simp; exact n0,by simp⟩,c1,hgl⟩
 refine ⟨_,_,_,_,build0e cell22 w,fun B1=>?_⟩
 have hzv:Value.slice (some ⟨w.heap.size,0,none⟩) 0 0=s0.v:=by rw [hs0]
 have hs0l:s0.l=0:=by rw [hs0]
 have hs0c:s0.c=0:=by rw [hs0]
 rw [F34.q3]
 refine W_for' (σ:=Nat × Sl) (fun s=>F34.l2 s.2.a s.2.l s.2.c a.a a.l a.c (a.l:Int) (s.1:Int)) (fun s w'=>s.1≤a.l∧s.2.l=(s.1+3)/4∧(s.2.c≠0→w.heap.size≤s.2.b)∧G w w' [num s.2 (A%65536^s.1)]) (fun s=>a.l-s.1) (0,s0)
  ⟨hzv,rfl,rfl,rfl,trivial⟩ ⟨Nat.zero_le _,by rw [hs0l]; show 0=(0+3)/4; decide,fun h=>absurd hs0c h,by rw [Nat.pow_zero,Nat.mod_one]; exact g0⟩ ?_
 rintro ⟨i,out⟩ B2 wr K2 ⟨hi,hol,hn,g⟩ hKn hKe _
 simp only at hi hol hn g
 obtain ⟨V,hV⟩:∃ V,V=A%65536^i:=⟨_,rfl⟩
 rw [←hV] at g
 have hVlt:V<65536^i:=by rw [hV]; exact Nat.mod_lt _ (hpos i)
 refine F34.t2 out.a out.l out.c a.a a.l a.c _ _ ⟨rfl,rfl,rfl,rfl,trivial⟩ fun B3=>bc_intro (fun h3=>?_) (fun h3 B4=>?_)
 ·have hlt:i<a.l:=by have:=dT h3; omega
  have ra:=ha.toRh.keep g.ch
  obtain ⟨d,hd⟩:∃ d,d=hg A i:=⟨_,rfl⟩
  have hd2:d<65536:=by rw [hd]; exact hg_lt A i
  obtain ⟨k,hk⟩:∃ k,k=i/4:=⟨_,rfl⟩
  obtain ⟨j,hj⟩:∃ j,j=i%4:=⟨_,rfl⟩
  have hij:i=4*k+j:=by omega
  have last:∀ (o2:Sl) (w2:World) (B':Nat→Value),G w w2 [num o2 V]→o2.l=k+1→(o2.c≠0→w.heap.size≤o2.b) →
    W Tryz.prog 35 F34.p5 (E [(3,o2.v),(4,.int .i64 (i:Int)),(5,.int .i64 (d:Int)),(7,a.v),(8,.int .i64 (a.l:Int)),(9,.int .i64 (i:Int))] B' []) w2 (blockK 1 (thenW Tryz.prog 35 F34.p4 K2)):=by
   intro o2 w2 B' g2 hl2 hn2
   refine F34.t5 o2.a o2.l o2.c (i:Int) (d:Int) a.a a.l a.c _ _ ⟨rfl,rfl,rfl,rfl,rfl,rfl,trivial⟩ fun B4=>?_
   unfold F34.v5
   have cd:Chg w2 w2.drew none2:=Chg.drew0 w2 _
   have g3:=g2.none cd
   have oP:Nt w2.drew o2 V:=g3.bank.head
   rw [show iQuo .i64 (i:Int) 4=(k:Int) by rw [hk]; exact iQuoI i 4 (by omega),show iRem (i:Int) 4=(j:Int) by rw [hj]; exact iRemN i 4,show (16*(j:Int))=((16*j:Nat):Int) by omega]
   obtain ⟨x,hx⟩:∃ x,x=dg V k:=⟨_,rfl⟩
   have hxlt:x<2^(16*j):=by
    rw [hx]
    unfold dg
    refine Nat.lt_of_le_of_lt (Nat.mod_le _ _) ?_
    rw [Nat.div_lt_iff_lt_mul (BBpow_pos k),bb16,←p16,←Nat.pow_add,Nat.add_comm j,←hij]
    exact hVlt
   have hp48:2^(16*j)≤2^48:=Nat.pow_le_pow_right (by omega) (by omega)
   have hdm:d*2^(16*j)≤65535*2^48:=Nat.mul_le_mul (by omega) hp48
   have hsum:x+d*2^(16*j)<18446744073709551616:=by omega
   have hor:iOr .u64 (x:Int) (iShl .u64 (IntKind.wrap .u64 (d:Int)) ((16*j:Nat):Int))=((x+d*2^(16*j):Nat):Int):=by
    rw [wrapN d (by omega),iShlN,show min (16*j) 64=16*j by omega,Nat.mod_eq_of_lt (by omega),iOrN _ _ (by omega) (by omega),or_high _ _ _ hxlt]
   obtain ⟨b4,c4⟩:=setD_bank (k:=k) (d:=x+d*2^(16*j)) g3.bank (by omega) hsum
   refine ⟨by decide,rdC (k:=k) (oP.at_ (by have:=oP.lc; omega)) rfl (by omega) (oP.sg k (by omega)) ⟨by decide,by unfold inI64; omega,by omega,wtC (k:=k) oP.wt rfl (by omega) fun B5=>?_⟩⟩
   rw [←hx,hor]
   show W Tryz.prog 35 F34.p4 _ _ K2
   refine F34.t4 o2.a o2.l o2.c a.a a.l a.c _ _ ⟨rfl,rfl,rfl,rfl,trivial⟩ fun B6=>⟨by unfold inI64; omega,fun B7=>hKn _ _ (i+1,o2) ⟨rfl,rfl,rfl,intv (by omega),trivial⟩ rfl ⟨hlt,by show o2.l=(i+1+3)/4; omega,hn2,?_⟩ (by show a.l-(i+1)<a.l-i; omega)⟩
   have hval:setD V k (x+d*2^(16*j))=A%65536^(i+1):=by
    have e1:=setD_add V k (x+d*2^(16*j))
    rw [←hx,Nat.mul_add] at e1
    have e2:BB^k*(d*2^(16*j))=65536^i*d:=by
     rw [bb16,←p16,hij,Nat.pow_add]
     simp only [Nat.mul_assoc,Nat.mul_comm]
    rw [hmod_succ,←hV,←hd,←e2]
    omega
   rw [hval] at b4
   refine ⟨b4,g3.ch.trans c4 (fun _ _ _ h=>h) fun b q hb hm=>?_,g.hg⟩
   have:=hn2 (by have:=hm.2.1; have:=hm.2.2; omega)
   have:=hm.1; omega
  refine rdR (k:=i) ra rfl hlt ⟨by decide,bc_intro (fun h4=>?_) (fun h4 B4=>?_)⟩
  ·rw [show iRem (i:Int) 4=(j:Int) by rw [hj]; exact iRemN i 4] at h4
   have hj0:j=0:=by have:=eqE h4; omega
   have hVk:V<BB^k:=by rw [bb16,show 4*k=i by omega]; exact hVlt
   obtain ⟨w2,r2,w3,e2,e3,l3,g3,n3⟩:=push cell22 (X:=V) (i:=k) g hn (by omega) (by omega) (Nat.mod_eq_of_lt hVk).symm
   rw [Nat.mod_eq_of_lt (lt_pow_of_le hVk (by omega))] at g3
   rw [dg_of_lt V k hVk] at e2
   rw [←hd]
   exact ⟨w2,_,_,_,e2,w3,r2.a,r2.l,r2.c,e3,fun B4=>last r2 w3 B4 g3 l3 n3⟩
  ·rw [show iRem (i:Int) 4=(j:Int) by rw [hj]; exact iRemN i 4] at h4
   have hj0:j≠0:=fun e=>eqN h4 (by rw [e]; rfl)
   rw [←hd]
   exact last out wr B4 g (by omega) hn
 ·have hil:i=a.l:=by have:=dF h3; omega
  have hVA:V=A:=by rw [hV,hil,Nat.mod_eq_of_lt ha.lt]
  rw [hVA] at g
  have oP:Nt wr out A:=g.bank.head
  refine hKe _ _ ?_
  show W Tryz.prog 35 F34.p1 _ wr _
  refine F34.t1 out.a out.l out.c ⟨rfl,trivial⟩ fun B4 B5=>ret1 rfl rfl ⟨out,rfl,{ oP with nm:=fun n hn=>?_ },g.ch⟩
  have:=ha.nm (4*n) (by rw [←bb16]; exact hn)
  omega
theorem c21 (x a:Sl) (X A:Nat) (w:World) (hgl:Glb w) (hx:Nz w x X) (ha:Hn w a A) (hl:a.l≤100000) (hXA:X=A) :
  Calls Tryz.prog 21 #[x.v,a.v] w fun e w'=>e=.returned (.bool true)∧Chg w w' none2:=by
 subst hXA
 refine (F21.call x.a x.l x.c a.a a.l a.c w (fun v w'=>v=.bool true∧Chg w w' none2) fun B0=>?_).mono fun e w' ⟨v,h1,h2,h3⟩=>⟨by rw [h1,h2],h3⟩
 refine (c34 a X w hgl ha hl).mono ?_
 rintro e1 w1 ⟨r,rfl,hr,c1⟩
 have hx1:Nt w1 x X:=c1.nt_none hx.toNt
 have hll:x.l=r.l:=Nm.uniq hx.nm hr.nm hx1 hr.toNt
 refine ⟨_,_,_,rfl,bc_false (neF (by omega)) fun B1=>?_⟩
 rw [F21.q3]
 refine W_for' (σ:=Nat) (fun i=>F21.l2 x.a x.l x.c r.a r.l r.c (r.l:Int) (i:Int)) (fun i w'=>i≤r.l∧Chg w1 w' none2) (fun i=>r.l-i) 0 ⟨rfl,rfl,rfl,rfl,trivial⟩ ⟨Nat.zero_le _,Chg.refl _ _⟩ ?_
 rintro i B2 wr K2 ⟨hi,hc⟩ hKn hKe _
 refine F21.t2 x.a x.l x.c r.a r.l r.c _ _ ⟨rfl,rfl,rfl,rfl,trivial⟩ fun B3=>bc_intro (fun h3=>?_) (fun h3 B4=>?_)
 ·have hlt:i<r.l:=by have:=dT h3; omega
  have cd:Chg w1 wr.drew none2:=hc.drew
  have x2:=cd.nt_none hx1
  have r2:=cd.nt_none hr.toNt
  exact rdC (k:=i) (x2.at_ (by have:=x2.lc; omega)) rfl (by omega) (x2.sg i (by omega)) (rdC (k:=i) (r2.at_ (by have:=r2.lc; omega)) rfl hlt (r2.sg i hlt) (bc_false (neF rfl) ⟨by unfold inI64; have:=r2.cm; have:=r2.lc; omega,fun B4=>hKn _ _ (i+1) ⟨rfl,rfl,rfl,intv (by omega),trivial⟩ rfl ⟨hlt,cd⟩ (by omega)⟩))
 ·refine hKe _ _ ?_
  show W Tryz.prog 29 F21.p1 _ wr _
  exact F21.t1 trivial fun B4 B5=>ret1 rfl rfl ⟨rfl,c1.trans' hc⟩
theorem c10 (x a:Sl) (X A:Nat) (w:World) (hgl:Glb w) (hx:Nz w x X) (ha:Hn w a A) (hl:a.l≤100000) (hXA:X=A) :
  Calls Tryz.prog 10 #[x.v,a.v] w fun e w'=>e=.returned (.bool true)∧Chg w w' none2:=by
 refine (F10.call x.a x.l x.c a.a a.l a.c w (fun v w'=>v=.bool true∧Chg w w' none2) fun B0=>?_).mono fun e w' ⟨v,h1,h2,h3⟩=>⟨by rw [h1,h2],h3⟩
 refine (c21 x a X A w hgl hx ha hl hXA).mono ?_
 rintro e1 w1 ⟨rfl,c1⟩
 exact ⟨_,rfl,fun B1=>ret1 rfl rfl ⟨rfl,c1⟩⟩
end Go.Proofs.YtlkjiiibmfpbcaaGreatDoor
namespace Go.Proofs.YtlkjiiibmfpbcaaGreatDoor
open Go
theorem c6 (k:Nat) (s:Sl) (f:Nat→Sl) (w:World) (hat:s.l≠0→s.a=some ⟨s.b,s.o,none⟩) (hl:s.l≤1000) (hf:∀ i,i<s.l→w.cell? ⟨s.b,s.o+i,none⟩=some (f i).v) :
  Calls Tryz.prog 6 #[.int .i64 (k:Int),s.v] w fun e w'=>∃ b:Bool,e=.returned (.bool b)∧(b=true→∀ i,i<s.l→(f i).l≤k)∧w'=w:=by
 refine (F6.call (k:Int) s.a s.l s.c w (fun v w'=>∃ b:Bool,v=.bool b∧(b=true→∀ i,i<s.l→(f i).l≤k)∧w'=w) fun B0 B1=>?_).mono fun e w' ⟨v,h1,b,h2,h3⟩=>⟨b,by rw [h1,h2],h3⟩
 rw [F6.q3]
 refine W_for' (σ:=Nat) (fun i=>F6.l2 (k:Int) s.a s.l s.c (s.l:Int) (i:Int)) (fun i w'=>i≤s.l∧w'=w∧∀ j,j<i→(f j).l≤k) (fun i=>s.l-i) 0 ⟨rfl,rfl,rfl,rfl,trivial⟩ ⟨Nat.zero_le _,rfl,fun j h=>by omega⟩ ?_
 rintro i B2 wr K2 ⟨hi,hw,hall⟩ hKn hKe hKr
 subst hw
 refine F6.t2 (k:Int) s.a s.l s.c _ _ ⟨rfl,rfl,rfl,rfl,trivial⟩ fun B3=>bc_intro (fun h3=>?_) (fun h3 B4=>?_)
 ·have hlt:i<s.l:=by have:=dT h3; omega
  refine ⟨s.b,s.o,hat (by omega),i,rfl,hlt,(f i).a,(f i).l,(f i).c,hf i hlt,bc_intro (fun h4 B5=>hKr _ _ ?_) (fun h4=>⟨by unfold inI64; omega,fun B5=>hKn _ _ (i+1) ⟨rfl,rfl,rfl,intv (by omega),trivial⟩ rfl ⟨hlt,rfl,fun j hj=>?_⟩ (by omega)⟩)⟩
  ·exact ret1 rfl rfl ⟨false,rfl,fun h=>absurd h (by decide),rfl⟩
  ·by_cases hji:j=i
   ·subst hji; have:=dF h4; omega
   ·exact hall j (by omega)
 ·have hil:i=s.l:=by have:=dF h3; omega
  refine hKe _ _ ?_
  show W Tryz.prog 18 F6.p1 _ wr _
  exact F6.t1 trivial fun B4 B5=>ret1 rfl rfl ⟨true,rfl,fun _ j hj=>hall j (by omega),rfl⟩
theorem info22:(Tryz.prog.info? 22).map (fun i=>(i.size,i.zero))=some (1,some (.slice none 0 0)):=by kernel_rfl
theorem buildL (w:World) (n:Nat) (parts:Array (Nat × Value)) (cells:Array Value) (h0:n≠0) (h1:n≤1000)
  (h:Instr.fill (fun i=>some (i*1,1)) ((Array.range (n*1)).map ((#[.slice none 0 0]:Array Value)[·%1]!)) parts.toList=some cells) :
  (Instr.buildSlice 37 n parts).run Tryz.prog w=.ok (.slice (some ⟨w.heap.size,0,none⟩) n n) (w.alloc (.cells cells 22)):=by
 cases hi:Tryz.prog.info? 22 with
 | none=>have:=info22; rw [hi] at this; simp at this
 | some ie =>
  have h2:=info22
  rw [hi] at h2
  simp only [Option.map_some,Option.some.injEq,Prod.mk.injEq] at h2
  refine run_buildSlice w 37 22 n parts cells ie (.slice none 0 0) Tryz.underlying37 hi h2.2 (by rw [h2.1]; omega) (by rw [h2.1]; omega) ?_
  rw [h2.1]
  exact h
theorem fillA1 (x:Value) (hx:x.cells=#[x]):Instr.fill (fun i=>some (i*1,1)) ((Array.range (1*1)).map ((#[.slice none 0 0]:Array Value)[·%1]!)) [(0,x)]=some #[x]:=by
 simp [Instr.fill,hx]
 apply Array.ext
 ·simp
 ·intro i h1 h2
  have h2:i<1:=by simpa using h2
  obtain rfl:i=0:=by omega
  simp
theorem build1L (w:World) (x:Sl):Sem.run Tryz.prog (Instr.buildSlice 37 1 #[(0,x.v)]) w=.ok (.slice (some ⟨w.heap.size,0,none⟩) 1 1) (w.alloc (.cells #[x.v] 22)) :=
 buildL w 1 _ _ (by omega) (by omega) (fillA1 x.v rfl)
end Go.Proofs.YtlkjiiibmfpbcaaGreatDoor
namespace Go.Proofs.YtlkjiiibmfpbcaaGreatDoor
open Go
theorem bb_le2 (k M:Nat) (h:64*k≤M):BB^k≤2^M:=by rw [BB2]; exact Nat.pow_le_pow_right (by omega) h
theorem lt_bb {X k:Nat} (h:X<BB^k) (M:Nat) (hk:k≤M):X<BB^M:=Nat.lt_of_lt_of_le h (Nat.pow_le_pow_right BB_pos hk)
theorem fig_len {b X n:Nat} (hb:2≤b) (hn:IsN b X n) (hX:X<BB^260):n≤1000000:=by
 rcases Nat.lt_or_ge 1000000 n with h | h
 ·exfalso
  have h1:=hn.2.2 (by omega)
  have h2:2^(n-1)≤b^(n-1):=Nat.pow_le_pow_left hb _
  have h4:=bb_le2 260 (n-1) (by omega)
  omega
 ·exact h
theorem c5 (x:Sl) (X u:Nat) (w:World) (hg:Glc w) {a:EofA} (hE:w.cell? ⟨0,0,none⟩=some (eof a)) (hx:Rd w x X) (hu:u<256) :
  Calls Tryz.prog 5 #[x.v,.int .u8 (u:Int)] w fun e w'=>e=.returned (.bool true)∧Qt w w':=by
 refine (F5.call x.a x.l x.c (u:Int) w (fun v w'=>v=.bool true∧Qt w w') fun B0=>bc_intro (fun h B1=>?_) (fun h1=>?_)).mono fun e w' ⟨v,h1,h2,h3⟩=>⟨by rw [h1,h2],h3⟩
 ·exact ret1 rfl rfl ⟨rfl,(Chg.refl _ _).qt⟩
 have hG:=hg.gb
 obtain ⟨b,hb⟩:∃ b,b=2+u%61:=⟨_,rfl⟩
 have eb:(2:Int)+IntKind.wrap .i64 (iRem (u:Int) 61)=(b:Int):=by
  rw [show iRem (u:Int) 61=((u%61:Nat):Int) from iRemN u 61,wrapIN _ (by omega)]; omega
 have hb2:2≤b:=by omega
 have hb62:b≤62:=by omega
 rw [eb]
 have a1:Chg w (w.alloc (.cells #[x.v] 22)) none2:=Chg.alloc _ _ (fun a=>RowKit.frozen?_alloc_cells _ _ _ _) _
 have hh:(w.alloc (.cells #[x.v] 22)).heap[w.heap.size]?=some (.cells #[x.v] 22 (0,0)):=heap_alloc_new ..
 obtain ⟨w1,hw1⟩:∃ w1,w1=w.alloc (.cells #[x.v] 22):=⟨_,rfl⟩
 refine ⟨by omega,by unfold inI64; omega,_,_,_,_,build1L w x,?_⟩
 rw [←hw1] at a1 hh ⊢
 refine (c6 260 ⟨some ⟨w.heap.size,0,none⟩,1,1,w.heap.size,0⟩ (fun _=>x) w1 (fun _=>rfl) (by show 1≤1000; omega) (fun i hi=>?_)).mono ?_
 ·have hi:i<1:=hi
  rw [cell_eq]
  show (match w1.heap[w.heap.size]? with
   | some (.cells c _ _)=>c[0+i]?
   | _=>none)=_
  rw [hh]
  obtain rfl:i=0:=by omega
  rfl
 rintro e1 w2 ⟨q,rfl,hq,hw⟩
 have hw:=hw.symm
 subst hw
 refine ⟨_,rfl,bc_intro (fun h B1=>ret1 rfl rfl ⟨rfl,a1.qt⟩) (fun h=>?_)⟩
 have lx:x.l≤260:=hq (by simpa using h) 0 (by show 0<1; omega)
 have hX:=lt_bb hx.lt 260 lx
 refine (c12 x X b w1 (a1.glc hg) (a1.qt.rd hx) lx hb2 hb62).mono ?_
 rintro e2 w2 ⟨n,hn,rfl,k2⟩
 have k02:=a1.qt.trans k2
 have g2:Glb w2:=k02.glb hg.toGlb
 refine ⟨_,rfl,c14 hb2 hb62 hn hX (fig_len hb2 hn hX) (strOf_figs (by omega) hb62) (k02.cell hE) g2 fun r w3 hr c3=>⟨_,_,_,trivial,_,trivial,rfl,bc_true rfl ?_⟩⟩
 have k03:=k02.trans c3.qt
 refine (c8 x X w3 (Nat.le_trans hG k03.size) (k03.rd hx) (by omega)).mono ?_
 rintro e4 w4 ⟨d,rfl,hd,ld,c4⟩
 have hr4:Nz w4 r X:={ c4.nt_none hr.toNt with nm:=hr.nm }
 have k04:=k03.trans c4.qt
 refine ⟨_,_,_,rfl,(c10 r d X X w4 (k04.glb hg.toGlb) hr4 hd (by omega) rfl).mono ?_⟩
 rintro e5 w5 ⟨rfl,c5'⟩
 exact ⟨_,rfl,fun B2=>ret1 rfl rfl ⟨rfl,k04.trans c5'.qt⟩⟩
end Go.Proofs.YtlkjiiibmfpbcaaGreatDoor
namespace Go.Proofs.YtlkjiiibmfpbcaaGreatDoor
open Go
open Go.ChangeShapes Go.WideShapes Go.ChangeAt Go.RowKit
theorem ownNone:ownKnob Tryz.prog.godebug=none:=by kernel_rfl
theorem laidOut:laidOutB Tryz.prog=true:=by kernel_rfl
def wordsV:List Int→Nat
 | []=>0
 | z :: zs=>z.toNat+BB*wordsV zs
theorem wordsV_lt:∀ zs:List Int,(∀ z∈zs,0≤z∧z<18446744073709551616)→wordsV zs<BB^zs.length
 | [],_=>by simp [wordsV]
 | z :: zs,h=>by
  have h1:=h z (by simp)
  have h2:=wordsV_lt zs fun y hy=>h y (by simp [hy])
  have h3:BB*wordsV zs+BB≤BB*BB^zs.length:=by rw [←Nat.mul_succ]; exact Nat.mul_le_mul_left _ h2
  simp only [wordsV,List.length_cons]
  rw [Nat.pow_succ,Nat.mul_comm (BB^zs.length)]
  have h4:BB=18446744073709551616:=rfl
  omega
theorem wordsV_dg:∀ (zs:List Int),(∀ z∈zs,0≤z∧z<18446744073709551616)→∀ i,i<zs.length→(dg (wordsV zs) i:Int)=zs.getD i 0
 | [],_,i,hi=>by simp at hi
 | z :: zs,h,i,hi=>by
  have h1:=h z (by simp)
  have hz:z.toNat<BB:=by have h4:BB=18446744073709551616:=rfl; omega
  cases i with
  | zero =>
   have:=dg_add_lo z.toNat (wordsV zs) 1 0 (by omega)
   rw [Nat.pow_one] at this
   simp only [wordsV]
   rw [this,dg_self _ hz]
   simp; omega
  | succ i =>
   have:=dg_add_hi z.toNat (wordsV zs) 1 i (by rw [Nat.pow_one]; exact hz)
   rw [Nat.pow_one,Nat.add_comm 1 i] at this
   simp only [wordsV]
   rw [this,wordsV_dg zs (fun y hy=>h y (by simp [hy])) i (by simpa using hi)]
   simp
theorem wf_u64 {z:Int} (h:(Lit.int .u64 z).wf=true):0≤z∧z<18446744073709551616:=by
 have:0≤z∧z≤18446744073709551615:=by simpa [Lit.wf,IntKind.min,IntKind.max,IntKind.signed,IntKind.bits] using h
 omega
theorem arg_rd {H:Type} {enc:TypeId × Value→H} {W:World} {a:Option Addr} {l c:Nat} {d:DataW H} {p:List MemPlace} (h:DataW.Trod enc Tryz.prog W 0 (fun _=>true) true 22 (.slice a l c) d p):∃ (s:Sl) (X:Nat),s.v=.slice a l c∧Rd W s X:=by
 obtain ⟨fuel,hf⟩:=h
 rcases open_ints Tryz.underlying22 Tryz.underlying38 (by kernel_rfl) hf with ⟨hcs,_⟩ | ⟨x,l',c',zs,hcs,_,hl,hm,hz,_,hcell,hwz⟩
 ·simp [Value.cells] at hcs
  obtain ⟨rfl,rfl,rfl⟩:=hcs
  exact ⟨⟨none,0,0,0,0⟩,0,rfl,fun h=>absurd rfl h,Sg.zero,BBpow_pos _⟩
 ·simp [Value.cells] at hcs
  obtain ⟨rfl,rfl,rfl⟩:=hcs
  have hz:zs.length=c:=by simpa using hz
  by_cases h0:l=0
  ·subst h0
   exact ⟨⟨some x,0,c,0,0⟩,0,rfl,fun h=>absurd rfl h,Sg.zero,BBpow_pos _⟩
  ·obtain ⟨b,off,spot⟩:=x
   have hc0:=hcell 0 (by omega)
   have hspot:spot=none:=by simpa [Addr.add] using World.cell?_spot hc0
   subst hspot
   have ht:∀ z∈zs.take l,0≤z∧z<18446744073709551616:=fun z hz=>wf_u64 (hwz z (List.mem_of_mem_take hz))
   have hlen:(zs.take l).length=l:=by rw [List.length_take]; omega
   refine ⟨⟨some ⟨b,off,none⟩,l,c,b,off⟩,wordsV (zs.take l),rfl,fun _=>rfl,fun i hi=>?_,?_⟩
   ·have hi:i<l:=hi
    have h1:=hcell i (by omega)
    rw [addr_add] at h1
    rw [wordsV_dg _ ht i (by omega),h1]
    simp [List.getD,List.getElem?_take,hi]
   ·have:=wordsV_lt _ ht
    rw [hlen] at this; exact this
theorem trodVars_len {H:Type} {enc:TypeId × Value→H} {P:Program} {w:World} {sp:Nat→Bool}:∀ {ns:List String} {gs:List (DataW H)} {ps:List MemPlace},DataW.TrodVars enc P w sp ns gs ps→gs.length=ns.length
 | [],[],_,_=>rfl
 | [],_ :: _,_,h=>h.elim
 | _ :: _,[],_,h=>h.elim
 | n :: ns,d :: ds,ps,h=>by
  obtain ⟨g,t,cs,fuel,p,q,h1,h2,h3,h4,hs,e⟩:=h
  simp [trodVars_len hs]
theorem laid_int {W:World} {n:String} {g:Nat} {k:Int} {cs:Array Value} {fuel:Nat} {p:List MemPlace} (hg:Tryz.prog.globalNamed n=some g) (hv:W.var? Tryz.prog n=some cs)
  (hd:DataW.trod (fun _=>()) Tryz.prog W 0 (fun _=>true) false fuel 3 cs.toList=some (.lit (.int .i64 k),p)):W.cell? ⟨g,0,none⟩=some (.int .i64 k):=by
 obtain ⟨z,e1,e2,_⟩:=DataW.trod_int Tryz.underlying3 hd
 have e3:k=z:=by
  have:=(Prod.mk.inj e2).1
  simp only [DataW.lit.injEq,Lit.int.injEq,true_and] at this
  exact this
 rw [World.var?_cell hg hv 0,e3]
 have:cs.toList[0]?=some (.int .i64 z):=by rw [e1]; rfl
 simpa using this
end Go.Proofs.YtlkjiiibmfpbcaaGreatDoor
