/- A bank's items picked by their places. -/
import Derived.Test.YtlkjiiibmfpbcaaGreatDoorS20
import Derived.Test.YtlkjiiibmfpbcaaGreatDoorS21
import Derived.Test.YtlkjiiibmfpbcaaGreatDoorS05
namespace Go.Proofs.YtlkjiiibmfpbcaaGreatDoor
open Go
def nthL:List Item→Nat→List Item
 | a :: _,0=>[a]
 | _ :: L,i+1=>nthL L i
 | [],_=>[]
def pk (L:List Item):List Nat→List Item
 | []=>[]
 | i :: r=>nthL L i++pk L r
def dropL:Nat→List Item→List Item
 | 0,L=>L
 | _+1,[]=>[]
 | n+1,_ :: L=>dropL n L
theorem nthL_mem:∀ {L:List Item} {i:Nat} {a:Item},a∈nthL L i→∃ h:i<L.length,L[i]=a
 | [],i,a,h=>by simp [nthL] at h
 | b :: L,0,a,h=>by simp [nthL] at h; exact ⟨by simp,h.symm⟩
 | b :: L,i+1,a,h=>by
  obtain ⟨h1,h2⟩:=nthL_mem (L:=L) (i:=i) h
  exact ⟨by simp; omega,by simpa using h2⟩
theorem nthL_one:∀ (L:List Item) (i:Nat),nthL L i=[]∨∃ a,nthL L i=[a]
 | [],i=>.inl rfl
 | b :: L,0=>.inr ⟨b,rfl⟩
 | b :: L,i+1=>nthL_one L i
theorem pk_mem {L:List Item}:∀ {is:List Nat} {a:Item},a∈pk L is→∃ i∈is,∃ h:i<L.length,L[i]=a
 | [],a,h=>by simp [pk] at h
 | i :: r,a,h=>by
  rcases List.mem_append.1 h with h | h
  ·exact ⟨i,by simp,nthL_mem h⟩
  ·obtain ⟨j,hj,h2⟩:=pk_mem h
   exact ⟨j,by simp [hj],h2⟩
theorem dropL_mem:∀ {n:Nat} {L:List Item} {a:Item},a∈dropL n L→∃ i,n≤i∧∃ h:i<L.length,L[i]=a
 | 0,L,a,h=>by
  obtain ⟨i,hi,e⟩:=List.getElem_of_mem (show a∈L from h)
  exact ⟨i,Nat.zero_le _,hi,e⟩
 | n+1,[],a,h=>by simp [dropL] at h
 | n+1,b :: L,a,h=>by
  obtain ⟨i,h1,h2,h3⟩:=dropL_mem (n:=n) (L:=L) h
  exact ⟨i+1,by omega,by simp; omega,by simpa using h3⟩
theorem dropL_sub:∀ (n:Nat) (L:List Item),(dropL n L).Sublist L
 | 0,L=>List.Sublist.refl _
 | n+1,[]=>List.Sublist.refl _
 | n+1,b :: L=>(dropL_sub n L).cons b
def okP (n:Nat):List Nat→Bool
 | []=>true
 | i :: r=>Nat.blt i n && !(r.elem i) && okP n r
theorem okP_lt {n:Nat}:∀ {is:List Nat},okP n is=true→∀ i∈is,i<n
 | [],_,i,h=>by simp at h
 | j :: r,h,i,hi=>by
  simp only [okP,Bool.and_eq_true] at h
  rcases List.mem_cons.1 hi with rfl | hi
  ·exact Nat.le_of_ble_eq_true h.1.1
  ·exact okP_lt h.2 i hi
theorem Bank.at_dj {w:World} {L:List Item} (h:Bank w L) {i j:Nat} (hi:i<L.length) (hj:j<L.length) (hij:i≠j):Dj L[i].fp L[j].fp:=by
 have hd:=List.pairwise_iff_getElem.1 h.dj
 rcases Nat.lt_or_ge i j with h1 | h1
 ·exact hd i j hi hj h1
 ·exact (hd j i hj hi (by omega)).symm
theorem Bank.pk_dj {w:World} {L:List Item} (h:Bank w L) {n:Nat}:∀ {is:List Nat},okP n is=true→(pk L is).Pairwise fun a b=>Dj a.fp b.fp
 | [],_=>.nil
 | i :: r,hk=>by
  simp only [okP,Bool.and_eq_true] at hk
  refine List.pairwise_append.2 ⟨?_,Bank.pk_dj h hk.2,fun a ha b hb=>?_⟩
  ·rcases nthL_one L i with e | ⟨a,e⟩ <;> rw [e] <;> simp
  ·obtain ⟨h1,rfl⟩:=nthL_mem ha
   obtain ⟨j,hj,h2,rfl⟩:=pk_mem hb
   refine h.at_dj h1 h2 fun e=>?_
   subst e
   simp [hj] at hk
theorem Bank.pick {w:World} {L:List Item} (h:Bank w L) (n:Nat) (is:List Nat) (hk:okP n is=true):Bank w (pk L is++dropL n L):=by
 refine ⟨fun a ha=>?_,List.pairwise_append.2 ⟨h.pk_dj hk,h.dj.sublist (dropL_sub n L),fun a ha b hb=>?_⟩⟩
 ·rcases List.mem_append.1 ha with ha | ha
  ·obtain ⟨i,_,h2,rfl⟩:=pk_mem ha
   exact h.all _ (List.getElem_mem h2)
  ·exact h.all a ((dropL_sub n L).subset ha)
 ·obtain ⟨i,h1,h2,rfl⟩:=pk_mem ha
  obtain ⟨j,h3,h4,rfl⟩:=dropL_mem hb
  have:=okP_lt hk i h1
  exact h.at_dj h2 h4 (by omega)
end Go.Proofs.YtlkjiiibmfpbcaaGreatDoor
namespace Go.Proofs.YtlkjiiibmfpbcaaGreatDoor
open Go
def nl (s:Sl) (V:Nat):Item where
 fp:=wds s
 P w:=Nt w s V
 keep h hc hd:=hc.nt h fun i hi=>hd _ _ ⟨rfl,by omega,by omega⟩
 old h hf:=by
  obtain ⟨rfl,h1,h2⟩:=hf
  exact h.toSt.blk (by have:=h.lc; omega)
def hole (S:Set2):Item where
 fp:=S
 P w:=∀ b i,S b i→b<w.heap.size
 keep h hc _:=fun b i hb=>Nat.lt_of_lt_of_le (h b i hb) hc.size
 old h hf:=h _ _ hf
theorem Bank.remap {w:World} {A A' L:List Item} (h:Bank w (A++L)) (hA:Bank w A') (hf:∀ a'∈A',∀ b i,a'.fp b i→∃ a∈A,a.fp b i):Bank w (A'++L) :=
 Bank.updN h (Chg.refl w none2) (fun _ _ _ h=>h.elim) hA fun a' ha' b i _ hm=>hf a' ha' b i hm
theorem Bank.one {w:World} {a:Item} (ha:a.P w):Bank w [a]:=⟨by simp [ha],by simp⟩
theorem Bank.map1 {w:World} {a a':Item} {L:List Item} (h:Bank w (a :: L)) (ha:a'.P w) (hf:∀ b i,a'.fp b i→a.fp b i):Bank w (a' :: L) :=
 Bank.remap (A:=[a]) (A':=[a']) h (Bank.one ha) fun x hx b i hm=>by
  simp only [List.mem_cons,List.not_mem_nil,or_false] at hx
  subst hx; exact ⟨a,by simp,hf b i hm⟩
theorem Bank.left {w:World} {A L:List Item} (h:Bank w (A++L)):Bank w A:=⟨fun a ha=>h.all a (List.mem_append_left _ ha),(List.pairwise_append.1 h.dj).1⟩
theorem Bank.m2 {w:World} {a b c:Item} {L:List Item} (h:Bank w (a :: L)) (hb:b.P w) (hc:c.P w) (hd:Dj b.fp c.fp) (h1:∀ x i,b.fp x i→a.fp x i) (h2:∀ x i,c.fp x i→a.fp x i):Bank w (b :: c :: L) :=
 Bank.remap (A:=[a]) (A':=[b,c]) h (Bank.two hb hc hd) fun y hy x i hm=>by
  simp only [List.mem_cons,List.not_mem_nil,or_false] at hy
  rcases hy with rfl | rfl
  ·exact ⟨a,by simp,h1 x i hm⟩
  ·exact ⟨a,by simp,h2 x i hm⟩
theorem Bank.j2 {w:World} {a b c:Item} {L:List Item} (h:Bank w (a :: b :: L)) (hc:c.P w) (h1:∀ x i,c.fp x i→a.fp x i∨b.fp x i):Bank w (c :: L) :=
 Bank.remap (A:=[a,b]) (A':=[c]) h (Bank.one hc) fun y hy x i hm=>by
  simp only [List.mem_cons,List.not_mem_nil,or_false] at hy
  subst hy
  rcases h1 x i hm with h | h
  ·exact ⟨a,by simp,h⟩
  ·exact ⟨b,by simp,h⟩
theorem St.sub_st {w:World} {s:Sl} (h:St w s) (i n:Nat) (hi:i≤n) (hn:n≤s.c):St w (s.sub i n):=by
 have hcm:=h.cm
 refine ⟨by show n-i≤s.c-i; omega,fun h0=>?_,h.wr.sub i (s.c-i) (by omega),fun h0=>h.pl (by have:s.c-i≠0:=h0; omega),by show s.c-i≤_; omega,h.gb⟩
 have h0:s.c-i≠0:=h0
 show shifted s.a i s.c 1=_
 rw [h.at_ (by omega),shifted_eq _ _ _ _ (by omega)]; rfl
theorem Nt.lo_nt {w:World} {s:Sl} {V:Nat} (h:Nt w s V) (k:Nat) (hk:k≤s.l):Nt w (s.to k) (V%BB^k) :=
 { h.toSt.to_st k (by have:=h.lc; omega) with sg:=(h.sg.le hk).mod,lt:=Nat.mod_lt _ (BBpow_pos k) }
theorem Nt.hi_nt {w:World} {s:Sl} {V:Nat} (h:Nt w s V) (k:Nat) (hk:k≤s.l):Nt w (s.sub k s.l) (V/BB^k) :=
 { h.toSt.sub_st k s.l hk h.lc with
  sg:=h.sg.hi k (s.l-k) (by omega),
  lt:=by show V/BB^k<BB^(s.l-k); rw [Nat.div_lt_iff_lt_mul (BBpow_pos k),←Nat.pow_add,Nat.sub_add_cancel hk]; exact h.lt }
theorem Nt.low {w:World} {s:Sl} {V:Nat} (h:Nt w s V) (k:Nat) (hk:k≤s.l) (hV:V<BB^k):Nt w (s.to k) V :=
 { h.toSt.to_st k (by have:=h.lc; omega) with sg:=h.sg.le hk,lt:=hV }
theorem Nt.join {w:World} {s:Sl} {A B k:Nat} (h1:Nt w (s.to k) A) (h2:Nt w (s.sub k s.l) B) (hk:k≤s.l):Nt w s (A+BB^k*B):=by
 have hA:A<BB^k:=h1.lt
 have hB:B<BB^(s.l-k):=h2.lt
 have l2:s.l-k≤s.c-k:=h2.lc
 have l1:k≤s.c:=h1.lc
 have h:=Sg.join (n:=k) (m:=s.l-k) h1.sg h2.sg hA
 rw [show k+(s.l-k)=s.l by omega] at h
 refine { lc:=by omega,at_:=h1.at_,wr:=h1.wr,pl:=h1.pl,cm:=h1.cm,gb:=h1.gb,sg:=h,lt:=?_ }
 have:BB^s.l=BB^k*BB^(s.l-k):=by rw [←Nat.pow_add]; congr 1; omega
 have h3:BB^k*(B+1)≤BB^k*BB^(s.l-k):=Nat.mul_le_mul_left _ hB
 rw [Nat.mul_succ] at h3
 omega
theorem cut_dj (s:Sl) (k:Nat):Dj (wds (s.to k)) (wds (s.sub k s.l)):=fun b i h1 h2=>by
 have h3:i<s.o+k:=h1.2.2
 have h4:s.o+k≤i:=h2.2.1
 omega
theorem cut_lo {s:Sl} {k:Nat} (hk:k≤s.l):∀ x i,wds (s.to k) x i→wds s x i:=fun x i h=>⟨h.1,h.2.1,by have:i<s.o+k:=h.2.2; omega⟩
theorem cut_hi {s:Sl} {k:Nat} (hk:k≤s.l):∀ x i,wds (s.sub k s.l) x i→wds s x i:=fun x i h=>⟨h.1,by have:s.o+k≤i:=h.2.1; omega,by have:i<s.o+k+(s.l-k):=h.2.2; omega⟩
theorem Bank.split {w:World} {s:Sl} {V:Nat} {L:List Item} (h:Bank w (nl s V :: L)) (k:Nat) (hk:k≤s.l):Bank w (nl (s.to k) (V%BB^k) :: nl (s.sub k s.l) (V/BB^k) :: L):=by
 have hn:Nt w s V:=h.head
 exact h.m2 (hn.lo_nt k hk) (hn.hi_nt k hk) (cut_dj s k) (cut_lo hk) (cut_hi hk)
theorem Bank.join {w:World} {s:Sl} {A B k:Nat} {L:List Item} (h:Bank w (nl (s.to k) A :: nl (s.sub k s.l) B :: L)) (hk:k≤s.l):Bank w (nl s (A+BB^k*B) :: L):=by
 have h1:Nt w (s.to k) A:=h.head
 have h2:Nt w (s.sub k s.l) B:=h.tail.head
 refine h.j2 (h1.join h2 hk) fun x i hm=>?_
 have e1:=hm.1; have e2:=hm.2.1; have e3:=hm.2.2
 rcases Nat.lt_or_ge i (s.o+k) with h3 | h3
 ·exact .inl ⟨e1,e2,h3⟩
 ·exact .inr ⟨e1,h3,by show i<s.o+k+(s.l-k); omega⟩
theorem Bank.norm {w:World} {s:Sl} {V k:Nat} {L:List Item} (h:Bank w (nl s V :: L)) (hk:k≤s.l) (hz:Nz w (s.to k) V):Bank w (nlz (s.to k) V :: nl (s.sub k s.l) 0 :: L):=by
 have hn:Nt w s V:=h.head
 have h2:=hn.hi_nt k hk
 rw [Nat.div_eq_of_lt (show V<BB^k from hz.lt)] at h2
 exact h.m2 hz h2 (cut_dj s k) (cut_lo hk) (cut_hi hk)
theorem Bank.unnorm {w:World} {s:Sl} {V k:Nat} {L:List Item} (h:Bank w (nlz (s.to k) V :: nl (s.sub k s.l) 0 :: L)) (hk:k≤s.l):Bank w (nl s V :: L):=by
 have h0:Nz w (s.to k) V:=h.head
 have h1:Bank w (nl (s.to k) V :: nl (s.sub k s.l) 0 :: L):=h.map1 h0.toNt fun _ _ h=>h
 have:=h1.join hk
 rwa [Nat.mul_zero,Nat.add_zero] at this
theorem Bank.keepz {w w':World} {p:Nat} {ng ng':Bool} {s r:Sl} {V':Nat} {a:Item} {L:List Item} (h:Bank w (hdr p ng s :: a :: L)) (ta:Tg a s) (h':Bank w' (hdr p ng' r :: nmz r V' :: L)) (hs:w.heap.size≤w'.heap.size) :
  Bank w' (hdr p ng' r :: nlz r V' :: hole (fun b i=>fp s b i∧¬wds r b i) :: L):=by
 have hst:St w s:=ta.st h.tail.head
 have hz:Nz w' r V':=h'.tail.head
 have hold:∀ b i,fp s b i→b<w.heap.size:=fun b i hm=>by
  obtain ⟨rfl,h1,h2⟩:=hm
  exact hst.blk (by omega)
 have b1:Bank w' (hdr p ng' r :: nlz r V' :: L):=by
  have:=(h'.perm (List.Perm.swap _ _ _)).map1 (a':=nlz r V') hz (wds_fp hz.lc)
  exact this.perm (List.Perm.swap _ _ _)
 refine ⟨fun x hx=>?_,?_⟩
 ·simp only [List.mem_cons] at hx
  rcases hx with rfl | rfl | rfl | hx
  ·exact b1.head
  ·exact hz
  ·exact fun b i hm=>Nat.lt_of_lt_of_le (hold b i hm.1) hs
  ·exact b1.all x (by simp [hx])
 ·refine List.pairwise_cons.2 ⟨fun x hx=>?_,List.pairwise_cons.2 ⟨fun x hx=>?_,List.pairwise_cons.2 ⟨fun x hx=>?_,h.tail.tail.dj⟩⟩⟩
  ·simp only [List.mem_cons] at hx
   rcases hx with rfl | rfl | hx
   ·exact b1.hdj (b:=nlz r V') (by simp)
   ·intro b i h1 h2
    have hd:=h.hdj (b:=a) (by simp)
    rw [ta.fp] at hd
    exact hd b i h1 h2.1
   ·exact b1.hdj (by simp [hx])
  ·simp only [List.mem_cons] at hx
   rcases hx with rfl | hx
   ·exact fun b i h1 h2=>h2.2 h1
   ·exact b1.tail.hdj hx
  ·intro b i h1 h2
   have hd:=h.tail.hdj hx
   rw [ta.fp] at hd
   exact hd b i h1.1 h2
theorem Bank.carve {w:World} {S:Set2} {t:Sl} {L:List Item} (h:Bank w (hole S :: L)) (ht:St w t) (hS:∀ b i,fp t b i→S b i):Bank w (sto t :: hole (fun b i=>S b i∧¬fp t b i) :: L) :=
 h.m2 ht (fun b i hm=>(h.head:(hole S).P w) b i hm.1) (fun b i h1 h2=>h2.2 h1) hS fun b i hm=>hm.1
theorem takeB {w:World} {K:SK} {n:Nat} {L:List Item} (h:Bank w (stk K :: L)) (hn:n≤4398046511104) (hL:K.s.l≤2199023255552) {Q:Ending→World→Prop}
  (q:∀ (x:Sl) (K':SK) w',x.l=n→Bank w' (stk K' :: sto x :: L)→K'.a=K.a→K'.s.l≤K.s.l+n+4→Nxt w K K'→(∀ b i,b<w.heap.size→fp x b i→K.free b i)→Chg w w' K.free→Q (.returned x.v) w') :
  Calls Tryz.prog 104 #[.pointer K.a,.int .i64 (n:Int)] w Q:=by
 refine (c104 w K h.head n hn hL).mono ?_
 rintro e w' ⟨_,rfl,x,K',rfl,h1,h2,h3,h4,h5,h6,h7,h8⟩
 have hx:∀ b i,b<w.heap.size→fp x b i→K.free b i:=fun b i hb hm=>by
  obtain ⟨e1,e2,e3⟩:=hm
  rcases h4 i e2 e3 with h | h
  ·rw [e1]; exact h
  ·omega
 refine q x K' w' h1 ?_ (by unfold SK.a; rw [h6.p]) h8 h6 hx h7
 refine Bank.updN (A:=[stk K]) (A':=[stk K',sto x]) h h7 (fun b i _ hm=>⟨stk K,by simp,hm⟩) (Bank.two h5 h2 h3.dj) fun a' ha' b i hb hf=>⟨stk K,by simp,?_⟩
 simp only [List.mem_cons,List.not_mem_nil,or_false] at ha'
 rcases ha' with rfl | rfl
 ·exact stk_sub h6 b i hb hf
 ·exact hx b i hb hf
theorem clearB {w:World} {z:Sl} {a:Item} {L:List Item} (h:Bank w (a :: L)) (hz:St w z) (ha:∀ b i,wds z b i→a.fp b i) :
  ∃ w',Sem.run Tryz.prog (builtin .clear #[45] 0 #[false] #[z.v]) w=.ok (.value undef) w'∧Bank w' (nl z 0 :: L)∧Chg w w' (wds z):=by
 obtain ⟨w1,r1,r2,r3⟩:=clearW 45 Tryz.underlying45 z w hz.wt
 refine ⟨w1,r1,?_,r3⟩
 exact h.upd r3 (fun b i _ hm=>ha b i hm) { r3.st hz with sg:=r2,lt:=BBpow_pos _ } fun b i _ hm=>ha b i hm
theorem normB {w:World} {s:Sl} {V:Nat} (h:Nt w s V) {Q:Ending→World→Prop} (q:∀ k,k≤s.l→Nz w (s.to k) V→Q (.returned (s.to k).v) w):Calls Tryz.prog 46 #[s.v] w Q:=by
 refine (c46 s V w h (by have:=h.lc; have:=h.cm; omega)).mono ?_
 rintro e w3 ⟨_,rfl,k,hk,rfl,hw,hnz⟩
 have hw:=hw.symm
 subst hw
 exact q k hk hnz
end Go.Proofs.YtlkjiiibmfpbcaaGreatDoor
namespace Go.Proofs.YtlkjiiibmfpbcaaGreatDoor
open Go
set_option maxRecDepth 100000
set_option linter.unusedVariables false
namespace F116
noncomputable def body:Code:=bodyOf Tryz.f116
def kt:List (Nat × List Nat):=[(3,[0,1,2,6]),(6,[0,1,2,7]),(7,[0,1,7,8,9])]
noncomputable def p1:Code:=sb 2 3 body
noncomputable def p2:Code:=sb 5 31 body
noncomputable def p3:Code:=sb 5 30 body
variable (D0 A1:Option Addr) (N1 C1:Nat) (A2:Option Addr) (I7:Int) (N2:Nat) (D8:Option Addr) (C2:Nat) (D9:Option Addr) (I6:Int)
abbrev l0:List (Nat × Value):=[eP 0 D0,eS 1 A1 N1 C1,eS 2 A2 N2 C2]
def v0:VP:=fun B ds w K=>inI64 (2*(N2:Int))∧bc ((N1:Int) != ((2*(N2:Int)):Int)) False (Wd 138 p1 [eP 0 D0,eS 1 A1 N1 C1,eS 2 A2 N2 C2,eI 6 (N2:Int)] ds w K)
theorem t0:VZ 138 body (l0 D0 A1 N1 C1 A2 N2 C2) (v0 D0 A1 N1 C1 A2 N2 C2):=tz kt [] fun B ds w K=>by kernel_rfl
theorem call:VCl 116 [] #[.pointer D0,.slice A1 N1 C1,.slice A2 N2 C2] (v0 D0 A1 N1 C1 A2 N2 C2):=cz Tryz.func116 (by kernel_rfl) Tryz.ntmps116 Tryz.results116 (by kernel_rfl) (t0 D0 A1 N1 C1 A2 N2 C2)
abbrev l1:List (Nat × Value):=[eP 0 D0,eS 1 A1 N1 C1,eS 2 A2 N2 C2,eI 6 I6]
def v1:VP:=fun B ds w K=>∃ x1,w.cell? ⟨4,0,none⟩=some (.int .i64 x1)∧bc (decide (I6<(x1:Int))) (Cl 115 #[(.pointer D0),(.slice A1 N1 C1),(.slice A2 N2 C2)] w fun r2 w3=>r2=.returned undef∧Kd K .ret [] ds w3) (bc (decide (I6<(2:Int))) (Cl 115 #[(.pointer D0),(.slice A1 N1 C1),(.slice A2 N2 C2)] w fun r5 w6=>r5=.returned undef∧Kd K .ret [] ds w6) (inI64 (I6+1)∧2≠(0:Int)∧Wd 138 p3 [eP 0 D0,eS 1 A1 N1 C1,eS 2 A2 N2 C2,eI 7 (iQuo .i64 (I6+1) 2)] ds w (thenW Tryz.prog 138 p2 K)))
theorem t1:VT 138 p1 (l1 D0 A1 N1 C1 A2 N2 C2 I6) (v1 D0 A1 N1 C1 A2 N2 C2 I6):=tw kt [] fun B ds w K=>by kernel_rfl
abbrev l2:List (Nat × Value):=[eP 0 D0,eS 1 A1 N1 C1,eI 7 I7,eP 8 D8,eP 9 D9]
def v2:VP:=fun B ds w K=>inI64 (2*I7)∧∃ i1 h2:Nat,0=(i1:Int)∧(2*I7)=(h2:Int)∧i1≤h2∧h2≤C1∧inI64 (2*I7)∧∃ i4:Nat,(2*I7)=(i4:Int)∧i4≤N1∧Cl 103 #[(.pointer D0)] (World.alloc (World.alloc w (.cells #[(.bool false),(.slice (shifted A1 i1 C1 1) (h2-i1) (C1-i1))] 47)) (.cells #[(.bool false),(.slice (shifted A1 i4 C1 1) (N1-i4) (C1-i4))] 47)) fun r7 w8=>∃ x9,r7=.returned (.int .i64 x9)∧inI64 (2*I7)∧inI64 ((2*I7)+1)∧Cl 104 #[(.pointer D0),(.int .i64 ((2*I7)+1))] w8 fun r10 w11=>∃ x12a,∃ x12l,∃ x12c,r10=.returned (.slice x12a x12l x12c)∧∃ i13 h14:Nat,0=(i13:Int)∧I7=(h14:Int)∧i13≤h14∧h14≤C1∧Cl 97 #[(.pointer (some ⟨(World.heap (World.alloc w11 (.cells #[(.bool false),(.slice x12a x12l x12c)] 47))).size,0,none⟩)),(.pointer D8),(.pointer D9)] (World.alloc (World.alloc w11 (.cells #[(.bool false),(.slice x12a x12l x12c)] 47)) (.cells #[(.bool false),(.slice (shifted A1 i13 C1 1) (h14-i13) (C1-i13))] 47)) fun r16 w17=>∃ x18,r16=.returned (.pointer x18)∧nc (some ⟨(World.heap w11).size,0,none⟩) fun b19 o20=>∃ x21a,∃ x21l,∃ x21c,w17.drew.cell? ⟨b19,o20+1,none⟩=some (.slice x21a x21l x21c)∧nc (some ⟨(World.heap (World.alloc w11 (.cells #[(.bool false),(.slice x12a x12l x12c)] 47))).size,0,none⟩) fun b22 o23=>∃ x24a,∃ x24l,∃ x24c,w17.drew.cell? ⟨b22,o23+1,none⟩=some (.slice x24a x24l x24c)∧Cl 79 #[(.slice x21a x21l x21c),(.pointer D0),(.slice x24a x24l x24c)] w17.drew fun r25 w26=>∃ x27a,∃ x27l,∃ x27c,r25=.returned (.slice x27a x27l x27c)∧nc (some ⟨(World.heap w11).size,0,none⟩) fun b28 o29=>(∃ u30,w26.cell? ⟨b28,o29+1,none⟩=some u30)∧w26.frozen? ⟨b28,o29+1,none⟩=false∧nc (some ⟨(World.heap w11).size,0,none⟩) fun b31 o32=>(∃ u33,World.cell? (w26.setCell ⟨b28,o29+1,none⟩ (.slice x27a x27l x27c)) ⟨b31,o32+0,none⟩=some u33)∧World.frozen? (w26.setCell ⟨b28,o29+1,none⟩ (.slice x27a x27l x27c)) ⟨b31,o32+0,none⟩=false∧∃ w34,Sem.run Tryz.prog (builtin .clear #[45] 0 #[false] #[(.slice A1 N1 C1)]) (World.setCell (w26.setCell ⟨b28,o29+1,none⟩ (.slice x27a x27l x27c)) ⟨b31,o32+0,none⟩ (.bool true))=.ok (.value undef) w34∧nc (some ⟨(World.heap w).size,0,none⟩) fun b35 o36=>∃ x37a,∃ x37l,∃ x37c,w34.drew.cell? ⟨b35,o36+1,none⟩=some (.slice x37a x37l x37c)∧nc D8 fun b38 o39=>∃ x40a,∃ x40l,∃ x40c,w34.drew.cell? ⟨b38,o39+1,none⟩=some (.slice x40a x40l x40c)∧Cl 79 #[(.slice x37a x37l x37c),(.pointer D0),(.slice x40a x40l x40c)] w34.drew fun r41 w42=>∃ x43a,∃ x43l,∃ x43c,r41=.returned (.slice x43a x43l x43c)∧nc (some ⟨(World.heap w).size,0,none⟩) fun b44 o45=>(∃ u46,w42.cell? ⟨b44,o45+1,none⟩=some u46)∧w42.frozen? ⟨b44,o45+1,none⟩=false∧nc (some ⟨(World.heap (World.alloc w (.cells #[(.bool false),(.slice (shifted A1 i1 C1 1) (h2-i1) (C1-i1))] 47))).size,0,none⟩) fun b47 o48=>∃ x49a,∃ x49l,∃ x49c,World.cell? (World.drew (w42.setCell ⟨b44,o45+1,none⟩ (.slice x43a x43l x43c))) ⟨b47,o48+1,none⟩=some (.slice x49a x49l x49c)∧nc D9 fun b50 o51=>∃ x52a,∃ x52l,∃ x52c,World.cell? (World.drew (w42.setCell ⟨b44,o45+1,none⟩ (.slice x43a x43l x43c))) ⟨b50,o51+1,none⟩=some (.slice x52a x52l x52c)∧Cl 79 #[(.slice x49a x49l x49c),(.pointer D0),(.slice x52a x52l x52c)] (World.drew (w42.setCell ⟨b44,o45+1,none⟩ (.slice x43a x43l x43c))) fun r53 w54=>∃ x55a,∃ x55l,∃ x55c,r53=.returned (.slice x55a x55l x55c)∧nc (some ⟨(World.heap (World.alloc w (.cells #[(.bool false),(.slice (shifted A1 i1 C1 1) (h2-i1) (C1-i1))] 47))).size,0,none⟩) fun b56 o57=>(∃ u58,w54.cell? ⟨b56,o57+1,none⟩=some u58)∧w54.frozen? ⟨b56,o57+1,none⟩=false∧Cl 70 #[(.pointer (some ⟨(World.heap w11).size,0,none⟩)),(.pointer (some ⟨(World.heap w11).size,0,none⟩)),(.pointer (some ⟨(World.heap w).size,0,none⟩))] (w54.setCell ⟨b56,o57+1,none⟩ (.slice x55a x55l x55c)) fun r59 w60=>∃ x61,r59=.returned (.pointer x61)∧Cl 70 #[(.pointer (some ⟨(World.heap w11).size,0,none⟩)),(.pointer (some ⟨(World.heap w11).size,0,none⟩)),(.pointer (some ⟨(World.heap (World.alloc w (.cells #[(.bool false),(.slice (shifted A1 i1 C1 1) (h2-i1) (C1-i1))] 47))).size,0,none⟩))] w60 fun r62 w63=>∃ x64,r62=.returned (.pointer x64)∧∃ i65:Nat,I7=(i65:Int)∧i65≤N1∧nc (some ⟨(World.heap w11).size,0,none⟩) fun b68 o69=>∃ x70a,∃ x70l,∃ x70c,w63.drew.cell? ⟨b68,o69+1,none⟩=some (.slice x70a x70l x70c)∧Cl 119 #[(.slice (shifted A1 i65 C1 1) (N1-i65) (C1-i65)),(.slice x70a x70l x70c)] w63.drew fun r71 w72=>r71=.returned undef∧Kd K .normal [] (⟨.fn (.func 102) #[],#[(.pointer D0),(.int .i64 x9)]⟩ :: ds) w72
theorem t2:VT 138 p2 (l2 D0 A1 N1 C1 I7 D8 D9) (v2 D0 A1 N1 C1 I7 D8 D9):=tw kt [] fun B ds w K=>by kernel_rfl
end F116
namespace F118
noncomputable def body:Code:=bodyOf Tryz.f118
def kt:List (Nat × List Nat):=[(3,[0,1,2,3,8]),(6,[0,1,2,3,9]),(7,[0,1,3,9,10,11]),(8,[0,1,9,10,11,12,13])]
noncomputable def p1:Code:=sb 2 3 body
noncomputable def p2:Code:=sb 5 31 body
noncomputable def p3:Code:=sb 5 30 body
noncomputable def p4:Code:=sb 6 63 body
noncomputable def p5:Code:=sb 6 62 body
variable (D0 A1:Option Addr) (N1 C1:Nat) (A2:Option Addr) (N2 C2:Nat) (A3:Option Addr) (N3 C3:Nat) (I8 I9:Int) (D10 D11 D12 D13:Option Addr)
abbrev l0:List (Nat × Value):=[eP 0 D0,eS 1 A1 N1 C1,eS 2 A2 N2 C2,eS 3 A3 N3 C3]
def v0:VP:=fun B ds w K=>bc ((N2:Int) != (N3:Int)) False (inI64 (2*(N3:Int))∧bc ((N1:Int) != ((2*(N3:Int)):Int)) False (Wd 145 p1 [eP 0 D0,eS 1 A1 N1 C1,eS 2 A2 N2 C2,eS 3 A3 N3 C3,eI 8 (N3:Int)] ds w K))
theorem t0:VZ 145 body (l0 D0 A1 N1 C1 A2 N2 C2 A3 N3 C3) (v0 D0 A1 N1 C1 A2 N2 C2 A3 N3 C3):=tz kt [] fun B ds w K=>by kernel_rfl
theorem call:VCl 118 [] #[.pointer D0,.slice A1 N1 C1,.slice A2 N2 C2,.slice A3 N3 C3] (v0 D0 A1 N1 C1 A2 N2 C2 A3 N3 C3):=cz Tryz.func118 (by kernel_rfl) Tryz.ntmps118 Tryz.results118 (by kernel_rfl) (t0 D0 A1 N1 C1 A2 N2 C2 A3 N3 C3)
abbrev l1:List (Nat × Value):=[eP 0 D0,eS 1 A1 N1 C1,eS 2 A2 N2 C2,eS 3 A3 N3 C3,eI 8 I8]
def v1:VP:=fun B ds w K=>∃ x1,w.cell? ⟨5,0,none⟩=some (.int .i64 x1)∧bc (decide (I8<(x1:Int))) (Cl 114 #[(.slice A1 N1 C1),(.slice A2 N2 C2),(.slice A3 N3 C3)] w fun r2 w3=>r2=.returned undef∧Kd K .ret [] ds w3) (bc (decide (I8<(2:Int))) (Cl 114 #[(.slice A1 N1 C1),(.slice A2 N2 C2),(.slice A3 N3 C3)] w fun r5 w6=>r5=.returned undef∧Kd K .ret [] ds w6) (inI64 (I8+1)∧2≠(0:Int)∧Wd 145 p3 [eP 0 D0,eS 1 A1 N1 C1,eS 2 A2 N2 C2,eS 3 A3 N3 C3,eI 9 (iQuo .i64 (I8+1) 2)] ds w (thenW Tryz.prog 145 p2 K)))
theorem t1:VT 145 p1 (l1 D0 A1 N1 C1 A2 N2 C2 A3 N3 C3 I8) (v1 D0 A1 N1 C1 A2 N2 C2 A3 N3 C3 I8):=tw kt [] fun B ds w K=>by kernel_rfl
abbrev l2:List (Nat × Value):=[eP 0 D0,eS 1 A1 N1 C1,eS 3 A3 N3 C3,eI 9 I9,eP 10 D10,eP 11 D11]
def v2:VP:=fun B ds w K=>Wd 145 p5 [eP 0 D0,eS 1 A1 N1 C1,eS 3 A3 N3 C3,eI 9 I9,eP 10 D10,eP 11 D11] ds w (thenW Tryz.prog 145 p4 K)
theorem t2:VT 145 p2 (l2 D0 A1 N1 C1 A3 N3 C3 I9 D10 D11) (v2 D0 A1 N1 C1 A3 N3 C3 I9 D10 D11):=tw kt [] fun B ds w K=>by kernel_rfl
abbrev l4:List (Nat × Value):=[eP 0 D0,eS 1 A1 N1 C1,eI 9 I9,eP 10 D10,eP 11 D11,eP 12 D12,eP 13 D13]
def v4:VP:=fun B ds w K=>inI64 (2*I9)∧∃ i1 h2:Nat,0=(i1:Int)∧(2*I9)=(h2:Int)∧i1≤h2∧h2≤C1∧inI64 (2*I9)∧∃ i4:Nat,(2*I9)=(i4:Int)∧i4≤N1∧Cl 103 #[(.pointer D0)] (World.alloc (World.alloc w (.cells #[(.bool false),(.slice (shifted A1 i1 C1 1) (h2-i1) (C1-i1))] 47)) (.cells #[(.bool false),(.slice (shifted A1 i4 C1 1) (N1-i4) (C1-i4))] 47)) fun r7 w8=>∃ x9,r7=.returned (.int .i64 x9)∧inI64 (2*I9)∧inI64 ((2*I9)+1)∧Cl 104 #[(.pointer D0),(.int .i64 ((2*I9)+1))] w8 fun r10 w11=>∃ x12a,∃ x12l,∃ x12c,r10=.returned (.slice x12a x12l x12c)∧∃ i13 h14:Nat,0=(i13:Int)∧I9=(h14:Int)∧i13≤h14∧h14≤C1∧inI64 (2*I9)∧∃ i16 h17:Nat,I9=(i16:Int)∧(2*I9)=(h17:Int)∧i16≤h17∧h17≤C1∧Cl 97 #[(.pointer (some ⟨(World.heap (World.alloc w11 (.cells #[(.bool false),(.slice x12a x12l x12c)] 47))).size,0,none⟩)),(.pointer D10),(.pointer D11)] (World.alloc (World.alloc (World.alloc w11 (.cells #[(.bool false),(.slice x12a x12l x12c)] 47)) (.cells #[(.bool false),(.slice (shifted A1 i13 C1 1) (h14-i13) (C1-i13))] 47)) (.cells #[(.bool false),(.slice (shifted A1 i16 C1 1) (h17-i16) (C1-i16))] 47)) fun r19 w20=>∃ x21,r19=.returned (.pointer x21)∧Cl 97 #[(.pointer (some ⟨(World.heap (World.alloc (World.alloc w11 (.cells #[(.bool false),(.slice x12a x12l x12c)] 47)) (.cells #[(.bool false),(.slice (shifted A1 i13 C1 1) (h14-i13) (C1-i13))] 47))).size,0,none⟩)),(.pointer D13),(.pointer D12)] w20 fun r22 w23=>∃ x24,r22=.returned (.pointer x24)∧Cl 149 #[(.pointer (some ⟨(World.heap w11).size,0,none⟩)),(.pointer D0),(.pointer (some ⟨(World.heap (World.alloc w11 (.cells #[(.bool false),(.slice x12a x12l x12c)] 47))).size,0,none⟩)),(.pointer (some ⟨(World.heap (World.alloc (World.alloc w11 (.cells #[(.bool false),(.slice x12a x12l x12c)] 47)) (.cells #[(.bool false),(.slice (shifted A1 i13 C1 1) (h14-i13) (C1-i13))] 47))).size,0,none⟩))] w23 fun r25 w26=>r25=.returned undef∧∃ w27,Sem.run Tryz.prog (builtin .clear #[45] 0 #[false] #[(.slice A1 N1 C1)]) w26=.ok (.value undef) w27∧Cl 149 #[(.pointer (some ⟨(World.heap w).size,0,none⟩)),(.pointer D0),(.pointer D10),(.pointer D12)] w27 fun r28 w29=>r28=.returned undef∧Cl 149 #[(.pointer (some ⟨(World.heap (World.alloc w (.cells #[(.bool false),(.slice (shifted A1 i1 C1 1) (h2-i1) (C1-i1))] 47))).size,0,none⟩)),(.pointer D0),(.pointer D11),(.pointer D13)] w29 fun r30 w31=>r30=.returned undef∧Cl 70 #[(.pointer (some ⟨(World.heap w11).size,0,none⟩)),(.pointer (some ⟨(World.heap w11).size,0,none⟩)),(.pointer (some ⟨(World.heap w).size,0,none⟩))] w31 fun r32 w33=>∃ x34,r32=.returned (.pointer x34)∧Cl 70 #[(.pointer (some ⟨(World.heap w11).size,0,none⟩)),(.pointer (some ⟨(World.heap w11).size,0,none⟩)),(.pointer (some ⟨(World.heap (World.alloc w (.cells #[(.bool false),(.slice (shifted A1 i1 C1 1) (h2-i1) (C1-i1))] 47))).size,0,none⟩))] w33 fun r35 w36=>∃ x37,r35=.returned (.pointer x37)∧∃ i38:Nat,I9=(i38:Int)∧i38≤N1∧nc (some ⟨(World.heap w11).size,0,none⟩) fun b41 o42=>∃ x43a,∃ x43l,∃ x43c,w36.drew.cell? ⟨b41,o42+1,none⟩=some (.slice x43a x43l x43c)∧Cl 119 #[(.slice (shifted A1 i38 C1 1) (N1-i38) (C1-i38)),(.slice x43a x43l x43c)] w36.drew fun r44 w45=>r44=.returned undef∧Kd K .normal [] (⟨.fn (.func 102) #[],#[(.pointer D0),(.int .i64 x9)]⟩ :: ds) w45
theorem t4:VT 145 p4 (l4 D0 A1 N1 C1 I9 D10 D11 D12 D13) (v4 D0 A1 N1 C1 I9 D10 D11 D12 D13):=tw kt [] fun B ds w K=>by kernel_rfl
end F118
end Go.Proofs.YtlkjiiibmfpbcaaGreatDoor
namespace Go.Proofs.YtlkjiiibmfpbcaaGreatDoor
open Go
theorem c119 (z x:Sl) (Z X:Nat) (w:World) (hz:Nt w z Z) (hx:Rd w x X) (hxc:x.l≤x.c) (hl:x.l≤z.l) (ap:Sp z.b z.o z.l x.b x.o x.l) (hs:Z+X<BB^z.l) :
  Calls Tryz.prog 119 #[z.v,x.v] w fun e w'=>e=.returned undef∧Nt w' z (Z+X)∧Chg w w' (inR z.b z.o (z.o+z.l)):=by
 have hlc:=hz.lc
 have hcm:=hz.cm
 refine (F119.call z.a z.l z.c x.a x.l x.c w (fun v w'=>v=undef∧Nt w' z (Z+X)∧Chg w w' (inR z.b z.o (z.o+z.l))) fun B=>bc_intro (fun h=>?_) (fun h B1=>?_)).mono fun e w' ⟨v,h1,h2,h3⟩=>⟨by rw [h1,h2],h3⟩
 ·have h0:0<x.l:=by have:=dT h; omega
  refine ⟨x.l,rfl,by omega,x.l,rfl,by omega,x.l,rfl,hxc,?_⟩
  have cd:Chg w w.drew none2:=Chg.drew0 w _
  have hzd:=cd.nt_none hz
  have hxd:Rd w.drew x X:=cd.rd hx (fun _ _ h=>h)
  have hov:Ov (z.to x.l) x:=by
   unfold Sp at ap
   show x.l=0∨x.b≠z.b∨z.o≤x.o∨x.o+x.l≤z.o
   omega
  refine Vec.pass (c138 (z.to x.l) (z.to x.l) x (Z%BB^x.l) X w.drew (hzd.toSt.to_wt x.l (by omega)) (hzd.lo x.l hl) hxd rfl rfl (.inr (.inr (.inl (Nat.le_refl _)))) hov) fun c Y w1 ⟨hT,hc1⟩ hY hYs hch=>?_
  have hT:Y+BB^x.l*c=Z%BB^x.l+X:=hT
  have hY:Y<BB^x.l:=hY
  have hYs:Sg w1 z.b z.o x.l Y:=hYs
  have hch:Chg w.drew w1 (inR z.b z.o (z.o+x.l)):=hch
  have hsplit:=Nat.mod_add_div Z (BB^x.l)
  have hzl:BB^z.l=BB^x.l*BB^(z.l-x.l):=by rw [←Nat.pow_add]; congr 1; omega
  have hhi1:Sg w1 z.b (z.o+x.l) (z.l-x.l) (Z/BB^x.l):=hch.sg (hzd.sg.hi x.l (z.l-x.l) (by omega)) fun i _ hm=>by have:=hm.2.2; omega
  have cw1:Chg w w1 (inR z.b z.o (z.o+z.l)):=cd.trans hch (fun _ _ _ h=>h.elim) (fun b i _ hm=>⟨hm.1,hm.2.1,by have:=hm.2.2; omega⟩)
  have fin:∀ (w':World) (U:Nat),Chg w w' (inR z.b z.o (z.o+z.l))→Sg w' z.b z.o x.l Y→Sg w' z.b (z.o+x.l) (z.l-x.l) U→Y+BB^x.l*U=Z+X→Nt w' z (Z+X):=fun w' U hcw s1 s2 he=>by
   have hj:=s1.join s2 hY
   rw [show x.l+(z.l-x.l)=z.l by omega,he] at hj
   exact { hcw.st hz.toSt with sg:=hj,lt:=hs }
  refine ⟨_,rfl,bc_intro (fun h2=>?_) (fun h2 B2=>?_)⟩
  ·have hcn:c=1:=by have:=neN h2; omega
   subst hcn
   refine bc_intro (fun h3=>?_) (fun h3 B3=>?_)
   ·have h3:=dT h3
    refine ⟨x.l,rfl,hl,x.l,rfl,hl,?_⟩
    have cd1:Chg w1 w1.drew none2:=Chg.drew0 w1 _
    have zS1:=cw1.st hz.toSt
    have hrd:Rd w1.drew (z.sub x.l z.l) (Z/BB^x.l):=by
     refine ⟨fun h0=>at_sub zS1.at_ hlc h0,?_,?_⟩
     ·exact cd1.sg hhi1 fun _ _ h=>h
     ·show Z/BB^x.l<BB^(z.l-x.l)
      rw [Nat.div_lt_iff_lt_mul (BBpow_pos _),Nat.mul_comm,←hzl]; exact hz.lt
    refine Vec.pass (c139 (z.sub x.l z.l) (z.sub x.l z.l) (Z/BB^x.l) 1 w1.drew ((cd1.st zS1).sub_wt x.l z.l hl hlc) hrd rfl (.inr (.inr (.inl (Nat.le_refl _)))) (by show z.l-x.l≤z.c-x.l; omega) (by show z.l-x.l≤z.c-x.l; omega)
     (fun _=>(cd1.own (zS1.pl (by omega))).2) (by decide)) fun c2 U w2 ⟨hT2,hc2⟩ hU hUs hch2=>⟨_,rfl,fun B4=>ret0 rfl ⟨rfl,?_,?_⟩⟩
    ·have hT2:U+BB^(z.l-x.l)*c2=Z/BB^x.l+1:=hT2
     have hch2:Chg w1.drew w2 (inR z.b (z.o+x.l) (z.o+x.l+(z.l-x.l))):=hch2
     have hU:U<BB^(z.l-x.l):=hU
     have hUs:Sg w2 z.b (z.o+x.l) (z.l-x.l) U:=hUs
     have hsum:Y+BB^x.l*(Z/BB^x.l+1)=Z+X:=by rw [Nat.mul_add]; omega
     have hc0:c2=0:=by
      rcases Nat.eq_zero_or_pos c2 with h | h
      ·exact h
      ·have h5:BB^(z.l-x.l)*1≤BB^(z.l-x.l)*c2:=Nat.mul_le_mul_left _ h
       have h6:BB^x.l*BB^(z.l-x.l)≤BB^x.l*(Z/BB^x.l+1):=Nat.mul_le_mul_left _ (by omega)
       rw [←hzl] at h6
       omega
     rw [hc0,Nat.mul_zero,Nat.add_zero] at hT2
     have cw2:Chg w w2 (inR z.b z.o (z.o+z.l)):=(cw1.trans' (cd1.mono fun _ _ _ h=>h.elim)).trans' (hch2.mono fun b i _ hm=>⟨hm.1,by have:=hm.2.1; omega,by have:=hm.2.2; omega⟩)
     refine fin w2 U cw2 ?_ hUs (by rw [hT2]; exact hsum)
     exact hch2.sg (cd1.sg hYs fun _ _ h=>h) fun i hi hm=>by have:=hm.2.1; omega
    ·have hch2:Chg w1.drew w2 (inR z.b (z.o+x.l) (z.o+x.l+(z.l-x.l))):=hch2
     exact (cw1.trans' (cd1.mono fun _ _ _ h=>h.elim)).trans' (hch2.mono fun b i _ hm=>⟨hm.1,by have:=hm.2.1; omega,by have:=hm.2.2; omega⟩)
   ·have h3:=dF h3
    have hxz:x.l=z.l:=by omega
    exfalso
    have h7:BB^x.l≤Z+X:=by
     have:Z%BB^x.l≤Z:=Nat.mod_le _ _
     omega
    rw [hxz] at h7
    omega
  ·have hc0:c=0:=by have:=neE h2; omega
   rw [hc0,Nat.mul_zero,Nat.add_zero] at hT
   exact ret0 rfl ⟨rfl,fin w1 _ cw1 hYs hhi1 (by omega),cw1⟩
 ·have h0:x.l=0:=by have:=dF h; omega
  have hX:X=0:=by have:=hx.lt; rw [h0] at this; simpa using this
  exact ret0 rfl ⟨rfl,by rw [hX]; exact hz,Chg.refl _ _⟩
end Go.Proofs.YtlkjiiibmfpbcaaGreatDoor
