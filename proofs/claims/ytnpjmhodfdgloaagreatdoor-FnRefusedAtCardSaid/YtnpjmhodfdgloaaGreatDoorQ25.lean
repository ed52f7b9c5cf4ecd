/- Part of the proof. -/
import Derived.Test.YtnpjmhodfdgloaaGreatDoorQ24
set_option linter.unusedVariables false
set_option linter.unusedSimpArgs false
namespace Go.Proofs.YtnpjmhodfdgloaaGreatDoor
set_option maxRecDepth 100000
set_option maxHeartbeats 32000000
open Go.RowKit
abbrev Z05:ByteArray:=ByteArray.empty
abbrev Z06(k:Int)(a b c:ByteArray)(f:Int):Obj:=.cells #[.int .i64 k,.string a,.string b,.string c,.int .i64 f,.int .i64 0] 67 (0,0)
structure lO(c:Sx)(w:World)(q:Ps)(W:World):Prop where
 at_:fV c q W
 sm:Sm [c.sp] w W
 sp:c.sp<w.heap.size
 tb:c.l≠[]→c.tb<w.heap.size
section
variable{c:Sx}{w W W':World}{p q q':Ps}{b n m:Nat}{v:Value}{l:List Nd}
theorem lO.start(h:fV c p w):lO c w p w:=⟨h,sr,lt_of_block h.obj,fun hl=>by
 obtain⟨_,t0,_⟩:=h.jC.at_ 0 (List.length_pos_iff.2 hl)
 exact World.block_lt_of_cell? w _ t0⟩
theorem lO.up(h:lO c w q W)(hs:Sm [] W W'):lO c w q W':=⟨h.at_.cI hs,h.sm.trans hs.of_nil,h.sp,h.tb⟩
theorem lO.alloc(h:lO c w q W)(o:Obj):lO c w q (W.alloc o):=h.up (sr.alloc o)
theorem lO.go(h:lO c w q W)(ha:fV c q' W')(hs:Sm [c.sp] W W'):lO c w q' W':=⟨ha,h.sm.trans hs,h.sp,h.tb⟩
theorem lO.low(h:lO c w q W):c.sp<W.heap.size:=Nat.lt_of_lt_of_le h.sp h.sm.size
theorem lO.Yi(h:lO c w q W)(hb:w.heap.size≤b):b∉[c.sp]:=by have:=h.sp;simp;omega
theorem lO.new(h:lO c w q W):w.heap.size≤W.heap.size:=h.sm.size
theorem lO.own(h:lO c w q W)(hb:w.heap.size≤b)(i:Nat)(u:Value):lO c w q (W.setCell ⟨b,i,none⟩ u):=by have hs:Sm [b] W (W.setCell ⟨b,i,none⟩ u):=(Sm.refl [b] W).setCell (.inr (by simp)) u;have h1:=h.sp;exact⟨⟨hs.obj h.at_.obj (by simp;omega),⟨fun i hi=>(h.at_.jC.sm hs (by have:=h.tb (by rintro e;rw[e] at hi;cases hi);simp;omega)).at_ i hi,h.at_.jC.ne,h.at_.jC.small⟩,h.at_.pos,h.at_.deep⟩,h.sm.setCell (.inl hb) u,h.sp,h.tb⟩
theorem lO.grown{own:Option Nat}(h:lO c w q W)(hg:W.grownBy W' own)(ho:∀g,own=some g→w.heap.size≤g):lO c w q W':=by have h1:=h.sp;refine⟨⟨(hg.block _ (lt_of_block h.at_.obj) (fun e=>by have:=ho _ e.symm;omega)).trans h.at_.obj,⟨fun i hi=>?_,h.at_.jC.ne,h.at_.jC.small⟩,h.at_.pos,h.at_.deep⟩,h.sm.grown hg (fun k e=>.inl (ho k e)),h.sp,h.tb⟩;obtain⟨a,t0,t1,t2,t3⟩:=h.at_.jC.at_ i hi;have ht:=h.tb (by rintro e;rw[e] at hi;cases hi);have hc:∀o,W'.cell? ⟨c.tb,o,none⟩=W.cell? ⟨c.tb,o,none⟩:=fun o=>World.cell?_of_block (w:=W) (hg.block c.tb (World.block_lt_of_cell? W _ t0) (fun e=>by have:=ho _ e.symm;omega));exact⟨a,(hc _).trans t0,(hc _).trans t1,(hc _).trans t2,(hc _).trans t3⟩
theorem lO.pos(h:lO c w q W):q.pos≤1000000:=Nat.le_trans h.at_.pos h.at_.jC.small
theorem lO.D4(h:lO c w q W)(u:Bool):lO c w {q with unsure:=u} (W.setCell ⟨c.sp,5,none⟩ (.bool u)):=h.go (h.at_.D4 u) (fS sr _ _)
theorem lO.Jw(h:lO c w q W)(n:Nat)(u:Int)(hu:u=(n:Int))(hn:n≤c.l.length):lO c w {q with pos:=n} (W.setCell ⟨c.sp,1,none⟩ (.int .i64 u)):=h.go (h.at_.Jw n u hu hn) (fS sr _ _)
def kM(c:Sx)(b:Nat)(W:World)(v:Value)(l:List Nd):Prop:=∃lo hi,b≤lo∧(c.sp<lo∨hi≤c.sp)∧hi≤W.heap.size∧ke.rd lo hi W v l
theorem kM.sm(h:kM c b W v l)(hs:Sm [c.sp] W W'):kM c b W' v l:=by obtain⟨lo,hi,h1,h2,h3,h4⟩:=h;exact⟨lo,hi,h1,h2,Nat.le_trans h3 hs.size,ke.keep h4 (fun k k1 k2=>hs.block k (by omega) (by simp;omega))⟩
theorem kM.cI(h:kM c b W v l)(hs:Sm [] W W'):kM c b W' v l:=h.sm hs.of_nil
theorem kM.alloc(h:kM c b W v l)(o:Obj):kM c b (W.alloc o) v l:=h.cI (sr.alloc o)
theorem kM.nil(c:Sx)(W:World):kM c 0 W (.slice none 0 0) []:=⟨0,0,lr,.inr (Nat.zero_le _),Nat.zero_le _,yK _ _ _⟩
theorem kM.Z0P(h:lO c w q W):kM c w.heap.size W (.slice none 0 0) []:=⟨W.heap.size,W.heap.size,h.new,.inl h.low,lr,yK _ _ _⟩
theorem kM.to(h:kM c b W v l):ke.rd 0 W.heap.size W v l:=by obtain⟨lo,hi,h1,h2,h3,h4⟩:=h;exact ke.wide h4 (Nat.zero_le _) h3
theorem kM.any(h:kM c b W v l):kM c 0 W v l:=by obtain⟨lo,hi,h1,h2,h3,h4⟩:=h;exact⟨lo,hi,Nat.zero_le _,h2,h3,h4⟩
theorem kM.form(h:kM c b W v l):∃a k,v=.slice a l.length k:=by obtain⟨lo,hi,h1,h2,h3,h4⟩:=h;exact pj h4
theorem aM.go{e:Ending}(h:aM c q' l W e W')(hc:lO c w q W):∃a k,e=.returned (.slice a l.length k)∧kM c w.heap.size W' (.slice a l.length k) l∧lO c w q' W'∧Sm [c.sp] W W':=by obtain⟨v,rfl,h1,h2,h3⟩:=h;obtain⟨a,k,rfl⟩:=pj h1;exact⟨a,k,rfl,⟨_,_,hc.new,.inl hc.low,lr,h1⟩,hc.go h2 h3,h3⟩
theorem aM.go2{e:Ending}(h:aM c q' l W e W')(hc:lO c w q W):∃a k,e=.returned (.slice a l.length k)∧kM c W.heap.size W' (.slice a l.length k) l∧lO c w q' W'∧Sm [c.sp] W W':=by obtain⟨v,rfl,h1,h2,h3⟩:=h;obtain⟨a,k,rfl⟩:=pj h1;exact⟨a,k,rfl,⟨_,_,lr,.inl hc.low,lr,h1⟩,hc.go h2 h3,h3⟩
theorem ve.go2{e:Ending}(h:ve l W e W')(hc:lO c w q W):∃a k,e=.returned (.slice a l.length k)∧kM c W.heap.size W' (.slice a l.length k) l∧lO c w q W'∧Sm [] W W':=by obtain⟨v,rfl,h1,h2⟩:=h;obtain⟨a,k,rfl⟩:=pj h1;exact⟨a,k,rfl,⟨_,_,lr,.inl hc.low,lr,h1⟩,hc.up h2,h2⟩
theorem vX.go{e:Ending}(h:vX c q' v W e W')(hc:lO c w q W):e=.returned v∧lO c w q' W'∧Sm [c.sp] W W':=⟨h.1,hc.go h.2.1 h.2.2,h.2.2⟩
theorem jW.go{e:Ending}{k:Int}(h:jW k W e W')(hc:lO c w q W):e=.returned (.int .i64 k)∧lO c w q W'∧Sm [c.sp] W W':=⟨h.1,hc.up h.2,h.2.of_nil⟩
theorem xW.go{e:Ending}{k:Bool}(h:xW k W e W')(hc:lO c w q W):e=.returned (.bool k)∧lO c w q W'∧Sm [c.sp] W W':=⟨h.1,hc.up h.2,h.2.of_nil⟩
theorem ve.go{e:Ending}(h:ve l W e W')(hc:lO c w q W):∃a k,e=.returned (.slice a l.length k)∧kM c w.heap.size W' (.slice a l.length k) l∧lO c w q W'∧Sm [] W W':=by obtain⟨v,rfl,h1,h2⟩:=h;obtain⟨a,k,rfl⟩:=pj h1;exact⟨a,k,rfl,⟨_,_,hc.new,.inl hc.low,lr,h1⟩,hc.up h2,h2⟩
theorem lp{r:List Nd×Ps}(hc:lO c w q W)(hl:kM c w.heap.size W v l)(hr:r=(l,q)):aM c r.2 r.1 w (.returned v) W:=by subst hr;obtain⟨lo,hi,h1,h2,h3,h4⟩:=hl;exact⟨v,rfl,ke.wide h4 h1 h3,hc.at_,hc.sm⟩
theorem Yu{α β:Type}{x:SM α}{f:α→SM β}{r:β×Ps}{R:α×Ps}(h:Hd ((x>>=f) q=r))(hx:x q=R):Hd (f R.1 R.2=r):=by have h1:=h.out;rw[aC,hx] at h1;exact h1
theorem Zm{α β:Type}{x:SM α}{f:α→SM β}{r:β×Ps}{a:α}(h:Hd ((x>>=f) q=r))(hx:x q=(a,q')):Hd (f a q'=r):=by have h1:=h.out;rw[aC,hx] at h1;exact h1
theorem Yt{α β γ:Type}(x:SM α)(f:α→SM β)(g:β→SM γ):((x>>=f)>>=g)=(x>>=fun a=>f a>>=g):=rfl
theorem Z2q{α β:Type}(a:α)(f:α→SM β):((pure a:SM α)>>=f)=f a:=rfl
theorem RW{k E e D d:Nat}{x:SM (List Nd)}(h:Tm k E e D d x)(q:Ps):(x q).2.deep≤q.deep+(D+d)∧q.deep≤(x q).2.deep:=by
 obtain⟨a,b,h1,h2⟩:=h q;have b1:=dG q;have b2:=dG (x q).2;refine⟨?_,h1⟩;rcases Nat.eq_zero_or_pos (bd q) with hp|hp<;>rcases Nat.eq_zero_or_pos (bd (x q).2) with hq|hq
 · rw[hp,hq] at h2;omega
 · have:bd (x q).2=1:=by omega
   rw[hp,this] at h2;omega
 · omega
 · have e1:bd q=1:=by omega
   have e2:bd (x q).2=1:=by omega
   rw[e1,e2] at h2;omega
theorem Q5{k E e D d:Nat}{x:SM (List Nd)}(h:Tm k E e D d x)(q:Ps):(x q).1.length≤(x q).2.pos+k+E+e:=by
 obtain⟨a,h1,b,h2⟩:=h q;have b1:=dG q;have b2:=dG (x q).2;rcases Nat.eq_zero_or_pos (bd q) with hp|hp<;>rcases Nat.eq_zero_or_pos (bd (x q).2) with hq|hq
 · rw[hp,hq] at h1;omega
 · have:bd (x q).2=1:=by omega
   rw[hp,this] at h1;omega
 · omega
 · have e1:bd q=1:=by omega
   have e2:bd (x q).2=1:=by omega
   rw[e1,e2] at h1;omega
theorem qS{l:List Tok}{s:ByteArray}(h:(cR l 0 s q).1=true):q.pos<l.length:=by
 unfold cR at h;simp only[Nat.add_zero,decide_eq_true_eq] at h;by_cases hi:q.pos<l.length
 · exact hi
 · rw[lF (by omega)] at h;exact absurd h.1 (by decide)
theorem Mq{l:List Tok}{i:Nat}{k:Int}(h:ag l i=k)(hk:k≠1):i<l.length:=by
 by_cases hi:i<l.length
 · exact hi
 · rw[lF (by omega)] at h;exact absurd h.symm hk
def mc(w W:World)(v:Value)(l:List Nd):Prop:=W.ownsRow w.heap.size 67 6 v l.length (gF l)
theorem mc.sm(h:mc w W v l)(hs:Sm [c.sp] W W')(hp:c.sp<w.heap.size):mc w W' v l:=
 ra h (fun g hg=>hs.block g (h.lt g hg).2 (by have:=(h.lt g hg).1;simp;omega))
theorem mc.nil(w W:World):mc w W (.slice none 0 0) []:=World.ownsRow_nil _ _ _ _
theorem mc.Zi(h:mc w W v l)(hc:lO c w q W):kM c w.heap.size W v l:=⟨w.heap.size,W.heap.size,lr,.inl hc.sp,lr,h,fun g hg=>(h.lt g hg).2⟩
theorem mc.base(h:mc w W v l):∀g,v.ownBlock=some g→w.heap.size≤g:=fun g hg=>(h.lt g hg).1
theorem mc.add{l':List Nd}{v':Value}(h:W'.ownsRow w.heap.size 67 6 v' (l.length+l'.length) (gF l++gF l')):mc w W' v' (l++l'):=by unfold mc;rw[Aq,List.length_append];exact h
theorem lO.Z2o{u:Bool}(h:lO c w q W)(hq:q'={q with unsure:=u}):lO c w q' (W.setCell ⟨c.sp,5,none⟩ (.bool u)):=by rw[hq];exact h.D4 u
theorem lO.Z2n{u:Int}(h:lO c w q W)(hq:q'={q with pos:=n})(hu:u=(n:Int))(hn:n≤c.l.length):lO c w q' (W.setCell ⟨c.sp,1,none⟩ (.int .i64 u)):=by rw[hq];exact h.Jw n u hu hn
theorem kM.set(h:kM c b W v l)(i:Nat)(u:Value):kM c b (W.setCell ⟨c.sp,i,none⟩ u) v l:=h.sm (fS sr _ _)
theorem kM.base{b':Nat}(h:kM c b W v l)(hb:b'≤b):kM c b' W v l:=by obtain⟨lo,hi,h1,h2,h3,h4⟩:=h;exact⟨lo,hi,Nat.le_trans hb h1,h2,h3,h4⟩
theorem MJ(l:List Tok)(q:Ps)(k:Int):bd q≤bd (ay l k q).2∧q.pos≤(ay l k q).2.pos∧(ay l k q).2.deep=q.deep:=by
 rcases ia l q k with⟨_,h,_⟩|⟨_,h⟩
 · rw[h];exact⟨lr,Nat.le_succ _,rfl⟩
 · rw[h];exact⟨lr,lr,rfl⟩
theorem Z12(l:List Tok)(q:Ps):(gp l q).2.pos=q.pos∧(gp l q).2.deep=q.deep:=⟨rfl,rfl⟩
theorem Zh{k E e D d:Nat}{x:SM (List Nd)}(h:Tm k E e D d x)(q:Ps):(x q).1.length≤(x q).2.pos+k+E+e:=Q5 h q
def fU(W:World)(b:Nat)(a0 a1 a2 a3 a4 a5:Value):Prop:=W.cell? ⟨b,0,none⟩=some a0∧W.cell? ⟨b,1,none⟩=some a1∧W.cell? ⟨b,2,none⟩=some a2∧W.cell? ⟨b,3,none⟩=some a3∧W.cell? ⟨b,4,none⟩=some a4∧W.cell? ⟨b,5,none⟩=some a5
theorem fU.of{a0 a1 a2 a3 a4 a5:Value}{t:TypeId}(h:W.heap[b]?=some (.cells #[a0,a1,a2,a3,a4,a5] t (0,0))):fU W b a0 a1 a2 a3 a4 a5:=⟨cell_of h rfl,cell_of h rfl,cell_of h rfl,cell_of h rfl,cell_of h rfl,cell_of h rfl⟩
theorem fU.sm{X:List Nat}{a0 a1 a2 a3 a4 a5:Value}(h:fU W b a0 a1 a2 a3 a4 a5)(hs:Sm X W W')(hx:b∉X):fU W' b a0 a1 a2 a3 a4 a5:=⟨hs.keeps h.1 hx,hs.keeps h.2.1 hx,hs.keeps h.2.2.1 hx,hs.keeps h.2.2.2.1 hx,hs.keeps h.2.2.2.2.1 hx,hs.keeps h.2.2.2.2.2 hx⟩
theorem fU.grown{own:Option Nat}{a0 a1 a2 a3 a4 a5:Value}(h:fU W b a0 a1 a2 a3 a4 a5)(hg:W.grownBy W' own)(hn:own≠some b):fU W' b a0 a1 a2 a3 a4 a5:=by have hc:∀i,W'.cell? ⟨b,i,none⟩=W.cell? ⟨b,i,none⟩:=fun i=>World.cell?_of_block (w:=W) (hg.block b (World.block_lt_of_cell? W _ h.1) (fun e=>hn e.symm));exact⟨(hc _).trans h.1,(hc _).trans h.2.1,(hc _).trans h.2.2.1,(hc _).trans h.2.2.2.1,(hc _).trans h.2.2.2.2.1,(hc _).trans h.2.2.2.2.2⟩
theorem fU.alloc{a0 a1 a2 a3 a4 a5:Value}(h:fU W b a0 a1 a2 a3 a4 a5)(o:Obj):fU (W.alloc o) b a0 a1 a2 a3 a4 a5:=h.sm ((Sm.refl [] _).alloc o) (by simp)
theorem mc.row(h:mc w W v l):W.ownsRow w.heap.size 67 6 v l.length (gF l):=h
inductive Rows(c:Sx)(W:World)(own:Option Nat):List Value→List (List Nd)→Prop
 | nil:Rows c W own [] []
 | snoc {vs:List Value} {xs:List (List Nd)} {v:Value} {x:List Nd}:Rows c W own vs xs→(∃lo hi,(c.sp<lo∨hi≤c.sp)∧hi≤W.heap.size∧(∀g,own=some g→¬(lo≤g∧g<hi))∧ke.rd lo hi W v x)→Rows c W own (vs++[v]) (xs++[x])
theorem Rows.sm{own:Option Nat}{vs:List Value}{xs:List (List Nd)}(h:Rows c W own vs xs)(hs:Sm [c.sp] W W'):Rows c W' own vs xs:=by
 induction h with
 | nil=>exact .nil
 | snoc _ h ih=>obtain⟨lo,hi,h1,h2,h3,h4⟩:=h;exact .snoc ih ⟨lo,hi,h1,Nat.le_trans h2 hs.size,h3,ke.keep h4 (fun k k1 k2=>hs.block k (by omega) (by simp;omega))⟩
theorem Rows.grown{own own':Option Nat}{vs:List Value}{xs:List (List Nd)}(h:Rows c W own vs xs)(hg:W.grownBy W' own)(ho:∀g,own'=some g→own=some g∨W.heap.size≤g):Rows c W' own' vs xs:=by
 induction h with
 | nil=>exact .nil
 | snoc _ h ih=>
  obtain⟨lo,hi,h1,h2,h3,h4⟩:=h;refine .snoc ih ⟨lo,hi,h1,Nat.le_trans h2 hg.size,fun g e Be=>?_,ke.keep h4 (fun k k1 k2=>hg.block k (by omega) (fun e=>h3 k e.symm ⟨k1,k2⟩))⟩;rcases ho g e with e|e
  · exact h3 g e Be
  · omega
theorem Rows.len{own:Option Nat}{vs:List Value}{xs:List (List Nd)}(h:Rows c W own vs xs):vs.length=xs.length:=by
 induction h with
 | nil=>rfl
 | snoc _ _ ih=>simp[ih]
theorem Rows.elems{own:Option Nat}{vs:List Value}{xs:List (List Nd)}(h:Rows c W own vs xs):bP ke 0 W own vs xs:=by
 induction h with
 | nil=>exact .nil
 | snoc _ h ih=>obtain⟨lo,hi,h1,h2,h3,h4⟩:=h;exact .snoc ih ⟨lo,hi,Nat.zero_le _,h2,h3,h4⟩
structure bI(c:Sx)(w W:World)(v:Value)(vs:List Value)(xs:List (List Nd)):Prop where
 own:W.ownsRow w.heap.size 23 1 v xs.length vs
 rows:Rows c W v.ownBlock vs xs
section
variable{vs:List Value}{xs:List (List Nd)}{u:Value}{x:List Nd}
theorem bI.nil(c:Sx)(w W:World):bI c w W (.slice none 0 0) [] []:=⟨World.ownsRow_nil _ _ _ _,.nil⟩
theorem bI.sm(h:bI c w W v vs xs)(hs:Sm [c.sp] W W')(hp:c.sp<w.heap.size):bI c w W' v vs xs:=
 ⟨ra h.own (fun g hg=>hs.block g (h.own.lt g hg).2 (by have:=(h.own.lt g hg).1;simp;omega)),h.rows.sm hs⟩
theorem bI.form(h:bI c w W v vs xs):∃a k,v=.slice a xs.length k:=by
 rcases h.own.2 with⟨rfl,h0⟩|⟨g,cap,cur,rfl,_⟩
 · exact⟨none,0,by rw[h0]⟩
 · exact⟨_,_,rfl⟩
theorem bI.list(h:bI c w W v vs xs):(au.list ke).rd 0 W.heap.size W v xs:=cW (Ar h.own (Nat.zero_le _)) h.rows.elems
theorem bI.base(h:bI c w W v vs xs):∀g,v.ownBlock=some g→w.heap.size≤g:=fun g hg=>(h.own.lt g hg).1
theorem bI.add{g cap:Nat}(h:bI c w W v vs xs)(hu:kM c b W u x)(hb:∀g,v.ownBlock=some g→g<b)(aJ:W'.ownsRow w.heap.size 23 1 (.slice (some ⟨g,0,none⟩) (xs.length+1) cap) (xs.length+1) (vs++[u]))
 (hg:W.grownBy W' v.ownBlock) (bV:v.ownBlock=some g∨g=W.heap.size+1):bI c w W' (.slice (some ⟨g,0,none⟩) (xs.length+1) cap) (vs++[u]) (xs++[x]):=by
 obtain⟨lo,hi,h1,h2,h3,h4⟩:=hu;refine⟨by simpa using aJ,.snoc (h.rows.grown hg (fun q e=>?_)) ⟨lo,hi,h2,Nat.le_trans h3 hg.size,fun q e Be=>?_,ke.keep h4 (fun k k1 k2=>hg.block k (by omega) (fun e=>?_))⟩⟩
 · obtain rfl:g=q:=by simpa[Value.ownBlock] using e
   exact bV.imp id (fun e=>by omega)
 · obtain rfl:g=q:=by simpa[Value.ownBlock] using e
   rcases bV with e|e
   · have:=hb g e;omega
   · omega
 · have:=hb k e.symm;omega
theorem bI.Vz{b:Nat}(hc:lO c w q W)(h:kM c b W u x):bI c w (W.alloc (.cells #[u] 23 (0,0))) (.slice (some ⟨W.heap.size,0,none⟩) 1 1) [u] [x]:=by
 obtain⟨lo,hi,h1,h2,h3,h4⟩:=h;have hs:Sm [] W (W.alloc (.cells #[u] 23 (0,0))):=sr.alloc _;refine⟨?_,.snoc (vs:=[]) (xs:=[]) .nil ⟨lo,hi,h2,Nat.le_trans h3 hs.size,fun g e Be=>?_,ke.keep h4 (fun k k1 k2=>hs.block k (by omega) (by simp))⟩⟩
 · have:=World.ownsRow_lit (base:=w.heap.size) (size:=1) (e:=23) W #[u] 1 hc.new (by simp[maxLen]) rfl;simpa using this
 · obtain rfl:W.heap.size=g:=by simpa[Value.ownBlock] using e
   omega
theorem bI.KZ{b b':Nat}{u':Value}{x':List Nd}(hc:lO c w q W)(h:kM c b W u x)(h':kM c b' W u' x'):bI c w (W.alloc (.cells #[u,u'] 23 (0,0))) (.slice (some ⟨W.heap.size,0,none⟩) 2 2) [u,u'] [x,x']:=by
 obtain⟨lo,hi,h1,h2,h3,h4⟩:=h;obtain⟨Bk,rC,h1',h2',ZV,h4'⟩:=h';have hs:Sm [] W (W.alloc (.cells #[u,u'] 23 (0,0))):=sr.alloc _;refine⟨?_,.snoc (vs:=[u]) (xs:=[x]) (.snoc (vs:=[]) (xs:=[]) .nil ⟨lo,hi,h2,Nat.le_trans h3 hs.size,fun g e Be=>?_,ke.keep h4 (fun k k1 k2=>hs.block k (by omega) (by simp))⟩) ⟨Bk,rC,h2',Nat.le_trans ZV hs.size,fun g e Be=>?_,ke.keep h4' (fun k k1 k2=>hs.block k (by omega) (by simp))⟩⟩
 · have:=World.ownsRow_lit (base:=w.heap.size) (size:=1) (e:=23) W #[u,u'] 2 hc.new (by simp[maxLen]) rfl;simpa using this
 · obtain rfl:W.heap.size=g:=by simpa[Value.ownBlock] using e
   omega
 · obtain rfl:W.heap.size=g:=by simpa[Value.ownBlock] using e
   omega
end
end
end Go.Proofs.YtnpjmhodfdgloaaGreatDoor
