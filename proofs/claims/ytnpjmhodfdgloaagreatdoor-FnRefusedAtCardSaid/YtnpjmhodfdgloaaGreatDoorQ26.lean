/- Part of the proof. -/
import Derived.Test.YtnpjmhodfdgloaaGreatDoorQ25
set_option linter.unusedVariables false
set_option linter.unusedSimpArgs false
namespace Go.Proofs.YtnpjmhodfdgloaaGreatDoor
set_option maxRecDepth 100000
set_option maxHeartbeats 32000000
open Go.RowKit
attribute [local go_sem ↓] Go.wp_at_zero Go.wp_at_succ
structure St(c:Sx)(w:World)(lo N:Nat)(E:World→Prop)(q:Ps)(W:World):Prop where
 cur:lO c w q W
 dl:lo≤q.deep
 dh:q.deep≤N
 ext:∀X,Sm [c.sp] W X→E X
structure dz{β:Type}(c:Sx)(w:World)(lo N:Nat)(E:World→Prop)(m:SM β)(r:β×Ps)(q:Ps)(W:World):Prop where
 st:St c w lo N E q W
 eq:m q=r
def oA(w:World)(b:Nat)(o:Obj)(X:World):Prop:=w.heap.size≤b∧X.heap[b]?=some o
def Lw(c:Sx)(w W:World)(a:Option Addr)(k:Nat)(l:List Nd)(X:World):Prop:=w.heap.size≤W.heap.size∧kM c W.heap.size X (.slice a l.length k) l
def Own(c:Sx)(w W:World)(a:Option Addr)(k:Nat)(l:List Nd)(X:World):Prop:=Lw c w W a k l X∧l.length≤1000100
section
variable{α β γ:Type}{c:Sx}{w W W':World}{lo N:Nat}{E:World→Prop}{q q':Ps}{r:β×Ps}{m:SM β}
theorem St.self(h:St c w lo N E q W):E W:=h.ext W sr
theorem St.go(h:St c w lo N E q W)(hc:lO c w q' W')(hs:Sm [c.sp] W W')(h1:lo≤q'.deep)(h2:q'.deep≤N):St c w lo N E q' W':=⟨hc,h1,h2,fun X hX=>h.ext X (hs.trans hX)⟩
theorem St.up(h:St c w lo N E q W)(hs:Sm [] W W'):St c w lo N E q W':=h.go (h.cur.up hs) hs.of_nil h.dl h.dh
theorem St.alloc(h:St c w lo N E q W)(o:Obj):St c w lo N (fun X=>oA w W.heap.size o X∧E X) q (W.alloc o):=
 ⟨h.cur.alloc o,h.dl,h.dh,fun X hX=>⟨⟨h.cur.new,hX.obj (ai W o) (h.cur.Yi h.cur.new)⟩,h.ext X ((sr.alloc o).trans hX)⟩⟩
theorem St.nH{E':World→Prop}(h:St c w lo N E q W)(he:∀X,E X→E' X):St c w lo N E' q W:=⟨h.cur,h.dl,h.dh,fun X hX=>he X (h.ext X hX)⟩
theorem St.more{N':Nat}(h:St c w lo N E q W)(hn:N≤N'):St c w lo N' E q W:=⟨h.cur,h.dl,Nat.le_trans h.dh hn,h.ext⟩
theorem dz.up(h:dz c w lo N E m r q W)(hs:Sm [] W W'):dz c w lo N E m r q W':=⟨h.st.up hs,h.eq⟩
theorem dz.drew(h:dz c w lo N E m r q W):dz c w lo N E m r q W.drew:=h.up (sr.drew)
theorem dz.alloc(h:dz c w lo N E m r q W)(o:Obj):dz c w lo N (fun X=>oA w W.heap.size o X∧E X) m r q (W.alloc o):=⟨h.st.alloc o,h.eq⟩
theorem dz.nH{E':World→Prop}(h:dz c w lo N E m r q W)(he:∀X,E X→E' X):dz c w lo N E' m r q W:=⟨h.st.nH he,h.eq⟩
theorem dz.self(h:dz c w lo N E m r q W):E W:=h.st.self
theorem dz.as{m':SM β}(h:dz c w lo N E m r q W)(e:m q=m' q):dz c w lo N E m' r q W:=⟨h.st,e ▸ h.eq⟩
theorem dz.yes{P:Prop}[Decidable P]{A B:SM β}(h:dz c w lo N E (if P then A else B) r q W)(hp:P):dz c w lo N E A r q W:=h.as (by rw[if_pos hp])
theorem dz.no{P:Prop}[Decidable P]{A B:SM β}(h:dz c w lo N E (if P then A else B) r q W)(hp:¬P):dz c w lo N E B r q W:=h.as (by rw[if_neg hp])
theorem dz.xU{P:Prop}[Decidable P]{A B:SM α}{f:α→SM β}(h:dz c w lo N E ((if P then A else B)>>=f) r q W)(hp:P):dz c w lo N E (A>>=f) r q W:=h.as (by rw[if_pos hp])
theorem dz.Kc{P:Prop}[Decidable P]{A B:SM α}{f:α→SM β}(h:dz c w lo N E ((if P then A else B)>>=f) r q W)(hp:¬P):dz c w lo N E (B>>=f) r q W:=h.as (by rw[if_neg hp])
theorem dz.assoc{x:SM α}{g:α→SM γ}{f:γ→SM β}(h:dz c w lo N E ((x>>=g)>>=f) r q W):dz c w lo N E (x>>=fun a=>g a>>=f) r q W:=⟨h.st,h.eq⟩
theorem dz.pure{a:α}{f:α→SM β}(h:dz c w lo N E ((pure a:SM α)>>=f) r q W):dz c w lo N E (f a) r q W:=⟨h.st,h.eq⟩
theorem dz.kind{f:Int→SM β}(h:dz c w lo N E (fc c.l 0>>=f) r q W):dz c w lo N E (f (ag c.l q.pos)) r q W:=⟨h.st,h.eq⟩
theorem dz.word{s:ByteArray}{f:Bool→SM β}(h:dz c w lo N E (cR c.l 0 s>>=f) r q W):dz c w lo N E (f (cR c.l 0 s q).1) r q W:=⟨h.st,h.eq⟩
theorem dz.asks{f:Bool→SM β}(h:dz c w lo N E (nf c.l>>=f) r q W):dz c w lo N E (f (nf c.l q).1) r q W:=⟨h.st,h.eq⟩
theorem dz.bad{f:Bool→SM β}(h:dz c w lo N E (NX>>=f) r q W):dz c w lo N E (f q.bad) r q W:=⟨h.st,h.eq⟩
theorem dz.l9{b u:Bool}{f:Unit→SM β}(h:dz c w lo N E (aL b>>=f) r q W)(hu:u=(q.unsure||b)):dz c w lo N E (f ()) r {q with unsure:=u} (W.setCell ⟨c.sp,5,none⟩ (.bool u)):=
 ⟨h.st.go (h.st.cur.D4 u) (fS sr _ _) h.st.dl h.st.dh,by rw[hu];exact h.eq⟩
theorem dz.EB{b:Bool}{f:Unit→SM β}(h:dz c w lo N E (aL b>>=f) r q W)(hb:b=false):dz c w lo N E (f ()) r q W:=
 ⟨h.st,by subst hb;have:=h.eq;rw[aC] at this;unfold aL at this;simpa using this⟩
theorem dz.move{f:Unit→SM β}{u:Int}(h:dz c w lo N E (dY>>=f) r q W)(hu:u=((q.pos+1:Nat):Int))(hp:q.pos<c.l.length):dz c w lo N E (f ()) r {q with pos:=q.pos+1} (W.setCell ⟨c.sp,1,none⟩ (.int .i64 u)):=
 ⟨h.st.go (h.st.cur.Jw _ u hu hp) (fS sr _ _) h.st.dl h.st.dh,h.eq⟩
theorem dz.back{f:Unit→SM β}{u:Int}(h:dz c w lo N E (qH>>=f) r q W)(hu:u=((q.pos-1:Nat):Int)):dz c w lo N E (f ()) r {q with pos:=q.pos-1} (W.setCell ⟨c.sp,1,none⟩ (.int .i64 u)):=
 ⟨h.st.go (h.st.cur.Jw _ u hu (by have:=h.st.cur.at_.pos;omega)) (fS sr _ _) h.st.dl h.st.dh,h.eq⟩
theorem dz.Z0S{W0:World}{b i:Nat}{cs:Array Value}{t:TypeId}{u:Value}(h:dz c w lo N (fun X=>oA w b (.cells cs t (0,0)) X∧Sm [c.sp] W0 X) m r q W)(hb:W0.heap.size≤b):dz c w lo N (fun X=>oA w b (.cells (cs.setIfInBounds i u) t (0,0)) X∧Sm [c.sp] W0 X) m r q (W.setCell ⟨b,i,none⟩ u):=by have h1:=h.st.self;exact⟨⟨h.st.cur.own h1.1.1 i u,h.st.dl,h.st.dh,fun X hX=>⟨⟨h1.1.1,hX.obj (dw h1.1.2 i u) (h.st.cur.Yi h1.1.1)⟩,(h1.2.setCell (p:=⟨b,i,none⟩) (.inl hb) u).trans hX⟩⟩,h.eq⟩
theorem dz.own{b i:Nat}{cs:Array Value}{t:TypeId}{u:Value}(h:dz c w lo N (fun X=>oA w b (.cells cs t (0,0)) X∧E X) m r q W)(he:∀X,E X):dz c w lo N (fun X=>oA w b (.cells (cs.setIfInBounds i u) t (0,0)) X∧E X) m r q (W.setCell ⟨b,i,none⟩ u):=by have h1:=h.st.self.1;refine⟨⟨h.st.cur.own h1.1 i u,h.st.dl,h.st.dh,fun X hX=>⟨⟨h1.1,hX.obj (dw h1.2 i u) (h.st.cur.Yi h1.1)⟩,he X⟩⟩,h.eq⟩
variable{Q:Ending→World→Prop}
theorem dz.next{x:SM α}{f:α→SM β}(h:dz c w lo N E (x>>=f) r q W)(h2:lO c w (x q).2 W')(h3:Sm [c.sp] W W')(hd:(x q).2.deep=q.deep):dz c w lo N E (f (x q).1) r (x q).2 W':=
 ⟨h.st.go h2 h3 (by rw[hd];exact h.st.dl) (by rw[hd];exact h.st.dh),h.eq⟩
theorem e9{f:ByteArray→SM β}(h:dz c w lo N E (aw c.l>>=f) r q W)(k:∀x q' W',dz c w lo N E (f x) r q' W'→Q (.returned (.string x)) W') :
 Calls Tryz.prog 26 #[.pointer (some ⟨c.sp,0,none⟩)] W Q:=by
 refine(zZ c q W h.st.cur.at_).mono ?_;rintro e W' h1;obtain⟨rfl,h2,h3⟩:=h1.go h.st.cur;exact k _ _ _ (h.next h2 h3 (r6 c.l q).2.2.2)
theorem A3{f:Unit→SM β}(h:dz c w lo N E (gp c.l>>=f) r q W)(k:∀q' W',dz c w lo N E (f ()) r q' W'→Q (.returned (.tuple #[])) W') :
 Calls Tryz.prog 63 #[.pointer (some ⟨c.sp,0,none⟩)] W Q:=by
 refine(O5 c q W h.st.cur.at_).mono ?_;rintro e W' h1;obtain⟨rfl,h2,h3⟩:=h1.go h.st.cur;exact k _ _ (h.next h2 h3 rfl)
theorem mH{s:Int}{f:Unit→SM β}(h:dz c w lo N E (cr c.l s>>=f) r q W)(hs:s≠1)(k:∀q' W',(q'.bad=false→1≤q'.pos)→dz c w lo N E (f ()) r q' W'→Q (.returned (.tuple #[])) W') :
 Calls Tryz.prog 57 #[.pointer (some ⟨c.sp,0,none⟩),.int .i64 s] W Q:=by
 refine(Fb c q s W h.st.cur.at_ hs).mono ?_;rintro e W' h1;obtain⟨rfl,h2,h3⟩:=h1.go h.st.cur;obtain⟨t1,t2,t3,t4⟩:=zO c.l q s;exact k _ _ (fun hb=>by have:=iM hb;omega) (h.next h2 h3 t4)
theorem LA{s:Int}{f:Unit→SM β}(h:dz c w lo N E (eT c.l s>>=f) r q W)(hp:q.bad=false→1≤q.pos)(k:∀q' W',dz c w lo N E (f ()) r q' W'→Q (.returned (.tuple #[])) W') :
 Calls Tryz.prog 58 #[.pointer (some ⟨c.sp,0,none⟩),.int .i64 s] W Q:=by
 refine(Fc c q s W h.st.cur.at_ hp).mono ?_;rintro e W' h1;obtain⟨rfl,h2,h3⟩:=h1.go h.st.cur;exact k _ _ (h.next h2 h3 (LB c.l q s).2.2)
theorem cP{s:Int}{f:Bool→SM β}(h:dz c w lo N E (ay c.l s>>=f) r q W)(hs:s≠1)(k:∀b q' W',ay c.l s q=(b,q')→(b=true→1≤q'.pos)→dz c w lo N E (f b) r q' W'→Q (.returned (.bool b)) W') :
 Calls Tryz.prog 59 #[.pointer (some ⟨c.sp,0,none⟩),.int .i64 s] W Q:=by
 refine(lZ c q s W h.st.cur.at_ hs).mono ?_;rintro e W' h1;obtain⟨rfl,h2,h3⟩:=h1.go h.st.cur
 have hp:(ay c.l s q).1=true→1≤(ay c.l s q).2.pos:=fun hb=>by
  rcases ia c.l q s with⟨_,e,_⟩|⟨e,_⟩
  · rw[e];exact Nat.le_add_left 1 _
  · rw[e] at hb;cases hb
 exact k _ _ _ rfl hp (h.next h2 h3 (MJ c.l q s).2.2)
theorem Kr{s e:Int}{f:Bool→SM β}(h:dz c w lo N E (fR c.l s e>>=f) r q W)(hs:s≠1)(k:∀b q' W',(b=true→1≤q'.pos)→dz c w lo N E (f b) r q' W'→Q (.returned (.bool b)) W') :
 Calls Tryz.prog 66 #[.pointer (some ⟨c.sp,0,none⟩),.int .i64 s,.int .i64 e] W Q:=by
 refine(O1 c q s e W h.st.cur.at_ hs).mono ?_;rintro e' W' h1;obtain⟨rfl,h2,h3⟩:=h1.go h.st.cur;have hb:Wp (fR c.l s e) q (fun b q'=>(b=true→1≤q'.pos)∧q'.deep=q.deep):=Hx (fun q' a1 a2 a3 a4=>⟨fun _=>by omega,a2⟩) (fun q' a1 a2 a3 a4=>⟨fun e=>(by cases e),a2⟩);exact k _ _ _ hb.1 (h.next h2 h3 hb.2)
theorem eG(h:dz c w lo N E m r q W)(k:∀W',dz c w lo N E m r q W'→Q (.returned (.int .i64 (ag c.l q.pos))) W') :
 Calls Tryz.prog 23 #[.pointer (some ⟨c.sp,0,none⟩),.int .i64 0] W Q:=by
 have h0:=j7 c q 0 W h.st.cur.at_ (by omega);refine Calls.mono (by simpa using h0) ?_;rintro e W' h1;obtain⟨rfl,h2,h3⟩:=jW.go h1 h.st.cur;exact k _ ⟨h.st.go h2 h3 h.st.dl h.st.dh,h.eq⟩
theorem hQ{s:ByteArray}(h:dz c w lo N E m r q W)(k:∀W',dz c w lo N E m r q W'→Q (.returned (.bool (cR c.l 0 s q).1)) W') :
 Calls Tryz.prog 32 #[.pointer (some ⟨c.sp,0,none⟩),.int .i64 0,.string s] W Q:=by
 refine(O6 c q s W h.st.cur.at_).mono ?_;rintro e W' h1;obtain⟨rfl,h2,h3⟩:=h1.go h.st.cur;exact k _ ⟨h.st.go h2 h3 h.st.dl h.st.dh,h.eq⟩
theorem UL(h:dz c w lo N E m r q W)(k:∀W',dz c w lo N E m r q W'→Q (.returned (.bool (nf c.l q).1)) W') :
 Calls Tryz.prog 64 #[.pointer (some ⟨c.sp,0,none⟩)] W Q:=by
 refine(O0 c q W h.st.cur.at_).mono ?_;rintro e W' h1;obtain⟨rfl,h2,h3⟩:=h1.go h.st.cur;exact k _ ⟨h.st.go h2 h3 h.st.dl h.st.dh,h.eq⟩
theorem Cv{f:List Nd→SM β}(h:dz c w lo N E (dU c.l>>=f) r q W)(k:∀x q' W',dz c w lo N E (f (made {kind:=38,name:=x} [])) r q' W'→Q (.returned (.string x)) W') :
 Calls Tryz.prog 70 #[.pointer (some ⟨c.sp,0,none⟩)] W Q:=by
 refine(Ev c q W h.st.cur.at_).mono ?_;rintro e W' h1;obtain⟨rfl,h2,h3⟩:=h1.go h.st.cur;exact k _ _ _ (h.next h2 h3 (r6 c.l q).2.2.2)
theorem nO{f:Unit→SM β}(h:dz c w (lo+1) N E (jx>>=f) r q W)(k:∀q' W',dz c w lo N E (f ()) r q' W'→Q (.returned (.tuple #[])) W') :
 Calls Tryz.prog 61 #[.pointer (some ⟨c.sp,0,none⟩)] W Q:=by
 have hd:=h.st.dl;have hn:=h.st.dh;refine(Lz c q W h.st.cur.at_ (by omega)).mono ?_;rintro e W' h1;obtain⟨rfl,h2,h3⟩:=h1.go h.st.cur;exact k _ _ ⟨⟨h2,by show lo≤q.deep-1;omega,by show q.deep-1≤N;omega,fun X hX=>h.st.ext X (h3.trans hX)⟩,h.eq⟩
theorem G5{f:Bool→SM β}(h:dz c w q.deep N E (ew>>=f) r q W)(hN:N≤990)(k1:∀q' W',q'.bad=false→q'.deep=q.deep+1→dz c w (q.deep+1) 60 E (f true) r q' W'→Q (.returned (.bool true)) W')(k2:∀q' W',dz c w q.deep (N+1) E (f false) r q' W'→Q (.returned (.bool false)) W') :
 Calls Tryz.prog 56 #[.pointer (some ⟨c.sp,0,none⟩)] W Q:=by
 have hn:=h.st.dh;refine(Lp c q W h.st.cur.at_ (by omega)).mono ?_;rintro e W' h1;obtain⟨rfl,h2,h3⟩:=h1.go h.st.cur;have he:=h.eq;rw[aC] at he;obtain⟨t1,t2,t3,⟨t4,t5,t6,t7⟩|⟨t4,t5⟩⟩:=G6 q
 · rw[t4] at he ⊢;exact k1 _ _ (by cases hb:(ew q).2.bad with| false=>rfl|true=>have:=BG hb;omega) t2 ⟨⟨h2,by omega,by omega,fun X hX=>h.st.ext X (h3.trans hX)⟩,he⟩
 · rw[t4] at he ⊢;exact k2 _ _ ⟨⟨h2,by omega,by omega,fun X hX=>h.st.ext X (h3.trans hX)⟩,he⟩
theorem bt{F:FuncId}{args:Array Value}{x:SM (List Nd)}{f:List Nd→SM β}{k0 E0 e0 D d:Nat}(hF:Calls Tryz.prog F args W (aM c (x q).2 (x q).1 W))(h:dz c w lo N E (x>>=f) r q W)(tm:Tm k0 E0 e0 D d x)(hz:k0+E0+e0≤100)
 (k:∀l q' W' a n,dz c w lo (N+(D+d)) (fun X=>Own c w W a n l X∧E X) (f l) r q' W'→Q (.returned (.slice a l.length n)) W'):Calls Tryz.prog F args W Q:=by
 refine hF.mono ?_;rintro e W' h1;obtain⟨a,n,rfl,hl,h2,h3⟩:=h1.go2 h.st.cur;have hd:=RW tm q;have hn:=h.st.dh;have hm:=h.st.dl;have hb:=Q5 tm q;have hp:=h2.pos;exact k _ _ _ a n ⟨⟨h2,by omega,by omega,fun X hX=>⟨⟨⟨h.st.cur.new,hl.sm hX⟩,by omega⟩,h.st.ext X (h3.trans hX)⟩⟩,h.eq⟩
theorem uk{f:List Nd→SM β}(h:dz c w lo N E (bB c.l>>=f) r q W)(k:∀l q' W' a n,dz c w lo (N+(1+0)) (fun X=>Own c w W a n l X∧E X) (f l) r q' W'→Q (.returned (.slice a l.length n)) W') :
 Calls Tryz.prog 67 #[.pointer (some ⟨c.sp,0,none⟩)] W Q:=bt (D3 c q W h.st.cur.at_) h (Ho c.l) (by decide) k
theorem dv(n:Nd)(xs:List (List Nd)){vs:Array Value}{t:TypeId}(hv:vR ke 0 W.heap.size W vs.toList xs)(hb:xs.flatten.length≤1000000000)(hk:xs.length≤1000)(h:dz c w lo N E m r q W)
 (k:∀W' a j,dz c w lo N (fun X=>Lw c w W a j (made n xs) X∧E X) m r q W'→Q (.returned (.slice a (made n xs).length j)) W') :
 Calls Tryz.prog 18 #[.agg #[.int .i64 n.kind,.string n.name,.string n.alias,.string n.text,.int .i64 n.flag,.int .i64 n.size],.slice (some ⟨W.heap.size,0,none⟩) xs.length xs.length] (W.alloc (.cells vs t (0,0))) Q:=by
 refine(NL n xs vs t W hv hb hk).mono ?_;rintro e W' h1;have h0:=h.st.cur.alloc (.cells vs t (0,0));obtain⟨a,j,rfl,hl,h2,h3⟩:=h1.go2 h0;have h4:=((Sm.refl [] W).alloc (.cells vs t (0,0))).trans h3;exact k _ a j ⟨⟨h2,h.st.dl,h.st.dh,fun X hX=>⟨⟨h.st.cur.new,(hl.sm hX).base (by simp)⟩,h.st.ext X (h4.of_nil.trans hX)⟩⟩,h.eq⟩
theorem fy(n:Nd)(h:dz c w lo N E m r q W)
 (k:∀W' a j,dz c w lo N (fun X=>Lw c w W a j (made n []) X∧E X) m r q W'→Q (.returned (.slice a (made n []).length j)) W') :
 Calls Tryz.prog 18 #[.agg #[.int .i64 n.kind,.string n.name,.string n.alias,.string n.text,.int .i64 n.flag,.int .i64 n.size],.slice none 0 0] W Q:=by
 refine(yI n [] none 0 0 0 0 W (F3 _ _) (Nat.zero_le _) (by simp) (by simp)).mono ?_;rintro e W' h1;obtain⟨a,j,rfl,hl,h2,h3⟩:=h1.go2 h.st.cur;exact k _ a j ⟨⟨h2,h.st.dl,h.st.dh,fun X hX=>⟨⟨h.st.cur.new,hl.sm hX⟩,h.st.ext X (h3.of_nil.trans hX)⟩⟩,h.eq⟩
theorem jY(n:Nd){v:Value}{vs:List Value}{xs:List (List Nd)}(hv:bI c w W v vs xs)(hb:xs.flatten.length≤1000000000)(hk:xs.length≤1000000000)(h:dz c w lo N E m r q W)
 (k:∀W' a j,dz c w lo N (fun X=>Lw c w W a j (made n xs) X∧E X) m r q W'→Q (.returned (.slice a (made n xs).length j)) W') :
 Calls Tryz.prog 18 #[.agg #[.int .i64 n.kind,.string n.name,.string n.alias,.string n.text,.int .i64 n.flag,.int .i64 n.size],v] W Q:=by
 obtain⟨a,j,rfl⟩:=hv.form;refine(yI n xs a _ j 0 _ W hv.list lr hb hk).mono ?_;rintro e W' h1;obtain⟨a,j,rfl,hl,h2,h3⟩:=h1.go2 h.st.cur;exact k _ a j ⟨⟨h2,h.st.dl,h.st.dh,fun X hX=>⟨⟨h.st.cur.new,hl.sm hX⟩,h.st.ext X (h3.of_nil.trans hX)⟩⟩,h.eq⟩
end
theorem A2{l:List Tok}{k:Int}{q q':Ps}{b:Bool}(hx:ay l k q=(b,q'))(hb:q.bad=false):b=decide (ag l q.pos=k):=by
 unfold ay at hx;by_cases hk:ag l q.pos=k
 · rw[if_neg (by rw[hb];rintro(h|h);cases h;exact h hk)] at hx;rw[←(Prod.mk.inj hx).1];simp[hk]
 · rw[if_pos (.inr hk)] at hx;rw[←(Prod.mk.inj hx).1];simp[hk]
theorem bz{c:Sx}{w W W0:World}{lo N:Nat}{E:World→Prop}{q:Ps}{r:List Nd×Ps}{l:List Nd}{a:Option Addr}{k:Nat}(h:dz c w lo N E (pure l) r q W)(hl:Lw c w W0 a k l W):aM c r.2 r.1 w (.returned (.slice a l.length k)) W:=lp h.st.cur (hl.2.base hl.1) h.eq.symm
theorem eA{c:Sx}{w W:World}{lo N:Nat}{E:World→Prop}{q:Ps}{r:List Nd×Ps}(h:dz c w lo N E (pure []) r q W):aM c r.2 r.1 w (.returned (.slice none 0 0)) W:=lp h.st.cur (kM.Z0P h.st.cur) h.eq.symm
theorem gz{c:Sx}{w:World}{N:Nat}{p:Ps}{x:SM (List Nd)}{r:List Nd×Ps}(hr:x p=r)(h:fV c p w)(hd:p.deep≤N):dz c w p.deep N (fun _=>True) x r p w:=⟨⟨lO.start h,lr,hd,fun _ _=>trivial⟩,hr⟩
theorem iV{c:Sx}{w W:World}{lo N:Nat}{E:World→Prop}{q:Ps}{r:List Nd×Ps}{Q:Ending→World→Prop}(h:dz c w lo N E dn r q W)(k:∀q' W',dz c w lo N E (pure []) r q' W'→Q (.returned (.slice none 0 0)) W') :
 Calls Tryz.prog 17 #[.pointer (some ⟨c.sp,0,none⟩)] W Q:=by
 refine(nF c q W h.st.cur.at_).mono ?_;rintro e W' h1;obtain⟨rfl,h2,h3⟩:=h1.go h.st.cur;exact k _ _ ⟨h.st.go h2 h3 (by rw[gY];exact h.st.dl) (by rw[gY];exact h.st.dh),h.eq⟩
theorem jT.QR{l:List Tok}{e:Int}{item:SM (List Nd)}{R:List (List Nd)×Ps}{d0:Nat}{u:Bool}{j m:Nat}{acc:List (List Nd)}{q:Ps}(h:jT l e item R d0 u j m acc q):q.deep≤d0+10:=h.hu
theorem jn.QR{l:List Tok}{k:Int}{item:SM (List Nd)}{R:List (List Nd)×Ps}{d0 m:Nat}{acc:List (List Nd)}{q:Ps}(h:jn l k item R d0 0 m acc q):q.deep≤d0+10:=by have h1:=h.hi;have h2:=dG q;omega
section
variable{c:Sx}{w W W':World}{lo N d0 g j m:Nat}{E:World→Prop}{q q':Ps}{item:SM (List Nd)}{e:Int}{R:List (List Nd)×Ps}{v ii:Value}{acc:List (List Nd)}{x:List Nd}
structure qV(c:Sx)(w:World)(lo N:Nat)(E:World→Prop)(item:SM (List Nd))(e:Int)(R:List (List Nd)×Ps)(d0 j m:Nat)(acc:List (List Nd))(v:Value)(q:Ps)(W:World):Prop where
 l:jT c.l e item R d0 true j m acc q
 o:mc w W v acc.flatten
 s:St c w lo (N+10) E q W
 d:lo≤d0∧d0≤N
def Bz(c:Sx)(w:World)(lo N:Nat)(E:World→Prop)(item:SM (List Nd))(e:Int)(R:List (List Nd)×Ps)(d0 g:Nat)(v ii:Value)(wr:World):Prop:=
 ∃(j m:Nat) (acc:List (List Nd)) (q:Ps),g+j=1000010∧ii=.int .i64 (j:Int)∧qV c w lo N E item e R d0 j m acc v q wr
theorem vx{r:List Nd×Ps}(h:dz c w lo N E (cV c.l e item (many c.l) []>>=fun out=>pure out.flatten) r q W):∃R,r=(R.1.flatten,R.2)∧Bz c w lo N E item e R q.deep 1000010 (.slice none 0 0) (.int .i64 0) W:=
 ⟨_,h.eq.symm,0,_,[],q,rfl,rfl,jT.start (l:=c.l) (e:=e) (item:=item) (acc:=[]) true h.st.cur.at_.jC.small (by simp),mc.nil _ _,h.st.more (Nat.le_add_right _ _),h.st.dl,h.st.dh⟩
theorem qV.jb(h:qV c w lo N E item e R d0 j m acc v q W):j≤1000004:=by have:=h.l.jm;omega
theorem qV.z(h:qV c w lo N E item e R d0 j m acc v q W):acc.flatten.length≤2000500:=by have h1:=h.l.sz;have h2:=h.s.cur.pos;have h3:=dG q;omega
theorem qV.bad(h:qV c w lo N E item e R d0 j m acc v q W)(hb:q.bad=true):aM c R.2 R.1.flatten w (.returned v) W:=by rw[h.l.bad hb];exact lp (r:=(acc.flatten,q)) h.s.cur (h.o.Zi h.s.cur) rfl
theorem qV.out{f:Bool→SM (List Nd)}(h:qV c w lo N E item e R d0 j m acc v q W)(hj:j≠0)(hb:q.bad=false)(hx:ay c.l e q=(true,q'))(h2:lO c w q' W')(hs:Sm [c.sp] W W'):aM c R.2 R.1.flatten w (.returned v) W':=by rw[h.l.end_ (fun e=>hj e.2) hb h.s.cur.at_.pos hx];exact lp (r:=(acc.flatten,q')) h2 ((h.o.sm hs h.s.cur.sp).Zi h2) rfl
theorem qV.cP{Q:Ending→World→Prop}(h:qV c w lo N E item e R d0 j m acc v q W)(hj:j≠0)(hb:q.bad=false)(he:e≠1)(k1:∀W',aM c R.2 R.1.flatten w (.returned v) W'→Q (.returned (.bool true)) W')
 (k2:∀W',qV c w lo N E item e R d0 j m acc v q W'→(ay c.l e q).1=false→Q (.returned (.bool false)) W') :
 Calls Tryz.prog 59 #[.pointer (some ⟨c.sp,0,none⟩),.int .i64 e] W Q:=by
 refine(lZ c q e W h.s.cur.at_ he).mono ?_;rintro e' W' h1;obtain⟨rfl,h2,h3⟩:=h1.go h.s.cur;rcases ia c.l q e with⟨t1,t2,t3⟩|⟨t1,t2⟩
 · rw[t1];exact k1 _ (h.out (f:=fun _=>pure []) hj hb (Prod.ext t1 rfl) h2 h3)
 · rw[t1];rw[t2] at h2;exact k2 _ ⟨h.l,h.o.sm h3 h.s.cur.sp,h.s.go h2 h3 h.s.dl h.s.dh,h.d⟩ t1
theorem qV.Sp(h:qV c w lo N E item e R d0 j m acc v q W)(hb:q.bad=false):∃r,item q=r∧dz c w lo N (fun X=>Sm [c.sp] W X) item r q W:=
 ⟨_,rfl,⟨h.s.cur,by rw[h.l.hi hb];exact h.d.1,by rw[h.l.hi hb];exact h.d.2,fun X hX=>hX⟩,rfl⟩
theorem qV.next{D d n:Nat}{E':World→Prop}{v':Value}{nd:Nd}{ks:List (List Nd)}{r:List Nd×Ps}{Wm:World}{qm:Ps}(h:qV c w lo N E item e R d0 j m acc v q W)(hb:q.bad=false)(hj:j=0∨(ay c.l e q).1=false)(hr:item q=r)(hm:dz c w lo n E' (pure (made nd ks)) r qm Wm)(tm:Tm 0 10 10 D d item)(hD:D≤10)
 (aJ:W'.ownsRow w.heap.size 67 6 v' (acc.flatten.length+(made nd ks).length) (gF acc.flatten++gF (made nd ks))) (hg:Wm.grownBy W' v.ownBlock) (Ve:∀X,Sm [c.sp] W' X→E X) :
 ∃m',qV c w lo N E item e R d0 (j+1) m' (acc++[made nd ks]) v' qm W':=by
 have mq:r=(made nd ks,qm):=hm.eq.symm;obtain⟨m',h1⟩:=h.l.next hb h.s.cur.at_.pos (hj.imp (fun e=>⟨rfl,e⟩) id) (hr.trans mq) tm hD (.inr (by simp[made]));refine⟨m',h1,?_,⟨hm.st.cur.grown hg h.o.base,hm.st.dl,by have a1:=h1.QR;have a2:=h.d;omega,Ve⟩,h.d⟩;rw[List.flatten_append,List.flatten_singleton];exact mc.add aJ
variable{n0:Nat}{u:Bool}{vs:List Value}{r:List Nd×Ps}{f:List (List Nd)→SM (List Nd)}{Q:Ending→World→Prop}
structure oI(c:Sx)(w:World)(lo N:Nat)(E:World→Prop)(item:SM (List Nd))(e:Int)(R:List (List Nd)×Ps)(d0:Nat)(u:Bool)(n0 j m:Nat)(acc:List (List Nd))(vs:List Value)(v:Value)(q:Ps)(W:World):Prop where
 l:jT c.l e item R d0 u j m acc q
 k:bI c w W v vs acc
 s:St c w lo (N+10) E q W
 d:lo≤d0∧d0≤N
 n:acc.length=n0+j
def UD(c:Sx)(w:World)(lo N:Nat)(E:World→Prop)(item:SM (List Nd))(e:Int)(R:List (List Nd)×Ps)(d0:Nat)(u:Bool)(n0 g:Nat)(v ii:Value)(wr:World):Prop:=
 ∃(j m:Nat) (acc:List (List Nd)) (vs:List Value) (q:Ps),g+j=1000010∧ii=.int .i64 (j:Int)∧oI c w lo N E item e R d0 u n0 j m acc vs v q wr
def FC(c:Sx)(w:World)(lo N:Nat)(E:World→Prop)(item:SM (List Nd))(e:Int)(R:List (List Nd)×Ps)(d0:Nat)(u:Bool)(g:Nat)(v:Value)(wr:World):Prop:=
 ∃(j m:Nat) (acc:List (List Nd)) (vs:List Value) (q:Ps),g+j=1000010∧oI c w lo N E item e R d0 u 0 j m acc vs v q wr
theorem F1(h:dz c w lo N E (cV c.l e item (many c.l) acc>>=f) r q W)(hk:bI c w W v vs acc)(hz:acc.flatten.length≤q.pos+1000200):∃R,f R.1 R.2=r∧∃m,oI c w lo N E item e R q.deep true acc.length 0 m acc vs v q W:=
 ⟨_,h.eq,_,jT.start (l:=c.l) (e:=e) (item:=item) (acc:=acc) true h.st.cur.at_.jC.small hz,hk,h.st.more (Nat.le_add_right _ _),⟨h.st.dl,h.st.dh⟩,rfl⟩
theorem Ct(h:dz c w lo N E (dk c.l e item (many c.l) []>>=f) r q W):∃R,f R.1 R.2=r∧∃m,oI c w lo N E item e R q.deep false 0 0 m [] [] (.slice none 0 0) q W:=
 ⟨_,h.eq,_,jT.start (l:=c.l) (e:=e) (item:=item) (acc:=[]) false h.st.cur.at_.jC.small (by simp),bI.nil _ _ _,h.st.more (Nat.le_add_right _ _),⟨h.st.dl,h.st.dh⟩,rfl⟩
theorem oI.jb(h:oI c w lo N E item e R d0 u n0 j m acc vs v q W):j≤1000004:=by have:=h.l.jm;omega
theorem oI.z(h:oI c w lo N E item e R d0 u n0 j m acc vs v q W):acc.flatten.length≤2000500:=by have h1:=h.l.sz;have h2:=h.s.cur.pos;have h3:=dG q;omega
theorem oI.form(h:oI c w lo N E item e R d0 u n0 j m acc vs v q W):∃a k,v=.slice a acc.length k:=h.k.form
theorem oI.bad(h:oI c w lo N E item e R d0 u n0 j m acc vs v q W)(hf:f R.1 R.2=r)(hb:q.bad=true):dz c w lo (N+10) (fun X=>bI c w X v vs acc∧E X) (f acc) r q W:=by have h1:=h.l.bad hb;rw[h1] at hf;exact⟨⟨h.s.cur,h.s.dl,h.s.dh,fun X hX=>⟨h.k.sm hX h.s.cur.sp,h.s.ext X hX⟩⟩,hf⟩
theorem oI.cP(h:oI c w lo N E item e R d0 u n0 j m acc vs v q W)(hf:f R.1 R.2=r)(hj:¬(u=true∧j=0))(hb:q.bad=false)(he:e≠1)(k1:∀q' W',dz c w lo (N+10) (fun X=>bI c w X v vs acc∧E X) (f acc) r q' W'→Q (.returned (.bool true)) W')
 (k2:∀W',oI c w lo N E item e R d0 u n0 j m acc vs v q W'→(ay c.l e q).1=false→Q (.returned (.bool false)) W') :
 Calls Tryz.prog 59 #[.pointer (some ⟨c.sp,0,none⟩),.int .i64 e] W Q:=by
 refine(lZ c q e W h.s.cur.at_ he).mono ?_;rintro e' W' h1;obtain⟨rfl,h2,h3⟩:=h1.go h.s.cur;have hd:=(MJ c.l q e).2.2;rcases ia c.l q e with⟨t1,t2,t3⟩|⟨t1,t2⟩
 · rw[t1];have h4:=h.l.end_ hj hb h.s.cur.at_.pos (Prod.ext t1 rfl);rw[h4] at hf;exact k1 _ _ ⟨⟨h2,by rw[hd];exact h.s.dl,by rw[hd];exact h.s.dh,fun X hX=>⟨h.k.sm (h3.trans hX) h.s.cur.sp,h.s.ext X (h3.trans hX)⟩⟩,hf⟩
 · rw[t1];rw[t2] at h2;exact k2 _ ⟨h.l,h.k.sm h3 h.s.cur.sp,h.s.go h2 h3 h.s.dl h.s.dh,h.d,h.n⟩ t1
theorem oI.Sp(h:oI c w lo N E item e R d0 u n0 j m acc vs v q W)(hb:q.bad=false):∃r,item q=r∧q.deep=d0∧dz c w lo N (fun X=>Sm [c.sp] W X) item r q W:=
 ⟨_,rfl,h.l.hi hb,⟨h.s.cur,by rw[h.l.hi hb];exact h.d.1,by rw[h.l.hi hb];exact h.d.2,fun X hX=>hX⟩,rfl⟩
theorem oI.next{D d n:Nat}{E':World→Prop}{v':Value}{Oq:List Value}{x:List Nd}{rx:List Nd×Ps}{Wm:World}{qm:Ps}(h:oI c w lo N E item e R d0 u n0 j m acc vs v q W)(hb:q.bad=false)(hj:(u=true∧j=0)∨(ay c.l e q).1=false)(hr:item q=rx)(hm:dz c w lo n E' (pure x) rx qm Wm)(tm:Tm 0 10 10 D d item)(hD:D≤10)
 (hx:qm.bad=true∨1≤x.length) (hk:bI c w W' v' Oq (acc++[x])) (hg:Wm.grownBy W' v.ownBlock) (Ve:∀X,Sm [c.sp] W' X→E X) :
 ∃m',oI c w lo N E item e R d0 u n0 (j+1) m' (acc++[x]) Oq v' qm W':=by
 have mq:rx=(x,qm):=hm.eq.symm;obtain⟨m',h1⟩:=h.l.next hb h.s.cur.at_.pos hj (hr.trans mq) tm hD hx;exact⟨m',h1,hk,⟨hm.st.cur.grown hg h.k.base,hm.st.dl,by have a1:=h1.QR;have a2:=h.d;omega,Ve⟩,h.d,by rw[List.length_append,h.n];simp;omega⟩
theorem oI.add{b g cap:Nat}{x:List Nd}{y:Value}{Wm:World}(h:oI c w lo N E item e R d0 u n0 j m acc vs v q W)(hs:Sm [c.sp] W Wm)(hl:kM c b Wm y x)(hb:W.heap.size≤b)(aJ:W'.ownsRow w.heap.size 23 1 (.slice (some ⟨g,0,none⟩) (acc.length+1) cap) (acc.length+1) (vs++[y]))
 (hg:Wm.grownBy W' v.ownBlock) (bV:v.ownBlock=some g∨g=Wm.heap.size+1):bI c w W' (.slice (some ⟨g,0,none⟩) (acc.length+1) cap) (vs++[y]) (acc++[x]):=
 (h.k.sm hs h.s.cur.sp).add hl (fun g e=>by have:=(h.k.own.lt g e).2;omega) aJ hg bV
structure DB(c:Sx)(w:World)(lo N:Nat)(E:World→Prop)(item:SM (List Nd))(e:Int)(R:List (List Nd)×Ps)(d0 m:Nat)(acc:List (List Nd))(v:Value)(q:Ps)(W:World):Prop where
 l:jn c.l e item R d0 0 m acc q
 o:mc w W v acc.flatten
 s:St c w lo (N+10) E q W
 d:lo≤d0∧d0≤N
def LU(c:Sx)(w:World)(lo N:Nat)(E:World→Prop)(item:SM (List Nd))(e:Int)(R:List (List Nd)×Ps)(d0 g:Nat)(v:Value)(wr:World):Prop:=
 ∃(acc:List (List Nd)) (q:Ps),DB c w lo N E item e R d0 g acc v q wr
theorem N3(h:dz c w lo N E (dE c.l e item (many c.l) []>>=fun out=>pure out.flatten) r q W):∃R,r=(R.1.flatten,R.2)∧LU c w lo N E item e R q.deep (many c.l) (.slice none 0 0) W:=
 ⟨_,h.eq.symm,[],q,jn.start (l:=c.l) (e:=e) (item:=item) (acc:=[]) h.st.cur.at_.jC.small 0 (by simp),mc.nil _ _,h.st.more (Nat.le_add_right _ _),h.st.dl,h.st.dh⟩
theorem DB.z(h:DB c w lo N E item e R d0 m acc v q W):acc.flatten.length≤2000500:=by have h1:=h.l.sz;have h2:=h.s.cur.pos;have h3:=dG q;omega
theorem DB.bad(h:DB c w lo N E item e R d0 m acc v q W)(hb:q.bad=true):aM c R.2 R.1.flatten w (.returned v) W:=by rw[h.l.end_ (by rw[O8 c.l q e hb])];exact lp (r:=(acc.flatten,q)) h.s.cur (h.o.Zi h.s.cur) rfl
theorem jn.step{z0:Nat}{k:Int}(h:jn c.l k item R d0 z0 m acc q)(ht:(ay c.l k q).1=true):(ay c.l k q).2.deep≤d0+z0∧d0≤(ay c.l k q).2.deep:=by
 rcases ia c.l q k with⟨t1,t2,t3⟩|⟨t1,t2⟩
 · have h1:=h.hi;have h2:=h.lo;rw[iM t3] at h1;rw[t2];exact⟨by show q.deep≤_;omega,h2⟩
 · rw[t1] at ht;cases ht
theorem DB.cP(h:DB c w lo N E item e R d0 m acc v q W)(he:e≠1)(k1:∀W',aM c R.2 R.1.flatten w (.returned v) W'→Q (.returned (.bool false)) W')
 (k2:∀rx q1 W',ay c.l e q=(true,q1)→item q1=rx→dz c w lo N (fun X=>Sm [c.sp] W X) item rx q1 W'→Q (.returned (.bool true)) W') :
 Calls Tryz.prog 59 #[.pointer (some ⟨c.sp,0,none⟩),.int .i64 e] W Q:=by
 refine(lZ c q e W h.s.cur.at_ he).mono ?_;rintro e' W' h1;obtain⟨rfl,h2,h3⟩:=h1.go h.s.cur;have hd:=h.d
 cases hb:(ay c.l e q).1 with
 | true=>
  have hs:=h.l.step hb
  exact k2 _ (ay c.l e q).2 W' (Prod.ext hb rfl) rfl ⟨⟨h2,by omega,by omega,fun X hX=>h3.trans hX⟩,rfl⟩
 | false=>
  refine k1 _ ?_;rcases ia c.l q e with⟨t1,t2,t3⟩|⟨t1,t2⟩
  · rw[hb] at t1;cases t1
  · rw[t2] at h2;rw[h.l.end_ hb];exact lp (r:=(acc.flatten,q)) h2 ((h.o.sm h3 h.s.cur.sp).Zi h2) rfl
theorem DB.next{D d n:Nat}{E':World→Prop}{v':Value}{nd:Nd}{ks:List (List Nd)}{rx:List Nd×Ps}{Wm:World}{q1 qm:Ps}(h:DB c w lo N E item e R d0 m acc v q W)(ht:ay c.l e q=(true,q1))(hr:item q1=rx)(hm:dz c w lo n E' (pure (made nd ks)) rx qm Wm)(tm:Tm 1 10 10 D d item)(hD:D≤10)
 (aJ:W'.ownsRow w.heap.size 67 6 v' (acc.flatten.length+(made nd ks).length) (gF acc.flatten++gF (made nd ks))) (hg:Wm.grownBy W' v.ownBlock) (Ve:∀X,Sm [c.sp] W' X→E X) :
 ∃m',m=m'+1∧DB c w lo N E item e R d0 m' (acc++[made nd ks]) v' qm W':=by
 have mq:rx=(made nd ks,qm):=hm.eq.symm;obtain⟨m',h0,h1⟩:=h.l.next h.s.cur.at_.pos ht (hr.trans mq) tm hD (.inr (by simp[made]));refine⟨m',h0,h1,?_,⟨hm.st.cur.grown hg h.o.base,hm.st.dl,by have a1:=h1.QR;have a2:=h.d;omega,Ve⟩,h.d⟩;rw[List.flatten_append,List.flatten_singleton];exact mc.add aJ
structure DK(c:Sx)(w:World)(lo N:Nat)(E:World→Prop)(item:SM (List Nd))(e:Int)(R:List (List Nd)×Ps)(d0 m:Nat)(acc:List (List Nd))(vs:List Value)(v:Value)(q:Ps)(W:World):Prop where
 l:jn c.l e item R d0 0 m acc q
 k:bI c w W v vs acc
 s:St c w lo (N+10) E q W
 d:lo≤d0∧d0≤N
 n:acc.length+m≤1000010
def By(c:Sx)(w:World)(lo N:Nat)(E:World→Prop)(item:SM (List Nd))(e:Int)(R:List (List Nd)×Ps)(d0 g:Nat)(v:Value)(wr:World):Prop:=
 ∃(acc:List (List Nd)) (vs:List Value) (q:Ps),DK c w lo N E item e R d0 g acc vs v q wr
theorem rG(h:dz c w lo N E (dE c.l e item (many c.l) acc>>=f) r q W)(hk:bI c w W v vs acc)(hz:acc.flatten.length≤q.pos+1000200)(hn:acc.length≤5):∃R,f R.1 R.2=r∧By c w lo N E item e R q.deep (many c.l) v W:=
 ⟨_,h.eq,acc,vs,q,jn.start (l:=c.l) (e:=e) (item:=item) (acc:=acc) h.st.cur.at_.jC.small 0 hz,hk,h.st.more (Nat.le_add_right _ _),⟨h.st.dl,h.st.dh⟩,by have:=h.st.cur.at_.jC.small;unfold many;omega⟩
theorem DK.z(h:DK c w lo N E item e R d0 m acc vs v q W):acc.flatten.length≤2000500:=by have h1:=h.l.sz;have h2:=h.s.cur.pos;have h3:=dG q;omega
theorem DK.cP(h:DK c w lo N E item e R d0 m acc vs v q W)(hf:f R.1 R.2=r)(he:e≠1)(k1:∀W',dz c w lo (N+10) (fun X=>bI c w X v vs acc∧E X) (f acc) r q W'→Q (.returned (.bool false)) W')
 (k2:∀rx q1 W',ay c.l e q=(true,q1)→item q1=rx→dz c w lo N (fun X=>Sm [c.sp] W X) item rx q1 W'→Q (.returned (.bool true)) W') :
 Calls Tryz.prog 59 #[.pointer (some ⟨c.sp,0,none⟩),.int .i64 e] W Q:=by
 refine(lZ c q e W h.s.cur.at_ he).mono ?_;rintro e' W' h1;obtain⟨rfl,h2,h3⟩:=h1.go h.s.cur;have hd:=h.d
 cases hb:(ay c.l e q).1 with
 | true=>
  have hs:=h.l.step hb
  exact k2 _ (ay c.l e q).2 W' (Prod.ext hb rfl) rfl ⟨⟨h2,by omega,by omega,fun X hX=>h3.trans hX⟩,rfl⟩
 | false=>
  refine k1 _ ?_;rcases ia c.l q e with⟨t1,t2,t3⟩|⟨t1,t2⟩
  · rw[hb] at t1;cases t1
  · rw[t2] at h2;rw[h.l.end_ hb] at hf;exact⟨⟨h2,h.s.dl,h.s.dh,fun X hX=>⟨h.k.sm (h3.trans hX) h.s.cur.sp,h.s.ext X (h3.trans hX)⟩⟩,hf⟩
theorem DK.next{D d n:Nat}{E':World→Prop}{v':Value}{Oq:List Value}{x:List Nd}{rx:List Nd×Ps}{Wm:World}{q1 qm:Ps}(h:DK c w lo N E item e R d0 m acc vs v q W)(ht:ay c.l e q=(true,q1))(hr:item q1=rx)(hm:dz c w lo n E' (pure x) rx qm Wm)(tm:Tm 1 10 10 D d item)(hD:D≤10)
 (hx:qm.bad=true∨1≤x.length) (hk:bI c w W' v' Oq (acc++[x])) (hg:Wm.grownBy W' v.ownBlock) (Ve:∀X,Sm [c.sp] W' X→E X) :
 ∃m',m=m'+1∧DK c w lo N E item e R d0 m' (acc++[x]) Oq v' qm W':=by
 have mq:rx=(x,qm):=hm.eq.symm;obtain⟨m',h0,h1⟩:=h.l.next h.s.cur.at_.pos ht (hr.trans mq) tm hD hx;exact⟨m',h0,h1,hk,⟨hm.st.cur.grown hg h.k.base,hm.st.dl,by have a1:=h1.QR;have a2:=h.d;omega,Ve⟩,h.d,by have:=h.n;rw[List.length_append];simp;omega⟩
theorem DK.add{b g cap:Nat}{x:List Nd}{y:Value}{Wm:World}(h:DK c w lo N E item e R d0 m acc vs v q W)(hs:Sm [c.sp] W Wm)(hl:kM c b Wm y x)(hb:W.heap.size≤b)(aJ:W'.ownsRow w.heap.size 23 1 (.slice (some ⟨g,0,none⟩) (acc.length+1) cap) (acc.length+1) (vs++[y]))
 (hg:Wm.grownBy W' v.ownBlock) (bV:v.ownBlock=some g∨g=Wm.heap.size+1):bI c w W' (.slice (some ⟨g,0,none⟩) (acc.length+1) cap) (vs++[y]) (acc++[x]):=
 (h.k.sm hs h.s.cur.sp).add hl (fun g e=>by have:=(h.k.own.lt g e).2;omega) aJ hg bV
theorem oA.grow{b:Nat}{cs:Array Value}{Oq:List Value}{xs:List (List Nd)}{Wk:World}(h:oA w b (.cells cs 67 (0,0)) W)(hk:bI c w Wk v Oq xs)(ri:Sm [c.sp] Wk W)(hg:W.grownBy W' v.ownBlock)(hp:c.sp<w.heap.size):∀X,Sm [c.sp] W' X→oA w b (.cells cs 67 (0,0)) X:=fun X hX=>by
 have h1:=h.1;refine⟨h.1,hX.obj ((hg.block b (lt_of_block h.2) (fun e=>?_)).trans h.2) (by simp;omega)⟩;have hk3:=(hk.sm ri hp).own;rcases hk3.2 with⟨rfl,h0⟩|⟨g,cap,cur,rfl,_,h5,_⟩
 · cases e
 · cases e
   rw[h.2] at h5
   cases h5
theorem dz.FN{β:Type}{mm:SM β}{rr:β×Ps}{own:Option Nat}{E2:World→Prop}{v':Value}{Oq:List Value}{xs':List (List Nd)}(h:dz c w lo N E mm rr q W)(hk:bI c w W' v' Oq xs')(hg:W.grownBy W' own)(ho:∀g,own=some g→w.heap.size≤g)(hE:∀X,Sm [c.sp] W' X→E2 X) :
 dz c w lo N (fun X=>bI c w X v' Oq xs'∧E2 X) mm rr q W':=
 ⟨⟨h.st.cur.grown hg ho,h.st.dl,h.st.dh,fun X hX=>⟨hk.sm hX h.st.cur.sp,hE X hX⟩⟩,h.eq⟩
theorem dz.Vz{β:Type}{mm:SM β}{rr:β×Ps}{y:Value}{x:List Nd}{b:Nat}(h:dz c w lo N E mm rr q W)(hl:kM c b W y x):dz c w lo N (fun X=>bI c w X (.slice (some ⟨W.heap.size,0,none⟩) 1 1) [y] [x]∧E X) mm rr q (W.alloc (.cells #[y] 23 (0,0))):=
 ⟨⟨h.st.cur.alloc _,h.st.dl,h.st.dh,fun X hX=>⟨(bI.Vz h.st.cur hl).sm hX h.st.cur.sp,h.st.ext X ((sr.alloc _).trans hX)⟩⟩,h.eq⟩
theorem dz.KZ{β:Type}{mm:SM β}{rr:β×Ps}{y y':Value}{x x':List Nd}{b b':Nat}(h:dz c w lo N E mm rr q W)(hl:kM c b W y x)(Z3:kM c b' W y' x'):dz c w lo N (fun X=>bI c w X (.slice (some ⟨W.heap.size,0,none⟩) 2 2) [y,y'] [x,x']∧E X) mm rr q (W.alloc (.cells #[y,y'] 23 (0,0))):=
 ⟨⟨h.st.cur.alloc _,h.st.dl,h.st.dh,fun X hX=>⟨(bI.KZ h.st.cur hl Z3).sm hX h.st.cur.sp,h.st.ext X ((sr.alloc _).trans hX)⟩⟩,h.eq⟩
theorem pU{p:Ps}{y:Value}{x:List Nd}{z:SM (List Nd)}(hr:z p=r)(h:fV c p w)(hd:p.deep≤N)(ht:kM c 0 w y x):dz c w p.deep N (fun X=>kM c 0 X y x∧True) z r p w:=⟨⟨lO.start h,lr,hd,fun X hX=>⟨ht.sm hX,trivial⟩⟩,hr⟩
theorem dz.named{β:Type}{rr:β×Ps}{k:Int}{g:List Nd→SM β}(h:dz c w lo N E (fq c.l k>>=g) rr q W):dz c w lo N E (aw c.l>>=fun s=>g (made {kind:=k,name:=s} [])) rr q W:=⟨h.st,h.eq⟩
end
theorem D2(c:Sx)(fixed:Bool)(Xr:∀q W,fV c q W→q.deep≤200→Calls Tryz.prog 69 #[.pointer (some ⟨c.sp,0,none⟩),.bool fixed] W (aM c (cQ c.l 62 fixed q).2 (cQ c.l 62 fixed q).1 W))(p:Ps)(w:World)(h:fV c p w)(hd:p.deep≤150):Calls Tryz.prog 65 #[.pointer (some ⟨c.sp,0,none⟩),.bool fixed] w (aM c (cE c.l fixed p).2 (cE c.l fixed p).1 w):=by
 have HV:=ae Xr;obtain⟨r,hr⟩:∃r,(cE c.l fixed) p=r:=⟨_,rfl⟩;rw[hr];rw[Em] at hr;have HS:=ae (gz hr h hd);clear h hd hr Xr;go_enter Tryz.func65,Tryz.ntmps65;go_wp2_with fail;refine cP HS.o (by decide) fun b q1 w1 _ (HP:Hd _) (HS:Hd _)=>?_
 cases b with
 | false=>
  replace HS:=ae (HS.o.no (by simp));go_wp2_with fail;go_returns
  exact eA HS.o
 | true=>
  replace HS:=ae (HS.o.yes (by simp));go_wp2_with fail;refine LA HS.o (fun _=>HP.o (by trivial)) fun q2 w2 (HS:Hd _)=>?_;go_wp2_with fail;obtain⟨R,hr,(HR:Hd _)⟩:=vx (item:=sf c.l fixed) HS.o;subst hr;clear HS
  go_loopg [5,6] 1000010 (fun g v ii wr=>Bz c w p.deep 150 (fun _=>True) (sf c.l fixed) 5 R q2.deep g v ii wr)
  case atStart=>exact HR.o
  case round=>
   obtain⟨j,m,acc,q,(jF:Hd _),rfl,h⟩:=hrel;have HL:=ae h;have TN:=h.jb;have d4:=h.s.cur.at_.c4;clear h HR;go_upto_region 6 with fail
   go_cut [26] from 13 to 26 (fun v wx=>∃b,v=.bool b∧Hd ((b=false→aM c R.2 R.1.flatten w (.returned u5) wx)∧(b=true→qV c w p.deep 150 (fun _=>True) (sf c.l fixed) 5 R q2.deep j m acc u5 q wx∧q.bad=false∧(j=0∨(ay c.l 5 q).1=false))))
   case first=>
    cases hb:q.bad with
    | true=>
     rw[hb] at d4;have HB:=ae hb;clear hb;go_wp2_with fail;go_meet
     exact⟨false,rfl,fun _=>HL.o.bad HB.o,fun e=>by cases e⟩
    | false=>
     rw[hb] at d4;have HB:=ae hb;clear hb;by_cases hj:j=0
     · have y0:((j:Int)==0)=true:=by simp[hj]
       have HJ:=ae hj;clear hj;go_wp2_with fail;go_meet;exact⟨true,rfl,fun e=>(by cases e),fun _=>⟨HL.o,HB.o,.inl HJ.o⟩⟩
     · have y0:((j:Int)==0)=false:=by simp;omega
       have Ia:=ae hj;clear hj;go_wp2_with fail;refine HL.o.cP Ia.o HB.o (by decide) (fun w0 h=>?_) (fun w0 h ht=>?_)
       · have HE:=ae h;clear h;go_wp2_with fail;go_meet;exact⟨false,rfl,fun _=>HE.o,fun e=>by cases e⟩
       · have HE:=ae h;have HT:=ae ht;clear h ht;go_wp2_with fail;go_meet;exact⟨true,rfl,fun e=>(by cases e),fun _=>⟨HE.o,HB.o,.inr HT.o⟩⟩
   case rest=>
    obtain⟨b,rfl,hh⟩:=hcut;clear d4 HL
    cases b with
    | false=>
     have HE:=ae (hh.out.1 rfl);clear hh;go_wp2_with fail;go_returns
     exact HE.o
    | true=>
     obtain⟨h,hb,(HJ:Hd _)⟩:=hh.out.2 rfl;have HL:=ae h;have HB:=ae hb;obtain⟨rx,(HI:Hd _),h⟩:=h.Sp hb;have HS:=ae h;clear hh h hb;go_wp2_with fail;refine e9 HS.o fun nm q3 w3 (HS:Hd _)=>?_;have AA:=ae (((HS.o.self)).size);go_wp2_with fail;refine mH (HS.o.alloc (Z06 9 nm Z05 Z05 0)) (by decide) fun q4 w4 _ (HS:Hd _)=>?_;go_wp2_with fail;have E0:=fU.of (show _=some (Z06 9 nm Z05 Z05 0) from(HS.o.self.1).2);have qi:=E0.sm ((Sm.refl [] _).drew) (by simp);go_wp2_with fail
     go_region_held3 (fun W=>W.cell? ⟨w3.heap.size,0,none⟩=some (.int .i64 9)∧W.cell? ⟨w3.heap.size,1,none⟩=some (.string nm)∧W.cell? ⟨w3.heap.size,2,none⟩=some (.string ByteArray.empty)∧W.cell? ⟨w3.heap.size,3,none⟩=some (.string ByteArray.empty)∧W.cell? ⟨w3.heap.size,4,none⟩=some (.int .i64 0)∧W.cell? ⟨w3.heap.size,5,none⟩=some (.int .i64 0)) (first| exact E0|exact qi|exact Fj|exact(Fj.alloc _)|exact um|exact un)
      (first
       | (go_at_call 69;refine bt (HV.o _ _ (HS.o.drew).st.cur.at_ (by have:=(HS.o.drew).st.dh;omega)) (HS.o.drew) (iz c.l fixed 62) (by decide) (fun v q5 w5 a1 k1 sx=>?_);have Fj:=fU.of (sx.self.2.1).2)
       | (go_at_call 18;refine dv {kind:=9,name:=nm} [v] (vs:=#[.slice a1 v.length k1]) (.cons (sx.self.1).1.2.to .nil) (by have:=(sx.self.1).2;simp[made]<;>omega) (by simp) sx (fun w6 am jm hm=>?_);have um:=fU.of (hm.self.2.2.1).2;obtain⟨Cw,PG,_,_,_,zD,_⟩:=hm.self.1.2;have UZ:acc.flatten.length+(made {kind:=9,name:=nm} [v]).length≤9000000:=(by have:=(sx.self.1).2;have:=HL.o.z;rw[eE];simp only[List.flatten_cons,List.flatten_nil,List.append_nil,List.length_append,List.length_nil,List.nil_append];omega))
       | (refine iv w.heap.size Cw rfl _ _ _ rfl 67 _ 6 72 Tryz.underlying23 np rfl (by omega) u5 (.slice am (made {kind:=9,name:=nm} [v]).length jm) acc.flatten.length (made {kind:=9,name:=nm} [v]).length (gF acc.flatten) (gF (made {kind:=9,name:=nm} [v])) rfl rfl (HL.o.o.sm (hm.self.2.2.2) HL.o.s.cur.sp).row zD (j0 _) (by simp only[maxLen];omega) (by omega) hm.st.cur.new ?_;intro vn wn aJ hg bV;have un:=um.grown hg (fun e=>by have h1:=(HL.o.o.lt _ e).2;have h2:=AA.o;omega)))
     all_goals
      have HM:=ae hm;have HW:=ae aJ;have HG:=ae hg;clear hm aJ hg bV;go_wp2_with fail;obtain⟨m2,h⟩:=HL.o.next (v':=vn) HB.o HJ.o HI.o HM.o (LG c.l fixed) (by decide) (by first| exact HW.o|(rw[List.length_flatten];exact HW.o)) HG.o (fun _ _=>trivial)
      have HN:=ae h;clear h;go_roundg (gk-1)
      case measure=>have:=jF.o;omega
      case rel=>exact⟨j+1,m2,_,_,by have:=jF.o;omega,by go_num,HN.o⟩
end Go.Proofs.YtnpjmhodfdgloaaGreatDoor
