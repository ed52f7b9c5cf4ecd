/- Part of the proof. -/
import Derived.Test.YtnpjmhodfdgloaaGreatDoorQ02
set_option linter.unusedVariables false
set_option linter.unusedSimpArgs false
namespace Go.Proofs.YtnpjmhodfdgloaaGreatDoor
set_option maxRecDepth 100000
set_option maxHeartbeats 32000000
section
variable{l:List Tok}{eof:Tok}{L:Nat→LR}
theorem D9(h:Stream l eof L){n:Nat}{k e:Int}(Z2:k≠1)(he:e≠1){item:SM (List Nd)}{itemI:PM (List Nd)}(hm:aq item){p:Ps}(hb:p.bad=false)(gm:p.pos<l.length→Good l n {p with pos:=p.pos+1})
 (hi:∀q,Good l n q→q.deep=p.deep→ah l eof dF 1 q item itemI) :
 ah l eof dc 3 p (do cr l k;eT l e;cV l e item (many l) []:SM (List (List Nd))) (bW L n k itemI e true):=by
 have Vk:aq (do eT l e;cV l e item (many l) []:SM (List (List Nd))):=aq.bind (kU l e) fun _=>jv l hm _ _;by_cases hk:ag l p.pos=k
 · refine ah.congr ?_ rfl (xJ h Z2 he hm hb (gm (h.lt hk Z2)) hk hi);rw[aC,uJ hb hk]
 · have e1:cr l k p=((),{p with bad:=true,wrong:=p.pos}):=GA hb hk;intro hu;rw[aC,e1] at hu ⊢;have h2:=(Vk {p with bad:=true,wrong:=p.pos}).2 rfl;refine⟨fun _=>?_,fun hx=>?_⟩
   · rw[h2.2];unfold bW;rw[aj,p4 h hk];rfl
   · rw[h2.1] at hx;cases hx
def Jv(l:List Tok)(N:Nat):SM (List Nd):=do
 let kids ←(do cr l 12;eT l 14;cV l 14 (cG l (aI l N)) (many l) []:SM (List (List Nd)))
 pure (made {kind:=5} kids)
theorem T5(N:Nat):aI l (N+1)=(do if(←ew)=true then(do let out ←Jv l N;jx;pure out) else pure []):=by
 conv=>lhs;unfold aI
 rfl
theorem nG(h:Stream l eof L):∀n N p,Good l n p→62≤N+p.deep→ah l eof dF 1 p (aI l N) (cC L n):=by
 intro n
 induction n with
 | zero=>intro N p hg;exact absurd hg.2.2.1 (Nat.not_lt_zero _)
 | succ n ih=>
  intro N p hg hN
  cases N with
  | zero=>have:=hg.2.2.2;omega
  | succ N=>
   rw[T5];refine uS hg.1 (fun hd=>?_);have ux:Good l (n+1) {p with deep:=p.deep+1}:=⟨hg.1,hg.2.1,hg.2.2.1,hd⟩;have S3:62≤N+(p.deep+1):=by omega
   generalize Sg:({p with deep:=p.deep+1}:Ps)=p' at *;have TL:p'.deep=p.deep+1:=by rw[←Sg]
   rw[←TL] at S3;clear hg hN Sg hd TL;unfold Jv cC
   refine((ez (Q:=dF) (f:=fun kids=>made {kind:=5} kids) (g:=fun kids=>made {kind:=5} kids)
    (D9 (n:=n) h (by decide) (by decide) (uH l (fJ l N)) ux.1 (fun hl=>ux.move hl) (fun q gq dq=>?_)) ux (fun a b jd=>dF.made rfl jd))).nH (fun _ _ h=>h) (by omega)
   exact B6 h (fJ l N) gq (fun q' g' d'=>ih N q' g' (by rw[d',dq];exact S3))
def rT(l:List Tok):SM (List Nd):=do if(←ay l 8)=true then cQ l 62 true else pure []
theorem kT:aq (rT l):=aq.bind (eP l _) fun _=>aq.ite (gD l _ _) (aq.pure _)
theorem wZ(h:Stream l eof L){n:Nat}{p:Ps}(hg:Good l n p):ah l eof dF 0 p (rT l) (py L n):=by unfold rT py;exact(rb (d:=0) (e:=0) h hg (by decide) (fun q gq _ _ _=>(Aw h n 62 true q gq (by omega)).any) (fun _=>ah.pure hg (dF.refl _))).any
def oW(l:List Tok):SM (List Nd):=do
 cr l 3
 let s ←aw l
 cr l 7
 let k ←eK l 62
 let v ←rT l
 let q ←fc l 0
 aL (decide (q=9))
 pure (made {kind:=4,name:=s} [k,v])
theorem zN:aq (oW l):=
 aq.bind (ey l _) fun _=>aq.bind (dT l) fun _=>aq.bind (ey l _) fun _=>aq.bind (kB l _) fun _=>aq.bind kT fun _=>aq.bind (eJ l _) fun _=>aq.bind (cL _) fun _=>aq.pure _
theorem zh(h:Stream l eof L){n:Nat}{p:Ps}(hg:Good l n p):ah l eof dF 1 p (oW l) (gM L n):=by unfold oW gM;refine(jA h hg (by decide)).seq (fun _=>aq.bind (dT l) fun _=>aq.bind (ey l _) fun _=>aq.bind (kB l _) fun _=>aq.bind kT fun _=>aq.bind (eJ l _) fun _=>aq.bind (cL _) fun _=>aq.pure _) hg (fun _ _ q1 _ g1 _ d1=>?_);refine(cK h g1).uc (fun _=>aq.bind (ey l _) fun _=>aq.bind (kB l _) fun _=>aq.bind kT fun _=>aq.bind (eJ l _) fun _=>aq.bind (cL _) fun _=>aq.pure _) g1 (fun s s' q2 e2 g2 _ d2=>?_);subst e2;refine(jA h g2 (by decide)).uc (fun _=>aq.bind (kB l _) fun _=>aq.bind kT fun _=>aq.bind (eJ l _) fun _=>aq.bind (cL _) fun _=>aq.pure _) g2 (fun _ _ q3 _ g3 _ d3=>?_);refine(xK h n 62 q3 g3 (by omega)).uc (fun _=>aq.bind kT fun _=>aq.bind (eJ l _) fun _=>aq.bind (cL _) fun _=>aq.pure _) g3 (fun a b q4 jd g4 _ d4=>?_);refine(wZ h g4).uc (fun _=>aq.bind (eJ l _) fun _=>aq.bind (cL _) fun _=>aq.pure _) g4 (fun c d q5 V4 g5 _ d5=>?_);refine ah.look _ rfl (ah.BQ (aq.pure _) (fun _=>?_));exact ah.pure g5 (dF.made rfl (dc.cons jd (dc.one V4)))
theorem B7(h:Stream l eof L){n:Nat}{p:Ps}(hg:Good l n p):ah l eof dF 0 p (fA l) (ku L n):=by
 by_cases hk:ag l p.pos=4
 · have hl:=h.lt hk (by decide);have hs:=xJ (n:=n) (e:=5) (itemI:=gM L n) h (by decide) (by decide) zN hg.1 (hg.next hl) hk (fun q gq _=>zh h gq);refine ah.congr (S':=(do let out ←(fun p=>(do eT l 5;cV l 5 (oW l) (many l) []:SM (List (List Nd))) {p with pos:=p.pos+1}:SM (List (List Nd)));pure out.flatten)) (I':=(do let x ←bW L n 4 (gM L n) 5 true;pure x.flatten)) ?_ ?_ (ez (Q:=dF) (f:=fun x=>x.flatten) (g:=fun x=>x.flatten) hs hg (fun a b jd=>jd.1)).any
   · unfold fA;rw[aC,ig hg.1 hk];rfl
   · unfold ku;rw[aj];simp only[eU,bD,h.kind,hk,if_true]
 · refine ah.congr (S':=pure []) (I':=pure []) ?_ ?_ (ah.pure hg (dF.refl _))
   · unfold fA;rw[aC,ix hk];rfl
   · unfold ku;rw[aj];simp only[eU,bD,h.kind,if_neg hk]
def H8(l:List Tok)(t:ByteArray):SM (List Nd):=do
 let q ←fc l 0
 let n ←(if q=15 then aw l else pure ByteArray.empty:SM ByteArray)
 let v ←fA l
 let d ←ao l false
 let x ←aI l 62
 pure (made {kind:=2,text:=t,name:=n} [v,d,x])
def Gh(L:Nat→LR)(n:Nat)(o:ByteArray):PM (List Nd):=do
 let t ←eU
 let s ←(if t.kind=15 then dQ L else pure ByteArray.empty:PM ByteArray)
 let v ←ku L n
 let d ←bN L n
 let x ←cC L n
 pure (made {kind:=2,text:=o,name:=s} [v,d,x])
theorem Hg(h:Stream l eof L){n:Nat}{p:Ps}(hg:Good l n p)(o:ByteArray):ah l eof dF 0 p (H8 l o) (Gh L n o):=by
 have mv:=uI l;have md:=fI l false;have ms:=fJ l 62;unfold H8 Gh;refine ah.look (ag l p.pos) rfl (ah.cur ?_);rw[h.kind]
 have hn:ah l eof Eq 0 p (if ag l p.pos=15 then aw l else pure ByteArray.empty:SM ByteArray) (if ag l p.pos=15 then dQ L else pure ByteArray.empty:PM ByteArray):=by
  split
  · exact(cK h hg).any
  · exact ah.pure hg rfl
 refine hn.uc (fun _=>aq.bind mv fun _=>aq.bind md fun _=>aq.bind ms fun _=>aq.pure _) hg (fun s s' q1 e1 g1 _ d1=>?_);subst e1;refine(B7 h g1).uc (fun _=>aq.bind md fun _=>aq.bind ms fun _=>aq.pure _) g1 (fun a b q2 jd g2 _ d2=>?_);refine(cx h g2).uc (fun _=>aq.bind ms fun _=>aq.pure _) g2 (fun c d q3 V4 g3 _ d3=>?_);exact(ez (Q:=dF) (f:=fun x=>made {kind:=2,text:=o,name:=s} [a,c,x]) (g:=fun x=>made {kind:=2,text:=o,name:=s} [b,d,x]) (nG h n 62 q3 g3 (by omega)) g3 (fun x y Gf=>dF.made rfl (dc.cons jd (dc.cons V4 (dc.one Gf))))).any
theorem B5(h:Stream l eof L){n:Nat}{p:Ps}(hg:Good l n p)(hk:ag l p.pos=15)(ho:aN (aX l p.pos)=true):ah l eof dF 1 p (eF l) (dL L n):=by
 have hl:=h.lt hk (by decide);have gm:=hg.next hl;have hr:=Hg h gm (aX l p.pos);intro hu;have e1:eF l p=H8 l (aX l p.pos) {p with pos:=p.pos+1}:=by unfold eF;rw[aC,rL hg.1 hk];rfl
 have e2:dL L n (aB l eof p.pos)=Gh L n (aX l p.pos) (aB l eof (p.pos+1)):=by unfold dL;rw[aj];simp only[eU,bD,h.kind];rw[if_neg (by rw[hk];decide),aj];unfold kR;rw[aj,iH h hk,bD,h.val,if_pos ho];rfl
 rw[e1] at hu ⊢;rw[e2];have h2:=hr hu;refine⟨h2.1,fun hb=>?_⟩;obtain⟨a,b,c,y,f,g⟩:=h2.2 hb;exact⟨by have:p.pos+1+0≤_:=a;omega,b,c,y,f,g⟩
theorem JB(h:Stream l eof L){n:Nat}{p:Ps}(hg:Good l n p)(hk:ag l p.pos=12):ah l eof dF 1 p (do let x ←aI l 62;pure (made {kind:=2,text:=hO,flag:=1} [x])) (dL L n):=by
 refine ah.congr (S':=(do let x ←aI l 62;pure (made {kind:=2,text:=hO,flag:=1} [x]))) (I':=(do let x ←cC L n;pure (made {kind:=2,text:=hO} [x]))) rfl ?_ ?_
 · unfold dL;rw[aj];simp only[eU,bD,h.kind,hk,if_true]
 · exact ez (Q:=dF) (f:=fun x=>made {kind:=2,text:=hO,flag:=1} [x]) (g:=fun x=>made {kind:=2,text:=hO} [x]) (nG h n 62 p hg (by omega)) hg (fun x y Gf=>dF.made rfl (dc.one Gf))
theorem gd(h:Stream l eof L){i:Nat}{s:ByteArray}(hk:ag l i=15)(hv:aX l i=s):dt L s (aB l eof i)=.ok (aB l eof i) (aB l eof (i+1)):=by unfold dt;rw[h.kind,h.val,if_pos ⟨hk,hv⟩,h.step];rfl
theorem nJ(h:Stream l eof L){i:Nat}{s:ByteArray}(hn:¬(ag l i=15∧aX l i=s)):dt L s (aB l eof i)=.err (aB l eof i).start:=by unfold dt;rw[h.kind,h.val,if_neg hn]
def nE(l:List Tok)(n:ByteArray):SM (List Nd):=do
 let q ←fc l 0
 aL (decide (q=4))
 gp l
 let on ←cR l 0 ly
 if on=false then dn else
 dY
 let t ←aw l
 let d ←ao l false
 let x ←aI l 62
 pure (made {kind:=3,name:=n,text:=t} [d,x])
def uR(l:List Tok)(n:ByteArray):SM (List Nd):=do
 let t ←aw l
 let d ←ao l false
 let x ←aI l 62
 pure (made {kind:=3,name:=n,text:=t} [d,x])
def uB(L:Nat→LR)(n:Nat)(s:ByteArray):PM (List Nd):=do
 let t ←dQ L
 let d ←bN L n
 let x ←cC L n
 pure (made {kind:=3,name:=s,text:=t} [d,x])
theorem Gz(s:ByteArray):aq (uR l s):=aq.bind (dT l) fun _=>aq.bind (fI l _) fun _=>aq.bind (fJ l _) fun _=>aq.pure _
theorem o8(s:ByteArray):aq (do let on ←cR l 0 ly;if on=false then dn else(do dY;uR l s):SM (List Nd)):=
 aq.bind (iZ l _ _) fun _=>aq.ite gx (aq.bind gy fun _=>Gz s)
theorem Et(h:Stream l eof L){n:Nat}{p:Ps}(hg:Good l n p)(s:ByteArray):ah l eof dF 1 p (uR l s) (uB L n s):=by unfold uR uB;refine(cK h hg).seq (fun _=>aq.bind (fI l _) fun _=>aq.bind (fJ l _) fun _=>aq.pure _) hg (fun t t' q1 e1 g1 _ d1=>?_);subst e1;refine(cx h g1).uc (fun _=>aq.bind (fJ l _) fun _=>aq.pure _) g1 (fun c d q2 V4 g2 _ d2=>?_);exact(ez (Q:=dF) (f:=fun x=>made {kind:=3,name:=s,text:=t} [c,x]) (g:=fun x=>made {kind:=3,name:=s,text:=t} [d,x]) (nG h n 62 q2 g2 (by omega)) g2 (fun x y Gf=>dF.made rfl (dc.cons V4 (dc.one Gf)))).any
theorem ze(h:Stream l eof L){n:Nat}{p:Ps}(hg:Good l n p):ah l eof dF 0 p (dx l) (nL L n):=by
 by_cases hv:ag l p.pos=15∧aX l p.pos=ly
 · refine .err (q:={p with bad:=true,wrong:=p.pos}) (a:=[]) ?_ rfl ?_
   · unfold dx;rw[aC,qg hv.1 hv.2];exact jy hg.1
   · unfold nL;rw[aj];unfold dH;rw[aj];simp only[eU,bD,h.val,hv.2,if_true];rfl
 · refine ah.congr (S':=(aw l>>=fun s=>nE l s)) (I':=(dH L>>=fun s=>dt L ly>>=fun _=>uB L n s)) ?_ rfl ?_
   · unfold dx;rw[aC,tr hv];rfl
   by_cases hk:ag l p.pos=15
   · refine((uU h hg (fun e=>hv ⟨hk,e⟩)).seq (fun s=>?_) hg (fun s s' q e gq _ _=>?_)).any
     · exact aq.bind (eJ l _) fun _=>aq.bind (cL _) fun _=>aq.bind (ie l) fun _=>o8 s
     · subst e;unfold nE;refine ah.look _ rfl (ah.BQ (aq.bind (ie l) fun _=>o8 s) (fun _=>?_));refine ah.text (o8 s) (fun _ _=>?_);by_cases hw:ag l q.pos=15∧aX l q.pos=ly
       · refine ah.look true (qg hw.1 hw.2) ?_;have hl:=h.lt hw.1 (by decide);refine ah.congr (S':=fun p=>uR l s {p with pos:=p.pos+1}) (I':=(bm L>>=fun _=>uB L n s)) rfl ?_ (vG h (Et h (gq.next hl) s)).any;rw[aj,gd h hw.1 hw.2,aj,ng h];rfl
       · refine ah.look false (tr hw) ?_;refine .err (q:={q with bad:=true,wrong:=q.pos}) (a:=[]) (jy gq.1) rfl ?_;rw[aj,nJ h hw];rfl
   · intro hu;have e1:(aw l>>=fun s=>nE l s) p=nE l ByteArray.empty {p with bad:=true,wrong:=p.pos}:=by rw[aC,GD hg.1 hk]
     have e2:(dH L>>=fun s=>dt L ly>>=fun _=>uB L n s) (aB l eof p.pos)=.err (aB l eof p.pos).start:=by
      rw[aj];unfold dH;rw[aj];simp only[eU,bD];split
      · rfl
      · rw[J2 h hk];rfl
     rw[e1,e2];have Vk:aq (nE l ByteArray.empty):=aq.bind (eJ l _) fun _=>aq.bind (cL _) fun _=>aq.bind (ie l) fun _=>o8 _;have h2:=(Vk {p with bad:=true,wrong:=p.pos}).2 rfl;exact⟨fun _=>by rw[h2.2],fun hx=>by rw[h2.1] at hx;cases hx⟩
end
section
variable{l:List Tok}{eof:Tok}{L:Nat→LR}
class bQ {α} (S:SM α):Prop where
 out:aq S
instance VP{α}(a:α):bQ (pure a:SM α):=⟨aq.pure a⟩
instance VC{α β}(x:SM α)(f:α→SM β)[hx:bQ x][hf:∀a,bQ (f a)]:bQ (x>>=f):=⟨aq.bind hx.out fun a=>(hf a).out⟩
instance X4{α}(c:Prop)[Decidable c](x y:SM α)[hx:bQ x][hy:bQ y]:bQ (if c then x else y):=⟨aq.ite hx.out hy.out⟩
instance VJ(a:Nat):bQ (fc l a):=⟨eJ l a⟩
instance X3:bQ NX:=⟨o7⟩
instance VH:bQ dn:=⟨gx⟩
instance SF(b:Bool):bQ (aL b):=⟨cL b⟩
instance VK:bQ dY:=⟨gy⟩
instance VB:bQ qH:=⟨mh⟩
instance VR(e:Int):bQ (eT l e):=⟨kU l e⟩
instance U6(e:Int):bQ (ay l e):=⟨eP l e⟩
instance VL(e:Int):bQ (cr l e):=⟨ey l e⟩
instance VV(a:Nat)(s:ByteArray):bQ (cR l a s):=⟨iZ l a s⟩
instance VO:bQ (aw l):=⟨dT l⟩
instance VU:bQ (gp l):=⟨ie l⟩
instance Mu:bQ (cj l):=⟨eH l⟩
instance OD:bQ (bB l):=⟨gh l⟩
instance U9(e:Int)(item:SM (List Nd))[hi:bQ item](m:Nat)(acc:List (List Nd)):bQ (dk l e item m acc):=⟨fz l hi.out m acc⟩
instance U4(e:Int)(item:SM (List Nd))[hi:bQ item](m:Nat)(acc:List (List Nd)):bQ (cV l e item m acc):=⟨jv l hi.out m acc⟩
instance Ub(e:Int)(item:SM (List Nd))[hi:bQ item](m:Nat)(acc:List (List Nd)):bQ (dE l e item m acc):=⟨gE l hi.out m acc⟩
instance Ua(n:Nat)(f:Bool):bQ (cQ l n f):=⟨gD l n f⟩
instance U7(n:Nat):bQ (eK l n):=⟨kB l n⟩
instance OC(f:Bool):bQ (cE l f):=⟨hH l f⟩
instance NN(f:Bool):bQ (ao l f):=⟨fI l f⟩
instance NP(n:Nat):bQ (aI l n):=⟨fJ l n⟩
instance OH:bQ (fA l):=⟨uI l⟩
instance Rl:bQ (rT l):=⟨kT⟩
instance VD(b e:Int):bQ (fR l b e):=⟨fun p=>by
 unfold fR;split
 · exact⟨id,fun h=>⟨h,rfl⟩⟩
 · split
   · refine⟨fun hu=>?_,fun hb=>by contradiction⟩;have h1:(db {p with unsure:=true}).unsure=false:=hu;rw[(gB _).1] at h1;cases h1
   · exact⟨id,fun h=>⟨h,rfl⟩⟩⟩
instance Ao(k:Int):bQ (fq l k):=by unfold fq;infer_instance
instance CD:bQ (dU l):=by unfold dU;infer_instance
theorem ah.go{α β γ δ}{R:α→β→Prop}{Q:γ→δ→Prop}{d n:Nat}{p:Ps}{S:SM α}{I:PM β}{f:α→SM γ}{g:β→PM δ}[hm:∀a,bQ (f a)]
 (h:ah l eof R d p S I) (hg:Good l n p) (k:∀a b q,R a b→Good l n q→p.pos+d≤q.pos→q.deep=p.deep→ah l eof Q 0 q (f a) (g b)):ah l eof Q d p (S>>=f) (I>>=g):=
 h.seq (fun a=>(hm a).out) hg k
theorem ah.sq{α β γ δ}{R:α→β→Prop}{Q:γ→δ→Prop}{d e n:Nat}{p:Ps}{S:SM α}{I:PM β}{f:α→SM γ}{g:β→PM δ}[hm:∀a,bQ (f a)]
 (h:ah l eof R d p S I) (hg:Good l n p) (k:∀a b q,R a b→Good l n q→p.pos+d≤q.pos→q.deep=p.deep→ah l eof Q e q (f a) (g b)):ah l eof Q e p (S>>=f) (I>>=g):=
 h.uc (fun a=>(hm a).out) hg k
theorem ah.UR{β γ}{Q:γ→β→Prop}{e:Nat}{p:Ps}{b:Bool}{I:PM β}{f:Unit→SM γ}[hm:bQ (f ())](k:b=false→ah l eof Q e p (f ()) I):ah l eof Q e p (aL b>>=f) I:=ah.BQ hm.out k
theorem ah.txt{β γ}{Q:γ→β→Prop}{e:Nat}{p:Ps}{I:PM β}{f:Unit→SM γ}[hm:bQ (f ())](k:ag l p.pos≠18→ag l p.pos≠19→ah l eof Q e p (f ()) I):ah l eof Q e p (gp l>>=f) I:=ah.text hm.out k
theorem ah.dead{α β γ δ}{Q:γ→δ→Prop}{d:Nat}{p q:Ps}{S:SM α}{I:PM β}{a:α}{f:α→SM γ}{g:β→PM δ}[hm:∀a,bQ (f a)]
 (hs:S p=(a,q)) (h0:q.bad=true) (hi:I (aB l eof p.pos)=.err (aB l eof q.wrong).start):ah l eof Q d p (S>>=f) (I>>=g):=fun hu=>by
 rw[aC,hs] at hu ⊢;have h2:=((hm a).out q).2 h0;refine⟨fun _=>?_,fun hx=>?_⟩
 · rw[aj,hi,h2.2];rfl
 · rw[h2.1] at hx;cases hx
theorem dF.CA{m n:Nd}{a b:List (List Nd)}(hn:({m with size:=0}:Nd).norm=({n with size:=0}:Nd).norm)(h:dF a.flatten b.flatten):dF (Go.Proofs.YtnpjmhodfdgloaaGreatDoor.made m a) (Go.Proofs.YtnpjmhodfdgloaaGreatDoor.made n b):=by
 have hl:=h.length;have h1:=h;unfold dF at *;simp only[Go.Proofs.YtnpjmhodfdgloaaGreatDoor.made,List.map_cons,h1,List.cons.injEq,and_true];unfold Nd.norm at *;rw[hl]
 cases m;cases n
 dsimp only at hn ⊢;split at hn<;>split at hn<;>simp_all
theorem ox(h:Stream l eof L){n:Nat}{p:Ps}(hg:Good l n p):ah l eof dF 0 p (bB l) (ec L):=by
 by_cases hk:ag l p.pos=18∨ag l p.pos=19
 · have hl:p.pos<l.length:=by rcases hk with hk|hk<;>exact h.lt hk (by decide)
   have hn:dF (made {kind:=23,text:=aX l p.pos,flag:=if ag l p.pos=19 then 1 else 0} []) (made {kind:=23,text:=aX l p.pos} []):=dF.made rfl dc.nil;refine ah.congr (S':=fun q=>(made {kind:=23,text:=aX l p.pos,flag:=if ag l p.pos=19 then 1 else 0} [],{q with pos:=q.pos+1})) (I':=(do bm L;pure (made {kind:=23,text:=aX l p.pos} []))) ?_ ?_ (jz h hg.1 hl hn).any
   · unfold bB;rw[if_neg (by rcases hk with hk|hk<;>simp[hk])]
     rfl
   · unfold ec;rw[aj];simp only[eU,bD,h.kind,h.val];rw[if_pos hk]
 · refine ah.congr (S':=pure []) (I':=pure []) ?_ ?_ (ah.pure hg (dF.refl _))
   · unfold bB;rw[if_pos (by simpa using hk)];rfl
   · unfold ec;rw[aj];simp only[eU,bD,h.kind];rw[if_neg hk]
def hY(l:List Tok)(b e:Int)(item:SM (List Nd)):SM (List Nd):=do
 if(←fR l b e)=true then(do let out ←cV l e item (many l) [];pure out.flatten) else pure []
theorem oX(h:Stream l eof L){n:Nat}{b e:Int}(gP:b≠1)(he:e≠1)(some:Bool){item:SM (List Nd)}{itemI:PM (List Nd)}(hm:aq item){p:Ps}(hg:Good l n p)
 (hi:∀q,Good l n q→q.deep=p.deep→ah l eof dF 1 q item itemI) :
 ah l eof (fun x y=>dF x y.flatten) 3 p (hY l b e item) (bW L n b itemI e some):=by
 by_cases hk:ag l p.pos≠b∨ag l (p.pos+1)=e
 · intro hu;exfalso;have e1:fR l b e p=(false,db {p with unsure:=true}):=by unfold fR;rw[if_neg (by rw[hg.1];decide),if_pos hk]
   have e2:hY l b e item p=([],db {p with unsure:=true}):=by unfold hY;rw[aC,e1];rfl
   rw[e2] at hu;have:(db {p with unsure:=true}).unsure=false:=hu;rw[(gB _).1] at this;cases this
 · have K9:ag l p.pos=b:=by by_cases c:ag l p.pos=b;exact c;exact absurd (.inl c) hk
   have ri:ag l (p.pos+1)≠e:=fun c=>hk (.inr c);have hl:=h.lt K9 gP;have gm:=hg.next hl;have hf:=Au (m:=many l) h he hm (D:=p.deep) (itemI:=itemI) hi gm rfl ri (by unfold many;show _-(p.pos+1)<_;omega) gm.2.2.1 dc.nil;have e1:fR l b e p=(true,{p with pos:=p.pos+1}):=by unfold fR;rw[if_neg (by rw[hg.1];decide),if_neg hk]
   have e2:hY l b e item p=((cV l e item (many l) [] {p with pos:=p.pos+1}).1.flatten,(cV l e item (many l) [] {p with pos:=p.pos+1}).2):=by unfold hY;rw[aC,e1];rfl
   have hI:bW L n b itemI e some (aB l eof p.pos)=(bj L itemI e n [] (aB l eof (p.pos+1))).bind (fun x=>if some=true∧x.isEmpty=true then qz (aB l eof p.pos).start else pure x):=by unfold bW;rw[aj,iH h K9,bD,aj]
   intro hu;rw[e2] at hu ⊢;rw[hI];have h2:=hf hu;refine⟨fun hx=>?_,fun hx=>?_⟩
   · have:=h2.1 hx;rw[show(aB l eof (p.pos+1))=aB l eof ({p with pos:=p.pos+1}:Ps).pos from rfl,this];rfl
   · obtain⟨a,b',c,y,f,g⟩:=h2.2 hx;refine⟨by have:p.pos+1+2≤_:=a;show p.pos+3≤_;omega,b',c,y,?_,g.1⟩;rw[show(aB l eof (p.pos+1))=aB l eof ({p with pos:=p.pos+1}:Ps).pos from rfl,f,bD,Cq h ri f];rw[if_neg (by simp)];rfl
theorem uW(h:Stream l eof L){n:Nat}{k sign:Int}(cJ:sign≠1){item:SM (List Nd)}(hm:aq item)(hi:∀q,Good l n q→ah l eof dF 1 q item (nk L k))(pre:List (List Nd)) :
 ∀m m' acc acc' p,Good l n p→l.length-p.pos≤m→l.length-p.pos<m'→dc acc (pre++acc') →
  ah l eof (fun a b=>dc a (pre++b)) 1 p (item>>=fun x=>dE l sign item m (acc++[x])) (gC L k sign m' acc'):=by
 intro m
 induction m with
 | zero=>
  intro m' acc acc' p hg h1 h2 rA
  cases m' with
  | zero=>omega
  | succ m'=>
   unfold gC;refine(hi p hg).seq (fun x=>gE l hm 0 _) hg (fun a b q jd gq hp _=>?_);have:=gq.2.1
   omega
 | succ m ih=>
  intro m' acc acc' p hg h1 h2 rA
  cases m' with
  | zero=>omega
  | succ m'=>
   unfold gC;refine(hi p hg).seq (fun x=>gE l hm (m+1) _) hg (fun a b q jd gq hp _=>?_);have TH:dc (acc++[a]) (pre++(acc'++[b])):=by rw[←List.append_assoc];exact rA.snoc jd
   have Z3N:=gq.2.1;by_cases hq:ag l q.pos=sign
   · have hl:=h.lt hq cJ;refine ah.congr (S':=fun q=>(item>>=fun x=>dE l sign item m ((acc++[a])++[x])) {q with pos:=q.pos+1}) (I':=(bm L>>=fun _=>gC L k sign m' (acc'++[b]))) ?_ ?_ ?_
     · conv=>lhs;unfold dE
       rw[ig gq.1 hq];rfl
     · rw[aj,pR h hq,bD,aj,ng h];rfl
     · exact(vG h (ih m' (acc++[a]) (acc'++[b]) _ (gq.next hl) (by show l.length-(q.pos+1)≤m;omega) (by show l.length-(q.pos+1)<m';omega) TH)).any
   · refine ah.congr (S':=pure (acc++[a])) (I':=pure (acc'++[b])) ?_ ?_ (ah.pure gq TH)
     · conv=>lhs;unfold dE
       rw[ix hq];rfl
     · rw[aj,qK h hq,bD];rfl
theorem Av(h:Stream l eof L){n:Nat}(k:Int){p:Ps}(hg:Good l n p):ah l eof dF 1 p (fq l k) (nk L k):=by unfold fq nk;exact ez (Q:=dF) (f:=fun s=>made {kind:=k,name:=s} []) (g:=fun s=>made {kind:=k,name:=s} []) (cK h hg) hg (fun a b jd=>by rw[jd];exact dF.refl _)
theorem D8(h:Stream l eof L){n:Nat}{p:Ps}(hg:Good l n p):ah l eof dF 1 p (dU l) (nk L 38):=by unfold dU nk;refine(cK h hg).go hg (fun a b q jd gq _ _=>?_);subst jd;exact ah.UR (fun _=>ah.pure gq (dF.refl _))
theorem RR{α}(x:SM α):(x>>=fun a=>pure a)=x:=rfl
theorem RQ{α}(x:PM α)(t:Tok):(x>>=fun a=>pure a) t=x t:=by rw[aj];cases x t<;>rfl
theorem Fp{e:Int}{item:SM (List Nd)}(a:List (List Nd)):∀m acc p,dE l e item m (a++acc) p=(a++(dE l e item m acc p).1,(dE l e item m acc p).2)
 | 0,acc,p=>rfl
 | m+1,acc,p=>by
  unfold dE;split
  · rw[List.append_assoc,Fp a m (acc++[(item (ay l e p).2).1]) (item (ay l e p).2).2]
  · rfl
theorem Fk{e:Int}{item:SM (List Nd)}(a:List (List Nd)):∀m acc p,dk l e item m (a++acc) p=(a++(dk l e item m acc p).1,(dk l e item m acc p).2)
 | 0,acc,p=>rfl
 | m+1,acc,p=>by
  unfold dk;split
  · rfl
  · split
    · rfl
    · rw[List.append_assoc,Fk a m (acc++[(item p).1]) (item p).2]
theorem Nk{e:Int}{item:SM (List Nd)}(a:List (List Nd))(m:Nat)(p:Ps):cV l e item m a p=(a++(cV l e item m [] p).1,(cV l e item m [] p).2):=by
 unfold cV;split
 · simp
 · have:=Fk (l:=l) (e:=e) (item:=item) a m ([]++[(item p).1]) (item p).2;simpa using this
end
section
variable{l:List Tok}{eof:Tok}{L:Nat→LR}
theorem Lu{α β γ}{R:α→β→Prop}{Q:γ→β→Prop}{d:Nat}{p:Ps}{S:SM α}{I:PM β}(f:α→γ)(h:ah l eof R d p S I)(hr:∀a b,R a b→Q (f a) b):ah l eof Q d p (S>>=fun x=>pure (f x)) I:=fun hu=>by have h2:=h hu;refine⟨h2.1,fun hx=>?_⟩;obtain⟨a,b,c,y,e,g⟩:=h2.2 hx;exact⟨a,b,c,y,e,hr _ _ g⟩
theorem Lv{α β γ}{R:α→β→Prop}{Q:α→γ→Prop}{d:Nat}{p:Ps}{S:SM α}{I:PM β}(f:β→γ)(h:ah l eof R d p S I)(hr:∀a b,R a b→Q a (f b)):ah l eof Q d p S (I>>=fun x=>pure (f x)):=fun hu=>by have h2:=h hu;refine⟨fun hx=>by rw[aj,h2.1 hx];rfl,fun hx=>?_⟩;obtain⟨a,b,c,y,e,g⟩:=h2.2 hx;exact⟨a,b,c,f y,by rw[aj,e];rfl,hr _ _ g⟩
def pk(l:List Tok):SM (List Nd):=do
 let text ←bB l
 let s ←aw l
 cr l 7
 let k ←eK l 62
 let v ←rT l
 let d ←ao l true
 pure (made {kind:=30,name:=s} [text,k,v,d])
instance uG:bQ (pk l):=by unfold pk;infer_instance
theorem NF(b e:Int):fX l b e=hY l b e (pk l):=rfl
instance Su(b e:Int)(item:SM (List Nd))[bQ item]:bQ (hY l b e item):=by unfold hY;infer_instance
instance Sz(b e:Int):bQ (fX l b e):=by rw[NF];infer_instance
theorem uV(h:Stream l eof L){n:Nat}{p:Ps}(hg:Good l n p):ah l eof dF 1 p (pk l) (jR L n):=by unfold pk jR;refine(ox h hg).sq hg (fun x x' q1 h1 g1 _ _=>?_);refine(cK h g1).go g1 (fun s s' q2 e2 g2 _ _=>?_);subst e2;refine(jA h g2 (by decide)).sq g2 (fun _ _ q3 _ g3 _ _=>?_);refine(xK h n 62 q3 g3 (by omega)).sq g3 (fun k k' q4 h4 g4 _ _=>?_);refine(wZ h g4).sq g4 (fun v v' q5 h5 g5 _ _=>?_);refine(cx h g5).sq g5 (fun d d' q6 h6 g6 _ _=>?_);exact ah.pure g6 (dF.made rfl (dc.cons h1 (dc.cons h4 (dc.cons h5 (dc.one h6)))))
theorem pQ(h:Stream l eof L){n:Nat}{p:Ps}(hg:Good l n p):ah l eof dF 0 p (if ag l p.pos=4 then fX l 4 5 else pure []:SM (List Nd)) (fu L n):=by
 by_cases hk:ag l p.pos=4
 · rw[if_pos hk];refine ah.congr (S':=hY l 4 5 (pk l)) (I':=(bW L n 4 (jR L n) 5 true>>=fun x=>pure x.flatten)) rfl ?_ (Lv (Q:=dF) (fun x=>x.flatten) (oX (b:=4) (e:=5) h (by decide) (by decide) true uG.out hg (fun q gq _=>uV h gq)) (fun a b jd=>jd)).any;unfold fu;rw[aj];simp only[eU,bD,h.kind,hk,if_true]
 · rw[if_neg hk];refine ah.congr (S':=pure []) (I':=pure []) rfl ?_ (ah.pure hg (dF.refl _));unfold fu;rw[aj];simp only[eU,bD,h.kind,if_neg hk]
def rV(l:List Tok):SM (List Nd):=do
 let text ←bB l
 let s ←aw l
 let q ←fc l 0
 let args ←(if q=4 then fX l 4 5 else pure []:SM (List Nd))
 cr l 7
 let k ←eK l 62
 let d ←ao l true
 pure (made {kind:=29,name:=s} [text,args,k,d])
instance CC:bQ (rV l):=by unfold rV;infer_instance
theorem Nj:hZ l=hY l 12 14 (rV l):=rfl
instance Sy:bQ (hZ l):=by rw[Nj];infer_instance
theorem D7(h:Stream l eof L){n:Nat}{p:Ps}(hg:Good l n p):ah l eof dF 1 p (rV l) (jQ L n):=by unfold rV jQ;refine(ox h hg).sq hg (fun x x' q1 h1 g1 _ _=>?_);refine(cK h g1).go g1 (fun s s' q2 e2 g2 _ _=>?_);subst e2;refine ah.look (ag l q2.pos) rfl ?_;refine(pQ h g2).sq g2 (fun a a' q3 h3 g3 _ _=>?_);refine(jA h g3 (by decide)).sq g3 (fun _ _ q4 _ g4 _ _=>?_);refine(xK h n 62 q4 g4 (by omega)).sq g4 (fun k k' q5 h5 g5 _ _=>?_);refine(cx h g5).sq g5 (fun d d' q6 h6 g6 _ _=>?_);exact ah.pure g6 (dF.made rfl (dc.cons h1 (dc.cons h3 (dc.cons h5 (dc.one h6)))))
theorem dF.Z1C{a a' b b':List Nd}(h1:dF a a')(h2:dF b b'):dF [a,b].flatten [a',b'].flatten:=by simpa using h1.append h2
def yX(l:List Tok)(text:List Nd):SM (List Nd):=do let n ←aw l;let d ←ao l true;pure (made {kind:=26,name:=n} [text,d])
instance SD(t:List Nd):bQ (yX l t):=by unfold yX;infer_instance
theorem Hh(h:Stream l eof L){n:Nat}{p:Ps}(hg:Good l n p){t t':List Nd}(ht:dF t t'):ah l eof dF 0 p (yX l t) (pA L n t'):=by unfold yX pA;refine(cK h hg).sq hg (fun s s' q1 e1 g1 _ _=>?_);subst e1;refine(cx h g1).sq g1 (fun d d' q2 h2 g2 _ _=>?_);exact ah.pure g2 (dF.made rfl (dc.cons ht (dc.one h2)))
def pP(l:List Tok)(text:List Nd):SM (List Nd):=do
 let n ←aw l
 let imp ←cR l 0 cN
 aL imp
 let d ←ao l true
 let f ←hZ l
 pure (made {kind:=31,name:=n} [text,d,f])
instance OE(t:List Nd):bQ (pP l t):=by unfold pP;infer_instance
theorem uT(h:Stream l eof L){n:Nat}{p:Ps}(hg:Good l n p):ah l eof (fun x y=>dF x y.flatten) 0 p (hZ l) (bW L n 12 (jQ L n) 14 false):=
 (oX h (by decide) (by decide) false CC.out hg (fun q gq _=>D7 h gq)).any
theorem B4(h:Stream l eof L){n:Nat}{p:Ps}(hg:Good l n p){t t':List Nd}(ht:dF t t'):ah l eof dF 0 p (pP l t) (kt L n t'):=by unfold pP kt;refine(cK h hg).sq hg (fun s s' q1 e1 g1 _ _=>?_);subst e1;refine ah.look _ rfl (ah.UR (fun _=>?_));refine(cx h g1).sq g1 (fun d d' q2 h2 g2 _ _=>?_);refine(uT h g2).sq g2 (fun f f' q3 h3 g3 _ _=>?_);refine ah.pure g3 (dF.CA rfl ?_);simpa using ht.append (h2.append h3)
def At(l:List Tok)(text:List Nd):SM (List (List Nd)):=do
 let imp ←cR l 0 cN
 if imp=true then(do
  dY
  let _ ←ay l 20
  let k ←fq l 28
  dE l 20 (fq l 28) (many l) [text,k]) else pure [text]
theorem F5(text:List Nd):fY l text=(do let n ←aw l;gp l;let kids ←At l text;let d ←ao l true;let f ←hZ l;pure (made {kind:=27,name:=n} (kids++[d,f]))):=rfl
instance VI(t:List Nd):bQ (At l t):=by unfold At;infer_instance
instance SA(t:List Nd):bQ (fY l t):=by rw[F5];infer_instance
theorem Lt(h:Stream l eof L){n:Nat}{p:Ps}(hg:Good l n p)(h8:ag l p.pos≠18)(h9:ag l p.pos≠19){t t':List Nd}(ht:dF t t'):ah l eof (fun a b=>dc a ([t']++b)) 0 p (At l t) (kr L n):=by
 by_cases hv:aX l p.pos=cN
 · have hk:ag l p.pos=15:=by
    rcases h.words (.inr hv) with hh|hh|hh
    · exact hh
    · exact absurd hh h8
    · exact absurd hh h9
   have hl:=h.lt hk (by decide);have gm:=hg.next hl;refine ah.congr (S':=(dY>>=fun _=>(ay l 20>>=fun _=>(fq l 28>>=fun k=>dE l 20 (fq l 28) (many l) ([t]++[k]))))) (I':=(bm L>>=fun _=>(gv L 20>>=fun _=>gC L 28 20 n []))) ?_ ?_ ?_
   · unfold At;rw[aC,qg hk hv];rfl
   · unfold kr;rw[aj];simp only[eU,bD,h.val,hv,if_true]
   · refine(re h (d:=0) ?_).any
     have PK:ah l eof (fun _ _=>True) 0 {p with pos:=p.pos+1} (ay l 20) (gv L 20):=by
      by_cases hq:ag l (p.pos+1)=20
      · refine .ok (ig gm.1 hq) gm.1 (Nat.le_add_right _ _) (h.lt hq (by decide)) rfl (y:=()) ?_ trivial;show gv L 20 (aB l eof (p.pos+1))=_;unfold gv;rw[h.kind,if_pos hq,h.next]
      · refine .ok (ix hq) gm.1 lr gm.2.1 rfl (y:=()) ?_ trivial;show gv L 20 (aB l eof (p.pos+1))=_;unfold gv;rw[h.kind,if_neg hq]
     refine PK.sq gm (fun _ _ q _ gq _ _=>?_);exact(uW h (by decide) (Ao (l:=l) 28).out (fun q' g'=>Av h 28 g') [t'] (many l) n [t] [] q gq (by unfold many;omega) gq.2.2.1 (dc.one ht)).any
 · refine ah.congr (S':=pure [t]) (I':=pure []) ?_ ?_ (ah.pure hg (dc.one ht))
   · unfold At;rw[aC,tr (fun hh=>hv hh.2)];rfl
   · unfold kr;rw[aj];simp only[eU,bD,h.val];rw[if_neg hv]
theorem zf(h:Stream l eof L){n:Nat}{p:Ps}(hg:Good l n p){t t':List Nd}(ht:dF t t'):ah l eof dF 0 p (fY l t) (pz L n t'):=by rw[F5];unfold pz;refine(cK h hg).sq hg (fun s s' q1 e1 g1 _ _=>?_);subst e1;refine ah.txt (fun h8 h9=>?_);refine(Lt h g1 h8 h9 ht).sq g1 (fun i i' q2 h2 g2 _ _=>?_);refine(cx h g2).sq g2 (fun d d' q3 h3 g3 _ _=>?_);refine(uT h g3).sq g3 (fun f f' q4 h4 g4 _ _=>?_);refine ah.pure g4 (dF.CA rfl ?_);have:=(h2.1.append h3).append h4;simpa using this
def vD(l:List Tok)(n:ByteArray)(t d:List Nd):SM (List Nd):=do
 cr l 8
 let q ←fc l 0
 aL (decide (q=13))
 let _ ←ay l 13
 let kids ←(do let k ←fq l 33;dE l 13 (fq l 33) (many l) [t,d,k]:SM (List (List Nd)))
 pure (made {kind:=32,name:=n} kids)
instance Qe(n:ByteArray)(t d:List Nd):bQ (vD l n t d):=by unfold vD;infer_instance
theorem union_eq(text:List Nd):lY l text=(do
 let n ←aw l
 let d ←ao l true
 let b ←NX
 let q ←fc l 0
 if b=false∧q≠8 then(do aL true;dn) else vD l n text d):=rfl
instance U8(t:List Nd):bQ (lY l t):=by rw[union_eq];infer_instance
theorem JC(h:Stream l eof L){n:Nat}{p:Ps}(hg:Good l n p){t t':List Nd}(ht:dF t t'):ah l eof dF 0 p (lY l t) (sD L n t'):=by
 rw[union_eq];unfold sD;refine(cK h hg).sq hg (fun s s' q1 e1 g1 _ _=>?_);subst e1;refine(cx h g1).sq g1 (fun d d' q2 h2 g2 _ _=>?_);refine ah.look q2.bad rfl (ah.look (ag l q2.pos) rfl ?_);by_cases hq:ag l q2.pos=8
 · rw[if_neg (fun hh=>hh.2 hq)];unfold vD;refine(jA h g2 (by decide)).sq g2 (fun _ _ q3 _ g3 _ _=>?_);refine ah.look (ag l q3.pos) rfl (ah.UR (fun WS=>?_));have tX:ag l q3.pos≠13:=by simpa using WS
   refine ah.look false (ix tX) ?_;refine ah.congr (S':=((fq l 33>>=fun k=>dE l 13 (fq l 33) (many l) ([t,d]++[k]))>>=fun kids=>pure (made {kind:=32,name:=s} kids))) (I':=(gC L 33 13 n []>>=fun l=>pure (made {kind:=32,name:=s} ([t']++[d']++l)))) rfl rfl ?_;refine(uW h (by decide) (Ao (l:=l) 33).out (fun q' g'=>Av h 33 g') [t',d'] (many l) n [t,d] [] q3 g3 (by unfold many;omega) g3.2.2.1 (dc.cons ht (dc.one h2))).any.sq g3 (fun a b q4 h4 g4 _ _=>?_);exact ah.pure g4 (dF.CA rfl (by simpa using h4.1))
 · rw[if_pos ⟨g2.1,hq⟩];intro hu;exfalso;have e1:(do aL true;dn:SM (List Nd)) q2=([],db {q2 with unsure:=q2.unsure||true}):=rfl;rw[e1] at hu;have:(db {q2 with unsure:=q2.unsure||true}).unsure=false:=hu;rw[(gB _).1] at this;simp at this
def jN(l:List Tok):SM (List Nd):=do
 let about ←bB l
 let s ←aw l
 aL (decide (s=qR)||decide (s=mS)||decide (s=qP))
 let d ←ao l true
 pure (made {kind:=35,name:=s} [about,d])
instance Eb:bQ (jN l):=by unfold jN;infer_instance
instance VG(t:List Nd):bQ (hJ l t):=by unfold hJ;infer_instance
theorem Es(h:Stream l eof L){n:Nat}{p:Ps}(hg:Good l n p):ah l eof dF 1 p (jN l) (kq L n):=by unfold jN kq;refine(ox h hg).sq hg (fun x x' q1 h1 g1 _ _=>?_);refine(cK h g1).go g1 (fun s s' q2 e2 g2 _ _=>?_);subst e2;refine ah.UR (fun _=>?_);refine(cx h g2).sq g2 (fun d d' q3 h3 g3 _ _=>?_);exact ah.pure g3 (dF.made rfl (dc.cons h1 (dc.one h3)))
def CZ(l:List Tok)(n:ByteArray)(t d:List Nd):SM (List Nd):=do
 if(←fR l 12 14)=true then(do let kids ←cV l 14 (jN l) (many l) [t,d];pure (made {kind:=34,name:=n} kids)) else pure []
theorem Ls(h:Stream l eof L){n:Nat}{p:Ps}(hg:Good l n p){t t':List Nd}(ht:dF t t'):ah l eof dF 0 p (hJ l t) (xt L n t'):=by
 refine ah.congr (S':=(do let n ←aw l;let d ←ao l true;CZ l n t d)) rfl rfl ?_;unfold xt;have mo:∀n d,bQ (CZ l n t d):=fun n d=>by unfold CZ;infer_instance
 refine(cK h hg).sq hg (fun s s' q1 e1 g1 _ _=>?_);subst e1;refine(cx h g1).sq g1 (fun d d' q2 h2 g2 _ _=>?_);have hb:=oX h (n:=n) (b:=12) (e:=14) (by decide) (by decide) false Eb.out g2 (itemI:=kq L n) (fun q gq _=>Es h gq);intro hu
 have XM:CZ l s t d q2=(if(fR l 12 14 q2).1=true then made {kind:=34,name:=s} ([t,d]++(cV l 14 (jN l) (many l) [] (fR l 12 14 q2).2).1) else[],(hY l 12 14 (jN l) q2).2):=by
  unfold CZ hY;rw[aC,aC]
  cases hx:(fR l 12 14 q2).1 with
  | true=>
   simp only[if_true]
   rw[aC,aC,Nk];rfl
  | false=>rfl
 have hval:(fR l 12 14 q2).1=true→(hY l 12 14 (jN l) q2).1=(cV l 14 (jN l) (many l) [] (fR l 12 14 q2).2).1.flatten:=fun hx=>by unfold hY;rw[aC,hx];rfl
 rw[XM] at hu ⊢;have h3:=hb hu;refine⟨fun hx=>?_,fun hx=>?_⟩
 · have:=h3.1 hx;rw[aj,this];rfl
 · obtain⟨a,b,c,y,f,g⟩:=h3.2 hx
   have TJ:(fR l 12 14 q2).1=true:=by
    cases hy:(fR l 12 14 q2).1 with
    | true=>rfl
    | false=>
     exfalso;have e1:(hY l 12 14 (jN l) q2).2=(fR l 12 14 q2).2:=by unfold hY;rw[aC,hy];rfl
     rw[e1] at hx;have:q2.pos+3≤(hY l 12 14 (jN l) q2).2.pos:=a;rw[e1] at this;unfold fR at hy this;rw[if_neg (by rw[g2.1];decide)] at hy this;split at hy
     · rename_i hc;rw[if_pos hc] at this;have e3:(db {q2 with unsure:=true}).pos=q2.pos:=by unfold db;split<;>rfl
       have:q2.pos+3≤(db {q2 with unsure:=true}).pos:=this;omega
     · cases hy
   refine⟨by show q2.pos+0≤(hY l 12 14 (jN l) q2).2.pos;omega,b,c,_,by rw[aj,f];rfl,?_⟩;simp only[TJ,if_true];rw[hval TJ] at g;refine dF.CA rfl ?_;simpa using ht.append (h2.append g)
def D0(l:List Tok)(text:List Nd):SM (List Nd):=do let n ←aw l;let d ←ao l true;let i ←fX l 12 14;pure (made {kind:=36,name:=n} [text,d,i])
instance U5(t:List Nd):bQ (D0 l t):=by unfold D0;infer_instance
theorem JA(h:Stream l eof L){n:Nat}{p:Ps}(hg:Good l n p){t t':List Nd}(ht:dF t t'):ah l eof dF 0 p (D0 l t) (sy L n t'):=by unfold D0 sy;refine(cK h hg).sq hg (fun s s' q1 e1 g1 _ _=>?_);subst e1;refine(cx h g1).sq g1 (fun d d' q2 h2 g2 _ _=>?_);refine(oX h (by decide) (by decide) false uG.out g2 (fun q gq _=>uV h gq)).any.sq g2 (fun f f' q3 h3 g3 _ _=>?_);refine ah.pure g3 (dF.CA rfl ?_);simpa using ht.append (h2.append h3)
def rS(l:List Tok)(text:List Nd):SM (List (List Nd)):=do
 let q ←fc l 0
 if q=4 then(do let i ←fX l 4 5;pure [text,i]) else pure [text]
def qI(l:List Tok)(n:ByteArray)(kids:List (List Nd)):SM (List Nd):=do
 let q ←fc l 0
 aL (decide (q=13))
 let _ ←ay l 13
 let kids ←(do let k ←dU l;dE l 13 (dU l) (many l) (kids++[k]):SM (List (List Nd)))
 pure (made {kind:=37,name:=n} kids)
def zW(l:List Tok)(n:ByteArray)(kids:List (List Nd)):SM (List Nd):=do
 let r ←cR l 0 qQ
 aL r
 gp l
 let on ←cR l 0 ly
 if on=false then dn else(do dY;qI l n kids)
theorem xo(text:List Nd):ir l text=(do
 cr l 9
 let n ←aw l
 let kids ←rS l text
 zW l n kids):=rfl
instance Rj(t:List Nd):bQ (rS l t):=by unfold rS;infer_instance
instance Sv(n:ByteArray)(k:List (List Nd)):bQ (qI l n k):=by unfold qI;infer_instance
instance U3(n:ByteArray)(k:List (List Nd)):bQ (zW l n k):=by unfold zW;infer_instance
instance Rm(t:List Nd):bQ (ir l t):=by rw[xo];infer_instance
theorem Ep(h:Stream l eof L){n:Nat}{p:Ps}(hg:Good l n p){t t':List Nd}(ht:dF t t'):ah l eof (fun a b=>dF a.flatten (t'++b)) 0 p (rS l t) (fu L n):=by
 have ha:=pQ h hg;unfold rS;refine ah.look (ag l p.pos) rfl ?_;by_cases hk:ag l p.pos=4
 · rw[if_pos hk] at ha ⊢;exact Lu (Q:=fun a b=>dF a.flatten (t'++b)) (fun i=>[t,i]) ha (fun a b jd=>by simpa using ht.append jd)
 · rw[if_neg hk] at ha ⊢;refine ah.congr (S':=pure [t]) (I':=pure []) rfl ?_ (ah.pure hg (by simpa using ht));unfold fu;rw[aj];simp only[eU,bD,h.kind,if_neg hk]
theorem Er(h:Stream l eof L){n:Nat}{p:Ps}(hg:Good l n p){t t':List Nd}(ht:dF t t'):ah l eof dF 0 p (ir l t) (gZ L n t'):=by
 rw[xo];unfold gZ;refine(jA h hg (by decide)).sq hg (fun _ _ q0 _ g0 _ _=>?_);refine(cK h g0).sq g0 (fun s s' q1 e1 g1 _ _=>?_);subst e1;refine(Ep h g1 ht).sq g1 (fun ks a' q2 h2 g2 _ _=>?_);unfold zW;refine ah.look _ rfl (ah.UR (fun _=>ah.txt (fun _ _=>?_)));by_cases hw:ag l q2.pos=15∧aX l q2.pos=ly
 · refine ah.look true (qg hw.1 hw.2) ?_;have hl:=h.lt hw.1 (by decide);have gm:=g2.next hl;refine ah.congr (S':=(dY>>=fun _=>qI l s ks)) (I':=(bm L>>=fun _=>(gC L 38 13 n []>>=fun l=>pure (made {kind:=37,name:=s} ([t']++[a']++l))))) rfl ?_ ?_
   · rw[aj,gd h hw.1 hw.2,aj,ng h];rfl
   · refine(re h (d:=0) ?_).any;generalize mE:({q2 with pos:=q2.pos+1}:Ps)=q3 at *;unfold qI;refine ah.look (ag l q3.pos) rfl (ah.UR (fun WS=>?_));have tX:ag l q3.pos≠13:=by simpa using WS
     refine ah.look false (ix tX) ?_;have Mk:dc [ks.flatten] [t'++a']:=dc.one h2;refine ah.congr (S':=((dU l>>=fun k=>dE l 13 (dU l) (many l) ([]++[k]))>>=fun kids=>pure (made {kind:=37,name:=s} (ks++kids)))) (I':=(gC L 38 13 n []>>=fun l=>pure (made {kind:=37,name:=s} ([t']++[a']++l)))) ?_ rfl ?_
     · rw[aC,aC,aC,aC,Fp];rfl
     · refine(uW h (by decide) (CD (l:=l)).out (fun q' g'=>D8 h g') [] (many l) n [] [] q3 gm (by unfold many;omega) gm.2.2.1 dc.nil).sq gm (fun a b q4 h4 g4 _ _=>?_);refine ah.pure g4 (dF.CA rfl ?_);have:=h2.append h4.1;simpa using this
 · refine ah.look false (tr hw) ?_;refine .err (q:={q2 with bad:=true,wrong:=q2.pos}) (a:=[]) (jy g2.1) rfl ?_;rw[aj,nJ h hw];rfl
end
end Go.Proofs.YtnpjmhodfdgloaaGreatDoor
