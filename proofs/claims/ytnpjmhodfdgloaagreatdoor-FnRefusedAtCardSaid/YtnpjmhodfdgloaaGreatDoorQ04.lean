/- Part of the proof. -/
import Derived.Test.YtnpjmhodfdgloaaGreatDoorQ03
set_option linter.unusedVariables false
set_option linter.unusedSimpArgs false
namespace Go.Proofs.YtnpjmhodfdgloaaGreatDoor
set_option maxRecDepth 100000
set_option maxHeartbeats 32000000
section
variable{l:List Tok}{eof:Tok}{L:Nat→LR}
theorem ah.shift{α β}{R:α→β→Prop}{d d':Nat}{p q:Ps}{S S0:SM α}{I I0:PM β}(hs:ah l eof R d q S I)(e1:S0 p=S q)(e2:I0 (aB l eof p.pos)=I (aB l eof q.pos))(hp:p.pos+d'≤q.pos+d)(hd:q.deep=p.deep):ah l eof R d' p S0 I0:=by intro hu;rw[e1] at hu ⊢;rw[e2];have h2:=hs hu;refine⟨h2.1,fun hb=>?_⟩;obtain⟨a,b,c,y,f,g⟩:=h2.2 hb;exact⟨by omega,b,c.trans hd,y,f,g⟩
def rU:SM (Option (List (List Nd))):=fun p=>(none,db {p with pos:=p.pos-1})
instance Qc:bQ rU:=⟨fun p=>by
 have h:=gB {p with pos:=p.pos-1}
 exact⟨fun hu=>h.1 ▸ hu,fun hb=>h.2 hb⟩⟩
def lR(l:List Tok)(m:Nat)(acc:List (List Nd)):SM (Option (List (List Nd))):=do
 let t ←aw l
 if aN t=true then(do
  cr l 7
  let n ←aw l
  cF l m false (acc++[made {kind:=25,text:=t,name:=n} []])) else rU
theorem uL{m:Nat}{first:Bool}{acc:List (List Nd)}{p:Ps}(hb:p.bad=true):cF l (m+1) first acc p=(some acc,p):=by
 conv=>lhs;unfold cF
 rw[if_pos hb]
theorem zS(m:Nat)(acc:List (List Nd))(p:Ps):lR l m acc p=(if aN (aw l p).1=true then
 (cF l m false (acc++[made {kind:=25,text:=(aw l p).1,name:=(aw l (cr l 7 (aw l p).2).2).1} []]) (aw l (cr l 7 (aw l p).2).2).2)
 else(none,db {(aw l p).2 with pos:=(aw l p).2.pos-1})):=by
 unfold lR;rw[aC];split<;>rfl
theorem r8{m:Nat}{acc:List (List Nd)}{p:Ps}(hb:p.bad=false):cF l (m+1) true acc p=lR l m acc p:=by
 rw[zS]
 conv=>lhs;unfold cF
 rw[if_neg (by rw[hb];decide),if_neg (by rintro⟨h,_⟩;cases h)]
 rfl
theorem uM{m:Nat}{acc:List (List Nd)}{p:Ps}(hb:p.bad=false)(hk:ag l p.pos=14):cF l (m+1) false acc p=(some acc,{p with pos:=p.pos+1}):=by
 conv=>lhs;unfold cF
 rw[if_neg (by rw[hb];decide),ig hb hk,if_pos ⟨rfl,rfl⟩]
theorem sV{m:Nat}{acc:List (List Nd)}{p:Ps}(hb:p.bad=false)(hk:ag l p.pos≠14):cF l (m+1) false acc p=lR l m acc p:=by
 rw[zS]
 conv=>lhs;unfold cF
 rw[if_neg (by rw[hb];decide),ix hk,if_neg (by rintro⟨_,h⟩;cases h)]
 rfl
theorem Ap(m:Nat)(hm:∀acc,aq (cF l m false acc))(acc:List (List Nd)):aq (lR l m acc):=by have:∀acc,bQ (cF l m false acc):=fun acc=>⟨hm acc⟩;unfold lR;exact(inferInstance:bQ _).out
theorem sJ:∀m first acc,aq (cF l m first acc)
 | 0,_,_=>aq.pure _
 | m+1,first,acc=>fun p=>by
  by_cases hb:p.bad=true
  · rw[uL hb];exact⟨id,fun h=>⟨h,rfl⟩⟩
  · have hb:p.bad=false:=by simpa using hb
    cases first with
    | true=>rw[r8 hb];exact Ap m (fun acc=>sJ m false acc) acc p
    | false=>
     by_cases hk:ag l p.pos=14
     · rw[uM hb hk];exact⟨id,fun h=>⟨h,rfl⟩⟩
     · rw[sV hb hk];exact Ap m (fun acc=>sJ m false acc) acc p
instance Ro(m:Nat)(f:Bool)(acc:List (List Nd)):bQ (cF l m f acc):=⟨sJ m f acc⟩
def YP(pre:List (List Nd))(o:Option (List (List Nd)))(y:List (List Nd)):Prop:=∃k,o=some k∧dc k (pre++y)
theorem NS(h:Stream l eof L){i:Nat}(hk:ag l i=15)(ho:aN (aX l i)=true):cU L (aB l eof i)=(bE L 7>>=fun _=>dQ L>>=fun s=>pure (made {kind:=25,text:=aX l i,name:=s} [])) (aB l eof (i+1)):=by
 have e:kR L (aB l eof i)=.ok (aX l i) (aB l eof (i+1)):=by unfold kR;rw[aj,iH h hk,bD,h.val,if_pos ho];rfl
 unfold cU;rw[aj,e,bD]
theorem Le(h:Stream l eof L){i:Nat}(hk:ag l i=15)(ho:aN (aX l i)=false):cU L (aB l eof i)=.err (aB l eof i).start:=by
 have e:kR L (aB l eof i)=.err (aB l eof i).start:=by unfold kR;rw[aj,iH h hk,bD,h.val,if_neg (by rw[ho];decide)];rfl
 unfold cU;rw[aj,e];rfl
theorem zg(h:Stream l eof L){n:Nat}(pre:List (List Nd)){m:Nat}
 (ih:∀m' acc acc' p,Good l n p→l.length-p.pos<m→l.length-p.pos<m'→dc acc (pre++acc')→ah l eof (YP pre) 0 p (cF l m false acc) (bj L (cU L) 14 m' acc'))
 {m':Nat} {acc acc':List (List Nd)} {p:Ps} (hg:Good l n p) (h1:l.length-p.pos<m+1) (h2:l.length-p.pos<m'+1) (rA:dc acc (pre++acc')) :
 ah l eof (YP pre) 1 p (lR l m acc) (cU L>>=fun x=>bj L (cU L) 14 m' (acc'++[x])):=by
 by_cases hk:ag l p.pos=15
 · have hl:=h.lt hk (by decide);have gm:=hg.next hl
   cases ho:aN (aX l p.pos) with
   | true=>
    refine ah.shift (q:={p with pos:=p.pos+1}) (d:=0) (S:=(cr l 7>>=fun _=>aw l>>=fun n=>cF l m false (acc++[made {kind:=25,text:=aX l p.pos,name:=n} []])))
     (I:=(bE L 7>>=fun _=>dQ L>>=fun s=>bj L (cU L) 14 m' (acc'++[made {kind:=25,text:=aX l p.pos,name:=s} []]))) ?_ ?_ ?_ lr rfl
    · refine(jA h gm (by decide)).sq gm (fun _ _ q2 _ g2 p2 _=>?_);refine(cK h g2).sq g2 (fun s s' q3 e3 g3 p3 _=>?_);subst e3;have a1:p.pos+1+1≤q2.pos:=p2;have a2:=g3.2.1;refine ih m' _ _ q3 g3 (by omega) (by omega) ?_;rw[←List.append_assoc];exact rA.snoc (dF.refl _)
    · unfold lR;rw[aC,rL hg.1 hk];simp only[ho,if_true]
    · rw[aj,NS h hk ho];rw[aj,aj]
      cases bE L 7 (aB l eof (p.pos+1)) with
      | ok a t=>
       show((dQ L t).bind _).bind _=(dQ L t).bind _
       cases dQ L t<;>rfl
      | err q=>rfl
      | eo=>rfl
   | false=>
    refine .err (q:={p with pos:=p.pos,bad:=true,wrong:=p.pos}) (a:=none) ?_ rfl ?_
    · unfold lR;rw[aC,rL hg.1 hk];simp only[ho,Bool.false_eq_true,if_false];unfold rU db;rw[if_neg (by show ¬p.bad=true;rw[hg.1];decide)]
      rfl
    · rw[aj,Le h hk ho];rfl
 · refine .err (q:={p with pos:=p.pos-1,bad:=true,wrong:=p.pos}) (a:=none) ?_ rfl ?_
   · rw[zS,GD hg.1 hk,if_neg (show ¬aN ByteArray.empty=true by decide)]
     rfl
   · have e:kR L (aB l eof p.pos)=.err (aB l eof p.pos).start:=by
      unfold kR;rw[aj,p4 h hk];rfl
     rw[aj];unfold cU;rw[aj,e];rfl
theorem Eu(h:Stream l eof L){n:Nat}(pre:List (List Nd)):∀m m' acc acc' p,Good l n p→l.length-p.pos<m→l.length-p.pos<m'→dc acc (pre++acc')→ah l eof (YP pre) 0 p (cF l m false acc) (bj L (cU L) 14 m' acc'):=by
 intro m
 induction m with
 | zero=>intro m' acc acc' p hg h1;omega
 | succ m ih=>
  intro m' acc acc' p hg h1 h2 rA
  cases m' with
  | zero=>omega
  | succ k=>
   by_cases hq:ag l p.pos=14
   · refine .ok (uM hg.1 hq) hg.1 (Nat.le_add_right _ _) (h.lt hq (by decide)) rfl (y:=acc') ?_ ⟨acc,rfl,rA⟩;unfold bj;rw[aj,pR h hq];rfl
   · refine ah.congr (S':=lR l m acc) (I':=(cU L>>=fun x=>bj L (cU L) 14 k (acc'++[x]))) (sV hg.1 hq) ?_ (zg h pre ih hg h1 h2 rA).any
     conv=>lhs;unfold bj
     rw[aj,qK h hq];rfl
def mR(l:List Tok)(acc:List (List Nd)):SM (Option (List (List Nd))):=do
 cr l 12
 eT l 14
 cF l (many l) true acc
instance SC(acc:List (List Nd)):bQ (mR l acc):=by unfold mR;infer_instance
theorem Hf(h:Stream l eof L){n:Nat}{p:Ps}(hg:Good l n p){acc pre:List (List Nd)}(rA:dc acc pre):ah l eof (YP pre) 0 p (mR l acc) (bW L n 12 (cU L) 14 true):=by
 by_cases hk:ag l p.pos=12
 · have hl:=h.lt hk (by decide);have gm:=hg.next hl;have hI:bW L n 12 (cU L) 14 true (aB l eof p.pos)=(bj L (cU L) 14 n [] (aB l eof (p.pos+1))).bind (fun x=>if x.isEmpty=true then qz (aB l eof p.pos).start else pure x):=by unfold bW;rw[aj,iH h hk,bD,aj];simp only[true_and]
   by_cases hq:ag l (p.pos+1)=14
   · refine .err (q:={p with pos:=p.pos,bad:=true,wrong:=p.pos}) (a:=some acc) ?_ rfl ?_
     · unfold mR;rw[aC,uJ hg.1 hk,aC]
       have e1:eT l 14 {p with pos:=p.pos+1}=((),{p with pos:=p.pos,bad:=true,wrong:=p.pos}):=by
        unfold eT;rw[if_pos ⟨hg.1,hq⟩];unfold db;rw[if_neg (by show ¬p.bad=true;rw[hg.1];decide)]
        rfl
       rw[e1];exact uL rfl
     · rw[hI]
       cases n with
       | zero=>exact absurd gm.2.2.1 (Nat.not_lt_zero _)
       | succ n=>unfold bj;rw[aj,pR h hq];rfl
   · have e1:eT l 14 {p with pos:=p.pos+1}=((),{p with pos:=p.pos+1}):=by
      unfold eT;rw[if_neg (fun hh=>hq hh.2)]
     have e2:mR l acc p=lR l (l.length+1) acc {p with pos:=p.pos+1}:=by unfold mR;rw[aC,uJ hg.1 hk,aC,e1];exact r8 (m:=l.length+1) (p:={p with pos:=p.pos+1}) hg.1
     cases n with
     | zero=>exact absurd gm.2.2.1 (Nat.not_lt_zero _)
     | succ n=>
      have hf:=zg h (n:=n+1) pre (m:=l.length+1) (fun m' a a' q gq x1 x2 x3=>Eu h pre (l.length+1) m' a a' q gq x1 x2 x3) (m':=n) (acc':=[]) gm (by show _-(p.pos+1)<_;omega) gm.2.2.1 (by simpa using rA);intro hu;rw[e2] at hu ⊢;rw[hI]
      have e3:bj L (cU L) 14 (n+1) [] (aB l eof (p.pos+1))=(cU L>>=fun x=>bj L (cU L) 14 n ([]++[x])) (aB l eof (p.pos+1)):=by
       conv=>lhs;unfold bj
       rw[aj,qK h hq];rfl
      have h2:=hf hu;refine⟨fun hx=>?_,fun hx=>?_⟩
      · have:=h2.1 hx;rw[e3,show(aB l eof (p.pos+1))=aB l eof ({p with pos:=p.pos+1}:Ps).pos from rfl,this];rfl
      · obtain⟨a,b',c,y,f,g⟩:=h2.2 hx;refine⟨by have:p.pos+1+1≤_:=a;omega,b',c,y,?_,g⟩;have f':bj L (cU L) 14 (n+1) [] (aB l eof (p.pos+1))=_:=e3.trans f;rw[f',bD,Cq h hq f']
        rfl
 · have e1:cr l 12 p=((),{p with bad:=true,wrong:=p.pos}):=GA hg.1 hk;intro hu;unfold mR at hu ⊢;rw[aC,e1] at hu ⊢;have Vk:bQ (do eT l 14;cF l (many l) true acc:SM (Option (List (List Nd)))):=inferInstance;have h2:=(Vk.out {p with bad:=true,wrong:=p.pos}).2 rfl;refine⟨fun _=>?_,fun hx=>?_⟩
   · rw[h2.2];unfold bW;rw[aj,p4 h hk];rfl
   · rw[h2.1] at hx;cases hx
def nR(o:Option (List (List Nd))):SM (List Nd):=match o with
 | some kids=>pure (made {kind:=24} kids)
 | none=>pure []
instance SB(o:Option (List (List Nd))):bQ (nR o):=by unfold nR;split<;>infer_instance
theorem zX(text:List Nd):iQ l text=(do let d ←ao l true;let o ←mR l [text,d];nR o):=by
 funext p
 show(iQ l text) p=(ao l true>>=fun d=>mR l [text,d]>>=fun o=>nR o) p;unfold iQ mR;simp only[aC];generalize (cF l (many l) true _ _)=r;obtain⟨o,q⟩:=r
 cases o<;>rfl
instance SE(t:List Nd):bQ (iQ l t):=by rw[zX];infer_instance
theorem Hi(h:Stream l eof L){n:Nat}{p:Ps}(hg:Good l n p):ah l eof dF 0 p (iQ l []) (yz L n):=by rw[zX];unfold yz;refine(cx h hg).sq hg (fun d d' q1 h1 g1 _ _=>?_);refine(Hf h g1 (acc:=[[],d]) (pre:=[[],d']) (dc.cons (dF.refl _) (dc.one h1))).sq g1 (fun o y q2 h2 g2 _ _=>?_);obtain⟨k,rfl,hk⟩:=h2;refine ah.pure g2 (dF.CA rfl ?_);simpa using hk.1
def yW(l:List Tok):SM (List Nd):=do
 let t ←cR l 0 iC
 aL (!t)
 if t=false then dn else
 dY
 let o ←fY l []
 pure (made {kind:=39} [o])
instance Sw:bQ (yW l):=by unfold yW;infer_instance
instance OG:bQ (eF l):=by unfold eF;infer_instance
instance Qd(n:ByteArray):bQ (nE l n):=
 ⟨aq.bind (eJ l _) fun _=>aq.bind (cL _) fun _=>aq.bind (ie l) fun _=>o8 n⟩
theorem C9:dx l=(do
 let on ←cR l 0 ly
 if on=true then dn else(do let n ←aw l;nE l n)):=rfl
instance Mw:bQ (dx l):=by rw[C9];infer_instance
def mP(l:List Tok)(text:List Nd)(w:ByteArray):SM (List Nd):=
 if aN w=true then(do qH;eF l) else
 if w=dV then dx l else
 if w=fp then iQ l text else
 if w=ka then yX l text else
 if w=iC then fY l text else
 if w=fE then pP l text else
 if w=mU then lY l text else
 if w=qO then hJ l text else
 if w=mT then D0 l text else
 if w=fD then ir l text else
 if w=fZ then yW l else(do qH;dn)
instance Gx(t:List Nd)(w:ByteArray):bQ (mP l t w):=by unfold mP;infer_instance
def nD(text:List Nd)(w:ByteArray):Bool:=(aN w||decide (w=dV)||decide (w=fZ))&&!text.isEmpty
def Bl(l:List Tok)(text:List Nd)(w:ByteArray):SM (List Nd):=do
 aL (decide (w=fp)&&!text.isEmpty)
 let w ←aw l
 mP l text w
def uQ(l:List Tok)(text:List Nd):SM (List Nd):=fun p=>
 if nD text (aX l p.pos)=true then dn {p with pos:=p.pos-1} else Bl l text (aX l p.pos) p
instance Gy(t:List Nd)(w:ByteArray):bQ (Bl l t w):=by unfold Bl;infer_instance
instance VE(t:List Nd):bQ (uQ l t):=⟨fun p=>by
 unfold uQ;split
 · have h:=gB {p with pos:=p.pos-1};exact⟨fun hu=>h.1 ▸ hu,fun hb=>h.2 hb⟩
 · exact(Gy (l:=l) t (aX l p.pos)).out p⟩
def mQ(l:List Tok)(q:Int):SM (List Nd):=if q=18∨q=19 then cj l else pure []
instance Rk(q:Int):bQ (mQ l q):=by unfold mQ;infer_instance
theorem wP:dX l=(do
 let q ←fc l 0
 if q=12 then(do let x ←aI l 62;pure (made {kind:=2,text:=hO,flag:=1} [x])) else
 let text ←mQ l q
 let q ←fc l 0
 if q≠15 then dn else uQ l text):=rfl
instance zK:bQ (dX l):=by rw[wP];infer_instance
theorem He(h:Stream l eof L){n:Nat}{p:Ps}(hg:Good l n p):ah l eof dF 0 p (yW l) (do let o ←qA L n;pure (made {kind:=39} [o])):=by
 unfold yW;by_cases hw:ag l p.pos=15∧aX l p.pos=iC
 · refine ah.look true (qg hw.1 hw.2) ?_;have hl:=h.lt hw.1 (by decide);refine ah.shift (q:={p with pos:=p.pos+1}) (d:=0) (S:=(do let o ←fY l [];pure (made {kind:=39} [o]))) (I:=(do let o ←pz L n [];pure (made {kind:=39} [o]))) ?_ ?_ ?_ (by show p.pos+0≤p.pos+1+0;omega) rfl
   · exact ez (Q:=dF) (f:=fun x=>made {kind:=39} [x]) (g:=fun x=>made {kind:=39} [x]) (zf h (hg.next hl) (dF.refl [])) (hg.next hl) (fun a b jd=>dF.made rfl (dc.one jd))
   · simp only[Bool.not_true,aC];have:(aL false p).2=p:=by unfold aL;simp
     rw[this];rfl
   · rw[aj,aj];unfold qA bZ;rw[aj];unfold ec;rw[aj];simp only[eU,bD,h.kind];rw[if_neg (by rw[hw.1];decide),GW,bD,aj,gd h hw.1 hw.2,bD]
 · refine ah.look false (tr hw) ?_;exact ah.UR (fun hx=>by cases hx)
def hU(L:Nat→LR)(n:Nat)(u:Tok):PM (List Nd):=fun t=>match bG L n u.val with
 | some f=>f t
 | none=>.err u.start
theorem D6(h:Stream l eof L){n i:Nat}{q:Ps}(hg:Good l n q)(hk:ag l q.pos=15){t t':List Nd}(ht:dF t t')
 (hD:∀w (B:List Nd→PM (List Nd)),aX l q.pos=w→bZ L w B (aB l eof i)=B t' (aB l eof (q.pos+1)))
 (hc:(t=[]∧t'=[]∧i=q.pos)∨(t.isEmpty=false∧q.pos=i+1∧(ag l i=18∨ag l i=19))) :
 ah l eof dF 1 {q with pos:=i} (fun _=>uQ l t q) (hU L n (aB l eof q.pos)):=by
 have hl:=h.lt hk (by decide);have gm:=hg.next hl;have hi:i≤q.pos:=by rcases hc with⟨_,_,hc⟩|⟨_,hc,_⟩<;>omega
 generalize hw:aX l q.pos=w at *;by_cases ur:nD t w=true
 ·
  have KU:t.isEmpty=false:=by unfold nD at ur;simp only[Bool.and_eq_true,Bool.not_eq_true'] at ur;exact ur.2
  have hor:aN w=true∨w=dV∨w=fZ:=by
   unfold nD at ur;simp only[Bool.and_eq_true,Bool.or_eq_true,decide_eq_true_eq] at ur;rcases ur.1 with(a|a)|a
   · exact .inl a
   · exact .inr (.inl a)
   · exact .inr (.inr a)
  obtain⟨hq,hki⟩:q.pos=i+1∧(ag l i=18∨ag l i=19):=by
   rcases hc with⟨a,_,_⟩|⟨_,b,c⟩
   · rw[a] at KU;cases KU
   · exact⟨b,c⟩
  have Vg:ag l i≠15:=by rcases hki with a|a<;>rw[a]<;>decide
  have Z0i:ag l i≠12:=by rcases hki with a|a<;>rw[a]<;>decide
  refine .err (q:={q with pos:=i,bad:=true,wrong:=i}) (a:=[]) ?_ rfl ?_
  · unfold uQ;rw[hw,if_pos ur];unfold dn db;rw[if_neg (by show ¬q.bad=true;rw[hg.1];decide)];simp only[hq,Nat.add_sub_cancel]
  · show hU L n _ (aB l eof i)=.err (aB l eof i).start;unfold hU;rw[h.val,hw];by_cases hf:w=dV
    · have:bG L n w=some (gL L n):=by unfold bG;rw[if_pos hf]
      rw[this];dsimp only;unfold gL;rw[aj,nJ h (fun a=>Vg a.1)];rfl
    · by_cases ho:aN w=true
      · have:bG L n w=some (dL L n):=by unfold bG;rw[if_neg hf,if_pos ho]
        rw[this];dsimp only;unfold dL;rw[aj];simp only[eU,bD,h.kind];rw[if_neg Z0i,aj];unfold kR;rw[aj,p4 h Vg];rfl
      · have he:w=fZ:=by rcases hor with a|a|a;exact absurd a ho;exact absurd a hf;exact a
        have:bG L n w=some (oN L n):=by rw[he];rfl
        rw[this];dsimp only;unfold oN;rw[aj,nJ h (fun a=>Vg a.1)];rfl
 · have hS:uQ l t q=mP l t w {(aL (decide (w=fp)&&!t.isEmpty) q).2 with pos:=(aL (decide (w=fp)&&!t.isEmpty) q).2.pos+1}:=by
    unfold uQ;rw[hw,if_neg ur];unfold Bl;rw[aC,aC,rL (p:=(aL (decide (w=fp)&&!t.isEmpty) q).2) hg.1 hk];show mP l t (aX l q.pos) _=_;rw[hw]
   refine ah.congr (S':=fun _=>mP l t w {(aL (decide (w=fp)&&!t.isEmpty) q).2 with pos:=(aL (decide (w=fp)&&!t.isEmpty) q).2.pos+1}) hS rfl ?_
   have Vo:ah l eof dF 1 {q with pos:=i} (fun _=>mP l t w {q with pos:=q.pos+1}) (hU L n (aB l eof q.pos))∨(decide (w=fp)&&!t.isEmpty)=true:=by
    have LP:∀(wx:ByteArray) (S:SM (List Nd)) (B:List Nd→PM (List Nd)),w=wx→mP l t wx=S→bG L n wx=some (bZ L wx B)→ah l eof dF 0 {q with pos:=q.pos+1} S (B t') →
     ah l eof dF 1 {q with pos:=i} (fun _=>mP l t w {q with pos:=q.pos+1}) (hU L n (aB l eof q.pos)):=by
     intro wx S B e1 e2 e3 hs;refine ah.shift hs (by rw[e1,e2]) ?_ (by show i+1≤q.pos+1+0;omega) rfl;show hU L n _ (aB l eof i)=_;unfold hU;rw[h.val,hw,e1,e3];dsimp only;exact hD wx B e1
    by_cases ho:aN w=true
    · left
      have KU:t=[]∧i=q.pos:=by
       rcases hc with⟨a,_,b⟩|⟨a,_,_⟩
       · exact⟨a,b⟩
       · exfalso;apply ur;unfold nD;rw[ho,a];rfl
      have e1:bG L n w=some (dL L n):=by unfold bG;rw[if_neg (fun e=>by rw[e] at ho;revert ho;decide),if_pos ho]
      refine ah.shift (B5 h hg hk (by rw[hw];exact ho)) ?_ ?_ (by show i+1≤q.pos+1;omega) rfl
      · unfold mP;rw[if_pos ho];rfl
      · show hU L n _ (aB l eof i)=_;unfold hU;rw[h.val,hw,e1,KU.2]
    by_cases hf:w=dV
    · left
      have KU:i=q.pos:=by
       rcases hc with⟨_,_,b⟩|⟨a,_,_⟩
       · exact b
       · exfalso;apply ur;unfold nD;rw[hf,a];rfl
      refine ah.shift (ze h gm) ?_ ?_ (by show i+1≤q.pos+1+0;omega) rfl
      · rw[hf];rfl
      · show hU L n _ (aB l eof i)=_;unfold hU;rw[h.val,hw,hf];show gL L n (aB l eof i)=_;unfold gL;rw[aj,KU,gd h hk (hw.trans hf),bD]
    by_cases hs:w=fp
    · rcases hc with⟨a,_,b⟩|⟨a,_,_⟩
      · left
        rw[a];refine ah.shift (Hi h gm) ?_ ?_ (by show i+1≤q.pos+1+0;omega) rfl
        · rw[hs];rfl
        · show hU L n _ (aB l eof i)=_;unfold hU;rw[h.val,hw,hs];show sA L n (aB l eof i)=_;unfold sA;rw[aj,b,gd h hk (hw.trans hs),bD]
      · right;rw[a,hs];rfl
    left
    by_cases h1:w=ka
    · exact LP _ _ _ h1 rfl rfl (Hh h gm ht)
    by_cases h2:w=iC
    · exact LP _ _ (pz L n) h2 rfl rfl (zf h gm ht)
    by_cases h3:w=fE
    · exact LP _ _ _ h3 rfl rfl (B4 h gm ht)
    by_cases h4:w=mU
    · exact LP _ _ _ h4 rfl rfl (JC h gm ht)
    by_cases h5:w=qO
    · exact LP _ _ _ h5 rfl rfl (Ls h gm ht)
    by_cases h6:w=mT
    · exact LP _ _ _ h6 rfl rfl (JA h gm ht)
    by_cases h7:w=fD
    · exact LP _ _ _ h7 rfl rfl (Er h gm ht)
    by_cases h8:w=fZ
    · have KU:i=q.pos:=by
       rcases hc with⟨_,_,b⟩|⟨a,_,_⟩
       · exact b
       · exfalso;apply ur;unfold nD;rw[h8,a];rfl
      refine ah.shift (He h gm) ?_ ?_ (by show i+1≤q.pos+1+0;omega) rfl
      · rw[h8];rfl
      · show hU L n _ (aB l eof i)=_;unfold hU;rw[h.val,hw,h8];show oN L n (aB l eof i)=_;unfold oN;rw[aj,KU,gd h hk (hw.trans h8),bD]
    · refine .err (q:={q with bad:=true,wrong:=q.pos}) (a:=[]) ?_ rfl ?_
      · unfold mP;rw[if_neg ho,if_neg hf,if_neg hs,if_neg h1,if_neg h2,if_neg h3,if_neg h4,if_neg h5,if_neg h6,if_neg h7,if_neg h8];show dn {q with pos:=q.pos+1-1}=_;exact jy (p:={q with pos:=q.pos+1-1}) hg.1
      · show hU L n _ (aB l eof i)=_;unfold hU;rw[h.val,hw];have:bG L n w=none:=by unfold bG;rw[if_neg hf,if_neg ho,if_neg hs,if_neg h1,if_neg h2,if_neg h3,if_neg h4,if_neg h5,if_neg h6,if_neg h8,if_neg h7]
        rw[this]
   intro hu
   cases hb:(decide (w=fp)&&!t.isEmpty) with
   | true=>
    exfalso;rw[hb] at hu;have h1:=((Gx (l:=l) t w).out {(aL true q).2 with pos:=(aL true q).2.pos+1}).1 hu
    unfold aL at h1;simp at h1
   | false=>
    have hp:=Vo.resolve_right (by rw[hb];decide);rw[hb] at hu;have e1:(aL false q).2=q:=by unfold aL;simp
    rw[e1] at hu ⊢;exact hp hu
theorem zY(h:Stream l eof L){n:Nat}{p:Ps}(hg:Good l n p):ah l eof dF 1 p (dX l) (bC L n):=by
 rw[wP];refine ah.look (ag l p.pos) rfl ?_;by_cases lq:ag l p.pos=12
 · rw[if_pos lq];refine ah.congr rfl ?_ (JB h hg lq);unfold bC;rw[h.kind,if_pos lq]
 rw[if_neg lq];by_cases ml:ag l p.pos=15
 · refine ah.shift (p:=p) (q:={p with pos:=p.pos}) (d:=1) (D6 h (i:=p.pos) hg ml (dF.refl []) (fun w B hw=>?_) (.inl ⟨rfl,rfl,rfl⟩)) ?_ ?_ lr rfl
   · unfold bZ;rw[aj];unfold ec;rw[aj];simp only[eU,bD,h.kind];rw[if_neg (by rw[ml];decide),GW,bD,aj,gd h ml hw,bD]
   · have e1:mQ l (ag l p.pos) p=([],p):=by unfold mQ;rw[if_neg (by rw[ml];decide)];rfl
     rw[aC,e1,aC];show(if ag l p.pos≠15 then dn else uQ l []) p=_;rw[if_neg (fun hh=>hh ml)]
   · unfold bC fh;rw[h.kind,if_neg lq,if_pos (.inl ml),if_neg (by rw[ml];decide)];dsimp only;rw[h.kind,if_neg (fun hh=>hh ml)]
     rfl
 by_cases hd:ag l p.pos=18∨ag l p.pos=19
 · have hl:p.pos<l.length:=by rcases hd with hd|hd<;>exact h.lt hd (by decide)
   have gm:=hg.next hl;have e1:mQ l (ag l p.pos) p=(made {kind:=23,text:=aX l p.pos,flag:=if ag l p.pos=19 then 1 else 0} [],{p with pos:=p.pos+1}):=by unfold mQ;rw[if_pos hd];rfl
   have eI:bC L n (aB l eof p.pos)=(if ag l (p.pos+1)≠15 then PR.err (aB l eof (p.pos+1)).start else hU L n (aB l eof (p.pos+1)) (aB l eof p.pos)):=by
    unfold bC fh;rw[h.kind,if_neg lq,if_pos (.inr hd),if_pos hd,h.next];dsimp only;rw[h.kind]
    rfl
   by_cases hq:ag l (p.pos+1)=15
   · refine ah.shift (p:=p) (q:={p with pos:=p.pos}) (d:=1) (D6 h (q:={p with pos:=p.pos+1}) (i:=p.pos) gm hq (t:=made {kind:=23,text:=aX l p.pos,flag:=if ag l p.pos=19 then 1 else 0} []) (t':=made {kind:=23,text:=aX l p.pos} []) (dF.made rfl dc.nil) (fun w B hw=>?_) (.inr ⟨rfl,rfl,hd⟩)) ?_ ?_ lr rfl
     · unfold bZ;rw[aj];unfold ec;rw[aj];simp only[eU,bD,h.kind,h.val];rw[if_pos hd,aj,ng h,bD,GW,bD,aj,gd h hq hw,bD]
     · rw[aC,e1,aC];show(if ag l (p.pos+1)≠15 then dn else uQ l _) {p with pos:=p.pos+1}=_;rw[if_neg (fun hh=>hh hq)]
     · rw[eI,if_neg (fun hh=>hh hq)]
   · refine .err (q:={p with pos:=p.pos+1,bad:=true,wrong:=p.pos+1}) (a:=[]) ?_ rfl ?_
     · rw[aC,e1,aC];show(if ag l (p.pos+1)≠15 then dn else uQ l _) {p with pos:=p.pos+1}=_;rw[if_pos hq];exact jy (p:={p with pos:=p.pos+1}) hg.1
     · rw[eI,if_pos hq]
 · refine .err (q:={p with bad:=true,wrong:=p.pos}) (a:=[]) ?_ rfl ?_
   · have e1:mQ l (ag l p.pos) p=([],p):=by unfold mQ;rw[if_neg hd];rfl
     rw[aC,e1,aC];show(if ag l p.pos≠15 then dn else uQ l []) p=_;rw[if_pos ml];exact jy hg.1
   · unfold bC;rw[h.kind,if_neg lq,if_neg (fun hh=>by rcases hh with a|a|a;exact ml a;exact hd (.inl a);exact hd (.inr a))]
theorem A4{i:Nat}(h:l.length≤i):aB l eof i=eof:=by unfold aB;rw[List.getElem?_eq_none h];rfl
theorem rK:∀m acc,aq (eg l m acc)
 | 0,_=>aq.pure _
 | m+1,acc=>fun p=>by
  unfold eg;split
  · exact(aq.bind (zK (l:=l)).out fun x=>rK m (acc++[x])) p
  · exact⟨id,fun h=>⟨h,rfl⟩⟩
theorem zd(h:Stream l eof L){n:Nat}:∀m m' acc acc' p,Good l n p→l.length-p.pos<m→l.length-p.pos<m'→dc acc acc'→ah l eof dc 0 p (eg l m acc) (bj L (bC L n) 1 m' acc'):=by
 intro m
 induction m with
 | zero=>intro m' acc acc' p hg h1;omega
 | succ m ih=>
  intro m' acc acc' p hg h1 h2 rA
  cases m' with
  | zero=>omega
  | succ k=>
   by_cases hq:p.pos<l.length
   · have hk:ag l p.pos≠1:=fun hk=>by have:=(h.end_ p.pos).1 hk;omega
     refine ah.congr (S':=(dX l>>=fun x=>eg l m (acc++[x]))) (I':=(bC L n>>=fun x=>bj L (bC L n) 1 k (acc'++[x]))) ?_ ?_ ?_
     · conv=>lhs;unfold eg
       rw[if_pos ⟨hg.1,hq⟩];rfl
     · conv=>lhs;unfold bj
       rw[aj,qK h hk];rfl
     · refine((zY h hg).seq (fun x=>rK m _) hg (fun a b q jd gq hp _=>?_)).any;have:=gq.2.1;exact ih k _ _ q gq (by omega) (by omega) (rA.snoc jd)
   · have hk:ag l p.pos=1:=(h.end_ p.pos).2 (by omega);refine .ok (q:=p) (a:=acc) ?_ hg.1 lr hg.2.1 rfl (y:=acc') ?_ rA
     · unfold eg;rw[if_neg (fun hh=>hq hh.2)]
     · unfold bj;rw[aj,pR h hk,A4 (i:=p.pos+1) (by omega),A4 (i:=p.pos) (by omega)];rfl
theorem G4(h:Stream l eof L){n:Nat}(hn:l.length<n)(hu:(bL l uO).2.unsure=false) :
 ((bL l uO).2.bad=true→iX L n (aB l eof 0)=.err (aB l eof (bL l uO).2.wrong).start) ∧
 ((bL l uO).2.bad=false→∃y t,iX L n (aB l eof 0)=.ok y t∧dF (bL l uO).1 y):=by
 have hg:Good l n uO:=⟨rfl,Nat.zero_le _,by show l.length-0<n;omega,Nat.zero_le _⟩;have hd:=zd h (n:=n) (many l) n [] [] uO hg (by unfold many;show l.length-0<_;omega) (by show l.length-0<n;omega) dc.nil
 have hs:ah l eof dF 0 uO (bL l) (iX L n):=by
  unfold bL iX;refine hd.uc (fun kids=>?_) hg (fun a b q jd gq _ _=>?_)
  · exact aq.ite (aq.bind (cL _) fun _=>gx) (aq.pure _)
  · by_cases he:a.isEmpty=true
    · rw[if_pos he];exact ah.BQ gx (fun hx=>by cases hx)
    · rw[if_neg he];exact ah.pure gq (dF.made rfl jd)
 have h2:=hs hu;refine⟨h2.1,fun hb=>?_⟩;obtain⟨_,_,_,y,f,g⟩:=h2.2 hb;exact⟨y,_,f,g⟩
end
end Go.Proofs.YtnpjmhodfdgloaaGreatDoor
