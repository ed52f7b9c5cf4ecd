/- Part of the proof. -/
import Derived.Test.YtnpjmhodfdgloaaGreatDoorQ01
set_option linter.unusedVariables false
set_option linter.unusedSimpArgs false
namespace Go.Proofs.YtnpjmhodfdgloaaGreatDoor
set_option maxRecDepth 100000
set_option maxHeartbeats 32000000
section
variable{l:List Tok}{eof:Tok}{L:Nat→LR}
theorem ah.congr{α β}{R:α→β→Prop}{d:Nat}{p:Ps}{S S':SM α}{I I':PM β}(hs:S p=S' p)(hi:I (aB l eof p.pos)=I' (aB l eof p.pos))(h:ah l eof R d p S' I'):ah l eof R d p S I:=by unfold ah at *;rw[hs,hi];exact h
theorem uX(h:Stream l eof L){n:Nat}{e:Int}(he:e≠1){item:SM (List Nd)}{itemI:PM (List Nd)}(hm:aq item){D:Nat}(hi:∀q,Good l n q→q.deep=D→ah l eof dF 1 q item itemI) :
 ∀m m' acc acc' p,Good l n p→p.deep=D→l.length-p.pos<m→l.length-p.pos<m'→dc acc acc'→ah l eof dc 1 p (dk l e item m acc) (bj L itemI e m' acc'):=by
 intro m
 induction m with
 | zero=>intro m' acc acc' p hg hD h1;omega
 | succ m ih=>
  intro m' acc acc' p hg hD h1 h2 rA
  cases m' with
  | zero=>omega
  | succ k=>
   by_cases hq:ag l p.pos=e
   · have hs:dk l e item (m+1) acc p=(acc,{p with pos:=p.pos+1}):=by
      unfold dk;rw[if_neg (by rw[hg.1];decide),ig hg.1 hq];rfl
     refine .ok hs hg.1 lr (h.lt hq he) rfl (y:=acc') ?_ rA;unfold bj;rw[aj,pR h hq];rfl
   · have hs:dk l e item (m+1) acc p=(item>>=fun x=>dk l e item m (acc++[x])) p:=by
      conv=>lhs;unfold dk
      rw[if_neg (by rw[hg.1];decide),ix hq];rfl
     have hI:bj L itemI e (k+1) acc' (aB l eof p.pos)=(itemI>>=fun x=>bj L itemI e k (acc'++[x])) (aB l eof p.pos):=by
      conv=>lhs;unfold bj
      rw[aj,qK h hq];rfl
     refine ah.congr hs hI ?_;refine((hi p hg hD).bind (fun x=>fz l hm m _) hg (fun a b q jd gq PI hdq=>ih k _ _ q gq (hdq.trans hD) (by have:=gq.2.1;omega) (by have:=gq.2.1;omega) (rA.snoc jd))).nH (fun _ _ h=>h) (by omega)
theorem Au(h:Stream l eof L){n:Nat}{e:Int}(he:e≠1){item:SM (List Nd)}{itemI:PM (List Nd)}(hm:aq item){D:Nat}(hi:∀q,Good l n q→q.deep=D→ah l eof dF 1 q item itemI)
 {m m':Nat} {acc acc':List (List Nd)} {p:Ps} (hg:Good l n p) (hD:p.deep=D) (tX:ag l p.pos≠e) (h1:l.length-p.pos<m+1) (h2:l.length-p.pos<m') (rA:dc acc acc') :
 ah l eof dc 2 p (cV l e item m acc) (bj L itemI e m' acc'):=by
 cases m' with
 | zero=>omega
 | succ k=>
  have hs:cV l e item m acc p=(item>>=fun x=>dk l e item m (acc++[x])) p:=by unfold cV;rw[if_neg (by rw[hg.1];decide)];rfl
  have hI:bj L itemI e (k+1) acc' (aB l eof p.pos)=(itemI>>=fun x=>bj L itemI e k (acc'++[x])) (aB l eof p.pos):=by
   conv=>lhs;unfold bj
   rw[aj,qK h tX];rfl
  refine ah.congr hs hI ?_;exact(hi p hg hD).bind (fun x=>fz l hm m _) hg (fun a b q jd gq PI hdq=>uX h he hm hi m k _ _ q gq (hdq.trans hD) (by have:=gq.2.1;omega) (by have:=gq.2.1;omega) (rA.snoc jd))
theorem uS{α β}{R:α→β→Prop}{d:Nat}{p:Ps}{z:α}{body:SM α}{I:PM β}(hg:p.bad=false)
 (hb:p.deep+1≤60→ah l eof R d {p with deep:=p.deep+1} body I) :
 ah l eof R d p (do if(←ew)=true then(do let out ←body;jx;pure out) else pure z) I:=by
 by_cases hd:p.deep+1>60
 · intro hu;exfalso;have e1:ew p=(false,db {p with deep:=p.deep+1,unsure:=true}):=by unfold ew;rw[if_pos hd]
   rw[aC,e1] at hu;have e2:(db {p with deep:=p.deep+1,unsure:=true}).unsure=true:=by rw[(gB _).1]
   have:(db {p with deep:=p.deep+1,unsure:=true}).unsure=false:=hu;rw[e2] at this;cases this
 · have e1:ew p=(true,{p with deep:=p.deep+1}):=by unfold ew;rw[if_neg hd,hg];rfl
   have hh:=hb (by omega);intro hu;have e2:(do if(←ew)=true then(do let out ←body;jx;pure out) else pure z:SM α) p=((body {p with deep:=p.deep+1}).1,(jx (body {p with deep:=p.deep+1}).2).2):=by rw[aC,e1];rfl
   rw[e2] at hu ⊢;have h2:=hh hu;refine⟨h2.1,fun hx=>?_⟩;obtain⟨a,b,c,y,f,g⟩:=h2.2 hx;refine⟨a,b,?_,y,f,g⟩;show(body {p with deep:=p.deep+1}).2.deep-1=p.deep;rw[c];show p.deep+1-1=p.deep;omega
end
section
variable(l:List Tok)
theorem aq.keep{α}{f:Ps→α}{g:Ps→Ps}(h:∀p,(g p).unsure=p.unsure∧(g p).bad=p.bad∧(g p).wrong=p.wrong):aq (fun p=>(f p,g p)):=fun p=>by obtain⟨a,b,c⟩:=h p;exact⟨fun hu=>a ▸ hu,fun hb=>⟨b.trans hb,c⟩⟩
theorem aq.cond{α}{c:Ps→Prop}[∀p,Decidable (c p)]{x y:SM α}(hx:aq x)(hy:aq y):aq (fun p=>if c p then x p else y p):=fun p=>by
 dsimp only;split
 · exact hx p
 · exact hy p
theorem zM:aq (fun p=>dn {p with pos:=p.pos+1,unsure:=true}):=fun p=>by
 have h:=gB {p with pos:=p.pos+1,unsure:=true};refine⟨fun hu=>?_,fun hb=>h.2 hb⟩;have h1:(db {p with pos:=p.pos+1,unsure:=true}).unsure=false:=hu;rw[h.1] at h1
 cases h1
theorem zL:aq (nf l):=fun p=>⟨id,fun h=>⟨h,rfl⟩⟩
theorem gD:∀N fixed,aq (cQ l N fixed)
 | 0,fixed=>aq.pure _
 | N+1,fixed=>by
  unfold cQ;refine aq.bind kz (fun _=>aq.ite (aq.bind ?_ (fun _=>aq.bind kA (fun _=>aq.pure _))) (aq.pure _));have ih:=gD N fixed;have h1:aq (do dY;let s ←aw l;pure (made {kind:=11,name:=s} []):SM (List Nd)):=aq.bind gy fun _=>aq.bind (dT l) fun _=>aq.pure _;have h2:aq (do dY;let kids ←dk l 11 (cQ l N fixed) (many l) [];pure (made {kind:=17} kids):SM (List Nd)):=aq.bind gy fun _=>aq.bind (fz l ih _ _) fun _=>aq.pure _
  have h3:aq (do dY;let kids ←dk l 14 (do let s ←aw l;cr l 7;let v ←cQ l N fixed;pure (made {kind:=19,name:=s} [v])) (many l) [];pure (made {kind:=18} kids):SM (List Nd)):=
   aq.bind gy fun _=>aq.bind (fz l (aq.bind (dT l) fun _=>aq.bind (ey l _) fun _=>aq.bind ih fun _=>aq.pure _) _ _) fun _=>aq.pure _
  repeat' (first
   | exact gx|exact h1|exact h2|exact h3|exact zM
   | refine aq.cond ?_ ?_
   | exact aq.keep (fun p=>⟨rfl,rfl,rfl⟩))
theorem kB:∀N,aq (eK l N)
 | 0=>aq.pure _
 | N+1=>by
  unfold eK;have ih:=kB N
  (repeat' (first
  | exact gx|exact eJ l _|exact o7|exact cL _|exact gy|exact mh|exact kA|exact kU l _|exact eP l _|exact ey l _|exact iZ l _ _|exact dT l|exact ie l|exact kz|exact eH l|exact gh l
  | exact aq.pure _|exact ih
  | refine aq.bind ?_ (fun _=>?_)
  | refine aq.ite ?_ ?_
  | refine fz l ?_ _ _|refine jv l ?_ _ _|refine gE l ?_ _ _))
theorem hH(fixed:Bool):aq (cE l fixed):=by
 unfold cE;have hv:=gD l 62 fixed
 (repeat' (first
  | exact gx|exact eJ l _|exact o7|exact cL _|exact gy|exact mh|exact kA|exact kU l _|exact eP l _|exact ey l _|exact iZ l _ _|exact dT l|exact ie l|exact kz|exact eH l|exact gh l
  | exact aq.pure _|exact hv
  | refine aq.bind ?_ (fun _=>?_)
  | refine aq.ite ?_ ?_
  | refine fz l ?_ _ _|refine jv l ?_ _ _|refine gE l ?_ _ _))
theorem fI(fixed:Bool):aq (ao l fixed):=by
 unfold ao;have hv:=hH l false;have ha:=zL l
 (repeat' (first
  | exact gx|exact eJ l _|exact o7|exact cL _|exact gy|exact mh|exact kA|exact kU l _|exact eP l _|exact ey l _|exact iZ l _ _|exact dT l|exact ie l|exact kz|exact eH l|exact gh l
  | exact aq.pure _|exact hv|exact ha
  | refine aq.bind ?_ (fun _=>?_)
  | refine aq.ite ?_ ?_
  | refine fz l ?_ _ _|refine jv l ?_ _ _|refine gE l ?_ _ _))
theorem uH{sub:SM (List Nd)}(hs:aq sub):aq (cG l sub):=by
 unfold cG;have hd:=fI l false;have ha:=hH l false;refine aq.bind (eP l _) fun _=>aq.ite ?_ ?_
 · (repeat' (first
   | exact gx|exact eJ l _|exact o7|exact cL _|exact gy|exact mh|exact kA|exact kU l _|exact eP l _|exact ey l _|exact iZ l _ _|exact dT l|exact ie l|exact kz|exact eH l|exact gh l
   | exact aq.pure _|exact hd|exact ha|exact hs
   | refine aq.bind ?_ (fun _=>?_)
   | refine aq.ite ?_ ?_
   | refine fz l ?_ _ _|refine jv l ?_ _ _|refine gE l ?_ _ _))
 · refine aq.bind (dT l) fun _=>aq.bind ?_ fun _=>?_
   · (repeat' (first
   | exact gx|exact eJ l _|exact o7|exact cL _|exact gy|exact mh|exact kA|exact kU l _|exact eP l _|exact ey l _|exact iZ l _ _|exact dT l|exact ie l|exact kz|exact eH l|exact gh l
   | exact aq.pure _ 
   | refine aq.bind ?_ (fun _=>?_)
   | refine aq.ite ?_ ?_
   | refine fz l ?_ _ _|refine jv l ?_ _ _|refine gE l ?_ _ _))
   · split;refine aq.bind ha fun _=>aq.bind hd fun _=>aq.bind ?_ fun _=>aq.pure _;intro p;dsimp only;split
     · exact hs p
     · exact⟨id,fun h=>⟨h,rfl⟩⟩
theorem fJ:∀N,aq (aI l N)
 | 0=>aq.pure _
 | N+1=>by
  unfold aI;have ih:=uH l (fJ N)
  (repeat' (first
  | exact gx|exact eJ l _|exact o7|exact cL _|exact gy|exact mh|exact kA|exact kU l _|exact eP l _|exact ey l _|exact iZ l _ _|exact dT l|exact ie l|exact kz|exact eH l|exact gh l
  | exact aq.pure _|exact ih
  | refine aq.bind ?_ (fun _=>?_)
  | refine aq.ite ?_ ?_
  | refine fz l ?_ _ _|refine jv l ?_ _ _|refine gE l ?_ _ _))
theorem uI:aq (fA l):=by
 unfold fA;have hk:=kB l 62;have hv:=gD l 62 true
 (repeat' (first
  | exact gx|exact eJ l _|exact o7|exact cL _|exact gy|exact mh|exact kA|exact kU l _|exact eP l _|exact ey l _|exact iZ l _ _|exact dT l|exact ie l|exact kz|exact eH l|exact gh l
  | exact aq.pure _|exact hk|exact hv
  | refine aq.bind ?_ (fun _=>?_)
  | refine aq.ite ?_ ?_
  | refine fz l ?_ _ _|refine jv l ?_ _ _|refine gE l ?_ _ _))
end
section
variable{l:List Tok}{eof:Tok}{L:Nat→LR}
theorem Good.move{n:Nat}{p:Ps}(hg:Good l (n+1) p)(h:p.pos<l.length):Good l n {p with pos:=p.pos+1}:=
 ⟨hg.1,h,by have:=hg.2.2.1;show l.length-(p.pos+1)<n;omega,hg.2.2.2⟩
theorem Good.up{n m:Nat}{p:Ps}(hg:Good l n p)(h:n≤m):Good l m p:=⟨hg.1,hg.2.1,by have:=hg.2.2.1;omega,hg.2.2.2⟩
theorem jz(h:Stream l eof L){p:Ps}{x y:List Nd}(hb:p.bad=false)(hl:p.pos<l.length)(hr:dF x y) :
 ah l eof dF 1 p (fun p=>(x,{p with pos:=p.pos+1})) (do bm L;pure y):=
 .ok rfl hb lr hl rfl (by rw[aj,ng h];rfl) hr
theorem oc(h:Stream l eof L){α β}{R:α→β→Prop}{d:Nat}{p:Ps}{k:Int}(hk:ag l p.pos=k){S:SM α}{I:PM β}(hs:ah l eof R d {p with pos:=p.pos+1} S I) :
 ah l eof R (d+1) p (dY>>=fun _=>S) (bE L k>>=fun _=>I):=by
 intro hu;have e1:(dY>>=fun _=>S) p=S {p with pos:=p.pos+1}:=rfl;have e2:(bE L k>>=fun _=>I) (aB l eof p.pos)=I (aB l eof (p.pos+1)):=by rw[aj,iH h hk];rfl
 rw[e1] at hu ⊢;rw[e2];have h2:=hs hu;refine⟨h2.1,fun hb=>?_⟩;obtain⟨a,b,c,y,f,g⟩:=h2.2 hb;exact⟨by have:p.pos+1+d≤_:=a;omega,b,c,y,f,g⟩
theorem ez{α β γ δ}{R:α→β→Prop}{Q:γ→δ→Prop}{d n:Nat}{p:Ps}{S:SM α}{I:PM β}{f:α→γ}{g:β→δ}(h:ah l eof R d p S I)(hg:Good l n p)(hr:∀a b,R a b→Q (f a) (g b)):ah l eof Q d p (do let x ←S;pure (f x)) (do let x ←I;pure (g x)):=
 (h.bind (fun _=>aq.pure _) hg (fun a b q jd gq _ _=>ah.pure gq (hr a b jd))).nH (fun _ _ h=>h) lr
theorem H6{item:PM (List Nd)}{n:Nat}{a b:Int}{g:List (List Nd)→List Nd}(t:Tok):(bW L n a item b false>>=fun x=>pure (g x):PM (List Nd)) t=(bE L a>>=fun _=>bj L item b n []>>=fun x=>pure (g x)) t:=by
 unfold bW;simp only[aj]
 cases h1:bE L a t with
 | ok u v=>
  simp only[bD,aj]
  cases h2:bj L item b n [] v with
  | ok x y=>simp only[bD];rfl
  | err p=>rfl
  | eo=>rfl
 | err p=>rfl
 | eo=>rfl
theorem Aw(h:Stream l eof L):∀n N fixed p,Good l n p→62≤N+p.deep→ah l eof dF 1 p (cQ l N fixed) (bo L n fixed):=by
 intro n
 induction n with
 | zero=>intro N fixed p hg;exact absurd hg.2.2.1 (Nat.not_lt_zero _)
 | succ n ih=>
  intro N fixed p hg hN
  cases N with
  | zero=>have:=hg.2.2.2;omega
  | succ N=>
   unfold cQ;refine uS hg.1 (fun hd=>?_);have ux:Good l (n+1) {p with deep:=p.deep+1}:=⟨hg.1,hg.2.1,hg.2.2.1,hd⟩;have S3:62≤N+(p.deep+1):=by omega
   generalize Sg:({p with deep:=p.deep+1}:Ps)=p' at *;have TL:p'.deep=p.deep+1:=by rw[←Sg]
   rw[←TL] at S3;clear hg hN Sg hd TL;by_cases hlen:l.length≤p'.pos
   · have hk:ag l p'.pos=1:=(h.end_ _).2 hlen;refine .err (q:={p' with bad:=true,wrong:=p'.pos}) (a:=[]) ?_ rfl ?_
     · rw[if_pos hlen];exact jy ux.1
     · (conv=>lhs;unfold bo);rw[aj];show _=_;simp only[eU,bD,h.kind,hk];rfl
   · have hl:p'.pos<l.length:=by omega
     have gm:=ux.move hl;by_cases Zc:ag l p'.pos=16
     · refine ah.congr (S':=fun p=>(made {kind:=12,text:=aX l p'.pos} [],{p with pos:=p.pos+1})) (I':=(do bm L;pure (made {kind:=12,text:=aX l p'.pos} []))) ?_ ?_ (jz h ux.1 hl ?_)
       · simp only[if_neg hlen,Zc];rfl
       · (conv=>lhs;unfold bo);rw[aj];simp only[eU,bD,h.kind,h.val,Zc];rfl
       · exact dF.made rfl dc.nil
     by_cases Zd:ag l p'.pos=17
     · refine ah.congr (S':=fun p=>(made {kind:=13,text:=aX l p'.pos} [],{p with pos:=p.pos+1})) (I':=(do bm L;pure (made {kind:=13,text:=aX l p'.pos} []))) ?_ ?_ (jz h ux.1 hl ?_)
       · simp only[if_neg hlen,Zd];rfl
       · (conv=>lhs;unfold bo);rw[aj];simp only[eU,bD,h.kind,h.val,Zd];rfl
       · exact dF.made rfl dc.nil
     by_cases Ze:ag l p'.pos=18
     · refine ah.congr (S':=fun p=>(made {kind:=14,text:=aX l p'.pos,flag:=0} [],{p with pos:=p.pos+1})) (I':=(do bm L;pure (made {kind:=14,text:=aX l p'.pos} []))) ?_ ?_ (jz h ux.1 hl ?_)
       · simp only[if_neg hlen,Ze];rfl
       · (conv=>lhs;unfold bo);rw[aj];simp only[eU,bD,h.kind,h.val,Ze];rfl
       · exact dF.made rfl dc.nil
     by_cases Zf:ag l p'.pos=19
     · refine ah.congr (S':=fun p=>(made {kind:=14,text:=aX l p'.pos,flag:=1} [],{p with pos:=p.pos+1})) (I':=(do bm L;pure (made {kind:=14,text:=aX l p'.pos} []))) ?_ ?_ (jz h ux.1 hl ?_)
       · simp only[if_neg hlen,Zf];rfl
       · (conv=>lhs;unfold bo);rw[aj];simp only[eU,bD,h.kind,h.val,Zf];rfl
       · exact dF.made rfl dc.nil
     by_cases Sq:ag l p'.pos=15
     · by_cases v1:aX l p'.pos=qR
       · refine ah.congr (S':=fun p=>(made {kind:=15,flag:=1} [],{p with pos:=p.pos+1})) (I':=(do bm L;pure (made {kind:=15,flag:=1} []))) ?_ ?_ (jz h ux.1 hl ?_)
         · simp only[if_neg hlen,Sq,v1];rfl
         · (conv=>lhs;unfold bo);rw[aj];simp only[eU,bD,h.kind,h.val,Sq,v1];rfl
         · exact dF.made rfl dc.nil
       by_cases v2:aX l p'.pos=mS
       · refine ah.congr (S':=fun p=>(made {kind:=15} [],{p with pos:=p.pos+1})) (I':=(do bm L;pure (made {kind:=15} []))) ?_ ?_ (jz h ux.1 hl ?_)
         · simp only[if_neg hlen,Sq,v1,v2];rfl
         · (conv=>lhs;unfold bo);rw[aj];simp only[eU,bD,h.kind,h.val,Sq,v1,v2];rfl
         · exact dF.made rfl dc.nil
       by_cases v3:aX l p'.pos=qP
       · refine ah.congr (S':=fun p=>dn {p with pos:=p.pos+1,unsure:=true}) (I':=bo L (n+1) fixed) ?_ rfl ?_
         · simp only[if_neg hlen,Sq,v1,v2,v3];rfl
         · intro hu;have e2:(db {p' with pos:=p'.pos+1,unsure:=true}).unsure=true:=(gB _).1;exact absurd (e2.symm.trans hu) (by decide)
       · refine ah.congr (S':=fun p=>(made {kind:=16,name:=aX l p'.pos} [],{p with pos:=p.pos+1})) (I':=(do bm L;pure (made {kind:=16,name:=aX l p'.pos} []))) ?_ ?_ (jz h ux.1 hl ?_)
         · simp only[if_neg hlen,Sq,v1,v2,v3];rfl
         · (conv=>lhs;unfold bo);rw[aj];simp only[eU,bD,h.kind,h.val,Sq,v1,v2,v3];rfl
         · exact dF.made rfl dc.nil
     by_cases Vx:ag l p'.pos=10
     · refine ah.congr (S':=(do dY;let kids ←dk l 11 (cQ l N fixed) (many l) [];pure (made {kind:=17} kids))) (I':=(do let _ ←bE L 10;let x ←bj L (bo L n fixed) 11 n [];pure (made {kind:=17} x))) ?_ ?_ ?_
       · simp only[if_neg hlen,Vx];rfl
       · (conv=>lhs;unfold bo);rw[aj];simp only[eU,bD,h.kind,h.val,Vx,if_true]
         exact H6 _
       · have hu:=uX (n:=n) h (e:=11) (by decide) (gD l N fixed) (D:=p'.deep) (itemI:=bo L n fixed) (fun q gq hq=>ih N fixed q gq (by rw[hq];exact S3)) (many l) n [] [] _ gm rfl (by unfold many;show _-(p'.pos+1)<_;omega) gm.2.2.1 dc.nil;exact(oc h Vx (ez (Q:=dF) (f:=fun kids=>made {kind:=17} kids) (g:=fun kids=>made {kind:=17} kids) hu gm (fun a b jd=>dF.made rfl jd))).nH (fun _ _ h=>h) (by omega)
     by_cases Ye:ag l p'.pos=12
     · refine ah.congr (S':=(do dY;let kids ←dk l 14 (do let s ←aw l;cr l 7;let v ←cQ l N fixed;pure (made {kind:=19,name:=s} [v])) (many l) [];pure (made {kind:=18} kids))) (I':=(do let _ ←bE L 12;let x ←bj L (fx L (bo L n fixed)) 14 n [];pure (made {kind:=18} x))) ?_ ?_ ?_
       · simp only[if_neg hlen,Ye];rfl
       · (conv=>lhs;unfold bo);rw[aj];simp only[eU,bD,h.kind,h.val,Ye];rfl
       · have Vk:aq (do let s ←aw l;cr l 7;let v ←cQ l N fixed;pure (made {kind:=19,name:=s} [v]):SM (List Nd)):=aq.bind (dT l) fun _=>aq.bind (ey l _) fun _=>aq.bind (gD l N fixed) fun _=>aq.pure _;have hit:∀q,Good l n q→q.deep=p'.deep→ah l eof dF 1 q (do let s ←aw l;cr l 7;let v ←cQ l N fixed;pure (made {kind:=19,name:=s} [v])) (fx L (bo L n fixed)):=fun q gq hq=>by unfold fx;refine(cK h gq).seq (fun _=>aq.bind (ey l _) fun _=>aq.bind (gD l N fixed) fun _=>aq.pure _) gq (fun a b q1 jd g1 _ d1=>?_);subst jd;refine(jA h g1 (by decide)).uc (fun _=>aq.bind (gD l N fixed) fun _=>aq.pure _) g1 (fun _ _ q2 _ g2 _ d2=>?_);exact(ez (Q:=dF) (f:=fun v=>made {kind:=19,name:=a} [v]) (g:=fun v=>made {kind:=19,name:=a} [v]) (ih N fixed q2 g2 (by rw[d2,d1,hq];exact S3)) g2 (fun x y Gf=>dF.made rfl (dc.one Gf))).any
         have hu:=uX (n:=n) h (e:=14) (by decide) Vk (D:=p'.deep) (itemI:=fx L (bo L n fixed)) hit (many l) n [] [] _ gm rfl (by unfold many;show _-(p'.pos+1)<_;omega) gm.2.2.1 dc.nil;exact(oc h Ye (ez (Q:=dF) (f:=fun kids=>made {kind:=18} kids) (g:=fun kids=>made {kind:=18} kids) hu gm (fun a b jd=>dF.made rfl jd))).nH (fun _ _ h=>h) (by omega)
     by_cases k3:ag l p'.pos=3
     · cases fixed with
       | true=>
        refine .err (q:={p' with bad:=true,wrong:=p'.pos}) (a:=[]) ?_ rfl ?_
        · simp only[if_neg hlen,k3];exact jy ux.1
        · (conv=>lhs;unfold bo);rw[aj];simp only[eU,bD,h.kind,h.val,k3];rfl
       | false=>
        refine ah.congr (S':=(do dY;let s ←aw l;pure (made {kind:=11,name:=s} []))) (I':=pf L) ?_ ?_ ?_
        · simp only[if_neg hlen,k3];rfl
        · (conv=>lhs;unfold bo);rw[aj];simp only[eU,bD,h.kind,h.val,k3];rfl
        · unfold pf;exact(oc h k3 (ez (Q:=dF) (f:=fun s=>made {kind:=11,name:=s} []) (g:=fun s=>made {kind:=11,name:=s} []) (cK h gm) gm (fun a b jd=>by subst jd;exact dF.made rfl dc.nil))).nH (fun _ _ h=>h) (by omega)
     refine .err (q:={p' with bad:=true,wrong:=p'.pos}) (a:=[]) ?_ rfl ?_
     · simp only[if_neg hlen,if_neg k3,if_neg Zc,if_neg Zd,if_neg Ze,if_neg Zf,if_neg Sq,if_neg Vx,if_neg Ye];exact jy ux.1
     · (conv=>lhs;unfold bo);rw[aj];simp only[eU,bD,h.kind,h.val,if_neg Zc,if_neg Zd,if_neg Sq,if_neg Vx,if_neg Ye,if_neg (not_or.2 ⟨Ze,Zf⟩),if_neg (fun hh:ag l p'.pos=3∧_=>k3 hh.1)];rfl
end
section
variable{l:List Tok}{eof:Tok}{L:Nat→LR}
def vC(l:List Tok)(N:Nat):SM (List Nd):=do
 if(←ay l 10)=true then
  let x ←eK l N
  let k ←fc l 0
  aL (decide (k≠11))
  cr l 11
  pure (made {kind:=21} [x])
 else
  let s ←aw l
  pure (made {kind:=20,name:=s} [])
def F8(l:List Tok)(N:Nat):SM (List Nd):=do
 let k ←fc l 0
 aL (decide (k≠15)&&decide (k≠10))
 let out ←vC l N
 if(←ay l 2)=true then pure (made {kind:=22} [out]) else pure out
theorem QP(N:Nat):eK l (N+1)=(do if(←ew)=true then(do let out ←F8 l N;jx;pure out) else pure []):=by
 conv=>lhs;unfold eK
 rfl
theorem Je(N:Nat):aq (vC l N):=by unfold vC;have ih:=kB l N;exact aq.bind (eP l _) fun _=>aq.ite (aq.bind ih fun _=>aq.bind (eJ l _) fun _=>aq.bind (cL _) fun _=>aq.bind (ey l _) fun _=>aq.pure _) (aq.bind (dT l) fun _=>aq.pure _)
theorem vG(h:Stream l eof L){α β}{R:α→β→Prop}{d:Nat}{p:Ps}{S:SM α}{I:PM β}(hs:ah l eof R d {p with pos:=p.pos+1} S I) :
 ah l eof R (d+1) p (fun p=>S {p with pos:=p.pos+1}) (bm L>>=fun _=>I):=by
 intro hu;have e2:(bm L>>=fun _=>I) (aB l eof p.pos)=I (aB l eof (p.pos+1)):=by rw[aj,ng h];rfl
 rw[e2];have h2:=hs hu;refine⟨h2.1,fun hb=>?_⟩;obtain⟨a,b,c,y,f,g⟩:=h2.2 hb;refine⟨?_,b,c,y,f,g⟩;show p.pos+(d+1)≤(S {p with pos:=p.pos+1}).2.pos;have:p.pos+1+d≤(S {p with pos:=p.pos+1}).2.pos:=a;omega
theorem xK(h:Stream l eof L):∀n N p,Good l n p→62≤N+p.deep→ah l eof dF 1 p (eK l N) (pB L n):=by
 intro n
 induction n with
 | zero=>intro N p hg;exact absurd hg.2.2.1 (Nat.not_lt_zero _)
 | succ n ih=>
  intro N p hg hN
  cases N with
  | zero=>have:=hg.2.2.2;omega
  | succ N=>
   rw[QP];refine uS hg.1 (fun hd=>?_);have ux:Good l (n+1) {p with deep:=p.deep+1}:=⟨hg.1,hg.2.1,hg.2.2.1,hd⟩;have S3:62≤N+(p.deep+1):=by omega
   generalize Sg:({p with deep:=p.deep+1}:Ps)=p' at *;have TL:p'.deep=p.deep+1:=by rw[←Sg]
   rw[←TL] at S3;clear hg hN Sg hd TL;unfold F8;have Nv:∀out:List Nd,aq (do if(←ay l 2)=true then pure (made {kind:=22} [out]) else pure out:SM (List Nd)):=fun out=>aq.bind (eP l _) fun _=>aq.ite (aq.pure _) (aq.pure _);refine ah.look (ag l p'.pos) rfl (ah.BQ (aq.bind (Je N) Nv) (fun hk=>?_))
   have ri:ag l p'.pos=15∨ag l p'.pos=10:=by
    by_cases a:ag l p'.pos=15
    · exact .inl a
    · by_cases b:ag l p'.pos=10
      · exact .inr b
      · simp[a,b] at hk
   have Be:ah l eof dF 1 p' (vC l N) (sC L (pB L n)):=by
    rcases ri with hk|hk
    · refine ah.congr (S':=(do let s ←aw l;pure (made {kind:=20,name:=s} []))) (I':=(do let s ←dQ L;pure (made {kind:=20,name:=s} []))) ?_ ?_ ?_
      · unfold vC;rw[aC,ix (by rw[hk];decide)];rfl
      · unfold sC;rw[aj];simp only[eU,bD,h.kind,hk];rfl
      · exact ez (Q:=dF) (f:=fun s=>made {kind:=20,name:=s} []) (g:=fun s=>made {kind:=20,name:=s} []) (cK h ux) ux (fun a b jd=>by subst jd;exact dF.refl _)
    · have hl:=h.lt hk (by decide);have gm:=ux.move hl;refine ah.congr (S':=fun p=>(do let x ←eK l N;let k ←fc l 0;aL (decide (k≠11));cr l 11;pure (made {kind:=21} [x]):SM (List Nd)) {p with pos:=p.pos+1}) (I':=(bm L>>=fun _=>(do let x ←pB L n;bm L;pure (made {kind:=21} [x])))) ?_ ?_ ?_
      · unfold vC;rw[aC,ig ux.1 hk];rfl
      · unfold sC;rw[aj];simp only[eU,bD,h.kind,hk];rfl
      · refine(vG h (d:=0) ?_).nH (fun _ _ h=>h) (by omega);refine(ih N _ gm S3).uc (fun _=>aq.bind (eJ l _) fun _=>aq.bind (cL _) fun _=>aq.bind (ey l _) fun _=>aq.pure _) gm (fun x y q Gf gq _ _=>?_);refine ah.look (ag l q.pos) rfl (ah.BQ (aq.bind (ey l _) fun _=>aq.pure _) (fun Z0h=>?_));have k11:ag l q.pos=11:=by simpa using Z0h
        refine ah.congr (S':=fun p=>(made {kind:=21} [x],{p with pos:=p.pos+1})) (I':=(do bm L;pure (made {kind:=21} [y]))) ?_ rfl (jz h gq.1 (h.lt k11 (by decide)) (dF.made rfl (dc.one Gf))).any;rw[aC,uJ gq.1 k11];rfl
   unfold pB;exact Be.seq Nv ux (fun a b q jd gq _ _=>(rb h gq (by decide) (fun q1 g1 _ _ _=>ah.pure g1 (dF.made rfl (dc.one jd))) (fun _=>ah.pure gq jd)).any)
theorem F0{item:PM (List Nd)}{e:Int}:∀m acc t y t',bj L item e m acc t=.ok y t'→acc.length≤y.length
 | 0,acc,t,y,t'=>fun hh=>by unfold bj J1 at hh;cases hh
 | m+1,acc,t,y,t'=>fun hh=>by
  unfold bj at hh;rw[aj] at hh
  cases h1:ft L e t with
  | ok u v=>
   rw[h1,bD] at hh
   cases u with
   | true=>
    simp only[if_true] at hh;have:(PR.ok acc v:PR (List (List Nd)))=.ok y t':=hh
    cases this;exact lr
   | false=>
    simp only[Bool.false_eq_true,if_false] at hh;rw[aj] at hh
    cases h2:item v with
    | ok x w=>
     rw[h2,bD] at hh;have:=F0 m _ _ _ _ hh
     simp at this;omega
    | err p=>rw[h2] at hh;cases hh
    | eo=>rw[h2] at hh;cases hh
  | err p=>rw[h1] at hh;cases hh
  | eo=>rw[h1] at hh;cases hh
theorem Cq(h:Stream l eof L){item:PM (List Nd)}{e:Int}{m i:Nat}{y:List (List Nd)}{t:Tok}(tX:ag l i≠e)(hh:bj L item e m [] (aB l eof i)=.ok y t):y.isEmpty=false:=by
 cases m with
 | zero=>unfold bj J1 at hh;cases hh
 | succ m=>
  unfold bj at hh;rw[aj,qK h tX,bD] at hh;simp only[Bool.false_eq_true,if_false] at hh;rw[aj] at hh
  cases h2:item (aB l eof i) with
  | ok x w=>
   rw[h2,bD] at hh;have:=F0 m _ _ _ _ hh
   cases y with
   | nil=>simp at this
   | cons a b=>rfl
  | err p=>rw[h2] at hh;cases hh
  | eo=>rw[h2] at hh;cases hh
theorem xJ(h:Stream l eof L){n:Nat}{k e:Int}(Z2:k≠1)(he:e≠1){item:SM (List Nd)}{itemI:PM (List Nd)}(hm:aq item){p:Ps}(hb:p.bad=false)(gm:Good l n {p with pos:=p.pos+1})(hk:ag l p.pos=k)
 (hi:∀q,Good l n q→q.deep=p.deep→ah l eof dF 1 q item itemI) :
 ah l eof dc 3 p (fun p=>(do eT l e;cV l e item (many l) []:SM (List (List Nd))) {p with pos:=p.pos+1}) (bW L n k itemI e true):=by
 have hl:=h.lt hk Z2;have hI:bW L n k itemI e true (aB l eof p.pos)=(bj L itemI e n [] (aB l eof (p.pos+1))).bind (fun x=>if x.isEmpty=true then qz (aB l eof p.pos).start else pure x):=by unfold bW;rw[aj,iH h hk,bD,aj];simp only[true_and]
 by_cases hq:ag l (p.pos+1)=e
 · refine .err (q:={p with pos:=p.pos,bad:=true,wrong:=p.pos}) (a:=[]) ?_ rfl ?_
   · rw[aC]
     have e1:eT l e {p with pos:=p.pos+1}=((),{p with pos:=p.pos,bad:=true,wrong:=p.pos}):=by
      unfold eT;rw[if_pos ⟨hb,hq⟩];unfold db;rw[if_neg (by show ¬p.bad=true;rw[hb];decide)]
      rfl
     rw[e1];rfl
   · rw[hI]
     cases n with
     | zero=>exact absurd gm.2.2.1 (Nat.not_lt_zero _)
     | succ n=>unfold bj;rw[aj,pR h hq];rfl
 · have e1:eT l e {p with pos:=p.pos+1}=((),{p with pos:=p.pos+1}):=by
    unfold eT;rw[if_neg (fun hh=>hq hh.2)]
   have hf:=Au (m:=many l) h he hm (D:=p.deep) (itemI:=itemI) hi gm rfl hq (by unfold many;show _-(p.pos+1)<_;omega) gm.2.2.1 dc.nil;intro hu;have e2:(fun p=>(do eT l e;cV l e item (many l) []:SM (List (List Nd))) {p with pos:=p.pos+1}) p=cV l e item (many l) [] {p with pos:=p.pos+1}:=by show(eT l e>>=fun _=>cV l e item (many l) []) {p with pos:=p.pos+1}=_;rw[aC,e1]
   rw[e2] at hu ⊢;rw[hI];have h2:=hf hu;refine⟨fun hx=>?_,fun hx=>?_⟩
   · have:=h2.1 hx;rw[show(aB l eof (p.pos+1))=aB l eof ({p with pos:=p.pos+1}:Ps).pos from rfl,this];rfl
   · obtain⟨a,b,c,y,f,g⟩:=h2.2 hx;refine⟨by have:p.pos+1+2≤_:=a;omega,b,c,y,?_,g⟩;rw[show(aB l eof (p.pos+1))=aB l eof ({p with pos:=p.pos+1}:Ps).pos from rfl,f,bD,Cq h hq f];rfl
theorem Good.next{n:Nat}{p:Ps}(hg:Good l n p)(h:p.pos<l.length):Good l n {p with pos:=p.pos+1}:=
 ⟨hg.1,h,by have:=hg.2.2.1;show l.length-(p.pos+1)<n;omega,hg.2.2.2⟩
theorem Ec(N:Nat)(fixed:Bool):aq (do let s ←aw l;cr l 7;let v ←cQ l N fixed;pure (made {kind:=9,name:=s} [v]):SM (List Nd)):=
 aq.bind (dT l) fun _=>aq.bind (ey l _) fun _=>aq.bind (gD l N fixed) fun _=>aq.pure _
theorem D5(h:Stream l eof L){n:Nat}{q:Ps}(gq:Good l n q):ah l eof dF 1 q (do let s ←aw l;cr l 7;let v ←cQ l 62 false;pure (made {kind:=9,name:=s} [v])) (kQ L n):=by unfold kQ;refine(cK h gq).seq (fun _=>aq.bind (ey l _) fun _=>aq.bind (gD l 62 false) fun _=>aq.pure _) gq (fun a b q1 jd g1 _ d1=>?_);subst jd;refine(jA h g1 (by decide)).uc (fun _=>aq.bind (gD l 62 false) fun _=>aq.pure _) g1 (fun _ _ q2 _ g2 _ d2=>?_);exact(ez (Q:=dF) (f:=fun v=>made {kind:=9,name:=a} [v]) (g:=fun v=>made {kind:=9,name:=a} [v]) (Aw h n 62 false q2 g2 (by omega)) g2 (fun x y Gf=>dF.made rfl (dc.one Gf))).any
theorem tI(h:Stream l eof L){n:Nat}{p:Ps}(hg:Good l n p):ah l eof dF 0 p (cE l false) (iJ L n):=by
 by_cases hk:ag l p.pos=4
 · have hl:=h.lt hk (by decide);have gm:=hg.next hl;have hs:=xJ (n:=n) (e:=5) (itemI:=kQ L n) h (by decide) (by decide) (Ec 62 false) hg.1 gm hk (fun q gq _=>D5 h gq);refine ah.congr (S':=(do let out ←(fun p=>(do eT l 5;cV l 5 (do let s ←aw l;cr l 7;let v ←cQ l 62 false;pure (made {kind:=9,name:=s} [v])) (many l) []:SM (List (List Nd))) {p with pos:=p.pos+1}:SM (List (List Nd)));pure out.flatten)) (I':=(do let x ←bW L n 4 (kQ L n) 5 true;pure x.flatten)) ?_ ?_ (ez (Q:=dF) (f:=fun x=>x.flatten) (g:=fun x=>x.flatten) hs hg (fun a b jd=>jd.1)).any
   · unfold cE;rw[aC,ig hg.1 hk];rfl
   · unfold iJ;rw[aj];simp only[eU,bD,h.kind,hk,if_true]
 · refine ah.congr (S':=pure []) (I':=pure []) ?_ ?_ (ah.pure hg (dF.refl _))
   · unfold cE;rw[aC,ix hk];rfl
   · unfold iJ;rw[aj];simp only[eU,bD,h.kind,hk,if_false]
end
section
variable{l:List Tok}{eof:Tok}{L:Nat→LR}
def nC(l:List Tok)(fixed:Bool):SM (List Nd):=do
 let s ←aw l
 let a ←nf l
 aL (fixed&&a)
 let v ←cE l false
 pure (made {kind:=10,name:=s} [v])
theorem CE(fixed:Bool):aq (nC l fixed):=
 aq.bind (dT l) fun _=>aq.bind (zL l) fun _=>aq.bind (cL _) fun _=>aq.bind (hH l false) fun _=>aq.pure _
theorem B3(h:Stream l eof L){n:Nat}{fixed:Bool}{q:Ps}(gq:Good l n q):ah l eof dF 1 q (nC l fixed) (do let s ←dQ L;let a ←iJ L n;pure (made {kind:=10,name:=s} [a])):=by unfold nC;refine(cK h gq).seq (fun _=>aq.bind (zL l) fun _=>aq.bind (cL _) fun _=>aq.bind (hH l false) fun _=>aq.pure _) gq (fun a b q1 jd g1 _ d1=>?_);subst jd;refine ah.look _ rfl (ah.BQ (aq.bind (hH l false) fun _=>aq.pure _) (fun _=>?_));exact ez (Q:=dF) (f:=fun v=>made {kind:=10,name:=a} [v]) (g:=fun v=>made {kind:=10,name:=a} [v]) (tI h g1) g1 (fun x y Gf=>dF.made rfl (dc.one Gf))
theorem Lr(h:Stream l eof L){n:Nat}{fixed:Bool}:∀m m' acc acc' p,Good l n p→l.length-p.pos<m→l.length-p.pos<m'→dc acc acc'→ah l eof dc 0 p (dE l 9 (nC l fixed) m acc) (rF L n m' acc'):=by
 intro m
 induction m with
 | zero=>intro m' acc acc' p hg h1;omega
 | succ m ih=>
  intro m' acc acc' p hg h1 h2 rA
  cases m' with
  | zero=>omega
  | succ k=>
   by_cases hq:ag l p.pos=9
   · have hl:=h.lt hq (by decide);have gm:=hg.next hl;refine ah.congr (S':=(dY>>=fun _=>nC l fixed>>=fun x=>dE l 9 (nC l fixed) m (acc++[x]))) (I':=(bE L 9>>=fun _=>(do let s ←dQ L;let a ←iJ L n;pure (made {kind:=10,name:=s} [a]))>>=fun d=>rF L n k (acc'++[d]))) ?_ ?_ ?_
     · conv=>lhs;unfold dE
       rw[ig hg.1 hq];rfl
     · conv=>lhs;unfold rF
       rw[aj];simp only[eU,bD,h.kind,hq,if_true];unfold ko;simp only[aj];rw[iH h hq];simp only[bD,aj]
     · refine(oc (d:=0) h hq ?_).any;exact(B3 h gm).uc (fun x=>gE l (CE fixed) m _) gm (fun a b q jd gq PI _=>ih k _ _ q gq (by have:=gq.2.1;have:p.pos+1+1≤q.pos:=PI;omega) (by have:=gq.2.1;have:p.pos+1+1≤q.pos:=PI;omega) (rA.snoc jd))
   · refine ah.congr (S':=pure acc) (I':=pure acc') ?_ ?_ (ah.pure hg rA)
     · conv=>lhs;unfold dE
       rw[ix hq];rfl
     · conv=>lhs;unfold rF
       rw[aj];simp only[eU,bD,h.kind,if_neg hq]
theorem cx(h:Stream l eof L){n:Nat}{fixed:Bool}{p:Ps}(hg:Good l n p):ah l eof dF 0 p (ao l fixed) (bN L n):=by unfold ao bN;exact ez (Q:=dF) (f:=fun x=>x.flatten) (g:=fun x=>x.flatten) (Lr (fixed:=fixed) h (many l) n [] [] p hg (by unfold many;omega) hg.2.2.1 dc.nil) hg (fun a b jd=>jd.1)
end
section
variable{l:List Tok}{eof:Tok}{L:Nat→LR}
theorem Stream.words(h:Stream l eof L){i:Nat}(hv:aX l i=ly∨aX l i=cN):ag l i=15∨ag l i=18∨ag l i=19:=by
 unfold aX ag at *;by_cases hi:i<l.length
 · rw[List.getElem?_eq_getElem hi] at hv ⊢;exact h.word _ (List.getElem_mem hi) (by simpa using hv)
 · rw[List.getElem?_eq_none (by omega)] at hv;rcases hv with hv|hv
   · exact absurd (congrArg ByteArray.size hv) (by decide)
   · exact absurd (congrArg ByteArray.size hv) (by decide)
theorem ah.text{β γ}{Q:γ→β→Prop}{e:Nat}{p:Ps}{I:PM β}{f:Unit→SM γ}(hm:aq (f ()))(k:ag l p.pos≠18→ag l p.pos≠19→ah l eof Q e p (f ()) I):ah l eof Q e p (gp l>>=f) I:=fun hu=>by
 rw[aC] at hu ⊢;have h1:=(hm (gp l p).2).1 hu;have hb:ag l p.pos≠18∧ag l p.pos≠19:=by unfold gp at h1;dsimp only at h1;simp at h1;exact⟨h1.1.2,h1.2⟩
 have e1:gp l p=((),p):=by unfold gp;simp[hb.1,hb.2]
 rw[e1] at hu ⊢;exact k hb.1 hb.2 hu
theorem qg{p:Ps}{s:ByteArray}(h1:ag l p.pos=15)(h2:aX l p.pos=s):cR l 0 s p=(true,p):=by unfold cR;simp[h1,h2]
theorem tr{p:Ps}{s:ByteArray}(h:¬(ag l p.pos=15∧aX l p.pos=s)):cR l 0 s p=(false,p):=by unfold cR;simp only[Nat.add_zero,h,decide_false]
theorem re(h:Stream l eof L){α β}{R:α→β→Prop}{d:Nat}{p:Ps}{S:SM α}{I:PM β}(hs:ah l eof R d {p with pos:=p.pos+1} S I) :
 ah l eof R (d+1) p (dY>>=fun _=>S) (bm L>>=fun _=>I):=
 ah.congr (S':=fun p=>S {p with pos:=p.pos+1}) rfl rfl (vG h hs)
theorem uU(h:Stream l eof L){n:Nat}{p:Ps}(hg:Good l n p)(hv:aX l p.pos≠ly):ah l eof Eq 1 p (aw l) (dH L):=by refine ah.congr (S':=aw l) (I':=dQ L) rfl ?_ (cK h hg);unfold dH;rw[aj];simp only[eU,bD,h.val,if_neg hv]
def CW(l:List Tok)(n:ByteArray):SM (ByteArray×ByteArray):=do if(←ay l 7)=true then(do let m ←aw l;pure (n,m)) else pure (ByteArray.empty,n)
theorem L4(n:ByteArray):aq (CW l n):=aq.bind (eP l _) fun _=>aq.ite (aq.bind (dT l) fun _=>aq.pure _) (aq.pure _)
theorem Jy(h:Stream l eof L){n:Nat}{p:Ps}(hg:Good l n p)(s:ByteArray):ah l eof Eq 0 p (CW l s) (Gg L s):=by unfold CW Gg;refine(rb (d:=0) (e:=0) h hg (by decide) (fun q gq _ _ _=>?_) (fun _=>ah.pure hg rfl)).any;exact(ez (f:=fun m=>(s,m)) (g:=fun m=>(s,m)) (cK h gq) gq (fun a b jd=>by rw[jd])).any
def yY(l:List Tok)(sub:SM (List Nd)):SM (List Nd):=do
 let k ←fc l 0
 let on ←cR l 0 ly
 if k=15∧on=false then
  let s ←aw l
  let d ←ao l false
  pure (made {kind:=7,name:=s} [d])
 else
  gp l
  let on ←cR l 0 ly
  let t ←(if on=true then(do dY;aw l) else pure ByteArray.empty:SM ByteArray)
  let d ←ao l false
  let x ←sub
  pure (made {kind:=8,text:=t} [d,x])
def sB(L:Nat→LR)(n:Nat)(sub:PM (List Nd)):PM (List Nd):=do
 let t ←eU
 if t.kind=15∧t.val≠ly then(do
  let s ←dH L
  let d ←bN L n
  pure (made {kind:=7,name:=s} [d])) else
 let s ←(if t.val=ly then(do bm L;dQ L) else pure ByteArray.empty:PM ByteArray)
 let d ←bN L n
 let x ←sub
 pure (made {kind:=8,text:=s} [d,x])
def rW(l:List Tok)(sub:SM (List Nd))(t:ByteArray):SM (List Nd):=do
 let d ←ao l false
 let x ←sub
 pure (made {kind:=8,text:=t} [d,x])
def yy(L:Nat→LR)(n:Nat)(sub:PM (List Nd))(s:ByteArray):PM (List Nd):=do
 let d ←bN L n
 let x ←sub
 pure (made {kind:=8,text:=s} [d,x])
theorem sI{sub:SM (List Nd)}(IX:aq sub)(t:ByteArray):aq (rW l sub t):=aq.bind (fI l false) fun _=>aq.bind IX fun _=>aq.pure _
theorem x9(h:Stream l eof L){n:Nat}{sub:SM (List Nd)}{rh:PM (List Nd)}(IX:aq sub){p:Ps}(hg:Good l n p)
 (Ck:∀q,Good l n q→q.deep=p.deep→ah l eof dF 1 q sub rh) (t:ByteArray):ah l eof dF 0 p (rW l sub t) (yy L n rh t):=by
 unfold rW yy;refine(cx h hg).uc (fun _=>aq.bind IX fun _=>aq.pure _) hg (fun a b q jd gq _ dq=>?_);exact(ez (Q:=dF) (f:=fun x=>made {kind:=8,text:=t} [a,x]) (g:=fun x=>made {kind:=8,text:=t} [b,x]) (Ck q gq dq) gq (fun x y Gf=>dF.made rfl (dc.cons jd (dc.one Gf)))).any
theorem Hj(h:Stream l eof L){n:Nat}{sub:SM (List Nd)}{rh:PM (List Nd)}(IX:aq sub){p:Ps}(hg:Good l n p)
 (Ck:∀q,Good l n q→q.deep=p.deep→ah l eof dF 1 q sub rh):ah l eof dF 0 p (yY l sub) (sB L n rh):=by
 have md:=fI l false;by_cases hn:ag l p.pos=15∧aX l p.pos≠ly
 · refine ah.congr (S':=(do let s ←aw l;let d ←ao l false;pure (made {kind:=7,name:=s} [d]))) (I':=(do let s ←dH L;let d ←bN L n;pure (made {kind:=7,name:=s} [d]))) ?_ ?_ ?_
   · unfold yY;simp only[aC,fc,Nat.add_zero,tr (l:=l) (s:=ly) (fun hh=>hn.2 hh.2),hn.1];rfl
   · unfold sB;rw[aj];simp only[eU,bD,h.kind,h.val];rw[if_pos hn]
   · refine((uU h hg hn.2).seq (fun _=>aq.bind md fun _=>aq.pure _) hg (fun a b q jd gq _ _=>?_)).any;subst jd;exact ez (Q:=dF) (f:=fun d=>made {kind:=7,name:=a} [d]) (g:=fun d=>made {kind:=7,name:=a} [d]) (cx h gq) gq (fun x y Gf=>dF.made rfl (dc.one Gf))
 · by_cases hv:aX l p.pos=ly
   · refine ah.congr (S':=(gp l>>=fun _=>(do let on ←cR l 0 ly;let t ←(if on=true then(do dY;aw l) else pure ByteArray.empty:SM ByteArray);rW l sub t))) (I':=((bm L>>=fun _=>dQ L)>>=fun s=>yy L n rh s)) ?_ ?_ ?_
     · unfold yY;rw[aC,aC];show(@ite (SM (List Nd)) (ag l p.pos=15∧(cR l 0 ly p).1=false) _ _ _) _=_
       rw[if_neg (by
        rintro⟨hk,hx⟩
        rw[qg (l:=l) hk hv] at hx;cases hx)]
       rfl
     · unfold sB;rw[aj];simp only[eU,bD,h.kind,h.val];rw[if_neg hn,if_pos hv];rfl
     · refine ah.text (aq.bind (iZ l _ _) fun _=>aq.bind (aq.ite (aq.bind gy fun _=>dT l) (aq.pure _)) fun _=>sI IX _) (fun h8 h9=>?_)
       have hk:ag l p.pos=15:=by
        rcases h.words (.inl hv) with hh|hh|hh
        · exact hh
        · exact absurd hh h8
        · exact absurd hh h9
       refine ah.look true (qg hk hv) ?_;have hl:=h.lt hk (by decide);refine(ah.seq (R:=Eq) (d:=2) (re (d:=1) h (cK h (hg.next hl))) (fun t=>sI IX t) hg (fun a b q jd gq _ dq=>?_)).any;subst jd;exact x9 h IX gq (fun q' g' d'=>Ck q' g' (d'.trans dq)) a
   · have hk:ag l p.pos≠15:=fun hk=>hn ⟨hk,hv⟩;refine ah.congr (S':=(gp l>>=fun _=>(do let on ←cR l 0 ly;let t ←(if on=true then(do dY;aw l) else pure ByteArray.empty:SM ByteArray);rW l sub t))) (I':=yy L n rh ByteArray.empty) ?_ ?_ ?_
     · unfold yY;rw[aC,aC];show(@ite (SM (List Nd)) (ag l p.pos=15∧(cR l 0 ly p).1=false) _ _ _) _=_;rw[if_neg (fun hx=>hk hx.1)]
       rfl
     · unfold sB;rw[aj];simp only[eU,bD,h.kind,h.val];rw[if_neg hn,if_neg hv];rfl
     · refine ah.text (aq.bind (iZ l _ _) fun _=>aq.bind (aq.ite (aq.bind gy fun _=>dT l) (aq.pure _)) fun _=>sI IX _) (fun _ _=>?_);refine ah.look false (tr (fun hh=>hv hh.2)) ?_;exact ah.congr (S':=rW l sub ByteArray.empty) rfl rfl (x9 h IX hg Ck _)
def Qv(l:List Tok)(sub:SM (List Nd)):SM (List Nd):=do
 let n ←aw l
 let an ←CW l n
 let args ←cE l false
 let FX ←ao l false
 let x ←(fun p=>if p.bad=false∧ag l p.pos=12 then sub p else([],p):SM (List Nd))
 pure (made {kind:=6,name:=an.2,alias:=an.1} [args,FX,x])
def NY(l:List Tok)(sub:SM (List Nd)):SM (List Nd):=fun p=>if p.bad=false∧ag l p.pos=12 then sub p else([],p)
theorem yJ{sub:SM (List Nd)}(hs:aq sub):aq (NY l sub):=fun p=>by
 unfold NY;split
 · exact hs p
 · exact⟨id,fun h=>⟨h,rfl⟩⟩
theorem O3(h:Stream l eof L){n:Nat}{sub:SM (List Nd)}{rh:PM (List Nd)}{p:Ps}(hg:Good l n p)
 (Ck:ah l eof dF 1 p sub rh):ah l eof dF 0 p (NY l sub) (PU rh):=by
 by_cases hk:ag l p.pos=12
 · refine ah.congr (S':=sub) (I':=rh) ?_ ?_ Ck.any
   · unfold NY;rw[if_pos ⟨hg.1,hk⟩]
   · unfold PU;rw[aj];simp only[eU,bD,h.kind,hk,if_true]
 · refine ah.congr (S':=pure []) (I':=pure []) ?_ ?_ (ah.pure hg (dF.refl _))
   · unfold NY;rw[if_neg (fun hh=>hk hh.2)];rfl
   · unfold PU;rw[aj];simp only[eU,bD,h.kind,if_neg hk]
theorem Jz(h:Stream l eof L){n:Nat}{sub:SM (List Nd)}{rh:PM (List Nd)}(IX:aq sub){p:Ps}(hg:Good l n p)
 (Ck:∀q,Good l n q→q.deep=p.deep→ah l eof dF 1 q sub rh):ah l eof dF 1 p (Qv l sub) (uA L n rh):=by
 have md:=fI l false;have ma:=hH l false;refine ah.congr (S':=(do let n ←aw l;let an ←CW l n;let args ←cE l false;let FX ←ao l false;let x ←NY l sub;pure (made {kind:=6,name:=an.2,alias:=an.1} [args,FX,x]))) rfl rfl ?_
 · unfold uA;refine(cK h hg).seq (fun _=>aq.bind (L4 _) fun _=>aq.bind ma fun _=>aq.bind md fun _=>aq.bind (yJ IX) fun _=>aq.pure _) hg (fun s s' q1 e1 g1 _ d1=>?_);subst e1;refine(Jy h g1 s).uc (fun _=>aq.bind ma fun _=>aq.bind md fun _=>aq.bind (yJ IX) fun _=>aq.pure _) g1 (fun an an' q2 e2 g2 _ d2=>?_);subst e2;refine(tI h g2).uc (fun _=>aq.bind md fun _=>aq.bind (yJ IX) fun _=>aq.pure _) g2 (fun a b q3 jd g3 _ d3=>?_);refine(cx h g3).uc (fun _=>aq.bind (yJ IX) fun _=>aq.pure _) g3 (fun c d q4 V4 g4 _ d4=>?_);exact ez (Q:=dF) (f:=fun x=>made {kind:=6,name:=an.2,alias:=an.1} [a,c,x]) (g:=fun x=>made {kind:=6,name:=an.2,alias:=an.1} [b,d,x]) (O3 h g4 (Ck q4 g4 (by omega))) g4 (fun x y Gf=>dF.made rfl (dc.cons jd (dc.cons V4 (dc.one Gf))))
theorem B6(h:Stream l eof L){n:Nat}{sub:SM (List Nd)}{rh:PM (List Nd)}(IX:aq sub){p:Ps}(hg:Good l n p)
 (Ck:∀q,Good l n q→q.deep=p.deep→ah l eof dF 1 q sub rh):ah l eof dF 1 p (cG l sub) (iK L n rh):=by
 by_cases hk:ag l p.pos=6
 · have hl:=h.lt hk (by decide);refine ah.congr (S':=(dY>>=fun _=>yY l sub)) (I':=(bE L 6>>=fun _=>sB L n rh)) ?_ ?_ ?_
   · unfold cG;rw[aC,ig hg.1 hk];rfl
   · unfold iK;rw[aj];simp only[eU,bD,h.kind,hk,if_true];rfl
   · exact(oc (d:=0) h hk (Hj h IX (hg.next hl) Ck)).nH (fun _ _ h=>h) (by omega)
 · refine ah.congr (S':=Qv l sub) (I':=uA L n rh) ?_ ?_ (Jz h IX hg Ck)
   · unfold cG;rw[aC,ix hk];rfl
   · unfold iK;rw[aj];simp only[eU,bD,h.kind,if_neg hk]
end
end Go.Proofs.YtnpjmhodfdgloaaGreatDoor
