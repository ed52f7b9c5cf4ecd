/- Part of the proof. -/
import Derived.Test.YtnpjmhodfdgloaaGreatDoorQ33
set_option linter.unusedVariables false
set_option linter.unusedSimpArgs false
namespace Go.Proofs.YtnpjmhodfdgloaaGreatDoor
set_option maxRecDepth 100000
set_option maxHeartbeats 32000000
open Go.RowKit
attribute [local go_sem ↓] Go.wp_at_zero Go.wp_at_succ
theorem Cn:(Tryz.prog.info? 363).map (fun i=>(i.zero,i.size,i.bytes))=some (some xB,1,8):=by kernel_rfl
theorem CS(R:au (List Nd)):gR (oQ R):=(gR.ptr _).map
def jl(c:Cx)(R:au (List Nd))(T:TypeId)(item:PM (List Nd))(close:Int)(m0:Nat)(wB:World)(r':PR (List (List Nd)))(g:Nat)(v:Value)(wr:World):Prop:=
 ∃acc t' vs a k,acc.length+g≤m0∧v=.slice a acc.length k∧Hd (bj (rd c.s) item close g acc t'=r')∧Hd (gb c t' wr)∧Hd (wr.ownsRow wB.heap.size T 1 v acc.length vs)∧Hd (bP R wB.heap.size wr v.ownBlock vs acc)∧Hd (Sm [c.pb,c.vb] wB wr)
theorem yR(c:Cx)(hL:dg c)(n:Nat)(hm:n≤1099511627776)(hV:aS c 136 #[.pointer (some ⟨c.pb,0,none⟩),.bool false] (bo (rd c.s) n false) (cH n)):aS c 180 #[.pointer (some ⟨c.pb,0,none⟩),.bool false] (bE (rd c.s) 12>>=fun _=>bj (rd c.s) (fx (rd c.s) (bo (rd c.s) n false)) 14 n []>>=fun l=>pure (made {kind:=18} l)) (yM (cH n)):=by
 have HE:=ae (eB c hL 12);have Km:=ae (od c hL 14);have HF:=ae (o9 c hL n false hV);have ic:=ae (vk c);have jk:=ae pH;have HM:=ae hm;clear hL hm hV;refine fj fun t w r (bH:Hd _) (HO:Hd _) h=>?_;have aD:=ae h;have c6:=h.c6;clear h;go_enter Tryz.func180,Tryz.ntmps180;go_wp2_with fail;refine(HE.o t _ aD.o (aH bH HO)).mono ?_;intro e w1 h1;rcases h1.cases (aH bH HO) with⟨x1,t1,hx,rfl,cA,av⟩|⟨p,v,u,hx,rfl,HU,av⟩
 rotate_left
 · have fv:=ae (bc bH hx);clear hx h1 c6;unfold kg;go_wp2_with fail;go_returns;exact aA fv.o sr (HU.o.sm ((Sm.refl [] _).alloc _) (by simp) lr) (av.o.alloc _)
 have dZ:=bK bH hx;clear hx h1 bH c6;unfold kg;have Bu:=ae (aH dZ HO);go_wp2_with fail;obtain⟨wB,PO⟩:∃wB,wB=w1.alloc (aU x1):=⟨_,rfl⟩;have R4:Hd (Sm [] w1 wB):=by rw[PO];exact sr.alloc _
 have HZ:Hd (c.pb<w.heap.size∧c.vb<w.heap.size∧w.heap.size≤w1.heap.size∧w1.heap.size≤wB.heap.size):=⟨aD.o.lt,aD.o.wh,av.o.size,R4.o.size⟩;have Zw:Hd (w1.heap.size+1=wB.heap.size):=by unfold Hd;rw[PO];simp
 unfold aU at PO;rw[←PO];clear PO;obtain⟨r',nj⟩:∃r',bj (rd c.s) (fx (rd c.s) (bo (rd c.s) n false)) 14 n [] t1=r':=⟨_,rfl⟩;have dN:=ae nj;have oB:Hd (r'≠.eo):=by have:=Bu.o;rw[nj] at this;exact this
 have HK:Hd (∀l t',r'=.ok l t'→r=.ok (made {kind:=18} l) t'):=fun l t' e=>(bK dZ (nj.trans e)).out.symm;have Ib:Hd (∀p,r'=.err p→r=.err p):=fun p e=>bc dZ (nj.trans e);clear nj Bu dZ
 go_loopg [9] n (fun g v wr=>jl c (oQ (cH n)) 363 (fx (rd c.s) (bo (rd c.s) n false)) 14 n wB r' g v wr)
 case atStart=>
  unfold jl;refine⟨[],t1,[],_,_,by simp,rfl,dN,cA.o.cI (R4.o.alloc _),?_,.nil,sr.alloc _⟩
  first
  | exact World.ownsRow_made (base:=wB.heap.size) (size:=1) wB #[] 0 lr (by simp[maxLen]) rfl
  | (rw[Zw.o];exact World.ownsRow_made (base:=wB.heap.size) (size:=1) wB #[] 0 lr (by simp[maxLen]) rfl)
 case round=>
  unfold jl at hrel;obtain⟨acc,t2,vs,a,k,hlen,rfl,HI,aW,mx,mX,ax⟩:=hrel
  obtain⟨m',rfl⟩:∃m',gk=m'+1:=by
   cases gk with
   | zero=>exact absurd HI.o.symm oB.o
   | succ m'=>exact⟨m',rfl⟩
  have px:Hd ((ft (rd c.s) 14>>=fun b=>if b=true then pure acc else(fx (rd c.s) (bo (rd c.s) n false))>>=fun x=>bj (rd c.s) (fx (rd c.s) (bo (rd c.s) n false)) 14 m' (acc++[x])) t2=r'):=HI.o;clear HI;have Ae:Hd (Sm [c.pb,c.vb] w wr):=(av.o.trans R4.o.of_nil).trans ax.o;go_wp2_with fail;refine(Km.o t2 _ aW.o (aH px oB)).mono ?_;intro e w3 h1;rcases h1.cases (aH px oB) with⟨x3,t3,v3,hx,rfl,ib,bT,aO⟩|⟨p,v,u,hx,rfl,HU,aO⟩
  rotate_left
  · have fv:=ae (Ib.o _ (bc px hx));clear hx h1;go_wp2_with fail;go_returns;exact aA fv.o Ae.o HU.o aO.o
  have hv:v3=.bool x3:=ib.o;subst hv;have FA:=bK px hx;clear hx h1 px;have tO:Hd (∀q,q∈[c.pb,c.vb]→q<wB.heap.size):=fun q hq=>by have:=HZ.o;simp at hq;omega
  cases x3 with
  | true=>
   have Ab:Hd (r=.ok (made {kind:=18} acc) t3):=HK.o acc t3 FA.o.symm
   have Hz:Hd ((au.list (oQ (cH n))).rd w.heap.size w3.heap.size w3 (.slice a acc.length k) acc):=
    (au.list _).wide (cW (er mx.o aO.o tO.o) (mX.o.sm aO.o tO.o)) (by have:=HZ.o;omega) lr
   clear FA;go_wp2_with fail;refine(ic.o t3 _ _ bT.o).mono ?_;rintro e wl ⟨lb,i,j2,sp,rfl,cO,lC,fM⟩;go_wp2_with fail;refine(jk.o _ ⟨#[]⟩ (some ⟨lb,0,none⟩) a acc.length k _ (ai _ _)).mono ?_;rintro e wn ⟨nb,ks,rfl,dC,fO,fH⟩;have HQ:=dP fO;go_wp2_with fail;go_returns;have y1:=(Ae.o.trans aO.o).size;have zl:=cO.size;have zn:=fH;simp at zn
   exact aG Ab.o ((Ae.o.trans aO.o).trans (cO.trans HQ.o).of_nil) (CK (cH n) dC (by omega) (lt_of_block dC) (bY fM HQ.o (by omega) lr) ((au.list _).wide (au.sm Hz.o (cO.trans HQ.o) lr (fun q hq=>by cases hq)) lr (cO.trans HQ.o).size)) (bT.o.cI (cO.trans HQ.o))
  | false=>
   have wJ:Hd (((fx (rd c.s) (bo (rd c.s) n false))>>=fun x=>bj (rd c.s) (fx (rd c.s) (bo (rd c.s) n false)) 14 m' (acc++[x])) t3=r'):=FA.o;clear FA;go_wp2_with fail;refine(HF.o t3 _ bT.o (aH wJ oB)).mono ?_;intro e w4 h1;rcases h1.cases (aH wJ oB) with⟨x4,t4,v4,hx,rfl,jc,dJ,cy⟩|⟨p,v,u,hx,rfl,HU,cy⟩
   rotate_left
   · have fv:=ae (Ib.o _ (bc wJ hx));clear hx h1;go_wp2_with fail;go_returns;exact aA fv.o (Ae.o.trans aO.o) HU.o cy.o
   have vV:=bK wJ hx;obtain⟨ab,hv⟩:=(CS _).out jc.o;subst hv;have o6:=tO.o;have vl:wB.heap.size≤w3.heap.size:=by have h5:=ax.o.size;have h6:=aO.o.size;omega
   have Gd:w3.heap.size≤w4.heap.size:=cy.o.size;have lT:=er mx.o aO.o o6;have how:=er lT cy.o o6;have xg:=ae (mX.o.sm aO.o o6);have xh:=ae lT;have HL:=ae vl;have MN:=ae Gd;have wL:=ae hlen;have de:(acc.length+1)*8≤140737488355328:=by have:=HM.o;omega
   clear hx h1 wJ lT o6;go_wp2_with (at_builtin;refine gH _ rfl _ _ _ rfl 363 _ 1 8 Tryz.underlying362 Cn rfl (by omega) (by omega) _ acc.length vs rfl how _ rfl rfl (by simp[Value.oneCell']) de (by omega) ?_);intro g dM w' aQ (HG:Hd _) bV ea;have qU:Hd (w'.ownsRow wB.heap.size 363 1 (.slice (some ⟨g,0,none⟩) (acc.length+1) dM) (acc.length+1) (vs++[.pointer ab])):=by unfold Hd;simpa using aQ
   have bX:Hd (Value.ownBlock (.slice a acc.length k)=some g∨w4.heap.size≤g):=bV.imp id (fun e=>by omega);have iD:=ae how;clear aQ bV ea how de;go_wp2_with fail;go_roundg m'
   case measure=>omega
   case rel=>
    unfold jl;have iq:∀q,Value.ownBlock (.slice a acc.length k)=some q→wB.heap.size≤q:=fun q hq=>(iD.o.lt q hq).1;refine⟨acc++[x4],t4,vs++[.pointer ab],some ⟨g,0,none⟩,dM,by have:=wL.o;simp;omega,by simp,vV,?_,?_,?_,?_⟩
    · exact dJ.o.grown aD.o HG.o (fun q hq=>by have:=iq q hq;have:=HZ.o;omega)
    · have:=qU.out;unfold Hd;simpa using this
    · refine bP.push (W:=w4) xg.o MN.o (fun q q1 q2=>cy.o.block q q2 (fun hq=>by have:=tO.o q hq;omega)) xh.o HG.o bX.o HL.o lr lr jc.o
    · exact((ax.o.trans aO.o).trans cy.o).grown HG.o (fun q hq=>.inl (iq q hq))
theorem zT(c:Cx)(hL:dg c)(n:Nat)(hm:n≤1099511627776)(hV:aS c 136 #[.pointer (some ⟨c.pb,0,none⟩),.bool true] (bo (rd c.s) n true) (cH n)):aS c 180 #[.pointer (some ⟨c.pb,0,none⟩),.bool true] (bE (rd c.s) 12>>=fun _=>bj (rd c.s) (fx (rd c.s) (bo (rd c.s) n true)) 14 n []>>=fun l=>pure (made {kind:=18} l)) (yM (cH n)):=by
 have HE:=ae (eB c hL 12);have Km:=ae (od c hL 14);have HF:=ae (o9 c hL n true hV);have ic:=ae (vk c);have jk:=ae pH;have HM:=ae hm;clear hL hm hV;refine fj fun t w r (bH:Hd _) (HO:Hd _) h=>?_;have aD:=ae h;have c6:=h.c6;clear h;go_enter Tryz.func180,Tryz.ntmps180;go_wp2_with fail;refine(HE.o t _ aD.o (aH bH HO)).mono ?_;intro e w1 h1;rcases h1.cases (aH bH HO) with⟨x1,t1,hx,rfl,cA,av⟩|⟨p,v,u,hx,rfl,HU,av⟩
 rotate_left
 · have fv:=ae (bc bH hx);clear hx h1 c6;unfold kg;go_wp2_with fail;go_returns;exact aA fv.o sr (HU.o.sm ((Sm.refl [] _).alloc _) (by simp) lr) (av.o.alloc _)
 have dZ:=bK bH hx;clear hx h1 bH c6;unfold kg;have Bu:=ae (aH dZ HO);go_wp2_with fail;obtain⟨wB,PO⟩:∃wB,wB=w1.alloc (aU x1):=⟨_,rfl⟩;have R4:Hd (Sm [] w1 wB):=by rw[PO];exact sr.alloc _
 have HZ:Hd (c.pb<w.heap.size∧c.vb<w.heap.size∧w.heap.size≤w1.heap.size∧w1.heap.size≤wB.heap.size):=⟨aD.o.lt,aD.o.wh,av.o.size,R4.o.size⟩;have Zw:Hd (w1.heap.size+1=wB.heap.size):=by unfold Hd;rw[PO];simp
 unfold aU at PO;rw[←PO];clear PO;obtain⟨r',nj⟩:∃r',bj (rd c.s) (fx (rd c.s) (bo (rd c.s) n true)) 14 n [] t1=r':=⟨_,rfl⟩;have dN:=ae nj;have oB:Hd (r'≠.eo):=by have:=Bu.o;rw[nj] at this;exact this
 have HK:Hd (∀l t',r'=.ok l t'→r=.ok (made {kind:=18} l) t'):=fun l t' e=>(bK dZ (nj.trans e)).out.symm;have Ib:Hd (∀p,r'=.err p→r=.err p):=fun p e=>bc dZ (nj.trans e);clear nj Bu dZ
 go_loopg [9] n (fun g v wr=>jl c (oQ (cH n)) 363 (fx (rd c.s) (bo (rd c.s) n true)) 14 n wB r' g v wr)
 case atStart=>
  unfold jl;refine⟨[],t1,[],_,_,by simp,rfl,dN,cA.o.cI (R4.o.alloc _),?_,.nil,sr.alloc _⟩
  first
  | exact World.ownsRow_made (base:=wB.heap.size) (size:=1) wB #[] 0 lr (by simp[maxLen]) rfl
  | (rw[Zw.o];exact World.ownsRow_made (base:=wB.heap.size) (size:=1) wB #[] 0 lr (by simp[maxLen]) rfl)
 case round=>
  unfold jl at hrel;obtain⟨acc,t2,vs,a,k,hlen,rfl,HI,aW,mx,mX,ax⟩:=hrel
  obtain⟨m',rfl⟩:∃m',gk=m'+1:=by
   cases gk with
   | zero=>exact absurd HI.o.symm oB.o
   | succ m'=>exact⟨m',rfl⟩
  have px:Hd ((ft (rd c.s) 14>>=fun b=>if b=true then pure acc else(fx (rd c.s) (bo (rd c.s) n true))>>=fun x=>bj (rd c.s) (fx (rd c.s) (bo (rd c.s) n true)) 14 m' (acc++[x])) t2=r'):=HI.o;clear HI;have Ae:Hd (Sm [c.pb,c.vb] w wr):=(av.o.trans R4.o.of_nil).trans ax.o;go_wp2_with fail;refine(Km.o t2 _ aW.o (aH px oB)).mono ?_;intro e w3 h1;rcases h1.cases (aH px oB) with⟨x3,t3,v3,hx,rfl,ib,bT,aO⟩|⟨p,v,u,hx,rfl,HU,aO⟩
  rotate_left
  · have fv:=ae (Ib.o _ (bc px hx));clear hx h1;go_wp2_with fail;go_returns;exact aA fv.o Ae.o HU.o aO.o
  have hv:v3=.bool x3:=ib.o;subst hv;have FA:=bK px hx;clear hx h1 px;have tO:Hd (∀q,q∈[c.pb,c.vb]→q<wB.heap.size):=fun q hq=>by have:=HZ.o;simp at hq;omega
  cases x3 with
  | true=>
   have Ab:Hd (r=.ok (made {kind:=18} acc) t3):=HK.o acc t3 FA.o.symm
   have Hz:Hd ((au.list (oQ (cH n))).rd w.heap.size w3.heap.size w3 (.slice a acc.length k) acc):=
    (au.list _).wide (cW (er mx.o aO.o tO.o) (mX.o.sm aO.o tO.o)) (by have:=HZ.o;omega) lr
   clear FA;go_wp2_with fail;refine(ic.o t3 _ _ bT.o).mono ?_;rintro e wl ⟨lb,i,j2,sp,rfl,cO,lC,fM⟩;go_wp2_with fail;refine(jk.o _ ⟨#[]⟩ (some ⟨lb,0,none⟩) a acc.length k _ (ai _ _)).mono ?_;rintro e wn ⟨nb,ks,rfl,dC,fO,fH⟩;have HQ:=dP fO;go_wp2_with fail;go_returns;have y1:=(Ae.o.trans aO.o).size;have zl:=cO.size;have zn:=fH;simp at zn
   exact aG Ab.o ((Ae.o.trans aO.o).trans (cO.trans HQ.o).of_nil) (CK (cH n) dC (by omega) (lt_of_block dC) (bY fM HQ.o (by omega) lr) ((au.list _).wide (au.sm Hz.o (cO.trans HQ.o) lr (fun q hq=>by cases hq)) lr (cO.trans HQ.o).size)) (bT.o.cI (cO.trans HQ.o))
  | false=>
   have wJ:Hd (((fx (rd c.s) (bo (rd c.s) n true))>>=fun x=>bj (rd c.s) (fx (rd c.s) (bo (rd c.s) n true)) 14 m' (acc++[x])) t3=r'):=FA.o;clear FA;go_wp2_with fail;refine(HF.o t3 _ bT.o (aH wJ oB)).mono ?_;intro e w4 h1;rcases h1.cases (aH wJ oB) with⟨x4,t4,v4,hx,rfl,jc,dJ,cy⟩|⟨p,v,u,hx,rfl,HU,cy⟩
   rotate_left
   · have fv:=ae (Ib.o _ (bc wJ hx));clear hx h1;go_wp2_with fail;go_returns;exact aA fv.o (Ae.o.trans aO.o) HU.o cy.o
   have vV:=bK wJ hx;obtain⟨ab,hv⟩:=(CS _).out jc.o;subst hv;have o6:=tO.o;have vl:wB.heap.size≤w3.heap.size:=by have h5:=ax.o.size;have h6:=aO.o.size;omega
   have Gd:w3.heap.size≤w4.heap.size:=cy.o.size;have lT:=er mx.o aO.o o6;have how:=er lT cy.o o6;have xg:=ae (mX.o.sm aO.o o6);have xh:=ae lT;have HL:=ae vl;have MN:=ae Gd;have wL:=ae hlen;have de:(acc.length+1)*8≤140737488355328:=by have:=HM.o;omega
   clear hx h1 wJ lT o6;go_wp2_with (at_builtin;refine gH _ rfl _ _ _ rfl 363 _ 1 8 Tryz.underlying362 Cn rfl (by omega) (by omega) _ acc.length vs rfl how _ rfl rfl (by simp[Value.oneCell']) de (by omega) ?_);intro g dM w' aQ (HG:Hd _) bV ea;have qU:Hd (w'.ownsRow wB.heap.size 363 1 (.slice (some ⟨g,0,none⟩) (acc.length+1) dM) (acc.length+1) (vs++[.pointer ab])):=by unfold Hd;simpa using aQ
   have bX:Hd (Value.ownBlock (.slice a acc.length k)=some g∨w4.heap.size≤g):=bV.imp id (fun e=>by omega);have iD:=ae how;clear aQ bV ea how de;go_wp2_with fail;go_roundg m'
   case measure=>omega
   case rel=>
    unfold jl;have iq:∀q,Value.ownBlock (.slice a acc.length k)=some q→wB.heap.size≤q:=fun q hq=>(iD.o.lt q hq).1;refine⟨acc++[x4],t4,vs++[.pointer ab],some ⟨g,0,none⟩,dM,by have:=wL.o;simp;omega,by simp,vV,?_,?_,?_,?_⟩
    · exact dJ.o.grown aD.o HG.o (fun q hq=>by have:=iq q hq;have:=HZ.o;omega)
    · have:=qU.out;unfold Hd;simpa using this
    · refine bP.push (W:=w4) xg.o MN.o (fun q q1 q2=>cy.o.block q q2 (fun hq=>by have:=tO.o q hq;omega)) xh.o HG.o bX.o HL.o lr lr jc.o
    · exact((ax.o.trans aO.o).trans cy.o).grown HG.o (fun q hq=>.inl (iq q hq))
theorem Eh(c:Cx)(hL:dg c)(n:Nat)(hm:n≤1099511627776)(b:Bool)(hV:aS c 136 #[.pointer (some ⟨c.pb,0,none⟩),.bool b] (bo (rd c.s) n b) (cH n)):aS c 179 #[.pointer (some ⟨c.pb,0,none⟩),.bool b] (bW (rd c.s) n 10 (bo (rd c.s) n b) 11 false>>=fun l=>pure (made {kind:=17} l)) (J7 (cH n)):=by
 cases b
 · exact AX c hL n hm hV
 · exact CN c hL n hm hV
theorem AY(c:Cx)(hL:dg c)(n:Nat)(hm:n≤1099511627776)(b:Bool)(hV:aS c 136 #[.pointer (some ⟨c.pb,0,none⟩),.bool b] (bo (rd c.s) n b) (cH n)):aS c 180 #[.pointer (some ⟨c.pb,0,none⟩),.bool b] (bE (rd c.s) 12>>=fun _=>bj (rd c.s) (fx (rd c.s) (bo (rd c.s) n b)) 14 n []>>=fun l=>pure (made {kind:=18} l)) (yM (cH n)):=by
 cases b
 · exact yR c hL n hm hV
 · exact zT c hL n hm hV
theorem B0(c:Cx)(hL:dg c)(n:Nat)(hm:n≤1099511627776)(b:Bool)(hV:aS c 136 #[.pointer (some ⟨c.pb,0,none⟩),.bool b] (bo (rd c.s) n b) (cH n)):aS c 136 #[.pointer (some ⟨c.pb,0,none⟩),.bool b] (bo (rd c.s) (n+1) b) (cH (n+1)):=by
 have ZD:=ae (Eh c hL n hm b hV);have Kk:=ae (AY c hL n hm b hV);have K6:=ae (mK c hL (fun s=>made {kind:=14,text:=s} []) Hm (fun _ _ _ _ _ _ _ _ ho g1 g2 hl=>LF ho g1 g2 hl rfl));have HVA:=ae (yS c hL);have vU:=ae (jf c hL);have M0:=ae (oz c);have ic:=ae (vk c);have FB:=ae AV;have Bv:=ae yL;have DG:=ae zR;have rm:=ae wi;clear hL hm hV;intro t w h ho;obtain⟨r,hr⟩:∃r,bo (rd c.s) (n+1) b t=r:=⟨_,rfl⟩;rw[hr] at ho ⊢;unfold bo at hr;rw[dd] at hr;have HO:=ae ho;have aD:=ae h;have c5:=h.c5;have c6:=h.c6;have c7:=h.c7;have c8:=h.c8;by_cases jq:t.kind=10
 · skip
   rw[if_pos jq] at hr;have bH:=ae hr;have Kd:(t.kind==10)=true:=by simpa using jq
   clear h ho hr jq;go_enter Tryz.func136,Tryz.ntmps136;go_wp2_with fail;have ud:=ae (show _≠PR.eo from(fun e=>HO.o (bH.o.symm.trans e)));refine(ZD.o t _ (aD.o.cI ((Sm.refl [] w).alloc (aU t))) ud.o).mono ?_;intro e w2 h1;rcases h1.cases ud.o with⟨x1,t1,v1,hx,rfl,jE,cA,av⟩|⟨p,v,u,hx,rfl,HU,av⟩
   · have HX:=ae (bH.o.symm.trans hx);clear hx h1;go_wp2_with fail;go_returns;exact aG HX.o (((Sm.refl [] w).alloc (aU t)).of_nil.trans av.o) (.inr (.inr (.inr (.inr (.inr (.inr (.inl ⟨_,rfl,au.wide _ jE.o (by simp) lr⟩))))))) cA.o
   · have HX:=ae (bH.o.symm.trans hx);clear hx h1;go_wp2_with fail;go_returns;exact aA HX.o (((Sm.refl [] w).alloc (aU t)).of_nil) HU.o av.o
 by_cases lq:t.kind=12
 · skip
   rw[if_neg jq,if_pos lq] at hr;have bH:=ae hr;have Kd:(t.kind==10)=false:=by simpa using jq
   have Ke:(t.kind==12)=true:=by simpa using lq
   clear h ho hr jq lq;go_enter Tryz.func136,Tryz.ntmps136;go_wp2_with fail;have ud:=ae (show _≠PR.eo from(fun e=>HO.o (bH.o.symm.trans e)));refine(Kk.o t _ (aD.o.cI ((Sm.refl [] w).alloc (aU t))) ud.o).mono ?_;intro e w2 h1;rcases h1.cases ud.o with⟨x1,t1,v1,hx,rfl,jE,cA,av⟩|⟨p,v,u,hx,rfl,HU,av⟩
   · have HX:=ae (bH.o.symm.trans hx);clear hx h1;go_wp2_with fail;go_returns;exact aG HX.o (((Sm.refl [] w).alloc (aU t)).of_nil.trans av.o) (.inr (.inr (.inr (.inr (.inr (.inr (.inr ⟨_,rfl,au.wide _ jE.o (by simp) lr⟩))))))) cA.o
   · have HX:=ae (bH.o.symm.trans hx);clear hx h1;go_wp2_with fail;go_returns;exact aA HX.o (((Sm.refl [] w).alloc (aU t)).of_nil) HU.o av.o
 by_cases sv:t.kind=16
 · skip
   rw[if_neg jq,if_neg lq,if_pos sv] at hr;have bH:=ae hr;have Kd:(t.kind==10)=false:=by simpa using jq
   have Ke:(t.kind==12)=false:=by simpa using lq
   have Rq:(t.kind==16)=true:=by simpa using sv
   clear h ho hr jq lq sv;go_enter Tryz.func136,Tryz.ntmps136;go_wp2_with fail;have nT:=lP bH HO;refine(vU.o t _ (aD.o.cI (by(repeat(first| exact sr|assumption|refine Sm.alloc ?_ _|refine Sm.drew ?_|refine Sm.drewN ?_ _)))) nT.o).mono ?_;intro e w2 h1;rcases h1.cases nT.o with⟨u,hx,rfl,aW,ax⟩|⟨p,v,hx,rfl,HU,_,ax⟩
   rotate_left
   · have fv:=ae (jK bH hx);clear hx h1;go_wp2_with fail;go_returns;exact aA fv.o (sr.alloc _) HU.o ax.o
   have dN:=lQ bH hx;have Ih:Hd (Sm [c.pb,c.vb] w w2):=(sr.alloc (aU t)).trans ax.o;have zC:w.heap.size∉[c.pb,c.vb]:=fun hm=>by have a1:=aD.o.lt;have a2:=aD.o.wh;simp at hm;omega
   have b1:w2.cell? ⟨w.heap.size,1,none⟩=some (.int .i64 (t.start:Int)):=ax.o.keeps (cell_of (ai w (aU t)) rfl) zC;have b3:w2.cell? ⟨w.heap.size,3,none⟩=some (.string t.val):=ax.o.keeps (cell_of (ai w (aU t)) rfl) zC;clear hx h1 zC;go_wp2_with fail
   go_region_held3 (fun W=>W.cell? ⟨w.heap.size,1,none⟩=some (.int .i64 (t.start:Int))∧W.cell? ⟨w.heap.size,3,none⟩=some (.string t.val)) (go_keep)
    (first
     | (
      go_at_call 44;refine(ic.o u _ _ (aW.o.cI ?_)).mono ?_;(repeat(first| exact sr|assumption|refine Sm.alloc ?_ _|refine Sm.drew ?_|refine Sm.drewN ?_ _));rintro e wl ⟨lb,i,j,sp,rfl,cO,lC,fM⟩
      have js:=(show Sm [] w2 _ from(by(repeat(first| exact sr|assumption|refine Sm.alloc ?_ _|refine Sm.drew ?_|refine Sm.drewN ?_ _)))).trans cO
      have q1:=js.keeps b1 (by simp);have q3:=js.keeps b3 (by simp))
     | (
      go_at_call 181;refine(FB.o _ ⟨#[]⟩ (some ⟨lb,0,none⟩) t.val _ ?_).mono ?_;exact ai _ _;rintro e wn ⟨nb,ks,rfl,dC,fO,fH⟩
      have mE:Sm [] wl wn:=sG fO (by(repeat(first| exact sr|assumption|refine Sm.alloc ?_ _|refine Sm.drew ?_|refine Sm.drewN ?_ _))) lr
      have u1:=mE.keeps q1 (by simp);have u3:=mE.keeps q3 (by simp)))
   all_goals go_wp2_with fail;go_returns;have g1:=Ih.o.size;have g2:=js.size;have g3:=fH;have g4:=lC;simp at g3 g4;exact aG (show r=.ok _ _ from dN.o.symm) (Ih.o.trans (js.trans mE).of_nil) (.inr (.inl ⟨_,rfl,(So dC (by omega) (lt_of_block dC) (bY fM mE (by omega) lr) rfl)⟩)) (aW.o.cI (js.trans mE))
 by_cases ue:t.kind=17
 · skip
   rw[if_neg jq,if_neg lq,if_neg sv,if_pos ue] at hr;have bH:=ae hr;have Kd:(t.kind==10)=false:=by simpa using jq
   have Ke:(t.kind==12)=false:=by simpa using lq
   have Rq:(t.kind==16)=false:=by simpa using sv
   have Tp:(t.kind==17)=true:=by simpa using ue
   clear h ho hr jq lq sv ue;go_enter Tryz.func136,Tryz.ntmps136;go_wp2_with fail;have nT:=lP bH HO;refine(vU.o t _ (aD.o.cI (by(repeat(first| exact sr|assumption|refine Sm.alloc ?_ _|refine Sm.drew ?_|refine Sm.drewN ?_ _)))) nT.o).mono ?_;intro e w2 h1;rcases h1.cases nT.o with⟨u,hx,rfl,aW,ax⟩|⟨p,v,hx,rfl,HU,_,ax⟩
   rotate_left
   · have fv:=ae (jK bH hx);clear hx h1;go_wp2_with fail;go_returns;exact aA fv.o (sr.alloc _) HU.o ax.o
   have dN:=lQ bH hx;have Ih:Hd (Sm [c.pb,c.vb] w w2):=(sr.alloc (aU t)).trans ax.o;have zC:w.heap.size∉[c.pb,c.vb]:=fun hm=>by have a1:=aD.o.lt;have a2:=aD.o.wh;simp at hm;omega
   have b1:w2.cell? ⟨w.heap.size,1,none⟩=some (.int .i64 (t.start:Int)):=ax.o.keeps (cell_of (ai w (aU t)) rfl) zC;have b3:w2.cell? ⟨w.heap.size,3,none⟩=some (.string t.val):=ax.o.keeps (cell_of (ai w (aU t)) rfl) zC;clear hx h1 zC;go_wp2_with fail
   go_region_held3 (fun W=>W.cell? ⟨w.heap.size,1,none⟩=some (.int .i64 (t.start:Int))∧W.cell? ⟨w.heap.size,3,none⟩=some (.string t.val)) (go_keep)
    (first
     | (
      go_at_call 44;refine(ic.o u _ _ (aW.o.cI ?_)).mono ?_;(repeat(first| exact sr|assumption|refine Sm.alloc ?_ _|refine Sm.drew ?_|refine Sm.drewN ?_ _));rintro e wl ⟨lb,i,j,sp,rfl,cO,lC,fM⟩
      have js:=(show Sm [] w2 _ from(by(repeat(first| exact sr|assumption|refine Sm.alloc ?_ _|refine Sm.drew ?_|refine Sm.drewN ?_ _)))).trans cO
      have q1:=js.keeps b1 (by simp);have q3:=js.keeps b3 (by simp))
     | (
      go_at_call 182;refine(Bv.o _ ⟨#[]⟩ (some ⟨lb,0,none⟩) t.val _ ?_).mono ?_;exact ai _ _;rintro e wn ⟨nb,ks,rfl,dC,fO,fH⟩
      have mE:Sm [] wl wn:=sG fO (by(repeat(first| exact sr|assumption|refine Sm.alloc ?_ _|refine Sm.drew ?_|refine Sm.drewN ?_ _))) lr
      have u1:=mE.keeps q1 (by simp);have u3:=mE.keeps q3 (by simp)))
   all_goals go_wp2_with fail;go_returns;have g1:=Ih.o.size;have g2:=js.size;have g3:=fH;have g4:=lC;simp at g3 g4;exact aG (show r=.ok _ _ from dN.o.symm) (Ih.o.trans (js.trans mE).of_nil) (.inr (.inr (.inl ⟨_,rfl,(Nl dC (by omega) (lt_of_block dC) (bY fM mE (by omega) lr) rfl)⟩))) (aW.o.cI (js.trans mE))
 by_cases mn:t.kind=19
 · skip
   rw[if_neg jq,if_neg lq,if_neg sv,if_neg ue,if_pos (.inr mn)] at hr;have bH:=ae hr;have Kd:(t.kind==10)=false:=by simpa using jq
   have Ke:(t.kind==12)=false:=by simpa using lq
   have Rq:(t.kind==16)=false:=by simpa using sv
   have Tp:(t.kind==17)=false:=by simpa using ue
   have Rs:(t.kind==19)=true:=by simpa using mn
   clear h ho hr jq lq sv ue mn;go_enter Tryz.func136,Tryz.ntmps136;go_wp2_with fail;have ud:=ae (show _≠PR.eo from(fun e=>HO.o (bH.o.symm.trans e)));refine(K6.o t _ (aD.o.cI ((Sm.refl [] w).alloc (aU t))) ud.o).mono ?_;intro e w2 h1;rcases h1.cases ud.o with⟨x1,t1,v1,hx,rfl,jE,cA,av⟩|⟨p,v,u,hx,rfl,HU,av⟩
   · have HX:=ae (bH.o.symm.trans hx);clear hx h1;go_wp2_with fail;go_returns;exact aG HX.o (((Sm.refl [] w).alloc (aU t)).of_nil.trans av.o) (.inr (.inr (.inr (.inl ⟨_,rfl,au.wide _ jE.o (by simp) lr⟩)))) cA.o
   · have HX:=ae (bH.o.symm.trans hx);clear hx h1;go_wp2_with fail;go_returns;exact aA HX.o (((Sm.refl [] w).alloc (aU t)).of_nil) HU.o av.o
 by_cases mf:t.kind=18
 · skip
   rw[if_neg jq,if_neg lq,if_neg sv,if_neg ue,if_pos (.inl mf)] at hr;have bH:=ae hr;have Kd:(t.kind==10)=false:=by simpa using jq
   have Ke:(t.kind==12)=false:=by simpa using lq
   have Rq:(t.kind==16)=false:=by simpa using sv
   have Tp:(t.kind==17)=false:=by simpa using ue
   have Rs:(t.kind==19)=false:=by simpa using mn
   have Rr:(t.kind==18)=true:=by simpa using mf
   clear h ho hr jq lq sv ue mn mf;go_enter Tryz.func136,Tryz.ntmps136;go_wp2_with fail;have ud:=ae (show _≠PR.eo from(fun e=>HO.o (bH.o.symm.trans e)));refine(K6.o t _ (aD.o.cI ((Sm.refl [] w).alloc (aU t))) ud.o).mono ?_;intro e w2 h1;rcases h1.cases ud.o with⟨x1,t1,v1,hx,rfl,jE,cA,av⟩|⟨p,v,u,hx,rfl,HU,av⟩
   · have HX:=ae (bH.o.symm.trans hx);clear hx h1;go_wp2_with fail;go_returns;exact aG HX.o (((Sm.refl [] w).alloc (aU t)).of_nil.trans av.o) (.inr (.inr (.inr (.inl ⟨_,rfl,au.wide _ jE.o (by simp) lr⟩)))) cA.o
   · have HX:=ae (bH.o.symm.trans hx);clear hx h1;go_wp2_with fail;go_returns;exact aA HX.o (((Sm.refl [] w).alloc (aU t)).of_nil) HU.o av.o
 by_cases ml:t.kind=15
 · by_cases tL:t.val=qR
   · skip
     rw[if_neg jq,if_neg lq,if_neg sv,if_neg ue,if_neg (by rintro(e|e);exact mf e;exact mn e),if_pos ml,if_pos tL] at hr;have bH:=ae hr;have Kd:(t.kind==10)=false:=by simpa using jq
     have Ke:(t.kind==12)=false:=by simpa using lq
     have Rq:(t.kind==16)=false:=by simpa using sv
     have Tp:(t.kind==17)=false:=by simpa using ue
     have Rs:(t.kind==19)=false:=by simpa using mn
     have Rr:(t.kind==18)=false:=by simpa using mf
     have OJ:(t.kind==15)=true:=by simpa using ml
     have Fe:t.val.toList=[116,114,117,101]:=by rw[tL,ByteArray.toList_eq];rfl
     clear h ho hr tL jq lq sv ue mn mf ml;go_enter Tryz.func136,Tryz.ntmps136;go_wp2_with fail;have nT:=lP bH HO;refine(vU.o t _ (aD.o.cI (by(repeat(first| exact sr|assumption|refine Sm.alloc ?_ _|refine Sm.drew ?_|refine Sm.drewN ?_ _)))) nT.o).mono ?_;intro e w2 h1;rcases h1.cases nT.o with⟨u,hx,rfl,aW,ax⟩|⟨p,v,hx,rfl,HU,_,ax⟩
     rotate_left
     · have fv:=ae (jK bH hx);clear hx h1;go_wp2_with fail;go_returns;exact aA fv.o (sr.alloc _) HU.o ax.o
     have dN:=lQ bH hx;have Ih:Hd (Sm [c.pb,c.vb] w w2):=(sr.alloc (aU t)).trans ax.o;have zC:w.heap.size∉[c.pb,c.vb]:=fun hm=>by have a1:=aD.o.lt;have a2:=aD.o.wh;simp at hm;omega
     have b1:w2.cell? ⟨w.heap.size,1,none⟩=some (.int .i64 (t.start:Int)):=ax.o.keeps (cell_of (ai w (aU t)) rfl) zC;have b3:w2.cell? ⟨w.heap.size,3,none⟩=some (.string t.val):=ax.o.keeps (cell_of (ai w (aU t)) rfl) zC;clear hx h1 zC;go_wp2_with fail;refine(ic.o u _ _ aW.o).mono ?_;rintro e wl ⟨lb,i,j,sp,rfl,cO,lC,fM⟩;go_wp2_with fail;refine(rm.o _ ⟨#[]⟩ (some ⟨lb,0,none⟩) true _ (ai _ _)).mono ?_;rintro e wn ⟨nb,ks,rfl,dC,fO,fH⟩;have HQ:=dP fO;go_wp2_with fail;go_returns;have y1:=Ih.o.size;have zl:=cO.size;have zn:=fH;simp at zn;exact aG (show r=.ok _ _ from dN.o.symm) (Ih.o.trans (cO.trans HQ.o).of_nil) (.inr (.inr (.inr (.inr (.inl ⟨_,rfl,Iw dC (by omega) (lt_of_block dC) (bY fM HQ.o (by omega) lr) rfl⟩))))) (aW.o.cI (cO.trans HQ.o))
   by_cases tl:t.val=mS
   · skip
     rw[if_neg jq,if_neg lq,if_neg sv,if_neg ue,if_neg (by rintro(e|e);exact mf e;exact mn e),if_pos ml,if_neg tL,if_pos tl] at hr;have bH:=ae hr;have Kd:(t.kind==10)=false:=by simpa using jq
     have Ke:(t.kind==12)=false:=by simpa using lq
     have Rq:(t.kind==16)=false:=by simpa using sv
     have Tp:(t.kind==17)=false:=by simpa using ue
     have Rs:(t.kind==19)=false:=by simpa using mn
     have Rr:(t.kind==18)=false:=by simpa using mf
     have OJ:(t.kind==15)=true:=by simpa using ml
     have Fe:¬t.val.toList=[116,114,117,101]:=fun e=>tL (Go.WideShapes.bytes_inj (by rw[←ByteArray.toList_eq,e];rfl));have Ud:(t.val.toList==[116,114,117,101])=false:=bn Fe;have Hc:t.val.toList=[102,97,108,115,101]:=by rw[tl,ByteArray.toList_eq];rfl
     clear h ho hr tL tl jq lq sv ue mn mf ml;go_enter Tryz.func136,Tryz.ntmps136;go_wp2_with fail;have nT:=lP bH HO;refine(vU.o t _ (aD.o.cI (by(repeat(first| exact sr|assumption|refine Sm.alloc ?_ _|refine Sm.drew ?_|refine Sm.drewN ?_ _)))) nT.o).mono ?_;intro e w2 h1;rcases h1.cases nT.o with⟨u,hx,rfl,aW,ax⟩|⟨p,v,hx,rfl,HU,_,ax⟩
     rotate_left
     · have fv:=ae (jK bH hx);clear hx h1;go_wp2_with fail;go_returns;exact aA fv.o (sr.alloc _) HU.o ax.o
     have dN:=lQ bH hx;have Ih:Hd (Sm [c.pb,c.vb] w w2):=(sr.alloc (aU t)).trans ax.o;have zC:w.heap.size∉[c.pb,c.vb]:=fun hm=>by have a1:=aD.o.lt;have a2:=aD.o.wh;simp at hm;omega
     have b1:w2.cell? ⟨w.heap.size,1,none⟩=some (.int .i64 (t.start:Int)):=ax.o.keeps (cell_of (ai w (aU t)) rfl) zC;have b3:w2.cell? ⟨w.heap.size,3,none⟩=some (.string t.val):=ax.o.keeps (cell_of (ai w (aU t)) rfl) zC;clear hx h1 zC;go_wp2_with fail;refine(ic.o u _ _ aW.o).mono ?_;rintro e wl ⟨lb,i,j,sp,rfl,cO,lC,fM⟩;go_wp2_with fail;refine(rm.o _ ⟨#[]⟩ (some ⟨lb,0,none⟩) false _ (ai _ _)).mono ?_;rintro e wn ⟨nb,ks,rfl,dC,fO,fH⟩;have HQ:=dP fO;go_wp2_with fail;go_returns;have y1:=Ih.o.size;have zl:=cO.size;have zn:=fH;simp at zn;exact aG (show r=.ok _ _ from dN.o.symm) (Ih.o.trans (cO.trans HQ.o).of_nil) (.inr (.inr (.inr (.inr (.inl ⟨_,rfl,Iw dC (by omega) (lt_of_block dC) (bY fM HQ.o (by omega) lr) rfl⟩))))) (aW.o.cI (cO.trans HQ.o))
   by_cases Fo:t.val=qP
   · skip
     rw[if_neg jq,if_neg lq,if_neg sv,if_neg ue,if_neg (by rintro(e|e);exact mf e;exact mn e),if_pos ml,if_neg tL,if_neg tl,if_pos Fo] at hr;have bH:=ae hr;have Kd:(t.kind==10)=false:=by simpa using jq
     have Ke:(t.kind==12)=false:=by simpa using lq
     have Rq:(t.kind==16)=false:=by simpa using sv
     have Tp:(t.kind==17)=false:=by simpa using ue
     have Rs:(t.kind==19)=false:=by simpa using mn
     have Rr:(t.kind==18)=false:=by simpa using mf
     have OJ:(t.kind==15)=true:=by simpa using ml
     have Fe:¬t.val.toList=[116,114,117,101]:=fun e=>tL (Go.WideShapes.bytes_inj (by rw[←ByteArray.toList_eq,e];rfl));have Ud:(t.val.toList==[116,114,117,101])=false:=bn Fe;have Hc:¬t.val.toList=[102,97,108,115,101]:=fun e=>tl (Go.WideShapes.bytes_inj (by rw[←ByteArray.toList_eq,e];rfl));have W8:(t.val.toList==[102,97,108,115,101])=false:=bn Hc;have Ui:t.val.toList=[110,117,108,108]:=by rw[Fo,ByteArray.toList_eq];rfl
     clear h ho hr tL tl Fo jq lq sv ue mn mf ml;go_enter Tryz.func136,Tryz.ntmps136;go_wp2_with fail;refine(M0.o t _ (aD.o.cI ((Sm.refl [] w).alloc (aU t)))).mono ?_;rintro e w2 ⟨u,rfl,(HU:Hd _),(ax:Hd _)⟩;go_wp2_with fail;go_returns;exact aA bH.o.symm ((Sm.refl [] w).alloc (aU t)).of_nil HU.o ax.o.of_nil
   · skip
     rw[if_neg jq,if_neg lq,if_neg sv,if_neg ue,if_neg (by rintro(e|e);exact mf e;exact mn e),if_pos ml,if_neg tL,if_neg tl,if_neg Fo] at hr;have bH:=ae hr;have Kd:(t.kind==10)=false:=by simpa using jq
     have Ke:(t.kind==12)=false:=by simpa using lq
     have Rq:(t.kind==16)=false:=by simpa using sv
     have Tp:(t.kind==17)=false:=by simpa using ue
     have Rs:(t.kind==19)=false:=by simpa using mn
     have Rr:(t.kind==18)=false:=by simpa using mf
     have OJ:(t.kind==15)=true:=by simpa using ml
     have Fe:¬t.val.toList=[116,114,117,101]:=fun e=>tL (Go.WideShapes.bytes_inj (by rw[←ByteArray.toList_eq,e];rfl));have Ud:(t.val.toList==[116,114,117,101])=false:=bn Fe;have Hc:¬t.val.toList=[102,97,108,115,101]:=fun e=>tl (Go.WideShapes.bytes_inj (by rw[←ByteArray.toList_eq,e];rfl));have W8:(t.val.toList==[102,97,108,115,101])=false:=bn Hc;have Ui:¬t.val.toList=[110,117,108,108]:=fun e=>Fo (Go.WideShapes.bytes_inj (by rw[←ByteArray.toList_eq,e];rfl));have Z2l:(t.val.toList==[110,117,108,108])=false:=bn Ui;clear h ho hr tL tl Fo jq lq sv ue mn mf ml;go_enter Tryz.func136,Tryz.ntmps136;go_wp2_with fail;have nT:=lP bH HO;refine(vU.o t _ (aD.o.cI (by(repeat(first| exact sr|assumption|refine Sm.alloc ?_ _|refine Sm.drew ?_|refine Sm.drewN ?_ _)))) nT.o).mono ?_;intro e w2 h1;rcases h1.cases nT.o with⟨u,hx,rfl,aW,ax⟩|⟨p,v,hx,rfl,HU,_,ax⟩
     rotate_left
     · have fv:=ae (jK bH hx);clear hx h1;go_wp2_with fail;go_returns;exact aA fv.o (sr.alloc _) HU.o ax.o
     have dN:=lQ bH hx;have Ih:Hd (Sm [c.pb,c.vb] w w2):=(sr.alloc (aU t)).trans ax.o;have zC:w.heap.size∉[c.pb,c.vb]:=fun hm=>by have a1:=aD.o.lt;have a2:=aD.o.wh;simp at hm;omega
     have b1:w2.cell? ⟨w.heap.size,1,none⟩=some (.int .i64 (t.start:Int)):=ax.o.keeps (cell_of (ai w (aU t)) rfl) zC;have b3:w2.cell? ⟨w.heap.size,3,none⟩=some (.string t.val):=ax.o.keeps (cell_of (ai w (aU t)) rfl) zC;clear hx h1 zC;go_wp2_with fail
     go_region_held3 (fun W=>W.cell? ⟨w.heap.size,1,none⟩=some (.int .i64 (t.start:Int))∧W.cell? ⟨w.heap.size,3,none⟩=some (.string t.val)) (go_keep)
      (first
       | (
        go_at_call 44;refine(ic.o u _ _ (aW.o.cI ?_)).mono ?_;(repeat(first| exact sr|assumption|refine Sm.alloc ?_ _|refine Sm.drew ?_|refine Sm.drewN ?_ _));rintro e wl ⟨lb,i,j,sp,rfl,cO,lC,fM⟩
        have js:=(show Sm [] w2 _ from(by(repeat(first| exact sr|assumption|refine Sm.alloc ?_ _|refine Sm.drew ?_|refine Sm.drewN ?_ _)))).trans cO
        have q1:=js.keeps b1 (by simp);have q3:=js.keeps b3 (by simp))
       | (
        go_at_call 185;refine(DG.o _ ⟨#[]⟩ (some ⟨lb,0,none⟩) t.val _ ?_).mono ?_;exact ai _ _;rintro e wn ⟨nb,ks,rfl,dC,fO,fH⟩
        have mE:Sm [] wl wn:=sG fO (by(repeat(first| exact sr|assumption|refine Sm.alloc ?_ _|refine Sm.drew ?_|refine Sm.drewN ?_ _))) lr
        have u1:=mE.keeps q1 (by simp);have u3:=mE.keeps q3 (by simp)))
     all_goals go_wp2_with fail;go_returns;have g1:=Ih.o.size;have g2:=js.size;have g3:=fH;have g4:=lC;simp at g3 g4;exact aG (show r=.ok _ _ from dN.o.symm) (Ih.o.trans (js.trans mE).of_nil) (.inr (.inr (.inr (.inr (.inr (.inl ⟨_,rfl,(Pq dC (by omega) (lt_of_block dC) (bY fM mE (by omega) lr) rfl)⟩)))))) (aW.o.cI (js.trans mE))
 by_cases h3:t.kind=3
 · cases b with
   | false=>
    rw[if_neg jq,if_neg lq,if_neg sv,if_neg ue,if_neg (by rintro(e|e);exact mf e;exact mn e),if_neg ml,if_pos ⟨h3,rfl⟩] at hr;have bH:=ae hr;have Kd:(t.kind==10)=false:=by simpa using jq
    have Ke:(t.kind==12)=false:=by simpa using lq
    have Rq:(t.kind==16)=false:=by simpa using sv
    have Tp:(t.kind==17)=false:=by simpa using ue
    have Rs:(t.kind==19)=false:=by simpa using mn
    have Rr:(t.kind==18)=false:=by simpa using mf
    have OJ:(t.kind==15)=false:=by simpa using ml
    have y3:(t.kind==3)=true:=by simpa using h3
    clear h ho hr jq lq sv ue mn mf ml h3;go_enter Tryz.func136,Tryz.ntmps136;go_wp2_with fail;have ud:=ae (show _≠PR.eo from(fun e=>HO.o (bH.o.symm.trans e)));refine(HVA.o t _ (aD.o.cI ((Sm.refl [] w).alloc (aU t))) ud.o).mono ?_;intro e w2 h1;rcases h1.cases ud.o with⟨x1,t1,v1,hx,rfl,jE,cA,av⟩|⟨p,v,u,hx,rfl,HU,av⟩
    · have HX:=ae (bH.o.symm.trans hx);clear hx h1;go_wp2_with fail;go_returns;exact aG HX.o (((Sm.refl [] w).alloc (aU t)).of_nil.trans av.o) (.inl ⟨_,rfl,au.wide _ jE.o (by simp) lr⟩) cA.o
    · have HX:=ae (bH.o.symm.trans hx);clear hx h1;go_wp2_with fail;go_returns
      exact aA HX.o (((Sm.refl [] w).alloc (aU t)).of_nil) HU.o av.o
   | true=>
    rw[if_neg jq,if_neg lq,if_neg sv,if_neg ue,if_neg (by rintro(e|e);exact mf e;exact mn e),if_neg ml,if_neg (by rintro⟨_,e⟩;cases e)] at hr;have bH:=ae hr;have Kd:(t.kind==10)=false:=by simpa using jq
    have Ke:(t.kind==12)=false:=by simpa using lq
    have Rq:(t.kind==16)=false:=by simpa using sv
    have Tp:(t.kind==17)=false:=by simpa using ue
    have Rs:(t.kind==19)=false:=by simpa using mn
    have Rr:(t.kind==18)=false:=by simpa using mf
    have OJ:(t.kind==15)=false:=by simpa using ml
    have y3:(t.kind==3)=true:=by simpa using h3
    clear h ho hr jq lq sv ue mn mf ml h3;go_enter Tryz.func136,Tryz.ntmps136;go_wp2_with fail;refine(M0.o t _ (aD.o.cI ((Sm.refl [] w).alloc (aU t)))).mono ?_;rintro e w2 ⟨u,rfl,(HU:Hd _),(ax:Hd _)⟩;go_wp2_with fail;go_returns;exact aA bH.o.symm ((Sm.refl [] w).alloc (aU t)).of_nil HU.o ax.o.of_nil
 · skip
   rw[if_neg jq,if_neg lq,if_neg sv,if_neg ue,if_neg (by rintro(e|e);exact mf e;exact mn e),if_neg ml,if_neg (fun e=>h3 e.1)] at hr;have bH:=ae hr;have Kd:(t.kind==10)=false:=by simpa using jq
   have Ke:(t.kind==12)=false:=by simpa using lq
   have Rq:(t.kind==16)=false:=by simpa using sv
   have Tp:(t.kind==17)=false:=by simpa using ue
   have Rs:(t.kind==19)=false:=by simpa using mn
   have Rr:(t.kind==18)=false:=by simpa using mf
   have OJ:(t.kind==15)=false:=by simpa using ml
   have y3:(t.kind==3)=false:=by simpa using h3
   clear h ho hr jq lq sv ue mn mf ml h3;go_enter Tryz.func136,Tryz.ntmps136;go_wp2_with fail;refine(M0.o t _ (aD.o.cI ((Sm.refl [] w).alloc (aU t)))).mono ?_;rintro e w2 ⟨u,rfl,(HU:Hd _),(ax:Hd _)⟩;go_wp2_with fail;go_returns;exact aA bH.o.symm ((Sm.refl [] w).alloc (aU t)).of_nil HU.o ax.o.of_nil
theorem cq(c:Cx)(hL:dg c):∀n,n≤1099511627776→∀b,aS c 136 #[.pointer (some ⟨c.pb,0,none⟩),.bool b] (bo (rd c.s) n b) (cH n)
 | 0,_,b=>fun t w h ho=>absurd rfl ho
 | n+1,hm,b=>B0 c hL n (by omega) b (cq c hL n (by omega) b)
end Go.Proofs.YtnpjmhodfdgloaaGreatDoor
