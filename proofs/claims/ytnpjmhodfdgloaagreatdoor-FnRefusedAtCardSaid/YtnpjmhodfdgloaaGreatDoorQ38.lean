/- Part of the proof. -/
import Derived.Test.YtnpjmhodfdgloaaGreatDoorQ37
set_option linter.unusedVariables false
set_option linter.unusedSimpArgs false
namespace Go.Proofs.YtnpjmhodfdgloaaGreatDoor
set_option maxRecDepth 100000
set_option maxHeartbeats 32000000
open Go.RowKit
attribute [local go_sem ↓] Go.wp_at_zero Go.wp_at_succ
def jI(c:Cx)(R:au (List Nd))(T:TypeId)(k sign:Int)(n:Nat)(w:World)(r':PR (List (List Nd)))(g:Nat)(v:Value)(wr:World):Prop:=
 ∃acc t' vs a kk,acc.length+g≤n∧v=.slice a acc.length kk∧Hd (gC (rd c.s) k sign g acc t'=r')∧Hd (gb c t' wr)∧Hd (wr.ownsRow w.heap.size T 1 v acc.length vs)∧Hd (bP R w.heap.size wr v.ownBlock vs acc)∧Hd (Sm [c.pb,c.vb] w wr)
theorem Hk{c:Cx}{k:Int}{t:Tok}(h:ft (rd c.s) k t≠.eo):t.kind=k→rd c.s t.stop≠.eo:=fun e hr=>h (by unfold ft;rw[if_pos e,hr];rfl)
theorem rv.Lm{c:Cx}{k:Int}{t:Tok}{w w':World}{e:Ending}(h:rv c k t w e w')(ho:ft (rd c.s) k t≠.eo) :
 (∃b t',ft (rd c.s) k t=.ok b t'∧e=.returned (.tuple #[.bool b,.nilIface])∧Hd (gb c t' w')∧Hd (Sm [c.pb,c.vb] w w')) ∨
 (∃p u,ft (rd c.s) k t=.err p∧e=.returned (.tuple #[.bool true,.iface 51 u])∧Hd (rj c p w w' u)∧Hd (Sm [c.pb,c.vb] w w')):=by
 obtain⟨h1,h2,h3⟩:=h;by_cases hk:t.kind=k
 · have h3:=h3 hk;unfold ft at ho ⊢;rw[if_pos hk] at ho ⊢
   cases hr:rd c.s t.stop with
   | tok u=>rw[hr] at h3;exact .inl ⟨true,u,rfl,h3.1,h3.2,h1⟩
   | err p=>rw[hr] at h3;obtain⟨u,h4,h5,h6⟩:=h3;exact .inr ⟨p,u,rfl,h4,h5,h1⟩
   | eo=>rw[hr] at ho;exact absurd rfl ho
 · unfold ft;rw[if_neg hk];exact .inl ⟨false,t,rfl,(h2 hk).1,(h2 hk).2,h1⟩
theorem Co:(Tryz.prog.info? 217).map (fun i=>(i.zero,i.size,i.bytes))=some (some xB,1,8):=by kernel_rfl
theorem NB:(Tryz.prog.info? 120).map (fun i=>(i.zero,i.size,i.bytes))=some (some xB,1,8):=by kernel_rfl
theorem ub(c:Cx)(hL:dg c)(n:Nat)(hm:n≤1099511627776):aS c 152 #[.pointer (some ⟨c.pb,0,none⟩)] (gC (rd c.s) 33 13 n []) (au.list (mI 33)):=by
 have Ay:=ae (j5 c hL);have Km:=ae (uY c hL 13);have xZ:=ae hm;clear hL hm;refine fj fun t w r (dN:Hd _) (HO:Hd _) h=>?_;have aD:=ae h;clear h;go_enter Tryz.func152,Tryz.ntmps152;go_wp2_with fail
 go_loopg [4] n (fun g v wr=>jI c (mI 33) 217 33 13 n w r g v wr)
 case atStart=>unfold jI;exact⟨[],t,[],_,_,by simp,rfl,dN,aD.o.cI (sr.alloc _),World.ownsRow_made (base:=w.heap.size) (size:=1) w #[] 0 lr (by simp[maxLen]) rfl,.nil,sr.alloc _⟩
 case round=>
  unfold jI at hrel;obtain⟨acc,t2,vs,a,kk,hlen,rfl,HI,aW,mx,mX,ax⟩:=hrel
  obtain⟨m',rfl⟩:∃m',gk=m'+1:=by
   cases gk with
   | zero=>exact absurd HI.o.symm HO.o
   | succ m'=>exact⟨m',rfl⟩
  have hi:=HI.o;unfold gC nk at hi;simp only[cD,bJ] at hi;have px:=ae hi;have HZ:Hd (c.pb<w.heap.size∧c.vb<w.heap.size):=⟨aD.o.lt,aD.o.wh⟩;have wL:=ae hlen;clear hi HI hlen;go_wp2_with fail;refine Z03 Ay.o aW.o px HO ax.o (fun v w3 u HE=>?_) fun x3 t3 w3 v3 hx vV ib bT aO=>?_
  · go_wp2_with fail;go_returns;exact HE.o _ _
  obtain⟨ab,hv⟩:=jw.out ib.o;subst hv;have o6:∀q,q∈[c.pb,c.vb]→q<w.heap.size:=fun q hq=>by have:=HZ.o;simp at hq;omega
  have tO:=ae o6;have vl:w.heap.size≤wr.heap.size:=ax.o.size;have KN:wr.heap.size≤w3.heap.size:=aO.o.size;have how:=er mx.o aO.o o6;have HL:=ae vl;have Xh:=ae KN;have de:(acc.length+1)*8≤140737488355328:=by have:=xZ.o;have:=wL.o;omega
  clear hx px o6;go_wp2_with (first| (at_builtin;refine gH _ rfl _ _ _ rfl 217 _ 1 8 Tryz.underlying238 Co rfl (by omega) (by omega) _ acc.length vs rfl how _ rfl rfl (by simp[Value.oneCell']) de (by omega) ?_)|fail)
  intro g dM w' aQ hg bV ea;have qU:Hd (w'.ownsRow w.heap.size 217 1 (.slice (some ⟨g,0,none⟩) (acc.length+1) dM) (acc.length+1) (vs++[.pointer ab])):=by unfold Hd;simpa using aQ
  have HG:=ae hg;have bX:Hd (Value.ownBlock (.slice a acc.length kk)=some g∨w3.heap.size≤g):=bV.imp id (fun e=>by omega);have iq:∀q,Value.ownBlock (.slice a acc.length kk)=some q→w.heap.size≤q:=fun q hq=>(how.lt q hq).1;have OP:Hd (gb c t3 w'):=bT.o.grown aD.o HG.o iq;have OY:Hd (Sm [c.pb,c.vb] w w'):=(ax.o.trans aO.o).grown HG.o (fun q hq=>.inl (iq q hq))
  have OS:Hd (bP (mI 33) w.heap.size w' (some g) (vs++[.pointer ab]) (acc++[made {kind:=33,name:=x3} []])):=
   bP.push (W:=w3) mX.o Xh.o (fun q q1 q2=>aO.o.block q q2 (fun hq=>by have:=tO.o q hq;omega)) mx.o HG.o bX.o HL.o lr lr ⟨x3,rfl,ib.o⟩
  clear aQ hg bV ea how de iq;go_wp2_with fail;refine(Km.o t3 _ OP.o (Hk (aH vV HO))).mono ?_;intro e w5 h1;rcases h1.Lm (aH vV HO) with⟨x5,t5,hx,rfl,eM,dK⟩|⟨p,u,hx,rfl,HU,dK⟩
  rotate_left
  · have fv:=ae (bc vV hx);clear hx h1;go_wp2_with fail;go_returns;exact aA fv.o OY.o HU.o dK.o
  have LY:=bK vV hx;have Tw:=ae (er qU.out dK.o tO.o);have Tv:=ae (OS.o.sm dK.o tO.o);clear hx h1 vV
  cases x5 with
  | true=>
   have Xg:Hd (gC (rd c.s) 33 13 m' (acc++[made {kind:=33,name:=x3} []]) t5=r):=LY.o;clear LY;go_wp2_with fail;go_roundg m'
   case measure=>omega
   case rel=>
    unfold jI
    exact⟨_,t5,_,some ⟨g,0,none⟩,dM,by have:=wL.o;simp;omega,by simp,Xg,eM,by have h6:=Tw.o;unfold Hd;simpa using h6,Tv,OY.o.trans dK.o⟩
  | false=>have Ab:Hd (r=.ok (acc++[made {kind:=33,name:=x3} []]) t5):=LY.o.symm;have Hz:Hd ((au.list (mI 33)).rd w.heap.size w5.heap.size w5 (.slice (some ⟨g,0,none⟩) (acc.length+1) dM) (acc++[made {kind:=33,name:=x3} []])):=cW Tw.o Tv.o;clear LY;go_wp2_with fail;go_returns;exact aG Ab.o (OY.o.trans dK.o) Hz.o eM.o
theorem oR(c:Cx)(hL:dg c)(n:Nat)(hm:n≤1099511627776):aS c 160 #[.pointer (some ⟨c.pb,0,none⟩)] (gC (rd c.s) 38 13 n []) (au.list (CG 38)):=by
 have Ay:=ae (cd c hL);have Km:=ae (uY c hL 13);have xZ:=ae hm;clear hL hm;refine fj fun t w r (dN:Hd _) (HO:Hd _) h=>?_;have aD:=ae h;clear h;go_enter Tryz.func160,Tryz.ntmps160;go_wp2_with fail
 go_loopg [4] n (fun g v wr=>jI c (CG 38) 120 38 13 n w r g v wr)
 case atStart=>unfold jI;exact⟨[],t,[],_,_,by simp,rfl,dN,aD.o.cI (sr.alloc _),World.ownsRow_made (base:=w.heap.size) (size:=1) w #[] 0 lr (by simp[maxLen]) rfl,.nil,sr.alloc _⟩
 case round=>
  unfold jI at hrel;obtain⟨acc,t2,vs,a,kk,hlen,rfl,HI,aW,mx,mX,ax⟩:=hrel
  obtain⟨m',rfl⟩:∃m',gk=m'+1:=by
   cases gk with
   | zero=>exact absurd HI.o.symm HO.o
   | succ m'=>exact⟨m',rfl⟩
  have hi:=HI.o;unfold gC nk at hi;simp only[cD,bJ] at hi;have px:=ae hi;have HZ:Hd (c.pb<w.heap.size∧c.vb<w.heap.size):=⟨aD.o.lt,aD.o.wh⟩;have wL:=ae hlen;clear hi HI hlen;go_wp2_with fail;refine Z03 Ay.o aW.o px HO ax.o (fun v w3 u HE=>?_) fun x3 t3 w3 v3 hx vV ib bT aO=>?_
  · go_wp2_with fail;go_returns;exact HE.o _ _
  obtain⟨ab,hv⟩:=ef.out ib.o;subst hv;have o6:∀q,q∈[c.pb,c.vb]→q<w.heap.size:=fun q hq=>by have:=HZ.o;simp at hq;omega
  have tO:=ae o6;have vl:w.heap.size≤wr.heap.size:=ax.o.size;have KN:wr.heap.size≤w3.heap.size:=aO.o.size;have how:=er mx.o aO.o o6;have HL:=ae vl;have Xh:=ae KN;have de:(acc.length+1)*8≤140737488355328:=by have:=xZ.o;have:=wL.o;omega
  clear hx px o6;go_wp2_with (first| (at_builtin;refine gH _ rfl _ _ _ rfl 120 _ 1 8 Tryz.underlying271 NB rfl (by omega) (by omega) _ acc.length vs rfl how _ rfl rfl (by simp[Value.oneCell']) de (by omega) ?_)|fail)
  intro g dM w' aQ hg bV ea;have qU:Hd (w'.ownsRow w.heap.size 120 1 (.slice (some ⟨g,0,none⟩) (acc.length+1) dM) (acc.length+1) (vs++[.pointer ab])):=by unfold Hd;simpa using aQ
  have HG:=ae hg;have bX:Hd (Value.ownBlock (.slice a acc.length kk)=some g∨w3.heap.size≤g):=bV.imp id (fun e=>by omega);have iq:∀q,Value.ownBlock (.slice a acc.length kk)=some q→w.heap.size≤q:=fun q hq=>(how.lt q hq).1;have OP:Hd (gb c t3 w'):=bT.o.grown aD.o HG.o iq;have OY:Hd (Sm [c.pb,c.vb] w w'):=(ax.o.trans aO.o).grown HG.o (fun q hq=>.inl (iq q hq))
  have OS:Hd (bP (CG 38) w.heap.size w' (some g) (vs++[.pointer ab]) (acc++[made {kind:=38,name:=x3} []])):=
   bP.push (W:=w3) mX.o Xh.o (fun q q1 q2=>aO.o.block q q2 (fun hq=>by have:=tO.o q hq;omega)) mx.o HG.o bX.o HL.o lr lr ⟨x3,rfl,ib.o⟩
  clear aQ hg bV ea how de iq;go_wp2_with fail;refine(Km.o t3 _ OP.o (Hk (aH vV HO))).mono ?_;intro e w5 h1;rcases h1.Lm (aH vV HO) with⟨x5,t5,hx,rfl,eM,dK⟩|⟨p,u,hx,rfl,HU,dK⟩
  rotate_left
  · have fv:=ae (bc vV hx);clear hx h1;go_wp2_with fail;go_returns;exact aA fv.o OY.o HU.o dK.o
  have LY:=bK vV hx;have Tw:=ae (er qU.out dK.o tO.o);have Tv:=ae (OS.o.sm dK.o tO.o);clear hx h1 vV
  cases x5 with
  | true=>
   have Xg:Hd (gC (rd c.s) 38 13 m' (acc++[made {kind:=38,name:=x3} []]) t5=r):=LY.o;clear LY;go_wp2_with fail;go_roundg m'
   case measure=>omega
   case rel=>
    unfold jI
    exact⟨_,t5,_,some ⟨g,0,none⟩,dM,by have:=wL.o;simp;omega,by simp,Xg,eM,by have h6:=Tw.o;unfold Hd;simpa using h6,Tv,OY.o.trans dK.o⟩
  | false=>have Ab:Hd (r=.ok (acc++[made {kind:=38,name:=x3} []]) t5):=LY.o.symm;have Hz:Hd ((au.list (CG 38)).rd w.heap.size w5.heap.size w5 (.slice (some ⟨g,0,none⟩) (acc.length+1) dM) (acc++[made {kind:=38,name:=x3} []])):=cW Tw.o Tv.o;clear LY;go_wp2_with fail;go_returns;exact aG Ab.o (OY.o.trans dK.o) Hz.o eM.o
theorem rv.mute{c:Cx}{k:Int}{t:Tok}{w w':World}{e:Ending}(h:rv c k t w e w')(ho:gv (rd c.s) k t≠.eo):∃t' b ev,gv (rd c.s) k t=.ok () t'∧e=.returned (.tuple #[.bool b,ev])∧Hd (gb c t' w')∧Hd (Sm [c.pb,c.vb] w w'):=by
 obtain⟨h1,h2,h3⟩:=h;by_cases hk:t.kind=k
 · have h3:=h3 hk;unfold gv at ho ⊢;rw[if_pos hk] at ho ⊢
   cases hr:rd c.s t.stop with
   | tok u=>rw[hr] at h3;exact⟨u,_,_,rfl,h3.1,h3.2,h1⟩
   | err p=>rw[hr] at h3;obtain⟨u,h4,h5,h6⟩:=h3;exact⟨t,_,_,rfl,h4,h6,h1⟩
   | eo=>rw[hr] at ho;exact absurd rfl ho
 · unfold gv;rw[if_neg hk];exact⟨t,_,_,rfl,(h2 hk).1,(h2 hk).2,h1⟩
theorem wU:cN.toList=[105,109,112,108,101,109,101,110,116,115]:=by rw[ByteArray.toList_eq];rfl
theorem wm(c:Cx)(hL:dg c)(n:Nat)(hm:n≤1099511627776):aS c 148 #[.pointer (some ⟨c.pb,0,none⟩)] (kr (rd c.s) n) (au.list (mI 28)):=by
 have Ay:=ae (j5 c hL);have Km:=ae (uY c hL 20);have Ac:=ae (uY c hL 20);have vU:=ae (jf c hL);have xZ:=ae hm;clear hL hm;refine fj fun t w r hr ho h=>?_;unfold kr at hr;rw[dd] at hr;have HO:=ae ho;have aD:=ae h;have c8:(w.alloc (.cells #[] 217 (0,0))).cell? ⟨c.pb,8,none⟩=some (.string t.val):=((Sm.refl [] w).alloc _).keeps h.c8 (by simp);by_cases hv:t.val=cN
 · rw[if_pos hv] at hr;have bH:=ae hr;have s8:=kJ wU hv;clear h ho hr hv;go_enter Tryz.func148,Tryz.ntmps148;go_wp2_with fail;have av:Hd (Sm [] w (w.alloc (.cells #[] 217 (0,0)))):=(Sm.refl [] w).alloc _;have nU:Hd ((w.alloc (.cells #[] 217 (0,0))).ownsRow w.heap.size 217 1 (.slice (some ⟨w.heap.size,0,none⟩) 0 0) 0 []):=World.ownsRow_made (base:=w.heap.size) (size:=1) w #[] 0 lr (by simp[maxLen]) rfl;obtain⟨w1,zE⟩:∃w1,w1=w.alloc (.cells #[] 217 (0,0)):=⟨_,rfl⟩;rw[←zE] at av nU ⊢;clear zE c8 s8;have nT:=lP bH HO;refine(vU.o t _ (aD.o.cI av.o) nT.o).mono ?_;intro e w2 h1;rcases h1.cases nT.o with⟨tA,hx,rfl,Ur,RB⟩|⟨p,v,hx,rfl,HU,_,RB⟩
   rotate_left
   · have fv:=ae (jK bH hx);clear hx h1;go_wp2_with fail;go_returns;exact aA fv.o av.o.of_nil HU.o RB.o
   have dZ:=lQ bH hx;clear hx h1 bH;go_wp2_with fail;have Uv:=ae (aH dZ HO);refine(Ac.o tA _ Ur.o (fun e hr=>Uv.o (by unfold gv;rw[if_pos e,hr]))).mono ?_;intro e wS h1;obtain⟨tS,b,ev,hx,rfl,Zt,HSS⟩:=h1.mute Uv.o;have dN:=bK dZ hx;have HX9:Hd (∀q,q∈[c.pb,c.vb]→q<w.heap.size):=fun q hq=>by have a1:=aD.o.lt;have a2:=aD.o.wh;simp at hq;omega
   have Xp:=ae (er nU.o (RB.o.trans HSS.o) HX9.o);have ZL:Hd (Sm [c.pb,c.vb] w wS):=(av.o.of_nil.trans RB.o).trans HSS.o;clear hx h1 dZ Uv;go_wp2_with fail
   go_loopg [4] n (fun g v wr=>jI c (mI 28) 217 28 20 n w r g v wr)
   case atStart=>unfold jI;exact⟨[],tS,[],_,_,by simp,rfl,dN,Zt,Xp,.nil,ZL⟩
   case round=>
    unfold jI at hrel;obtain⟨acc,t2,vs,a,kk,hlen,rfl,HI,aW,mx,mX,ax⟩:=hrel
    obtain⟨m',rfl⟩:∃m',gk=m'+1:=by
     cases gk with
     | zero=>exact absurd HI.o.symm HO.o
     | succ m'=>exact⟨m',rfl⟩
    have hi:=HI.o;unfold gC nk at hi;simp only[cD,bJ] at hi;have px:=ae hi;have HZ:Hd (c.pb<w.heap.size∧c.vb<w.heap.size):=⟨aD.o.lt,aD.o.wh⟩;have wL:=ae hlen;clear hi HI hlen;go_wp2_with fail;refine Z03 Ay.o aW.o px HO ax.o (fun v w3 u HE=>?_) fun x3 t3 w3 v3 hx vV ib bT aO=>?_
    · go_wp2_with fail;go_returns;exact HE.o _ _
    obtain⟨ab,hv⟩:=jw.out ib.o;subst hv;have o6:∀q,q∈[c.pb,c.vb]→q<w.heap.size:=fun q hq=>by have:=HZ.o;simp at hq;omega
    have tO:=ae o6;have vl:w.heap.size≤wr.heap.size:=ax.o.size;have KN:wr.heap.size≤w3.heap.size:=aO.o.size;have how:=er mx.o aO.o o6;have HL:=ae vl;have Xh:=ae KN;have de:(acc.length+1)*8≤140737488355328:=by have:=xZ.o;have:=wL.o;omega
    clear hx px o6;go_wp2_with (first| (at_builtin;refine gH _ rfl _ _ _ rfl 217 _ 1 8 Tryz.underlying238 Co rfl (by omega) (by omega) _ acc.length vs rfl how _ rfl rfl (by simp[Value.oneCell']) de (by omega) ?_)|fail)
    intro g dM w' aQ hg bV ea;have qU:Hd (w'.ownsRow w.heap.size 217 1 (.slice (some ⟨g,0,none⟩) (acc.length+1) dM) (acc.length+1) (vs++[.pointer ab])):=by unfold Hd;simpa using aQ
    have HG:=ae hg;have bX:Hd (Value.ownBlock (.slice a acc.length kk)=some g∨w3.heap.size≤g):=bV.imp id (fun e=>by omega);have iq:∀q,Value.ownBlock (.slice a acc.length kk)=some q→w.heap.size≤q:=fun q hq=>(how.lt q hq).1;have OP:Hd (gb c t3 w'):=bT.o.grown aD.o HG.o iq;have OY:Hd (Sm [c.pb,c.vb] w w'):=(ax.o.trans aO.o).grown HG.o (fun q hq=>.inl (iq q hq))
    have OS:Hd (bP (mI 28) w.heap.size w' (some g) (vs++[.pointer ab]) (acc++[made {kind:=28,name:=x3} []])):=
     bP.push (W:=w3) mX.o Xh.o (fun q q1 q2=>aO.o.block q q2 (fun hq=>by have:=tO.o q hq;omega)) mx.o HG.o bX.o HL.o lr lr ⟨x3,rfl,ib.o⟩
    clear aQ hg bV ea how de iq;go_wp2_with fail;refine(Km.o t3 _ OP.o (Hk (aH vV HO))).mono ?_;intro e w5 h1;rcases h1.Lm (aH vV HO) with⟨x5,t5,hx,rfl,eM,dK⟩|⟨p,u,hx,rfl,HU,dK⟩
    rotate_left
    · have fv:=ae (bc vV hx);clear hx h1;go_wp2_with fail;go_returns;exact aA fv.o OY.o HU.o dK.o
    have LY:=bK vV hx;have Tw:=ae (er qU.out dK.o tO.o);have Tv:=ae (OS.o.sm dK.o tO.o);clear hx h1 vV
    cases x5 with
    | true=>
     have Xg:Hd (gC (rd c.s) 28 20 m' (acc++[made {kind:=28,name:=x3} []]) t5=r):=LY.o;clear LY;go_wp2_with fail;go_roundg m'
     case measure=>omega
     case rel=>
      unfold jI
      exact⟨_,t5,_,some ⟨g,0,none⟩,dM,by have:=wL.o;simp;omega,by simp,Xg,eM,by have h6:=Tw.o;unfold Hd;simpa using h6,Tv,OY.o.trans dK.o⟩
    | false=>have Ab:Hd (r=.ok (acc++[made {kind:=28,name:=x3} []]) t5):=LY.o.symm;have Hz:Hd ((au.list (mI 28)).rd w.heap.size w5.heap.size w5 (.slice (some ⟨g,0,none⟩) (acc.length+1) dM) (acc++[made {kind:=28,name:=x3} []])):=cW Tw.o Tv.o;clear LY;go_wp2_with fail;go_returns;exact aG Ab.o (OY.o.trans dK.o) Hz.o eM.o
 · rw[if_neg hv] at hr;have bH:Hd (r=.ok [] t):=hr.symm;have s8:=bg wU hv;have q8:(t.val.toList==[105,109,112,108,101,109,101,110,116,115])=false:=bn s8;clear h ho hr hv;go_enter Tryz.func148,Tryz.ntmps148;go_wp2_with fail;go_returns;exact aG bH.o (sr.alloc _) (rJ _ _) (aD.o.cI (sr.alloc _))
end Go.Proofs.YtnpjmhodfdgloaaGreatDoor
