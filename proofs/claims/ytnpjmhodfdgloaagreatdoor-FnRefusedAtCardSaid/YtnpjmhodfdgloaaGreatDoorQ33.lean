/- Part of the proof. -/
import Derived.Test.YtnpjmhodfdgloaaGreatDoorQ23
set_option linter.unusedVariables false
set_option linter.unusedSimpArgs false
namespace Go.Proofs.YtnpjmhodfdgloaaGreatDoor
set_option maxRecDepth 100000
set_option maxHeartbeats 32000000
open Go.RowKit
attribute [local go_sem ↓] Go.wp_at_zero Go.wp_at_succ
theorem Cm{L:Nat→LR}{item:PM (List Nd)}{cl:Int}:∀(m:Nat) (acc l:List (List Nd)) (t t':Tok),bj L item cl m acc t=.ok l t'→l.length≤acc.length+m
 | 0,acc,l,t,t',h=>by cases h
 | m+1,acc,l,t,t',h=>by
  have h':(ft L cl>>=fun b=>if b=true then pure acc else item>>=fun x=>bj L item cl m (acc++[x])) t=.ok l t':=h;rw[aj] at h'
  cases hs:ft L cl t with
  | eo=>rw[hs] at h';cases h'
  | err p=>rw[hs] at h';cases h'
  | ok b u=>
   rw[hs] at h';simp only[bD] at h'
   cases b with
   | true=>cases h';omega
   | false=>
    rw[if_neg (by decide),aj] at h'
    cases hi:item u with
    | eo=>rw[hi] at h';cases h'
    | err p=>rw[hi] at h';cases h'
    | ok x u2=>rw[hi] at h';simp only[bD] at h';have:=Cm m (acc++[x]) l u2 t' h';simp at this;omega
theorem gj{L:Nat→LR}{item:PM (List Nd)}{o cl:Int}{m:Nat}{b:Bool}{t t':Tok}{l:List (List Nd)}(h:bW L m o item cl b t=.ok l t'):l.length≤m:=by
 unfold bW at h;rw[aj] at h
 cases he:bE L o t with
 | eo=>rw[he] at h;cases h
 | err p=>rw[he] at h;cases h
 | ok x u=>
  rw[he] at h;simp only[bD] at h;rw[aj] at h
  cases hi:bj L item cl m [] u with
  | eo=>rw[hi] at h;cases h
  | err p=>rw[hi] at h;cases h
  | ok y u2=>
   rw[hi] at h;simp only[bD] at h;have:=Cm m [] y u u2 hi;split at h
   · cases h
   · cases h;simpa using this
theorem vv{w w1:World}{o:Obj}{hi:Nat}(h:Sm [] (w.alloc o) w1):∀q,Value.ownBlock (.slice (some ⟨w.heap.size,0,none⟩) 0 0)=some q→q<w1.heap.size∨hi≤q:=by
 intro q hq;have h1:w.heap.size=q:=by simpa[Value.ownBlock] using hq
 have h5:=h.size;simp at h5;omega
theorem rJ{α:Type}{R:au α}{lo hi:Nat}{w:World}(a:Option Addr)(k:Nat)(hk:k≤maxLen:=by decide):(au.list R).rd lo hi w (.slice a 0 k) []:=⟨a,k,rfl,Nat.zero_le _,hk,fun i h=>absurd h (Nat.not_lt_zero _)⟩
theorem SQ(n:Nat):gR (DN n):=(gR.ptr _).map
theorem Wl(W:World)(u:Value):(Instr.typeAssert (.iface 329 u) 20 329 false).run Tryz.prog W=.ok u W:=by kernel_rfl
theorem PV:(Tryz.prog.info? 329).map (fun i=>(i.zero,i.size,i.bytes))=some (some xB,1,8):=by kernel_rfl
theorem Pc(args:Array Value)(W:World):Sem.run Tryz.prog (callFunc 186 args) W=.ok (.enter 186 args) W:=by kernel_rfl
theorem pM(c:Cx)(hL:dg c)(n:Nat)(hm:n≤1099511627776)(hV:aS c 136 #[.pointer (some ⟨c.pb,0,none⟩),.bool false] (bo (rd c.s) n false) (cH n)):aS c 138 #[.pointer (some ⟨c.pb,0,none⟩)] (iJ (rd c.s) n) (P6 n):=by
 have DI:=ae (gi c hL 186 (kQ (rd c.s) n) (au.iface 329 (DN n)) 4 5 n true (yO c hL n hV) (qo.iface _ _) hm Pc);have HP:Hd (∀t w W,gb c t w→Sm [] w W→Calls Tryz.prog 74 #[.pointer (some ⟨c.pb,0,none⟩),.int .i64 4] W (jJ (decide (t.kind=4)) W)):=fun t w W h hw=>lH c 4 t W (h.cI hw);have xZ:=ae hm;clear hL hm hV;refine fj fun t w r hr ho h=>?_;unfold iJ at hr;rw[dd] at hr;have HO:=ae ho;have aD:=ae h;by_cases hk:t.kind=4
 · rw[if_pos hk] at hr;have bH:=ae hr;have y:decide (t.kind=4)=true:=by simpa using hk
   clear h ho hr hk;go_enter Tryz.func138,Tryz.ntmps138;go_wp2_with fail;refine(HP.o t w _ aD.o (by(repeat(first| exact sr|assumption|refine Sm.alloc ?_ _|refine Sm.drew ?_|refine Sm.drewN ?_ _)))).mono ?_;rintro e w1 ⟨rfl,cJ⟩;have ya:Hd (Sm [] (w.alloc (.cells #[] 329 (0,0))) w1):=cJ;have av:Hd (Sm [] w w1):=((Sm.refl [] w).alloc _).trans cJ;have iq:=er (World.ownsRow_made (base:=w.heap.size) (size:=1) (e:=329) w #[] 0 lr (by simp[maxLen]) rfl) cJ (fun k hk=>by cases hk);have nU:=ae iq;clear cJ iq;go_wp2_with fail;refine(DI.o t w1 (aD.o.cI av.o) (aH bH HO)).mono ?_;intro e w2 h1;rcases h1.cases (aH bH HO) with⟨x2,t2,v2,hx,rfl,qh,aW,ax⟩|⟨p,v,u,hx,rfl,HU,ax⟩
   rotate_left
   · have fv:=ae (bc bH hx);clear hx h1;go_wp2_with fail;go_returns;exact aA fv.o av.o.of_nil HU.o ax.o
   have dZ:Hd (r=.ok x2.flatten t2):=(bK bH hx).out.symm;obtain⟨aa,nn,kk,hv⟩:=(DM.list _).out qh.o;subst hv;obtain⟨hn,(DE:Hd _)⟩:=iY qh.o;subst hn;have HX:=ae hx;clear h1 hx bH y;have Cl:∀k,k∈[c.pb,c.vb]→k<w.heap.size:=fun k hk=>by have a1:=aD.o.lt;have a2:=aD.o.wh;simp at hk;omega
   have Bx:Hd (w2.ownsRow w.heap.size 329 1 (.slice (some ⟨w.heap.size,0,none⟩) 0 0) 0 []):=er nU.o ax.o Cl;have Ae:Hd (Sm [c.pb,c.vb] w w2):=av.o.of_nil.trans ax.o;have Kk:Hd (∀q,Value.ownBlock (.slice (some ⟨w.heap.size,0,none⟩) 0 0)=some q→q<w1.heap.size∨w2.heap.size≤q):=vv ya.o;have A9:Hd (w.heap.size≤w1.heap.size):=av.o.size;have lz:Hd (x2.length≤1099511627776):=Nat.le_trans (gj HX.o) xZ.o;have Kb:=Wl;have z0:(0:Int)≤(x2.length:Int):=by omega
   clear Cl;go_wp2_with fail
   go_loopg [4,23] x2.length (fun g v ii wr=>fk c t2 (DN n) 329 w w2 w1.heap.size w2.heap.size x2 g v ii wr)
   case atStart=>unfold fk;exact⟨0,[],_,_,by simp,rfl,rfl,Bx.o,by unfold Hd;rw[List.take_zero];exact .nil,Kk.o,mz.refl _ _ _,aW.o,Ae.o,lr⟩
   case round=>
    unfold fk at hrel;obtain⟨j,vs,a,k,r4,rfl,rfl,mx,mX,lg,ki,rl,Ad,sa⟩:=hrel;have jF:=ae r4;by_cases hj:j<x2.length
    · obtain⟨bb,oo,u,E3,gP,kh,hc,hu⟩:=DE.o j hj;subst E3;have Cd:wr.cell? ⟨bb,oo+j,none⟩=some u:=(ki.o.cell gP kh).trans hc;have wQ:=(au.iface 329 (DN n)).keep hu ki.o;obtain⟨uu,rfl,s5⟩:=wQ;obtain⟨ab,jd⟩:=(SQ n).out s5;subst jd;have z1:(j:Int)<(x2.length:Int):=by omega
      have z2:(0:Int)≤(j:Int):=by omega
      have how:=mx.o;have de:(j+1)*8≤140737488355328:=by have:=lz.o;omega
      have cv:w.heap.size≤wr.heap.size:=Ad.o.size;have HJ:=ae hj;have E5:=lz.o;clear r4 hc hu gP kh;go_wp2_with (at_builtin;refine gH _ rfl _ _ _ rfl 329 _ 1 8 Tryz.underlying210 PV rfl (by omega) (by omega) _ j vs rfl how _ rfl rfl (by simp[Value.oneCell']) de (by omega) ?_);intro g dM w' aQ (HG:Hd _) bV ea;have qU:Hd (w'.ownsRow w.heap.size 329 1 (.slice (some ⟨g,0,none⟩) (j+1) dM) (j+1) (vs++[.pointer ab])):=by unfold Hd;simpa using aQ
      have bX:Hd (Value.ownBlock (.slice a j k)=some g∨wr.heap.size≤g):=bV.imp id (fun e=>by omega);have HU:=ae s5;have iD:=ae how;clear aQ bV ea how de Cd s5;go_wp2_with fail;go_roundg (gk-1)
      case measure=>have:=jF.o;have:=HJ.o;omega
      case rel=>
       unfold fk;refine⟨j+1,vs++[.pointer ab],some ⟨g,0,none⟩,dM,by have:=jF.o;have:=HJ.o;omega,rfl,by go_num,by unfold Hd;simpa using qU.out,?_,?_,?_,?_,?_,?_⟩
       · rw[gA HJ.o];exact mX.o.add HG.o bX.o A9.o sa.o lg.o HU.o
       · exact pd bX.o sa.o lg.o
       · exact ki.o.grown HG.o sa.o lg.o
       · exact rl.o.grown aD.o HG.o (fun q hq=>(iD.o.lt q hq).1)
       · exact Ad.o.grown HG.o (fun q hq=>.inl (iD.o.lt q hq).1)
       · exact Nat.le_trans sa.o HG.o.size
    · obtain rfl:j=x2.length:=by omega
      have z1:¬((x2.length:Int)<(x2.length:Int)):=by omega
      have DF:Hd ((au.list (DN n)).rd w.heap.size wr.heap.size wr (.slice a x2.length k) x2):=cW mx.o (by have:=mX.o;rwa [List.take_length] at this);clear r4;go_wp2_with fail;go_returns;exact aG dZ.o Ad.o ⟨_,rfl,DF.o⟩ rl.o
 · rw[if_neg hk] at hr;have bH:Hd (r=.ok [] t):=hr.symm;have y:decide (t.kind=4)=false:=by simpa using hk
   clear h ho hr hk;go_enter Tryz.func138,Tryz.ntmps138;go_wp2_with fail;refine(HP.o t w _ aD.o (by(repeat(first| exact sr|assumption|refine Sm.alloc ?_ _|refine Sm.drew ?_|refine Sm.drewN ?_ _)))).mono ?_;rintro e w1 ⟨rfl,cJ⟩;have av:Hd (Sm [] w w1):=((Sm.refl [] w).alloc _).trans cJ;clear cJ;go_wp2_with fail;go_returns;exact aG bH.o av.o.of_nil ⟨[],rfl,rJ _ _⟩ (aD.o.cI av.o)
theorem xD(c:Cx)(hL:dg c)(n:Nat)(hm:n≤1099511627776)(hV:aS c 136 #[.pointer (some ⟨c.pb,0,none⟩),.bool false] (bo (rd c.s) n false) (cH n)):aS c 107 #[.pointer (some ⟨c.pb,0,none⟩)] (ko (rd c.s) n) (KA n):=by
 have HE:=ae (eB c hL 9);have HN:=ae (cd c hL);have HA:=ae (pM c hL n hm hV);have ic:=ae (vk c);have jk:=ae zQ;clear hL hm hV;refine fj fun t w r hr (HO:Hd _) h=>?_;unfold ko at hr;have bH:=ae hr;have aD:=ae h;have c6:=h.c6;clear h hr;go_enter Tryz.func107,Tryz.ntmps107;go_wp2_with fail;refine lN HE.o aD bH HO sr (fun v w1 u HE=>?_) fun x1 t1 w1 dZ cA av=>?_
 · go_wp2_with fail;go_returns;exact HE.o _ _
 clear bH;go_wp2_with fail;refine dj HN.o cA dZ HO av.o (fun v w2 u HE=>?_) fun x2 t2 w2 v2 dN qh aW ax=>?_
 · go_wp2_with fail;go_returns;exact HE.o _ _
 clear dZ;obtain⟨a2,hv⟩:=ef.out qh.o;subst hv;go_wp2_with fail;refine dj HA.o aW dN HO (av.o.trans ax.o) (fun v w3 u HE=>?_) fun x3 t3 w3 v3 iE ib bT aO=>?_
 · go_wp2_with fail;go_returns;exact HE.o _ _
 clear dN;obtain⟨a3,n3,m3,hv⟩:=(dS _).out ib.o;subst hv;go_wp2_with fail;refine(ic.o t3 _ _ bT.o).mono ?_;rintro e wl ⟨lb,i,j,sp,rfl,cO,lC,fM⟩;go_wp2_with fail;refine(jk.o _ ⟨#[]⟩ (some ⟨lb,0,none⟩) a2 a3 n3 m3 _ (ai _ _)).mono ?_;rintro e wn ⟨nb,ks,rfl,dC,fO,fH⟩;have HQ:=dP fO;go_wp2_with fail;go_returns;have z1:=av.o.size;have z2:=ax.o.size;have z3:=aO.o.size;have zl:=cO.size;have zn:=fH;simp at zn;have y4:=cO.trans HQ.o;have y3:=aO.o.trans y4.of_nil;have y2:=ax.o.trans y3;have y1:=av.o.trans y2;exact aG (show r=.ok _ _ from iE.o.symm) y1 (RX n dC (by omega) (lt_of_block dC) (bY fM HQ.o (by omega) lr) (kp qh cA y3 (by omega)) (kp ib aW y4.of_nil (by omega))) (bT.o.cI y4)
theorem SR(n:Nat):gR (KA n):=(gR.ptr _).map
theorem PW:(Tryz.prog.info? 172).map (fun i=>(i.zero,i.size,i.bytes))=some (some xB,1,8):=by kernel_rfl
def Fw(c:Cx)(n:Nat)(w:World)(r':PR (List (List Nd)))(g:Nat)(v:Value)(wr:World):Prop:=
 ∃acc t' vs a k,acc.length+g≤n∧v=.slice a acc.length k∧Hd (rF (rd c.s) n g acc t'=r')∧Hd (gb c t' wr)∧Hd (wr.ownsRow w.heap.size 172 1 v acc.length vs)∧Hd (bP (KA n) w.heap.size wr v.ownBlock vs acc)∧Hd (Sm [c.pb,c.vb] w wr)
theorem bF(c:Cx)(hL:dg c)(n:Nat)(hm:n≤1099511627776)(hV:aS c 136 #[.pointer (some ⟨c.pb,0,none⟩),.bool false] (bo (rd c.s) n false) (cH n)):aS c 80 #[.pointer (some ⟨c.pb,0,none⟩)] (bN (rd c.s) n) (gX n):=by
 have HD:=ae (xD c hL n hm hV);have HP:Hd (∀t W,gb c t W→Calls Tryz.prog 74 #[.pointer (some ⟨c.pb,0,none⟩),.int .i64 9] W (jJ (decide (t.kind=9)) W)):=fun t W h=>lH c 9 t W h;have xZ:=ae hm;clear hL hm hV;refine fj fun t w r hr (HO:Hd _) h=>?_;unfold bN at hr;have bH:=ae hr;have aD:=ae h;have ud:=ae (aH bH HO);obtain⟨r',nj⟩:∃r',rF (rd c.s) n n [] t=r':=⟨_,rfl⟩;have dN:=ae nj;have oB:Hd (r'≠.eo):=by have:=ud.o;rw[nj] at this;exact this
 have HK:Hd (∀l t',r'=.ok l t'→r=.ok l.flatten t'):=fun l t' e=>(bK bH (nj.trans e)).out.symm;have Ib:Hd (∀p,r'=.err p→r=.err p):=fun p e=>bc bH (nj.trans e);clear h hr nj ud bH;go_enter Tryz.func80,Tryz.ntmps80;go_wp2_with fail
 go_loopg [4] n (fun g v wr=>Fw c n w r' g v wr)
 case atStart=>unfold Fw;exact⟨[],t,[],_,_,by simp,rfl,dN,aD.o.cI (sr.alloc _),World.ownsRow_made (base:=w.heap.size) (size:=1) w #[] 0 lr (by simp[maxLen]) rfl,.nil,sr.alloc _⟩
 case round=>
  unfold Fw at hrel;obtain⟨acc,t2,vs,a,k,hlen,rfl,HI,aW,mx,mX,ax⟩:=hrel
  obtain⟨m',rfl⟩:∃m',gk=m'+1:=by
   cases gk with
   | zero=>exact absurd HI.o.symm oB.o
   | succ m'=>exact⟨m',rfl⟩
  have hi:(if t2.kind=9 then(ko (rd c.s) n>>=fun d=>rF (rd c.s) n m' (acc++[d])) else pure acc:PM (List (List Nd))) t2=r':=HI.o;have HZ:Hd (c.pb<w.heap.size∧c.vb<w.heap.size):=⟨aD.o.lt,aD.o.wh⟩;by_cases hk:t2.kind=9
  · rw[if_pos hk] at hi;have px:=ae hi;have y:decide (t2.kind=9)=true:=by simpa using hk
    have wL:=ae hlen;clear hi HI hk hlen;go_wp2_with fail;refine(HP.o t2 _ aW.o).mono ?_;rintro e w3 ⟨rfl,(aO:Hd _)⟩;go_wp2_with fail;refine(HD.o t2 _ (aW.o.cI aO.o) (aH px oB)).mono ?_;intro e w4 h1;rcases h1.cases (aH px oB) with⟨x4,t4,v4,hx,rfl,jc,dJ,cy⟩|⟨p,v,u,hx,rfl,HU,cy⟩
    rotate_left
    · have fv:=ae (Ib.o _ (bc px hx));clear hx h1 y;go_wp2_with fail;go_returns;exact aA fv.o (ax.o.trans aO.o.of_nil) HU.o cy.o
    have vV:=bK px hx;obtain⟨ab,hv⟩:=(SR n).out jc.o;subst hv;have o6:∀q,q∈[c.pb,c.vb]→q<w.heap.size:=fun q hq=>by have:=HZ.o;simp at hq;omega
    have PQ:∀q,q∈([]:List Nat)→q<w.heap.size:=fun q hq=>by cases hq
    have vl:w.heap.size≤w3.heap.size:=by have h5:=ax.o.size;have h6:=aO.o.size;omega
    have Gd:w3.heap.size≤w4.heap.size:=cy.o.size;have lT:=er mx.o aO.o PQ;have how:=er lT cy.o o6;have xg:=ae (mX.o.sm aO.o PQ);have xh:=ae lT;have HL:=ae vl;have de:(acc.length+1)*8≤140737488355328:=by have:=xZ.o;have:=wL.o;omega
    clear hx h1 px lT y;go_wp2_with (at_builtin;refine gH _ rfl _ _ _ rfl 172 _ 1 8 Tryz.underlying121 PW rfl (by omega) (by omega) _ acc.length vs rfl how _ rfl rfl (by simp[Value.oneCell']) de (by omega) ?_);intro g dM w' aQ (HG:Hd _) bV ea;have qU:Hd (w'.ownsRow w.heap.size 172 1 (.slice (some ⟨g,0,none⟩) (acc.length+1) dM) (acc.length+1) (vs++[.pointer ab])):=by unfold Hd;simpa using aQ
    have bX:Hd (Value.ownBlock (.slice a acc.length k)=some g∨w4.heap.size≤g):=bV.imp id (fun e=>by omega);have iD:=ae how;clear aQ bV ea how de;go_wp2_with fail;go_roundg m'
    case measure=>omega
    case rel=>
     unfold Fw;have iq:∀q,Value.ownBlock (.slice a acc.length k)=some q→w.heap.size≤q:=fun q hq=>(iD.o.lt q hq).1;refine⟨acc++[x4],t4,vs++[.pointer ab],some ⟨g,0,none⟩,dM,by have:=wL.o;simp;omega,by simp,vV,?_,?_,?_,?_⟩
     · exact dJ.o.grown aD.o HG.o iq
     · have:=qU.out;unfold Hd;simpa using this
     · refine bP.push (W:=w4) xg.o Gd (fun q q1 q2=>cy.o.block q q2 (fun hq=>by have:=o6 q hq;omega)) xh.o HG.o bX.o HL.o lr lr jc.o
     · exact((ax.o.trans aO.o.of_nil).trans cy.o).grown HG.o (fun q hq=>.inl (iq q hq))
  · rw[if_neg hk] at hi;have Ab:Hd (r=.ok acc.flatten t2):=HK.o _ _ hi.symm;have y:decide (t2.kind=9)=false:=by simpa using hk
    have Hz:Hd ((au.list (KA n)).rd w.heap.size wr.heap.size wr (.slice a acc.length k) acc):=cW mx.o mX.o;clear hi HI hk hlen;go_wp2_with fail;refine(HP.o t2 _ aW.o).mono ?_;rintro e w3 ⟨rfl,(aO:Hd _)⟩;go_wp2_with fail;go_returns;exact aG Ab.o (ax.o.trans aO.o.of_nil) ⟨acc,rfl,(au.list (KA n)).wide (au.sm Hz.o aO.o lr (fun q hq=>by cases hq)) lr aO.o.size⟩ (aW.o.cI aO.o)
section
variable{α:Type}{L:Nat→LR}{f:Unit→PM α}{t u:Tok}{r:PR α}{p:Nat}
theorem lP(h:Hd ((bm L>>=f) t=r))(hr:Hd (r≠.eo)):Hd (L t.stop≠.eo):=fun e=>by have h1:=h.out;rw[aj] at h1;unfold bm at h1;rw[e] at h1;exact hr.out h1.symm
theorem lQ(h:Hd ((bm L>>=f) t=r))(hx:L t.stop=.tok u):Hd (f () u=r):=by have h1:=h.out;rw[aj] at h1;unfold bm at h1;rw[hx] at h1;exact h1
theorem jK(h:Hd ((bm L>>=f) t=r))(hx:L t.stop=.err p):r=.err p:=by have h1:=h.out;rw[aj] at h1;unfold bm at h1;rw[hx] at h1;exact h1.symm
end
def Xx(R:au (List Nd))(F:ByteArray→List Nd):Prop:=∀(lo hi:Nat) (w:World) (b:Nat) (t:TypeId) (K L:Value) (s:ByteArray),w.heap[b]?=some (.cells #[K,L,.string s] t (0,0))→lo≤b→b<hi→dR.rd lo hi w L ()→R.rd lo hi w (.pointer (some ⟨b,0,none⟩)) (F s)
theorem mK(c:Cx)(hL:dg c)(F:ByteArray→List Nd)(R:au (List Nd))(hR:Xx R F) :
 aS c 183 #[.pointer (some ⟨c.pb,0,none⟩)] (eU>>=fun t=>bm (rd c.s)>>=fun _=>pure (F t.val)) R:=by
 have vU:=ae (jf c hL);have ic:=ae (vk c);have Az:=ae xA;have HRR:=ae hR;clear hL hR;refine fj fun t w r hr (HO:Hd _) h=>?_;rw[dd] at hr;have bH:=ae hr;have aD:=ae h;have c5:=h.c5;have c6:=h.c6;have c7:=h.c7;have c8:=h.c8;clear h hr;go_enter Tryz.func183,Tryz.ntmps183;go_wp2_with fail;have nT:=lP bH HO;refine(vU.o t _ (aD.o.cI (by(repeat(first| exact sr|assumption|refine Sm.alloc ?_ _|refine Sm.drew ?_|refine Sm.drewN ?_ _)))) nT.o).mono ?_;intro e w2 h1;rcases h1.cases nT.o with⟨u,hx,rfl,aW,ax⟩|⟨p,v,hx,rfl,HU,_,ax⟩
 rotate_left
 · have fv:=ae (jK bH hx);clear hx h1;go_wp2_with fail;go_returns;exact aA fv.o (sr.alloc _) HU.o ax.o
 have dN:=lQ bH hx;have Ih:Hd (Sm [c.pb,c.vb] w w2):=(sr.alloc (aU t)).trans ax.o;have zC:w.heap.size∉[c.pb,c.vb]:=fun hm=>by have a1:=aD.o.lt;have a2:=aD.o.wh;simp at hm;omega
 have b1:w2.cell? ⟨w.heap.size,1,none⟩=some (.int .i64 (t.start:Int)):=ax.o.keeps (cell_of (ai w (aU t)) rfl) zC;have b3:w2.cell? ⟨w.heap.size,3,none⟩=some (.string t.val):=ax.o.keeps (cell_of (ai w (aU t)) rfl) zC;clear hx h1 zC;go_wp2_with fail
 go_region_held3 (fun W=>W.cell? ⟨w.heap.size,1,none⟩=some (.int .i64 (t.start:Int))∧W.cell? ⟨w.heap.size,3,none⟩=some (.string t.val)) (go_keep)
  (first
   | (
    go_at_call 44;refine(ic.o u _ _ (aW.o.cI ?_)).mono ?_;(repeat(first| exact sr|assumption|refine Sm.alloc ?_ _|refine Sm.drew ?_|refine Sm.drewN ?_ _));rintro e wl ⟨lb,i,j,sp,rfl,cO,lC,fM⟩
    have js:=(show Sm [] w2 _ from(by(repeat(first| exact sr|assumption|refine Sm.alloc ?_ _|refine Sm.drew ?_|refine Sm.drewN ?_ _)))).trans cO
    have q1:=js.keeps b1 (by simp);have q3:=js.keeps b3 (by simp))
   | (
    go_at_call 206;refine(Az.o _ ⟨#[]⟩ (some ⟨lb,0,none⟩) t.val _ ?_).mono ?_;exact ai _ _;rintro e wn ⟨nb,ks,rfl,dC,fO,fH⟩
    have mE:Sm [] wl wn:=sG fO (by(repeat(first| exact sr|assumption|refine Sm.alloc ?_ _|refine Sm.drew ?_|refine Sm.drewN ?_ _))) lr
    have u1:=mE.keeps q1 (by simp);have u3:=mE.keeps q3 (by simp)))
 all_goals go_wp2_with fail;go_returns;have g1:=Ih.o.size;have g2:=js.size;have g3:=fH;have g4:=lC;simp at g3 g4;exact aG (show r=.ok _ _ from dN.o.symm) (Ih.o.trans (js.trans mE).of_nil) (HRR.o _ _ _ _ _ _ _ _ dC (by omega) (lt_of_block dC) (bY fM mE (by omega) lr)) (aW.o.cI (js.trans mE))
theorem cX(c:Cx)(hL:dg c):aS c 146 #[.pointer (some ⟨c.pb,0,none⟩)] (ec (rd c.s)) jX:=by
 have HS:=ae (mK c hL (fun s=>made {kind:=23,text:=s} []) jX (fun _ _ _ _ _ _ _ _ ho g1 g2 hl=>.inr (Pn ho g1 g2 hl rfl)));have HP:=ae (oE c);clear hL;intro t w h ho;obtain⟨r,hr⟩:∃r,ec (rd c.s) t=r:=⟨_,rfl⟩;rw[hr] at ho ⊢;unfold ec at hr;rw[dd] at hr;have HO:=ae ho;have aD:=ae h;by_cases hk:t.kind=18∨t.kind=19
 · rw[if_pos hk] at hr;have bH:Hd ((eU>>=fun t=>bm (rd c.s)>>=fun _=>(pure (made {kind:=23,text:=t.val} []):PM (List Nd))) t=r):=hr;have ud:Hd ((eU>>=fun t=>bm (rd c.s)>>=fun _=>(pure (made {kind:=23,text:=t.val} []):PM (List Nd))) t≠.eo):=fun e=>HO.o (bH.o.symm.trans e);have y:decide (t.kind=18∨t.kind=19)=true:=by simpa using hk
   clear h ho hr hk;go_enter Tryz.func146,Tryz.ntmps146;go_wp2_with fail;refine(HP.o t _ aD.o).mono ?_;rw[y];rintro e w1 ⟨rfl,(ya:Hd _)⟩;clear y;go_wp2_with fail;refine(HS.o t _ (aD.o.cI ya.o) ud.o).mono ?_;intro e w2 h1;rcases h1.cases ud.o with⟨x1,t1,v1,hx,rfl,jE,cA,av⟩|⟨p,v,u,hx,rfl,HU,av⟩
   · have HX:=ae (bH.o.symm.trans hx);clear hx h1;go_wp2_with fail;go_returns;exact aG HX.o (ya.o.of_nil.trans av.o) (jX.wide jE.o ya.o.size lr) cA.o
   · have HX:=ae (bH.o.symm.trans hx);clear hx h1;go_wp2_with fail;go_returns;exact aA HX.o ya.o.of_nil HU.o av.o
 · rw[if_neg hk] at hr;have bH:Hd (r=.ok [] t):=hr.symm;have y:decide (t.kind=18∨t.kind=19)=false:=by simpa using hk
   clear h ho hr hk;go_enter Tryz.func146,Tryz.ntmps146;go_wp2_with fail;refine(HP.o t _ aD.o).mono ?_;rw[y];rintro e w1 ⟨rfl,(ya:Hd _)⟩;clear y;go_wp2_with fail;go_returns;exact aG bH.o ya.o.of_nil (.inl ⟨rfl,rfl⟩) (aD.o.cI ya.o)
theorem wy(c:Cx)(n:Nat)(hV:aS c 136 #[.pointer (some ⟨c.pb,0,none⟩),.bool false] (bo (rd c.s) n false) (cH n)):aS c 202 #[.pointer (some ⟨c.pb,0,none⟩)] (bo (rd c.s) n false) (cH n):=by
 have HV:=ae (hV);clear hV;intro t w (aD:Hd _) (HO:Hd _);go_enter Tryz.func202,Tryz.ntmps202;go_wp2_with fail;refine(HV.o t _ aD.o HO.o).mono ?_;intro e w1 h1;rcases h1.cases HO.o with⟨x1,t1,v1,hx,rfl,jE,cA,av⟩|⟨p,v,u,hx,rfl,HU,av⟩
 · have HX:=ae hx;clear hx h1;go_wp2_with fail;go_returns;exact aG HX.o av.o jE.o cA.o
 · have HX:=ae hx;clear hx h1;go_wp2_with fail;go_returns;exact aA HX.o sr HU.o av.o
theorem oD(c:Cx)(n:Nat)(hV:aS c 136 #[.pointer (some ⟨c.pb,0,none⟩),.bool true] (bo (rd c.s) n true) (cH n)):aS c 191 #[.pointer (some ⟨c.pb,0,none⟩)] (bo (rd c.s) n true) (cH n):=by
 have HV:=ae (hV);clear hV;intro t w (aD:Hd _) (HO:Hd _);go_enter Tryz.func191,Tryz.ntmps191;go_wp2_with fail;refine(HV.o t _ aD.o HO.o).mono ?_;intro e w1 h1;rcases h1.cases HO.o with⟨x1,t1,v1,hx,rfl,jE,cA,av⟩|⟨p,v,u,hx,rfl,HU,av⟩
 · have HX:=ae hx;clear hx h1;go_wp2_with fail;go_returns;exact aG HX.o av.o jE.o cA.o
 · have HX:=ae hx;clear hx h1;go_wp2_with fail;go_returns;exact aA HX.o sr HU.o av.o
theorem o9(c:Cx)(hL:dg c)(n:Nat)(b:Bool)(hV:aS c 136 #[.pointer (some ⟨c.pb,0,none⟩),.bool b] (bo (rd c.s) n b) (cH n)):aS c 204 #[.pointer (some ⟨c.pb,0,none⟩),.bool b] (fx (rd c.s) (bo (rd c.s) n b)) (oQ (cH n)):=by
 have HN:=ae (cd c hL);have HE:=ae (eB c hL 7);have HV:=ae (hV);have ic:=ae (vk c);have jk:=ae xz;clear hL hV;refine fj fun t w r hr (HO:Hd _) h=>?_;unfold fx at hr;have bH:=ae hr;have aD:=ae h;have c6:=h.c6;clear h hr;go_enter Tryz.func204,Tryz.ntmps204;go_wp2_with fail;refine dj HN.o aD bH HO sr (fun v w1 u HE=>?_) fun x1 t1 w1 v1 dZ jE cA av=>?_
 · go_wp2_with fail;go_returns;exact HE.o _ _
 clear bH;obtain⟨a1,hv⟩:=ef.out jE.o;subst hv;go_wp2_with fail;refine lN HE.o cA dZ HO av.o (fun v w2 u HE=>?_) fun x2 t2 w2 dN aW ax=>?_
 · go_wp2_with fail;go_returns;exact HE.o _ _
 clear dZ;go_wp2_with fail;refine dj HV.o aW dN HO (av.o.trans ax.o) (fun v w3 u HE=>?_) fun x3 t3 w3 v3 iE ib bT aO=>?_
 · go_wp2_with fail;go_returns;exact HE.o _ _
 clear dN;obtain⟨WJ,u3,hv⟩:=(kv n).out ib.o;subst hv;go_wp2_with fail;refine(ic.o t3 _ _ bT.o).mono ?_;rintro e wl ⟨lb,i,j,sp,rfl,cO,lC,fM⟩;go_wp2_with fail;refine(jk.o _ ⟨#[]⟩ a1 (some ⟨lb,0,none⟩) (.iface WJ u3) _ (ai _ _) (.inr ⟨_,_,rfl⟩)).mono ?_;rintro e wn ⟨nb,ks,rfl,dC,fO,fH⟩;have HQ:=dP fO;go_wp2_with fail;go_returns;have z1:=av.o.size;have z2:=ax.o.size;have z3:=aO.o.size;have zl:=cO.size;have zn:=fH;simp at zn;have y4:=cO.trans HQ.o;have y3:=aO.o.trans y4.of_nil;have y2:=ax.o.trans y3;have y1:=av.o.trans y2;exact aG (show r=.ok _ _ from iE.o.symm) y1 (La (cH n) dC (by omega) (lt_of_block dC) (kp jE aD y2 (by omega)) (bY fM HQ.o (by omega) lr) (kp ib aW y4.of_nil (by omega))) (bT.o.cI y4)
theorem Yz(W:World)(u:Value):(Instr.typeAssert (.iface 196 u) 20 204 false).run Tryz.prog W=.ok (.iface 196 u) W:=by kernel_rfl
theorem YA(W:World)(u:Value):(Instr.typeAssert (.iface 316 u) 20 204 false).run Tryz.prog W=.ok (.iface 316 u) W:=by kernel_rfl
theorem YB(W:World)(u:Value):(Instr.typeAssert (.iface 319 u) 20 204 false).run Tryz.prog W=.ok (.iface 319 u) W:=by kernel_rfl
theorem YC(W:World)(u:Value):(Instr.typeAssert (.iface 231 u) 20 204 false).run Tryz.prog W=.ok (.iface 231 u) W:=by kernel_rfl
theorem YD(W:World)(u:Value):(Instr.typeAssert (.iface 322 u) 20 204 false).run Tryz.prog W=.ok (.iface 322 u) W:=by kernel_rfl
theorem YE(W:World)(u:Value):(Instr.typeAssert (.iface 326 u) 20 204 false).run Tryz.prog W=.ok (.iface 326 u) W:=by kernel_rfl
theorem YF(W:World)(u:Value):(Instr.typeAssert (.iface 310 u) 20 204 false).run Tryz.prog W=.ok (.iface 310 u) W:=by kernel_rfl
theorem YG(W:World)(u:Value):(Instr.typeAssert (.iface 313 u) 20 204 false).run Tryz.prog W=.ok (.iface 313 u) W:=by kernel_rfl
theorem JL:∀(n:Nat) {lo hi:Nat} {w:World} {v:Value} {x:List Nd},(cH n).rd lo hi w v x→∀W,(Instr.typeAssert v 20 204 false).run Tryz.prog W=.ok v W
 | 0,_,_,_,_,_,h,_=>h.elim
 | n+1,_,_,_,_,_,h,W=>by
  rcases h with⟨u,rfl,_⟩|⟨u,rfl,_⟩|⟨u,rfl,_⟩|⟨u,rfl,_⟩|⟨u,rfl,_⟩|⟨u,rfl,_⟩|⟨u,rfl,_⟩|⟨u,rfl,_⟩
  · exact Yz W u
  · exact YA W u
  · exact YB W u
  · exact YC W u
  · exact YD W u
  · exact YE W u
  · exact YF W u
  · exact YG W u
theorem Cp:(Tryz.prog.info? 204).map (fun i=>(i.zero,i.size,i.bytes))=some (some .nilIface,1,16):=by kernel_rfl
theorem RU(args:Array Value)(W:World):Sem.run Tryz.prog (callFunc 202 args) W=.ok (.enter 202 args) W:=by kernel_rfl
theorem RS(args:Array Value)(W:World):Sem.run Tryz.prog (callFunc 191 args) W=.ok (.enter 191 args) W:=by kernel_rfl
theorem AX(c:Cx)(hL:dg c)(n:Nat)(hm:n≤1099511627776)(hV:aS c 136 #[.pointer (some ⟨c.pb,0,none⟩),.bool false] (bo (rd c.s) n false) (cH n)):aS c 179 #[.pointer (some ⟨c.pb,0,none⟩),.bool false] (bW (rd c.s) n 10 (bo (rd c.s) n false) 11 false>>=fun l=>pure (made {kind:=17} l)) (J7 (cH n)):=by
 have DI:=ae (gi c hL 202 (bo (rd c.s) n false) (cH n) 10 11 n false (wy c n hV) (kv n) hm RU);have ic:=ae (vk c);have jk:=ae rM;have xZ:=ae hm;clear hL hm hV;refine fj fun t w r (bH:Hd _) (HO:Hd _) h=>?_;have aD:=ae h;have c6:=h.c6;clear h;go_enter Tryz.func179,Tryz.ntmps179;go_wp2_with fail;have av:Hd (Sm [] w (w.alloc (.cells #[] 204 (0,0)))):=(Sm.refl [] w).alloc _;have nU:Hd ((w.alloc (.cells #[] 204 (0,0))).ownsRow w.heap.size 204 1 (.slice (some ⟨w.heap.size,0,none⟩) 0 0) 0 []):=World.ownsRow_made (base:=w.heap.size) (size:=1) (e:=204) w #[] 0 lr (by simp[maxLen]) rfl;obtain⟨w1,zE⟩:∃w1,w1=w.alloc (.cells #[] 204 (0,0)):=⟨_,rfl⟩;have ya:Hd (Sm [] (w.alloc (.cells #[] 204 (0,0))) w1):=by rw[zE];exact sr
 rw[←zE] at av nU ⊢;clear zE c6;refine Z03 DI.o (aD.o.cI av.o) bH HO av.o.of_nil (fun v w2 u HE=>?_) fun x2 t2 w2 v2 hx dZ qh aW ax=>?_
 · go_wp2_with fail;go_returns;exact HE.o _ _
 obtain⟨aa,nn,kk,hv⟩:=(DM.list _).out qh.o;subst hv;obtain⟨hn,(DE:Hd _)⟩:=iY qh.o;subst hn;have HX:=ae hx;clear bH;have Cl:∀k,k∈[c.pb,c.vb]→k<w.heap.size:=fun k hk=>by have a1:=aD.o.lt;have a2:=aD.o.wh;simp at hk;omega
 have Bx:Hd (w2.ownsRow w.heap.size 204 1 (.slice (some ⟨w.heap.size,0,none⟩) 0 0) 0 []):=er nU.o ax.o Cl;have Ae:Hd (Sm [c.pb,c.vb] w w2):=av.o.of_nil.trans ax.o;have Kk:Hd (∀q,Value.ownBlock (.slice (some ⟨w.heap.size,0,none⟩) 0 0)=some q→q<w1.heap.size∨w2.heap.size≤q):=vv ya.o;have A9:Hd (w.heap.size≤w1.heap.size):=av.o.size;have lz:Hd (x2.length≤1099511627776):=Nat.le_trans (gj HX.o) xZ.o;have z0:(0:Int)≤(x2.length:Int):=by omega
 clear Cl hx;go_wp2_with fail
 go_loopg [8,31] x2.length (fun g v ii wr=>fk c t2 (cH n) 204 w w2 w1.heap.size w2.heap.size x2 g v ii wr)
 case atStart=>unfold fk;exact⟨0,[],_,_,by simp,rfl,rfl,Bx.o,by unfold Hd;rw[List.take_zero];exact .nil,Kk.o,mz.refl _ _ _,aW.o,Ae.o,lr⟩
 case round=>
  unfold fk at hrel;obtain⟨j,vs,a,k,r4,rfl,rfl,mx,mX,lg,ki,rl,Ad,sa⟩:=hrel;have jF:=ae r4;by_cases hj:j<x2.length
  · obtain⟨bb,oo,u,E3,gP,kh,hc,hu⟩:=DE.o j hj;subst E3;have Cd:wr.cell? ⟨bb,oo+j,none⟩=some u:=(ki.o.cell gP kh).trans hc;have wQ:=(cH n).keep hu ki.o;obtain⟨ty,uu,hv⟩:=(kv n).out wQ;have Kb:=JL n wQ;subst hv;have s5:=wQ;have z1:(j:Int)<(x2.length:Int):=by omega
    have z2:(0:Int)≤(j:Int):=by omega
    have how:=mx.o;have de:(j+1)*16≤140737488355328:=by have:=lz.o;omega
    have cv:w.heap.size≤wr.heap.size:=Ad.o.size;have HJ:=ae hj;have E5:=lz.o;clear r4 hc hu gP kh;go_wp2_with (at_builtin;refine gH _ rfl _ _ _ rfl 204 _ 1 16 Tryz.underlying358 Cp rfl (by omega) (by omega) _ j vs rfl how _ rfl rfl (by simp[Value.oneCell']) de (by omega) ?_);intro g dM w' aQ (HG:Hd _) bV ea;have qU:Hd (w'.ownsRow w.heap.size 204 1 (.slice (some ⟨g,0,none⟩) (j+1) dM) (j+1) (vs++[.iface ty uu])):=by unfold Hd;simpa using aQ
    have bX:Hd (Value.ownBlock (.slice a j k)=some g∨wr.heap.size≤g):=bV.imp id (fun e=>by omega);have HU:=ae s5;have iD:=ae how;clear aQ bV ea how de Cd s5;go_wp2_with fail;go_roundg (gk-1)
    case measure=>have:=jF.o;have:=HJ.o;omega
    case rel=>
     unfold fk;refine⟨j+1,vs++[.iface ty uu],some ⟨g,0,none⟩,dM,by have:=jF.o;have:=HJ.o;omega,rfl,by go_num,by unfold Hd;simpa using qU.out,?_,?_,?_,?_,?_,?_⟩
     · rw[gA HJ.o];exact mX.o.add HG.o bX.o A9.o sa.o lg.o HU.o
     · exact pd bX.o sa.o lg.o
     · exact ki.o.grown HG.o sa.o lg.o
     · exact rl.o.grown aD.o HG.o (fun q hq=>(iD.o.lt q hq).1)
     · exact Ad.o.grown HG.o (fun q hq=>.inl (iD.o.lt q hq).1)
     · exact Nat.le_trans sa.o HG.o.size
  · obtain rfl:j=x2.length:=by omega
    have z1:¬((x2.length:Int)<(x2.length:Int)):=by omega
    have DF:Hd ((au.list (cH n)).rd w.heap.size wr.heap.size wr (.slice a x2.length k) x2):=cW mx.o (by have:=mX.o;rwa [List.take_length] at this);clear r4;go_wp2_with fail;refine(ic.o t2 _ _ rl.o).mono ?_;rintro e wl ⟨lb,i,j2,sp,rfl,cO,lC,fM⟩;go_wp2_with fail;refine(jk.o _ ⟨#[]⟩ (some ⟨lb,0,none⟩) a x2.length k _ (ai _ _)).mono ?_;rintro e wn ⟨nb,ks,rfl,dC,fO,fH⟩;have HQ:=dP fO;go_wp2_with fail;go_returns;have y1:=Ad.o.size;have zl:=cO.size;have zn:=fH;simp at zn;exact aG (show r=.ok _ _ from dZ.o.symm) (Ad.o.trans (cO.trans HQ.o).of_nil) (J8 (cH n) dC (by omega) (lt_of_block dC) (bY fM HQ.o (by omega) lr) ((au.list (cH n)).wide (au.sm DF.o (cO.trans HQ.o) lr (fun q hq=>by cases hq)) lr (cO.trans HQ.o).size)) (rl.o.cI (cO.trans HQ.o))
theorem CN(c:Cx)(hL:dg c)(n:Nat)(hm:n≤1099511627776)(hV:aS c 136 #[.pointer (some ⟨c.pb,0,none⟩),.bool true] (bo (rd c.s) n true) (cH n)):aS c 179 #[.pointer (some ⟨c.pb,0,none⟩),.bool true] (bW (rd c.s) n 10 (bo (rd c.s) n true) 11 false>>=fun l=>pure (made {kind:=17} l)) (J7 (cH n)):=by
 have DI:=ae (gi c hL 191 (bo (rd c.s) n true) (cH n) 10 11 n false (oD c n hV) (kv n) hm RS);have ic:=ae (vk c);have jk:=ae rM;have xZ:=ae hm;clear hL hm hV;refine fj fun t w r (bH:Hd _) (HO:Hd _) h=>?_;have aD:=ae h;have c6:=h.c6;clear h;go_enter Tryz.func179,Tryz.ntmps179;go_wp2_with fail;have av:Hd (Sm [] w (w.alloc (.cells #[] 204 (0,0)))):=(Sm.refl [] w).alloc _;have nU:Hd ((w.alloc (.cells #[] 204 (0,0))).ownsRow w.heap.size 204 1 (.slice (some ⟨w.heap.size,0,none⟩) 0 0) 0 []):=World.ownsRow_made (base:=w.heap.size) (size:=1) (e:=204) w #[] 0 lr (by simp[maxLen]) rfl;obtain⟨w1,zE⟩:∃w1,w1=w.alloc (.cells #[] 204 (0,0)):=⟨_,rfl⟩;have ya:Hd (Sm [] (w.alloc (.cells #[] 204 (0,0))) w1):=by rw[zE];exact sr
 rw[←zE] at av nU ⊢;clear zE c6;refine Z03 DI.o (aD.o.cI av.o) bH HO av.o.of_nil (fun v w2 u HE=>?_) fun x2 t2 w2 v2 hx dZ qh aW ax=>?_
 · go_wp2_with fail;go_returns;exact HE.o _ _
 obtain⟨aa,nn,kk,hv⟩:=(DM.list _).out qh.o;subst hv;obtain⟨hn,(DE:Hd _)⟩:=iY qh.o;subst hn;have HX:=ae hx;clear bH;have Cl:∀k,k∈[c.pb,c.vb]→k<w.heap.size:=fun k hk=>by have a1:=aD.o.lt;have a2:=aD.o.wh;simp at hk;omega
 have Bx:Hd (w2.ownsRow w.heap.size 204 1 (.slice (some ⟨w.heap.size,0,none⟩) 0 0) 0 []):=er nU.o ax.o Cl;have Ae:Hd (Sm [c.pb,c.vb] w w2):=av.o.of_nil.trans ax.o;have Kk:Hd (∀q,Value.ownBlock (.slice (some ⟨w.heap.size,0,none⟩) 0 0)=some q→q<w1.heap.size∨w2.heap.size≤q):=vv ya.o;have A9:Hd (w.heap.size≤w1.heap.size):=av.o.size;have lz:Hd (x2.length≤1099511627776):=Nat.le_trans (gj HX.o) xZ.o;have z0:(0:Int)≤(x2.length:Int):=by omega
 clear Cl hx;go_wp2_with fail
 go_loopg [8,31] x2.length (fun g v ii wr=>fk c t2 (cH n) 204 w w2 w1.heap.size w2.heap.size x2 g v ii wr)
 case atStart=>unfold fk;exact⟨0,[],_,_,by simp,rfl,rfl,Bx.o,by unfold Hd;rw[List.take_zero];exact .nil,Kk.o,mz.refl _ _ _,aW.o,Ae.o,lr⟩
 case round=>
  unfold fk at hrel;obtain⟨j,vs,a,k,r4,rfl,rfl,mx,mX,lg,ki,rl,Ad,sa⟩:=hrel;have jF:=ae r4;by_cases hj:j<x2.length
  · obtain⟨bb,oo,u,E3,gP,kh,hc,hu⟩:=DE.o j hj;subst E3;have Cd:wr.cell? ⟨bb,oo+j,none⟩=some u:=(ki.o.cell gP kh).trans hc;have wQ:=(cH n).keep hu ki.o;obtain⟨ty,uu,hv⟩:=(kv n).out wQ;have Kb:=JL n wQ;subst hv;have s5:=wQ;have z1:(j:Int)<(x2.length:Int):=by omega
    have z2:(0:Int)≤(j:Int):=by omega
    have how:=mx.o;have de:(j+1)*16≤140737488355328:=by have:=lz.o;omega
    have cv:w.heap.size≤wr.heap.size:=Ad.o.size;have HJ:=ae hj;have E5:=lz.o;clear r4 hc hu gP kh;go_wp2_with (at_builtin;refine gH _ rfl _ _ _ rfl 204 _ 1 16 Tryz.underlying358 Cp rfl (by omega) (by omega) _ j vs rfl how _ rfl rfl (by simp[Value.oneCell']) de (by omega) ?_);intro g dM w' aQ (HG:Hd _) bV ea;have qU:Hd (w'.ownsRow w.heap.size 204 1 (.slice (some ⟨g,0,none⟩) (j+1) dM) (j+1) (vs++[.iface ty uu])):=by unfold Hd;simpa using aQ
    have bX:Hd (Value.ownBlock (.slice a j k)=some g∨wr.heap.size≤g):=bV.imp id (fun e=>by omega);have HU:=ae s5;have iD:=ae how;clear aQ bV ea how de Cd s5;go_wp2_with fail;go_roundg (gk-1)
    case measure=>have:=jF.o;have:=HJ.o;omega
    case rel=>
     unfold fk;refine⟨j+1,vs++[.iface ty uu],some ⟨g,0,none⟩,dM,by have:=jF.o;have:=HJ.o;omega,rfl,by go_num,by unfold Hd;simpa using qU.out,?_,?_,?_,?_,?_,?_⟩
     · rw[gA HJ.o];exact mX.o.add HG.o bX.o A9.o sa.o lg.o HU.o
     · exact pd bX.o sa.o lg.o
     · exact ki.o.grown HG.o sa.o lg.o
     · exact rl.o.grown aD.o HG.o (fun q hq=>(iD.o.lt q hq).1)
     · exact Ad.o.grown HG.o (fun q hq=>.inl (iD.o.lt q hq).1)
     · exact Nat.le_trans sa.o HG.o.size
  · obtain rfl:j=x2.length:=by omega
    have z1:¬((x2.length:Int)<(x2.length:Int)):=by omega
    have DF:Hd ((au.list (cH n)).rd w.heap.size wr.heap.size wr (.slice a x2.length k) x2):=cW mx.o (by have:=mX.o;rwa [List.take_length] at this);clear r4;go_wp2_with fail;refine(ic.o t2 _ _ rl.o).mono ?_;rintro e wl ⟨lb,i,j2,sp,rfl,cO,lC,fM⟩;go_wp2_with fail;refine(jk.o _ ⟨#[]⟩ (some ⟨lb,0,none⟩) a x2.length k _ (ai _ _)).mono ?_;rintro e wn ⟨nb,ks,rfl,dC,fO,fH⟩;have HQ:=dP fO;go_wp2_with fail;go_returns;have y1:=Ad.o.size;have zl:=cO.size;have zn:=fH;simp at zn;exact aG (show r=.ok _ _ from dZ.o.symm) (Ad.o.trans (cO.trans HQ.o).of_nil) (J8 (cH n) dC (by omega) (lt_of_block dC) (bY fM HQ.o (by omega) lr) ((au.list (cH n)).wide (au.sm DF.o (cO.trans HQ.o) lr (fun q hq=>by cases hq)) lr (cO.trans HQ.o).size)) (rl.o.cI (cO.trans HQ.o))
end Go.Proofs.YtnpjmhodfdgloaaGreatDoor
