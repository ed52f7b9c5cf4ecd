/- Part of the proof. -/
import Derived.Test.YtnpjmhodfdgloaaGreatDoorQ38
set_option linter.unusedVariables false
set_option linter.unusedSimpArgs false
namespace Go.Proofs.YtnpjmhodfdgloaaGreatDoor
set_option maxRecDepth 100000
set_option maxHeartbeats 32000000
open Go.RowKit
attribute [local go_sem ↓] Go.wp_at_zero Go.wp_at_succ
theorem MH(W:World)(u:Value):(Instr.typeAssert (.iface 242 u) 20 242 false).run Tryz.prog W=.ok u W:=by kernel_rfl
theorem EX:(Tryz.prog.info? 242).map (fun i=>(i.zero,i.size,i.bytes))=some (some xB,1,8):=by kernel_rfl
theorem EK(args:Array Value)(W:World):Sem.run Tryz.prog (callFunc 149 args) W=.ok (.enter 149 args) W:=by kernel_rfl
theorem Jp(n:Nat):gR (gS n):=(gR.ptr _).map
theorem Yv(W:World)(u:Value):(Instr.typeAssert (.iface 256 u) 20 256 false).run Tryz.prog W=.ok u W:=by kernel_rfl
theorem Sn:(Tryz.prog.info? 256).map (fun i=>(i.zero,i.size,i.bytes))=some (some xB,1,8):=by kernel_rfl
theorem RT(args:Array Value)(W:World):Sem.run Tryz.prog (callFunc 154 args) W=.ok (.enter 154 args) W:=by kernel_rfl
theorem W4(n:Nat):gR (kn n):=(gR.ptr _).map
theorem pN(c:Cx)(hL:dg c)(n:Nat)(hm:n≤1099511627776):aS c 111 #[.pointer (some ⟨c.pb,0,none⟩)] (qA (rd c.s) n) (au.iface 243 (vw n)):=by
 have Fz:=ae (cX c hL);have HW:=ae (dO c hL iC);have HN:=ae (cd c hL);have HI:=ae (wm c hL n hm);have HD:=ae (bF c hL n hm (cq c hL n hm false));have DI:=ae (gi c hL 149 (jQ (rd c.s) n) (au.iface 242 (gS n)) 12 14 n false (qE c hL n hm) (qo.iface _ _) hm EK);have ic:=ae (vk c);have jk:=ae rN;have xZ:=ae hm;clear hL hm;refine fj fun t w r hr (HO:Hd _) h=>?_;unfold qA bZ pz at hr;have bH:=ae hr;have aD:=ae h;have c6:=h.c6;clear h hr;go_enter Tryz.func111,Tryz.ntmps111;go_wp2_with fail;refine dj Fz.o aD bH HO sr (fun v w1 u HE=>?_) fun x1 t1 w1 v1 dZ jE cA av=>?_
 · go_wp2_with fail;go_returns;exact HE.o _ _
 clear bH;obtain⟨a1,hv⟩:=lI.out jE.o;subst hv;go_wp2_with fail;refine lN HW.o cA dZ HO av.o (fun v w2 u HE=>?_) fun x2 t2 w2 dN aW ax=>?_
 · go_wp2_with fail;go_returns;exact HE.o _ _
 clear dZ;go_wp2_with fail;refine dj HN.o aW dN HO (av.o.trans ax.o) (fun v w3 u HE=>?_) fun x3 t3 w3 v3 iE ib bT aO=>?_
 · go_wp2_with fail;go_returns;exact HE.o _ _
 clear dN;obtain⟨a3,hv⟩:=ef.out ib.o;subst hv;go_wp2_with fail;refine dj HI.o bT iE HO ((av.o.trans ax.o).trans aO.o) (fun v w4 u HE=>?_) fun x4 t4 w4 v4 iO jc dJ cy=>?_
 · go_wp2_with fail;go_returns;exact HE.o _ _
 clear iE;obtain⟨a4,n4,m4,hv⟩:=(DM.list _).out jc.o;subst hv;go_wp2_with fail;refine dj HD.o dJ iO HO (((av.o.trans ax.o).trans aO.o).trans cy.o) (fun v w5 u HE=>?_) fun x5 t5 w5 v5 jG oG bX dK=>?_
 · go_wp2_with fail;go_returns;exact HE.o _ _
 clear iO;obtain⟨a5,n5,m5,hv⟩:=(dS _).out oG.o;subst hv;go_wp2_with fail;refine Z03 DI.o bX.o jG HO ((((av.o.trans ax.o).trans aO.o).trans cy.o).trans dK.o) (fun v w6 u HE=>?_) fun x6 t6 w6 v6 hx oH qj eM je=>?_
 · go_wp2_with fail;go_returns;exact HE.o _ _
 have RG:=ae hx;clear hx jG;obtain⟨aa,nn,kk,hv⟩:=(DM.list _).out qj.o;subst hv;obtain⟨hn,(DE:Hd _)⟩:=iY qj.o;subst hn;have lz:Hd (x6.length≤1099511627776):=Nat.le_trans (gj RG.o) xZ.o;have Rx:Hd (w5.heap.size≤w6.heap.size):=je.o.size;have Kb:=MH;have z0:(0:Int)≤(x6.length:Int):=by omega
 go_wp2_with fail
 go_loopg [11,70] x6.length (fun g v ii wr=>fg (gS n) 242 w5 w6 x6 g v ii wr)
 case atStart=>unfold fg;exact⟨0,[],_,_,by simp,rfl,rfl,World.ownsRow_made (base:=w6.heap.size) (size:=1) w6 #[] 0 lr (by simp[maxLen]) rfl,by unfold Hd;rw[List.take_zero];exact .nil,sr.alloc _⟩
 case round=>
  unfold fg at hrel;obtain⟨j,vs,a,k,r4,rfl,rfl,mx,mX,rn⟩:=hrel;have jF:=ae r4;by_cases hj:j<x6.length
  · obtain⟨bb,oo,u,E3,gP,kh,hc,hu⟩:=DE.o j hj;subst E3;have sa:Hd (w6.heap.size≤wr.heap.size):=rn.o.size;have Cd:wr.cell? ⟨bb,oo+j,none⟩=some u:=rn.o.keeps hc (by simp);have wQ:=au.sm hu rn.o lr (fun q hq=>by cases hq);obtain⟨uu,rfl,s5⟩:=wQ;obtain⟨ab,jd⟩:=(Jp n).out s5;subst jd;have z1:(j:Int)<(x6.length:Int):=by omega
    have z2:(0:Int)≤(j:Int):=by omega
    have how:=mx.o;have de:(j+1)*8≤140737488355328:=by have:=lz.o;omega
    have cv:w6.heap.size≤wr.heap.size:=rn.o.size;have HJ:=ae hj;have E5:=lz.o;have lg:Hd (∀q,Value.ownBlock (.slice a j k)=some q→q<w5.heap.size∨w6.heap.size≤q):=fun q hq=>.inr (how.lt q hq).1;clear r4 hc hu gP kh;go_wp2_with (at_builtin;refine gH _ rfl _ _ _ rfl 242 _ 1 8 Tryz.underlying241 EX rfl (by omega) (by omega) _ j vs rfl how _ rfl rfl (by simp[Value.oneCell']) de (by omega) ?_);intro g dM w' aQ (HG:Hd _) bV ea;have qU:Hd (w'.ownsRow w6.heap.size 242 1 (.slice (some ⟨g,0,none⟩) (j+1) dM) (j+1) (vs++[.pointer ab])):=by unfold Hd;simpa using aQ
    have bX:Hd (Value.ownBlock (.slice a j k)=some g∨wr.heap.size≤g):=bV.imp id (fun e=>by omega);have HU:=ae s5;have iD:=ae how;clear aQ bV ea how de Cd s5;go_wp2_with fail;go_roundg (gk-1)
    case measure=>have:=jF.o;have:=HJ.o;omega
    case rel=>
     unfold fg;refine⟨j+1,vs++[.pointer ab],some ⟨g,0,none⟩,dM,by have:=jF.o;have:=HJ.o;omega,rfl,by go_num,by unfold Hd;simpa using qU.out,?_,?_⟩
     · rw[gA HJ.o];exact mX.o.add HG.o bX.o lr sa.o lg.o HU.o
     · exact rn.o.grown HG.o (fun q hq=>.inl (iD.o.lt q hq).1)
  · obtain rfl:j=x6.length:=by omega
    have z1:¬((x6.length:Int)<(x6.length:Int)):=by omega
    have DF:Hd ((au.list (gS n)).rd w5.heap.size wr.heap.size wr (.slice a x6.length k) x6):=cW (uN mx.o Rx.o) (by have:=mX.o;rwa [List.take_length] at this);have EG:Hd (Sm [c.pb,c.vb] w6 wr):=rn.o.of_nil;have rk:=ae (eM.o.cI rn.o);have MP:=oH;clear hj r4 oH;go_wp2_with fail;refine(ic.o t6 _ _ rk.o).mono ?_;rintro e wl ⟨lb,i,j,sp,rfl,cO,lC,fM⟩;go_wp2_with fail;refine(jk.o _ ⟨#[]⟩ (some ⟨lb,0,none⟩) a3 a1 a4 n4 m4 a5 n5 m5 a x6.length k _ (ai _ _)).mono ?_;rintro e wn ⟨nb,ks,rfl,dC,fO,fH⟩;have HQ:=dP fO;go_wp2_with fail;go_returns;have z1:=av.o.size;have z2:=ax.o.size;have z3:=aO.o.size;have z4:=cy.o.size;have z5:=dK.o.size;have z6:=je.o.size;have z7:=EG.o.size;have zl:=cO.size;have zn:=fH;simp at zn;have y8:=cO.trans HQ.o;have y7:=EG.o.trans y8.of_nil;have y6:=je.o.trans y7;have y5:=dK.o.trans y6;have y4:=cy.o.trans y5;have y3:=aO.o.trans y4;have y2:=ax.o.trans y3;have y1:=av.o.trans y2;exact aG (show r=.ok _ _ from MP.o.symm) y1 ⟨_,rfl,(L8 n dC (by omega) (lt_of_block dC) (bY fM HQ.o (by omega) lr) (kp ib aW y4 (by omega)) (kp jE aD y2 (by omega)) (kp jc bT y5 (by omega)) (kp oG dJ y6 (by omega)) (au.wide _ (au.sm DF.o (cO.trans HQ.o) lr (fun q hq=>by cases hq)) (by omega) (cO.trans HQ.o).size))⟩ (rk.o.cI y8)
theorem xG(c:Cx)(hL:dg c)(n:Nat)(hm:n≤1099511627776):aS c 112 #[.pointer (some ⟨c.pb,0,none⟩)] (bZ (rd c.s) fE (kt (rd c.s) n)) (au.iface 247 (xw n)):=by
 have Fz:=ae (cX c hL);have HW:=ae (dO c hL fE);have HN:=ae (cd c hL);have HD:=ae (bF c hL n hm (cq c hL n hm false));have DI:=ae (gi c hL 149 (jQ (rd c.s) n) (au.iface 242 (gS n)) 12 14 n false (qE c hL n hm) (qo.iface _ _) hm EK);have ic:=ae (vk c);have jk:=ae pG;have xZ:=ae hm;clear hL hm;refine fj fun t w r hr (HO:Hd _) h=>?_;unfold bZ kt at hr;have bH:=ae hr;have aD:=ae h;have c6:=h.c6;clear h hr;go_enter Tryz.func112,Tryz.ntmps112;go_wp2_with fail;refine dj Fz.o aD bH HO sr (fun v w1 u HE=>?_) fun x1 t1 w1 v1 dZ jE cA av=>?_
 · go_wp2_with fail;go_returns;exact HE.o _ _
 clear bH;obtain⟨a1,hv⟩:=lI.out jE.o;subst hv;go_wp2_with fail;refine lN HW.o cA dZ HO av.o (fun v w2 u HE=>?_) fun x2 t2 w2 dN aW ax=>?_
 · go_wp2_with fail;go_returns;exact HE.o _ _
 clear dZ;go_wp2_with fail;refine dj HN.o aW dN HO (av.o.trans ax.o) (fun v w3 u HE=>?_) fun x3 t3 w3 v3 iE ib bT aO=>?_
 · go_wp2_with fail;go_returns;exact HE.o _ _
 clear dN;obtain⟨a3,hv⟩:=ef.out ib.o;subst hv;go_wp2_with fail;refine dj HD.o bT iE HO ((av.o.trans ax.o).trans aO.o) (fun v w4 u HE=>?_) fun x4 t4 w4 v4 iO jc dJ cy=>?_
 · go_wp2_with fail;go_returns;exact HE.o _ _
 clear iE;obtain⟨a4,n4,m4,hv⟩:=(dS _).out jc.o;subst hv;go_wp2_with fail;refine Z03 DI.o dJ.o iO HO (((av.o.trans ax.o).trans aO.o).trans cy.o) (fun v w5 u HE=>?_) fun x5 t5 w5 v5 hx jG oG bX dK=>?_
 · go_wp2_with fail;go_returns;exact HE.o _ _
 have RG:=ae hx;clear hx iO;obtain⟨aa,nn,kk,hv⟩:=(DM.list _).out oG.o;subst hv;obtain⟨hn,(DE:Hd _)⟩:=iY oG.o;subst hn;have lz:Hd (x5.length≤1099511627776):=Nat.le_trans (gj RG.o) xZ.o;have Rx:Hd (w4.heap.size≤w5.heap.size):=dK.o.size;have Kb:=MH;have z0:(0:Int)≤(x5.length:Int):=by omega
 go_wp2_with fail
 go_loopg [10,61] x5.length (fun g v ii wr=>fg (gS n) 242 w4 w5 x5 g v ii wr)
 case atStart=>unfold fg;exact⟨0,[],_,_,by simp,rfl,rfl,World.ownsRow_made (base:=w5.heap.size) (size:=1) w5 #[] 0 lr (by simp[maxLen]) rfl,by unfold Hd;rw[List.take_zero];exact .nil,sr.alloc _⟩
 case round=>
  unfold fg at hrel;obtain⟨j,vs,a,k,r4,rfl,rfl,mx,mX,rn⟩:=hrel;have jF:=ae r4;by_cases hj:j<x5.length
  · obtain⟨bb,oo,u,E3,gP,kh,hc,hu⟩:=DE.o j hj;subst E3;have sa:Hd (w5.heap.size≤wr.heap.size):=rn.o.size;have Cd:wr.cell? ⟨bb,oo+j,none⟩=some u:=rn.o.keeps hc (by simp);have wQ:=au.sm hu rn.o lr (fun q hq=>by cases hq);obtain⟨uu,rfl,s5⟩:=wQ;obtain⟨ab,jd⟩:=(Jp n).out s5;subst jd;have z1:(j:Int)<(x5.length:Int):=by omega
    have z2:(0:Int)≤(j:Int):=by omega
    have how:=mx.o;have de:(j+1)*8≤140737488355328:=by have:=lz.o;omega
    have cv:w5.heap.size≤wr.heap.size:=rn.o.size;have HJ:=ae hj;have E5:=lz.o;have lg:Hd (∀q,Value.ownBlock (.slice a j k)=some q→q<w4.heap.size∨w5.heap.size≤q):=fun q hq=>.inr (how.lt q hq).1;clear r4 hc hu gP kh;go_wp2_with (at_builtin;refine gH _ rfl _ _ _ rfl 242 _ 1 8 Tryz.underlying241 EX rfl (by omega) (by omega) _ j vs rfl how _ rfl rfl (by simp[Value.oneCell']) de (by omega) ?_);intro g dM w' aQ (HG:Hd _) bV ea;have qU:Hd (w'.ownsRow w5.heap.size 242 1 (.slice (some ⟨g,0,none⟩) (j+1) dM) (j+1) (vs++[.pointer ab])):=by unfold Hd;simpa using aQ
    have bX:Hd (Value.ownBlock (.slice a j k)=some g∨wr.heap.size≤g):=bV.imp id (fun e=>by omega);have HU:=ae s5;have iD:=ae how;clear aQ bV ea how de Cd s5;go_wp2_with fail;go_roundg (gk-1)
    case measure=>have:=jF.o;have:=HJ.o;omega
    case rel=>
     unfold fg;refine⟨j+1,vs++[.pointer ab],some ⟨g,0,none⟩,dM,by have:=jF.o;have:=HJ.o;omega,rfl,by go_num,by unfold Hd;simpa using qU.out,?_,?_⟩
     · rw[gA HJ.o];exact mX.o.add HG.o bX.o lr sa.o lg.o HU.o
     · exact rn.o.grown HG.o (fun q hq=>.inl (iD.o.lt q hq).1)
  · obtain rfl:j=x5.length:=by omega
    have z1:¬((x5.length:Int)<(x5.length:Int)):=by omega
    have DF:Hd ((au.list (gS n)).rd w4.heap.size wr.heap.size wr (.slice a x5.length k) x5):=cW (uN mx.o Rx.o) (by have:=mX.o;rwa [List.take_length] at this);have je:Hd (Sm [c.pb,c.vb] w5 wr):=rn.o.of_nil;have eM:=ae (bX.o.cI rn.o);have oH:=jG;clear hj r4 jG;go_wp2_with fail;refine(ic.o t5 _ _ eM.o).mono ?_;rintro e wl ⟨lb,i,j,sp,rfl,cO,lC,fM⟩;go_wp2_with fail;refine(jk.o _ ⟨#[]⟩ (some ⟨lb,0,none⟩) a3 a1 a4 n4 m4 a x5.length k _ (ai _ _)).mono ?_;rintro e wn ⟨nb,ks,rfl,dC,fO,fH⟩;have HQ:=dP fO;go_wp2_with fail;go_returns;have z1:=av.o.size;have z2:=ax.o.size;have z3:=aO.o.size;have z4:=cy.o.size;have z5:=dK.o.size;have z6:=je.o.size;have zl:=cO.size;have zn:=fH;simp at zn;have y7:=cO.trans HQ.o;have y6:=je.o.trans y7.of_nil;have y5:=dK.o.trans y6;have y4:=cy.o.trans y5;have y3:=aO.o.trans y4;have y2:=ax.o.trans y3;have y1:=av.o.trans y2;exact aG (show r=.ok _ _ from oH.o.symm) y1 ⟨_,rfl,(E6 n dC (by omega) (lt_of_block dC) (bY fM HQ.o (by omega) lr) (kp ib aW y4 (by omega)) (kp jE aD y2 (by omega)) (kp jc bT y5 (by omega)) (au.wide _ (au.sm DF.o (cO.trans HQ.o) lr (fun q hq=>by cases hq)) (by omega) (cO.trans HQ.o).size))⟩ (eM.o.cI y7)
theorem Eg(c:Cx)(hL:dg c)(n:Nat)(hm:n≤1099511627776):aS c 114 #[.pointer (some ⟨c.pb,0,none⟩)] (bZ (rd c.s) qO (xt (rd c.s) n)) (au.iface 257 (BR n)):=by
 have Fz:=ae (cX c hL);have HW:=ae (dO c hL qO);have HN:=ae (cd c hL);have HD:=ae (bF c hL n hm (cq c hL n hm false));have DI:=ae (gi c hL 154 (kq (rd c.s) n) (au.iface 256 (kn n)) 12 14 n false (xE c hL n hm) (qo.iface _ _) hm RT);have ic:=ae (vk c);have jk:=ae tY;have xZ:=ae hm;clear hL hm;refine fj fun t w r hr (HO:Hd _) h=>?_;unfold bZ xt at hr;have bH:=ae hr;have aD:=ae h;have c6:=h.c6;clear h hr;go_enter Tryz.func114,Tryz.ntmps114;go_wp2_with fail;refine dj Fz.o aD bH HO sr (fun v w1 u HE=>?_) fun x1 t1 w1 v1 dZ jE cA av=>?_
 · go_wp2_with fail;go_returns;exact HE.o _ _
 clear bH;obtain⟨a1,hv⟩:=lI.out jE.o;subst hv;go_wp2_with fail;refine lN HW.o cA dZ HO av.o (fun v w2 u HE=>?_) fun x2 t2 w2 dN aW ax=>?_
 · go_wp2_with fail;go_returns;exact HE.o _ _
 clear dZ;go_wp2_with fail;refine dj HN.o aW dN HO (av.o.trans ax.o) (fun v w3 u HE=>?_) fun x3 t3 w3 v3 iE ib bT aO=>?_
 · go_wp2_with fail;go_returns;exact HE.o _ _
 clear dN;obtain⟨a3,hv⟩:=ef.out ib.o;subst hv;go_wp2_with fail;refine dj HD.o bT iE HO ((av.o.trans ax.o).trans aO.o) (fun v w4 u HE=>?_) fun x4 t4 w4 v4 iO jc dJ cy=>?_
 · go_wp2_with fail;go_returns;exact HE.o _ _
 clear iE;obtain⟨a4,n4,m4,hv⟩:=(dS _).out jc.o;subst hv;go_wp2_with fail;refine Z03 DI.o dJ.o iO HO (((av.o.trans ax.o).trans aO.o).trans cy.o) (fun v w5 u HE=>?_) fun x5 t5 w5 v5 hx jG oG bX dK=>?_
 · go_wp2_with fail;go_returns;exact HE.o _ _
 have RG:=ae hx;clear hx iO;obtain⟨aa,nn,kk,hv⟩:=(DM.list _).out oG.o;subst hv;obtain⟨hn,(DE:Hd _)⟩:=iY oG.o;subst hn;have lz:Hd (x5.length≤1099511627776):=Nat.le_trans (gj RG.o) xZ.o;have Rx:Hd (w4.heap.size≤w5.heap.size):=dK.o.size;have Kb:=Yv;have z0:(0:Int)≤(x5.length:Int):=by omega
 go_wp2_with fail
 go_loopg [10,61] x5.length (fun g v ii wr=>fg (kn n) 256 w4 w5 x5 g v ii wr)
 case atStart=>unfold fg;exact⟨0,[],_,_,by simp,rfl,rfl,World.ownsRow_made (base:=w5.heap.size) (size:=1) w5 #[] 0 lr (by simp[maxLen]) rfl,by unfold Hd;rw[List.take_zero];exact .nil,sr.alloc _⟩
 case round=>
  unfold fg at hrel;obtain⟨j,vs,a,k,r4,rfl,rfl,mx,mX,rn⟩:=hrel;have jF:=ae r4;by_cases hj:j<x5.length
  · obtain⟨bb,oo,u,E3,gP,kh,hc,hu⟩:=DE.o j hj;subst E3;have sa:Hd (w5.heap.size≤wr.heap.size):=rn.o.size;have Cd:wr.cell? ⟨bb,oo+j,none⟩=some u:=rn.o.keeps hc (by simp);have wQ:=au.sm hu rn.o lr (fun q hq=>by cases hq);obtain⟨uu,rfl,s5⟩:=wQ;obtain⟨ab,jd⟩:=(W4 n).out s5;subst jd;have z1:(j:Int)<(x5.length:Int):=by omega
    have z2:(0:Int)≤(j:Int):=by omega
    have how:=mx.o;have de:(j+1)*8≤140737488355328:=by have:=lz.o;omega
    have cv:w5.heap.size≤wr.heap.size:=rn.o.size;have HJ:=ae hj;have E5:=lz.o;have lg:Hd (∀q,Value.ownBlock (.slice a j k)=some q→q<w4.heap.size∨w5.heap.size≤q):=fun q hq=>.inr (how.lt q hq).1;clear r4 hc hu gP kh;go_wp2_with (at_builtin;refine gH _ rfl _ _ _ rfl 256 _ 1 8 Tryz.underlying255 Sn rfl (by omega) (by omega) _ j vs rfl how _ rfl rfl (by simp[Value.oneCell']) de (by omega) ?_);intro g dM w' aQ (HG:Hd _) bV ea;have qU:Hd (w'.ownsRow w5.heap.size 256 1 (.slice (some ⟨g,0,none⟩) (j+1) dM) (j+1) (vs++[.pointer ab])):=by unfold Hd;simpa using aQ
    have bX:Hd (Value.ownBlock (.slice a j k)=some g∨wr.heap.size≤g):=bV.imp id (fun e=>by omega);have HU:=ae s5;have iD:=ae how;clear aQ bV ea how de Cd s5;go_wp2_with fail;go_roundg (gk-1)
    case measure=>have:=jF.o;have:=HJ.o;omega
    case rel=>
     unfold fg;refine⟨j+1,vs++[.pointer ab],some ⟨g,0,none⟩,dM,by have:=jF.o;have:=HJ.o;omega,rfl,by go_num,by unfold Hd;simpa using qU.out,?_,?_⟩
     · rw[gA HJ.o];exact mX.o.add HG.o bX.o lr sa.o lg.o HU.o
     · exact rn.o.grown HG.o (fun q hq=>.inl (iD.o.lt q hq).1)
  · obtain rfl:j=x5.length:=by omega
    have z1:¬((x5.length:Int)<(x5.length:Int)):=by omega
    have DF:Hd ((au.list (kn n)).rd w4.heap.size wr.heap.size wr (.slice a x5.length k) x5):=cW (uN mx.o Rx.o) (by have:=mX.o;rwa [List.take_length] at this);have je:Hd (Sm [c.pb,c.vb] w5 wr):=rn.o.of_nil;have eM:=ae (bX.o.cI rn.o);have oH:=jG;clear hj r4 jG;go_wp2_with fail;refine(ic.o t5 _ _ eM.o).mono ?_;rintro e wl ⟨lb,i,j,sp,rfl,cO,lC,fM⟩;go_wp2_with fail;refine(jk.o _ ⟨#[]⟩ (some ⟨lb,0,none⟩) a3 a1 a4 n4 m4 a x5.length k _ (ai _ _)).mono ?_;rintro e wn ⟨nb,ks,rfl,dC,fO,fH⟩;have HQ:=dP fO;go_wp2_with fail;go_returns;have z1:=av.o.size;have z2:=ax.o.size;have z3:=aO.o.size;have z4:=cy.o.size;have z5:=dK.o.size;have z6:=je.o.size;have zl:=cO.size;have zn:=fH;simp at zn;have y7:=cO.trans HQ.o;have y6:=je.o.trans y7.of_nil;have y5:=dK.o.trans y6;have y4:=cy.o.trans y5;have y3:=aO.o.trans y4;have y2:=ax.o.trans y3;have y1:=av.o.trans y2;exact aG (show r=.ok _ _ from oH.o.symm) y1 ⟨_,rfl,(IL n dC (by omega) (lt_of_block dC) (bY fM HQ.o (by omega) lr) (kp ib aW y4 (by omega)) (kp jE aD y2 (by omega)) (kp jc bT y5 (by omega)) (au.wide _ (au.sm DF.o (cO.trans HQ.o) lr (fun q hq=>by cases hq)) (by omega) (cO.trans HQ.o).size))⟩ (eM.o.cI y7)
theorem CM(c:Cx)(hL:dg c)(n:Nat)(hm:n≤1099511627776):aS c 115 #[.pointer (some ⟨c.pb,0,none⟩)] (bZ (rd c.s) mT (sy (rd c.s) n)) (au.iface 263 (KW n)):=by
 have Fz:=ae (cX c hL);have HW:=ae (dO c hL mT);have HN:=ae (cd c hL);have HD:=ae (bF c hL n hm (cq c hL n hm false));have DI:=ae (gi c hL 156 (jR (rd c.s) n) (au.iface 262 (gU n)) 12 14 n false (qF c hL n hm) (qo.iface _ _) hm EL);have ic:=ae (vk c);have jk:=ae ou;have xZ:=ae hm;clear hL hm;refine fj fun t w r hr (HO:Hd _) h=>?_;unfold bZ sy at hr;have bH:=ae hr;have aD:=ae h;have c6:=h.c6;clear h hr;go_enter Tryz.func115,Tryz.ntmps115;go_wp2_with fail;refine dj Fz.o aD bH HO sr (fun v w1 u HE=>?_) fun x1 t1 w1 v1 dZ jE cA av=>?_
 · go_wp2_with fail;go_returns;exact HE.o _ _
 clear bH;obtain⟨a1,hv⟩:=lI.out jE.o;subst hv;go_wp2_with fail;refine lN HW.o cA dZ HO av.o (fun v w2 u HE=>?_) fun x2 t2 w2 dN aW ax=>?_
 · go_wp2_with fail;go_returns;exact HE.o _ _
 clear dZ;go_wp2_with fail;refine dj HN.o aW dN HO (av.o.trans ax.o) (fun v w3 u HE=>?_) fun x3 t3 w3 v3 iE ib bT aO=>?_
 · go_wp2_with fail;go_returns;exact HE.o _ _
 clear dN;obtain⟨a3,hv⟩:=ef.out ib.o;subst hv;go_wp2_with fail;refine dj HD.o bT iE HO ((av.o.trans ax.o).trans aO.o) (fun v w4 u HE=>?_) fun x4 t4 w4 v4 iO jc dJ cy=>?_
 · go_wp2_with fail;go_returns;exact HE.o _ _
 clear iE;obtain⟨a4,n4,m4,hv⟩:=(dS _).out jc.o;subst hv;go_wp2_with fail;refine Z03 DI.o dJ.o iO HO (((av.o.trans ax.o).trans aO.o).trans cy.o) (fun v w5 u HE=>?_) fun x5 t5 w5 v5 hx jG oG bX dK=>?_
 · go_wp2_with fail;go_returns;exact HE.o _ _
 have RG:=ae hx;clear hx iO;obtain⟨aa,nn,kk,hv⟩:=(DM.list _).out oG.o;subst hv;obtain⟨hn,(DE:Hd _)⟩:=iY oG.o;subst hn;have lz:Hd (x5.length≤1099511627776):=Nat.le_trans (gj RG.o) xZ.o;have Rx:Hd (w4.heap.size≤w5.heap.size):=dK.o.size;have Kb:=MI;have z0:(0:Int)≤(x5.length:Int):=by omega
 go_wp2_with fail
 go_loopg [10,61] x5.length (fun g v ii wr=>fg (gU n) 262 w4 w5 x5 g v ii wr)
 case atStart=>unfold fg;exact⟨0,[],_,_,by simp,rfl,rfl,World.ownsRow_made (base:=w5.heap.size) (size:=1) w5 #[] 0 lr (by simp[maxLen]) rfl,by unfold Hd;rw[List.take_zero];exact .nil,sr.alloc _⟩
 case round=>
  unfold fg at hrel;obtain⟨j,vs,a,k,r4,rfl,rfl,mx,mX,rn⟩:=hrel;have jF:=ae r4;by_cases hj:j<x5.length
  · obtain⟨bb,oo,u,E3,gP,kh,hc,hu⟩:=DE.o j hj;subst E3;have sa:Hd (w5.heap.size≤wr.heap.size):=rn.o.size;have Cd:wr.cell? ⟨bb,oo+j,none⟩=some u:=rn.o.keeps hc (by simp);have wQ:=au.sm hu rn.o lr (fun q hq=>by cases hq);obtain⟨uu,rfl,s5⟩:=wQ;obtain⟨ab,jd⟩:=(Jq n).out s5;subst jd;have z1:(j:Int)<(x5.length:Int):=by omega
    have z2:(0:Int)≤(j:Int):=by omega
    have how:=mx.o;have de:(j+1)*8≤140737488355328:=by have:=lz.o;omega
    have cv:w5.heap.size≤wr.heap.size:=rn.o.size;have HJ:=ae hj;have E5:=lz.o;have lg:Hd (∀q,Value.ownBlock (.slice a j k)=some q→q<w4.heap.size∨w5.heap.size≤q):=fun q hq=>.inr (how.lt q hq).1;clear r4 hc hu gP kh;go_wp2_with (at_builtin;refine gH _ rfl _ _ _ rfl 262 _ 1 8 Tryz.underlying261 EY rfl (by omega) (by omega) _ j vs rfl how _ rfl rfl (by simp[Value.oneCell']) de (by omega) ?_);intro g dM w' aQ (HG:Hd _) bV ea;have qU:Hd (w'.ownsRow w5.heap.size 262 1 (.slice (some ⟨g,0,none⟩) (j+1) dM) (j+1) (vs++[.pointer ab])):=by unfold Hd;simpa using aQ
    have bX:Hd (Value.ownBlock (.slice a j k)=some g∨wr.heap.size≤g):=bV.imp id (fun e=>by omega);have HU:=ae s5;have iD:=ae how;clear aQ bV ea how de Cd s5;go_wp2_with fail;go_roundg (gk-1)
    case measure=>have:=jF.o;have:=HJ.o;omega
    case rel=>
     unfold fg;refine⟨j+1,vs++[.pointer ab],some ⟨g,0,none⟩,dM,by have:=jF.o;have:=HJ.o;omega,rfl,by go_num,by unfold Hd;simpa using qU.out,?_,?_⟩
     · rw[gA HJ.o];exact mX.o.add HG.o bX.o lr sa.o lg.o HU.o
     · exact rn.o.grown HG.o (fun q hq=>.inl (iD.o.lt q hq).1)
  · obtain rfl:j=x5.length:=by omega
    have z1:¬((x5.length:Int)<(x5.length:Int)):=by omega
    have DF:Hd ((au.list (gU n)).rd w4.heap.size wr.heap.size wr (.slice a x5.length k) x5):=cW (uN mx.o Rx.o) (by have:=mX.o;rwa [List.take_length] at this);have je:Hd (Sm [c.pb,c.vb] w5 wr):=rn.o.of_nil;have eM:=ae (bX.o.cI rn.o);have oH:=jG;clear hj r4 jG;go_wp2_with fail;refine(ic.o t5 _ _ eM.o).mono ?_;rintro e wl ⟨lb,i,j,sp,rfl,cO,lC,fM⟩;go_wp2_with fail;refine(jk.o _ ⟨#[]⟩ (some ⟨lb,0,none⟩) a3 a1 a4 n4 m4 a x5.length k _ (ai _ _)).mono ?_;rintro e wn ⟨nb,ks,rfl,dC,fO,fH⟩;have HQ:=dP fO;go_wp2_with fail;go_returns;have z1:=av.o.size;have z2:=ax.o.size;have z3:=aO.o.size;have z4:=cy.o.size;have z5:=dK.o.size;have z6:=je.o.size;have zl:=cO.size;have zn:=fH;simp at zn;have y7:=cO.trans HQ.o;have y6:=je.o.trans y7.of_nil;have y5:=dK.o.trans y6;have y4:=cy.o.trans y5;have y3:=aO.o.trans y4;have y2:=ax.o.trans y3;have y1:=av.o.trans y2;exact aG (show r=.ok _ _ from oH.o.symm) y1 ⟨_,rfl,(ND n dC (by omega) (lt_of_block dC) (bY fM HQ.o (by omega) lr) (kp ib aW y4 (by omega)) (kp jE aD y2 (by omega)) (kp jc bT y5 (by omega)) (au.wide _ (au.sm DF.o (cO.trans HQ.o) lr (fun q hq=>by cases hq)) (by omega) (cO.trans HQ.o).size))⟩ (eM.o.cI y7)
theorem CP(c:Cx)(hL:dg c)(n:Nat)(hm:n≤1099511627776):aS c 113 #[.pointer (some ⟨c.pb,0,none⟩)] (bZ (rd c.s) mU (sD (rd c.s) n)) (au.iface 251 (LN n)):=by
 have Fz:=ae (cX c hL);have HW:=ae (dO c hL mU);have HN:=ae (cd c hL);have HD:=ae (bF c hL n hm (cq c hL n hm false));have HE:=ae (eB c hL 8);have HU:=ae (ub c hL n hm);have ic:=ae (vk c);have jk:=ae sL;clear hL hm;refine fj fun t w r hr (HO:Hd _) h=>?_;unfold bZ sD at hr;have bH:=ae hr;have aD:=ae h;have c6:=h.c6;clear h hr;go_enter Tryz.func113,Tryz.ntmps113;go_wp2_with fail;refine dj Fz.o aD bH HO sr (fun v w1 u HE=>?_) fun x1 t1 w1 v1 dZ jE cA av=>?_
 · go_wp2_with fail;go_returns;exact HE.o _ _
 clear bH;obtain⟨a1,hv⟩:=lI.out jE.o;subst hv;go_wp2_with fail;refine lN HW.o cA dZ HO av.o (fun v w2 u HE=>?_) fun x2 t2 w2 dN aW ax=>?_
 · go_wp2_with fail;go_returns;exact HE.o _ _
 clear dZ;go_wp2_with fail;refine dj HN.o aW dN HO (av.o.trans ax.o) (fun v w3 u HE=>?_) fun x3 t3 w3 v3 iE ib bT aO=>?_
 · go_wp2_with fail;go_returns;exact HE.o _ _
 clear dN;obtain⟨a3,hv⟩:=ef.out ib.o;subst hv;go_wp2_with fail;refine dj HD.o bT iE HO ((av.o.trans ax.o).trans aO.o) (fun v w4 u HE=>?_) fun x4 t4 w4 v4 iO jc dJ cy=>?_
 · go_wp2_with fail;go_returns;exact HE.o _ _
 clear iE;obtain⟨a4,n4,m4,hv⟩:=(dS _).out jc.o;subst hv;go_wp2_with fail;refine lN HE.o dJ iO HO (((av.o.trans ax.o).trans aO.o).trans cy.o) (fun v w5 u HE=>?_) fun x5 t5 w5 jG bX dK=>?_
 · go_wp2_with fail;go_returns;exact HE.o _ _
 clear iO;go_wp2_with fail;refine dj HU.o bX jG HO ((((av.o.trans ax.o).trans aO.o).trans cy.o).trans dK.o) (fun v w6 u HE=>?_) fun x6 t6 w6 v6 oH qj eM je=>?_
 · go_wp2_with fail;go_returns;exact HE.o _ _
 clear jG;obtain⟨a6,n6,m6,hv⟩:=(DM.list _).out qj.o;subst hv;go_wp2_with fail;refine(ic.o t6 _ _ eM.o).mono ?_;rintro e wl ⟨lb,i,j,sp,rfl,cO,lC,fM⟩;go_wp2_with fail;refine(jk.o _ ⟨#[]⟩ (some ⟨lb,0,none⟩) a3 a1 a4 n4 m4 a6 n6 m6 _ (ai _ _)).mono ?_;rintro e wn ⟨nb,ks,rfl,dC,fO,fH⟩;have HQ:=dP fO;go_wp2_with fail;go_returns;have z1:=av.o.size;have z2:=ax.o.size;have z3:=aO.o.size;have z4:=cy.o.size;have z5:=dK.o.size;have z6:=je.o.size;have zl:=cO.size;have zn:=fH;simp at zn;have y7:=cO.trans HQ.o;have y6:=je.o.trans y7.of_nil;have y5:=dK.o.trans y6;have y4:=cy.o.trans y5;have y3:=aO.o.trans y4;have y2:=ax.o.trans y3;have y1:=av.o.trans y2;exact aG (show r=.ok _ _ from oH.o.symm) y1 ⟨_,rfl,(Ok n dC (by omega) (lt_of_block dC) (bY fM HQ.o (by omega) lr) (kp ib aW y4 (by omega)) (kp jE aD y2 (by omega)) (kp jc bT y5 (by omega)) (kp qj bX y7.of_nil (by omega)))⟩ (eM.o.cI y7)
theorem ua(c:Cx)(hL:dg c)(n:Nat)(hm:n≤1099511627776):aS c 117 #[.pointer (some ⟨c.pb,0,none⟩)] (bZ (rd c.s) fD (gZ (rd c.s) n)) (au.iface 276 (qY n)):=by
 have Fz:=ae (cX c hL);have HW:=ae (dO c hL fD);have HE:=ae (eB c hL 9);have HN:=ae (cd c hL);have HA:=ae (na c hL n hm);have Xs:=ae (dO c hL ly);have A9:=ae (oR c hL n hm);have ic:=ae (vk c);have jk:=ae pE;clear hL hm;refine fj fun t w r hr (HO:Hd _) h=>?_;unfold bZ gZ at hr;have bH:=ae hr;have aD:=ae h;have c6:=h.c6;clear h hr;go_enter Tryz.func117,Tryz.ntmps117;go_wp2_with fail;refine dj Fz.o aD bH HO sr (fun v w1 u HE=>?_) fun x1 t1 w1 v1 dZ jE cA av=>?_
 · go_wp2_with fail;go_returns;exact HE.o _ _
 clear bH;obtain⟨a1,hv⟩:=lI.out jE.o;subst hv;go_wp2_with fail;refine lN HW.o cA dZ HO av.o (fun v w2 u HE=>?_) fun x2 t2 w2 dN aW ax=>?_
 · go_wp2_with fail;go_returns;exact HE.o _ _
 clear dZ;go_wp2_with fail;refine lN HE.o aW dN HO (av.o.trans ax.o) (fun v w3 u HE=>?_) fun x3 t3 w3 iE bT aO=>?_
 · go_wp2_with fail;go_returns;exact HE.o _ _
 clear dN;go_wp2_with fail;refine dj HN.o bT iE HO ((av.o.trans ax.o).trans aO.o) (fun v w4 u HE=>?_) fun x4 t4 w4 v4 iO jc dJ cy=>?_
 · go_wp2_with fail;go_returns;exact HE.o _ _
 clear iE;obtain⟨a4,hv⟩:=ef.out jc.o;subst hv;go_wp2_with fail;refine dj HA.o dJ iO HO (((av.o.trans ax.o).trans aO.o).trans cy.o) (fun v w5 u HE=>?_) fun x5 t5 w5 v5 jG oG bX dK=>?_
 · go_wp2_with fail;go_returns;exact HE.o _ _
 clear iO;obtain⟨a5,n5,m5,hv⟩:=(dS _).out oG.o;subst hv;go_wp2_with fail;refine lN Xs.o bX jG HO ((((av.o.trans ax.o).trans aO.o).trans cy.o).trans dK.o) (fun v w6 u HE=>?_) fun x6 t6 w6 oH eM je=>?_
 · go_wp2_with fail;go_returns;exact HE.o _ _
 clear jG;go_wp2_with fail;refine dj A9.o eM oH HO (((((av.o.trans ax.o).trans aO.o).trans cy.o).trans dK.o).trans je.o) (fun v w7 u HE=>?_) fun x7 t7 w7 v7 MP I8 rk EG=>?_
 · go_wp2_with fail;go_returns;exact HE.o _ _
 clear oH;obtain⟨a7,n7,m7,hv⟩:=(DM.list _).out I8.o;subst hv;go_wp2_with fail;refine(ic.o t7 _ _ rk.o).mono ?_;rintro e wl ⟨lb,i,j,sp,rfl,cO,lC,fM⟩;go_wp2_with fail;refine(jk.o _ ⟨#[]⟩ (some ⟨lb,0,none⟩) a4 a1 a5 n5 m5 a7 n7 m7 _ (ai _ _)).mono ?_;rintro e wn ⟨nb,ks,rfl,dC,fO,fH⟩;have HQ:=dP fO;go_wp2_with fail;go_returns;have z1:=av.o.size;have z2:=ax.o.size;have z3:=aO.o.size;have z4:=cy.o.size;have z5:=dK.o.size;have z6:=je.o.size;have z7:=EG.o.size;have zl:=cO.size;have zn:=fH;simp at zn;have y8:=cO.trans HQ.o;have y7:=EG.o.trans y8.of_nil;have y6:=je.o.trans y7;have y5:=dK.o.trans y6;have y4:=cy.o.trans y5;have y3:=aO.o.trans y4;have y2:=ax.o.trans y3;have y1:=av.o.trans y2;exact aG (show r=.ok _ _ from MP.o.symm) y1 ⟨_,rfl,(zw n dC (by omega) (lt_of_block dC) (bY fM HQ.o (by omega) lr) (kp jc bT y5 (by omega)) (kp jE aD y2 (by omega)) (kp oG dJ y6 (by omega)) (kp I8 eM y8.of_nil (by omega)))⟩ (rk.o.cI y8)
theorem Wo(W:World)(u:Value):(Instr.typeAssert (.iface 243 u) 96 243 false).run Tryz.prog W=.ok u W:=by kernel_rfl
theorem Yb:(Tryz.prog.info? 243).map (fun i=>(i.zero,i.size,i.bytes))=some (some xB,1,8):=by kernel_rfl
theorem xF(c:Cx)(hL:dg c)(n:Nat)(hm:n≤1099511627776):aS c 116 #[.pointer (some ⟨c.pb,0,none⟩)] (oN (rd c.s) n) (au.iface 267 (G7 n)):=by
 have HW:=ae (dO c hL fZ);have Kk:=ae (pN c hL n hm);have ic:=ae (vk c);have jk:=ae nA;clear hL hm;refine fj fun t w r hr (HO:Hd _) h=>?_;unfold oN at hr;have bH:=ae hr;have aD:=ae h;have c6:=h.c6;clear h hr;go_enter Tryz.func116,Tryz.ntmps116;go_wp2_with fail;refine(HW.o t _ aD.o (aH bH HO)).mono ?_;intro e w1 h1;rcases h1.cases (aH bH HO) with⟨x1,t1,hx,rfl,cA,av⟩|⟨p,v,u,hx,rfl,HU,av⟩
 rotate_left
 · have fv:=ae (bc bH hx);clear hx h1;unfold kg;go_wp2_with fail;go_returns;exact aA fv.o sr (HU.o.sm ((Sm.refl [] _).alloc _) (by simp) lr) (av.o.alloc _)
 have dZ:=bK bH hx;clear hx h1 bH;unfold kg;go_wp2_with fail;obtain⟨w2,zF⟩:∃W,W=w1.alloc (aU x1):=⟨_,rfl⟩;have ax:Hd (Sm [c.pb,c.vb] w1 w2):=by rw[zF];exact sr.alloc _
 have aW:Hd (gb c t1 w2):=by rw[zF];exact cA.o.cI (sr.alloc _)
 have Kn:Hd (w2.heap[w1.heap.size]?=some (aU x1)):=by rw[zF];exact ai _ _
 have dN:=dZ;unfold aU at zF;rw[←zF];clear zF dZ;go_wp2_with fail;refine dj Kk.o aW dN HO (av.o.trans ax.o) (fun v w3 u HE=>?_) fun x3 t3 w3 v3 iE ib bT aO=>?_
 · go_wp2_with fail;go_returns;exact HE.o _ _
 clear dN;obtain⟨uu,hv,hdu⟩:=ib.o;subst hv;obtain⟨a3,hv⟩:=(Lg n).out hdu;subst hv;have HDU:=ae hdu;clear hdu ib;have ib:=HDU;have Kb:=Wo;have b1:=bT.o.c1;go_wp2_with fail
 go_region_held3 (fun W=>W.cell? ⟨c.pb,1,none⟩=some (.pointer (some ⟨c.sb,0,none⟩))) (go_keep)
  (first
   | (
    go_at_call 44;refine(ic.o t3 _ _ (bT.o.cI ?_)).mono ?_;(repeat(first| exact sr|assumption|refine Sm.alloc ?_ _|refine Sm.drew ?_|refine Sm.drewN ?_ _));rintro e wl ⟨lb,i,j,sp,rfl,cO,lC,fM⟩
    have js:=(show Sm [] w3 _ from(by(repeat(first| exact sr|assumption|refine Sm.alloc ?_ _|refine Sm.drew ?_|refine Sm.drewN ?_ _)))).trans cO
    have q1:=js.keeps b1 (by simp))
   | (
    go_at_call 158;refine(jk.o _ ⟨#[]⟩ (some ⟨lb,0,none⟩) a3 _ ?_).mono ?_;exact ai _ _;rintro e wn ⟨nb,ks,rfl,dC,fO,fH⟩
    have mE:Sm [] wl wn:=sG fO (by(repeat(first| exact sr|assumption|refine Sm.alloc ?_ _|refine Sm.drew ?_|refine Sm.drewN ?_ _))) lr
    have u1:=mE.keeps q1 (by simp)))
 all_goals go_wp2_with fail;go_returns;have z1:=av.o.size;have z2:=ax.o.size;have z3:=aO.o.size;have z4:=js.size;have z5:=fH;have z6:=lC;simp at z5 z6;exact aG (show r=.ok _ _ from iE.o.symm) (((av.o.trans ax.o).trans aO.o).trans (js.trans mE).of_nil) ⟨_,rfl,(KG n dC (by omega) (lt_of_block dC) (bY fM mE (by omega) lr) (kept ib.o (js.trans mE).of_nil aW.o.lt aW.o.wh (by omega)))⟩ (bT.o.cI (js.trans mE))
end Go.Proofs.YtnpjmhodfdgloaaGreatDoor
