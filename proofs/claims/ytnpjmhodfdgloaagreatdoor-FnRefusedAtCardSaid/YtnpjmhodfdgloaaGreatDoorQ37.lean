/- Part of the proof. -/
import Derived.Test.YtnpjmhodfdgloaaGreatDoorQ17
import Derived.Test.YtnpjmhodfdgloaaGreatDoorQ36
set_option linter.unusedVariables false
set_option linter.unusedSimpArgs false
namespace Go.Proofs.YtnpjmhodfdgloaaGreatDoor
set_option maxRecDepth 100000
set_option maxHeartbeats 32000000
open Go.RowKit
attribute [local go_sem ↓] Go.wp_at_zero Go.wp_at_succ
theorem uN{b b' n:Nat}{w:World}{e:TypeId}{v:Value}{vs:List Value}(h:w.ownsRow b e 1 v n vs)(hb:b'≤b):w.ownsRow b' e 1 v n vs:=by
 refine⟨h.1,?_⟩;rcases h.2 with h0|⟨g,cap,cur,h0,h1,h2⟩
 · exact .inl h0
 · exact .inr ⟨g,cap,cur,h0,by omega,h2⟩
def fg(R:au (List Nd))(T:TypeId)(wB wK:World)(xs:List (List Nd))(g:Nat)(v ii:Value)(wr:World):Prop:=
 ∃j vs a k,g+j=xs.length∧v=.slice a j k∧ii=.int .i64 (j:Int)∧Hd (wr.ownsRow wK.heap.size T 1 v j vs)∧Hd (bP R wB.heap.size wr v.ownBlock vs (xs.take j))∧Hd (Sm [] wK wr)
theorem xH(c:Cx)(hL:dg c):aS c 144 #[.pointer (some ⟨c.pb,0,none⟩)] (cU (rd c.s)) (au.iface 225 qD):=by
 have DH:=ae (mJ c hL);have HE:=ae (eB c hL 7);have Ay:=ae (j5 c hL);have ic:=ae (vk c);have jk:=ae nz;clear hL ;refine fj fun t w r hr (HO:Hd _) h=>?_;unfold cU at hr;have bH:=ae hr;have aD:=ae h;have c6:=h.c6;clear h hr;go_enter Tryz.func144,Tryz.ntmps144;go_wp2_with fail;refine dj DH.o aD bH HO sr (fun v w1 u HE=>?_) fun x1 t1 w1 v1 dZ jE cA av=>?_
 · go_wp2_with fail;go_returns;exact HE.o _ _
 clear bH;have hv:v1=.string x1:=jE.o;subst hv;go_wp2_with fail;refine lN HE.o cA dZ HO av.o (fun v w2 u HE=>?_) fun x2 t2 w2 dN aW ax=>?_
 · go_wp2_with fail;go_returns;exact HE.o _ _
 clear dZ;go_wp2_with fail;refine dj Ay.o aW dN HO (av.o.trans ax.o) (fun v w3 u HE=>?_) fun x3 t3 w3 v3 iE ib bT aO=>?_
 · go_wp2_with fail;go_returns;exact HE.o _ _
 clear dN;obtain⟨a3,hv⟩:=jw.out ib.o;subst hv;go_wp2_with fail;refine(ic.o t3 _ _ bT.o).mono ?_;rintro e wl ⟨lb,i,j,sp,rfl,cO,lC,fM⟩;go_wp2_with fail;refine(jk.o _ ⟨#[]⟩ (some ⟨lb,0,none⟩) x1 a3 _ (ai _ _)).mono ?_;rintro e wn ⟨nb,ks,rfl,dC,fO,fH⟩;have HQ:=dP fO;go_wp2_with fail;go_returns;have z1:=av.o.size;have z2:=ax.o.size;have z3:=aO.o.size;have zl:=cO.size;have zn:=fH;simp at zn;have y4:=cO.trans HQ.o;have y3:=aO.o.trans y4.of_nil;have y2:=ax.o.trans y3;have y1:=av.o.trans y2;exact aG (show r=.ok _ _ from iE.o.symm) y1 ⟨_,rfl,(Ld dC (by omega) (lt_of_block dC) (bY fM HQ.o (by omega) lr) rfl (kp ib aW y4.of_nil (by omega)))⟩ (bT.o.cI y4)
theorem Wq(W:World)(u:Value):(Instr.typeAssert (.iface 225 u) 20 225 true).run Tryz.prog W=.ok (.tuple #[u,.bool true]) W:=by kernel_rfl
theorem PX:(Tryz.prog.info? 225).map (fun i=>(i.zero,i.size,i.bytes))=some (some xB,1,8):=by kernel_rfl
theorem Pd(args:Array Value)(W:World):Sem.run Tryz.prog (callFunc 144 args) W=.ok (.enter 144 args) W:=by kernel_rfl
theorem SS:gR qD:=(gR.ptr _).map
theorem jS:fp.toList=[115,99,104,101,109,97]:=by rw[ByteArray.toList_eq];rfl
theorem qt(c:Cx)(hL:dg c)(n:Nat)(hm:n≤1099511627776):aS c 109 #[.pointer (some ⟨c.pb,0,none⟩)] (sA (rd c.s) n) (au.iface 227 (Hb n)):=by
 have HW:=ae (dO c hL fp);have HD:=ae (bF c hL n hm (cq c hL n hm false));have DI:=ae (gi c hL 144 (cU (rd c.s)) (au.iface 225 qD) 12 14 n true (xH c hL) (qo.iface _ _) hm Pd);have ic:=ae (vk c);have jk:=ae rP;have xZ:=ae hm;clear hL hm;refine fj fun t w r hr (HO:Hd _) h=>?_;unfold sA yz at hr;have bH:=ae hr;have aD:=ae h;have c6:=h.c6;clear h hr;go_enter Tryz.func109,Tryz.ntmps109;go_wp2_with fail;refine(HW.o t _ aD.o (aH bH HO)).mono ?_;intro e w1 h1;rcases h1.cases (aH bH HO) with⟨x1,t1,hx,rfl,cA,av⟩|⟨p,v,u,hx,rfl,HU,av⟩
 rotate_left
 · have fv:=ae (bc bH hx);clear hx h1;unfold kg;go_wp2_with fail;go_returns;exact aA fv.o sr (HU.o.sm ((Sm.refl [] _).alloc _) (by simp) lr) (av.o.alloc _)
 have dZ:=bK bH hx;clear hx h1 bH;unfold kg;go_wp2_with fail;obtain⟨w2,zF⟩:∃W,W=w1.alloc (aU x1):=⟨_,rfl⟩;have ax:Hd (Sm [c.pb,c.vb] w1 w2):=by rw[zF];exact sr.alloc _
 have aW:Hd (gb c t1 w2):=by rw[zF];exact cA.o.cI (sr.alloc _)
 have Kn:Hd (w2.heap[w1.heap.size]?=some (aU x1)):=by rw[zF];exact ai _ _
 have dN:=dZ;unfold aU at zF;rw[←zF];clear zF dZ;go_wp2_with fail;refine dj HD.o aW dN HO (av.o.trans ax.o) (fun v w3 u HE=>?_) fun x3 t3 w3 v3 iE ib bT aO=>?_
 · go_wp2_with fail;go_returns;exact HE.o _ _
 clear dN;obtain⟨a3,n3,m3,hv⟩:=(dS _).out ib.o;subst hv;go_wp2_with fail;refine Z03 DI.o bT.o iE HO ((av.o.trans ax.o).trans aO.o) (fun v w4 u HE=>?_) fun x4 t4 w4 v4 hx iO jc dJ cy=>?_
 · go_wp2_with fail;go_returns;exact HE.o _ _
 have RG:=ae hx;clear hx iE;obtain⟨aa,nn,kk,hv⟩:=(DM.list _).out jc.o;subst hv;obtain⟨hn,(DE:Hd _)⟩:=iY jc.o;subst hn;have lz:Hd (x4.length≤1099511627776):=Nat.le_trans (gj RG.o) xZ.o;have Rx:Hd (w3.heap.size≤w4.heap.size):=cy.o.size;have Kb:=Wq;have z0:(0:Int)≤(x4.length:Int):=by omega
 go_wp2_with fail
 go_loopg [9,46] x4.length (fun g v ii wr=>fg (qD) 225 w3 w4 x4 g v ii wr)
 case atStart=>unfold fg;exact⟨0,[],_,_,by simp,rfl,rfl,World.ownsRow_made (base:=w4.heap.size) (size:=1) w4 #[] 0 lr (by simp[maxLen]) rfl,by unfold Hd;rw[List.take_zero];exact .nil,sr.alloc _⟩
 case round=>
  unfold fg at hrel;obtain⟨j,vs,a,k,r4,rfl,rfl,mx,mX,rn⟩:=hrel;have jF:=ae r4;by_cases hj:j<x4.length
  · obtain⟨bb,oo,u,E3,gP,kh,hc,hu⟩:=DE.o j hj;subst E3;have sa:Hd (w4.heap.size≤wr.heap.size):=rn.o.size;have Cd:wr.cell? ⟨bb,oo+j,none⟩=some u:=rn.o.keeps hc (by simp);have wQ:=au.sm hu rn.o lr (fun q hq=>by cases hq);obtain⟨uu,rfl,s5⟩:=wQ;obtain⟨ab,jd⟩:=SS.out s5;subst jd;have z1:(j:Int)<(x4.length:Int):=by omega
    have z2:(0:Int)≤(j:Int):=by omega
    have how:=mx.o;have de:(j+1)*8≤140737488355328:=by have:=lz.o;omega
    have cv:w4.heap.size≤wr.heap.size:=rn.o.size;have HJ:=ae hj;have E5:=lz.o;have lg:Hd (∀q,Value.ownBlock (.slice a j k)=some q→q<w3.heap.size∨w4.heap.size≤q):=fun q hq=>.inr (how.lt q hq).1;clear r4 hc hu gP kh;go_wp2_with (at_builtin;refine gH _ rfl _ _ _ rfl 225 _ 1 8 Tryz.underlying224 PX rfl (by omega) (by omega) _ j vs rfl how _ rfl rfl (by simp[Value.oneCell']) de (by omega) ?_);intro g dM w' aQ (HG:Hd _) bV ea;have qU:Hd (w'.ownsRow w4.heap.size 225 1 (.slice (some ⟨g,0,none⟩) (j+1) dM) (j+1) (vs++[.pointer ab])):=by unfold Hd;simpa using aQ
    have bX:Hd (Value.ownBlock (.slice a j k)=some g∨wr.heap.size≤g):=bV.imp id (fun e=>by omega);have HU:=ae s5;have iD:=ae how;clear aQ bV ea how de Cd s5;go_wp2_with fail;go_roundg (gk-1)
    case measure=>have:=jF.o;have:=HJ.o;omega
    case rel=>
     unfold fg;refine⟨j+1,vs++[.pointer ab],some ⟨g,0,none⟩,dM,by have:=jF.o;have:=HJ.o;omega,rfl,by go_num,by unfold Hd;simpa using qU.out,?_,?_⟩
     · rw[gA HJ.o];exact mX.o.add HG.o bX.o lr sa.o lg.o HU.o
     · exact rn.o.grown HG.o (fun q hq=>.inl (iD.o.lt q hq).1)
  · obtain rfl:j=x4.length:=by omega
    have z1:¬((x4.length:Int)<(x4.length:Int)):=by omega
    have DF:Hd ((au.list (qD)).rd w3.heap.size wr.heap.size wr (.slice a x4.length k) x4):=cW (uN mx.o Rx.o) (by have:=mX.o;rwa [List.take_length] at this);have dK:Hd (Sm [c.pb,c.vb] w4 wr):=rn.o.of_nil;have bX:=ae (dJ.o.cI rn.o);have jG:=iO;clear hj r4 iO;go_wp2_with fail;refine(ic.o t4 _ _ bX.o).mono ?_;rintro e wl ⟨lb,i,j,sp,rfl,cO,lC,fM⟩;go_wp2_with fail;refine(jk.o _ ⟨#[]⟩ (some ⟨lb,0,none⟩) a3 n3 m3 a x4.length k _ (ai _ _)).mono ?_;rintro e wn ⟨nb,ks,rfl,dC,fO,fH⟩;have HQ:=dP fO;go_wp2_with fail;go_returns;have z1:=av.o.size;have z2:=ax.o.size;have z3:=aO.o.size;have z4:=cy.o.size;have z5:=dK.o.size;have zl:=cO.size;have zn:=fH;simp at zn;have y6:=cO.trans HQ.o;have y5:=dK.o.trans y6.of_nil;have y4:=cy.o.trans y5;have y3:=aO.o.trans y4;have y2:=ax.o.trans y3;have y1:=av.o.trans y2;exact aG (show r=.ok _ _ from jG.o.symm) y1 ⟨_,rfl,(Ln n dC (by omega) (lt_of_block dC) (bY fM HQ.o (by omega) lr) (kp ib aW y4 (by omega)) (au.wide _ (au.sm DF.o (cO.trans HQ.o) lr (fun q hq=>by cases hq)) (by omega) (cO.trans HQ.o).size))⟩ (bX.o.cI y6)
theorem kS:ka.toList=[115,99,97,108,97,114]:=by rw[ByteArray.toList_eq];rfl
theorem AZ(c:Cx)(hL:dg c)(n:Nat)(hm:n≤1099511627776):aS c 110 #[.pointer (some ⟨c.pb,0,none⟩)] (bZ (rd c.s) ka (pA (rd c.s) n)) (au.iface 234 (Ha n)):=by
 have Fz:=ae (cX c hL);have HW:=ae (dO c hL ka);have HN:=ae (cd c hL);have HD:=ae (bF c hL n hm (cq c hL n hm false));have ic:=ae (vk c);have jk:=ae rO;clear hL hm;refine fj fun t w r hr (HO:Hd _) h=>?_;unfold bZ pA at hr;have bH:=ae hr;have aD:=ae h;have c6:=h.c6;clear h hr;go_enter Tryz.func110,Tryz.ntmps110;go_wp2_with fail;refine dj Fz.o aD bH HO sr (fun v w1 u HE=>?_) fun x1 t1 w1 v1 dZ jE cA av=>?_
 · go_wp2_with fail;go_returns;exact HE.o _ _
 clear bH;obtain⟨a1,hv⟩:=lI.out jE.o;subst hv;go_wp2_with fail;refine lN HW.o cA dZ HO av.o (fun v w2 u HE=>?_) fun x2 t2 w2 dN aW ax=>?_
 · go_wp2_with fail;go_returns;exact HE.o _ _
 clear dZ;go_wp2_with fail;refine dj HN.o aW dN HO (av.o.trans ax.o) (fun v w3 u HE=>?_) fun x3 t3 w3 v3 iE ib bT aO=>?_
 · go_wp2_with fail;go_returns;exact HE.o _ _
 clear dN;obtain⟨a3,hv⟩:=ef.out ib.o;subst hv;go_wp2_with fail;refine dj HD.o bT iE HO ((av.o.trans ax.o).trans aO.o) (fun v w4 u HE=>?_) fun x4 t4 w4 v4 iO jc dJ cy=>?_
 · go_wp2_with fail;go_returns;exact HE.o _ _
 clear iE;obtain⟨a4,n4,m4,hv⟩:=(dS _).out jc.o;subst hv;go_wp2_with fail;refine(ic.o t4 _ _ dJ.o).mono ?_;rintro e wl ⟨lb,i,j,sp,rfl,cO,lC,fM⟩;go_wp2_with fail;refine(jk.o _ ⟨#[]⟩ (some ⟨lb,0,none⟩) a1 a3 a4 n4 m4 _ (ai _ _)).mono ?_;rintro e wn ⟨nb,ks,rfl,dC,fO,fH⟩;have HQ:=dP fO;go_wp2_with fail;go_returns;have z1:=av.o.size;have z2:=ax.o.size;have z3:=aO.o.size;have z4:=cy.o.size;have zl:=cO.size;have zn:=fH;simp at zn;have y5:=cO.trans HQ.o;have y4:=cy.o.trans y5.of_nil;have y3:=aO.o.trans y4;have y2:=ax.o.trans y3;have y1:=av.o.trans y2;exact aG (show r=.ok _ _ from iO.o.symm) y1 ⟨_,rfl,(Ll n dC (by omega) (lt_of_block dC) (bY fM HQ.o (by omega) lr) (kp jE aD y2 (by omega)) (kp ib aW y4 (by omega)) (kp jc bT y5.of_nil (by omega)))⟩ (dJ.o.cI y5)
theorem xE(c:Cx)(hL:dg c)(n:Nat)(hm:n≤1099511627776):aS c 154 #[.pointer (some ⟨c.pb,0,none⟩)] (kq (rd c.s) n) (au.iface 256 (kn n)):=by
 have Fz:=ae (cX c hL);have HN:=ae (cd c hL);have HD:=ae (bF c hL n hm (cq c hL n hm false));have ic:=ae (vk c);have jk:=ae pF;clear hL hm;refine fj fun t w r hr (HO:Hd _) h=>?_;unfold kq at hr;have bH:=ae hr;have aD:=ae h;have c6:=h.c6;clear h hr;go_enter Tryz.func154,Tryz.ntmps154;go_wp2_with fail;refine dj Fz.o aD bH HO sr (fun v w1 u HE=>?_) fun x1 t1 w1 v1 dZ jE cA av=>?_
 · go_wp2_with fail;go_returns;exact HE.o _ _
 clear bH;obtain⟨a1,hv⟩:=lI.out jE.o;subst hv;go_wp2_with fail;refine dj HN.o cA dZ HO av.o (fun v w2 u HE=>?_) fun x2 t2 w2 v2 dN qh aW ax=>?_
 · go_wp2_with fail;go_returns;exact HE.o _ _
 clear dZ;obtain⟨a2,hv⟩:=ef.out qh.o;subst hv;go_wp2_with fail;refine dj HD.o aW dN HO (av.o.trans ax.o) (fun v w3 u HE=>?_) fun x3 t3 w3 v3 iE ib bT aO=>?_
 · go_wp2_with fail;go_returns;exact HE.o _ _
 clear dN;obtain⟨a3,n3,m3,hv⟩:=(dS _).out ib.o;subst hv;go_wp2_with fail;refine(ic.o t3 _ _ bT.o).mono ?_;rintro e wl ⟨lb,i,j,sp,rfl,cO,lC,fM⟩;go_wp2_with fail;refine(jk.o _ ⟨#[]⟩ (some ⟨lb,0,none⟩) a2 a1 a3 n3 m3 _ (ai _ _)).mono ?_;rintro e wn ⟨nb,ks,rfl,dC,fO,fH⟩;have HQ:=dP fO;go_wp2_with fail;go_returns;have z1:=av.o.size;have z2:=ax.o.size;have z3:=aO.o.size;have zl:=cO.size;have zn:=fH;simp at zn;have y4:=cO.trans HQ.o;have y3:=aO.o.trans y4.of_nil;have y2:=ax.o.trans y3;have y1:=av.o.trans y2;exact aG (show r=.ok _ _ from iE.o.symm) y1 ⟨_,rfl,(DV n dC (by omega) (lt_of_block dC) (bY fM HQ.o (by omega) lr) (kp qh cA y3 (by omega)) (kp jE aD y2 (by omega)) (kp ib aW y4.of_nil (by omega)))⟩ (bT.o.cI y4)
theorem Ww(W:World)(u:Value):(Instr.typeAssert (.iface 196 u) 20 204 true).run Tryz.prog W=.ok (.tuple #[.iface 196 u,.bool true]) W:=by kernel_rfl
theorem Wx(W:World)(u:Value):(Instr.typeAssert (.iface 316 u) 20 204 true).run Tryz.prog W=.ok (.tuple #[.iface 316 u,.bool true]) W:=by kernel_rfl
theorem Wy(W:World)(u:Value):(Instr.typeAssert (.iface 319 u) 20 204 true).run Tryz.prog W=.ok (.tuple #[.iface 319 u,.bool true]) W:=by kernel_rfl
theorem Wz(W:World)(u:Value):(Instr.typeAssert (.iface 231 u) 20 204 true).run Tryz.prog W=.ok (.tuple #[.iface 231 u,.bool true]) W:=by kernel_rfl
theorem WA(W:World)(u:Value):(Instr.typeAssert (.iface 322 u) 20 204 true).run Tryz.prog W=.ok (.tuple #[.iface 322 u,.bool true]) W:=by kernel_rfl
theorem WB(W:World)(u:Value):(Instr.typeAssert (.iface 326 u) 20 204 true).run Tryz.prog W=.ok (.tuple #[.iface 326 u,.bool true]) W:=by kernel_rfl
theorem WC(W:World)(u:Value):(Instr.typeAssert (.iface 310 u) 20 204 true).run Tryz.prog W=.ok (.tuple #[.iface 310 u,.bool true]) W:=by kernel_rfl
theorem WD(W:World)(u:Value):(Instr.typeAssert (.iface 313 u) 20 204 true).run Tryz.prog W=.ok (.tuple #[.iface 313 u,.bool true]) W:=by kernel_rfl
theorem Ff:∀(n:Nat) {lo hi:Nat} {w:World} {v:Value} {x:List Nd},(cH n).rd lo hi w v x→∀W,(Instr.typeAssert v 20 204 true).run Tryz.prog W=.ok (.tuple #[v,.bool true]) W
 | 0,_,_,_,_,_,h,_=>h.elim
 | n+1,_,_,_,_,_,h,W=>by
  rcases h with⟨u,rfl,_⟩|⟨u,rfl,_⟩|⟨u,rfl,_⟩|⟨u,rfl,_⟩|⟨u,rfl,_⟩|⟨u,rfl,_⟩|⟨u,rfl,_⟩|⟨u,rfl,_⟩
  · exact Ww W u
  · exact Wx W u
  · exact Wy W u
  · exact Wz W u
  · exact WA W u
  · exact WB W u
  · exact WC W u
  · exact WD W u
theorem qF(c:Cx)(hL:dg c)(n:Nat)(hm:n≤1099511627776):aS c 156 #[.pointer (some ⟨c.pb,0,none⟩)] (jR (rd c.s) n) (au.iface 262 (gU n)):=by
 have Fz:=ae (cX c hL);have HN:=ae (cd c hL);have HE:=ae (eB c hL 7);have HT:=ae (nP c hL n);have HS:=ae (od c hL 8);have HV:=ae (oD c n (cq c hL n hm true));have HD:=ae (bF c hL n hm (cq c hL n hm false));have ic:=ae (vk c);have jk:=ae oP;clear hL hm;refine fj fun t w r hr (HO:Hd _) h=>?_;unfold jR py at hr;simp only[cD,bJ] at hr;have bH:=ae hr;have aD:=ae h;have c6:=h.c6;clear h hr;go_enter Tryz.func156,Tryz.ntmps156;go_wp2_with fail;refine dj Fz.o aD bH HO sr (fun v w1 u HE=>?_) fun x1 t1 w1 v1 dZ jE cA av=>?_
 · go_wp2_with fail;go_returns;exact HE.o _ _
 clear bH;obtain⟨a1,hv⟩:=lI.out jE.o;subst hv;go_wp2_with fail;refine dj HN.o cA dZ HO av.o (fun v w2 u HE=>?_) fun x2 t2 w2 v2 dN qh aW ax=>?_
 · go_wp2_with fail;go_returns;exact HE.o _ _
 clear dZ;obtain⟨a2,hv⟩:=ef.out qh.o;subst hv;go_wp2_with fail;refine lN HE.o aW dN HO (av.o.trans ax.o) (fun v w3 u HE=>?_) fun x3 t3 w3 iE bT aO=>?_
 · go_wp2_with fail;go_returns;exact HE.o _ _
 clear dN;go_wp2_with fail;refine dj HT.o bT iE HO ((av.o.trans ax.o).trans aO.o) (fun v w4 u HE=>?_) fun x4 t4 w4 v4 iO jc dJ cy=>?_
 · go_wp2_with fail;go_returns;exact HE.o _ _
 clear iE;have Mj:=(Bh n).out jc.o;go_wp2_with fail;refine dj HS.o dJ iO HO (((av.o.trans ax.o).trans aO.o).trans cy.o) (fun v w5 u HE=>?_) fun x5 t5 w5 v5 jG oG bX dK=>?_
 · go_wp2_with fail;go_returns;exact HE.o _ _
 clear iO;have hv:v5=.bool x5:=oG.o;subst hv
 cases x5 with
 | false=>
  have eQ:=jG.o;clear jG
  try simp only[Bool.false_eq_true,ll,lk,cD,bJ,dd] at eQ
  have jG:=ae eQ;clear eQ;rcases Mj with rfl|⟨ty4,u4,rfl⟩
  · skip
    go_wp2_with fail;refine dj HD.o bX jG HO ((((av.o.trans ax.o).trans aO.o).trans cy.o).trans dK.o) (fun v w6 u HE=>?_) fun x6 t6 w6 v6 oH qj eM je=>?_
    · go_wp2_with fail;go_returns;exact HE.o _ _
    clear jG;obtain⟨a6,n6,m6,hv⟩:=(dS _).out qj.o;subst hv;go_wp2_with fail;refine(ic.o t6 _ _ eM.o).mono ?_;rintro e wl ⟨lb,i,j,sp,rfl,cO,lC,fM⟩;go_wp2_with fail;refine(jk.o _ ⟨#[]⟩ (some ⟨lb,0,none⟩) a2 a1 .nilIface .nilIface a6 n6 m6 _ (ai _ _) (.inl rfl) (.inl rfl)).mono ?_;rintro e wn ⟨nb,ks,rfl,dC,fO,fH⟩;have HQ:=dP fO;go_wp2_with fail;go_returns;have z1:=av.o.size;have z2:=ax.o.size;have z3:=aO.o.size;have z4:=cy.o.size;have z5:=dK.o.size;have z6:=je.o.size;have zl:=cO.size;have zn:=fH;simp at zn;have y7:=cO.trans HQ.o;have y6:=je.o.trans y7.of_nil;have y5:=dK.o.trans y6;have y4:=cy.o.trans y5;have y3:=aO.o.trans y4;have y2:=ax.o.trans y3;have y1:=av.o.trans y2;exact aG (show r=.ok _ _ from oH.o.symm) y1 ⟨_,rfl,(oO n dC (by omega) (lt_of_block dC) (bY fM HQ.o (by omega) lr) (kp qh cA y3 (by omega)) (kp jE aD y2 (by omega)) (kp jc bT y5 (by omega)) (.inl ⟨rfl,rfl⟩) (kp qj bX y7.of_nil (by omega)))⟩ (eM.o.cI y7)
  · skip
    go_wp2_with fail;refine dj HD.o bX jG HO ((((av.o.trans ax.o).trans aO.o).trans cy.o).trans dK.o) (fun v w6 u HE=>?_) fun x6 t6 w6 v6 oH qj eM je=>?_
    · go_wp2_with fail;go_returns;exact HE.o _ _
    clear jG;obtain⟨a6,n6,m6,hv⟩:=(dS _).out qj.o;subst hv;go_wp2_with fail;refine(ic.o t6 _ _ eM.o).mono ?_;rintro e wl ⟨lb,i,j,sp,rfl,cO,lC,fM⟩;go_wp2_with fail;refine(jk.o _ ⟨#[]⟩ (some ⟨lb,0,none⟩) a2 a1 (.iface ty4 u4) .nilIface a6 n6 m6 _ (ai _ _) (.inr ⟨_,_,rfl⟩) (.inl rfl)).mono ?_;rintro e wn ⟨nb,ks,rfl,dC,fO,fH⟩;have HQ:=dP fO;go_wp2_with fail;go_returns;have z1:=av.o.size;have z2:=ax.o.size;have z3:=aO.o.size;have z4:=cy.o.size;have z5:=dK.o.size;have z6:=je.o.size;have zl:=cO.size;have zn:=fH;simp at zn;have y7:=cO.trans HQ.o;have y6:=je.o.trans y7.of_nil;have y5:=dK.o.trans y6;have y4:=cy.o.trans y5;have y3:=aO.o.trans y4;have y2:=ax.o.trans y3;have y1:=av.o.trans y2
    exact aG (show r=.ok _ _ from oH.o.symm) y1 ⟨_,rfl,(oO n dC (by omega) (lt_of_block dC) (bY fM HQ.o (by omega) lr) (kp qh cA y3 (by omega)) (kp jE aD y2 (by omega)) (kp jc bT y5 (by omega)) (.inl ⟨rfl,rfl⟩) (kp qj bX y7.of_nil (by omega)))⟩ (eM.o.cI y7)
 | true=>
  have eQ:=jG.o;clear jG
  try simp only[Bool.false_eq_true,ll,lk,cD,bJ,dd] at eQ
  have jG:=ae eQ;clear eQ;rcases Mj with rfl|⟨ty4,u4,rfl⟩
  · skip
    go_wp2_with fail;refine dj HV.o bX jG HO ((((av.o.trans ax.o).trans aO.o).trans cy.o).trans dK.o) (fun v w6 u HE=>?_) fun x6 t6 w6 v6 oH qj eM je=>?_
    · go_wp2_with fail;go_returns;exact HE.o _ _
    clear jG;have Kb:=Ff n qj.o;obtain⟨ty6,u6,hv⟩:=(kv n).out qj.o;subst hv;go_wp2_with fail;refine dj HD.o eM oH HO (((((av.o.trans ax.o).trans aO.o).trans cy.o).trans dK.o).trans je.o) (fun v w7 u HE=>?_) fun x7 t7 w7 v7 MP I8 rk EG=>?_
    · go_wp2_with fail;go_returns;exact HE.o _ _
    clear oH;obtain⟨a7,n7,m7,hv⟩:=(dS _).out I8.o;subst hv;go_wp2_with fail;refine(ic.o t7 _ _ rk.o).mono ?_;rintro e wl ⟨lb,i,j,sp,rfl,cO,lC,fM⟩;go_wp2_with fail;refine(jk.o _ ⟨#[]⟩ (some ⟨lb,0,none⟩) a2 a1 .nilIface (.iface ty6 u6) a7 n7 m7 _ (ai _ _) (.inl rfl) (.inr ⟨_,_,rfl⟩)).mono ?_;rintro e wn ⟨nb,ks,rfl,dC,fO,fH⟩;have HQ:=dP fO;go_wp2_with fail;go_returns;have z1:=av.o.size;have z2:=ax.o.size;have z3:=aO.o.size;have z4:=cy.o.size;have z5:=dK.o.size;have z6:=je.o.size;have z7:=EG.o.size;have zl:=cO.size;have zn:=fH;simp at zn;have y8:=cO.trans HQ.o;have y7:=EG.o.trans y8.of_nil;have y6:=je.o.trans y7;have y5:=dK.o.trans y6;have y4:=cy.o.trans y5;have y3:=aO.o.trans y4;have y2:=ax.o.trans y3;have y1:=av.o.trans y2;exact aG (show r=.ok _ _ from MP.o.symm) y1 ⟨_,rfl,(oO n dC (by omega) (lt_of_block dC) (bY fM HQ.o (by omega) lr) (kp qh cA y3 (by omega)) (kp jE aD y2 (by omega)) (kp jc bT y5 (by omega)) (.inr (kp qj bX y7 (by omega))) (kp I8 eM y8.of_nil (by omega)))⟩ (rk.o.cI y8)
  · skip
    go_wp2_with fail;refine dj HV.o bX jG HO ((((av.o.trans ax.o).trans aO.o).trans cy.o).trans dK.o) (fun v w6 u HE=>?_) fun x6 t6 w6 v6 oH qj eM je=>?_
    · go_wp2_with fail;go_returns;exact HE.o _ _
    clear jG;have Kb:=Ff n qj.o;obtain⟨ty6,u6,hv⟩:=(kv n).out qj.o;subst hv;go_wp2_with fail;refine dj HD.o eM oH HO (((((av.o.trans ax.o).trans aO.o).trans cy.o).trans dK.o).trans je.o) (fun v w7 u HE=>?_) fun x7 t7 w7 v7 MP I8 rk EG=>?_
    · go_wp2_with fail;go_returns;exact HE.o _ _
    clear oH;obtain⟨a7,n7,m7,hv⟩:=(dS _).out I8.o;subst hv;go_wp2_with fail;refine(ic.o t7 _ _ rk.o).mono ?_;rintro e wl ⟨lb,i,j,sp,rfl,cO,lC,fM⟩;go_wp2_with fail;refine(jk.o _ ⟨#[]⟩ (some ⟨lb,0,none⟩) a2 a1 (.iface ty4 u4) (.iface ty6 u6) a7 n7 m7 _ (ai _ _) (.inr ⟨_,_,rfl⟩) (.inr ⟨_,_,rfl⟩)).mono ?_;rintro e wn ⟨nb,ks,rfl,dC,fO,fH⟩;have HQ:=dP fO;go_wp2_with fail;go_returns;have z1:=av.o.size;have z2:=ax.o.size;have z3:=aO.o.size;have z4:=cy.o.size;have z5:=dK.o.size;have z6:=je.o.size;have z7:=EG.o.size;have zl:=cO.size;have zn:=fH;simp at zn;have y8:=cO.trans HQ.o;have y7:=EG.o.trans y8.of_nil;have y6:=je.o.trans y7;have y5:=dK.o.trans y6;have y4:=cy.o.trans y5;have y3:=aO.o.trans y4;have y2:=ax.o.trans y3;have y1:=av.o.trans y2;exact aG (show r=.ok _ _ from MP.o.symm) y1 ⟨_,rfl,(oO n dC (by omega) (lt_of_block dC) (bY fM HQ.o (by omega) lr) (kp qh cA y3 (by omega)) (kp jE aD y2 (by omega)) (kp jc bT y5 (by omega)) (.inr (kp qj bX y7 (by omega))) (kp I8 eM y8.of_nil (by omega)))⟩ (rk.o.cI y8)
theorem Jq(n:Nat):gR (gU n):=(gR.ptr _).map
theorem MI(W:World)(u:Value):(Instr.typeAssert (.iface 262 u) 20 262 false).run Tryz.prog W=.ok u W:=by kernel_rfl
theorem EY:(Tryz.prog.info? 262).map (fun i=>(i.zero,i.size,i.bytes))=some (some xB,1,8):=by kernel_rfl
theorem EL(args:Array Value)(W:World):Sem.run Tryz.prog (callFunc 156 args) W=.ok (.enter 156 args) W:=by kernel_rfl
theorem na(c:Cx)(hL:dg c)(n:Nat)(hm:n≤1099511627776):aS c 159 #[.pointer (some ⟨c.pb,0,none⟩)] (fu (rd c.s) n) (pC n):=by
 have DI:=ae (gi c hL 156 (jR (rd c.s) n) (au.iface 262 (gU n)) 4 5 n true (qF c hL n hm) (qo.iface _ _) hm EL);have HP:Hd (∀t w W,gb c t w→Sm [] w W→Calls Tryz.prog 74 #[.pointer (some ⟨c.pb,0,none⟩),.int .i64 4] W (jJ (decide (t.kind=4)) W)):=fun t w W h hw=>lH c 4 t W (h.cI hw);have xZ:=ae hm;clear hL hm;refine fj fun t w r hr ho h=>?_;unfold fu at hr;rw[dd] at hr;have HO:=ae ho;have aD:=ae h;by_cases hk:t.kind=4
 · rw[if_pos hk] at hr;have bH:=ae hr;have y:decide (t.kind=4)=true:=by simpa using hk
   clear h ho hr hk;go_enter Tryz.func159,Tryz.ntmps159;go_wp2_with fail;refine(HP.o t w _ aD.o (by(repeat(first| exact sr|assumption|refine Sm.alloc ?_ _|refine Sm.drew ?_|refine Sm.drewN ?_ _)))).mono ?_;rintro e w1 ⟨rfl,cJ⟩;have ya:Hd (Sm [] (w.alloc (.cells #[] 262 (0,0))) w1):=cJ;have av:Hd (Sm [] w w1):=((Sm.refl [] w).alloc _).trans cJ;have iq:=er (World.ownsRow_made (base:=w.heap.size) (size:=1) (e:=262) w #[] 0 lr (by simp[maxLen]) rfl) cJ (fun k hk=>by cases hk);have nU:=ae iq;clear cJ iq;go_wp2_with fail;refine(DI.o t w1 (aD.o.cI av.o) (aH bH HO)).mono ?_;intro e w2 h1;rcases h1.cases (aH bH HO) with⟨x2,t2,v2,hx,rfl,qh,aW,ax⟩|⟨p,v,u,hx,rfl,HU,ax⟩
   rotate_left
   · have fv:=ae (bc bH hx);clear hx h1;go_wp2_with fail;go_returns;exact aA fv.o av.o.of_nil HU.o ax.o
   have dZ:Hd (r=.ok x2.flatten t2):=(bK bH hx).out.symm;obtain⟨aa,nn,kk,hv⟩:=(DM.list _).out qh.o;subst hv;obtain⟨hn,(DE:Hd _)⟩:=iY qh.o;subst hn;have HX:=ae hx;clear h1 hx bH y;have Cl:∀k,k∈[c.pb,c.vb]→k<w.heap.size:=fun k hk=>by have a1:=aD.o.lt;have a2:=aD.o.wh;simp at hk;omega
   have Bx:Hd (w2.ownsRow w.heap.size 262 1 (.slice (some ⟨w.heap.size,0,none⟩) 0 0) 0 []):=er nU.o ax.o Cl;have Ae:Hd (Sm [c.pb,c.vb] w w2):=av.o.of_nil.trans ax.o;have Kk:Hd (∀q,Value.ownBlock (.slice (some ⟨w.heap.size,0,none⟩) 0 0)=some q→q<w1.heap.size∨w2.heap.size≤q):=vv ya.o;have A9:Hd (w.heap.size≤w1.heap.size):=av.o.size;have lz:Hd (x2.length≤1099511627776):=Nat.le_trans (gj HX.o) xZ.o;have Kb:=MI;have z0:(0:Int)≤(x2.length:Int):=by omega
   clear Cl;go_wp2_with fail
   go_loopg [4,25] x2.length (fun g v ii wr=>fk c t2 (gU n) 262 w w2 w1.heap.size w2.heap.size x2 g v ii wr)
   case atStart=>unfold fk;exact⟨0,[],_,_,by simp,rfl,rfl,Bx.o,by unfold Hd;rw[List.take_zero];exact .nil,Kk.o,mz.refl _ _ _,aW.o,Ae.o,lr⟩
   case round=>
    unfold fk at hrel;obtain⟨j,vs,a,k,r4,rfl,rfl,mx,mX,lg,ki,rl,Ad,sa⟩:=hrel;have jF:=ae r4;by_cases hj:j<x2.length
    · obtain⟨bb,oo,u,E3,gP,kh,hc,hu⟩:=DE.o j hj;subst E3;have Cd:wr.cell? ⟨bb,oo+j,none⟩=some u:=(ki.o.cell gP kh).trans hc;have wQ:=(au.iface 262 (gU n)).keep hu ki.o;obtain⟨uu,rfl,s5⟩:=wQ;obtain⟨ab,jd⟩:=(Jq n).out s5;subst jd;have z1:(j:Int)<(x2.length:Int):=by omega
      have z2:(0:Int)≤(j:Int):=by omega
      have how:=mx.o;have de:(j+1)*8≤140737488355328:=by have:=lz.o;omega
      have cv:w.heap.size≤wr.heap.size:=Ad.o.size;have HJ:=ae hj;have E5:=lz.o;clear r4 hc hu gP kh;go_wp2_with (at_builtin;refine gH _ rfl _ _ _ rfl 262 _ 1 8 Tryz.underlying261 EY rfl (by omega) (by omega) _ j vs rfl how _ rfl rfl (by simp[Value.oneCell']) de (by omega) ?_);intro g dM w' aQ (HG:Hd _) bV ea;have qU:Hd (w'.ownsRow w.heap.size 262 1 (.slice (some ⟨g,0,none⟩) (j+1) dM) (j+1) (vs++[.pointer ab])):=by unfold Hd;simpa using aQ
      have bX:Hd (Value.ownBlock (.slice a j k)=some g∨wr.heap.size≤g):=bV.imp id (fun e=>by omega);have HU:=ae s5;have iD:=ae how;clear aQ bV ea how de Cd s5;go_wp2_with fail;go_roundg (gk-1)
      case measure=>have:=jF.o;have:=HJ.o;omega
      case rel=>
       unfold fk;refine⟨j+1,vs++[.pointer ab],some ⟨g,0,none⟩,dM,by have:=jF.o;have:=HJ.o;omega,rfl,by go_num,by unfold Hd;simpa using qU.out,?_,?_,?_,?_,?_,?_⟩
       · rw[gA HJ.o];exact mX.o.add HG.o bX.o A9.o sa.o lg.o HU.o
       · exact pd bX.o sa.o lg.o
       · exact ki.o.grown HG.o sa.o lg.o
       · exact rl.o.grown aD.o HG.o (fun q hq=>(iD.o.lt q hq).1)
       · exact Ad.o.grown HG.o (fun q hq=>.inl (iD.o.lt q hq).1)
       · exact Nat.le_trans sa.o HG.o.size
    · obtain rfl:j=x2.length:=by omega
      have z1:¬((x2.length:Int)<(x2.length:Int)):=by omega
      have DF:Hd ((au.list (gU n)).rd w.heap.size wr.heap.size wr (.slice a x2.length k) x2):=cW mx.o (by have:=mX.o;rwa [List.take_length] at this);clear r4;go_wp2_with fail;go_returns;exact aG dZ.o Ad.o ⟨_,rfl,DF.o⟩ rl.o
 · rw[if_neg hk] at hr;have bH:Hd (r=.ok [] t):=hr.symm;have y:decide (t.kind=4)=false:=by simpa using hk
   clear h ho hr hk;go_enter Tryz.func159,Tryz.ntmps159;go_wp2_with fail;refine(HP.o t w _ aD.o (by(repeat(first| exact sr|assumption|refine Sm.alloc ?_ _|refine Sm.drew ?_|refine Sm.drewN ?_ _)))).mono ?_;rintro e w1 ⟨rfl,cJ⟩;have av:Hd (Sm [] w w1):=((Sm.refl [] w).alloc _).trans cJ;clear cJ;go_wp2_with fail;go_returns;exact aG bH.o av.o.of_nil ⟨[],rfl,rJ _ _⟩ (aD.o.cI av.o)
theorem qE(c:Cx)(hL:dg c)(n:Nat)(hm:n≤1099511627776):aS c 149 #[.pointer (some ⟨c.pb,0,none⟩)] (jQ (rd c.s) n) (au.iface 242 (gS n)):=by
 have Fz:=ae (cX c hL);have HN:=ae (cd c hL);have HA:=ae (na c hL n hm);have HE:=ae (eB c hL 7);have HT:=ae (nP c hL n);have HD:=ae (bF c hL n hm (cq c hL n hm false));have ic:=ae (vk c);have jk:=ae sK;clear hL hm;refine fj fun t w r hr (HO:Hd _) h=>?_;unfold jQ at hr;have bH:=ae hr;have aD:=ae h;have c6:=h.c6;clear h hr;go_enter Tryz.func149,Tryz.ntmps149;go_wp2_with fail;refine dj Fz.o aD bH HO sr (fun v w1 u HE=>?_) fun x1 t1 w1 v1 dZ jE cA av=>?_
 · go_wp2_with fail;go_returns;exact HE.o _ _
 clear bH;obtain⟨a1,hv⟩:=lI.out jE.o;subst hv;go_wp2_with fail;refine dj HN.o cA dZ HO av.o (fun v w2 u HE=>?_) fun x2 t2 w2 v2 dN qh aW ax=>?_
 · go_wp2_with fail;go_returns;exact HE.o _ _
 clear dZ;obtain⟨a2,hv⟩:=ef.out qh.o;subst hv;go_wp2_with fail;refine dj HA.o aW dN HO (av.o.trans ax.o) (fun v w3 u HE=>?_) fun x3 t3 w3 v3 iE ib bT aO=>?_
 · go_wp2_with fail;go_returns;exact HE.o _ _
 clear dN;obtain⟨a3,n3,m3,hv⟩:=(dS _).out ib.o;subst hv;go_wp2_with fail;refine lN HE.o bT iE HO ((av.o.trans ax.o).trans aO.o) (fun v w4 u HE=>?_) fun x4 t4 w4 iO dJ cy=>?_
 · go_wp2_with fail;go_returns;exact HE.o _ _
 clear iE;go_wp2_with fail;refine dj HT.o dJ iO HO (((av.o.trans ax.o).trans aO.o).trans cy.o) (fun v w5 u HE=>?_) fun x5 t5 w5 v5 jG oG bX dK=>?_
 · go_wp2_with fail;go_returns;exact HE.o _ _
 clear iO;have Mj:=(Bh n).out oG.o;rcases Mj with rfl|⟨YI,u5,rfl⟩
 · skip
   go_wp2_with fail;refine dj HD.o bX jG HO ((((av.o.trans ax.o).trans aO.o).trans cy.o).trans dK.o) (fun v w6 u HE=>?_) fun x6 t6 w6 v6 oH qj eM je=>?_
   · go_wp2_with fail;go_returns;exact HE.o _ _
   clear jG;obtain⟨a6,n6,m6,hv⟩:=(dS _).out qj.o;subst hv;go_wp2_with fail;refine(ic.o t6 _ _ eM.o).mono ?_;rintro e wl ⟨lb,i,j,sp,rfl,cO,lC,fM⟩;go_wp2_with fail;refine(jk.o _ ⟨#[]⟩ (some ⟨lb,0,none⟩) a2 a1 a3 n3 m3 .nilIface a6 n6 m6 _ (ai _ _) (.inl rfl)).mono ?_;rintro e wn ⟨nb,ks,rfl,dC,fO,fH⟩;have HQ:=dP fO;go_wp2_with fail;go_returns;have z1:=av.o.size;have z2:=ax.o.size;have z3:=aO.o.size;have z4:=cy.o.size;have z5:=dK.o.size;have z6:=je.o.size;have zl:=cO.size;have zn:=fH;simp at zn;have y7:=cO.trans HQ.o;have y6:=je.o.trans y7.of_nil;have y5:=dK.o.trans y6;have y4:=cy.o.trans y5;have y3:=aO.o.trans y4;have y2:=ax.o.trans y3;have y1:=av.o.trans y2;exact aG (show r=.ok _ _ from oH.o.symm) y1 ⟨_,rfl,(yw n dC (by omega) (lt_of_block dC) (bY fM HQ.o (by omega) lr) (kp qh cA y3 (by omega)) (kp jE aD y2 (by omega)) (kp ib aW y4 (by omega)) (kp oG dJ y6 (by omega)) (kp qj bX y7.of_nil (by omega)))⟩ (eM.o.cI y7)
 · skip
   go_wp2_with fail;refine dj HD.o bX jG HO ((((av.o.trans ax.o).trans aO.o).trans cy.o).trans dK.o) (fun v w6 u HE=>?_) fun x6 t6 w6 v6 oH qj eM je=>?_
   · go_wp2_with fail;go_returns;exact HE.o _ _
   clear jG;obtain⟨a6,n6,m6,hv⟩:=(dS _).out qj.o;subst hv;go_wp2_with fail;refine(ic.o t6 _ _ eM.o).mono ?_;rintro e wl ⟨lb,i,j,sp,rfl,cO,lC,fM⟩;go_wp2_with fail;refine(jk.o _ ⟨#[]⟩ (some ⟨lb,0,none⟩) a2 a1 a3 n3 m3 (.iface YI u5) a6 n6 m6 _ (ai _ _) (.inr ⟨_,_,rfl⟩)).mono ?_;rintro e wn ⟨nb,ks,rfl,dC,fO,fH⟩;have HQ:=dP fO;go_wp2_with fail;go_returns;have z1:=av.o.size;have z2:=ax.o.size;have z3:=aO.o.size;have z4:=cy.o.size;have z5:=dK.o.size;have z6:=je.o.size;have zl:=cO.size;have zn:=fH;simp at zn;have y7:=cO.trans HQ.o;have y6:=je.o.trans y7.of_nil;have y5:=dK.o.trans y6;have y4:=cy.o.trans y5;have y3:=aO.o.trans y4;have y2:=ax.o.trans y3;have y1:=av.o.trans y2;exact aG (show r=.ok _ _ from oH.o.symm) y1 ⟨_,rfl,(yw n dC (by omega) (lt_of_block dC) (bY fM HQ.o (by omega) lr) (kp qh cA y3 (by omega)) (kp jE aD y2 (by omega)) (kp ib aW y4 (by omega)) (kp oG dJ y6 (by omega)) (kp qj bX y7.of_nil (by omega)))⟩ (eM.o.cI y7)
end Go.Proofs.YtnpjmhodfdgloaaGreatDoor
