/- Part of the proof. -/
import Derived.Test.YtnpjmhodfdgloaaGreatDoorQ35
set_option linter.unusedVariables false
set_option linter.unusedSimpArgs false
namespace Go.Proofs.YtnpjmhodfdgloaaGreatDoor
set_option maxRecDepth 100000
set_option maxHeartbeats 32000000
open Go.RowKit
attribute [local go_sem ↓] Go.wp_at_zero Go.wp_at_succ
theorem Ql{s:ByteArray}(h:s=ly):s.toList=[111,110]:=by rw[h,ByteArray.toList_eq];rfl
theorem Qk{s:ByteArray}(h:s≠ly):¬s.toList=[111,110]:=fun e=>h (Go.WideShapes.bytes_inj (by rw[←ByteArray.toList_eq,e];rfl))
theorem nc(c:Cx)(hL:dg c):aS c 141 #[.pointer (some ⟨c.pb,0,none⟩)] (dH (rd c.s)) eW:=by
 have HN:=ae (cd c hL);have M0:=ae (oz c);clear hL;intro t w h ho;obtain⟨r,hr⟩:∃r,dH (rd c.s) t=r:=⟨_,rfl⟩;rw[hr] at ho ⊢;unfold dH at hr;rw[dd] at hr;have HO:=ae ho;have aD:=ae h;have c8:=h.c8;by_cases hv:t.val=ly
 · rw[if_pos hv] at hr;have bH:Hd (r=.err t.start):=hr.symm;have s8:=Ql hv;clear h ho hr hv;go_enter Tryz.func141,Tryz.ntmps141;go_wp2_with fail;refine(M0.o t _ aD.o).mono ?_;rintro e w2 ⟨u,rfl,(HU:Hd _),(ax:Hd _)⟩;go_wp2_with fail;go_returns;exact aA bH.o sr HU.o ax.o.of_nil
 · rw[if_neg hv] at hr;have HX:=ae hr;have s8:=Qk hv;have q8:(t.val.toList==[111,110])=false:=bn s8;have ud:Hd (dQ (rd c.s) t≠.eo):=fun e=>HO.o (HX.o.symm.trans e);clear h ho hr hv;go_enter Tryz.func141,Tryz.ntmps141;go_wp2_with fail;refine(HN.o t _ aD.o ud.o).mono ?_;intro e w1 h1;rcases h1.cases ud.o with⟨x1,t1,v1,hx,rfl,jE,cA,av⟩|⟨p,v,u,hx,rfl,HU,av⟩
   · have HY:=ae (HX.o.symm.trans hx);clear hx h1 s8 q8;go_wp2_with fail;go_returns;exact aG HY.o av.o jE.o cA.o
   · have HY:=ae (HX.o.symm.trans hx);clear hx h1 s8 q8;go_wp2_with fail;go_returns;exact aA HY.o sr HU.o av.o
theorem yQ(c:Cx)(hL:dg c)(n:Nat)(hm:n≤1099511627776)(hS:aS c 75 #[.pointer (some ⟨c.pb,0,none⟩)] (cC (rd c.s) n) (mu n)):aS c 132 #[.pointer (some ⟨c.pb,0,none⟩)] (zG (rd c.s) n (cC (rd c.s) n)) (au.or (au.iface 289 (Hl n)) (au.iface 293 (Gk n (mu n)))):=by
 have HE:=ae (eB c hL 6);have Zx:=ae (nc c hL);have Ay:=ae (j5 c hL);have HD:=ae (bF c hL n hm (cq c hL n hm false));have vU:=ae (jf c hL);have HP:=ae (show ∀t W,gb c t W→Calls Tryz.prog 74 #[.pointer (some ⟨c.pb,0,none⟩),.int .i64 15] W (jJ (decide (t.kind=15)) W) from fun t W h=>lH c 15 t W h);have Ox:=ae (hS);have ic:=ae (vk c);have Xk:=ae tZ;have OU:=ae u0;clear hL hm hS;refine fj fun t w r hr (HO:Hd _) h=>?_;unfold zG at hr;have bH:=ae hr;have aD:=ae h;have c6:=h.c6;clear h hr;go_enter Tryz.func132,Tryz.ntmps132;go_wp2_with fail;refine lN HE.o aD bH HO sr (fun v w1 u HE=>?_) fun x1 t1 w1 dZ cA av=>?_
 · go_wp2_with fail;go_returns;exact HE.o _ _
 clear bH;have eQ:=dZ.o;clear dZ
 try simp only[Bool.false_eq_true,ll,lk,cD,bJ,dd] at eQ
 have dZ:=ae eQ;clear eQ;have c8:=cA.o.c8;by_cases hc:t1.kind=15∧t1.val≠ly
 · skip
   have eQ:=dZ.o;clear dZ;rw[if_pos hc] at eQ
   try simp only[cD,bJ,dd] at eQ
   have dZ:=ae eQ;clear eQ;have yk:decide (t1.kind=15)=true:=by simpa using hc.1
   have s8:=Qk hc.2;have q8:(t1.val.toList==[111,110])=false:=bn s8;clear hc;go_wp2_with fail;refine(HP.o t1 _ cA.o).mono ?_;rw[yk];rintro e w2 ⟨rfl,hs⟩;have ax:Hd (Sm [c.pb,c.vb] w1 w2):=hs.of_nil;have aW:=ae (cA.o.cI hs);have dN:=dZ;have d8:=aW.o.c8;clear hs dZ c8;go_wp2_with fail;refine dj Zx.o aW dN HO (av.o.trans ax.o) (fun v w3 u HE=>?_) fun x3 t3 w3 v3 iE ib bT aO=>?_
   · go_wp2_with fail;go_returns;exact HE.o _ _
   clear dN;obtain⟨a3,hv⟩:=ef.out ib.o;subst hv;clear d8 s8 q8;go_wp2_with fail;refine dj HD.o bT iE HO ((av.o.trans ax.o).trans aO.o) (fun v w4 u HE=>?_) fun x4 t4 w4 v4 iO jc dJ cy=>?_
   · go_wp2_with fail;go_returns;exact HE.o _ _
   clear iE;obtain⟨a4,n4,m4,hv⟩:=(dS _).out jc.o;subst hv;have jk:=Xk;go_wp2_with fail;refine(ic.o t4 _ _ dJ.o).mono ?_;rintro e wl ⟨lb,i,j,sp,rfl,cO,lC,fM⟩;go_wp2_with fail;refine(jk.o _ ⟨#[]⟩ (some ⟨lb,0,none⟩) a3 a4 n4 m4 _ (ai _ _)).mono ?_;rintro e wn ⟨nb,ks,rfl,dC,fO,fH⟩;have HQ:=dP fO;go_wp2_with fail;go_returns;have z1:=av.o.size;have z2:=ax.o.size;have z3:=aO.o.size;have z4:=cy.o.size;have zl:=cO.size;have zn:=fH;simp at zn;have y5:=cO.trans HQ.o;have y4:=cy.o.trans y5.of_nil;have y3:=aO.o.trans y4;have y2:=ax.o.trans y3;have y1:=av.o.trans y2;exact aG (show r=.ok _ _ from iO.o.symm) y1 (.inl ⟨_,rfl,(LD n dC (by omega) (lt_of_block dC) (bY fM HQ.o (by omega) lr) (kp ib aW y4 (by omega)) (kp jc bT y5.of_nil (by omega)))⟩) (dJ.o.cI y5)
 · skip
   have eQ:=dZ.o;clear dZ;rw[if_neg hc] at eQ
   try simp only[cD,bJ,dd] at eQ
   have dZ:=ae eQ;clear eQ;by_cases Sf:t1.val=ly
   · skip
     have s8:=Ql Sf;clear hc;by_cases ml:t1.kind=15
     · skip
       have yk:decide (t1.kind=15)=true:=by simpa using ml
       clear ml;go_wp2_with fail;refine(HP.o t1 _ cA.o).mono ?_;rw[yk];rintro e w2 ⟨rfl,hs⟩;have ax:Hd (Sm [c.pb,c.vb] w1 w2):=hs.of_nil;have aW:=ae (cA.o.cI hs);have dN:=dZ;have d8:=aW.o.c8;clear hs dZ c8;have eQ:=dN.o;clear dN;rw[if_pos Sf] at eQ
       try simp only[cD,bJ,dd] at eQ
       have dN:=ae eQ;clear eQ Sf;have Kj:=lP dN HO;go_wp2_with fail;refine(vU.o t1 _ aW.o Kj.o).mono ?_;intro e w3 h1;rcases h1.cases Kj.o with⟨t3,hx,rfl,bT,aO⟩|⟨p,v,hx,rfl,HU,_,aO⟩
       rotate_left
       · have fv:=ae (jK dN hx);clear hx h1;go_wp2_with fail;go_returns;exact aA fv.o (av.o.trans ax.o) HU.o aO.o
       have iE:=lQ dN hx;clear hx h1 dN;clear d8 s8;go_wp2_with fail;refine dj Ay.o bT iE HO ((av.o.trans ax.o).trans aO.o) (fun v w4 u HE=>?_) fun x4 t4 w4 v4 iO jc dJ cy=>?_
       · go_wp2_with fail;go_returns;exact HE.o _ _
       clear iE;obtain⟨a4,hv⟩:=jw.out jc.o;subst hv;have eQ:=iO.o;clear iO
       try simp only[Bool.false_eq_true,ll,lk,cD,bJ,dd] at eQ
       have iO:=ae eQ;clear eQ;go_wp2_with fail;refine dj HD.o dJ iO HO (((av.o.trans ax.o).trans aO.o).trans cy.o) (fun v w5 u HE=>?_) fun x5 t5 w5 v5 jG oG bX dK=>?_
       · go_wp2_with fail;go_returns;exact HE.o _ _
       clear iO;obtain⟨a5,n5,m5,hv⟩:=(dS _).out oG.o;subst hv;go_wp2_with fail;refine dj Ox.o bX jG HO ((((av.o.trans ax.o).trans aO.o).trans cy.o).trans dK.o) (fun v w6 u HE=>?_) fun x6 t6 w6 v6 oH qj eM je=>?_
       · go_wp2_with fail;go_returns;exact HE.o _ _
       clear jG;obtain⟨a6,hv⟩:=(oU n).out qj.o;subst hv;have jk:=OU;go_wp2_with fail;refine(ic.o t6 _ _ eM.o).mono ?_;rintro e wl ⟨lb,i,j,sp,rfl,cO,lC,fM⟩;go_wp2_with fail;refine(jk.o _ ⟨#[]⟩ (some ⟨lb,0,none⟩) a4 a5 n5 m5 a6 _ (ai _ _)).mono ?_;rintro e wn ⟨nb,ks,rfl,dC,fO,fH⟩;have HQ:=dP fO;go_wp2_with fail;go_returns;have z1:=av.o.size;have z2:=ax.o.size;have z3:=aO.o.size;have z4:=cy.o.size;have z5:=dK.o.size;have z6:=je.o.size;have zl:=cO.size;have zn:=fH;simp at zn;have y7:=cO.trans HQ.o;have y6:=je.o.trans y7.of_nil;have y5:=dK.o.trans y6;have y4:=cy.o.trans y5;have y3:=aO.o.trans y4;have y2:=ax.o.trans y3;have y1:=av.o.trans y2;exact aG (show r=.ok _ _ from oH.o.symm) y1 (.inr ⟨_,rfl,(xu n (mu n) dC (by omega) (lt_of_block dC) (bY fM HQ.o (by omega) lr) (.inr (kp jc bT y5 (by omega))) (kp oG dJ y6 (by omega)) (kp qj bX y7.of_nil (by omega)))⟩) (eM.o.cI y7)
     · skip
       have yk:decide (t1.kind=15)=false:=by simpa using ml
       clear ml;go_wp2_with fail;refine(HP.o t1 _ cA.o).mono ?_;rw[yk];rintro e w2 ⟨rfl,hs⟩;have ax:Hd (Sm [c.pb,c.vb] w1 w2):=hs.of_nil;have aW:=ae (cA.o.cI hs);have dN:=dZ;have d8:=aW.o.c8;clear hs dZ c8;have eQ:=dN.o;clear dN;rw[if_pos Sf] at eQ
       try simp only[cD,bJ,dd] at eQ
       have dN:=ae eQ;clear eQ Sf;have Kj:=lP dN HO;go_wp2_with fail;refine(vU.o t1 _ aW.o Kj.o).mono ?_;intro e w3 h1;rcases h1.cases Kj.o with⟨t3,hx,rfl,bT,aO⟩|⟨p,v,hx,rfl,HU,_,aO⟩
       rotate_left
       · have fv:=ae (jK dN hx);clear hx h1;go_wp2_with fail;go_returns;exact aA fv.o (av.o.trans ax.o) HU.o aO.o
       have iE:=lQ dN hx;clear hx h1 dN;clear d8 s8;go_wp2_with fail;refine dj Ay.o bT iE HO ((av.o.trans ax.o).trans aO.o) (fun v w4 u HE=>?_) fun x4 t4 w4 v4 iO jc dJ cy=>?_
       · go_wp2_with fail;go_returns;exact HE.o _ _
       clear iE;obtain⟨a4,hv⟩:=jw.out jc.o;subst hv;have eQ:=iO.o;clear iO
       try simp only[Bool.false_eq_true,ll,lk,cD,bJ,dd] at eQ
       have iO:=ae eQ;clear eQ;go_wp2_with fail;refine dj HD.o dJ iO HO (((av.o.trans ax.o).trans aO.o).trans cy.o) (fun v w5 u HE=>?_) fun x5 t5 w5 v5 jG oG bX dK=>?_
       · go_wp2_with fail;go_returns;exact HE.o _ _
       clear iO;obtain⟨a5,n5,m5,hv⟩:=(dS _).out oG.o;subst hv;go_wp2_with fail;refine dj Ox.o bX jG HO ((((av.o.trans ax.o).trans aO.o).trans cy.o).trans dK.o) (fun v w6 u HE=>?_) fun x6 t6 w6 v6 oH qj eM je=>?_
       · go_wp2_with fail;go_returns;exact HE.o _ _
       clear jG;obtain⟨a6,hv⟩:=(oU n).out qj.o;subst hv;have jk:=OU;go_wp2_with fail;refine(ic.o t6 _ _ eM.o).mono ?_;rintro e wl ⟨lb,i,j,sp,rfl,cO,lC,fM⟩;go_wp2_with fail;refine(jk.o _ ⟨#[]⟩ (some ⟨lb,0,none⟩) a4 a5 n5 m5 a6 _ (ai _ _)).mono ?_;rintro e wn ⟨nb,ks,rfl,dC,fO,fH⟩;have HQ:=dP fO;go_wp2_with fail;go_returns;have z1:=av.o.size;have z2:=ax.o.size;have z3:=aO.o.size;have z4:=cy.o.size;have z5:=dK.o.size;have z6:=je.o.size;have zl:=cO.size;have zn:=fH;simp at zn;have y7:=cO.trans HQ.o;have y6:=je.o.trans y7.of_nil;have y5:=dK.o.trans y6;have y4:=cy.o.trans y5;have y3:=aO.o.trans y4;have y2:=ax.o.trans y3;have y1:=av.o.trans y2;exact aG (show r=.ok _ _ from oH.o.symm) y1 (.inr ⟨_,rfl,(xu n (mu n) dC (by omega) (lt_of_block dC) (bY fM HQ.o (by omega) lr) (.inr (kp jc bT y5 (by omega))) (kp oG dJ y6 (by omega)) (kp qj bX y7.of_nil (by omega)))⟩) (eM.o.cI y7)
   · skip
     have s8:=Qk Sf;have q8:(t1.val.toList==[111,110])=false:=bn s8;have yk:decide (t1.kind=15)=false:=by have:¬t1.kind=15:=(fun e=>hc ⟨e,Sf⟩);simpa using this
     clear hc;go_wp2_with fail;refine(HP.o t1 _ cA.o).mono ?_;rw[yk];rintro e w2 ⟨rfl,hs⟩;have ax:Hd (Sm [c.pb,c.vb] w1 w2):=hs.of_nil;have aW:=ae (cA.o.cI hs);have dN:=dZ;have d8:=aW.o.c8;clear hs dZ c8;have eQ:=dN.o;clear dN;rw[if_neg Sf] at eQ
     try simp only[cD,bJ,dd] at eQ
     have dN:=ae eQ;clear eQ Sf;have eQ:=dN.o;clear dN
     try simp only[Bool.false_eq_true,ll,lk,cD,bJ,dd] at eQ
     have dN:=ae eQ;clear eQ;go_wp2_with fail;refine dj HD.o aW dN HO (av.o.trans ax.o) (fun v w3 u HE=>?_) fun x3 t3 w3 v3 iE ib bT aO=>?_
     · go_wp2_with fail;go_returns;exact HE.o _ _
     clear dN;obtain⟨a3,n3,m3,hv⟩:=(dS _).out ib.o;subst hv;go_wp2_with fail;refine dj Ox.o bT iE HO ((av.o.trans ax.o).trans aO.o) (fun v w4 u HE=>?_) fun x4 t4 w4 v4 iO jc dJ cy=>?_
     · go_wp2_with fail;go_returns;exact HE.o _ _
     clear iE;obtain⟨a4,hv⟩:=(oU n).out jc.o;subst hv;have jk:=OU;go_wp2_with fail;refine(ic.o t4 _ _ dJ.o).mono ?_;rintro e wl ⟨lb,i,j,sp,rfl,cO,lC,fM⟩;go_wp2_with fail;refine(jk.o _ ⟨#[]⟩ (some ⟨lb,0,none⟩) none a3 n3 m3 a4 _ (ai _ _)).mono ?_;rintro e wn ⟨nb,ks,rfl,dC,fO,fH⟩;have HQ:=dP fO;go_wp2_with fail;go_returns;have z1:=av.o.size;have z2:=ax.o.size;have z3:=aO.o.size;have z4:=cy.o.size;have zl:=cO.size;have zn:=fH;simp at zn;have y5:=cO.trans HQ.o;have y4:=cy.o.trans y5.of_nil;have y3:=aO.o.trans y4;have y2:=ax.o.trans y3;have y1:=av.o.trans y2;exact aG (show r=.ok _ _ from iO.o.symm) y1 (.inr ⟨_,rfl,(xu n (mu n) dC (by omega) (lt_of_block dC) (bY fM HQ.o (by omega) lr) (.inl ⟨rfl,rfl⟩) (kp ib aW y4 (by omega)) (kp jc bT y5.of_nil (by omega)))⟩) (dJ.o.cI y5)
theorem xI(c:Cx)(hL:dg c)(n:Nat)(hm:n≤1099511627776)(hS:aS c 75 #[.pointer (some ⟨c.pb,0,none⟩)] (cC (rd c.s) n) (mu n)):aS c 102 #[.pointer (some ⟨c.pb,0,none⟩)] (iK (rd c.s) n (cC (rd c.s) n)) (iL n (mu n)):=by
 have HFR:=ae (yQ c hL n hm hS);have HFI:=ae (CL c hL n hm hS);have HP:=ae (show ∀t W,gb c t W→Calls Tryz.prog 74 #[.pointer (some ⟨c.pb,0,none⟩),.int .i64 6] W (jJ (decide (t.kind=6)) W) from fun t W h=>lH c 6 t W h);clear hL hm hS;intro t w h ho;obtain⟨r,hr⟩:∃r,iK (rd c.s) n (cC (rd c.s) n) t=r:=⟨_,rfl⟩;rw[hr] at ho ⊢;unfold iK at hr;rw[dd] at hr;have HO:=ae ho;have aD:=ae h;by_cases hk:t.kind=6
 · rw[if_pos hk] at hr;have UA:=ae hr;have ud:=ae (show _≠PR.eo from fun e=>HO.o (UA.o.symm.trans e));have yk:decide (t.kind=6)=true:=by simpa using hk
   clear h ho hr hk;go_enter Tryz.func102,Tryz.ntmps102;go_wp2_with fail;refine(HP.o t _ aD.o).mono ?_;rw[yk];rintro e w1 ⟨rfl,(av:Hd _)⟩;clear yk;go_wp2_with fail;refine(HFR.o t _ (aD.o.cI av.o) ud.o).mono ?_;intro e w2 h1;rcases h1.cases ud.o with⟨x1,t1,v1,hx,rfl,jE,cA,ax⟩|⟨p,v,u,hx,rfl,HU,ax⟩
   · have HX:=ae (UA.o.symm.trans hx);clear hx h1;go_wp2_with fail;go_returns;exact aG HX.o (av.o.of_nil.trans ax.o) (.inr (au.wide _ jE.o av.o.size lr)) cA.o
   · have HX:=ae (UA.o.symm.trans hx);clear hx h1;go_wp2_with fail;go_returns;exact aA HX.o av.o.of_nil HU.o ax.o
 · rw[if_neg hk] at hr;have UA:=ae hr;have ud:=ae (show _≠PR.eo from fun e=>HO.o (UA.o.symm.trans e));have yk:decide (t.kind=6)=false:=by simpa using hk
   clear h ho hr hk;go_enter Tryz.func102,Tryz.ntmps102;go_wp2_with fail;refine(HP.o t _ aD.o).mono ?_;rw[yk];rintro e w1 ⟨rfl,(av:Hd _)⟩;clear yk;go_wp2_with fail;refine(HFI.o t _ (aD.o.cI av.o) ud.o).mono ?_;intro e w2 h1;rcases h1.cases ud.o with⟨x1,t1,v1,hx,rfl,jE,cA,ax⟩|⟨p,v,u,hx,rfl,HU,ax⟩
   · have HX:=ae (UA.o.symm.trans hx);clear hx h1;go_wp2_with fail;go_returns;exact aG HX.o (av.o.of_nil.trans ax.o) (.inl ⟨_,rfl,au.wide _ jE.o av.o.size lr⟩) cA.o
   · have HX:=ae (UA.o.symm.trans hx);clear hx h1;go_wp2_with fail;go_returns;exact aA HX.o av.o.of_nil HU.o ax.o
theorem Yw(W:World)(u:Value):(Instr.typeAssert (.iface 193 u) 20 163 false).run Tryz.prog W=.ok (.iface 193 u) W:=by kernel_rfl
theorem Yx(W:World)(u:Value):(Instr.typeAssert (.iface 289 u) 20 163 false).run Tryz.prog W=.ok (.iface 289 u) W:=by kernel_rfl
theorem Yy(W:World)(u:Value):(Instr.typeAssert (.iface 293 u) 20 163 false).run Tryz.prog W=.ok (.iface 293 u) W:=by kernel_rfl
theorem Ws{n:Nat}{R:au (List Nd)}{lo hi:Nat}{w:World}{v:Value}{x:List Nd}(h:(iL n R).rd lo hi w v x):∀W,(Instr.typeAssert v 20 163 false).run Tryz.prog W=.ok v W:=by
 intro W;rcases h with⟨u,rfl,_⟩|⟨u,rfl,_⟩|⟨u,rfl,_⟩
 · exact Yw W u
 · exact Yx W u
 · exact Yy W u
theorem PY:(Tryz.prog.info? 163).map (fun i=>(i.zero,i.size,i.bytes))=some (some .nilIface,1,16):=by kernel_rfl
theorem Pe(args:Array Value)(W:World):Sem.run Tryz.prog (callFunc 102 args) W=.ok (.enter 102 args) W:=by kernel_rfl
theorem sW(c:Cx)(hL:dg c)(n:Nat)(hm:n≤1099511627776)(hS:aS c 75 #[.pointer (some ⟨c.pb,0,none⟩)] (cC (rd c.s) n) (mu n)):aS c 75 #[.pointer (some ⟨c.pb,0,none⟩)] (cC (rd c.s) (n+1)) (mu (n+1)):=by
 have DI:=ae (gi c hL 102 (iK (rd c.s) n (cC (rd c.s) n)) (iL n (mu n)) 12 14 n true (xI c hL n hm hS) (yA n (mu n)) hm Pe);have ic:=ae (vk c);have jk:=ae wj;have xZ:=ae hm;clear hL hm hS;refine fj fun t w r hr (HO:Hd _) h=>?_;unfold cC at hr;have aD:=ae h;have bH:=ae hr;have c6:=h.c6;clear h hr;go_enter Tryz.func75,Tryz.ntmps75;go_wp2_with fail;have av:Hd (Sm [] w (w.alloc (.cells #[] 163 (0,0)))):=(Sm.refl [] w).alloc _;have nU:Hd ((w.alloc (.cells #[] 163 (0,0))).ownsRow w.heap.size 163 1 (.slice (some ⟨w.heap.size,0,none⟩) 0 0) 0 []):=World.ownsRow_made (base:=w.heap.size) (size:=1) (e:=163) w #[] 0 lr (by simp[maxLen]) rfl;obtain⟨w1,zE⟩:∃w1,w1=w.alloc (.cells #[] 163 (0,0)):=⟨_,rfl⟩;have ya:Hd (Sm [] (w.alloc (.cells #[] 163 (0,0))) w1):=by rw[zE];exact sr
 rw[←zE] at av nU ⊢;clear zE c6;refine Z03 DI.o (aD.o.cI av.o) bH HO av.o.of_nil (fun v w2 u HE=>?_) fun x2 t2 w2 v2 hx dZ qh aW ax=>?_
 · go_wp2_with fail;go_returns;exact HE.o _ _
 obtain⟨aa,nn,kk,hv⟩:=(DM.list _).out qh.o;subst hv;obtain⟨hn,(DE:Hd _)⟩:=iY qh.o;subst hn;have HX:=ae hx;clear bH;have Cl:∀k,k∈[c.pb,c.vb]→k<w.heap.size:=fun k hk=>by have a1:=aD.o.lt;have a2:=aD.o.wh;simp at hk;omega
 have Bx:Hd (w2.ownsRow w.heap.size 163 1 (.slice (some ⟨w.heap.size,0,none⟩) 0 0) 0 []):=er nU.o ax.o Cl;have Ae:Hd (Sm [c.pb,c.vb] w w2):=av.o.of_nil.trans ax.o;have Kk:Hd (∀q,Value.ownBlock (.slice (some ⟨w.heap.size,0,none⟩) 0 0)=some q→q<w1.heap.size∨w2.heap.size≤q):=vv ya.o;have A9:Hd (w.heap.size≤w1.heap.size):=av.o.size;have lz:Hd (x2.length≤1099511627776):=Nat.le_trans (gj HX.o) xZ.o;have z0:(0:Int)≤(x2.length:Int):=by omega
 clear Cl hx;go_wp2_with fail
 go_loopg [5,26] x2.length (fun g v ii wr=>fk c t2 (iL n (mu n)) 163 w w2 w1.heap.size w2.heap.size x2 g v ii wr)
 case atStart=>unfold fk;exact⟨0,[],_,_,by simp,rfl,rfl,Bx.o,by unfold Hd;rw[List.take_zero];exact .nil,Kk.o,mz.refl _ _ _,aW.o,Ae.o,lr⟩
 case round=>
  unfold fk at hrel;obtain⟨j,vs,a,k,r4,rfl,rfl,mx,mX,lg,ki,rl,Ad,sa⟩:=hrel;have jF:=ae r4;by_cases hj:j<x2.length
  · obtain⟨bb,oo,u,E3,gP,kh,hc,hu⟩:=DE.o j hj;subst E3;have Cd:wr.cell? ⟨bb,oo+j,none⟩=some u:=(ki.o.cell gP kh).trans hc;have wQ:=(iL n (mu n)).keep hu ki.o;obtain⟨ty,uu,hv⟩:=(yA n (mu n)).out wQ;have Kb:=Ws wQ;subst hv;have s5:=wQ;have z1:(j:Int)<(x2.length:Int):=by omega
    have z2:(0:Int)≤(j:Int):=by omega
    have how:=mx.o;have de:(j+1)*16≤140737488355328:=by have:=lz.o;omega
    have cv:w.heap.size≤wr.heap.size:=Ad.o.size;have HJ:=ae hj;have E5:=lz.o;clear r4 hc hu gP kh;go_wp2_with (at_builtin;refine gH _ rfl _ _ _ rfl 163 _ 1 16 Tryz.underlying158 PY rfl (by omega) (by omega) _ j vs rfl how _ rfl rfl (by simp[Value.oneCell']) de (by omega) ?_);intro g dM w' aQ (HG:Hd _) bV ea;have qU:Hd (w'.ownsRow w.heap.size 163 1 (.slice (some ⟨g,0,none⟩) (j+1) dM) (j+1) (vs++[.iface ty uu])):=by unfold Hd;simpa using aQ
    have bX:Hd (Value.ownBlock (.slice a j k)=some g∨wr.heap.size≤g):=bV.imp id (fun e=>by omega);have HU:=ae s5;have iD:=ae how;clear aQ bV ea how de Cd s5;go_wp2_with fail;go_roundg (gk-1)
    case measure=>have:=jF.o;have:=HJ.o;omega
    case rel=>
     unfold fk;refine⟨j+1,vs++[.iface ty uu],some ⟨g,0,none⟩,dM,by have:=jF.o;have:=HJ.o;omega,rfl,by go_num,by unfold Hd;simpa using qU.out,?_,?_,?_,?_,?_,?_⟩
     · rw[gA HJ.o];exact mX.o.add HG.o bX.o A9.o sa.o lg.o HU.o
     · exact pd bX.o sa.o lg.o
     · exact ki.o.grown HG.o sa.o lg.o
     · exact rl.o.grown aD.o HG.o (fun q hq=>(iD.o.lt q hq).1)
     · exact Ad.o.grown HG.o (fun q hq=>.inl (iD.o.lt q hq).1)
     · exact Nat.le_trans sa.o HG.o.size
  · obtain rfl:j=x2.length:=by omega
    have z1:¬((x2.length:Int)<(x2.length:Int)):=by omega
    have DF:Hd ((au.list (iL n (mu n))).rd w.heap.size wr.heap.size wr (.slice a x2.length k) x2):=cW mx.o (by have:=mX.o;rwa [List.take_length] at this);clear r4;go_wp2_with fail;refine(ic.o t2 _ _ rl.o).mono ?_;rintro e wl ⟨lb,i,j2,sp,rfl,cO,lC,fM⟩;go_wp2_with fail;refine(jk.o _ ⟨#[]⟩ (some ⟨lb,0,none⟩) a x2.length k _ (ai _ _)).mono ?_;rintro e wn ⟨nb,ks,rfl,dC,fO,fH⟩;have HQ:=dP fO;go_wp2_with fail;go_returns;have y1:=Ad.o.size;have zl:=cO.size;have zn:=fH;simp at zn;exact aG (show r=.ok _ _ from dZ.o.symm) (Ad.o.trans (cO.trans HQ.o).of_nil) (T6 (iL n (mu n)) dC (by omega) (lt_of_block dC) (bY fM HQ.o (by omega) lr) ((au.list (iL n (mu n))).wide (au.sm DF.o (cO.trans HQ.o) lr (fun q hq=>by cases hq)) lr (cO.trans HQ.o).size)) (rl.o.cI (cO.trans HQ.o))
theorem jU(c:Cx)(hL:dg c):∀n,n≤1099511627776→aS c 75 #[.pointer (some ⟨c.pb,0,none⟩)] (cC (rd c.s) n) (mu n)
 | 0,_=>fun t w h ho=>absurd rfl ho
 | n+1,hm=>sW c hL n (by omega) (jU c hL n (by omega))
theorem IM{L:Nat→LR}{k:Int}{t x t':Tok}(h:bE L k t=.ok x t'):x=t:=by
 unfold bE at h;split at h
 · cases hr:L t.stop with
   | tok u=>rw[hr] at h;cases h;rfl
   | err p=>rw[hr] at h;cases h
   | eo=>rw[hr] at h;cases h
 · cases h
theorem kJ{s w:ByteArray}{l:List UInt8}(hl:w.toList=l)(h:s=w):s.toList=l:=by rw[h];exact hl
theorem bg{s w:ByteArray}{l:List UInt8}(hl:w.toList=l)(h:s≠w):¬s.toList=l:=fun e=>h (Go.WideShapes.bytes_inj (by rw[←ByteArray.toList_eq,←ByteArray.toList_eq,e,hl]))
theorem hG:hO.toList=[113,117,101,114,121]:=by rw[ByteArray.toList_eq];rfl
theorem eS:l7.toList=[109,117,116,97,116,105,111,110]:=by rw[ByteArray.toList_eq];rfl
theorem dp:ga.toList=[115,117,98,115,99,114,105,112,116,105,111,110]:=by rw[ByteArray.toList_eq];rfl
theorem mJ(c:Cx)(hL:dg c):aS c 77 #[.pointer (some ⟨c.pb,0,none⟩)] (kR (rd c.s)) (wD):=by
 have HE:=ae (eB c hL 15);have M0:=ae (va c);clear hL ;refine fj fun t w r hr (HO:Hd _) (aD:Hd _)=>?_;unfold kR at hr;have bH:=ae hr;clear hr;go_enter Tryz.func77,Tryz.ntmps77;go_wp2_with fail;refine(HE.o t _ aD.o (aH bH HO)).mono ?_;intro e w1 h1;rcases h1.cases (aH bH HO) with⟨x1,t1,hx,rfl,cA,av⟩|⟨p,v,u,hx,rfl,HU,av⟩
 rotate_left
 · have fv:=ae (bc bH hx);clear hx h1;unfold kg;go_wp2_with fail;go_returns;exact aA fv.o sr (HU.o.sm ((Sm.refl [] _).alloc _) (by simp) lr) (av.o.alloc _)
 have dZ:=bK bH hx;have Zz:=ae (IM hx);clear hx h1 bH;unfold kg;go_upto_region 2 with fail
 obtain⟨w2,zF⟩:∃W,W=w1.alloc (aU x1):=⟨_,rfl⟩;have ax:Hd (Sm [c.pb,c.vb] w1 w2):=by rw[zF];exact sr.alloc _
 have aW:Hd (gb c t1 w2):=by rw[zF];exact cA.o.cI (sr.alloc _)
 have Kn:Hd (w2.heap[w1.heap.size]?=some (aU x1)):=by rw[zF];exact ai _ _
 have dN:=dZ;unfold aU at zF;rw[←zF];clear zF dZ;have R5:Hd (uh c.s x1):=by have:=Zz.o;subst this;exact aD.o.tok
 have d3:w2.cell? ⟨w1.heap.size,3,none⟩=some (.string x1.val):=cell_of Kn.o rfl;have eQ:=dN.o;clear dN;unfold aN at eQ;by_cases v0:x1.val=hO
 · skip
   have s0:=kJ hG v0;have Ab:Hd (r=.ok x1.val t1):=by rw[v0] at eQ ⊢;exact eQ.symm
   clear eQ v0;go_wp2_with fail;go_returns;exact aG Ab.o (av.o.trans ax.o) rfl aW.o
 have s0:=bg hG v0;have q0:(x1.val.toList==[113,117,101,114,121])=false:=bn s0;by_cases v1:x1.val=l7
 · skip
   have s1:=kJ eS v1;have Ab:Hd (r=.ok x1.val t1):=by rw[v1] at eQ ⊢;exact eQ.symm
   clear eQ v0 v1;go_wp2_with fail;go_returns;exact aG Ab.o (av.o.trans ax.o) rfl aW.o
 have s1:=bg eS v1;have q1:(x1.val.toList==[109,117,116,97,116,105,111,110])=false:=bn s1;by_cases v2:x1.val=ga
 · skip
   have s2:=kJ dp v2;have Ab:Hd (r=.ok x1.val t1):=by rw[v2] at eQ ⊢;exact eQ.symm
   clear eQ v0 v1 v2;go_wp2_with fail;go_returns;exact aG Ab.o (av.o.trans ax.o) rfl aW.o
 have s2:=bg dp v2;have q2:(x1.val.toList==[115,117,98,115,99,114,105,112,116,105,111,110])=false:=bn s2;have fv:Hd (r=.err x1.start):=by simp only[v0,v1,v2,decide_false,Bool.or_self,Bool.false_eq_true,if_false] at eQ;exact eQ.symm
 have d0:w2.cell? ⟨w1.heap.size,0,none⟩=some (.int .i64 x1.kind):=cell_of Kn.o rfl;have d1:w2.cell? ⟨w1.heap.size,1,none⟩=some (.int .i64 (x1.start:Int)):=cell_of Kn.o rfl;have d2:w2.cell? ⟨w1.heap.size,2,none⟩=some (.int .i64 (x1.stop:Int)):=cell_of Kn.o rfl;clear eQ v0 v1 v2;go_wp2_with fail;refine(M0.o t1 x1 _ aW.o R5.o).mono ?_;rintro e w3 ⟨u,rfl,(HU:Hd _),(aO:Hd _)⟩;go_wp2_with fail;go_returns;exact aA fv.o (av.o.trans ax.o) HU.o aO.o.of_nil
theorem NM(n:Nd)(x:List Nd):made n [x]=made n [[],[],x]:=by simp[made]
theorem eY(c:Cx)(hL:dg c)(n:Nat)(hm:n≤1099511627776):aS c 40 #[.pointer (some ⟨c.pb,0,none⟩)] (dL (rd c.s) n) (au.iface 126 (opR n)):=by
 have HP:=ae (show ∀t W,gb c t W→Calls Tryz.prog 74 #[.pointer (some ⟨c.pb,0,none⟩),.int .i64 12] W (jJ (decide (t.kind=12)) W) from fun t W h=>lH c 12 t W h);have Xm:=ae (show ∀t W,gb c t W→Calls Tryz.prog 74 #[.pointer (some ⟨c.pb,0,none⟩),.int .i64 15] W (jJ (decide (t.kind=15)) W) from fun t W h=>lH c 15 t W h);have Ox:=ae (jU c hL n hm);have DH:=ae (mJ c hL);have HN:=ae (cd c hL);have HV:=ae (ow c hL n hm);have HD:=ae (bF c hL n hm (cq c hL n hm false));have ic:=ae (vk c);have jk:=ae pI;clear hL hm;refine fj fun t w r hr (HO:Hd _) h=>?_;unfold dL at hr;have bH:=ae hr;have aD:=ae h;have c6:=h.c6;clear h hr;go_enter Tryz.func40,Tryz.ntmps40;have eQ:=bH.o;clear bH
 try simp only[Bool.false_eq_true,ll,lk,cD,bJ,dd] at eQ
 have bH:=ae eQ;clear eQ;by_cases OA:t.kind=12
 · skip
   have eQ:=bH.o;rw[if_pos OA] at eQ;have dZ:=ae eQ;have yk:decide (t.kind=12)=true:=by simpa using OA
   clear eQ OA bH;go_wp2_with fail;refine(HP.o t _ aD.o).mono ?_;rw[yk];rintro e w1 ⟨rfl,hs⟩;have av:Hd (Sm [c.pb,c.vb] w w1):=hs.of_nil;have cA:=ae (aD.o.cI hs);clear hs yk;go_wp2_with fail;refine dj Ox.o cA dZ HO av.o (fun v w2 u HE=>?_) fun x2 t2 w2 v2 dN qh aW ax=>?_
   · go_wp2_with fail;go_returns;exact HE.o _ _
   clear dZ;obtain⟨a2,hv⟩:=(oU n).out qh.o;subst hv;go_wp2_with fail;refine(ic.o t2 _ _ (aW.o.cI (sr.alloc _))).mono ?_;rintro e wl ⟨lb,i,j,sp,rfl,Z0y,lC,fM⟩;have cO:Sm [] w2 wl:=(sr.alloc _).trans Z0y;go_wp2_with fail;refine(jk.o _ ⟨#[]⟩ (some ⟨lb,0,none⟩) hO none none 0 0 (some ⟨w2.heap.size,0,none⟩) 0 0 a2 _ (ai _ _)).mono ?_;rintro e wn ⟨nb,ks,rfl,dC,fO,fH⟩;have HQ:=dP fO;go_wp2_with fail;go_returns;have z1:=av.o.size;have z2:=ax.o.size;have zl:=cO.size;have zn:=fH;have zb:=lC;simp at zn zb;have Ab:r=.ok (made {kind:=2,text:=hO} [[],[],x2]) t2:=by have h:=dN.o.symm;rw[NM] at h;exact h
   exact aG Ab ((av.o.trans ax.o).trans (cO.trans HQ.o).of_nil) ⟨_,rfl,(Lb n dC (by omega) (lt_of_block dC) (bY fM HQ.o (by omega) lr) rfl (.inl ⟨rfl,rfl⟩) ⟨[],rfl,rJ _ _⟩ ⟨[],rfl,rJ _ _⟩ (kept qh.o (sr.trans (cO.trans HQ.o).of_nil) cA.o.lt cA.o.wh (by omega)))⟩ (aW.o.cI (cO.trans HQ.o))
 · skip
   have eQ:=bH.o;rw[if_neg OA] at eQ;have dZ:=ae eQ;have yk:decide (t.kind=12)=false:=by simpa using OA
   clear eQ OA bH;go_wp2_with fail;refine(HP.o t _ aD.o).mono ?_;rw[yk];rintro e w1 ⟨rfl,hs⟩;have av:Hd (Sm [c.pb,c.vb] w w1):=hs.of_nil;have cA:=ae (aD.o.cI hs);clear hs yk;have eQ:=dZ.o;clear dZ
   try simp only[Bool.false_eq_true,ll,lk,cD,bJ,dd] at eQ
   have dZ:=ae eQ;clear eQ;go_wp2_with fail;refine dj DH.o cA dZ HO av.o (fun v w2 u HE=>?_) fun x2 t2 w2 v2 dN qh aW ax=>?_
   · go_wp2_with fail;go_returns;exact HE.o _ _
   clear dZ;have hv:v2=.string x2:=qh.o;subst hv;have eQ:=dN.o;clear dN
   try simp only[Bool.false_eq_true,ll,lk,cD,bJ,dd] at eQ
   have dN:=ae eQ;clear eQ;by_cases ri:t2.kind=15
   · skip
     have eQ:=dN.o;rw[if_pos ri] at eQ;have iE:=ae eQ;have yk:decide (t2.kind=15)=true:=by simpa using ri
     clear eQ ri dN;go_wp2_with fail;refine(Xm.o t2 _ aW.o).mono ?_;rw[yk];rintro e w3 ⟨rfl,hs⟩;have aO:Hd (Sm [c.pb,c.vb] w2 w3):=hs.of_nil;have bT:=ae (aW.o.cI hs);clear hs yk;go_wp2_with fail;refine dj HN.o bT iE HO ((av.o.trans ax.o).trans aO.o) (fun v w4 u HE=>?_) fun x4 t4 w4 v4 iO jc dJ cy=>?_
     · go_wp2_with fail;go_returns;exact HE.o _ _
     clear iE;obtain⟨a4,hv⟩:=ef.out jc.o;subst hv;go_wp2_with fail;refine dj HV.o dJ iO HO (((av.o.trans ax.o).trans aO.o).trans cy.o) (fun v w5 u HE=>?_) fun x5 t5 w5 v5 jG oG bX dK=>?_
     · go_wp2_with fail;go_returns;exact HE.o _ _
     clear iO;obtain⟨a5,n5,m5,hv⟩:=(dS _).out oG.o;subst hv;go_wp2_with fail;refine dj HD.o bX jG HO ((((av.o.trans ax.o).trans aO.o).trans cy.o).trans dK.o) (fun v w6 u HE=>?_) fun x6 t6 w6 v6 oH qj eM je=>?_
     · go_wp2_with fail;go_returns;exact HE.o _ _
     clear jG;obtain⟨a6,n6,m6,hv⟩:=(dS _).out qj.o;subst hv;go_wp2_with fail;refine dj Ox.o eM oH HO (((((av.o.trans ax.o).trans aO.o).trans cy.o).trans dK.o).trans je.o) (fun v w7 u HE=>?_) fun x7 t7 w7 v7 MP I8 rk EG=>?_
     · go_wp2_with fail;go_returns;exact HE.o _ _
     clear oH;obtain⟨a7,hv⟩:=(oU n).out I8.o;subst hv;go_wp2_with fail;refine(ic.o t7 _ _ rk.o).mono ?_;rintro e wl ⟨lb,i,j,sp,rfl,cO,lC,fM⟩;go_wp2_with fail;refine(jk.o _ ⟨#[]⟩ (some ⟨lb,0,none⟩) x2 a4 a5 n5 m5 a6 n6 m6 a7 _ (ai _ _)).mono ?_;rintro e wn ⟨nb,ks,rfl,dC,fO,fH⟩;have HQ:=dP fO;go_wp2_with fail;go_returns;have z1:=av.o.size;have z2:=ax.o.size;have z3:=aO.o.size;have z4:=cy.o.size;have z5:=dK.o.size;have z6:=je.o.size;have z7:=EG.o.size;have zl:=cO.size;have zn:=fH;simp at zn;have y8:=cO.trans HQ.o;have y7:=EG.o.trans y8.of_nil;have y6:=je.o.trans y7;have y5:=dK.o.trans y6;have y4:=cy.o.trans y5;have y3:=aO.o.trans y4;have y2:=ax.o.trans y3;have y1:=av.o.trans y2;exact aG (show r=.ok _ _ from MP.o.symm) y1 ⟨_,rfl,(Lb n dC (by omega) (lt_of_block dC) (bY fM HQ.o (by omega) lr) rfl (.inr (kp jc bT y5 (by omega))) (kp oG dJ y6 (by omega)) (kp qj bX y7 (by omega)) (kp I8 eM y8.of_nil (by omega)))⟩ (rk.o.cI y8)
   · skip
     have eQ:=dN.o;rw[if_neg ri] at eQ;have iE:=ae eQ;have yk:decide (t2.kind=15)=false:=by simpa using ri
     clear eQ ri dN;go_wp2_with fail;refine(Xm.o t2 _ aW.o).mono ?_;rw[yk];rintro e w3 ⟨rfl,hs⟩;have aO:Hd (Sm [c.pb,c.vb] w2 w3):=hs.of_nil;have bT:=ae (aW.o.cI hs);clear hs yk;have eQ:=iE.o;clear iE
     try simp only[Bool.false_eq_true,ll,lk,cD,bJ,dd] at eQ
     have iE:=ae eQ;clear eQ;go_wp2_with fail;refine dj HV.o bT iE HO ((av.o.trans ax.o).trans aO.o) (fun v w4 u HE=>?_) fun x4 t4 w4 v4 iO jc dJ cy=>?_
     · go_wp2_with fail;go_returns;exact HE.o _ _
     clear iE;obtain⟨a4,n4,m4,hv⟩:=(dS _).out jc.o;subst hv;go_wp2_with fail;refine dj HD.o dJ iO HO (((av.o.trans ax.o).trans aO.o).trans cy.o) (fun v w5 u HE=>?_) fun x5 t5 w5 v5 jG oG bX dK=>?_
     · go_wp2_with fail;go_returns;exact HE.o _ _
     clear iO;obtain⟨a5,n5,m5,hv⟩:=(dS _).out oG.o;subst hv;go_wp2_with fail;refine dj Ox.o bX jG HO ((((av.o.trans ax.o).trans aO.o).trans cy.o).trans dK.o) (fun v w6 u HE=>?_) fun x6 t6 w6 v6 oH qj eM je=>?_
     · go_wp2_with fail;go_returns;exact HE.o _ _
     clear jG;obtain⟨a6,hv⟩:=(oU n).out qj.o;subst hv;go_wp2_with fail;refine(ic.o t6 _ _ eM.o).mono ?_;rintro e wl ⟨lb,i,j,sp,rfl,cO,lC,fM⟩;go_wp2_with fail;refine(jk.o _ ⟨#[]⟩ (some ⟨lb,0,none⟩) x2 none a4 n4 m4 a5 n5 m5 a6 _ (ai _ _)).mono ?_;rintro e wn ⟨nb,ks,rfl,dC,fO,fH⟩;have HQ:=dP fO;go_wp2_with fail;go_returns;have z1:=av.o.size;have z2:=ax.o.size;have z3:=aO.o.size;have z4:=cy.o.size;have z5:=dK.o.size;have z6:=je.o.size;have zl:=cO.size;have zn:=fH;simp at zn;have y7:=cO.trans HQ.o;have y6:=je.o.trans y7.of_nil;have y5:=dK.o.trans y6;have y4:=cy.o.trans y5;have y3:=aO.o.trans y4;have y2:=ax.o.trans y3;have y1:=av.o.trans y2;exact aG (show r=.ok _ _ from oH.o.symm) y1 ⟨_,rfl,(Lb n dC (by omega) (lt_of_block dC) (bY fM HQ.o (by omega) lr) rfl (.inl ⟨rfl,rfl⟩) (kp jc bT y5 (by omega)) (kp oG dJ y6 (by omega)) (kp qj bX y7.of_nil (by omega)))⟩ (eM.o.cI y7)
theorem eR:dV.toList=[102,114,97,103,109,101,110,116]:=by rw[ByteArray.toList_eq];rfl
theorem oS(c:Cx)(hL:dg c)(n:Nat)(hm:n≤1099511627776):aS c 108 #[.pointer (some ⟨c.pb,0,none⟩)] (gL (rd c.s) n) (au.iface 220 (PA n)):=by
 have HW:=ae (dO c hL dV);have Xs:=ae (dO c hL ly);have Zx:=ae (nc c hL);have Ay:=ae (j5 c hL);have HD:=ae (bF c hL n hm (cq c hL n hm false));have Ox:=ae (jU c hL n hm);have ic:=ae (vk c);have jk:=ae qq;clear hL hm;refine fj fun t w r hr (HO:Hd _) h=>?_;unfold gL nL at hr
 try simp only[cD,bJ] at hr
 have bH:=ae hr;have aD:=ae h;have c6:=h.c6;clear h hr;go_enter Tryz.func108,Tryz.ntmps108;go_wp2_with fail;refine(HW.o t _ aD.o (aH bH HO)).mono ?_;intro e w1 h1;rcases h1.cases (aH bH HO) with⟨x1,t1,hx,rfl,cA,av⟩|⟨p,v,u,hx,rfl,HU,av⟩
 rotate_left
 · have fv:=ae (bc bH hx);clear hx h1;unfold kg;go_wp2_with fail;go_returns;exact aA fv.o sr (HU.o.sm ((Sm.refl [] _).alloc _) (by simp) lr) (av.o.alloc _)
 have dZ:=bK bH hx;clear hx h1 bH;unfold kg;go_wp2_with fail;obtain⟨w2,zF⟩:∃W,W=w1.alloc (aU x1):=⟨_,rfl⟩;have ax:Hd (Sm [c.pb,c.vb] w1 w2):=by rw[zF];exact sr.alloc _
 have aW:Hd (gb c t1 w2):=by rw[zF];exact cA.o.cI (sr.alloc _)
 have Kn:Hd (w2.heap[w1.heap.size]?=some (aU x1)):=by rw[zF];exact ai _ _
 have dN:=dZ;unfold aU at zF;rw[←zF];clear zF dZ;go_wp2_with fail;refine dj Zx.o aW dN HO (av.o.trans ax.o) (fun v w3 u HE=>?_) fun x3 t3 w3 v3 iE ib bT aO=>?_
 · go_wp2_with fail;go_returns;exact HE.o _ _
 clear dN;obtain⟨a3,hv⟩:=ef.out ib.o;subst hv;go_wp2_with fail;refine lN Xs.o bT iE HO ((av.o.trans ax.o).trans aO.o) (fun v w4 u HE=>?_) fun x4 t4 w4 iO dJ cy=>?_
 · go_wp2_with fail;go_returns;exact HE.o _ _
 clear iE;go_wp2_with fail;refine dj Ay.o dJ iO HO (((av.o.trans ax.o).trans aO.o).trans cy.o) (fun v w5 u HE=>?_) fun x5 t5 w5 v5 jG oG bX dK=>?_
 · go_wp2_with fail;go_returns;exact HE.o _ _
 clear iO;obtain⟨a5,hv⟩:=jw.out oG.o;subst hv;go_wp2_with fail;refine dj HD.o bX jG HO ((((av.o.trans ax.o).trans aO.o).trans cy.o).trans dK.o) (fun v w6 u HE=>?_) fun x6 t6 w6 v6 oH qj eM je=>?_
 · go_wp2_with fail;go_returns;exact HE.o _ _
 clear jG;obtain⟨a6,n6,m6,hv⟩:=(dS _).out qj.o;subst hv;go_wp2_with fail;refine dj Ox.o eM oH HO (((((av.o.trans ax.o).trans aO.o).trans cy.o).trans dK.o).trans je.o) (fun v w7 u HE=>?_) fun x7 t7 w7 v7 MP I8 rk EG=>?_
 · go_wp2_with fail;go_returns;exact HE.o _ _
 clear oH;obtain⟨a7,hv⟩:=(oU n).out I8.o;subst hv;go_wp2_with fail;refine(ic.o t7 _ _ rk.o).mono ?_;rintro e wl ⟨lb,i,j,sp,rfl,cO,lC,fM⟩;go_wp2_with fail;refine(jk.o _ ⟨#[]⟩ (some ⟨lb,0,none⟩) ⟨#[]⟩ a3 none 0 0 a5 a6 n6 m6 a7 _ (ai _ _)).mono ?_;rintro e wn ⟨nb,ks,rfl,dC,fO,fH⟩;have HQ:=dP fO;go_wp2_with fail;go_returns;have z1:=av.o.size;have z2:=ax.o.size;have z3:=aO.o.size;have z4:=cy.o.size;have z5:=dK.o.size;have z6:=je.o.size;have z7:=EG.o.size;have zl:=cO.size;have zn:=fH;simp at zn;have y8:=cO.trans HQ.o;have y7:=EG.o.trans y8.of_nil;have y6:=je.o.trans y7;have y5:=dK.o.trans y6;have y4:=cy.o.trans y5;have y3:=aO.o.trans y4;have y2:=ax.o.trans y3;have y1:=av.o.trans y2;exact aG (show r=.ok _ _ from MP.o.symm) y1 ⟨_,rfl,(PB n dC (by omega) (lt_of_block dC) (bY fM HQ.o (by omega) lr) (kp ib aW y4 (by omega)) (kp oG dJ y6 (by omega)) (kp qj bX y7 (by omega)) (kp I8 eM y8.of_nil (by omega)))⟩ (rk.o.cI y8)
end Go.Proofs.YtnpjmhodfdgloaaGreatDoor
