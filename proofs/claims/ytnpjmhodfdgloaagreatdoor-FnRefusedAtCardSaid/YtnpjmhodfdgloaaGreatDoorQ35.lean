/- Part of the proof. -/
import Derived.Deep.CutBlock
import Derived.Test.YtnpjmhodfdgloaaGreatDoorQ34
set_option linter.unusedVariables false
set_option linter.unusedSimpArgs false
namespace Go.Proofs.YtnpjmhodfdgloaaGreatDoor
set_option maxRecDepth 100000
set_option maxHeartbeats 32000000
open Go.RowKit
attribute [local go_sem ↓] Go.wp_at_zero Go.wp_at_succ
def BA(c:Cx)(n:Nat)(W1:World)(lo:Nat)(r:PR (List Nd))(v:Value)(wx:World):Prop:=
 ∃x t',Hd ((ft (rd c.s) 2>>=fun b=>if b=true then(pure (made {kind:=22} [x]):PM (List Nd)) else pure x) t'=r)∧Hd ((Dr (qM n)).rd lo wx.heap.size wx v x)∧Hd (gb c t' wx)∧Hd (Sm [c.pb,c.vb] W1 wx)
theorem CO(c:Cx)(hL:dg c)(n:Nat)(hT:aS c 135 #[.pointer (some ⟨c.pb,0,none⟩)] (pB (rd c.s) n) (qM n)):aS c 135 #[.pointer (some ⟨c.pb,0,none⟩)] (pB (rd c.s) (n+1)) (qM (n+1)):=by
 have HT:=ae hT;have Ay:=ae (j5 c hL);have vU:=ae (jf c hL);have Km:=ae (od c hL 2);have ic:=ae (vk c);have Bw:=ae Jh;have Aa:=ae CH;clear hL hT;intro t w h ho;obtain⟨r,hr⟩:∃r,pB (rd c.s) (n+1) t=r:=⟨_,rfl⟩;rw[hr] at ho ⊢;unfold pB sC at hr;rw[cD,dd] at hr;have HR:=ae hr;have HO:=ae ho;have aD:=ae h;have c5:=h.c5;have c6:=h.c6;have c7:=h.c7;have c8:=h.c8;clear h ho hr;go_enter Tryz.func135,Tryz.ntmps135;go_upto_block 0 with fail
 obtain⟨W1,AK⟩:∃W1,W1=w.alloc (aU t):=⟨_,rfl⟩;have av:Hd (Sm [] w W1):=by rw[AK];exact sr.alloc _
 have cA:Hd (gb c t W1):=aD.o.cI av.o;have HB:Hd (W1.heap[w.heap.size]?=some (aU t)):=by rw[AK];exact ai _ _
 have HZ:Hd (c.pb<w.heap.size∧c.vb<w.heap.size∧w.heap.size≤W1.heap.size):=⟨aD.o.lt,aD.o.wh,av.o.size⟩;have LZ:Hd (w.heap.size∉[c.pb,c.vb]):=fun hm=>by have a1:=aD.o.lt;have a2:=aD.o.wh;simp at hm;omega
 unfold aU at AK;rw[←AK];clear AK c5 c6 c7 c8
 go_cut [2,3] from 13 to 54 (fun v e wx=>BA c n W1 w.heap.size r v wx)
 case first=>
  by_cases jq:t.kind=10
  · skip
    have hr:=HR.o;rw[if_pos jq] at hr;simp only[cD,bJ] at hr;have bH:=ae hr;have Kd:(t.kind==10)=true:=by simpa using jq
    clear hr jq;go_wp2_with fail;have nT:=lP bH HO;refine(vU.o t _ cA.o nT.o).mono ?_;intro e w2 h1;rcases h1.cases nT.o with⟨u,hx,rfl,aW,ax⟩|⟨p,v,hx,rfl,HU,_,ax⟩
    rotate_left
    · have fv:=ae (jK bH hx);clear hx h1;go_wp2_with fail;go_returns;exact aA fv.o av.o.of_nil HU.o ax.o
    have dZ:=lQ bH hx;clear hx h1 bH;go_wp2_with fail;refine(HT.o u _ aW.o (aH dZ HO)).mono ?_;intro e w3 h1;rcases h1.cases (aH dZ HO) with⟨x3,t3,v3,hx,rfl,ib,bT,aO⟩|⟨p,v,u2,hx,rfl,HU,aO⟩
    rotate_left
    · have fv:=ae (bc dZ hx);clear hx h1;go_wp2_with fail;go_returns;exact aA fv.o (av.o.of_nil.trans ax.o) HU.o aO.o
    have dN:=bK dZ hx;clear hx h1 dZ;go_wp2_with fail;have Xj:=lP dN HO;refine(vU.o t3 _ bT.o Xj.o).mono ?_;intro e w4 h1;rcases h1.cases Xj.o with⟨u4,hx,rfl,Kg,cy⟩|⟨p,v,hx,rfl,HU,_,cy⟩
    rotate_left
    · have fv:=ae (jK dN hx);clear hx h1;go_wp2_with fail;go_returns;exact aA fv.o ((av.o.of_nil.trans ax.o).trans aO.o) HU.o cy.o
    have iE:=lQ dN hx;clear hx h1 dN;have Ac:Hd (Sm [c.pb,c.vb] W1 w4):=(ax.o.trans aO.o).trans cy.o;have Mj:=(Bh n).out ib.o;have HIS:Hd (R6 v3):=Mj;have XU:Hd (w.heap.size≤w2.heap.size):=Nat.le_trans av.o.size ax.o.size;rcases Mj with rfl|⟨ty,uu,rfl⟩
    · skip
      have bs:w4.cell? ⟨w.heap.size,1,none⟩=some (.int .i64 (t.start:Int)):=Ac.o.keeps (cell_of HB.o rfl) LZ.o;go_wp2_with fail;refine(ic.o u4 _ _ Kg.o).mono ?_;rintro e wl ⟨lb,i,j,sp,rfl,cO,lC,fM⟩;go_wp2_with fail;refine(Bw.o _ ⟨#[]⟩ (some ⟨lb,0,none⟩) .nilIface _ (ai _ _) (.inl rfl)).mono ?_;rintro e wn ⟨nb,ks,rfl,dC,fO,fH⟩;have HQ:=dP fO;clear bs;go_wp2_with fail;go_meet;unfold BA;have y1:=Ac.o.size;have y2:=HZ.o;have zl:=cO.size;have zn:=fH;simp at zn;refine⟨_,_,iE,.inr (.inr ⟨_,rfl,Cu _ dC (by omega) (lt_of_block dC) (bY fM HQ.o (by omega) lr) (.inr (kept ib.o (cy.o.trans (cO.trans HQ.o).of_nil) aW.o.lt aW.o.wh XU.out))⟩),Kg.o.cI (cO.trans HQ.o),Ac.o.trans (cO.trans HQ.o).of_nil⟩
    · skip
      have bs:w4.cell? ⟨w.heap.size,1,none⟩=some (.int .i64 (t.start:Int)):=Ac.o.keeps (cell_of HB.o rfl) LZ.o;go_wp2_with fail;refine(ic.o u4 _ _ Kg.o).mono ?_;rintro e wl ⟨lb,i,j,sp,rfl,cO,lC,fM⟩;go_wp2_with fail;refine(Bw.o _ ⟨#[]⟩ (some ⟨lb,0,none⟩) (.iface ty uu) _ (ai _ _) (.inr ⟨_,_,rfl⟩)).mono ?_;rintro e wn ⟨nb,ks,rfl,dC,fO,fH⟩;have HQ:=dP fO;clear bs;go_wp2_with fail;go_meet;unfold BA;have y1:=Ac.o.size;have y2:=HZ.o;have zl:=cO.size;have zn:=fH;simp at zn;refine⟨_,_,iE,.inr (.inr ⟨_,rfl,Cu _ dC (by omega) (lt_of_block dC) (bY fM HQ.o (by omega) lr) (.inr (kept ib.o (cy.o.trans (cO.trans HQ.o).of_nil) aW.o.lt aW.o.wh XU.out))⟩),Kg.o.cI (cO.trans HQ.o),Ac.o.trans (cO.trans HQ.o).of_nil⟩
  by_cases AH:t.kind=11
  · skip
    have hr:=HR.o;rw[if_neg jq,if_pos AH] at hr;simp only[cD,bJ] at hr;have bH:=ae hr;have Kd:(t.kind==10)=false:=by simpa using jq
    have y11:(t.kind==11)=true:=by simpa using AH
    clear hr jq AH;go_wp2_with fail;have nT:=lP bH HO;refine(vU.o t _ cA.o nT.o).mono ?_;intro e w2 h1;rcases h1.cases nT.o with⟨u,hx,rfl,Kg,ax⟩|⟨p,v,hx,rfl,HU,_,ax⟩
    rotate_left
    · have fv:=ae (jK bH hx);clear hx h1;go_wp2_with fail;go_returns;exact aA fv.o av.o.of_nil HU.o ax.o
    have iE:=lQ bH hx;clear hx h1 bH;have bs:w2.cell? ⟨w.heap.size,1,none⟩=some (.int .i64 (t.start:Int)):=ax.o.keeps (cell_of HB.o rfl) LZ.o;go_wp2_with fail;refine(ic.o u _ _ Kg.o).mono ?_;rintro e wl ⟨lb,i,j,sp,rfl,cO,lC,fM⟩;go_wp2_with fail;refine(Bw.o _ ⟨#[]⟩ (some ⟨lb,0,none⟩) .nilIface _ (ai _ _) (.inl rfl)).mono ?_;rintro e wn ⟨nb,ks,rfl,dC,fO,fH⟩;have HQ:=dP fO;clear bs;go_wp2_with fail;go_meet;unfold BA;have y1:=ax.o.size;have y2:=HZ.o;have zl:=cO.size;have zn:=fH;simp at zn;refine⟨_,_,iE,.inr (.inr ⟨_,rfl,Cu _ dC (by omega) (lt_of_block dC) (bY fM HQ.o (by omega) lr) (.inl ⟨rfl,rfl⟩)⟩),Kg.o.cI (cO.trans HQ.o),ax.o.trans (cO.trans HQ.o).of_nil⟩
  by_cases ml:t.kind=15
  · skip
    have hr:=HR.o;rw[if_neg jq,if_neg AH,if_pos ml] at hr;unfold nk at hr;simp only[cD,bJ] at hr;have bH:=ae hr;have Kd:(t.kind==10)=false:=by simpa using jq
    have y11:(t.kind==11)=false:=by simpa using AH
    have OJ:(t.kind==15)=true:=by simpa using ml
    clear hr jq AH ml;go_wp2_with fail;refine(Ay.o t _ cA.o (aH bH HO)).mono ?_;intro e w3 h1;rcases h1.cases (aH bH HO) with⟨x3,t3,v3,hx,rfl,ib,bT,aO⟩|⟨p,v,u2,hx,rfl,HU,aO⟩
    rotate_left
    · have fv:=ae (bc bH hx);clear hx h1;go_wp2_with fail;go_returns;exact aA fv.o av.o.of_nil HU.o aO.o
    have dN:=bK bH hx;clear hx h1 bH;go_wp2_with fail;go_meet;unfold BA;exact⟨_,_,dN,.inr (.inl ⟨_,rfl,⟨_,rfl,ot.wide ib.o av.o.size lr⟩⟩),bT,aO⟩
  · skip
    have hr:=HR.o;rw[if_neg jq,if_neg AH,if_neg ml] at hr;simp only[cD,bJ] at hr;have bH:=ae hr;have Kd:(t.kind==10)=false:=by simpa using jq
    have y11:(t.kind==11)=false:=by simpa using AH
    have OJ:(t.kind==15)=false:=by simpa using ml
    clear hr jq AH ml;go_wp2_with fail;go_meet;unfold BA;exact⟨_,_,bH,.inl ⟨rfl,rfl⟩,cA,sr⟩
 case rest=>
  unfold BA at hcut;obtain⟨x,t2,Kl,HD,Kf,RD⟩:=hcut;have Mj:=(EZ _).out HD.o;go_wp2_with fail;refine(Km.o t2 _ Kf.o (aH Kl HO)).mono ?_;intro e w3 h1;rcases h1.cases (aH Kl HO) with⟨x3,t3,v3,hx,rfl,ib,bT,aO⟩|⟨p,v,u,hx,rfl,HU,aO⟩
  rotate_left
  · have fv:=ae (bc Kl hx);clear hx h1 Mj;go_wp2_with fail;go_returns;exact aA fv.o (av.o.of_nil.trans RD.o) HU.o aO.o
  have hv:v3=.bool x3:=ib.o;subst hv;have iE:=bK Kl hx;have HW:Hd (Sm [c.pb,c.vb] w w3):=(av.o.of_nil.trans RD.o).trans aO.o;have HK:Hd ((Dr (qM n)).rd w.heap.size w3.heap.size w3 u2 x):=au.wide _ (au.sm HD.o aO.o lr (fun q hq=>by have:=HZ.o;simp at hq;omega)) lr aO.o.size;clear hx h1 Kl
  cases x3 with
  | false=>
   have Ab:Hd (r=.ok x t3):=iE.o.symm;clear iE Mj;go_wp2_with fail;go_returns
   exact aG Ab.o HW.o (.inl HK.o) bT.o
  | true=>
   have Ab:Hd (r=.ok (made {kind:=22} [x]) t3):=iE.o.symm;have bs:w3.cell? ⟨w.heap.size,1,none⟩=some (.int .i64 (t.start:Int)):=(RD.o.trans aO.o).keeps (cell_of HB.o rfl) LZ.o;clear iE;rcases Mj with rfl|⟨ty,uu,rfl⟩
   · skip
     go_wp2_with fail;refine(ic.o t3 _ _ bT.o).mono ?_;rintro e wl ⟨lb,i,j,sp,rfl,cO,lC,fM⟩;go_wp2_with fail;refine(Aa.o _ ⟨#[]⟩ (some ⟨lb,0,none⟩) .nilIface _ (ai _ _) (.inl rfl)).mono ?_;rintro e wn ⟨nb,ks,rfl,dC,fO,fH⟩;have HQ:=dP fO;clear bs;go_wp2_with fail;go_returns;have y1:=HW.o.size;have zl:=cO.size;have zn:=fH;simp at zn;exact aG Ab.o (HW.o.trans (cO.trans HQ.o).of_nil) (.inr ⟨_,rfl,MA _ dC (by omega) (lt_of_block dC) (bY fM HQ.o (by omega) lr) (au.wide _ (au.sm HK.o (cO.trans HQ.o) lr (fun q hq=>by cases hq)) lr (cO.trans HQ.o).size)⟩) (bT.o.cI (cO.trans HQ.o))
   · skip
     go_wp2_with fail;refine(ic.o t3 _ _ bT.o).mono ?_;rintro e wl ⟨lb,i,j,sp,rfl,cO,lC,fM⟩;go_wp2_with fail;refine(Aa.o _ ⟨#[]⟩ (some ⟨lb,0,none⟩) (.iface ty uu) _ (ai _ _) (.inr ⟨_,_,rfl⟩)).mono ?_;rintro e wn ⟨nb,ks,rfl,dC,fO,fH⟩;have HQ:=dP fO;clear bs;go_wp2_with fail;go_returns;have y1:=HW.o.size;have zl:=cO.size;have zn:=fH;simp at zn;exact aG Ab.o (HW.o.trans (cO.trans HQ.o).of_nil) (.inr ⟨_,rfl,MA _ dC (by omega) (lt_of_block dC) (bY fM HQ.o (by omega) lr) (au.wide _ (au.sm HK.o (cO.trans HQ.o) lr (fun q hq=>by cases hq)) lr (cO.trans HQ.o).size)⟩) (bT.o.cI (cO.trans HQ.o))
theorem nP(c:Cx)(hL:dg c):∀n,aS c 135 #[.pointer (some ⟨c.pb,0,none⟩)] (pB (rd c.s) n) (qM n)
 | 0=>fun t w h ho=>absurd rfl ho
 | n+1=>CO c hL n (nP c hL n)
def Mn(L:Nat→LR):PM ByteArray:=bE L 3>>=fun _=>dQ L>>=pure
theorem Oo{α:Type}{L:Nat→LR}{f:ByteArray→PM α}:(bE L 3>>=fun _=>dQ L>>=f)=(Mn L>>=f):=by
 unfold Mn;rw[cD];congr 1
 funext _
 rw[cD]
 rfl
theorem Ei(c:Cx)(hL:dg c):aS c 134 #[.pointer (some ⟨c.pb,0,none⟩)] (Mn (rd c.s)) (varName):=by
 have HE:=ae (eB c hL 3);have HN:=ae (cd c hL);have ic:=ae (vk c);have jk:=ae tG;clear hL ;refine fj fun t w r hr (HO:Hd _) h=>?_;unfold Mn at hr;have bH:=ae hr;have aD:=ae h;have c6:=h.c6;clear h hr;go_enter Tryz.func134,Tryz.ntmps134;go_wp2_with fail;refine lN HE.o aD bH HO sr (fun v w1 u HE=>?_) fun x1 t1 w1 dZ cA av=>?_
 · go_wp2_with fail;go_returns;exact HE.o _ _
 clear bH;go_wp2_with fail;refine dj HN.o cA dZ HO av.o (fun v w2 u HE=>?_) fun x2 t2 w2 v2 dN qh aW ax=>?_
 · go_wp2_with fail;go_returns;exact HE.o _ _
 clear dZ;obtain⟨a2,hv⟩:=ef.out qh.o;subst hv;go_wp2_with fail;refine(ic.o t2 _ _ aW.o).mono ?_;rintro e wl ⟨lb,i,j,sp,rfl,cO,lC,fM⟩;go_wp2_with fail;refine(jk.o _ ⟨#[]⟩ (some ⟨lb,0,none⟩) a2 _ (ai _ _)).mono ?_;rintro e wn ⟨nb,ks,rfl,dC,fO,fH⟩;have HQ:=dP fO;go_wp2_with fail;go_returns;have z1:=av.o.size;have z2:=ax.o.size;have zl:=cO.size;have zn:=fH;simp at zn;have y3:=cO.trans HQ.o;have y2:=ax.o.trans y3.of_nil;have y1:=av.o.trans y2;exact aG (show r=.ok _ _ from dN.o.symm) y1 (LO dC (by omega) (lt_of_block dC) (bY fM HQ.o (by omega) lr) (kp qh cA y3.of_nil (by omega))) (aW.o.cI y3)
theorem oT(c:Cx)(hL:dg c)(n:Nat)(hm:n≤1099511627776):aS c 106 #[.pointer (some ⟨c.pb,0,none⟩)] (gM (rd c.s) n) (au.iface 171 (qN n)):=by
 have HV:=ae (Ei c hL);have HE:=ae (eB c hL 7);have HT:=ae (nP c hL n);have HS:=ae (od c hL 8);have HD:=ae (cq c hL n hm true);have ic:=ae (vk c);have jk:=ae qs;clear hL hm;refine fj fun t w r hr (HO:Hd _) h=>?_;unfold gM py at hr;simp only[cD] at hr;rw[Oo] at hr;have bH:=ae hr;have aD:=ae h;have c6:=h.c6;clear h hr;go_enter Tryz.func106,Tryz.ntmps106;go_wp2_with fail;refine dj HV.o aD bH HO sr (fun v w1 u HE=>?_) fun x1 t1 w1 v1 dZ jE cA av=>?_
 · go_wp2_with fail;go_returns;exact HE.o _ _
 clear bH;obtain⟨a1,hv⟩:=Jr.out jE.o;subst hv;go_wp2_with fail;refine lN HE.o cA dZ HO av.o (fun v w2 u HE=>?_) fun x2 t2 w2 dN aW ax=>?_
 · go_wp2_with fail;go_returns;exact HE.o _ _
 clear dZ;go_wp2_with fail;refine dj HT.o aW dN HO (av.o.trans ax.o) (fun v w3 u HE=>?_) fun x3 t3 w3 v3 iE ib bT aO=>?_
 · go_wp2_with fail;go_returns;exact HE.o _ _
 clear dN;have Mj:=(Bh n).out ib.o;go_wp2_with fail;refine dj HS.o bT iE HO ((av.o.trans ax.o).trans aO.o) (fun v w4 u HE=>?_) fun x4 t4 w4 v4 iO jc dJ cy=>?_
 · go_wp2_with fail;go_returns;exact HE.o _ _
 clear iE;have hv:v4=.bool x4:=jc.o;subst hv
 cases x4 with
 | false=>
  have iO:Hd (((pure (made {kind:=4,name:=x1} [x3,[]]):PM (List Nd)) t4)=r):=iO.o;rcases Mj with rfl|⟨WJ,u3,rfl⟩
  · skip
    go_wp2_with fail;refine(ic.o t4 _ _ dJ.o).mono ?_;rintro e wl ⟨lb,i,j,sp,rfl,cO,lC,fM⟩;go_wp2_with fail;refine(jk.o _ ⟨#[]⟩ (some ⟨lb,0,none⟩) a1 .nilIface .nilIface _ (ai _ _) (.inl rfl) (.inl rfl)).mono ?_;rintro e wn ⟨nb,ks,rfl,dC,fO,fH⟩;have HQ:=dP fO;go_wp2_with fail;go_returns;have z1:=av.o.size;have z2:=ax.o.size;have z3:=aO.o.size;have z4:=cy.o.size;have zl:=cO.size;have zn:=fH;simp at zn;have y5:=cO.trans HQ.o;have y4:=cy.o.trans y5.of_nil;have y3:=aO.o.trans y4;have y2:=ax.o.trans y3;have y1:=av.o.trans y2;exact aG (show r=.ok _ _ from iO.o.symm) y1 ⟨_,rfl,(ti n dC (by omega) (lt_of_block dC) (bY fM HQ.o (by omega) lr) (kp jE aD y2 (by omega)) (kp ib aW y4 (by omega)) (.inl ⟨rfl,rfl⟩))⟩ (dJ.o.cI y5)
  · skip
    go_wp2_with fail;refine(ic.o t4 _ _ dJ.o).mono ?_;rintro e wl ⟨lb,i,j,sp,rfl,cO,lC,fM⟩;go_wp2_with fail;refine(jk.o _ ⟨#[]⟩ (some ⟨lb,0,none⟩) a1 (.iface WJ u3) .nilIface _ (ai _ _) (.inr ⟨_,_,rfl⟩) (.inl rfl)).mono ?_;rintro e wn ⟨nb,ks,rfl,dC,fO,fH⟩;have HQ:=dP fO;go_wp2_with fail;go_returns;have z1:=av.o.size;have z2:=ax.o.size;have z3:=aO.o.size;have z4:=cy.o.size;have zl:=cO.size;have zn:=fH;simp at zn;have y5:=cO.trans HQ.o;have y4:=cy.o.trans y5.of_nil;have y3:=aO.o.trans y4;have y2:=ax.o.trans y3;have y1:=av.o.trans y2
    exact aG (show r=.ok _ _ from iO.o.symm) y1 ⟨_,rfl,(ti n dC (by omega) (lt_of_block dC) (bY fM HQ.o (by omega) lr) (kp jE aD y2 (by omega)) (kp ib aW y4 (by omega)) (.inl ⟨rfl,rfl⟩))⟩ (dJ.o.cI y5)
 | true=>
  have iO:Hd (((bo (rd c.s) n true>>=fun v=>(pure (made {kind:=4,name:=x1} [x3,v]):PM (List Nd))) t4)=r):=iO.o;rcases Mj with rfl|⟨WJ,u3,rfl⟩
  · skip
    go_wp2_with fail;refine dj HD.o dJ iO HO (((av.o.trans ax.o).trans aO.o).trans cy.o) (fun v w5 u HE=>?_) fun x5 t5 w5 v5 jG oG bX dK=>?_
    · go_wp2_with fail;go_returns;exact HE.o _ _
    clear iO;obtain⟨YI,u5,hv⟩:=(kv n).out oG.o;subst hv;go_wp2_with fail;refine(ic.o t5 _ _ bX.o).mono ?_;rintro e wl ⟨lb,i,j,sp,rfl,cO,lC,fM⟩;go_wp2_with fail;refine(jk.o _ ⟨#[]⟩ (some ⟨lb,0,none⟩) a1 .nilIface (.iface YI u5) _ (ai _ _) (.inl rfl) (.inr ⟨_,_,rfl⟩)).mono ?_;rintro e wn ⟨nb,ks,rfl,dC,fO,fH⟩;have HQ:=dP fO;go_wp2_with fail;go_returns;have z1:=av.o.size;have z2:=ax.o.size;have z3:=aO.o.size;have z4:=cy.o.size;have z5:=dK.o.size;have zl:=cO.size;have zn:=fH;simp at zn;have y6:=cO.trans HQ.o;have y5:=dK.o.trans y6.of_nil;have y4:=cy.o.trans y5;have y3:=aO.o.trans y4;have y2:=ax.o.trans y3;have y1:=av.o.trans y2;exact aG (show r=.ok _ _ from jG.o.symm) y1 ⟨_,rfl,(ti n dC (by omega) (lt_of_block dC) (bY fM HQ.o (by omega) lr) (kp jE aD y2 (by omega)) (kp ib aW y4 (by omega)) (.inr (kp oG dJ y6.of_nil (by omega))))⟩ (bX.o.cI y6)
  · skip
    go_wp2_with fail;refine dj HD.o dJ iO HO (((av.o.trans ax.o).trans aO.o).trans cy.o) (fun v w5 u HE=>?_) fun x5 t5 w5 v5 jG oG bX dK=>?_
    · go_wp2_with fail;go_returns;exact HE.o _ _
    clear iO;obtain⟨YI,u5,hv⟩:=(kv n).out oG.o;subst hv;go_wp2_with fail;refine(ic.o t5 _ _ bX.o).mono ?_;rintro e wl ⟨lb,i,j,sp,rfl,cO,lC,fM⟩;go_wp2_with fail;refine(jk.o _ ⟨#[]⟩ (some ⟨lb,0,none⟩) a1 (.iface WJ u3) (.iface YI u5) _ (ai _ _) (.inr ⟨_,_,rfl⟩) (.inr ⟨_,_,rfl⟩)).mono ?_;rintro e wn ⟨nb,ks,rfl,dC,fO,fH⟩;have HQ:=dP fO;go_wp2_with fail;go_returns;have z1:=av.o.size;have z2:=ax.o.size;have z3:=aO.o.size;have z4:=cy.o.size;have z5:=dK.o.size;have zl:=cO.size;have zn:=fH;simp at zn;have y6:=cO.trans HQ.o;have y5:=dK.o.trans y6.of_nil;have y4:=cy.o.trans y5;have y3:=aO.o.trans y4;have y2:=ax.o.trans y3;have y1:=av.o.trans y2;exact aG (show r=.ok _ _ from jG.o.symm) y1 ⟨_,rfl,(ti n dC (by omega) (lt_of_block dC) (bY fM HQ.o (by omega) lr) (kp jE aD y2 (by omega)) (kp ib aW y4 (by omega)) (.inr (kp oG dJ y6.of_nil (by omega))))⟩ (bX.o.cI y6)
theorem Qp(n:Nat):gR (qN n):=(gR.ptr _).map
theorem Tc(W:World)(u:Value):(Instr.typeAssert (.iface 171 u) 20 171 false).run Tryz.prog W=.ok u W:=by kernel_rfl
theorem NC:(Tryz.prog.info? 171).map (fun i=>(i.zero,i.size,i.bytes))=some (some xB,1,8):=by kernel_rfl
theorem MY(args:Array Value)(W:World):Sem.run Tryz.prog (callFunc 106 args) W=.ok (.enter 106 args) W:=by kernel_rfl
theorem ow(c:Cx)(hL:dg c)(n:Nat)(hm:n≤1099511627776):aS c 79 #[.pointer (some ⟨c.pb,0,none⟩)] (ku (rd c.s) n) (QT n):=by
 have DI:=ae (gi c hL 106 (gM (rd c.s) n) (au.iface 171 (qN n)) 4 5 n true (oT c hL n hm) (qo.iface _ _) hm MY);have HP:Hd (∀t w W,gb c t w→Sm [] w W→Calls Tryz.prog 74 #[.pointer (some ⟨c.pb,0,none⟩),.int .i64 4] W (jJ (decide (t.kind=4)) W)):=fun t w W h hw=>lH c 4 t W (h.cI hw);have xZ:=ae hm;clear hL hm;refine fj fun t w r hr ho h=>?_;unfold ku at hr;rw[dd] at hr;have HO:=ae ho;have aD:=ae h;by_cases hk:t.kind=4
 · rw[if_pos hk] at hr;have bH:=ae hr;have y:decide (t.kind=4)=true:=by simpa using hk
   clear h ho hr hk;go_enter Tryz.func79,Tryz.ntmps79;go_wp2_with fail;refine(HP.o t w _ aD.o (by(repeat(first| exact sr|assumption|refine Sm.alloc ?_ _|refine Sm.drew ?_|refine Sm.drewN ?_ _)))).mono ?_;rintro e w1 ⟨rfl,cJ⟩;have ya:Hd (Sm [] (w.alloc (.cells #[] 171 (0,0))) w1):=cJ;have av:Hd (Sm [] w w1):=((Sm.refl [] w).alloc _).trans cJ;have iq:=er (World.ownsRow_made (base:=w.heap.size) (size:=1) (e:=171) w #[] 0 lr (by simp[maxLen]) rfl) cJ (fun k hk=>by cases hk);have nU:=ae iq;clear cJ iq;go_wp2_with fail;refine(DI.o t w1 (aD.o.cI av.o) (aH bH HO)).mono ?_;intro e w2 h1;rcases h1.cases (aH bH HO) with⟨x2,t2,v2,hx,rfl,qh,aW,ax⟩|⟨p,v,u,hx,rfl,HU,ax⟩
   rotate_left
   · have fv:=ae (bc bH hx);clear hx h1;go_wp2_with fail;go_returns;exact aA fv.o av.o.of_nil HU.o ax.o
   have dZ:Hd (r=.ok x2.flatten t2):=(bK bH hx).out.symm;obtain⟨aa,nn,kk,hv⟩:=(DM.list _).out qh.o;subst hv;obtain⟨hn,(DE:Hd _)⟩:=iY qh.o;subst hn;have HX:=ae hx;clear h1 hx bH y;have Cl:∀k,k∈[c.pb,c.vb]→k<w.heap.size:=fun k hk=>by have a1:=aD.o.lt;have a2:=aD.o.wh;simp at hk;omega
   have Bx:Hd (w2.ownsRow w.heap.size 171 1 (.slice (some ⟨w.heap.size,0,none⟩) 0 0) 0 []):=er nU.o ax.o Cl;have Ae:Hd (Sm [c.pb,c.vb] w w2):=av.o.of_nil.trans ax.o;have Kk:Hd (∀q,Value.ownBlock (.slice (some ⟨w.heap.size,0,none⟩) 0 0)=some q→q<w1.heap.size∨w2.heap.size≤q):=vv ya.o;have A9:Hd (w.heap.size≤w1.heap.size):=av.o.size;have lz:Hd (x2.length≤1099511627776):=Nat.le_trans (gj HX.o) xZ.o;have Kb:=Tc;have z0:(0:Int)≤(x2.length:Int):=by omega
   clear Cl;go_wp2_with fail
   go_loopg [4,25] x2.length (fun g v ii wr=>fk c t2 (qN n) 171 w w2 w1.heap.size w2.heap.size x2 g v ii wr)
   case atStart=>unfold fk;exact⟨0,[],_,_,by simp,rfl,rfl,Bx.o,by unfold Hd;rw[List.take_zero];exact .nil,Kk.o,mz.refl _ _ _,aW.o,Ae.o,lr⟩
   case round=>
    unfold fk at hrel;obtain⟨j,vs,a,k,r4,rfl,rfl,mx,mX,lg,ki,rl,Ad,sa⟩:=hrel;have jF:=ae r4;by_cases hj:j<x2.length
    · obtain⟨bb,oo,u,E3,gP,kh,hc,hu⟩:=DE.o j hj;subst E3;have Cd:wr.cell? ⟨bb,oo+j,none⟩=some u:=(ki.o.cell gP kh).trans hc;have wQ:=(au.iface 171 (qN n)).keep hu ki.o;obtain⟨uu,rfl,s5⟩:=wQ;obtain⟨ab,jd⟩:=(Qp n).out s5;subst jd;have z1:(j:Int)<(x2.length:Int):=by omega
      have z2:(0:Int)≤(j:Int):=by omega
      have how:=mx.o;have de:(j+1)*8≤140737488355328:=by have:=lz.o;omega
      have cv:w.heap.size≤wr.heap.size:=Ad.o.size;have HJ:=ae hj;have E5:=lz.o;clear r4 hc hu gP kh;go_wp2_with (at_builtin;refine gH _ rfl _ _ _ rfl 171 _ 1 8 Tryz.underlying119 NC rfl (by omega) (by omega) _ j vs rfl how _ rfl rfl (by simp[Value.oneCell']) de (by omega) ?_);intro g dM w' aQ (HG:Hd _) bV ea;have qU:Hd (w'.ownsRow w.heap.size 171 1 (.slice (some ⟨g,0,none⟩) (j+1) dM) (j+1) (vs++[.pointer ab])):=by unfold Hd;simpa using aQ
      have bX:Hd (Value.ownBlock (.slice a j k)=some g∨wr.heap.size≤g):=bV.imp id (fun e=>by omega);have HU:=ae s5;have iD:=ae how;clear aQ bV ea how de Cd s5;go_wp2_with fail;go_roundg (gk-1)
      case measure=>have:=jF.o;have:=HJ.o;omega
      case rel=>
       unfold fk;refine⟨j+1,vs++[.pointer ab],some ⟨g,0,none⟩,dM,by have:=jF.o;have:=HJ.o;omega,rfl,by go_num,by unfold Hd;simpa using qU.out,?_,?_,?_,?_,?_,?_⟩
       · rw[gA HJ.o];exact mX.o.add HG.o bX.o A9.o sa.o lg.o HU.o
       · exact pd bX.o sa.o lg.o
       · exact ki.o.grown HG.o sa.o lg.o
       · exact rl.o.grown aD.o HG.o (fun q hq=>(iD.o.lt q hq).1)
       · exact Ad.o.grown HG.o (fun q hq=>.inl (iD.o.lt q hq).1)
       · exact Nat.le_trans sa.o HG.o.size
    · obtain rfl:j=x2.length:=by omega
      have z1:¬((x2.length:Int)<(x2.length:Int)):=by omega
      have DF:Hd ((au.list (qN n)).rd w.heap.size wr.heap.size wr (.slice a x2.length k) x2):=cW mx.o (by have:=mX.o;rwa [List.take_length] at this);clear r4;go_wp2_with fail;go_returns;exact aG dZ.o Ad.o ⟨_,rfl,DF.o⟩ rl.o
 · rw[if_neg hk] at hr;have bH:Hd (r=.ok [] t):=hr.symm;have y:decide (t.kind=4)=false:=by simpa using hk
   clear h ho hr hk;go_enter Tryz.func79,Tryz.ntmps79;go_wp2_with fail;refine(HP.o t w _ aD.o (by(repeat(first| exact sr|assumption|refine Sm.alloc ?_ _|refine Sm.drew ?_|refine Sm.drewN ?_ _)))).mono ?_;rintro e w1 ⟨rfl,cJ⟩;have av:Hd (Sm [] w w1):=((Sm.refl [] w).alloc _).trans cJ;clear cJ;go_wp2_with fail;go_returns;exact aG bH.o av.o.of_nil ⟨[],rfl,rJ _ _⟩ (aD.o.cI av.o)
theorem ll{α:Type}{d:Decidable True}(a b:α):@ite α True d a b=a:=if_pos trivial
theorem lk{α:Type}{d:Decidable False}(a b:α):@ite α False d a b=b:=if_neg not_false
theorem CL(c:Cx)(hL:dg c)(n:Nat)(hm:n≤1099511627776)(hS:aS c 75 #[.pointer (some ⟨c.pb,0,none⟩)] (cC (rd c.s) n) (mu n)):aS c 133 #[.pointer (some ⟨c.pb,0,none⟩)] (uA (rd c.s) n (cC (rd c.s) n)) (KH n (mu n)):=by
 have HN:=ae (cd c hL);have HK:=ae (od c hL 7);have HA:=ae (pM c hL n hm (cq c hL n hm false));have HD:=ae (bF c hL n hm (cq c hL n hm false));have HP:=ae (show ∀t W,gb c t W→Calls Tryz.prog 74 #[.pointer (some ⟨c.pb,0,none⟩),.int .i64 12] W (jJ (decide (t.kind=12)) W) from fun t W h=>lH c 12 t W h);have Ox:=ae (hS);have ic:=ae (vk c);have jk:=ae GG;clear hL hm hS;refine fj fun t w r hr (HO:Hd _) h=>?_;unfold uA Gg PU at hr;simp only[cD] at hr;have bH:=ae hr;have aD:=ae h;have c6:=h.c6;clear h hr;go_enter Tryz.func133,Tryz.ntmps133;go_wp2_with fail;refine dj HN.o aD bH HO sr (fun v w1 u HE=>?_) fun x1 t1 w1 v1 dZ jE cA av=>?_
 · go_wp2_with fail;go_returns;exact HE.o _ _
 clear bH;obtain⟨a1,hv⟩:=ef.out jE.o;subst hv;go_wp2_with fail;refine dj HK.o cA dZ HO av.o (fun v w2 u HE=>?_) fun x2 t2 w2 v2 dN qh aW ax=>?_
 · go_wp2_with fail;go_returns;exact HE.o _ _
 clear dZ;have hv:v2=.bool x2:=qh.o;subst hv
 cases x2 with
 | false=>
  have eQ:=dN.o;clear dN;simp only[Bool.false_eq_true,ll,lk,cD,bJ,dd] at eQ;have dN:=ae eQ;clear eQ;go_wp2_with fail;refine dj HA.o aW dN HO (av.o.trans ax.o) (fun v w3 u HE=>?_) fun x3 t3 w3 v3 iE ib bT aO=>?_
  · go_wp2_with fail;go_returns;exact HE.o _ _
  clear dN;obtain⟨a3,n3,m3,hv⟩:=(dS _).out ib.o;subst hv;go_wp2_with fail;refine dj HD.o bT iE HO ((av.o.trans ax.o).trans aO.o) (fun v w4 u HE=>?_) fun x4 t4 w4 v4 iO jc dJ cy=>?_
  · go_wp2_with fail;go_returns;exact HE.o _ _
  clear iE;obtain⟨a4,n4,m4,hv⟩:=(dS _).out jc.o;subst hv;have eQ:=iO.o;clear iO;simp only[Bool.false_eq_true,ll,lk,cD,bJ,dd] at eQ;have iO:=ae eQ;clear eQ;by_cases WU:t4.kind=12
  · skip
    have eQ:=iO.o;rw[if_pos WU] at eQ;have jG:=ae eQ;have yk:decide (t4.kind=12)=true:=by simpa using WU
    clear eQ WU iO;go_wp2_with fail;refine(HP.o t4 _ dJ.o).mono ?_;rw[yk];rintro e w5 ⟨rfl,hs⟩;have dK:Hd (Sm [c.pb,c.vb] w4 w5):=hs.of_nil;have bX:=ae (dJ.o.cI hs);clear hs yk;go_wp2_with fail;refine dj Ox.o bX jG HO ((((av.o.trans ax.o).trans aO.o).trans cy.o).trans dK.o) (fun v w6 u HE=>?_) fun x6 t6 w6 v6 oH qj eM je=>?_
    · go_wp2_with fail;go_returns;exact HE.o _ _
    clear jG;obtain⟨a6,hv⟩:=(oU n).out qj.o;subst hv;go_wp2_with fail;refine(ic.o t6 _ _ eM.o).mono ?_;rintro e wl ⟨lb,i,j,sp,rfl,cO,lC,fM⟩;go_wp2_with fail;refine(jk.o _ ⟨#[]⟩ (some ⟨lb,0,none⟩) none a1 a3 n3 m3 a4 n4 m4 a6 _ (ai _ _)).mono ?_;rintro e wn ⟨nb,ks,rfl,dC,fO,fH⟩;have HQ:=dP fO;go_wp2_with fail;go_returns;have z1:=av.o.size;have z2:=ax.o.size;have z3:=aO.o.size;have z4:=cy.o.size;have z5:=dK.o.size;have z6:=je.o.size;have zl:=cO.size;have zn:=fH;simp at zn;have y7:=cO.trans HQ.o;have y6:=je.o.trans y7.of_nil;have y5:=dK.o.trans y6;have y4:=cy.o.trans y5;have y3:=aO.o.trans y4;have y2:=ax.o.trans y3;have y1:=av.o.trans y2;exact aG (show r=.ok _ _ from oH.o.symm) y1 (vj n (mu n) dC (by omega) (lt_of_block dC) (bY fM HQ.o (by omega) lr) (.inl ⟨rfl,rfl⟩) (kp jE aD y2 (by omega)) (kp ib aW y4 (by omega)) (kp jc bT y5 (by omega)) (.inr (kp qj bX y7.of_nil (by omega)))) (eM.o.cI y7)
  · skip
    have eQ:=iO.o;rw[if_neg WU] at eQ;have jG:=ae eQ;have yk:decide (t4.kind=12)=false:=by simpa using WU
    clear eQ WU iO;go_wp2_with fail;refine(HP.o t4 _ dJ.o).mono ?_;rw[yk];rintro e w5 ⟨rfl,hs⟩;have dK:Hd (Sm [c.pb,c.vb] w4 w5):=hs.of_nil;have bX:=ae (dJ.o.cI hs);clear hs yk;have eQ:=jG.o;clear jG;simp only[Bool.false_eq_true,ll,lk,cD,bJ,dd] at eQ;have jG:=ae eQ;clear eQ;go_wp2_with fail;refine(ic.o t4 _ _ bX.o).mono ?_;rintro e wl ⟨lb,i,j,sp,rfl,cO,lC,fM⟩;go_wp2_with fail;refine(jk.o _ ⟨#[]⟩ (some ⟨lb,0,none⟩) none a1 a3 n3 m3 a4 n4 m4 none _ (ai _ _)).mono ?_;rintro e wn ⟨nb,ks,rfl,dC,fO,fH⟩;have HQ:=dP fO;go_wp2_with fail;go_returns;have z1:=av.o.size;have z2:=ax.o.size;have z3:=aO.o.size;have z4:=cy.o.size;have z5:=dK.o.size;have zl:=cO.size;have zn:=fH;simp at zn;have y6:=cO.trans HQ.o;have y5:=dK.o.trans y6.of_nil;have y4:=cy.o.trans y5;have y3:=aO.o.trans y4;have y2:=ax.o.trans y3;have y1:=av.o.trans y2
    exact aG (show r=.ok _ _ from jG.o.symm) y1 (vj n (mu n) dC (by omega) (lt_of_block dC) (bY fM HQ.o (by omega) lr) (.inl ⟨rfl,rfl⟩) (kp jE aD y2 (by omega)) (kp ib aW y4 (by omega)) (kp jc bT y5 (by omega)) (.inl ⟨rfl,rfl⟩)) (bX.o.cI y6)
 | true=>
  have eQ:=dN.o;clear dN;simp only[Bool.false_eq_true,ll,lk,cD,bJ,dd] at eQ;have dN:=ae eQ;clear eQ;go_wp2_with fail;refine dj HN.o aW dN HO (av.o.trans ax.o) (fun v w3 u HE=>?_) fun x3 t3 w3 v3 iE ib bT aO=>?_
  · go_wp2_with fail;go_returns;exact HE.o _ _
  clear dN;obtain⟨a3,hv⟩:=ef.out ib.o;subst hv;go_wp2_with fail;refine dj HA.o bT iE HO ((av.o.trans ax.o).trans aO.o) (fun v w4 u HE=>?_) fun x4 t4 w4 v4 iO jc dJ cy=>?_
  · go_wp2_with fail;go_returns;exact HE.o _ _
  clear iE;obtain⟨a4,n4,m4,hv⟩:=(dS _).out jc.o;subst hv;go_wp2_with fail;refine dj HD.o dJ iO HO (((av.o.trans ax.o).trans aO.o).trans cy.o) (fun v w5 u HE=>?_) fun x5 t5 w5 v5 jG oG bX dK=>?_
  · go_wp2_with fail;go_returns;exact HE.o _ _
  clear iO;obtain⟨a5,n5,m5,hv⟩:=(dS _).out oG.o;subst hv;have eQ:=jG.o;clear jG;simp only[Bool.false_eq_true,ll,lk,cD,bJ,dd] at eQ;have jG:=ae eQ;clear eQ;by_cases WV:t5.kind=12
  · skip
    have eQ:=jG.o;rw[if_pos WV] at eQ;have oH:=ae eQ;have yk:decide (t5.kind=12)=true:=by simpa using WV
    clear eQ WV jG;go_wp2_with fail;refine(HP.o t5 _ bX.o).mono ?_;rw[yk];rintro e w6 ⟨rfl,hs⟩;have je:Hd (Sm [c.pb,c.vb] w5 w6):=hs.of_nil;have eM:=ae (bX.o.cI hs);clear hs yk;go_wp2_with fail;refine dj Ox.o eM oH HO (((((av.o.trans ax.o).trans aO.o).trans cy.o).trans dK.o).trans je.o) (fun v w7 u HE=>?_) fun x7 t7 w7 v7 MP I8 rk EG=>?_
    · go_wp2_with fail;go_returns;exact HE.o _ _
    clear oH;obtain⟨a7,hv⟩:=(oU n).out I8.o;subst hv;go_wp2_with fail;refine(ic.o t7 _ _ rk.o).mono ?_;rintro e wl ⟨lb,i,j,sp,rfl,cO,lC,fM⟩;go_wp2_with fail;refine(jk.o _ ⟨#[]⟩ (some ⟨lb,0,none⟩) a1 a3 a4 n4 m4 a5 n5 m5 a7 _ (ai _ _)).mono ?_;rintro e wn ⟨nb,ks,rfl,dC,fO,fH⟩;have HQ:=dP fO;go_wp2_with fail;go_returns;have z1:=av.o.size;have z2:=ax.o.size;have z3:=aO.o.size;have z4:=cy.o.size;have z5:=dK.o.size;have z6:=je.o.size;have z7:=EG.o.size;have zl:=cO.size;have zn:=fH;simp at zn;have y8:=cO.trans HQ.o;have y7:=EG.o.trans y8.of_nil;have y6:=je.o.trans y7;have y5:=dK.o.trans y6;have y4:=cy.o.trans y5;have y3:=aO.o.trans y4;have y2:=ax.o.trans y3;have y1:=av.o.trans y2;exact aG (show r=.ok _ _ from MP.o.symm) y1 (vj n (mu n) dC (by omega) (lt_of_block dC) (bY fM HQ.o (by omega) lr) (.inr (kp jE aD y2 (by omega))) (kp ib aW y4 (by omega)) (kp jc bT y5 (by omega)) (kp oG dJ y6 (by omega)) (.inr (kp I8 eM y8.of_nil (by omega)))) (rk.o.cI y8)
  · skip
    have eQ:=jG.o;rw[if_neg WV] at eQ;have oH:=ae eQ;have yk:decide (t5.kind=12)=false:=by simpa using WV
    clear eQ WV jG;go_wp2_with fail;refine(HP.o t5 _ bX.o).mono ?_;rw[yk];rintro e w6 ⟨rfl,hs⟩;have je:Hd (Sm [c.pb,c.vb] w5 w6):=hs.of_nil;have eM:=ae (bX.o.cI hs);clear hs yk;have eQ:=oH.o;clear oH;simp only[Bool.false_eq_true,ll,lk,cD,bJ,dd] at eQ;have oH:=ae eQ;clear eQ;go_wp2_with fail;refine(ic.o t5 _ _ eM.o).mono ?_;rintro e wl ⟨lb,i,j,sp,rfl,cO,lC,fM⟩;go_wp2_with fail;refine(jk.o _ ⟨#[]⟩ (some ⟨lb,0,none⟩) a1 a3 a4 n4 m4 a5 n5 m5 none _ (ai _ _)).mono ?_;rintro e wn ⟨nb,ks,rfl,dC,fO,fH⟩;have HQ:=dP fO;go_wp2_with fail;go_returns;have z1:=av.o.size;have z2:=ax.o.size;have z3:=aO.o.size;have z4:=cy.o.size;have z5:=dK.o.size;have z6:=je.o.size;have zl:=cO.size;have zn:=fH;simp at zn;have y7:=cO.trans HQ.o;have y6:=je.o.trans y7.of_nil;have y5:=dK.o.trans y6;have y4:=cy.o.trans y5;have y3:=aO.o.trans y4;have y2:=ax.o.trans y3;have y1:=av.o.trans y2;exact aG (show r=.ok _ _ from oH.o.symm) y1 (vj n (mu n) dC (by omega) (lt_of_block dC) (bY fM HQ.o (by omega) lr) (.inr (kp jE aD y2 (by omega))) (kp ib aW y4 (by omega)) (kp jc bT y5 (by omega)) (kp oG dJ y6 (by omega)) (.inl ⟨rfl,rfl⟩)) (eM.o.cI y7)
end Go.Proofs.YtnpjmhodfdgloaaGreatDoor
