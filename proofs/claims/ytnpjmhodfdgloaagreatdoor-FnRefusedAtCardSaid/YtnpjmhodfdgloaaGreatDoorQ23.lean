/- Part of the proof. -/
import Derived.Test.YtnpjmhodfdgloaaGreatDoorQ21
set_option linter.unusedVariables false
set_option linter.unusedSimpArgs false
namespace Go.Proofs.YtnpjmhodfdgloaaGreatDoor
set_option maxRecDepth 100000
set_option maxHeartbeats 32000000
open Go.RowKit
attribute [local go_sem ↓] Go.wp_at_zero Go.wp_at_succ
theorem sG{w0 wa w':World}{p:Nat}(h:Sm [p] wa w')(h0:Sm [] w0 wa)(hp:w0.heap.size≤p):Sm [] w0 w':=
 h.forget h0 (fun q hq=>by simp at hq;subst hq;exact .inr hp)
theorem dP{w0 w':World}{o:Obj}(h:Sm [w0.heap.size] (w0.alloc o) w'):Hd (Sm [] w0 w'):=sG h (sr.alloc _) lr
theorem cd(c:Cx)(hL:dg c):aS c 78 #[.pointer (some ⟨c.pb,0,none⟩)] (dQ (rd c.s)) eW:=by
 have HE:=ae (eB c hL 15);have ic:=ae (vk c);have jk:=ae Ji;clear hL;intro t w (Rv:Hd _) ho;obtain⟨r,hr⟩:∃r,dQ (rd c.s) t=r:=⟨_,rfl⟩;rw[hr] at ho ⊢;unfold dQ at hr;have HR:=ae hr;have HO:=ae ho;clear ho hr;go_enter Tryz.func78,Tryz.ntmps78;go_wp2_with fail;refine(HE.o t _ Rv.o (aH HR HO)).mono ?_;intro e w1 h1;rcases h1.cases (aH HR HO) with⟨x1,t1,hx,rfl,cA,av⟩|⟨p,u,v,hx,rfl,HU,av⟩
 rotate_left
 · have fv:=ae (bc HR hx);clear hx h1;unfold kg;go_wp2_with fail;go_returns;exact aA fv.o sr (HU.o.sm ((Sm.refl [] _).alloc _) (by simp) lr) (av.o.alloc _)
 · have dZ:Hd (r=.ok x1.val t1):=(bK HR hx).out.symm;clear hx h1 HR;unfold kg;have b1:(w1.alloc (aU x1)).cell? ⟨w1.heap.size,1,none⟩=some (.int .i64 (x1.start:Int)):=cell_of (ai _ _) rfl;have b3:(w1.alloc (aU x1)).cell? ⟨w1.heap.size,3,none⟩=some (.string x1.val):=cell_of (ai _ _) rfl;go_wp2_with fail
   go_region_held3 (fun W=>W.cell? ⟨w1.heap.size,1,none⟩=some (.int .i64 (x1.start:Int))∧W.cell? ⟨w1.heap.size,3,none⟩=some (.string x1.val)) (go_keep)
    (first
     | (
      go_at_call 44;refine(ic.o t1 _ _ (cA.o.cI ?_)).mono ?_;(repeat(first| exact sr|refine Sm.alloc ?_ _|refine Sm.drew ?_|refine Sm.drewN ?_ _));rintro e w2 ⟨lb,i,j,sp,rfl,cT,lC,fM⟩
      have js:=(show Sm [] (w1.alloc (aU x1)) _ from(by(repeat(first| exact sr|refine Sm.alloc ?_ _|refine Sm.drew ?_|refine Sm.drewN ?_ _)))).trans cT
      have q1:=js.keeps (b1:(w1.alloc (aU x1)).cell? _=_) (by simp);have q3:=js.keeps (b3:(w1.alloc (aU x1)).cell? _=_) (by simp))
     | (
      go_at_call 105;refine(jk.o _ ⟨#[]⟩ (some ⟨lb,0,none⟩) x1.val _ ?_).mono ?_;exact ai _ _;rintro e w3 ⟨nb,ks,rfl,dC,s9,fH⟩
      have mE:Sm [] w2 w3:=sG s9 (by(repeat(first| exact sr|refine Sm.alloc ?_ _|refine Sm.drew ?_|refine Sm.drewN ?_ _))) lr
      have u1:=mE.keeps q1 (by simp);have u3:=mE.keeps q3 (by simp)))
   all_goals go_wp2_with fail;go_returns;have g1:=av.o.size;have g2:=js.size;have g3:=fH;have g4:=lC;simp at g2 g3 g4;exact aG dZ.o ((av.o.alloc (aU x1)).trans (js.trans mE).of_nil) (Qf dC (by omega) (lt_of_block dC) (bY fM mE (by omega) lr)) (cA.o.cI (((Sm.refl [] w1).alloc (aU x1)).trans (js.trans mE)))
def Bg(L:Nat→LR):PM ByteArray:=dQ L>>=pure
theorem KV(L:Nat→LR):Bg L=dQ L:=by
 funext t
 unfold Bg;rw[aj]
 cases dQ L t<;>rfl
theorem GU(c:Cx)(hL:dg c):aS c 142 #[.pointer (some ⟨c.pb,0,none⟩)] (Bg (rd c.s)) (ot):=by
 have HN:=ae (cd c hL);have ic:=ae (vk c);have jk:=ae GH;clear hL ;refine fj fun t w r hr (HO:Hd _) h=>?_;unfold Bg at hr;have bH:=ae hr;have aD:=ae h;have c6:=h.c6;clear h hr;go_enter Tryz.func142,Tryz.ntmps142;go_wp2_with fail;refine dj HN.o aD bH HO sr (fun v w1 u HE=>?_) fun x1 t1 w1 v1 dZ jE cA av=>?_
 · go_wp2_with fail;go_returns;exact HE.o _ _
 clear bH;obtain⟨a1,hv⟩:=ef.out jE.o;subst hv;go_wp2_with fail;refine(ic.o t1 _ _ cA.o).mono ?_;rintro e wl ⟨lb,i,j,sp,rfl,cO,lC,fM⟩;go_wp2_with fail;refine(jk.o _ ⟨#[]⟩ (some ⟨lb,0,none⟩) a1 _ (ai _ _)).mono ?_;rintro e wn ⟨nb,ks,rfl,dC,fO,fH⟩;have HQ:=dP fO;go_wp2_with fail;go_returns;have z1:=av.o.size;have zl:=cO.size;have zn:=fH;simp at zn;have y2:=cO.trans HQ.o;have y1:=av.o.trans y2.of_nil;exact aG (show r=.ok _ _ from dZ.o.symm) y1 (F4 dC (by omega) (lt_of_block dC) (bY fM HQ.o (by omega) lr) (kp jE aD y2.of_nil (by omega))) (cA.o.cI y2)
theorem j5(c:Cx)(hL:dg c):aS c 142 #[.pointer (some ⟨c.pb,0,none⟩)] (dQ (rd c.s)) ot:=by have h:=GU c hL;rw[KV] at h;exact h
theorem yS(c:Cx)(hL:dg c):aS c 134 #[.pointer (some ⟨c.pb,0,none⟩)] (pf (rd c.s)) (QS):=by
 have HE:=ae (eB c hL 3);have HN:=ae (cd c hL);have ic:=ae (vk c);have jk:=ae tG;clear hL ;refine fj fun t w r hr (HO:Hd _) h=>?_;unfold pf at hr;have bH:=ae hr;have aD:=ae h;have c6:=h.c6;clear h hr;go_enter Tryz.func134,Tryz.ntmps134;go_wp2_with fail;refine lN HE.o aD bH HO sr (fun v w1 u HE=>?_) fun x1 t1 w1 dZ cA av=>?_
 · go_wp2_with fail;go_returns;exact HE.o _ _
 clear bH;go_wp2_with fail;refine dj HN.o cA dZ HO av.o (fun v w2 u HE=>?_) fun x2 t2 w2 v2 dN qh aW ax=>?_
 · go_wp2_with fail;go_returns;exact HE.o _ _
 clear dZ;obtain⟨a2,hv⟩:=ef.out qh.o;subst hv;go_wp2_with fail;refine(ic.o t2 _ _ aW.o).mono ?_;rintro e wl ⟨lb,i,j,sp,rfl,cO,lC,fM⟩;go_wp2_with fail;refine(jk.o _ ⟨#[]⟩ (some ⟨lb,0,none⟩) a2 _ (ai _ _)).mono ?_;rintro e wn ⟨nb,ks,rfl,dC,fO,fH⟩;have HQ:=dP fO;go_wp2_with fail;go_returns;have z1:=av.o.size;have z2:=ax.o.size;have zl:=cO.size;have zn:=fH;simp at zn;have y3:=cO.trans HQ.o;have y2:=ax.o.trans y3.of_nil;have y1:=av.o.trans y2;exact aG (show r=.ok _ _ from dN.o.symm) y1 (Tn dC (by omega) (lt_of_block dC) (bY fM HQ.o (by omega) lr) (kp qh cA y3.of_nil (by omega))) (aW.o.cI y3)
theorem yO(c:Cx)(hL:dg c)(n:Nat)(hV:aS c 136 #[.pointer (some ⟨c.pb,0,none⟩),.bool false] (bo (rd c.s) n false) (cH n)):aS c 186 #[.pointer (some ⟨c.pb,0,none⟩)] (kQ (rd c.s) n) (au.iface 329 (DN n)):=by
 have HN:=ae (cd c hL);have HE:=ae (eB c hL 7);have HV:=ae (hV);have ic:=ae (vk c);have jk:=ae AR;clear hL ;refine fj fun t w r hr (HO:Hd _) h=>?_;unfold kQ at hr;have bH:=ae hr;have aD:=ae h;have c6:=h.c6;clear h hr;go_enter Tryz.func186,Tryz.ntmps186;go_wp2_with fail;refine dj HN.o aD bH HO sr (fun v w1 u HE=>?_) fun x1 t1 w1 v1 dZ jE cA av=>?_
 · go_wp2_with fail;go_returns;exact HE.o _ _
 clear bH;obtain⟨a1,hv⟩:=ef.out jE.o;subst hv;go_wp2_with fail;refine lN HE.o cA dZ HO av.o (fun v w2 u HE=>?_) fun x2 t2 w2 dN aW ax=>?_
 · go_wp2_with fail;go_returns;exact HE.o _ _
 clear dZ;go_wp2_with fail;refine dj HV.o aW dN HO (av.o.trans ax.o) (fun v w3 u HE=>?_) fun x3 t3 w3 v3 iE ib bT aO=>?_
 · go_wp2_with fail;go_returns;exact HE.o _ _
 clear dN;obtain⟨WJ,u3,hv⟩:=(kv n).out ib.o;subst hv;go_wp2_with fail;refine(ic.o t3 _ _ bT.o).mono ?_;rintro e wl ⟨lb,i,j,sp,rfl,cO,lC,fM⟩;go_wp2_with fail;refine(jk.o _ ⟨#[]⟩ (some ⟨lb,0,none⟩) a1 (.iface WJ u3) _ (ai _ _) (.inr ⟨_,_,rfl⟩)).mono ?_;rintro e wn ⟨nb,ks,rfl,dC,fO,fH⟩;have HQ:=dP fO;go_wp2_with fail;go_returns;have z1:=av.o.size;have z2:=ax.o.size;have z3:=aO.o.size;have zl:=cO.size;have zn:=fH;simp at zn;have y4:=cO.trans HQ.o;have y3:=aO.o.trans y4.of_nil;have y2:=ax.o.trans y3;have y1:=av.o.trans y2;exact aG (show r=.ok _ _ from iE.o.symm) y1 ⟨_,rfl,(RO n dC (by omega) (lt_of_block dC) (bY fM HQ.o (by omega) lr) (kp jE aD y2 (by omega)) (kp ib aW y4.of_nil (by omega)))⟩ (bT.o.cI y4)
theorem er{X:List Nat}{base n:Nat}{w w':World}{e:TypeId}{v:Value}{vs:List Value}(h:w.ownsRow base e 1 v n vs)(hs:Sm X w w')(hx:∀k,k∈X→k<base):w'.ownsRow base e 1 v n vs:=by
 refine⟨h.1,?_⟩;rcases h.2 with h0|⟨g,cap,cur,h0,hb,hh,h1⟩
 · exact .inl h0
 · exact .inr ⟨g,cap,cur,h0,hb,hs.obj hh (fun hk=>by have:=hx g hk;omega),h1⟩
theorem X5{base n:Nat}{w:World}{e:TypeId}{v:Value}{vs:List Value}(h:w.ownsRow base e 1 v n vs):∃a k,v=.slice a n k:=by
 rcases h.2 with⟨rfl,h0⟩|⟨g,cap,cur,rfl,_⟩
 · subst h0;exact⟨none,0,rfl⟩
 · exact⟨_,_,rfl⟩
theorem MC(base:Nat)(w:World)(e:TypeId):w.ownsRow base e 1 (.slice none 0 0) 0 []:=⟨rfl,.inl ⟨rfl,rfl⟩⟩
theorem gb.grown{c:Cx}{t u:Tok}{row:Option Nat}{w0 w1 w':World}(h:gb c t w1)(h0:gb c u w0)(hg:w1.grownBy w' row)(hr:∀k,row=some k→w0.heap.size≤k):gb c t w':=by have hs:Sm row.toList w1 w':=sr.grown hg (fun k hk=>.inr (by simp[hk]));exact h.new h0 hs (fun k hk=>hr k (by simpa using hk))
theorem Ya:(Tryz.prog.info? 20).map (fun i=>(i.zero,i.size,i.bytes))=some (some .nilIface,1,16):=by kernel_rfl
def FJ(c:Cx)(R:au (List Nd))(item:PM (List Nd))(close:Int)(m0:Nat)(wA:World)(r':PR (List (List Nd)))(g:Nat)(v:Value)(wr:World):Prop:=
 ∃acc t' vs a k,acc.length+g≤m0∧v=.slice a acc.length k∧Hd (bj (rd c.s) item close g acc t'=r')∧Hd (gb c t' wr)∧Hd (wr.ownsRow wA.heap.size 20 1 v acc.length vs)∧Hd (bP R wA.heap.size wr v.ownBlock vs acc)∧Hd (Sm [c.pb,c.vb] wA wr)
theorem gi(c:Cx)(hL:dg c)(F:Nat)(item:PM (List Nd))(R:au (List Nd))(opn close:Int)(m:Nat)(Da:Bool)(hF:aS c F #[.pointer (some ⟨c.pb,0,none⟩)] item R)(hR:qo R)(hm:m≤1099511627776)(hC:∀(args:Array Value) (W:World),Sem.run Tryz.prog (callFunc F args) W=.ok (.enter F args) W) :
 aS c 101 #[.pointer (some ⟨c.pb,0,none⟩),.int .i64 opn,.func (.func F) #[] #[],.int .i64 close,.bool Da] (bW (rd c.s) m opn item close Da) (au.list R):=by
 have HE:=ae (eB c hL opn);have Km:=ae (od c hL close);have HF:=ae hF;have HIR:=ae hR;have HUE:Hd (∀p o k t w,gb c t w→p≤c.s.size→Calls Tryz.prog 131 #[.pointer (some ⟨c.pb,0,none⟩),.int .i64 (p:Nat),.int .i64 o,.int .i64 k] w (Ba c p w)):=wF c;have HM:=ae hm;clear hL hF hR hm;refine fj fun t w r hr (HO:Hd _) h=>?_;unfold bW at hr;have bH:=ae hr;have aD:=ae h;clear h hr;go_enter Tryz.func101,Tryz.ntmps101;go_wp2_with fail;refine(HE.o t _ aD.o (aH bH HO)).mono ?_;intro e w1 h1;rcases h1.cases (aH bH HO) with⟨x1,t1,hx,rfl,cA,av⟩|⟨p,v,u,hx,rfl,HU,av⟩
 rotate_left
 · have fv:=ae (bc bH hx);clear hx h1;unfold kg;go_wp2_with fail;go_returns;exact aA fv.o sr (HU.o.sm ((Sm.refl [] _).alloc _) (by simp) lr) (av.o.alloc _)
 have HX1:Hd (x1.start≤c.s.size):=by
  have Sj:=hx;unfold bE at Sj;have:=aD.o.tok.1;unfold Hd;split at Sj
  · cases hr:rd c.s t.stop with
    | tok u=>rw[hr] at Sj;cases Sj;exact this
    | err p=>rw[hr] at Sj;cases Sj
    | eo=>rw[hr] at Sj;cases Sj
  · cases Sj
 have dZ:=bK bH hx;clear hx h1 bH;unfold kg;have Bu:=ae (aH dZ HO);go_wp2_with fail;obtain⟨wA,Y6⟩:∃wA,wA=w1.alloc (aU x1):=⟨_,rfl⟩;have Ac:Hd (Sm [] w1 wA):=by rw[Y6];exact sr.alloc _
 have HTA:Hd (wA.cell? ⟨w1.heap.size,1,none⟩=some (.int .i64 (x1.start:Int))):=by rw[Y6];exact cell_of (ai _ _) rfl
 have Ur:Hd (gb c t1 wA):=cA.o.cI Ac.o;have HZ:Hd (c.pb<w.heap.size∧c.vb<w.heap.size∧w.heap.size≤w1.heap.size∧w1.heap.size≤wA.heap.size):=⟨aD.o.lt,aD.o.wh,av.o.size,Ac.o.size⟩;unfold aU at Y6;rw[←Y6];clear Y6;obtain⟨r',nj⟩:∃r',bj (rd c.s) item close m [] t1=r':=⟨_,rfl⟩;have dN:=ae nj;have oB:Hd (r'≠.eo):=by have:=Bu.o;rw[nj] at this;exact this
 have HK:Hd (∀l t',r'=.ok l t'→(if Da=true∧l.isEmpty=true then(qz x1.start:PM (List (List Nd))) else pure l) t'=r):=fun l t' e=>(bK dZ (nj.trans e)).out;have Ib:Hd (∀p,r'=.err p→r=.err p):=fun p e=>bc dZ (nj.trans e);clear nj Bu dZ
 go_loopg [14] m (fun g v wr=>FJ c R item close m wA r' g v wr)
 case atStart=>unfold FJ;exact⟨[],t1,[],none,0,by simp,rfl,dN,Ur,MC _ _ _,.nil,sr⟩
 case round=>
  unfold FJ at hrel;obtain⟨acc,t2,vs,a,k,hlen,rfl,HI,aW,mx,mX,ax⟩:=hrel
  obtain⟨m',rfl⟩:∃m',gk=m'+1:=by
   cases gk with
   | zero=>exact absurd HI.o.symm oB.o
   | succ m'=>exact⟨m',rfl⟩
  have px:Hd ((ft (rd c.s) close>>=fun b=>if b=true then pure acc else item>>=fun x=>bj (rd c.s) item close m' (acc++[x])) t2=r'):=HI.o;clear HI;go_wp2_with fail;refine(Km.o t2 _ aW.o (aH px oB)).mono ?_;intro e w3 h1;rcases h1.cases (aH px oB) with⟨x3,t3,v3,hx,rfl,ib,bT,aO⟩|⟨p,v,u,hx,rfl,HU,aO⟩
  rotate_left
  · have fv:=ae (Ib.o _ (bc px hx));clear hx h1;go_wp2_with fail;go_returns;exact aA fv.o ((av.o.trans Ac.o.of_nil).trans ax.o) HU.o aO.o
  have hv:v3=.bool x3:=ib.o;subst hv;have FA:=bK px hx;clear hx h1 px
  cases x3 with
  | true=>
   have Ow:Hd ((if Da=true∧acc.isEmpty=true then(qz x1.start:PM (List (List Nd))) else pure acc) t3=r):=HK.o acc t3 FA.o.symm;have tc:w3.cell? ⟨w1.heap.size,1,none⟩=some (.int .i64 (x1.start:Int)):=(ax.o.trans aO.o).keeps HTA.o (by have:=HZ.o;simp;omega);have Ae:Hd (Sm [c.pb,c.vb] w w3):=((av.o.trans Ac.o.of_nil).trans ax.o).trans aO.o
   have Hz:Hd ((au.list R).rd w.heap.size w3.heap.size w3 (.slice a acc.length k) acc):=by
    have hx:∀q,q∈[c.pb,c.vb]→q<wA.heap.size:=fun q hq=>by have:=HZ.o;simp at hq;omega
    exact(au.list R).wide (cW (er mx.o aO.o hx) (mX.o.sm aO.o hx)) (by have:=HZ.o;omega) lr
   clear FA hC;by_cases hc:Da=true∧acc.isEmpty=true
   · obtain⟨rfl,S4⟩:=hc;have ha:acc=[]:=by simpa using S4
     subst ha;have fv:Hd (r=.err x1.start):=Ow.o.symm;clear S4;go_wp2_with fail;refine(HUE.o x1.start _ _ t3 _ bT.o HX1.o).mono ?_;rintro e w5 ⟨u,rfl,(HU:Hd _),(dK:Hd _)⟩;go_wp2_with fail;go_returns;exact aA fv.o Ae.o HU.o dK.o.of_nil
   · have Xo:Hd (r=.ok acc t3):=by
      have h2:=Ow.o;rw[if_neg hc] at h2;exact h2.symm
     have hl:Hd (Da=true→((acc.length:Int)==0)=false):=fun e=>by have:acc≠[]:=fun e2=>hc ⟨e,by simp[e2]⟩;have:acc.length≠0:=fun e2=>this (List.length_eq_zero_iff.1 e2);simp;omega
     clear hc
     cases Da with
     | true=>
      have y:=hl.out rfl;go_wp2_with fail;go_returns
      exact aG Xo.o Ae.o Hz.o bT.o
     | false=>
      go_wp2_with fail;go_returns
      exact aG Xo.o Ae.o Hz.o bT.o
  | false=>
   have wJ:Hd ((item>>=fun x=>bj (rd c.s) item close m' (acc++[x])) t3=r'):=FA.o;clear FA;go_wp2_with fail;refine(HF.o t3 _ bT.o (aH wJ oB)).mono ?_;intro e w4 h1;rcases h1.cases (aH wJ oB) with⟨x4,t4,v4,hx,rfl,jc,dJ,cy⟩|⟨p,v,u,hx,rfl,HU,cy⟩
   rotate_left
   · have fv:=ae (Ib.o _ (bc wJ hx));clear hx h1;go_wp2_with fail;go_returns;exact aA fv.o (((av.o.trans Ac.o.of_nil).trans ax.o).trans aO.o) HU.o cy.o
   have vV:=bK wJ hx;obtain⟨ty,uu,hv⟩:=HIR.o.out jc.o;subst hv;have o6:∀q,q∈[c.pb,c.vb]→q<wA.heap.size:=fun q hq=>by have:=HZ.o;simp at hq;omega
   have vl:wA.heap.size≤w3.heap.size:=by have h5:=ax.o.size;have h6:=aO.o.size;omega
   have Gd:w3.heap.size≤w4.heap.size:=cy.o.size;have lT:=er mx.o aO.o o6;have how:=er lT cy.o o6;have xg:=ae (mX.o.sm aO.o o6);have xh:=ae lT;have HL:=ae vl;have MN:=ae Gd;have wL:=ae hlen;have de:(acc.length+1)*16≤140737488355328:=by have:=HM.o;omega
   clear hx h1 wJ lT;go_wp2_with (at_builtin;refine gH _ rfl _ _ _ rfl 20 _ 1 16 Tryz.underlying57 Ya rfl (by omega) (by omega) _ acc.length vs rfl how _ rfl rfl (by simp[Value.oneCell']) de (by omega) ?_);intro g dM w' aQ (HG:Hd _) bV ea;have qU:Hd (w'.ownsRow wA.heap.size 20 1 (.slice (some ⟨g,0,none⟩) (acc.length+1) dM) (acc.length+1) (vs++[.iface ty uu])):=by unfold Hd;simpa using aQ
   have bX:Hd (Value.ownBlock (.slice a acc.length k)=some g∨w4.heap.size≤g):=bV.imp id (fun e=>by omega);have iD:=ae how;clear aQ bV ea how de;go_wp2_with fail;go_roundg m'
   case measure=>omega
   case rel=>
    unfold FJ;have iq:∀q,Value.ownBlock (.slice a acc.length k)=some q→wA.heap.size≤q:=fun q hq=>(iD.o.lt q hq).1;refine⟨acc++[x4],t4,vs++[.iface ty uu],some ⟨g,0,none⟩,dM,by have:=wL.o;simp;omega,by simp,vV,?_,?_,?_,?_⟩
    · exact dJ.o.grown aD.o HG.o (fun q hq=>by have:=iq q hq;have:=HZ.o;omega)
    · have:=qU.out;unfold Hd;simpa using this
    · refine bP.push (W:=w4) xg.o MN.o (fun q q1 q2=>cy.o.block q q2 (fun hq=>by have:=o6 q hq;omega)) xh.o HG.o bX.o HL.o lr lr jc.o
    · exact((ax.o.trans aO.o).trans cy.o).grown HG.o (fun q hq=>.inl (iq q hq))
section
variable{α:Type}{R:au α}
theorem bP.add{base g lo hi:Nat}{own:Option Nat}{w w':World}{u:Value}{x:α}{vs:List Value}{xs:List α}(h:bP R base w own vs xs)(hg:w.grownBy w' own)(bV:own=some g∨w.heap.size≤g)
 (h1:base≤lo) (h2:hi≤w.heap.size) (ho:∀q,own=some q→q<lo∨hi≤q) (hu:R.rd lo hi w u x):bP R base w' (some g) (vs++[u]) (xs++[x]):=by
 refine .snoc (h.grown hg.size (fun k k0 k1 k2=>hg.block k k1 (fun e=>k2 e)) (fun q e=>?_)) ⟨lo,hi,h1,Nat.le_trans h2 hg.size,fun q e Be=>?_,R.keep hu (fun k k1 k2=>hg.block k (by omega) (fun e=>?_))⟩
 · cases e
   exact bV
 · cases e
   rcases bV with e|e
   · have:=ho g e;omega
   · omega
 · have:=ho k e.symm;omega
theorem iY{lo hi:Nat}{w:World}{a:Option Addr}{n k:Nat}{xs:List α}(h:(au.list R).rd lo hi w (.slice a n k) xs):n=xs.length∧∀i (rC:i<xs.length),∃b o u,a=some ⟨b,o,none⟩∧lo≤b∧b<hi∧w.cell? ⟨b,o+i,none⟩=some u∧R.rd lo hi w u xs[i]:=by
 obtain⟨a',k',h1,_,_,h4⟩:=h
 cases h1
 exact⟨rfl,h4⟩
end
theorem mz.sm{X:List Nat}{lo hi:Nat}{w w1 w':World}(h:mz lo hi w w1)(s:Sm X w1 w')(hh:hi≤w1.heap.size)(hx:∀k,k∈X→k<lo∨hi≤k):mz lo hi w w':=fun k a b=>(s.block k (by omega) (fun e=>by have:=hx k e;omega)).trans (h k a b)
theorem mz.grown{lo hi:Nat}{row:Option Nat}{w w1 w':World}(h:mz lo hi w w1)(hg:w1.grownBy w' row)(hh:hi≤w1.heap.size)(hx:∀k,row=some k→k<lo∨hi≤k):mz lo hi w w':=fun k a b=>(hg.block k (by omega) (fun e=>by have:=hx k e.symm;omega)).trans (h k a b)
theorem pd{w:World}{own:Option Nat}{g lo hi:Nat}(bV:own=some g∨w.heap.size≤g)(hh:hi≤w.heap.size)(ho:∀q,own=some q→q<lo∨hi≤q):∀q,(some g:Option Nat)=some q→q<lo∨hi≤q:=by
 intro q e
 cases e
 rcases bV with e|e
 · exact ho g e
 · omega
def fk(c:Cx)(t:Tok)(R:au (List Nd))(T:TypeId)(w wR:World)(lo hi:Nat)(xs:List (List Nd))(g:Nat)(v ii:Value)(wr:World):Prop:=
 ∃j vs a k,g+j=xs.length∧v=.slice a j k∧ii=.int .i64 (j:Int)∧Hd (wr.ownsRow w.heap.size T 1 v j vs)∧Hd (bP R w.heap.size wr v.ownBlock vs (xs.take j)) ∧
  Hd (∀q,Value.ownBlock v=some q→q<lo∨hi≤q)∧Hd (mz lo hi wR wr)∧Hd (gb c t wr)∧Hd (Sm [c.pb,c.vb] w wr)∧Hd (hi≤wr.heap.size)
theorem Q8{α:Type}{R:au α}{lo hi:Nat}{w:World}{a:Option Addr}{n k:Nat}{xs:List α}(h:(au.list R).rd lo hi w (.slice a n k) xs):n=xs.length:=(iY h).1
theorem gA{α:Type}{xs:List α}{j:Nat}(h:j<xs.length):xs.take (j+1)=xs.take j++[xs[j]]:=by simp
end Go.Proofs.YtnpjmhodfdgloaaGreatDoor
