/- Part of the proof. -/
import Derived.Lib.ConvBytes
import Derived.Test.YtnpjmhodfdgloaaGreatDoorQ40
import Derived.Test.YtnpjmhodfdgloaaGreatDoorQ44
set_option linter.unusedVariables false
set_option linter.unusedSimpArgs false
namespace Go.Proofs.YtnpjmhodfdgloaaGreatDoor
set_option maxRecDepth 100000
set_option maxHeartbeats 32000000
open Go.RowKit
attribute [local go_sem ↓] Go.wp_at_zero Go.wp_at_succ
theorem vH{X:List Nat}{w w':World}{k:Nat}(h:Sm X w w')(hk:w.heap.size≤k)(a b c d:Value):Sm X w ((((w'.setCell ⟨k,0,none⟩ a).setCell ⟨k,1,none⟩ b).setCell ⟨k,2,none⟩ c).setCell ⟨k,3,none⟩ d):=
 (((h.setCell (p:=⟨k,0,none⟩) (.inl hk) _).setCell (p:=⟨k,1,none⟩) (.inl hk) _).setCell (p:=⟨k,2,none⟩) (.inl hk) _).setCell (p:=⟨k,3,none⟩) (.inl hk) _
theorem F6{s:ByteArray}{p q:Nat}(h:rd s p=.err q):q=s.size+1:=by
 unfold rd kE at h;split at h
 · cases h
 split at h
 · cases h;rfl
 split at h<;>cases h
theorem TZ(hD:iR)(c:Cx):dg c:=by
 intro p pv w hc hv hp h0 ho;have OX:Hd (∀W,Sm [] w W→Calls Tryz.prog 72 #[.pointer (some ⟨c.sb,0,none⟩),.int .i64 (p:Int)] W (ij c.s (rd c.s p) W)):=fun W hw=>Ek hD c.s c.sb c.bb c.cap p W (hc.src.cI hw) (hc.Wv.sm hw (by simp)) hp ho;have HO:=ae ho;have HW:Hd (Sm [] w (w.alloc dm)):=(Sm.refl [] w).alloc _;have HV:Hd ((w.alloc dm).heap[c.vb]?=some (.cells #[.int .i64 (pv:Int)] 3 (0,0))):=HW.o.obj hv (by simp);have WN:Hd (c.vb<w.heap.size):=lt_of_block hv;have b0:∀o,(w.alloc o).cell? ⟨c.bx,0,none⟩=some (.pointer (some ⟨c.sb,0,none⟩)):=fun o=>((Sm.refl [] w).alloc o).keeps hc.box (by simp);have b1:∀o,(w.alloc o).cell? ⟨c.vb,0,none⟩=some (.int .i64 (pv:Int)):=fun o=>((Sm.refl [] w).alloc o).keeps (cell_of hv rfl) (by simp);by_cases hz:p=0
 · have Ka:=h0 hz;subst hz;subst Ka;have y:(((0:Nat):Int)==0)=true:=rfl;clear hc hv hp h0 ho;go_enter Tryz.func71,Tryz.ntmps71;go_wp2_with fail;refine(OX.o _ HW.o).mono ?_;intro e w1 h1;clear y b0 b1;have av:Hd (Sm [] w w1):=HW.o.trans h1.1;have DJ:=ae (h1.1.obj HV.o (by simp));have kc:=ae (cS h1.1);obtain⟨t0,t1,t2,t3,g0,g1,g2,g3⟩:=kc.o;have e0:∀o,(w1.alloc o).cell? ⟨w.heap.size,0,none⟩=some (.int .i64 0):=fun o=>((Sm.refl [] w1).alloc o).keeps t0 (by simp);have e1:∀o,(w1.alloc o).cell? ⟨w.heap.size,1,none⟩=some (.int .i64 0):=fun o=>((Sm.refl [] w1).alloc o).keeps t1 (by simp);have e2:∀o,(w1.alloc o).cell? ⟨w.heap.size,2,none⟩=some (.int .i64 0):=fun o=>((Sm.refl [] w1).alloc o).keeps t2 (by simp);have e3:∀o,(w1.alloc o).cell? ⟨w.heap.size,3,none⟩=some (.string ⟨#[]⟩):=fun o=>((Sm.refl [] w1).alloc o).keeps t3 (by simp);have k0:∀o,(w1.alloc o).frozen? ⟨w.heap.size,0,none⟩=false:=fun o=>(((Sm.refl [] w1).alloc o).sn (World.block_lt_of_cell? _ _ t0) (by simp)).trans g0;have k1:∀o,(w1.alloc o).frozen? ⟨w.heap.size,1,none⟩=false:=fun o=>(((Sm.refl [] w1).alloc o).sn (World.block_lt_of_cell? _ _ t1) (by simp)).trans g1;have k2:∀o,(w1.alloc o).frozen? ⟨w.heap.size,2,none⟩=false:=fun o=>(((Sm.refl [] w1).alloc o).sn (World.block_lt_of_cell? _ _ t2) (by simp)).trans g2;have k3:∀o,(w1.alloc o).frozen? ⟨w.heap.size,3,none⟩=false:=fun o=>(((Sm.refl [] w1).alloc o).sn (World.block_lt_of_cell? _ _ t3) (by simp)).trans g3;have Nw:=World.new_ne _ _ t0;have Z0n:Hd (w.heap.size<w1.heap.size):=World.block_lt_of_cell? _ _ t0;rcases h1.cases HO.o with⟨u,hr,rfl⟩|⟨q,v,pl,hr,rfl,Nr,V9,Va⟩
   · have qk:=ae hr;have v0:∀o,(w1.alloc o).cell? ⟨c.vb,0,none⟩=some (.int .i64 ((0:Nat):Int)):=fun o=>((Sm.refl [] w1).alloc o).keeps (cell_of DJ.o rfl) (by simp);have vf:∀o,(w1.alloc o).frozen? ⟨c.vb,0,none⟩=false:=fun o=>(((Sm.refl [] w1).alloc o).sn (lt_of_block DJ.o) (by simp)).trans (aF DJ.o 0);have n1:w1.heap.size≠c.vb:=fun e=>by have:=lt_of_block DJ.o;omega
     have n2:w.heap.size≠c.vb:=fun e=>by have:=WN.o;omega
     have n3:c.vb≠w.heap.size:=fun e=>n2 e.symm;have n4:c.vb≠w1.heap.size:=fun e=>n1 e.symm;clear hr h1 kc;unfold kg;go_wp2_with fail;refine bodyPost_ret (by simp[results,Tryz.results71,go_sem,e0,e1,e2,e3,n1,n2,n3,n4];try rfl) rfl ?_;refine⟨vH (((av.o.of_nil (X:=[c.vb])).alloc _).setCell (.inr (by simp)) _) lr _ _ _ _,?_⟩;rw[qk.o];refine⟨rfl,?_,Ue qk.o⟩;exact aP (aP (aP (aP (dw (((Sm.refl [] w1).alloc _).obj DJ.o (by simp)) 0 _) n3 _) n3 _) n3 _) n3 _
   · have qk:=ae hr;have HE:Hd ((lh c.s).rd (w.alloc dm).heap.size w1.heap.size w1 v pl∧pl≤c.s.size∧(xV c.s→¬mid c.s pl)):=⟨Nr,V9,Va⟩;have n3:c.vb≠w.heap.size:=fun e=>by have:=WN.o;omega
     clear hr h1 kc Nr V9 Va;unfold Ez;go_wp2_with fail;refine bodyPost_ret (by simp[results,Tryz.results71,go_sem,e0,e1,e2,e3];try rfl) rfl ?_;refine⟨vH ((av.o.of_nil (X:=[c.vb])).alloc _) lr _ _ _ _,?_⟩;rw[qk.o];obtain⟨h2,h3,h4⟩:=HE.o;refine⟨v,rfl,⟨pl,(lh c.s).wide (au.sm h2 (rZ _ _ _ _ _) lr (fun q hq=>by simp at hq ⊢;omega)) (by simp) (rZ (w:=w1) (k:=w.heap.size) _ _ _ _ _).size,h3,fun e=>?_,fun _=>h4⟩,?_⟩
     · exact absurd e (by have:=F6 qk.o;omega)
     · exact aP (aP (aP (aP (((Sm.refl [] w1).alloc _).obj DJ.o (by simp)) n3 _) n3 _) n3 _) n3 _
 · have y:((p:Int)==0)=false:=by simp;omega
   clear hc hv hp h0 ho hz;go_enter Tryz.func71,Tryz.ntmps71;go_wp2_with fail;refine(OX.o _ HW.o).mono ?_;intro e w1 h1;clear y b0 b1;have av:Hd (Sm [] w w1):=HW.o.trans h1.1;have DJ:=ae (h1.1.obj HV.o (by simp));have kc:=ae (cS h1.1);obtain⟨t0,t1,t2,t3,g0,g1,g2,g3⟩:=kc.o;have e0:∀o,(w1.alloc o).cell? ⟨w.heap.size,0,none⟩=some (.int .i64 0):=fun o=>((Sm.refl [] w1).alloc o).keeps t0 (by simp);have e1:∀o,(w1.alloc o).cell? ⟨w.heap.size,1,none⟩=some (.int .i64 0):=fun o=>((Sm.refl [] w1).alloc o).keeps t1 (by simp);have e2:∀o,(w1.alloc o).cell? ⟨w.heap.size,2,none⟩=some (.int .i64 0):=fun o=>((Sm.refl [] w1).alloc o).keeps t2 (by simp);have e3:∀o,(w1.alloc o).cell? ⟨w.heap.size,3,none⟩=some (.string ⟨#[]⟩):=fun o=>((Sm.refl [] w1).alloc o).keeps t3 (by simp);have k0:∀o,(w1.alloc o).frozen? ⟨w.heap.size,0,none⟩=false:=fun o=>(((Sm.refl [] w1).alloc o).sn (World.block_lt_of_cell? _ _ t0) (by simp)).trans g0;have k1:∀o,(w1.alloc o).frozen? ⟨w.heap.size,1,none⟩=false:=fun o=>(((Sm.refl [] w1).alloc o).sn (World.block_lt_of_cell? _ _ t1) (by simp)).trans g1;have k2:∀o,(w1.alloc o).frozen? ⟨w.heap.size,2,none⟩=false:=fun o=>(((Sm.refl [] w1).alloc o).sn (World.block_lt_of_cell? _ _ t2) (by simp)).trans g2;have k3:∀o,(w1.alloc o).frozen? ⟨w.heap.size,3,none⟩=false:=fun o=>(((Sm.refl [] w1).alloc o).sn (World.block_lt_of_cell? _ _ t3) (by simp)).trans g3;have Nw:=World.new_ne _ _ t0;have Z0n:Hd (w.heap.size<w1.heap.size):=World.block_lt_of_cell? _ _ t0;rcases h1.cases HO.o with⟨u,hr,rfl⟩|⟨q,v,pl,hr,rfl,Nr,V9,Va⟩
   · have qk:=ae hr;have v0:∀o,(w1.alloc o).cell? ⟨c.vb,0,none⟩=some (.int .i64 (pv:Int)):=fun o=>((Sm.refl [] w1).alloc o).keeps (cell_of DJ.o rfl) (by simp);have vf:∀o,(w1.alloc o).frozen? ⟨c.vb,0,none⟩=false:=fun o=>(((Sm.refl [] w1).alloc o).sn (lt_of_block DJ.o) (by simp)).trans (aF DJ.o 0);have n1:w1.heap.size≠c.vb:=fun e=>by have:=lt_of_block DJ.o;omega
     have n2:w.heap.size≠c.vb:=fun e=>by have:=WN.o;omega
     have n3:c.vb≠w.heap.size:=fun e=>n2 e.symm;have n4:c.vb≠w1.heap.size:=fun e=>n1 e.symm;clear hr h1 kc;unfold kg;go_wp2_with fail;refine bodyPost_ret (by simp[results,Tryz.results71,go_sem,e0,e1,e2,e3,n1,n2,n3,n4];try rfl) rfl ?_;refine⟨vH (((av.o.of_nil (X:=[c.vb])).alloc _).setCell (.inr (by simp)) _) lr _ _ _ _,?_⟩;rw[qk.o];refine⟨rfl,?_,Ue qk.o⟩;exact aP (aP (aP (aP (dw (((Sm.refl [] w1).alloc _).obj DJ.o (by simp)) 0 _) n3 _) n3 _) n3 _) n3 _
   · have qk:=ae hr;have HE:Hd ((lh c.s).rd (w.alloc dm).heap.size w1.heap.size w1 v pl∧pl≤c.s.size∧(xV c.s→¬mid c.s pl)):=⟨Nr,V9,Va⟩;have n3:c.vb≠w.heap.size:=fun e=>by have:=WN.o;omega
     clear hr h1 kc Nr V9 Va;unfold Ez;go_wp2_with fail;refine bodyPost_ret (by simp[results,Tryz.results71,go_sem,e0,e1,e2,e3];try rfl) rfl ?_;refine⟨vH ((av.o.of_nil (X:=[c.vb])).alloc _) lr _ _ _ _,?_⟩;rw[qk.o];obtain⟨h2,h3,h4⟩:=HE.o;refine⟨v,rfl,⟨pl,(lh c.s).wide (au.sm h2 (rZ _ _ _ _ _) lr (fun q hq=>by simp at hq ⊢;omega)) (by simp) (rZ (w:=w1) (k:=w.heap.size) _ _ _ _ _).size,h3,fun e=>?_,fun _=>h4⟩,?_⟩
     · exact absurd e (by have:=F6 qk.o;omega)
     · exact aP (aP (aP (aP (((Sm.refl [] w1).alloc _).obj DJ.o (by simp)) n3 _) n3 _) n3 _) n3 _
theorem O7{w:World}(h:qW w):2≤w.heap.size:=by have h1:=World.block_lt_of_cell? _ _ (h.2 0 (by decide)).1;simp only at h1;omega
def M1(sb:Nat)(w:World)(e:Ending)(w':World):Prop:=∃vb bx,e=.returned (.func (.func 71) #[] #[.pointer (some ⟨vb,0,none⟩),.pointer (some ⟨bx,0,none⟩)])∧Sm [] w w'∧w.heap.size≤vb∧w.heap.size≤bx∧bx≠vb∧w'.heap[vb]?=some (.cells #[.int .i64 0] 3 (0,0))∧w'.cell? ⟨bx,0,none⟩=some (.pointer (some ⟨sb,0,none⟩))
theorem Q7(sb:Nat)(w:World):Calls Tryz.prog 38 #[.pointer (some ⟨sb,0,none⟩)] w (M1 sb w):=by
 have hmf:∀(fn:Fn) (first cap:Array Value) (w:World),(Instr.makeFunc fn first cap).run Tryz.prog w=.ok (.func fn first cap) w:=fun _ _ _ _=>rfl;go_enter Tryz.func38,Tryz.ntmps38;go_wp2_with fail;go_returns;refine⟨_,_,rfl,((Sm.refl [] w).alloc _).alloc _,by omega,lr,by omega,?_,?_⟩
 · have:=ai (w.alloc (.cells #[.pointer (some ⟨sb,0,none⟩)] 54 (0,0))) (.cells #[.int .i64 0] 3 (0,0));simpa using this
 · exact((Sm.refl [] _).alloc _).keeps (cell_of (ai _ _) rfl) (by simp)
theorem Ee(p:Nat)(a:Option Addr)(n k:Nat)(w:World)(h:w.heap[p]?=some (.cells #[.slice a n k,.string ⟨#[]⟩] 72 (0,0))) :
 Calls Tryz.prog 19 #[.pointer (some ⟨p,0,none⟩)] w (fun e w'=>e=.returned (.pointer (some ⟨p,0,none⟩))∧Sm [p] w w'∧w'.cell? ⟨p,0,none⟩=some (.slice a n k)):=by
 have HO:=ae h;have h0:w.cell? ⟨p,1,none⟩=some (.string ⟨#[]⟩):=cell_of h rfl;have f0:=aF h 1;clear h;go_enter Tryz.func19,Tryz.ntmps19;go_wp2_with fail;go_ret;exact⟨rfl,(Sm.refl [p] w).setCell (.inr (by simp)) _,cell_of (dw HO.o 1 _) rfl⟩
def M3(s:ByteArray)(w:World)(e:Ending)(w':World):Prop:=Sm [] w w'∧match rd s 0 with
 | .tok t=>∃c:Cx,c.s=s∧e=.returned (.tuple #[.pointer (some ⟨c.pb,0,none⟩),.nilIface])∧gb c t w'∧w.heap.size≤c.pb∧w.heap.size≤c.vb
 | .err p=>∃v u pl,e=.returned (.tuple #[v,.iface 51 u])∧(lh s).rd w.heap.size w'.heap.size w' u pl∧Ko s p pl
 | .eo=>True
theorem CB(hD:iR)(s:ByteArray)(sb bb cap:Nat)(w:World)(dA:kj w sb bb cap s)(ht:qW w)(tE:bb<w.heap.size)(ho:rd s 0≠.eo) :
 Calls Tryz.prog 20 #[.pointer (some ⟨sb,0,none⟩),.agg #[.bool false,.bool false]] w (M3 s w):=by
 have vW:=ae dA;have HT:=ae ht;have Tr:=ae tE;have HO:=ae ho;have WM:=ae hD;have Bt:Hd (∀W,Calls Tryz.prog 38 #[.pointer (some ⟨sb,0,none⟩)] W (M1 sb W)):=Q7 sb;clear dA ht tE ho hD;go_enter Tryz.func20,Tryz.ntmps20;go_wp2_with fail;have R4:Hd (sb<w.heap.size):=World.block_lt_of_cell? _ _ vW.o.c0;have zr:Hd (2≤w.heap.size):=O7 HT.o;obtain⟨w1,zE⟩:∃w1,w1=w.alloc (.cells #[.bool false,.bool false] 48 (0,0)):=⟨_,rfl⟩;have av:Hd (Sm [] w w1):=by rw[zE];exact sr.alloc _
 have HOP:Hd (w1.heap[w.heap.size]?=some (.cells #[.bool false,.bool false] 48 (0,0))):=by rw[zE];exact ai _ _
 rw[←zE];clear zE;refine(Bt.o w1).mono ?_;rintro e w2 ⟨vb,bx,rfl,cT,WY,hbx,tX,hov,dC⟩;have ax:Hd (Sm [] w w2):=av.o.trans cT;have ZE:Hd (w2.heap[w.heap.size]?=some (.cells #[.bool false,.bool false] 48 (0,0))):=cT.obj HOP.o (by simp);have Tx:Hd (w.heap.size<w1.heap.size):=lt_of_block HOP.o;obtain⟨c0,XL⟩:∃c0:Cx,c0=⟨s,sb,bb,cap,sb+bb+vb+bx+3,vb,bx⟩:=⟨_,rfl⟩;have HC:Hd (Ctx c0 w2):=by subst XL;exact⟨vW.o.cI ax.o,dC,HT.o.sm ax.o (by simp),by have:=R4.o;have:=Tr.o;have:=zr.o;have:=Tx.o;simp;omega⟩
 have ZD:Hd (dg c0):=TZ WM.o c0;have HN:Hd (c0.s=s∧c0.vb=vb∧c0.bx=bx∧c0.sb=sb∧c0.bb=bb∧c0.cap=cap):=by subst XL;exact⟨rfl,rfl,rfl,rfl,rfl,rfl⟩
 have DJ:Hd (w1.heap.size≤vb∧w1.heap.size≤bx∧bx≠vb):=⟨WY,hbx,tX⟩;have HOV:Hd (w2.heap[c0.vb]?=some (.cells #[.int .i64 ((0:Nat):Int)] 3 (0,0))):=by subst XL;exact hov
 have K6:Hd (Calls Tryz.prog 71 #[.int .i64 0,.pointer (some ⟨vb,0,none⟩),.pointer (some ⟨bx,0,none⟩)] w2 (sd c0 0 0 w2)):=by have h:=ZD.o 0 0 w2 HC.o HOV.o (Nat.zero_le _) (fun _=>rfl) (by rw[HN.o.1];exact HO.o);rw[HN.o.2.1,HN.o.2.2.1] at h;exact h
 clear cT WY hbx tX hov dC XL;go_wp2_with fail;refine K6.o.mono ?_;intro e w3 h3;obtain⟨u,ev,rfl,hr,s9⟩:=h3.one (by rw[HN.o.1];exact HO.o);have aO:=ae s9;have n0:w.heap.size∉[c0.vb]:=fun hm=>by have:=DJ.o;have:=Tx.o;have:=HN.o.2.1;simp at hm;omega
 have Xl:Hd (w3.heap[w.heap.size]?=some (.cells #[.bool false,.bool false] 48 (0,0))):=s9.obj ZE.o n0;have o0:∀o,(w3.alloc o).cell? ⟨w.heap.size,0,none⟩=some (.bool false):=fun o=>((Sm.refl [] w3).alloc o).keeps (cell_of Xl.o rfl) (by simp);have o1:∀o,(w3.alloc o).cell? ⟨w.heap.size,1,none⟩=some (.bool false):=fun o=>((Sm.refl [] w3).alloc o).keeps (cell_of Xl.o rfl) (by simp);have HR:Hd (my c0 0 0 u ev w2 w3):=hr;have OT:Hd (Sm [] w w3):=s9.forget ax.o (fun q hq=>by have:=DJ.o;have:=Tx.o;have:=HN.o.2.1;simp at hq;omega);clear h3 hr s9 n0;have AP:=HR.o;unfold my at AP;rw[HN.o.1] at AP
 cases Al:rd s 0 with
 | tok t=>
  rw[Al] at AP;obtain⟨rfl,rfl,(HV:Hd _),(ML:Hd _)⟩:=AP;have qk:=ae Al;clear Al;go_wp2_with fail;go_returns;have om:w3.heap.size≥w.heap.size:=OT.o.size;refine⟨(OT.o.alloc _).alloc _,?_⟩;rw[qk.o];obtain⟨e1,e2,e3,e4,e5,e6⟩:=HN.o;have Rf:Sm [] w3 ((w3.alloc (aU u)).alloc (.cells #[.func (.func 71) #[] #[.pointer (some ⟨vb,0,none⟩),.pointer (some ⟨bx,0,none⟩)],.pointer (some ⟨sb,0,none⟩),.bool false,.bool false,.int .i64 0,.int .i64 u.kind,.int .i64 (u.start:Int),.int .i64 (u.stop:Int),.string u.val] 94 (0,0))):=(sr.alloc _).alloc _;have Z3R:vb<w3.heap.size:=by have h6:=lt_of_block HV.o;rw[e2] at h6;exact h6
  have XK:w3.cell? ⟨bx,0,none⟩=some (.pointer (some ⟨sb,0,none⟩)):=by have h6:=HC.o.box;rw[e3,e4] at h6;exact aO.o.keeps h6 (by have:=DJ.o;rw[e2];simp;omega)
  have Z02:=World.block_lt_of_cell? _ _ XK;simp only at Z02;refine⟨⟨s,sb,bb,cap,w3.heap.size+1,vb,bx⟩,rfl,by simp,⟨⟨vW.o.cI (OT.o.trans Rf),Rf.keeps XK (by simp),HT.o.sm (OT.o.trans Rf) (by simp),?_⟩,⟨0,?_⟩,⟨u.stop,?_,?_⟩,?_⟩,by simp;omega,by have:=DJ.o;have:=Tx.o;simp;omega⟩
  · have:=R4.o;have:=Tr.o;have:=zr.o;have:=DJ.o;have:=Tx.o;simp;omega
  · have h7:=ai (w3.alloc (aU u)) (.cells #[.func (.func 71) #[] #[.pointer (some ⟨vb,0,none⟩),.pointer (some ⟨bx,0,none⟩)],.pointer (some ⟨sb,0,none⟩),.bool false,.bool false,.int .i64 0,.int .i64 u.kind,.int .i64 (u.start:Int),.int .i64 (u.stop:Int),.string u.val] 94 (0,0));rw[show(w3.alloc (aU u)).heap.size=w3.heap.size+1 by simp] at h7;exact h7
  · have h8:=Rf.obj HV.o (by simp);rw[e2] at h8;exact h8
  · exact ML.o.2.1
  · exact ML.o
 | err q=>
  rw[Al] at AP;obtain⟨v,rfl,(HV:Hd _),WY⟩:=AP;have qk:=ae Al;clear Al WY;go_wp2_with fail;go_returns;refine⟨(OT.o.alloc _).alloc _,?_⟩;rw[qk.o];obtain⟨pl,h1,h2⟩:=HV.o;rw[HN.o.1] at h1 h2
  exact⟨_,v,pl,rfl,(lh s).wide (au.sm h1 (((Sm.refl [] w3).alloc _).alloc _) lr (by simp)) ax.o.size (((Sm.refl [] w3).alloc _).alloc _).size,h2⟩
 | eo=>exact absurd Al HO.o
theorem Qw(w:World)(e:TypeId)(s:ByteArray):Sm [] w (Lib.bytesWorld w e s):=by
 refine⟨?_,?_,?_,by rw[Lib.bytesWorld_size];omega,fun k hk _=>Lib.bytesWorld_at_old w e s k hk⟩ <;>
 · unfold Lib.bytesWorld World.freeze;split<;>rfl
theorem Pb(w:World)(e:TypeId)(s:ByteArray):ji (Lib.bytesWorld w e s) w.heap.size s:=by
 intro i hi;rw[Lib.bytesWorld_cell w e s i hi]
 have h1:s.data.toList.getD i 0=s[i]:=by
  have h2:i<s.data.toList.length:=by simpa using hi
  rw[List.getD_eq_getElem?_getD,List.getElem?_eq_getElem h2]
  rfl
 rw[h1,fi hi]
def whole(s:ByteArray):PR (List Nd):=match rd s 0 with
 | .tok t=>iX (rd s) (s.size+3) t
 | .err p=>.err p
 | .eo=>.eo
theorem Wt(W:World)(u:Value):(Instr.typeAssert (.iface 9 u) 20 54 true).run Tryz.prog W=.ok (.tuple #[.pointer none,.bool false]) W:=by kernel_rfl
theorem Wu(W:World)(u:Value):(Instr.typeAssert (.iface 9 u) 20 9 true).run Tryz.prog W=.ok (.tuple #[u,.bool true]) W:=by kernel_rfl
def EI(s:ByteArray)(w:World)(e:Ending)(w':World):Prop:=Sm [] w w'∧match whole s with
 | .ok x t=>∃v,e=.returned (.tuple #[v,.nilIface])∧(UU (s.size+3)).rd w.heap.size w'.heap.size w' v x
 | .err p=>∃v u pl,e=.returned (.tuple #[v,.iface 51 u])∧(lh s).rd w.heap.size w'.heap.size w' u pl∧Ko s p pl
 | .eo=>True
theorem NU(hD:iR)(s:ByteArray)(w:World)(ht:qW w)(hs:s.size≤1000000)(ho:whole s≠.eo) :
 Calls Tryz.prog 14 #[.agg #[.iface 9 (.string s),.bool false,.bool false]] w (EI s w):=by
 have HT:=ae ht;have HO:=ae ho;have WM:=ae hD;have wM:=ae hs;have Kb:=Wt;have Z0F:=Wu;have IV:∀W:World,Sem.run Tryz.prog (convert 9 70 (.string s)) W=.ok (.slice (some ⟨W.heap.size,0,none⟩) s.size (grownCap W s.size 0 5)) (Lib.bytesWorld W 5 s):=fun W=>Lib.run_convert_string_bytes W _ _ _ s Tryz.underlying9 Tryz.underlying70 Tryz.underlying5;clear ht ho hD;go_enter Tryz.func14,Tryz.ntmps14;go_wp2_with fail;obtain⟨W1,AK⟩:∃W1,W1=w.alloc (.cells #[.iface 9 (.string s),.bool false,.bool false] 50 (0,0)):=⟨_,rfl⟩;have av:Hd (Sm [] w W1):=by rw[AK];exact sr.alloc _
 have WO:Hd (W1.heap[w.heap.size]?=some (.cells #[.iface 9 (.string s),.bool false,.bool false] 50 (0,0))):=by rw[AK];exact ai _ _
 have ZP:Hd (W1.heap.size=w.heap.size+1):=by unfold Hd;rw[AK];simp
 rw[←AK,←ZP.o];clear AK;obtain⟨cp,Pg⟩:∃cp,cp=grownCap W1 s.size 0 5:=⟨_,rfl⟩;have HCP:Hd (s.size≤cp):=by rw[Pg];exact grownCap_ge _ _ _ _
 obtain⟨W2,ni⟩:∃W2,W2=Lib.bytesWorld W1 5 s:=⟨_,rfl⟩;have ax:Hd (Sm [] W1 W2):=by rw[ni];exact Qw _ _ _
 have Rw:Hd (ji W2 W1.heap.size s):=by rw[ni];exact Pb _ _ _
 have WR:Hd (W2.heap.size=W1.heap.size+1):=by unfold Hd;rw[ni];exact Lib.bytesWorld_size _ _ _
 rw[←ni,←Pg];clear ni Pg IV Kb Z0F;obtain⟨W3,YV⟩:∃W3,W3=W2.alloc (.cells #[.slice (some ⟨W1.heap.size,0,none⟩) s.size cp,.string ⟨#[]⟩] 72 (0,0)):=⟨_,rfl⟩;have aO:Hd (Sm [] W2 W3):=by rw[YV];exact sr.alloc _
 have HO3:Hd (W3.heap[W2.heap.size]?=some (.cells #[.slice (some ⟨W1.heap.size,0,none⟩) s.size cp,.string ⟨#[]⟩] 72 (0,0))):=by rw[YV];exact ai _ _
 rw[←YV];clear YV;refine(Ee _ _ _ _ _ HO3.o).mono ?_;rintro e w4 ⟨rfl,vZ,R8⟩;have R2:Hd (Sm [] w w4):=vZ.forget ((av.o.trans ax.o).trans aO.o) (fun q hq=>by have:=ZP.o;have:=WR.o;simp at hq;omega);have HO4:Hd (w4.heap[w.heap.size]?=some (.cells #[.iface 9 (.string s),.bool false,.bool false] 50 (0,0))):=vZ.obj ((ax.o.trans aO.o).obj WO.o (by simp)) (by have:=ZP.o;have:=WR.o;simp;omega);have vW:Hd (kj w4 W2.heap.size W1.heap.size cp s):=⟨R8,HCP.o,(Rw.o.sm aO.o (by simp)).sm vZ (by have:=WR.o;simp;omega),by have:=wM.o;omega⟩;have HT4:Hd (qW w4):=HT.o.sm R2.o (by simp);have Tr:Hd (W1.heap.size<w4.heap.size):=by have h1:=vZ.size;have h2:=aO.o.size;have h3:=WR.o;unfold Hd;omega
 have oB:Hd (rd s 0≠.eo):=fun e=>HO.o (by unfold whole;rw[e]);have HMK:Hd (Calls Tryz.prog 20 #[.pointer (some ⟨W2.heap.size,0,none⟩),.agg #[.bool false,.bool false]] w4 (M3 s w4)):=CB WM.o s _ _ _ w4 vW.o HT4.o Tr.o oB.o;have p0:w4.cell? ⟨w.heap.size,1,none⟩=some (.bool false):=cell_of HO4.o rfl;have p1:w4.cell? ⟨w.heap.size,2,none⟩=some (.bool false):=cell_of HO4.o rfl;clear vZ R8;go_wp2_with fail;refine HMK.o.mono ?_;rintro e w5 ⟨(dK:Hd _),h5⟩;clear p0 p1
 cases Al:rd s 0 with
 | tok t=>
  rw[Al] at h5;obtain⟨c,hcs,rfl,(Rv:Hd _),hpb,WY⟩:=h5;have HPV:Hd (w.heap.size≤c.pb∧w.heap.size≤c.vb):=by have:=R2.o.size;unfold Hd;omega
  have Ty:Hd (whole s=iX (rd c.s) (s.size+3) t):=by unfold Hd whole;rw[Al,hcs]
  have HCS:=ae hcs;have Ay:Hd (iX (rd c.s) (s.size+3) t≠.eo):=by unfold Hd;rw[←Ty.o];exact HO.o
  have ZF:=ae (yP c (TZ WM.o c) (s.size+3) (by have:=wM.o;omega));clear Al hpb WY hcs;go_wp2_with fail;refine(ZF.o t _ Rv.o Ay.o).mono ?_;intro e w6 h6;rcases h6.cases Ay.o with⟨x6,t6,v6,hx,rfl,qj,eM,je⟩|⟨p,v,u,hx,rfl,HU,je⟩
  · have HX:=ae (Ty.o.trans hx);have HF:Hd (Sm [] w w6):=je.o.forget (R2.o.trans dK.o) (fun q hq=>by have:=HPV.o;simp at hq;omega);clear hx h6;go_wp2_with fail;go_returns;refine⟨HF.o,?_⟩;rw[HX.o];exact⟨_,rfl,au.wide _ qj.o (R2.o.trans dK.o).size lr⟩
  · have HX:=ae (Ty.o.trans hx);have HF:Hd (Sm [] w w6):=je.o.forget (R2.o.trans dK.o) (fun q hq=>by have:=HPV.o;simp at hq;omega);clear hx h6;go_wp2_with fail;go_returns;refine⟨HF.o,?_⟩;rw[HX.o];obtain⟨pl,h1,h2⟩:=HU.o;rw[HCS.o] at h1 h2
    exact⟨_,u,pl,rfl,(lh s).wide h1 (R2.o.trans dK.o).size lr,h2⟩
 | err p=>
  rw[Al] at h5;obtain⟨v,u,pl,rfl,h6,h7⟩:=h5;have Ty:Hd (whole s=.err p):=by unfold Hd whole;rw[Al]
  have H67:Hd ((lh s).rd w4.heap.size w5.heap.size w5 u pl∧Ko s p pl):=⟨h6,h7⟩;clear Al h6 h7;go_wp2_with fail;go_returns;refine⟨R2.o.trans dK.o,?_⟩;rw[Ty.o]
  exact⟨_,u,pl,rfl,(lh s).wide H67.o.1 R2.o.size lr,H67.o.2⟩
 | eo=>exact absurd Al oB.o
theorem Wn(W:World)(u:Value):(Instr.typeAssert (.iface 51 u) 44 51 true).run Tryz.prog W=.ok (.tuple #[u,.bool true]) W:=by kernel_rfl
def qx(s:ByteArray)(w:World)(e:Ending)(w':World):Prop:=Sm [] w w'∧match whole s with
 | .ok x t=>e=.returned (.tuple #[.int .i64 0,.int .i64 0,.bool false])
 | .err p=>∃pl,e=.returned (.tuple #[.int .i64 (loc s pl).1,.int .i64 (loc s pl).2,.bool true])∧Ko s p pl
 | .eo=>True
theorem oq(hD:iR)(s:ByteArray)(w:World)(ht:qW w)(hs:s.size≤1000000)(ho:whole s≠.eo) :
 Calls Tryz.prog 7 #[.string s] w (qx s w):=by
 have HP:Hd (Calls Tryz.prog 14 #[.agg #[.iface 9 (.string s),.bool false,.bool false]] w (EI s w)):=NU hD s w ht hs ho;have HO:=ae ho;have Kb:=Wn;clear ht ho hD hs;go_enter Tryz.func7,Tryz.ntmps7;go_wp2_with fail;refine HP.o.mono ?_;rintro e w1 ⟨(av:Hd _),h1⟩
 cases hw:whole s with
 | ok x t=>
  rw[hw] at h1;obtain⟨v,rfl,_⟩:=h1;have HW:=ae hw;clear hw;go_wp2_with fail;go_returns;refine⟨av.o,?_⟩;rw[HW.o]
  rfl
 | err p=>
  rw[hw] at h1;obtain⟨v,u,pl,rfl,⟨eb,lb,lc,rfl,_,_,_,_,h2,h3,h4⟩,(ZG:Hd _)⟩:=h1;have HW:=ae hw;generalize hl:loc s pl=l at h3 h4;obtain⟨l1,l2⟩:=l;have HL:=ae hl;clear hw hl;go_wp2_with fail;go_quiet (fail);go_wp2_with fail;go_returns;refine⟨av.o.drewN _,?_⟩;rw[HW.o]
  exact⟨pl,by simp[HL.o],ZG.o⟩
 | eo=>exact absurd hw HO.o
end Go.Proofs.YtnpjmhodfdgloaaGreatDoor
