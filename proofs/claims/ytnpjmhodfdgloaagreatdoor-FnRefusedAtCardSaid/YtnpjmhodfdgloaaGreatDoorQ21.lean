/- Part of the proof. -/
import Derived.Test.YtnpjmhodfdgloaaGreatDoorQ20
set_option linter.unusedVariables false
set_option linter.unusedSimpArgs false
namespace Go.Proofs.YtnpjmhodfdgloaaGreatDoor
set_option maxRecDepth 100000
set_option maxHeartbeats 32000000
open Go.RowKit
attribute [local go_sem ↓] Go.wp_at_zero Go.wp_at_succ
theorem dO(c:Cx)(hL:dg c)(v:ByteArray):P2 c 140 #[.pointer (some ⟨c.pb,0,none⟩),.string v] (dt (rd c.s) v):=by
 intro t w h ho;have c5:=h.c5;have c6:=h.c6;have c7:=h.c7;have c8:=h.c8;have e5:∀o,(w.alloc o).cell? ⟨c.pb,5,none⟩=some (.int .i64 t.kind):=fun o=>((Sm.refl [] w).alloc o).keeps c5 (by simp);have e6:∀o,(w.alloc o).cell? ⟨c.pb,6,none⟩=some (.int .i64 (t.start:Int)):=fun o=>((Sm.refl [] w).alloc o).keeps c6 (by simp);have e7:∀o,(w.alloc o).cell? ⟨c.pb,7,none⟩=some (.int .i64 (t.stop:Int)):=fun o=>((Sm.refl [] w).alloc o).keeps c7 (by simp);have e8:∀o,(w.alloc o).cell? ⟨c.pb,8,none⟩=some (.string t.val):=fun o=>((Sm.refl [] w).alloc o).keeps c8 (by simp);have HH:=ae h;by_cases hk:t.kind=15∧t.val=v
 · have HE:Hd (dt (rd c.s) v t=(rd c.s t.stop).go.bind fun _=>(pure t:PM Tok)):=by unfold Hd dt;rw[if_pos hk]
   have HO:Hd (rd c.s t.stop≠.eo):=fun e=>ho (by rw[HE.o,e];rfl);have HA:Hd (∀W,Sm [] w W→Calls Tryz.prog 73 #[.pointer (some ⟨c.pb,0,none⟩)] W (oF c t W)):=fun W hw=>jf c hL t W (h.cI hw) HO.o;have y:(t.kind==15)=true:=by simpa using hk.1
   have y2:(t.val.toList==v.toList)=true:=by rw[zt];exact decide_eq_true hk.2
   clear h ho hL hk c5 c6 c7 c8;go_enter Tryz.func140,Tryz.ntmps140;go_upto_region 3 with fail
   clear e5 e6 e7 e8 y;obtain⟨W2,ni⟩:∃W2,W2=(w.alloc dm).alloc (aU t):=⟨_,rfl⟩;have ax:Hd (Sm [] w W2):=by rw[ni];exact(sr.alloc _).alloc _
   have wM:Hd (W2.heap.size=w.heap.size+2):=by unfold Hd;rw[ni];simp
   have Uq:Hd (W2.heap[w.heap.size]?=some dm):=ae (by rw[ni];exact((Sm.refl [] _).alloc _).obj (ai w dm) (by simp));have hB:W2.heap[w.heap.size+1]?=some (aU t):=by rw[ni];have:=ai (w.alloc dm) (aU t);simpa using this
   have HN:Hd (c.pb<w.heap.size∧c.vb<w.heap.size):=⟨HH.o.lt,HH.o.wh⟩;unfold aU dm at ni;rw[←ni];clear ni;have b0:W2.cell? ⟨w.heap.size+1,0,none⟩=some (.int .i64 t.kind):=cell_of hB rfl;have b1:W2.cell? ⟨w.heap.size+1,1,none⟩=some (.int .i64 (t.start:Int)):=cell_of hB rfl;have b2:W2.cell? ⟨w.heap.size+1,2,none⟩=some (.int .i64 (t.stop:Int)):=cell_of hB rfl;have b3:W2.cell? ⟨w.heap.size+1,3,none⟩=some (.string t.val):=cell_of hB rfl;have HB:=ae hB;clear hB
   go_region_held3 (fun W=>W.cell? ⟨w.heap.size+1,0,none⟩=some (.int .i64 t.kind)∧W.cell? ⟨w.heap.size+1,1,none⟩=some (.int .i64 (t.start:Int))∧W.cell? ⟨w.heap.size+1,2,none⟩=some (.int .i64 (t.stop:Int))∧W.cell? ⟨w.heap.size+1,3,none⟩=some (.string t.val)) (go_keep)
    (first
     | (
      go_at_call 73;refine(HA.o _ ?_).mono ?_;refine ax.o.trans ?_;(repeat(first| exact sr|refine Sm.alloc ?_ _|refine Sm.drew ?_|refine Sm.drewN ?_ _));intro e w2 h2;obtain⟨ev,rfl,hr,hs⟩:=h2.one HO.o;clear h2
      have hq:=(Sm.of_nil (X:=[c.pb,c.vb]) (a:=W2) (by(repeat(first| exact sr|refine Sm.alloc ?_ _|refine Sm.drew ?_|refine Sm.drewN ?_ _)))).trans hs;have hn:∀j,w.heap.size≤j→j∉[c.pb,c.vb]:=(fun j hj hm=>by have:=HN.o;simp at hm;omega);have q0:=hq.keeps b0 (hn _ (by simp));have q1:=hq.keeps b1 (hn _ (by simp));have q2:=hq.keeps b2 (hn _ (by simp));have q3:=hq.keeps b3 (hn _ (by simp));have hz:=hq.obj Uq.o (hn _ lr);have z0:=cell_of hz (i:=0) rfl;have z1:=cell_of hz (i:=1) rfl;have z2:=cell_of hz (i:=2) rfl;have z3:=cell_of hz (i:=3) rfl
      have r0:=aF hz 0;have r1:=aF hz 1;have r2:=aF hz 2;have r3:=aF hz 3))
   all_goals go_wp2_with fail;refine bodyPost_ret (by simp[results,Tryz.results140,go_sem,z0,z1,z2,z3];try rfl) rfl ?_;rw[HE.o];exact Iq hr.out (ax.o.trans (by(repeat(first| exact sr|refine Sm.alloc ?_ _|refine Sm.drew ?_|refine Sm.drewN ?_ _)))) hs HH.o (pS _ _ _ _) (fun j hj=>by simp at hj;omega) (fun j hj=>by have:=wM.o;simp at hj ⊢;omega)
 · have HE:Hd (dt (rd c.s) v t=.err t.start):=by unfold Hd dt;rw[if_neg hk]
   have R3:Hd (∀d W,Sm [] w W→Calls Tryz.prog 84 #[.pointer (some ⟨c.sb,0,none⟩),.int .i64 (t.start:Int),.string d] W (kL c.s t.start W)):=fun d W hw=>dD c.s c.sb c.bb c.cap t.start d W (h.ctx.src.cI hw) (by have:=h.ctx.src.small;have:=h.tok.1;omega);have R5:=ae h.tok.1
   have hy:(t.kind==15)=false∨((t.kind==15)=true∧(t.val.toList==v.toList)=false):=by
    by_cases h1:t.kind=15
    · exact .inr ⟨by simpa using h1,by rw[zt];exact decide_eq_false (fun h2=>hk ⟨h1,h2⟩)⟩
    · exact .inl (by simpa using h1)
   have c1:=h.c1;clear h ho hL hk c5 c6 c7 c8;rcases hy with y|⟨y,y2⟩
   all_goals
    go_enter Tryz.func140,Tryz.ntmps140;go_upto_region 5 with fail
    clear e5 e6 e7 e8 y;obtain⟨W2,ni⟩:∃W2,W2=(w.alloc dm).alloc (aU t):=⟨_,rfl⟩;have ax:Hd (Sm [] w W2):=by rw[ni];exact(sr.alloc _).alloc _
    have wM:Hd (W2.heap.size=w.heap.size+2):=by unfold Hd;rw[ni];simp
    have Uq:Hd (W2.heap[w.heap.size]?=some dm):=ae (by rw[ni];exact((Sm.refl [] _).alloc _).obj (ai w dm) (by simp));have hB:W2.heap[w.heap.size+1]?=some (aU t):=by rw[ni];have:=ai (w.alloc dm) (aU t);simpa using this
    have d1:W2.cell? ⟨c.pb,1,none⟩=some (.pointer (some ⟨c.sb,0,none⟩)):=ax.o.keeps c1 (by simp);have Nw:=World.new_ne _ _ c1;unfold aU dm at ni;rw[←ni];clear ni c1;have b0:W2.cell? ⟨w.heap.size+1,0,none⟩=some (.int .i64 t.kind):=cell_of hB rfl;have b1:W2.cell? ⟨w.heap.size+1,1,none⟩=some (.int .i64 (t.start:Int)):=cell_of hB rfl;have b2:W2.cell? ⟨w.heap.size+1,2,none⟩=some (.int .i64 (t.stop:Int)):=cell_of hB rfl;have b3:W2.cell? ⟨w.heap.size+1,3,none⟩=some (.string t.val):=cell_of hB rfl;clear hB
    go_region_held3 (fun W=>W.cell? ⟨w.heap.size+1,0,none⟩=some (.int .i64 t.kind)∧W.cell? ⟨w.heap.size+1,1,none⟩=some (.int .i64 (t.start:Int))∧W.cell? ⟨w.heap.size+1,2,none⟩=some (.int .i64 (t.stop:Int))∧W.cell? ⟨w.heap.size+1,3,none⟩=some (.string t.val)∧W.cell? ⟨c.pb,1,none⟩=some (.pointer (some ⟨c.sb,0,none⟩))) (go_keep)
     (first
      | (
       go_at_call 84;refine(R3.o _ _ ?_).mono ?_;refine ax.o.trans ?_;(repeat(first| exact sr|refine Sm.alloc ?_ _|refine Sm.drew ?_|refine Sm.drewN ?_ _));rintro e w2 ⟨u,rfl,hr,hs⟩
       have hq:=(show Sm [] W2 _ from(by(repeat(first| exact sr|refine Sm.alloc ?_ _|refine Sm.drew ?_|refine Sm.drewN ?_ _)))).trans hs;have q0:=hq.keeps b0 (by simp);have q1:=hq.keeps b1 (by simp);have q2:=hq.keeps b2 (by simp);have q3:=hq.keeps b3 (by simp);have q4:=hq.keeps d1 (by simp);have hz:=hq.obj Uq.o (by simp);have z0:=cell_of hz (i:=0) rfl;have z1:=cell_of hz (i:=1) rfl;have z2:=cell_of hz (i:=2) rfl;have z3:=cell_of hz (i:=3) rfl
       have r0:=aF hz 0;have r1:=aF hz 1;have r2:=aF hz 2;have r3:=aF hz 3))
    all_goals go_wp2_with fail;refine bodyPost_ret (by simp[results,Tryz.results140,go_sem,z0,z1,z2,z3];try rfl) rfl ?_;rw[HE.o];exact MF hr hq ax.o R5.o (by simp) (pS _ _ _ _) lr (by have:=wM.o;omega)
theorem oE(c:Cx)(t:Tok)(w:World)(h:gb c t w):Calls Tryz.prog 81 #[.pointer (some ⟨c.pb,0,none⟩)] w (jJ (decide (t.kind=18∨t.kind=19)) w):=by
 have HP:Hd (∀k W,Sm [] w W→Calls Tryz.prog 74 #[.pointer (some ⟨c.pb,0,none⟩),.int .i64 k] W (jJ (decide (t.kind=k)) W)):=fun k W hw=>lH c k t W (h.cI hw);clear h;go_enter Tryz.func81,Tryz.ntmps81;by_cases mf:t.kind=18
 · have y:decide (t.kind=18)=true:=by simpa using mf
   have Uo:=ae mf;clear mf;go_wp2_with (first| (go_at_call 74;refine(HP.o _ _ ?_).mono ?_;(first| exact sr|assumption);rintro e w1 ⟨rfl,hs⟩)|fail)
   go_ret;exact⟨by simp[Uo.o],hs⟩
 · have y:decide (t.kind=18)=false:=by simpa using mf
   have Uo:=ae mf;clear mf;go_wp2_with (first| (go_at_call 74;refine(HP.o _ _ ?_).mono ?_;(first| exact sr|assumption);rintro e w1 ⟨rfl,hs⟩)|fail)
   go_ret;exact⟨by simp[Uo.o],Sm.trans (by assumption) hs⟩
theorem oz(c:Cx)(t:Tok)(w:World)(h:gb c t w):Calls Tryz.prog 42 #[.pointer (some ⟨c.pb,0,none⟩),Ez] w (Ba c t.start w):=by
 have R3:Hd (∀d W,Sm [] w W→Calls Tryz.prog 84 #[.pointer (some ⟨c.sb,0,none⟩),.int .i64 (t.start:Int),.string d] W (kL c.s t.start W)):=fun d W hw=>dD c.s c.sb c.bb c.cap t.start d W (h.ctx.src.cI hw) (by have:=h.ctx.src.small;have:=h.tok.1;omega);have R5:=ae h.tok.1;have c1:=h.c1;have e5:∀o o',((w.alloc o).alloc o').cell? ⟨c.pb,5,none⟩=some (.int .i64 t.kind):=fun o o'=>(((Sm.refl [] w).alloc o).alloc o').keeps h.c5 (by simp);have e6:∀o o',((w.alloc o).alloc o').cell? ⟨c.pb,6,none⟩=some (.int .i64 (t.start:Int)):=fun o o'=>(((Sm.refl [] w).alloc o).alloc o').keeps h.c6 (by simp);have e7:∀o o',((w.alloc o).alloc o').cell? ⟨c.pb,7,none⟩=some (.int .i64 (t.stop:Int)):=fun o o'=>(((Sm.refl [] w).alloc o).alloc o').keeps h.c7 (by simp);have e8:∀o o',((w.alloc o).alloc o').cell? ⟨c.pb,8,none⟩=some (.string t.val):=fun o o'=>(((Sm.refl [] w).alloc o).alloc o').keeps h.c8 (by simp);clear h;unfold Ez;go_enter Tryz.func42,Tryz.ntmps42;go_upto_region 5 with fail
 obtain⟨W2,ni⟩:∃W2,W2=(w.alloc dm).alloc (aU t):=⟨_,rfl⟩;have ax:Hd (Sm [] w W2):=by rw[ni];exact(sr.alloc _).alloc _
 have d1:W2.cell? ⟨c.pb,1,none⟩=some (.pointer (some ⟨c.sb,0,none⟩)):=ax.o.keeps c1 (by simp)
 have b1:W2.cell? ⟨w.heap.size+1,1,none⟩=some (.int .i64 (t.start:Int)):=by
  have hB:W2.heap[w.heap.size+1]?=some (aU t):=by rw[ni];have:=ai (w.alloc dm) (aU t);simpa using this
  exact cell_of hB rfl
 unfold aU dm at ni;rw[←ni];clear ni c1 e5 e6 e7 e8
 go_region_held3 (fun W=>W.cell? ⟨w.heap.size+1,1,none⟩=some (.int .i64 (t.start:Int))∧W.cell? ⟨c.pb,1,none⟩=some (.pointer (some ⟨c.sb,0,none⟩))) (go_keep)
  (first
   | (
    go_at_call 84;refine(R3.o _ _ ?_).mono ?_;refine ax.o.trans ?_;(repeat(first| exact sr|refine Sm.alloc ?_ _|refine Sm.drew ?_|refine Sm.drewN ?_ _));rintro e w2 ⟨u2,rfl,hr,hs⟩
    have hq:=(show Sm [] W2 _ from(by(repeat(first| exact sr|refine Sm.alloc ?_ _|refine Sm.drew ?_|refine Sm.drewN ?_ _)))).trans hs
    have q1:=hq.keeps b1 (by simp);have q4:=hq.keeps d1 (by simp)))
 all_goals go_wp2_with fail;go_ret;exact⟨u2,rfl,⟨t.start,(lh c.s).wide hr (by have:=ax.o.size;simp;omega) lr,Jn R5.o⟩,ax.o.trans hq⟩
theorem va(c:Cx)(t u:Tok)(w:World)(h:gb c t w)(hu:uh c.s u):Calls Tryz.prog 42 #[.pointer (some ⟨c.pb,0,none⟩),kg u] w (Ba c u.start w):=by
 have R3:Hd (∀d W,Sm [] w W→Calls Tryz.prog 84 #[.pointer (some ⟨c.sb,0,none⟩),.int .i64 (u.start:Int),.string d] W (kL c.s u.start W)):=fun d W hw=>dD c.s c.sb c.bb c.cap u.start d W (h.ctx.src.cI hw) (by have:=h.ctx.src.small;have:=hu.1;omega);have R5:=ae hu.1;have c1:=h.c1
 have hy:(u.kind==0)=false∨((u.kind==0)=true∧((u.stop:Int)==0)=false):=by
  by_cases h1:u.kind=0
  · exact .inr ⟨by simpa using h1,by have:=hu.2.2.2 h1;simpa using this⟩
  · exact .inl (by simpa using h1)
 clear h hu;unfold kg;go_enter Tryz.func42,Tryz.ntmps42;rcases hy with y|⟨y,y2⟩
 · skip
   go_upto_region 5 with fail
   obtain⟨W2,ni⟩:∃W2,W2=(w.alloc (aU u)).alloc (aU u):=⟨_,rfl⟩;have ax:Hd (Sm [] w W2):=by rw[ni];exact(sr.alloc _).alloc _
   have d1:W2.cell? ⟨c.pb,1,none⟩=some (.pointer (some ⟨c.sb,0,none⟩)):=ax.o.keeps c1 (by simp)
   have b1:W2.cell? ⟨w.heap.size+1,1,none⟩=some (.int .i64 (u.start:Int)):=by
    have hB:W2.heap[w.heap.size+1]?=some (aU u):=by rw[ni];have:=ai (w.alloc (aU u)) (aU u);simpa using this
    exact cell_of hB rfl
   unfold aU at ni;rw[←ni];clear ni c1 y
   go_region_held3 (fun W=>W.cell? ⟨w.heap.size+1,1,none⟩=some (.int .i64 (u.start:Int))∧W.cell? ⟨c.pb,1,none⟩=some (.pointer (some ⟨c.sb,0,none⟩))) (go_keep)
    (first
     | (
      go_at_call 84;refine(R3.o _ _ ?_).mono ?_;refine ax.o.trans ?_;(repeat(first| exact sr|refine Sm.alloc ?_ _|refine Sm.drew ?_|refine Sm.drewN ?_ _));rintro e w2 ⟨u2,rfl,hr,hs⟩
      have hq:=(show Sm [] W2 _ from(by(repeat(first| exact sr|refine Sm.alloc ?_ _|refine Sm.drew ?_|refine Sm.drewN ?_ _)))).trans hs
      have q1:=hq.keeps b1 (by simp);have q4:=hq.keeps d1 (by simp)))
   all_goals go_wp2_with fail;go_ret;exact⟨u2,rfl,⟨u.start,(lh c.s).wide hr (by have:=ax.o.size;simp;omega) lr,Jn R5.o⟩,ax.o.trans hq⟩
 · skip
   go_upto_region 5 with fail
   obtain⟨W2,ni⟩:∃W2,W2=(w.alloc (aU u)).alloc (aU u):=⟨_,rfl⟩;have ax:Hd (Sm [] w W2):=by rw[ni];exact(sr.alloc _).alloc _
   have d1:W2.cell? ⟨c.pb,1,none⟩=some (.pointer (some ⟨c.sb,0,none⟩)):=ax.o.keeps c1 (by simp)
   have b1:W2.cell? ⟨w.heap.size+1,1,none⟩=some (.int .i64 (u.start:Int)):=by
    have hB:W2.heap[w.heap.size+1]?=some (aU u):=by rw[ni];have:=ai (w.alloc (aU u)) (aU u);simpa using this
    exact cell_of hB rfl
   unfold aU at ni;rw[←ni];clear ni c1 y y2
   go_region_held3 (fun W=>W.cell? ⟨w.heap.size+1,1,none⟩=some (.int .i64 (u.start:Int))∧W.cell? ⟨c.pb,1,none⟩=some (.pointer (some ⟨c.sb,0,none⟩))) (go_keep)
    (first
     | (
      go_at_call 84;refine(R3.o _ _ ?_).mono ?_;refine ax.o.trans ?_;(repeat(first| exact sr|refine Sm.alloc ?_ _|refine Sm.drew ?_|refine Sm.drewN ?_ _));rintro e w2 ⟨u2,rfl,hr,hs⟩
      have hq:=(show Sm [] W2 _ from(by(repeat(first| exact sr|refine Sm.alloc ?_ _|refine Sm.drew ?_|refine Sm.drewN ?_ _)))).trans hs
      have q1:=hq.keeps b1 (by simp);have q4:=hq.keeps d1 (by simp)))
   all_goals go_wp2_with fail;go_ret;exact⟨u2,rfl,⟨u.start,(lh c.s).wide hr (by have:=ax.o.size;simp;omega) lr,Jn R5.o⟩,ax.o.trans hq⟩
def ye(c:Cx)(t:Tok)(w:World)(e:Ending)(w':World):Prop:=Sm [c.pb,c.vb] w w'∧match rd c.s t.stop with
 | .tok u=>e=.returned (.tuple #[kg u,.nilIface])∧gb c t w'∧uh c.s u
 | .err p=>∃v u,e=.returned (.tuple #[kg v,.iface 51 u])∧rj c p w w' u
 | .eo=>True
theorem NI{c:Cx}{t u:Tok}{pv k:Nat}{ev:Value}{w w1 w2 w':World}(hr:my c t.stop pv u ev w1 w2)(cJ:Sm [] w w1)(cT:Sm [c.vb] w1 w2)(h0:gb c t w)(WX:pv≤c.s.size)(hs:Sm [k] w2 w')(hk:w.heap.size≤k)(ri:k<w1.heap.size) :
 ye c t w (.returned (.tuple #[kg u,ev])) w':=by
 have hx:∀q,q∈[k]→w.heap.size≤q:=fun q hq=>by simp at hq;omega
 refine⟨hs.forget (cJ.of_nil.trans (MG cT)) (fun q hq=>.inr (hx q hq)),?_⟩
 have h2:∀q:Nat,q≤c.s.size→w2.heap[c.vb]?=some (.cells #[.int .i64 (q:Int)] 3 (0,0))→gb c t w2:=fun q hq hv=>
  ⟨(h0.ctx.cI cJ).sm (MG cT),h0.obj.elim fun pe ho=>⟨pe,cT.obj (cJ.obj ho (by simp)) (by have:=h0.ctx.ne.2.2.2.1;simpa using this)⟩,⟨q,hv,hq⟩,h0.tok⟩
 unfold my at hr
 cases Al:rd c.s t.stop with
 | tok u'=>
  rw[Al] at hr;obtain⟨rfl,rfl,hv,Be⟩:=hr
  exact⟨rfl,(h2 u.stop Be.2.1 hv).new h0 hs hx,Be⟩
 | err p=>
  rw[Al] at hr;obtain⟨v,rfl,⟨pl,h3,h4⟩,hv⟩:=hr
  exact⟨u,v,rfl,pl,(lh c.s).wide (au.sm h3 hs lr (fun q hq=>by simp at hq;omega)) cJ.size hs.size,h4⟩
 | eo=>trivial
theorem E8(c:Cx)(hL:dg c)(t:Tok)(w:World)(h:gb c t w)(ho:rd c.s t.stop≠.eo) :
 Calls Tryz.prog 82 #[.pointer (some ⟨c.pb,0,none⟩)] w (ye c t w):=by
 obtain⟨pv,WX,hle⟩:=h.prev
 have HX:Hd (∀W,Sm [] w W→Calls Tryz.prog 71 #[.int .i64 (t.stop:Int),.pointer (some ⟨c.vb,0,none⟩),.pointer (some ⟨c.bx,0,none⟩)] W (sd c t.stop pv W)):=
  fun W hw=>hL t.stop pv W (h.ctx.cI hw) (hw.obj WX (by simp)) h.tok.2.1 (h.Uj hle) ho
 have HH:=ae h;have HO:=ae ho;have wL:=ae hle;have HN:Hd (c.pb<w.heap.size∧c.vb<w.heap.size∧c.pb≠c.vb):=⟨h.lt,h.wh,h.ctx.ne.2.2.2.1⟩;have HA:Hd ((w.alloc dm).heap[w.heap.size]?=some dm):=ai w dm;have e0:∀o,(w.alloc o).cell? ⟨c.pb,0,none⟩=some (.func (.func 71) #[] #[.pointer (some ⟨c.vb,0,none⟩),.pointer (some ⟨c.bx,0,none⟩)]):=fun o=>((Sm.refl [] w).alloc o).keeps h.c0 (by simp);have e7:∀o,(w.alloc o).cell? ⟨c.pb,7,none⟩=some (.int .i64 (t.stop:Int)):=fun o=>((Sm.refl [] w).alloc o).keeps h.c7 (by simp);have Nw:=World.new_ne _ _ h.c7;clear h ho WX hle hL;go_enter Tryz.func82,Tryz.ntmps82;go_upto_region 1 with fail
 obtain⟨W1,AK⟩:∃W1,W1=w.alloc dm:=⟨_,rfl⟩;have d0:=e0 dm;have d7:=e7 dm;rw[←AK] at d0 d7 HA;have av:Hd (Sm [] w W1):=by rw[AK];exact sr.alloc _
 have wM:Hd (W1.heap.size=w.heap.size+1):=by unfold Hd;rw[AK];simp
 unfold dm at AK;rw[←AK];clear AK e0 e7
 go_region_held3 (fun W=>W.cell? ⟨c.pb,0,none⟩=some (.func (.func 71) #[] #[.pointer (some ⟨c.vb,0,none⟩),.pointer (some ⟨c.bx,0,none⟩)])∧W.cell? ⟨c.pb,7,none⟩=some (.int .i64 (t.stop:Int))) (go_keep)
  (first
   | (
    go_at_call 71;refine(HX.o _ ?_).mono ?_;refine av.o.trans ?_;(repeat(first| exact sr|refine Sm.alloc ?_ _|refine Sm.drew ?_|refine Sm.drewN ?_ _));intro e w2 h2;obtain⟨u,ev,rfl,hr,hs⟩:=h2.one HO.o;clear h2
    have hq:=(Sm.of_nil (X:=[c.vb]) (a:=W1) (by(repeat(first| exact sr|refine Sm.alloc ?_ _|refine Sm.drew ?_|refine Sm.drewN ?_ _)))).trans hs;have hn:∀j,j≠c.vb→j∉[c.vb]:=(fun j hj hm=>hj (by simpa using hm));have q0:=hq.keeps d0 (hn _ HN.o.2.2);have q7:=hq.keeps d7 (hn _ HN.o.2.2);have hz:=hq.obj HA.o (hn _ (by have:=HN.o;omega));have z0:=cell_of hz (i:=0) rfl;have z1:=cell_of hz (i:=1) rfl;have z2:=cell_of hz (i:=2) rfl;have z3:=cell_of hz (i:=3) rfl
    have r0:=aF hz 0;have r1:=aF hz 1;have r2:=aF hz 2;have r3:=aF hz 3))
 all_goals go_wp2_with fail;refine bodyPost_ret (by simp[results,Tryz.results82,go_sem,z0,z1,z2,z3];try rfl) rfl ?_;exact NI hr.out (av.o.trans (by(repeat(first| exact sr|refine Sm.alloc ?_ _|refine Sm.drew ?_|refine Sm.drewN ?_ _)))) hs HH.o wL.o (pS _ _ _ _) lr (by have:=wM.o;simp;omega)
end Go.Proofs.YtnpjmhodfdgloaaGreatDoor
