/- Part of the proof. -/
import Derived.Test.YtnpjmhodfdgloaaGreatDoorQ29
set_option linter.unusedVariables false
set_option linter.unusedSimpArgs false
namespace Go.Proofs.YtnpjmhodfdgloaaGreatDoor
set_option maxRecDepth 100000
set_option maxHeartbeats 32000000
open Go.RowKit
attribute [local go_sem ↓] Go.wp_at_zero Go.wp_at_succ
theorem Pr(c:Sx)(ta:Option Addr)(tk:Nat)(text:List Nd)(p:Ps)(w:World)(h:fV c p w)(hd:p.deep≤90)(ht:kM c 0 w (.slice ta text.length tk) text)(hz:text.length≤10):Calls Tryz.prog 35 #[.pointer (some ⟨c.sp,0,none⟩),.slice ta text.length tk] w (aM c (hJ c.l text p).2 (hJ c.l text p).1 w):=by
 obtain⟨r,hr⟩:∃r,(hJ c.l text) p=r:=⟨_,rfl⟩;rw[hr];rw[Ju] at hr;have HS:=ae (pU hr h hd ht);have zr:=ae hz;clear hz ht;clear h hd hr;go_enter Tryz.func35,Tryz.ntmps35;go_wp2_with fail;refine e9 HS.o fun nm q1 w1 h=>?_;replace HS:=ae h;clear h;go_wp2_with fail;refine bt (bl c true _ _ (HS.o.alloc (Z06 34 nm Z05 Z05 0)).st.cur.at_ (by have:=(HS.o.alloc (Z06 34 nm Z05 Z05 0)).st.dh;omega)) (HS.o.alloc (Z06 34 nm Z05 Z05 0)) (az c.l true) (by decide) fun d q2 w2 a1 k1 h=>?_;replace HS:=ae h;clear h;have Tu:=ae (HS.o.self.1).2;go_wp2_with fail;refine Kr (HS.o.KZ (HS.o.self.2.2.1) (HS.o.self.1).1.2) (by decide) fun b q3 w3 hp h=>?_;replace HS:=ae h;clear h;clear hp
 cases b with
 | false=>
  replace HS:=ae (HS.o.no (by simp));go_wp2_with fail;go_returns
  exact eA HS.o
 | true=>
  replace HS:=ae (HS.o.yes (by simp));go_wp2_with fail;obtain⟨R,(HF:Hd _),m0,h⟩:=F1 (item:=sj c.l) (HS.o.nH (E':=(fun X=>oA w (w1.heap.size) (Z06 34 nm Z05 Z05 0) X∧True)) (fun _ h=>⟨h.2.2.1,trivial⟩)) (HS.o.self.1) (by have:=Tu.o;have:=zr.o;simp;omega);have HR:=ae h;clear h HS
  go_loopg [6,7] 1000010 (fun g v ii wr=>UD c w (p.deep) (90+(1+0)) (fun X=>oA w (w1.heap.size) (Z06 34 nm Z05 Z05 0) X∧True) (sj c.l) 14 R q3.deep true 2 g v ii wr)
  case atStart=>exact⟨0,m0,_,_,_,rfl,rfl,HR.o⟩
  case round=>
   obtain⟨j,m,acc,vs,q,(jF:Hd _),rfl,h⟩:=hrel;obtain⟨ak,kk,hv⟩:=h.form;subst hv;have HL:=ae h;have TN:=h.jb;have Dy:=ae h.n;have d4:=h.s.cur.at_.c4;clear h HR;go_upto_region 6 with fail
   go_cut [33] from 20 to 33 (fun v wx=>∃b,v=.bool b∧Hd ((b=false→∃q1,dz c w (p.deep) ((90+(1+0))+10) (fun X=>bI c w X (.slice ak acc.length kk) vs acc∧(fun X=>oA w (w1.heap.size) (Z06 34 nm Z05 Z05 0) X∧True) X) ((fun kids=>pure (made {kind:=34,name:=nm} kids)) acc) r q1 wx)∧(b=true→oI c w (p.deep) (90+(1+0)) (fun X=>oA w (w1.heap.size) (Z06 34 nm Z05 Z05 0) X∧True) (sj c.l) 14 R q3.deep true 2 j m acc vs (.slice ak acc.length kk) q wx∧q.bad=false∧(j=0∨(ay c.l 14 q).1=false))))
   case first=>
    cases hb:q.bad with
    | true=>
     rw[hb] at d4;have HS:=ae (HL.o.bad (f:=fun kids=>pure (made {kind:=34,name:=nm} kids)) HF.o hb);clear hb;go_wp2_with fail;go_meet
     exact⟨false,rfl,fun _=>⟨_,HS.o⟩,fun e=>by cases e⟩
    | false=>
     rw[hb] at d4;have HB:=ae hb;clear hb;by_cases hj:j=0
     · have y0:((j:Int)==0)=true:=by rw[hj];rfl
       have HJ:=ae hj;clear hj;go_wp2_with fail;go_meet;exact⟨true,rfl,fun e=>(by cases e),fun _=>⟨HL.o,HB.o,.inl HJ.o⟩⟩
     · have y0:((j:Int)==0)=false:=bn (by have h9:acc.length=2+j:=Dy.o;omega);have Ia:=ae hj;clear hj;go_wp2_with fail;refine HL.o.cP (f:=fun kids=>pure (made {kind:=34,name:=nm} kids)) HF.o (fun h=>Ia.o h.2) HB.o (by decide) (fun q1 w0 h=>?_) (fun w0 h ht=>?_)
       · have HE:=ae h;clear h;go_wp2_with fail;go_meet;exact⟨false,rfl,fun _=>⟨_,HE.o⟩,fun e=>by cases e⟩
       · have HE:=ae h;have HT:=ae ht;clear h ht;go_wp2_with fail;go_meet;exact⟨true,rfl,fun e=>(by cases e),fun _=>⟨HE.o,HB.o,.inr HT.o⟩⟩
   case rest=>
    obtain⟨b,rfl,hh⟩:=hcut;clear d4
    cases b with
    | false=>
     obtain⟨q1,(HS:Hd _)⟩:=hh.out.1 rfl;clear hh;obtain⟨e0,e1,e2,e3,e4,e5⟩:=fU.of (show _=some (Z06 34 nm Z05 Z05 0) from(HS.o.self.2.1).2);go_wp2_with fail;refine jY {kind:=34,name:=nm} (HS.o.self.1) (by have:=HL.o.z;omega) (by have:=HL.o.n;have:=HL.o.l.jm;omega) HS.o fun w4 am jm (HS:Hd _)=>?_;clear e0 e1 e2 e3 e4 e5;go_wp2_with fail;go_returns
     exact bz HS.o HS.o.self.1
    | true=>
     obtain⟨h,hb,(HJ:Hd _)⟩:=hh.out.2 rfl;clear HL;have HL:=ae h;have HB:=ae hb;obtain⟨rx,(HI:Hd _),(YK:Hd _),h⟩:=h.Sp hb;have HS:=ae h;clear hh h hb;go_wp2_with fail;refine uk HS.o fun ab q5 w5 a2 k2 (HS:Hd _)=>?_;go_wp2_with fail;refine e9 HS.o fun en q6 w6 (HS:Hd _)=>?_;have AA:=ae (((HS.o.self.2)).size);have d5:∀o,(World.alloc w6 o).cell? ⟨c.sp,5,none⟩=some (.bool q6.unsure):=fun o=>(HS.o.alloc o).st.cur.at_.c5;have lS:∀o,(World.alloc w6 o).frozen? ⟨c.sp,5,none⟩=false:=fun o=>(HS.o.alloc o).st.cur.at_.free 5
     cases hu:q6.unsure with
     | true=>
      simp only[hu] at d5;have HU:=ae hu;clear hu;go_wp2_with fail;clear d5 lS;have E0:=fU.of (show _=some (Z06 35 en Z05 Z05 0) from((((HS.o.alloc (Z06 35 en Z05 Z05 0)).l9 (u:=true) (by simp[HU.o]))).self.1).2);have qi:=E0.sm ((Sm.refl [] _).drew) (by simp);go_wp2_with fail
      go_region_held3 (fun W=>W.cell? ⟨w6.heap.size,0,none⟩=some (.int .i64 35)∧W.cell? ⟨w6.heap.size,1,none⟩=some (.string en)∧W.cell? ⟨w6.heap.size,2,none⟩=some (.string ByteArray.empty)∧W.cell? ⟨w6.heap.size,3,none⟩=some (.string ByteArray.empty)∧W.cell? ⟨w6.heap.size,4,none⟩=some (.int .i64 0)∧W.cell? ⟨w6.heap.size,5,none⟩=some (.int .i64 0)) (first| exact E0|exact qi|exact zk|exact(zk.alloc _)|exact um|exact un|exact(um.alloc _))
       (first
        | (go_at_call 30;refine bt (bl c true _ _ (((HS.o.alloc (Z06 35 en Z05 Z05 0)).l9 (u:=true) (by simp[HU.o])).drew).st.cur.at_ (by have:=(((HS.o.alloc (Z06 35 en Z05 Z05 0)).l9 (u:=true) (by simp[HU.o])).drew).st.dh;omega)) (((HS.o.alloc (Z06 35 en Z05 Z05 0)).l9 (u:=true) (by simp[HU.o])).drew) (az c.l true) (by decide) (fun d2 q7 w7 a3 k3 jr=>?_);have zk:=fU.of (jr.self.2.1).2)
        | (go_at_call 18;refine dv {kind:=35,name:=en} [ab,d2] (vs:=#[.slice a2 ab.length k2,.slice a3 d2.length k3]) (.cons (jr.self.2.2.1).1.2.to (.cons (jr.self.1).1.2.to .nil)) (by have:=(jr.self.2.2.1).2;have:=(jr.self.1).2;simp[made]<;>omega) (by simp) jr (fun w8 am jm hm=>?_);have um:=fU.of (hm.self.2.2.1).2;have J0:=(jr.self.2.2.2.size))
        | (refine BD _ rfl _ _ _ rfl 23 _ 1 24 Tryz.underlying64 fm rfl (by decide) (by decide) (.slice ak acc.length kk) acc.length vs rfl (HL.o.k.sm (hm.self.2.2.2.2) HL.o.s.cur.sp).own #[.slice am (made {kind:=35,name:=en} [ab,d2]).length jm] rfl rfl (by simp[Value.oneCell']) (by have:=HL.o.n;have:=HL.o.l.jm;omega) hm.st.cur.new ?_;intro gn oJ wn aJ hg bV b9;have un:=um.grown hg (fun e=>by have h1:=(HL.o.k.own.lt _ e).2;have h2:=AA.o;omega)))
      all_goals
       replace HS:=ae hm;have HK:=ae (HL.o.add (hm.self.2.2.2.2) hm.self.1.2 J0 (by simpa using aJ) hg bV);have HG:=ae hg;clear hm J0 aJ hg bV b9;go_wp2_with fail;obtain⟨m2,(HN:Hd _)⟩:=HL.o.next HB.o (HJ.o.imp (fun e=>⟨rfl,e⟩) id) HI.o HS.o (pW c.l) (by decide) (.inr (by simp[made])) HK.o HG.o (fun X hX=>And.intro (oA.grow (HL.o.s.ext _ (HS.o.self.2.2.2.2)).1 HL.o.k (HS.o.self.2.2.2.2) HG.o HL.o.s.cur.sp X hX) trivial);go_roundg (gk-1)
       case measure=>have:=jF.o;omega
       case rel=>exact⟨j+1,m2,_,_,_,by have:=jF.o;omega,by go_num,HN.o⟩
     | false=>
      simp only[hu] at d5;have HU:=ae hu;clear hu;by_cases vT:en=qR
      · skip
        have sT:en.toList=[116,114,117,101]:=by rw[vT,ByteArray.toList_eq];rfl
        have tT:(en.toList==[116,114,117,101])=true:=by rw[sT];rfl
        have VT:=ae vT;clear vT;go_wp2_with fail;clear d5 lS;have E0:=fU.of (show _=some (Z06 35 en Z05 Z05 0) from((((HS.o.alloc (Z06 35 en Z05 Z05 0)).l9 (u:=true) (by rw[HU.o];simp[VT.out]))).self.1).2);have qi:=E0.sm ((Sm.refl [] _).drew) (by simp);go_wp2_with fail
        go_region_held3 (fun W=>W.cell? ⟨w6.heap.size,0,none⟩=some (.int .i64 35)∧W.cell? ⟨w6.heap.size,1,none⟩=some (.string en)∧W.cell? ⟨w6.heap.size,2,none⟩=some (.string ByteArray.empty)∧W.cell? ⟨w6.heap.size,3,none⟩=some (.string ByteArray.empty)∧W.cell? ⟨w6.heap.size,4,none⟩=some (.int .i64 0)∧W.cell? ⟨w6.heap.size,5,none⟩=some (.int .i64 0)) (first| exact E0|exact qi|exact zk|exact(zk.alloc _)|exact um|exact un|exact(um.alloc _))
         (first
          | (go_at_call 30;refine bt (bl c true _ _ (((HS.o.alloc (Z06 35 en Z05 Z05 0)).l9 (u:=true) (by rw[HU.o];simp[VT.out])).drew).st.cur.at_ (by have:=(((HS.o.alloc (Z06 35 en Z05 Z05 0)).l9 (u:=true) (by rw[HU.o];simp[VT.out])).drew).st.dh;omega)) (((HS.o.alloc (Z06 35 en Z05 Z05 0)).l9 (u:=true) (by rw[HU.o];simp[VT.out])).drew) (az c.l true) (by decide) (fun d2 q9 w9 a4 k4 jr=>?_);have zk:=fU.of (jr.self.2.1).2)
          | (go_at_call 18;refine dv {kind:=35,name:=en} [ab,d2] (vs:=#[.slice a2 ab.length k2,.slice a4 d2.length k4]) (.cons (jr.self.2.2.1).1.2.to (.cons (jr.self.1).1.2.to .nil)) (by have:=(jr.self.2.2.1).2;have:=(jr.self.1).2;simp[made]<;>omega) (by simp) jr (fun w10 am jm hm=>?_);have um:=fU.of (hm.self.2.2.1).2;have J0:=(jr.self.2.2.2.size))
          | (refine BD _ rfl _ _ _ rfl 23 _ 1 24 Tryz.underlying64 fm rfl (by decide) (by decide) (.slice ak acc.length kk) acc.length vs rfl (HL.o.k.sm (hm.self.2.2.2.2) HL.o.s.cur.sp).own #[.slice am (made {kind:=35,name:=en} [ab,d2]).length jm] rfl rfl (by simp[Value.oneCell']) (by have:=HL.o.n;have:=HL.o.l.jm;omega) hm.st.cur.new ?_;intro gn oJ wn aJ hg bV b9;have un:=um.grown hg (fun e=>by have h1:=(HL.o.k.own.lt _ e).2;have h2:=AA.o;omega)))
        all_goals
         replace HS:=ae hm;have HK:=ae (HL.o.add (hm.self.2.2.2.2) hm.self.1.2 J0 (by simpa using aJ) hg bV);have HG:=ae hg;clear hm J0 aJ hg bV b9;go_wp2_with fail;obtain⟨m2,(HN:Hd _)⟩:=HL.o.next HB.o (HJ.o.imp (fun e=>⟨rfl,e⟩) id) HI.o HS.o (pW c.l) (by decide) (.inr (by simp[made])) HK.o HG.o (fun X hX=>And.intro (oA.grow (HL.o.s.ext _ (HS.o.self.2.2.2.2)).1 HL.o.k (HS.o.self.2.2.2.2) HG.o HL.o.s.cur.sp X hX) trivial);go_roundg (gk-1)
         case measure=>have:=jF.o;omega
         case rel=>exact⟨j+1,m2,_,_,_,by have:=jF.o;omega,by go_num,HN.o⟩
      have sT:¬en.toList=[116,114,117,101]:=fun e=>vT (Go.WideShapes.bytes_inj (by rw[←ByteArray.toList_eq,e];rfl));have tT:(en.toList==[116,114,117,101])=false:=bn sT;have VT:=ae vT;clear vT;by_cases vF:en=mS
      · skip
        have sF:en.toList=[102,97,108,115,101]:=by rw[vF,ByteArray.toList_eq];rfl
        have tF:(en.toList==[102,97,108,115,101])=true:=by rw[sF];rfl
        have VF:=ae vF;clear vF;go_wp2_with fail;clear d5 lS;have E0:=fU.of (show _=some (Z06 35 en Z05 Z05 0) from((((HS.o.alloc (Z06 35 en Z05 Z05 0)).l9 (u:=true) (by rw[HU.o];simp[VF.out]))).self.1).2);have qi:=E0.sm ((Sm.refl [] _).drew) (by simp);go_wp2_with fail
        go_region_held3 (fun W=>W.cell? ⟨w6.heap.size,0,none⟩=some (.int .i64 35)∧W.cell? ⟨w6.heap.size,1,none⟩=some (.string en)∧W.cell? ⟨w6.heap.size,2,none⟩=some (.string ByteArray.empty)∧W.cell? ⟨w6.heap.size,3,none⟩=some (.string ByteArray.empty)∧W.cell? ⟨w6.heap.size,4,none⟩=some (.int .i64 0)∧W.cell? ⟨w6.heap.size,5,none⟩=some (.int .i64 0)) (first| exact E0|exact qi|exact zk|exact(zk.alloc _)|exact um|exact un|exact(um.alloc _))
         (first
          | (go_at_call 30;refine bt (bl c true _ _ (((HS.o.alloc (Z06 35 en Z05 Z05 0)).l9 (u:=true) (by rw[HU.o];simp[VF.out])).drew).st.cur.at_ (by have:=(((HS.o.alloc (Z06 35 en Z05 Z05 0)).l9 (u:=true) (by rw[HU.o];simp[VF.out])).drew).st.dh;omega)) (((HS.o.alloc (Z06 35 en Z05 Z05 0)).l9 (u:=true) (by rw[HU.o];simp[VF.out])).drew) (az c.l true) (by decide) (fun d2 X8 w11 a5 k5 jr=>?_);have zk:=fU.of (jr.self.2.1).2)
          | (go_at_call 18;refine dv {kind:=35,name:=en} [ab,d2] (vs:=#[.slice a2 ab.length k2,.slice a5 d2.length k5]) (.cons (jr.self.2.2.1).1.2.to (.cons (jr.self.1).1.2.to .nil)) (by have:=(jr.self.2.2.1).2;have:=(jr.self.1).2;simp[made]<;>omega) (by simp) jr (fun w12 am jm hm=>?_);have um:=fU.of (hm.self.2.2.1).2;have J0:=(jr.self.2.2.2.size))
          | (refine BD _ rfl _ _ _ rfl 23 _ 1 24 Tryz.underlying64 fm rfl (by decide) (by decide) (.slice ak acc.length kk) acc.length vs rfl (HL.o.k.sm (hm.self.2.2.2.2) HL.o.s.cur.sp).own #[.slice am (made {kind:=35,name:=en} [ab,d2]).length jm] rfl rfl (by simp[Value.oneCell']) (by have:=HL.o.n;have:=HL.o.l.jm;omega) hm.st.cur.new ?_;intro gn oJ wn aJ hg bV b9;have un:=um.grown hg (fun e=>by have h1:=(HL.o.k.own.lt _ e).2;have h2:=AA.o;omega)))
        all_goals
         replace HS:=ae hm;have HK:=ae (HL.o.add (hm.self.2.2.2.2) hm.self.1.2 J0 (by simpa using aJ) hg bV);have HG:=ae hg;clear hm J0 aJ hg bV b9;go_wp2_with fail;obtain⟨m2,(HN:Hd _)⟩:=HL.o.next HB.o (HJ.o.imp (fun e=>⟨rfl,e⟩) id) HI.o HS.o (pW c.l) (by decide) (.inr (by simp[made])) HK.o HG.o (fun X hX=>And.intro (oA.grow (HL.o.s.ext _ (HS.o.self.2.2.2.2)).1 HL.o.k (HS.o.self.2.2.2.2) HG.o HL.o.s.cur.sp X hX) trivial);go_roundg (gk-1)
         case measure=>have:=jF.o;omega
         case rel=>exact⟨j+1,m2,_,_,_,by have:=jF.o;omega,by go_num,HN.o⟩
      have sF:¬en.toList=[102,97,108,115,101]:=fun e=>vF (Go.WideShapes.bytes_inj (by rw[←ByteArray.toList_eq,e];rfl));have tF:(en.toList==[102,97,108,115,101])=false:=bn sF;have VF:=ae vF;clear vF;by_cases vN:en=qP
      · skip
        have sN:en.toList=[110,117,108,108]:=by rw[vN,ByteArray.toList_eq];rfl
        have tN:(en.toList==[110,117,108,108])=true:=by rw[sN];rfl
        have VN:=ae vN;clear vN;go_wp2_with fail;clear d5 lS;have E0:=fU.of (show _=some (Z06 35 en Z05 Z05 0) from((((HS.o.alloc (Z06 35 en Z05 Z05 0)).l9 (u:=true) (by rw[HU.o];simp[VN.out]))).self.1).2);have qi:=E0.sm ((Sm.refl [] _).drew) (by simp);go_wp2_with fail
        go_region_held3 (fun W=>W.cell? ⟨w6.heap.size,0,none⟩=some (.int .i64 35)∧W.cell? ⟨w6.heap.size,1,none⟩=some (.string en)∧W.cell? ⟨w6.heap.size,2,none⟩=some (.string ByteArray.empty)∧W.cell? ⟨w6.heap.size,3,none⟩=some (.string ByteArray.empty)∧W.cell? ⟨w6.heap.size,4,none⟩=some (.int .i64 0)∧W.cell? ⟨w6.heap.size,5,none⟩=some (.int .i64 0)) (first| exact E0|exact qi|exact zk|exact(zk.alloc _)|exact um|exact un|exact(um.alloc _))
         (first
          | (go_at_call 30;refine bt (bl c true _ _ (((HS.o.alloc (Z06 35 en Z05 Z05 0)).l9 (u:=true) (by rw[HU.o];simp[VN.out])).drew).st.cur.at_ (by have:=(((HS.o.alloc (Z06 35 en Z05 Z05 0)).l9 (u:=true) (by rw[HU.o];simp[VN.out])).drew).st.dh;omega)) (((HS.o.alloc (Z06 35 en Z05 Z05 0)).l9 (u:=true) (by rw[HU.o];simp[VN.out])).drew) (az c.l true) (by decide) (fun d2 tH w13 a6 k6 jr=>?_);have zk:=fU.of (jr.self.2.1).2)
          | (go_at_call 18;refine dv {kind:=35,name:=en} [ab,d2] (vs:=#[.slice a2 ab.length k2,.slice a6 d2.length k6]) (.cons (jr.self.2.2.1).1.2.to (.cons (jr.self.1).1.2.to .nil)) (by have:=(jr.self.2.2.1).2;have:=(jr.self.1).2;simp[made]<;>omega) (by simp) jr (fun w14 am jm hm=>?_);have um:=fU.of (hm.self.2.2.1).2;have J0:=(jr.self.2.2.2.size))
          | (refine BD _ rfl _ _ _ rfl 23 _ 1 24 Tryz.underlying64 fm rfl (by decide) (by decide) (.slice ak acc.length kk) acc.length vs rfl (HL.o.k.sm (hm.self.2.2.2.2) HL.o.s.cur.sp).own #[.slice am (made {kind:=35,name:=en} [ab,d2]).length jm] rfl rfl (by simp[Value.oneCell']) (by have:=HL.o.n;have:=HL.o.l.jm;omega) hm.st.cur.new ?_;intro gn oJ wn aJ hg bV b9;have un:=um.grown hg (fun e=>by have h1:=(HL.o.k.own.lt _ e).2;have h2:=AA.o;omega)))
        all_goals
         replace HS:=ae hm;have HK:=ae (HL.o.add (hm.self.2.2.2.2) hm.self.1.2 J0 (by simpa using aJ) hg bV);have HG:=ae hg;clear hm J0 aJ hg bV b9;go_wp2_with fail;obtain⟨m2,(HN:Hd _)⟩:=HL.o.next HB.o (HJ.o.imp (fun e=>⟨rfl,e⟩) id) HI.o HS.o (pW c.l) (by decide) (.inr (by simp[made])) HK.o HG.o (fun X hX=>And.intro (oA.grow (HL.o.s.ext _ (HS.o.self.2.2.2.2)).1 HL.o.k (HS.o.self.2.2.2.2) HG.o HL.o.s.cur.sp X hX) trivial);go_roundg (gk-1)
         case measure=>have:=jF.o;omega
         case rel=>exact⟨j+1,m2,_,_,_,by have:=jF.o;omega,by go_num,HN.o⟩
      have sN:¬en.toList=[110,117,108,108]:=fun e=>vN (Go.WideShapes.bytes_inj (by rw[←ByteArray.toList_eq,e];rfl));have tN:(en.toList==[110,117,108,108])=false:=bn sN;have VN:=ae vN;clear vN;go_wp2_with fail;clear d5 lS;have E0:=fU.of (show _=some (Z06 35 en Z05 Z05 0) from((((HS.o.alloc (Z06 35 en Z05 Z05 0)).l9 (u:=false) (by rw[HU.o];simp[VT.out,VF.out,VN.out]))).self.1).2);have qi:=E0.sm ((Sm.refl [] _).drew) (by simp);go_wp2_with fail
      go_region_held3 (fun W=>W.cell? ⟨w6.heap.size,0,none⟩=some (.int .i64 35)∧W.cell? ⟨w6.heap.size,1,none⟩=some (.string en)∧W.cell? ⟨w6.heap.size,2,none⟩=some (.string ByteArray.empty)∧W.cell? ⟨w6.heap.size,3,none⟩=some (.string ByteArray.empty)∧W.cell? ⟨w6.heap.size,4,none⟩=some (.int .i64 0)∧W.cell? ⟨w6.heap.size,5,none⟩=some (.int .i64 0)) (first| exact E0|exact qi|exact zk|exact(zk.alloc _)|exact um|exact un|exact(um.alloc _))
       (first
        | (go_at_call 30;refine bt (bl c true _ _ (((HS.o.alloc (Z06 35 en Z05 Z05 0)).l9 (u:=false) (by rw[HU.o];simp[VT.out,VF.out,VN.out])).drew).st.cur.at_ (by have:=(((HS.o.alloc (Z06 35 en Z05 Z05 0)).l9 (u:=false) (by rw[HU.o];simp[VT.out,VF.out,VN.out])).drew).st.dh;omega)) (((HS.o.alloc (Z06 35 en Z05 Z05 0)).l9 (u:=false) (by rw[HU.o];simp[VT.out,VF.out,VN.out])).drew) (az c.l true) (by decide) (fun d2 Yn w15 a7 k7 jr=>?_);have zk:=fU.of (jr.self.2.1).2)
        | (go_at_call 18;refine dv {kind:=35,name:=en} [ab,d2] (vs:=#[.slice a2 ab.length k2,.slice a7 d2.length k7]) (.cons (jr.self.2.2.1).1.2.to (.cons (jr.self.1).1.2.to .nil)) (by have:=(jr.self.2.2.1).2;have:=(jr.self.1).2;simp[made]<;>omega) (by simp) jr (fun w16 am jm hm=>?_);have um:=fU.of (hm.self.2.2.1).2;have J0:=(jr.self.2.2.2.size))
        | (refine BD _ rfl _ _ _ rfl 23 _ 1 24 Tryz.underlying64 fm rfl (by decide) (by decide) (.slice ak acc.length kk) acc.length vs rfl (HL.o.k.sm (hm.self.2.2.2.2) HL.o.s.cur.sp).own #[.slice am (made {kind:=35,name:=en} [ab,d2]).length jm] rfl rfl (by simp[Value.oneCell']) (by have:=HL.o.n;have:=HL.o.l.jm;omega) hm.st.cur.new ?_;intro gn oJ wn aJ hg bV b9;have un:=um.grown hg (fun e=>by have h1:=(HL.o.k.own.lt _ e).2;have h2:=AA.o;omega)))
      all_goals
       replace HS:=ae hm;have HK:=ae (HL.o.add (hm.self.2.2.2.2) hm.self.1.2 J0 (by simpa using aJ) hg bV);have HG:=ae hg;clear hm J0 aJ hg bV b9;go_wp2_with fail;obtain⟨m2,(HN:Hd _)⟩:=HL.o.next HB.o (HJ.o.imp (fun e=>⟨rfl,e⟩) id) HI.o HS.o (pW c.l) (by decide) (.inr (by simp[made])) HK.o HG.o (fun X hX=>And.intro (oA.grow (HL.o.s.ext _ (HS.o.self.2.2.2.2)).1 HL.o.k (HS.o.self.2.2.2.2) HG.o HL.o.s.cur.sp X hX) trivial);go_roundg (gk-1)
       case measure=>have:=jF.o;omega
       case rel=>exact⟨j+1,m2,_,_,_,by have:=jF.o;omega,by go_num,HN.o⟩
section
variable{c:Sx}{w W W':World}{lo N:Nat}{E:World→Prop}{β:Type}{r:β×Ps}{q:Ps}{Q:Ending→World→Prop}
theorem GB{f:ByteArray→SM β}(h:dz c w lo N E (aw c.l>>=f) r q W)(k:∀x q' W',x=(aw c.l q).1→q'=(aw c.l q).2→dz c w lo N E (f x) r q' W'→Q (.returned (.string x)) W') :
 Calls Tryz.prog 26 #[.pointer (some ⟨c.sp,0,none⟩)] W Q:=by
 refine(zZ c q W h.st.cur.at_).mono ?_;rintro e W' h1;obtain⟨rfl,h2,h3⟩:=h1.go h.st.cur;exact k _ _ _ rfl rfl (h.next h2 h3 (r6 c.l q).2.2.2)
theorem SG{s:Int}{f:Unit→SM β}(h:dz c w lo N E (cr c.l s>>=f) r q W)(hs:s≠1)(k:∀q' W',q'=(cr c.l s q).2→dz c w lo N E (f ()) r q' W'→Q (.returned (.tuple #[])) W') :
 Calls Tryz.prog 57 #[.pointer (some ⟨c.sp,0,none⟩),.int .i64 s] W Q:=by
 refine(Fb c q s W h.st.cur.at_ hs).mono ?_;rintro e W' h1;obtain⟨rfl,h2,h3⟩:=h1.go h.st.cur;obtain⟨t1,t2,t3,t4⟩:=zO c.l q s;exact k _ _ rfl (h.next h2 h3 t4)
theorem T8{s:Int}{f:Unit→SM β}(h:dz c w lo N E (eT c.l s>>=f) r q W)(hp:q.bad=false→1≤q.pos)(k:∀q' W',(q'.bad=false→1≤q'.pos)→dz c w lo N E (f ()) r q' W'→Q (.returned (.tuple #[])) W') :
 Calls Tryz.prog 58 #[.pointer (some ⟨c.sp,0,none⟩),.int .i64 s] W Q:=by
 refine(Fc c q s W h.st.cur.at_ hp).mono ?_;rintro e W' h1;obtain⟨rfl,h2,h3⟩:=h1.go h.st.cur;refine k _ _ ?_ (h.next h2 h3 (LB c.l q s).2.2);unfold eT;by_cases hc:q.bad=false∧ag c.l q.pos=s
 · rw[if_pos hc];exact fun e=>absurd e (by simp[db,hc.1])
 · rw[if_neg hc];exact hp
end
structure MU(c:Sx)(w:World)(lo N:Nat)(r:List Nd×Ps)(j m:Nat)(acc:List (List Nd))(vs:List Value)(v:Value)(q:Ps)(W:World):Prop where
 s:dz c w lo N (fun X=>bI c w X v vs acc∧True) (cF c.l (m+1) (decide (j=0)) acc>>=nR) r q W
 n:acc.length=2+j
 z:acc.flatten.length≤1000200+j
 jb:j≤q.pos+20*bd q
 mb:q.bad=false→c.l.length≤m+q.pos
 ps:q.bad=false→1≤q.pos
section
variable{c:Sx}{w W W':World}{lo N:Nat}{r:List Nd×Ps}{j m:Nat}{acc:List (List Nd)}{vs:List Value}{v:Value}{q:Ps}{Q:Ending→World→Prop}
theorem MU.bad(h:MU c w lo N r j m acc vs v q W)(hb:q.bad=true):dz c w lo N (fun X=>bI c w X v vs acc∧True) (pure (made {kind:=24} acc)) r q W:=
 h.s.as (by rw[aC,uL hb];rfl)
theorem MU.step(h:MU c w lo N r j m acc vs v q W)(hb:q.bad=false)(hj:j=0∨ag c.l q.pos≠14):dz c w lo N (fun X=>Sm [c.sp] W X) (lR c.l m acc>>=nR) r q W:=
 ⟨⟨h.s.st.cur,h.s.st.dl,h.s.st.dh,fun X hX=>hX⟩,by
  have:=h.s.eq;rw[aC] at this ⊢;by_cases h0:j=0
  · rwa [show decide (j=0)=true by simp[h0],r8 hb] at this
  · rwa [show decide (j=0)=false by simp[h0],sV hb (hj.resolve_left h0)] at this⟩
theorem MU.cP(h:MU c w lo N r j m acc vs v q W)(hj:j≠0)(hb:q.bad=false)
 (k1:∀q' W',dz c w lo N (fun X=>bI c w X v vs acc∧True) (pure (made {kind:=24} acc)) r q' W'→Q (.returned (.bool true)) W')
 (k2:∀W',MU c w lo N r j m acc vs v q W'→ag c.l q.pos≠14→Q (.returned (.bool false)) W') :
 Calls Tryz.prog 59 #[.pointer (some ⟨c.sp,0,none⟩),.int .i64 14] W Q:=by
 refine(lZ c q 14 W h.s.st.cur.at_ (by decide)).mono ?_;rintro e' W' h1;obtain⟨rfl,h2,h3⟩:=h1.go h.s.st.cur;by_cases hk:ag c.l q.pos=14
 · have e1:=ig (l:=c.l) hb hk;rw[e1] at h2 ⊢;refine k1 _ _ ⟨⟨h2,h.s.st.dl,h.s.st.dh,fun X hX=>h.s.st.ext X (h3.trans hX)⟩,?_⟩;have:=h.s.eq;rw[aC,show decide (j=0)=false by simp[hj],uM hb hk] at this;exact this
 · have e1:=ix (l:=c.l) (p:=q) hk;rw[e1] at h2 ⊢;exact k2 _ ⟨⟨⟨h2,h.s.st.dl,h.s.st.dh,fun X hX=>h.s.st.ext X (h3.trans hX)⟩,h.s.eq⟩,h.n,h.z,h.jb,h.mb,h.ps⟩ hk
theorem SI{l:List Tok}{q:Ps}(hb:q.bad=false)(hw:aN (aw l q).1=true):q.pos<l.length∧(aw l q).2={q with pos:=q.pos+1}:=by
 unfold aw at hw ⊢;by_cases hc:q.bad=true∨ag l q.pos≠15
 · rw[if_pos hc] at hw;exact absurd hw (by show ¬aN ByteArray.empty=true;decide)
 · rw[if_neg hc];refine⟨?_,rfl⟩;have hk:ag l q.pos=15:=Classical.byContradiction fun h=>hc (.inr h);exact Mq hk (by decide)
theorem MU.next{E:World→Prop}{Wm:World}{x:List Nd}{v':Value}{Oq:List Value}{q1 q2 q3:Ps}(h:MU c w lo N r j m acc vs v q W)(hb:q.bad=false)(hw:aN (aw c.l q).1=true)
 (h1:q1=(aw c.l q).2) (h2:q2=(cr c.l 7 q1).2) (h3:q3=(aw c.l q2).2) (hs:dz c w lo N E (cF c.l m false (acc++[x])>>=nR) r q3 Wm) (hx:x.length=1) (hk:bI c w W' v' Oq (acc++[x])) (hg:Wm.grownBy W' v.ownBlock) :
 ∃m',m=m'+1∧MU c w lo N r (j+1) m' (acc++[x]) Oq v' q3 W':=by
 obtain⟨e1,e2⟩:=SI hb hw;have hm:=h.mb hb;obtain⟨m',rfl⟩:∃m',m=m'+1:=⟨m-1,by omega⟩;have b0:bd q=0:=iM hb;have hj:=h.jb;have p1:q1.pos=q.pos+1:=by rw[h1,e2]
 have p2:=(zO c.l q1 7).2.2.1;have p3:=(r6 c.l q2).2.2.1;rw[←h2] at p2;rw[←h3] at p3;refine⟨m',rfl,⟨?_,by rw[List.length_append,h.n];simp;omega,by rw[List.flatten_append,List.length_append];have:=h.z;simp only[List.flatten_cons,List.flatten_nil,List.append_nil,hx];omega,by omega,fun _=>by omega,fun _=>by omega⟩⟩;have:=hs.FN hk hg h.s.self.1.base (E2:=fun _=>True) (fun _ _=>trivial)
 rwa [show decide (j+1=0)=false by simp]
theorem NT(h:dz c w lo N (fun X=>bI c w X v vs acc∧True) (cF c.l (many c.l) true acc>>=nR) r q W)(hn:acc.length=2)(hz:acc.flatten.length≤1000200)(hp:q.bad=false→1≤q.pos):∃m,MU c w lo N r 0 m acc vs v q W:=
 ⟨many c.l-1,by rw[show many c.l-1+1=many c.l by unfold many;omega];simpa using h,hn,by omega,by omega,fun _=>by unfold many;omega,hp⟩
end
theorem Lo(c:Sx)(ta:Option Addr)(tk:Nat)(text:List Nd)(p:Ps)(w:World)(h:fV c p w)(hd:p.deep≤90)(ht:kM c 0 w (.slice ta text.length tk) text)(hz:text.length≤10):Calls Tryz.prog 29 #[.pointer (some ⟨c.sp,0,none⟩),.slice ta text.length tk] w (aM c (iQ c.l text p).2 (iQ c.l text p).1 w):=by
 obtain⟨r,hr⟩:∃r,(iQ c.l text) p=r:=⟨_,rfl⟩;rw[hr];rw[zX] at hr;unfold mR at hr;have HS:=ae (pU hr h hd ht);have zr:=ae hz;clear hz ht;clear h hd hr;go_enter Tryz.func29,Tryz.ntmps29;go_wp2_with fail;refine bt (bl c true _ _ HS.o.st.cur.at_ (by have:=HS.o.st.dh;omega)) HS.o (az c.l true) (by decide) fun d q1 w1 a1 k1 h=>?_;replace HS:=ae h;clear h;have Tu:=ae (HS.o.self.1).2;replace HS:=ae (HS.o.assoc);go_wp2_with fail;refine mH (HS.o.KZ (HS.o.self.2.1) (HS.o.self.1).1.2) (by decide) fun q2 w2 (HP:Hd _) h=>?_;replace HS:=ae h;clear h;replace HS:=ae (HS.o.assoc);go_wp2_with fail;refine T8 HS.o HP.o fun q3 w3 (HP:Hd _) h=>?_;replace HS:=ae h;clear h;go_wp2_with fail;obtain⟨m0,h⟩:=NT (HS.o.nH (E':=fun X=>bI c w X (.slice (some ⟨w1.heap.size,0,none⟩) 2 2) [.slice ta text.length tk,.slice a1 d.length k1] [text,d]∧True) (fun _ h=>⟨h.1,trivial⟩)) rfl (by have:=Tu.o;have:=zr.o;simp;omega) HP.o;have HR:=ae h;clear h HS HP
 go_loopg [5,6] 3000000 (fun g v ii wr=>∃j m acc vs q,g=3000000-j∧ii=.int .i64 (j:Int)∧MU c w p.deep (90+(1+0)) r j m acc vs v q wr)
 case atStart=>exact⟨0,m0,_,_,_,rfl,rfl,HR.o⟩
 case round=>
  obtain⟨j,m,acc,vs,q,(jF:Hd _),rfl,h⟩:=hrel;obtain⟨ak,kk,hv⟩:=h.s.self.1.form;subst hv;have HL:=ae h;have d4:=h.s.st.cur.at_.c4;have TN:j≤1000040:=by have:=h.jb;have:=h.s.st.cur.pos;have:=dG q;omega
  clear h HR;go_upto_region 5 with fail
  go_cut [29] from 16 to 29 (fun v wx=>∃b,v=.bool b∧Hd ((b=false→∃q1,dz c w p.deep (90+(1+0)) (fun X=>bI c w X (.slice ak acc.length kk) vs acc∧True) (pure (made {kind:=24} acc)) r q1 wx)∧(b=true→MU c w p.deep (90+(1+0)) r j m acc vs (.slice ak acc.length kk) q wx∧q.bad=false∧(j=0∨ag c.l q.pos≠14))))
  case first=>
   cases hb:q.bad with
   | true=>
    rw[hb] at d4;have HS:=ae (HL.o.bad hb);clear hb;go_wp2_with fail;go_meet
    exact⟨false,rfl,fun _=>⟨_,HS.o⟩,fun e=>by cases e⟩
   | false=>
    rw[hb] at d4;have HB:=ae hb;clear hb;by_cases hj:j=0
    · have y0:((j:Int)==0)=true:=by rw[hj];rfl
      have HJ:=ae hj;clear hj;go_wp2_with fail;go_meet;exact⟨true,rfl,fun e=>(by cases e),fun _=>⟨HL.o,HB.o,.inl HJ.o⟩⟩
    · have y0:((j:Int)==0)=false:=bn (by omega);have Ia:=ae hj;clear hj;go_wp2_with fail;refine HL.o.cP Ia.o HB.o (fun q1 w0 h=>?_) (fun w0 h ht=>?_)
      · have HE:=ae h;clear h;go_wp2_with fail;go_meet;exact⟨false,rfl,fun _=>⟨_,HE.o⟩,fun e=>by cases e⟩
      · have HE:=ae h;have HT:=ae ht;clear h ht;go_wp2_with fail;go_meet;exact⟨true,rfl,fun e=>(by cases e),fun _=>⟨HE.o,HB.o,.inr HT.o⟩⟩
  case rest=>
   obtain⟨b,rfl,hh⟩:=hcut;clear d4
   cases b with
   | false=>
    obtain⟨q1,(HS:Hd _)⟩:=hh.out.1 rfl;clear hh;go_wp2_with fail;refine jY {kind:=24} (HS.o.self.1) (by have:=HL.o.z;have:=HL.o.jb;have:=HL.o.s.st.cur.pos;have:=dG q;omega) (by have:=HL.o.n;have:=HL.o.jb;have:=HL.o.s.st.cur.pos;have:=dG q;omega) HS.o fun w4 am jm (HS:Hd _)=>?_;go_wp2_with fail;go_returns
    exact bz HS.o HS.o.self.1
   | true=>
    obtain⟨h,hb,hj⟩:=hh.out.2 rfl;clear HL;have HL:=ae h;have HB:=ae hb;have HS:=ae (h.step hb hj);clear hh h hb hj;obtain⟨w0,rfl⟩:∃W,W=wc:=⟨wc,rfl⟩;go_wp2_with fail;refine GB (HS.o.as (m':=aw c.l>>=fun t=>(if aN t=true then(do cr c.l 7;let n ←aw c.l;cF c.l m false (acc++[made {kind:=25,text:=t,name:=n} []])) else rU)>>=nR) rfl) fun t q5 w5 (HE:Hd _) (HQ:Hd _) (HS:Hd _)=>?_;have AA:=ae (((HS.o.self)).size);go_upto_region 8 with fail
    go_cut [47] from 35 to 47 (fun v wx=>v=.bool (!aN t)∧Hd (dz c w p.deep (90+(1+0)) (fun X=>oA w (w5.heap.size) (Z06 25 Z05 Z05 t 0) X∧Sm [c.sp] w0 X) ((if aN t=true then(do cr c.l 7;let n ←aw c.l;cF c.l m false (acc++[made {kind:=25,text:=t,name:=n} []])) else rU)>>=nR) r q5 wx))
    case first=>
     obtain⟨e0,e1,e2,e3,e4,e5⟩:=fU.of (show _=some (Z06 25 Z05 Z05 t 0) from((HS.o.alloc (Z06 25 Z05 Z05 t 0))).self.1.2);by_cases vQ:t=hO
     · skip
       have sQ:t.toList=[113,117,101,114,121]:=by rw[vQ,ByteArray.toList_eq];rfl
       have tQ:(t.toList==[113,117,101,114,121])=true:=by rw[sQ];rfl
       have nQ:(t.toList !=[113,117,101,114,121])=false:=by rw[sQ];rfl
       have VQ:=ae vQ;clear vQ;go_wp2_with fail;go_meet;exact⟨by first| rfl|simp[aN,VQ.out],by first| exact(HS.o.alloc (Z06 25 Z05 Z05 t 0))|exact(HS.o.alloc (Z06 25 Z05 Z05 t 0)).drew⟩
     have sQ:¬t.toList=[113,117,101,114,121]:=fun e=>vQ (Go.WideShapes.bytes_inj (by rw[←ByteArray.toList_eq,e];rfl));have tQ:(t.toList==[113,117,101,114,121])=false:=bn sQ;have nQ:(t.toList !=[113,117,101,114,121])=true:=by simp only[bne,tQ];rfl
     have VQ:=ae vQ;clear vQ;by_cases vM:t=l7
     · skip
       have sM:t.toList=[109,117,116,97,116,105,111,110]:=by rw[vM,ByteArray.toList_eq];rfl
       have tM:(t.toList==[109,117,116,97,116,105,111,110])=true:=by rw[sM];rfl
       have nM:(t.toList !=[109,117,116,97,116,105,111,110])=false:=by rw[sM];rfl
       have VM:=ae vM;clear vM;go_wp2_with fail;go_meet;exact⟨by first| rfl|simp[aN,VQ.out,VM.out],by first| exact(HS.o.alloc (Z06 25 Z05 Z05 t 0))|exact(HS.o.alloc (Z06 25 Z05 Z05 t 0)).drew⟩
     have sM:¬t.toList=[109,117,116,97,116,105,111,110]:=fun e=>vM (Go.WideShapes.bytes_inj (by rw[←ByteArray.toList_eq,e];rfl));have tM:(t.toList==[109,117,116,97,116,105,111,110])=false:=bn sM;have nM:(t.toList !=[109,117,116,97,116,105,111,110])=true:=by simp only[bne,tM];rfl
     have VM:=ae vM;clear vM;by_cases vS:t=ga
     · skip
       have sS:t.toList=[115,117,98,115,99,114,105,112,116,105,111,110]:=by rw[vS,ByteArray.toList_eq];rfl
       have tS:(t.toList==[115,117,98,115,99,114,105,112,116,105,111,110])=true:=by rw[sS];rfl
       have nS:(t.toList !=[115,117,98,115,99,114,105,112,116,105,111,110])=false:=by rw[sS];rfl
       have VS:=ae vS;clear vS;go_wp2_with fail;go_meet;exact⟨by first| rfl|simp[aN,VQ.out,VM.out,VS.out],by first| exact(HS.o.alloc (Z06 25 Z05 Z05 t 0))|exact(HS.o.alloc (Z06 25 Z05 Z05 t 0)).drew⟩
     have sS:¬t.toList=[115,117,98,115,99,114,105,112,116,105,111,110]:=fun e=>vS (Go.WideShapes.bytes_inj (by rw[←ByteArray.toList_eq,e];rfl));have tS:(t.toList==[115,117,98,115,99,114,105,112,116,105,111,110])=false:=bn sS;have nS:(t.toList !=[115,117,98,115,99,114,105,112,116,105,111,110])=true:=by simp only[bne,tS];rfl
     have VS:=ae vS;clear vS;go_wp2_with fail;go_meet;exact⟨by first| rfl|simp[aN,VQ.out,VM.out,VS.out],by first| exact(HS.o.alloc (Z06 25 Z05 Z05 t 0))|exact(HS.o.alloc (Z06 25 Z05 Z05 t 0)).drew⟩
    case rest=>
     obtain⟨rfl,h⟩:=hcut;replace HS:=h;clear h
     cases hw:aN t with
     | false=>
      rw[hw] at HS;replace HS:=ae ((HS.o.Kc (by simp)).as (m':=qH>>=fun _=>dn) rfl);have hpq:=HL.o.ps HB.o;have hnq:=(r6 c.l q).2.2.1;rw[←HQ.o] at hnq;have d1:=HS.o.st.cur.at_.c1;have uq:=HS.o.st.cur.at_.free 1;have Bf:=HS.o.st.cur.pos;go_wp2_with fail;clear d1 uq;refine iV (HS.o.back (u:=(q5.pos:Int)-1) (by omega)) fun q6 w6 (HS:Hd _)=>?_;go_wp2_with fail;go_returns
      exact eA HS.o
     | true=>
      rw[hw] at HS;replace HS:=ae (HS.o.xU (by simp));replace HS:=ae (HS.o.assoc);have Xs:=ae hw;clear hw;go_wp2_with fail;refine SG HS.o (by decide) fun q7 w7 (Xn:Hd _) (HS:Hd _)=>?_;replace HS:=ae (HS.o.assoc);go_wp2_with fail;refine GB HS.o fun n q8 w8 hn (ZH:Hd _) (HS:Hd _)=>?_;clear hn;obtain⟨e0,e1,e2,e3,e4,e5⟩:=fU.of (show _=some (Z06 25 Z05 Z05 t 0) from(HS.o.self.1).2);have f1:=aF (show _=some (Z06 25 Z05 Z05 t 0) from HS.o.self.1.2) 1;go_wp2_with fail;clear e0 e1 e2 e3 e4 e5 f1;have MS:=ae (HS.o.self.2.size);refine fy {kind:=25,text:=t,name:=n} (HS.o.Z0S (i:=1) (u:=.string n) AA.o) fun w9 am jm (HS:Hd _)=>?_;have how:=(HL.o.s.self.1.sm HS.o.self.2.2 HL.o.s.st.cur.sp).own;have de:(acc.length+1)*24≤140737488355328:=by have:=HL.o.n;have:=HL.o.jb;have:=HL.o.s.st.cur.pos;have:=dG q;omega
      have cv:=HS.o.st.cur.new;go_wp2_with (at_builtin;refine gH _ rfl _ _ _ rfl 23 _ 1 24 Tryz.underlying64 fm rfl (by omega) (by omega) (.slice ak acc.length kk) acc.length vs rfl how #[.slice am (made {kind:=25,text:=t,name:=n} []).length jm] rfl rfl (by simp[Value.oneCell']) de cv ?_);intro gn oJ wn aJ hg bV b9;have HK:=ae ((HL.o.s.self.1.sm HS.o.self.2.2 HL.o.s.st.cur.sp).add HS.o.self.1.2 (fun g e=>by have h1:=(HL.o.s.self.1.own.lt g e).2;have h2:=MS.o;simp;omega) (by simpa using aJ) hg bV);have HG:=ae hg;clear how de cv aJ hg bV b9;go_wp2_with fail;obtain⟨m2,Nv,(HN:Hd _)⟩:=HL.o.next HB.o (by rw[←HE.o];exact Xs.o) HQ.o Xn.o ZH.o HS.o rfl HK.o HG.o;go_roundg (gk-1)
      case measure=>have:=jF.o;have:=HL.o.n;have:=HL.o.jb;have:=HL.o.s.st.cur.pos;have:=dG q;omega
      case rel=>exact⟨j+1,m2,_,_,_,by have:=jF.o;have:=HL.o.n;have:=HL.o.jb;have:=HL.o.s.st.cur.pos;have:=dG q;omega,by go_num,HN.o⟩
end Go.Proofs.YtnpjmhodfdgloaaGreatDoor
