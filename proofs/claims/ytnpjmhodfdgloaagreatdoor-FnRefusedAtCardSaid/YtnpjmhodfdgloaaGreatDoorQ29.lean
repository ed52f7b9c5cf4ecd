/- Part of the proof. -/
import Derived.Test.YtnpjmhodfdgloaaGreatDoorQ28
set_option linter.unusedVariables false
set_option linter.unusedSimpArgs false
namespace Go.Proofs.YtnpjmhodfdgloaaGreatDoor
set_option maxRecDepth 100000
set_option maxHeartbeats 32000000
open Go.RowKit
attribute [local go_sem ↓] Go.wp_at_zero Go.wp_at_succ
theorem Mt{β:Type}{c:Sx}{w W:World}{lo N nb:Nat}{E:World→Prop}{q:Ps}{r:β×Ps}{m:SM β}{Q:Ending→World→Prop}(fH:nb=W.heap.size)(n:Nd)(xs:List (List Nd)){vs:Array Value}{t:TypeId}(hv:vR ke 0 W.heap.size W vs.toList xs)(hb:xs.flatten.length≤1000000000)(hk:xs.length≤1000)(h:dz c w lo N E m r q W)
 (k:∀W' a j,dz c w lo N (fun X=>Lw c w W a j (made n xs) X∧E X) m r q W'→Q (.returned (.slice a (made n xs).length j)) W') :
 Calls Tryz.prog 18 #[.agg #[.int .i64 n.kind,.string n.name,.string n.alias,.string n.text,.int .i64 n.flag,.int .i64 n.size],.slice (some ⟨nb,0,none⟩) xs.length xs.length] (W.alloc (.cells vs t (0,0))) Q:=by
 subst fH;exact dv n xs hv hb hk h k
theorem xc(c:Sx)(p:Ps)(w:World)(h:fV c p w)(hd:p.deep≤110):Calls Tryz.prog 62 #[.pointer (some ⟨c.sp,0,none⟩)] w (aM c (fA c.l p).2 (fA c.l p).1 w):=by
 obtain⟨r,hr⟩:∃r,(fA c.l) p=r:=⟨_,rfl⟩;rw[hr];rw[En] at hr;have HS:=ae (gz hr h hd);clear h hd hr;go_enter Tryz.func62,Tryz.ntmps62;go_wp2_with fail;refine cP HS.o (by decide) fun b q1 w1 _ (HP:Hd _) (HS:Hd _)=>?_
 cases b with
 | false=>
  replace HS:=ae (HS.o.no (by simp));go_wp2_with fail;go_returns
  exact eA HS.o
 | true=>
  replace HS:=ae (HS.o.yes (by simp));go_wp2_with fail;refine LA HS.o (fun _=>HP.o (by trivial)) fun q2 w2 (HS:Hd _)=>?_;go_wp2_with fail;obtain⟨R,hr,(HR:Hd _)⟩:=vx (item:=tj c.l) HS.o;subst hr;clear HS
  go_loopg [3,4] 1000010 (fun g v ii wr=>Bz c w p.deep 110 (fun _=>True) (tj c.l) 5 R q2.deep g v ii wr)
  case atStart=>exact HR.o
  case round=>
   obtain⟨j,m,acc,q,(jF:Hd _),rfl,h⟩:=hrel;have HL:=ae h;have TN:=h.jb;have d4:=h.s.cur.at_.c4;clear h HR;go_upto_region 6 with fail
   go_cut [26] from 13 to 26 (fun v wx=>∃b,v=.bool b∧Hd ((b=false→aM c R.2 R.1.flatten w (.returned u3) wx)∧(b=true→qV c w p.deep 110 (fun _=>True) (tj c.l) 5 R q2.deep j m acc u3 q wx∧q.bad=false∧(j=0∨(ay c.l 5 q).1=false))))
   case first=>
    cases hb:q.bad with
    | true=>
     rw[hb] at d4;have HB:=ae hb;clear hb;go_wp2_with fail;go_meet
     exact⟨false,rfl,fun _=>HL.o.bad HB.o,fun e=>by cases e⟩
    | false=>
     rw[hb] at d4;have HB:=ae hb;clear hb;by_cases hj:j=0
     · have y0:((j:Int)==0)=true:=by simp[hj]
       have HJ:=ae hj;clear hj;go_wp2_with fail;go_meet;exact⟨true,rfl,fun e=>(by cases e),fun _=>⟨HL.o,HB.o,.inl HJ.o⟩⟩
     · have y0:((j:Int)==0)=false:=by simp;omega
       have Ia:=ae hj;clear hj;go_wp2_with fail;refine HL.o.cP Ia.o HB.o (by decide) (fun w0 h=>?_) (fun w0 h ht=>?_)
       · have HE:=ae h;clear h;go_wp2_with fail;go_meet;exact⟨false,rfl,fun _=>HE.o,fun e=>by cases e⟩
       · have HE:=ae h;have HT:=ae ht;clear h ht;go_wp2_with fail;go_meet;exact⟨true,rfl,fun e=>(by cases e),fun _=>⟨HE.o,HB.o,.inr HT.o⟩⟩
   case rest=>
    obtain⟨b,rfl,hh⟩:=hcut;clear d4 HL
    cases b with
    | false=>
     have HE:=ae (hh.out.1 rfl);clear hh;go_wp2_with fail;go_returns
     exact HE.o
    | true=>
     obtain⟨h,hb,(HJ:Hd _)⟩:=hh.out.2 rfl;have HL:=ae h;have HB:=ae hb;obtain⟨rx,(HI:Hd _),h⟩:=h.Sp hb;have HS:=ae h;clear hh h hb;go_wp2_with fail;refine mH HS.o (by decide) fun q3 w3 _ (HS:Hd _)=>?_;go_wp2_with fail;refine e9 HS.o fun nm q4 w4 (HS:Hd _)=>?_;have AA:=ae (((HS.o.self)).size);go_wp2_with fail;refine mH (HS.o.alloc (Z06 4 nm Z05 Z05 0)) (by decide) fun q5 w5 _ (HS:Hd _)=>?_;go_wp2_with fail;refine bt (vL c _ _ HS.o.st.cur.at_ (by have:=HS.o.st.dh;omega)) HS.o (lM c.l 62) (by decide) fun ty q6 w6 a1 k1 (HS:Hd _)=>?_;go_wp2_with fail;replace HS:=ae (HS.o.assoc);refine cP HS.o (by decide) fun bv q7 w7 _ (HP:Hd _) (HS:Hd _)=>?_
     cases bv with
     | false=>
      replace HS:=ae (HS.o.Kc (by simp)|>.pure)
      go_wp2_with fail;replace HS:=ae (HS.o.kind);by_cases hk:ag c.l q7.pos=9
      · skip
        have y1:(ag c.l q7.pos==9)=true:=by simpa using hk
        have HK:=ae hk;clear hk;refine eG HS.o fun w8 (HS:Hd _)=>?_;have d5:=HS.o.st.cur.at_.c5;have lS:=HS.o.st.cur.at_.free 5;have tU:=aP (HS.o.self.2.1).2 (p:=⟨c.sp,5,none⟩) (fun e=>HS.o.st.cur.Yi (HS.o.self.2.1).1 (by simp[e])) (.bool true);obtain⟨e0,e1,e2,e3,e4,e5⟩:=fU.of (show _=some (Z06 4 nm Z05 Z05 0) from(And.intro trivial tU).2);go_wp2_with fail;clear d5 lS tU;refine Mt (by simp) {kind:=4,name:=nm} [ty,([]:List Nd)] (vs:=#[.slice a1 ty.length k1,.slice none 0 0]) (.cons ((HS.o.l9 (u:=true) (by simp[HK.o])).self.1).1.2.to (.cons (kM.nil c _).to .nil)) (by have:=((HS.o.l9 (u:=true) (by simp[HK.o])).self.1).2;simp[made]<;>omega) (by simp) (HS.o.l9 (u:=true) (by simp[HK.o])) fun w9 am jm (HS:Hd _)=>?_;have hm:=HS.o;obtain⟨Cw,PG,_,_,_,zD,_⟩:=hm.self.1.2;have Uz:=ae zD;have DH:=ae ((HL.o.o.sm (HS.o.self.2.2.2) HL.o.s.cur.sp).row);have OQ:Hd (acc.flatten.length+(made {kind:=4,name:=nm} [ty,([]:List Nd)]).length≤9000000):=by have:=(HS.o.self.2.1).2;have:=HL.o.z;unfold Hd;rw[eE];simp only[List.flatten_cons,List.flatten_nil,List.append_nil,List.length_append,List.length_nil,List.nil_append];omega
        clear e0 e1 e2 e3 e4 e5 zD hm;go_wp2_with (at_builtin;refine kK w.heap.size Cw rfl _ _ _ rfl 67 _ 6 72 Tryz.underlying23 np rfl (by omega) u3 (.slice am (made {kind:=4,name:=nm} [ty,([]:List Nd)]).length jm) acc.flatten.length (made {kind:=4,name:=nm} [ty,([]:List Nd)]).length (gF acc.flatten) (gF (made {kind:=4,name:=nm} [ty,([]:List Nd)])) rfl rfl DH.o Uz.o (j0 _) (by have:=OQ.o;simp only[maxLen];omega) (by have:=OQ.o;omega) HS.o.st.cur.new ?_);intro vn wn (HW:Hd _) (HG:Hd _) bV;have hm:=HS.o;have HM:=ae hm;clear hm bV;go_wp2_with fail;obtain⟨m2,h⟩:=HL.o.next (v':=vn) HB.o HJ.o HI.o HM.o (th c.l) (by decide) (by first| exact HW.o|(rw[List.length_flatten];exact HW.o)) HG.o (fun _ _=>trivial)
        have HN:=ae h;clear h;go_roundg (gk-1)
        case measure=>have:=jF.o;omega
        case rel=>exact⟨j+1,m2,_,_,by have:=jF.o;omega,by go_num,HN.o⟩
      · skip
        have y1:(ag c.l q7.pos==9)=false:=by simpa using hk
        have HK:=ae hk;clear hk;refine eG HS.o fun w10 (HS:Hd _)=>?_;replace HS:=ae ((HS.o.EB (by simp[HK.o])));obtain⟨e0,e1,e2,e3,e4,e5⟩:=fU.of (show _=some (Z06 4 nm Z05 Z05 0) from(HS.o.self.2.1).2);go_wp2_with fail;refine dv {kind:=4,name:=nm} [ty,([]:List Nd)] (vs:=#[.slice a1 ty.length k1,.slice none 0 0]) (.cons (HS.o.self.1).1.2.to (.cons (kM.nil c _).to .nil)) (by have:=(HS.o.self.1).2;simp[made]<;>omega) (by simp) HS.o fun w11 am jm (HS:Hd _)=>?_;have hm:=HS.o;obtain⟨Cw,PG,_,_,_,zD,_⟩:=hm.self.1.2;have Uz:=ae zD;have DH:=ae ((HL.o.o.sm (HS.o.self.2.2.2) HL.o.s.cur.sp).row);have OQ:Hd (acc.flatten.length+(made {kind:=4,name:=nm} [ty,([]:List Nd)]).length≤9000000):=by have:=(HS.o.self.2.1).2;have:=HL.o.z;unfold Hd;rw[eE];simp only[List.flatten_cons,List.flatten_nil,List.append_nil,List.length_append,List.length_nil,List.nil_append];omega
        clear e0 e1 e2 e3 e4 e5 zD hm;go_wp2_with (at_builtin;refine kK w.heap.size Cw rfl _ _ _ rfl 67 _ 6 72 Tryz.underlying23 np rfl (by omega) u3 (.slice am (made {kind:=4,name:=nm} [ty,([]:List Nd)]).length jm) acc.flatten.length (made {kind:=4,name:=nm} [ty,([]:List Nd)]).length (gF acc.flatten) (gF (made {kind:=4,name:=nm} [ty,([]:List Nd)])) rfl rfl DH.o Uz.o (j0 _) (by have:=OQ.o;simp only[maxLen];omega) (by have:=OQ.o;omega) HS.o.st.cur.new ?_);intro vn wn (HW:Hd _) (HG:Hd _) bV;have hm:=HS.o;have HM:=ae hm;clear hm bV;go_wp2_with fail;obtain⟨m2,h⟩:=HL.o.next (v':=vn) HB.o HJ.o HI.o HM.o (th c.l) (by decide) (by first| exact HW.o|(rw[List.length_flatten];exact HW.o)) HG.o (fun _ _=>trivial)
        have HN:=ae h;clear h;go_roundg (gk-1)
        case measure=>have:=jF.o;omega
        case rel=>exact⟨j+1,m2,_,_,by have:=jF.o;omega,by go_num,HN.o⟩
     | true=>
      replace HS:=ae (HS.o.xU (by simp));go_wp2_with fail;refine bt (A6 c true _ _ HS.o.st.cur.at_ (by have:=HS.o.st.dh;omega)) HS.o (iz c.l true 62) (by decide) fun v OI w12 a2 k2 (HS:Hd _)=>?_;go_wp2_with fail;replace HS:=ae (HS.o.kind);by_cases hk:ag c.l OI.pos=9
      · skip
        have y1:(ag c.l OI.pos==9)=true:=by simpa using hk
        have HK:=ae hk;clear hk;refine eG HS.o fun w13 (HS:Hd _)=>?_;have d5:=HS.o.st.cur.at_.c5;have lS:=HS.o.st.cur.at_.free 5;have tU:=aP (HS.o.self.2.2.1).2 (p:=⟨c.sp,5,none⟩) (fun e=>HS.o.st.cur.Yi (HS.o.self.2.2.1).1 (by simp[e])) (.bool true);obtain⟨e0,e1,e2,e3,e4,e5⟩:=fU.of (show _=some (Z06 4 nm Z05 Z05 0) from(And.intro trivial tU).2);go_wp2_with fail;clear d5 lS tU;refine Mt (by simp) {kind:=4,name:=nm} [ty,v] (vs:=#[.slice a1 ty.length k1,.slice a2 v.length k2]) (.cons ((HS.o.l9 (u:=true) (by simp[HK.o])).self.2.1).1.2.to (.cons ((HS.o.l9 (u:=true) (by simp[HK.o])).self.1).1.2.to .nil)) (by have:=((HS.o.l9 (u:=true) (by simp[HK.o])).self.2.1).2;have:=((HS.o.l9 (u:=true) (by simp[HK.o])).self.1).2;simp[made]<;>omega) (by simp) (HS.o.l9 (u:=true) (by simp[HK.o])) fun w14 am jm (HS:Hd _)=>?_;have hm:=HS.o;obtain⟨Cw,PG,_,_,_,zD,_⟩:=hm.self.1.2;have Uz:=ae zD;have DH:=ae ((HL.o.o.sm (HS.o.self.2.2.2.2) HL.o.s.cur.sp).row);have OQ:Hd (acc.flatten.length+(made {kind:=4,name:=nm} [ty,v]).length≤9000000):=by have:=(HS.o.self.2.1).2;have:=(HS.o.self.2.2.1).2;have:=HL.o.z;unfold Hd;rw[eE];simp only[List.flatten_cons,List.flatten_nil,List.append_nil,List.length_append,List.length_nil,List.nil_append];omega
        clear e0 e1 e2 e3 e4 e5 zD hm;go_wp2_with (at_builtin;refine kK w.heap.size Cw rfl _ _ _ rfl 67 _ 6 72 Tryz.underlying23 np rfl (by omega) u3 (.slice am (made {kind:=4,name:=nm} [ty,v]).length jm) acc.flatten.length (made {kind:=4,name:=nm} [ty,v]).length (gF acc.flatten) (gF (made {kind:=4,name:=nm} [ty,v])) rfl rfl DH.o Uz.o (j0 _) (by have:=OQ.o;simp only[maxLen];omega) (by have:=OQ.o;omega) HS.o.st.cur.new ?_);intro vn wn (HW:Hd _) (HG:Hd _) bV;have hm:=HS.o;have HM:=ae hm;clear hm bV;go_wp2_with fail;obtain⟨m2,h⟩:=HL.o.next (v':=vn) HB.o HJ.o HI.o HM.o (th c.l) (by decide) (by first| exact HW.o|(rw[List.length_flatten];exact HW.o)) HG.o (fun _ _=>trivial)
        have HN:=ae h;clear h;go_roundg (gk-1)
        case measure=>have:=jF.o;omega
        case rel=>exact⟨j+1,m2,_,_,by have:=jF.o;omega,by go_num,HN.o⟩
      · skip
        have y1:(ag c.l OI.pos==9)=false:=by simpa using hk
        have HK:=ae hk;clear hk;refine eG HS.o fun w15 (HS:Hd _)=>?_;replace HS:=ae ((HS.o.EB (by simp[HK.o])));obtain⟨e0,e1,e2,e3,e4,e5⟩:=fU.of (show _=some (Z06 4 nm Z05 Z05 0) from(HS.o.self.2.2.1).2);go_wp2_with fail;refine dv {kind:=4,name:=nm} [ty,v] (vs:=#[.slice a1 ty.length k1,.slice a2 v.length k2]) (.cons (HS.o.self.2.1).1.2.to (.cons (HS.o.self.1).1.2.to .nil)) (by have:=(HS.o.self.2.1).2;have:=(HS.o.self.1).2;simp[made]<;>omega) (by simp) HS.o fun w16 am jm (HS:Hd _)=>?_;have hm:=HS.o;obtain⟨Cw,PG,_,_,_,zD,_⟩:=hm.self.1.2;have Uz:=ae zD;have DH:=ae ((HL.o.o.sm (HS.o.self.2.2.2.2) HL.o.s.cur.sp).row);have OQ:Hd (acc.flatten.length+(made {kind:=4,name:=nm} [ty,v]).length≤9000000):=by have:=(HS.o.self.2.1).2;have:=(HS.o.self.2.2.1).2;have:=HL.o.z;unfold Hd;rw[eE];simp only[List.flatten_cons,List.flatten_nil,List.append_nil,List.length_append,List.length_nil,List.nil_append];omega
        clear e0 e1 e2 e3 e4 e5 zD hm;go_wp2_with (at_builtin;refine kK w.heap.size Cw rfl _ _ _ rfl 67 _ 6 72 Tryz.underlying23 np rfl (by omega) u3 (.slice am (made {kind:=4,name:=nm} [ty,v]).length jm) acc.flatten.length (made {kind:=4,name:=nm} [ty,v]).length (gF acc.flatten) (gF (made {kind:=4,name:=nm} [ty,v])) rfl rfl DH.o Uz.o (j0 _) (by have:=OQ.o;simp only[maxLen];omega) (by have:=OQ.o;omega) HS.o.st.cur.new ?_);intro vn wn (HW:Hd _) (HG:Hd _) bV;have hm:=HS.o;have HM:=ae hm;clear hm bV;go_wp2_with fail;obtain⟨m2,h⟩:=HL.o.next (v':=vn) HB.o HJ.o HI.o HM.o (th c.l) (by decide) (by first| exact HW.o|(rw[List.length_flatten];exact HW.o)) HG.o (fun _ _=>trivial)
        have HN:=ae h;clear h;go_roundg (gk-1)
        case measure=>have:=jF.o;omega
        case rel=>exact⟨j+1,m2,_,_,by have:=jF.o;omega,by go_num,HN.o⟩
theorem r9(c:Sx)(p:Ps)(w:World)(h:fV c p w)(hd:p.deep≤90):Calls Tryz.prog 27 #[.pointer (some ⟨c.sp,0,none⟩)] w (aM c (eF c.l p).2 (eF c.l p).1 w):=by
 obtain⟨r,hr⟩:∃r,(eF c.l) p=r:=⟨_,rfl⟩;rw[hr];unfold eF at hr;have HS:=ae (gz hr h hd);clear h hd hr;go_enter Tryz.func27,Tryz.ntmps27;go_wp2_with fail;refine e9 HS.o fun tt q1 w1 (HS:Hd _)=>?_;replace HS:=ae (HS.o.kind);by_cases hk:ag c.l q1.pos=15
 · skip
   have y1:(ag c.l q1.pos==15)=true:=by simpa using hk
   go_wp2_with fail;refine eG ((HS.o.alloc (Z06 2 Z05 Z05 tt 0)).xU hk) fun w2 (HS:Hd _)=>?_;clear hk;go_wp2_with fail;clear y1;refine e9 HS.o fun nm q3 w3 (HS:Hd _)=>?_;have e1:=cell_of (show _=some (Z06 2 Z05 Z05 tt 0) from HS.o.self.1.2) (i:=1) rfl;have f1:=aF HS.o.self.1.2 1;go_wp2_with fail;clear e1 f1;have E0:=fU.of (show _=some (Z06 2 nm Z05 tt 0) from(((HS.o.own (i:=1) (u:=.string nm) (fun _=>trivial))).self.1).2);have qi:=E0.sm ((Sm.refl [] _).drew) (by simp);go_wp2_with fail
   go_region_held3 (fun W=>W.cell? ⟨w1.heap.size,0,none⟩=some (.int .i64 2)∧W.cell? ⟨w1.heap.size,1,none⟩=some (.string nm)∧W.cell? ⟨w1.heap.size,2,none⟩=some (.string ByteArray.empty)∧W.cell? ⟨w1.heap.size,3,none⟩=some (.string tt)∧W.cell? ⟨w1.heap.size,4,none⟩=some (.int .i64 0)∧W.cell? ⟨w1.heap.size,5,none⟩=some (.int .i64 0)) (first| exact E0|exact qi|exact Fj|exact(Fj.alloc _)|exact tK|exact(tK.alloc _)|exact Ds|exact(Ds.alloc _)|exact um)
    (first
     | (go_at_call 62;refine bt (xc c _ _ ((HS.o.own (i:=1) (u:=.string nm) (fun _=>trivial)).drew).st.cur.at_ (by have:=((HS.o.own (i:=1) (u:=.string nm) (fun _=>trivial)).drew).st.dh;omega)) ((HS.o.own (i:=1) (u:=.string nm) (fun _=>trivial)).drew) (oZ c.l) (by decide) (fun v q4 w4 a1 k1 sx=>?_);have Fj:=fU.of (sx.self.2.1).2)
     | (go_at_call 30;refine bt (bl c false _ _ sx.st.cur.at_ (by have:=sx.st.dh;omega)) sx (az c.l false) (by decide) (fun d q5 w5 a2 k2 gT=>?_);have tK:=fU.of (gT.self.2.2.1).2)
     | (go_at_call 24;refine bt (kF c _ _ gT.st.cur.at_ (by have:=gT.st.dh;omega)) gT (dI c.l 62) (by decide) (fun x q6 w6 a3 k3 mD=>?_);have Ds:=fU.of (mD.self.2.2.2.1).2)
     | (go_at_call 18;refine dv {kind:=2,text:=tt,name:=nm} [v,d,x] (vs:=#[.slice a1 v.length k1,.slice a2 d.length k2,.slice a3 x.length k3]) (.cons (mD.self.2.2.1).1.2.to (.cons (mD.self.2.1).1.2.to (.cons (mD.self.1).1.2.to .nil))) (by have:=(mD.self.2.2.1).2;have:=(mD.self.2.1).2;have:=(mD.self.1).2;simp[made]<;>omega) (by simp) mD (fun w7 am jm hm=>?_);have um:=fU.of (hm.self.2.2.2.2.1).2))
   all_goals go_wp2_with fail;go_returns;exact bz hm hm.self.1
 · skip
   have y1:(ag c.l q1.pos==15)=false:=by simpa using hk
   go_wp2_with fail;refine eG (((HS.o.alloc (Z06 2 Z05 Z05 tt 0)).Kc hk).pure) fun w8 (HS:Hd _)=>?_;clear hk;have E0:=fU.of (show _=some (Z06 2 Z05 Z05 tt 0) from(HS.o.self.1).2);have qi:=E0.sm ((Sm.refl [] _).drew) (by simp);go_wp2_with fail
   go_region_held3 (fun W=>W.cell? ⟨w1.heap.size,0,none⟩=some (.int .i64 2)∧W.cell? ⟨w1.heap.size,1,none⟩=some (.string ByteArray.empty)∧W.cell? ⟨w1.heap.size,2,none⟩=some (.string ByteArray.empty)∧W.cell? ⟨w1.heap.size,3,none⟩=some (.string tt)∧W.cell? ⟨w1.heap.size,4,none⟩=some (.int .i64 0)∧W.cell? ⟨w1.heap.size,5,none⟩=some (.int .i64 0)) (first| exact E0|exact qi|exact Fj|exact(Fj.alloc _)|exact tK|exact(tK.alloc _)|exact Ds|exact(Ds.alloc _)|exact um)
    (first
     | (go_at_call 62;refine bt (xc c _ _ (HS.o.drew).st.cur.at_ (by have:=(HS.o.drew).st.dh;omega)) (HS.o.drew) (oZ c.l) (by decide) (fun v q9 w9 a4 k4 sx=>?_);have Fj:=fU.of (sx.self.2.1).2)
     | (go_at_call 30;refine bt (bl c false _ _ sx.st.cur.at_ (by have:=sx.st.dh;omega)) sx (az c.l false) (by decide) (fun d yT w10 a5 k5 gT=>?_);have tK:=fU.of (gT.self.2.2.1).2)
     | (go_at_call 24;refine bt (kF c _ _ gT.st.cur.at_ (by have:=gT.st.dh;omega)) gT (dI c.l 62) (by decide) (fun x X8 w11 a6 k6 mD=>?_);have Ds:=fU.of (mD.self.2.2.2.1).2)
     | (go_at_call 18;refine dv {kind:=2,text:=tt} [v,d,x] (vs:=#[.slice a4 v.length k4,.slice a5 d.length k5,.slice a6 x.length k6]) (.cons (mD.self.2.2.1).1.2.to (.cons (mD.self.2.1).1.2.to (.cons (mD.self.1).1.2.to .nil))) (by have:=(mD.self.2.2.1).2;have:=(mD.self.2.1).2;have:=(mD.self.1).2;simp[made]<;>omega) (by simp) mD (fun w12 am jm hm=>?_);have um:=fU.of (hm.self.2.2.2.2.1).2))
   all_goals go_wp2_with fail;go_returns;exact bz hm hm.self.1
theorem G8(c:Sx)(p:Ps)(w:World)(h:fV c p w)(hd:p.deep≤90):Calls Tryz.prog 28 #[.pointer (some ⟨c.sp,0,none⟩)] w (aM c (dx c.l p).2 (dx c.l p).1 w):=by
 obtain⟨r,hr⟩:∃r,(dx c.l) p=r:=⟨_,rfl⟩;rw[hr];unfold dx at hr;have HS:=ae (gz hr h hd);clear h hd hr;go_enter Tryz.func28,Tryz.ntmps28;go_wp2_with fail;replace HS:=ae (HS.o.word)
 cases hw:(cR c.l 0 ly p).1 with
 | true=>
  rw[hw] at HS;replace HS:=ae (HS.o.yes (by simp));refine hQ (s:=ly) HS.o fun w1 (HS:Hd _)=>?_;go_wp2_with fail;clear hw;refine iV HS.o fun q2 w2 h=>?_;replace HS:=ae h;clear h;go_wp2_with fail;go_returns
  exact eA HS.o
 | false=>
  rw[hw] at HS;replace HS:=ae (HS.o.no (by simp));refine hQ (s:=ly) HS.o fun w3 h=>?_;replace HS:=ae h;clear h;go_wp2_with fail;clear hw;refine e9 HS.o fun nm q4 w4 h=>?_;replace HS:=ae h;clear h;replace HS:=ae (HS.o.kind);have d5:∀o,(World.alloc w4 o).cell? ⟨c.sp,5,none⟩=some (.bool q4.unsure):=fun o=>(HS.o.alloc o).st.cur.at_.c5;have lS:∀o,(World.alloc w4 o).frozen? ⟨c.sp,5,none⟩=false:=fun o=>(HS.o.alloc o).st.cur.at_.free 5
  cases hu:q4.unsure with
  | true=>
   simp only[hu] at d5;have HU:=ae hu;clear hu;go_wp2_with fail;clear d5 lS;refine A3 ((HS.o.alloc (Z06 3 nm Z05 Z05 0)).l9 (u:=true) (by simp[HU.o])) fun q5 w5 h=>?_;replace HS:=ae h;clear h;go_wp2_with fail;replace HS:=ae (HS.o.word)
   cases hw:(cR c.l 0 ly q5).1 with
   | false=>
    rw[hw] at HS;replace HS:=ae (HS.o.yes (by simp));refine hQ (s:=ly) HS.o fun w6 h=>?_;replace HS:=ae h;clear h;go_wp2_with fail;clear hw;refine iV HS.o fun q7 w7 h=>?_;replace HS:=ae h;clear h;go_wp2_with fail;go_returns
    exact eA HS.o
   | true=>
    have EF:=ae (qS hw);rw[hw] at HS;replace HS:=ae (HS.o.no (by simp));refine hQ (s:=ly) HS.o fun w8 h=>?_;replace HS:=ae h;clear h;have d1:=HS.o.st.cur.at_.c1;have uq:=HS.o.st.cur.at_.free 1;have Bf:=HS.o.st.cur.pos;go_wp2_with fail;clear d1 uq Bf;refine e9 (HS.o.move (u:=(q5.pos:Int)+1) (by simp) (EF.o)) fun tx q9 w9 (HS:Hd _)=>?_;have e3:=cell_of (show _=some (Z06 3 nm Z05 Z05 0) from HS.o.self.1.2) (i:=3) rfl;have f3:=aF HS.o.self.1.2 3;go_wp2_with fail;clear e3 f3;have E0:=fU.of (show _=some (Z06 3 nm Z05 tx 0) from(((HS.o.own (i:=3) (u:=.string tx) (fun _=>trivial))).self.1).2);have qi:=E0.sm ((Sm.refl [] _).drew) (by simp);go_wp2_with fail
    go_region_held3 (fun W=>W.cell? ⟨w4.heap.size,0,none⟩=some (.int .i64 3)∧W.cell? ⟨w4.heap.size,1,none⟩=some (.string nm)∧W.cell? ⟨w4.heap.size,2,none⟩=some (.string ByteArray.empty)∧W.cell? ⟨w4.heap.size,3,none⟩=some (.string tx)∧W.cell? ⟨w4.heap.size,4,none⟩=some (.int .i64 0)∧W.cell? ⟨w4.heap.size,5,none⟩=some (.int .i64 0)) (first| exact E0|exact qi|exact tK|exact(tK.alloc _)|exact Ds|exact(Ds.alloc _)|exact um)
     (first
      | (go_at_call 30;refine bt (bl c false _ _ ((HS.o.own (i:=3) (u:=.string tx) (fun _=>trivial)).drew).st.cur.at_ (by have:=((HS.o.own (i:=3) (u:=.string tx) (fun _=>trivial)).drew).st.dh;omega)) ((HS.o.own (i:=3) (u:=.string tx) (fun _=>trivial)).drew) (az c.l false) (by decide) (fun d yT w10 a1 k1 gT=>?_);have tK:=fU.of (gT.self.2.1).2)
      | (go_at_call 24;refine bt (kF c _ _ gT.st.cur.at_ (by have:=gT.st.dh;omega)) gT (dI c.l 62) (by decide) (fun x X8 w11 a2 k2 mD=>?_);have Ds:=fU.of (mD.self.2.2.1).2)
      | (go_at_call 18;refine dv {kind:=3,name:=nm,text:=tx} [d,x] (vs:=#[.slice a1 d.length k1,.slice a2 x.length k2]) (.cons (mD.self.2.1).1.2.to (.cons (mD.self.1).1.2.to .nil)) (by have:=(mD.self.2.1).2;have:=(mD.self.1).2;simp[made]<;>omega) (by simp) mD (fun w12 am jm hm=>?_);have um:=fU.of (hm.self.2.2.2.1).2))
    all_goals
     go_wp2_with fail;go_returns
     exact bz hm hm.self.1
  | false=>
   simp only[hu] at d5;have HU:=ae hu;clear hu;go_wp2_with fail;refine eG (HS.o.alloc (Z06 3 nm Z05 Z05 0)) fun w13 h=>?_;replace HS:=ae h;clear h;clear d5 lS;have d5:=HS.o.st.cur.at_.c5;have lS:=HS.o.st.cur.at_.free 5;simp only[HU.o] at d5;go_wp2_with fail;clear d5 lS;refine A3 (HS.o.l9 (u:=(ag c.l q4.pos==4)) (by first| (rw[HU.o,Bool.false_or];first| exact il _ _|exact ik _ _)|simp[HU.o,bne])) fun Rp w14 h=>?_
   replace HS:=ae h;clear h;go_wp2_with fail;replace HS:=ae (HS.o.word)
   cases hw:(cR c.l 0 ly Rp).1 with
   | false=>
    rw[hw] at HS;replace HS:=ae (HS.o.yes (by simp));refine hQ (s:=ly) HS.o fun w15 h=>?_;replace HS:=ae h;clear h;go_wp2_with fail;clear hw;refine iV HS.o fun q16 w16 h=>?_;replace HS:=ae h;clear h;go_wp2_with fail;go_returns
    exact eA HS.o
   | true=>
    have EF:=ae (qS hw);rw[hw] at HS;replace HS:=ae (HS.o.no (by simp));refine hQ (s:=ly) HS.o fun w17 h=>?_;replace HS:=ae h;clear h;have d1:=HS.o.st.cur.at_.c1;have uq:=HS.o.st.cur.at_.free 1;have Bf:=HS.o.st.cur.pos;go_wp2_with fail;clear d1 uq Bf;refine e9 (HS.o.move (u:=(Rp.pos:Int)+1) (by simp) (EF.o)) fun tx X9 w18 (HS:Hd _)=>?_;have e3:=cell_of (show _=some (Z06 3 nm Z05 Z05 0) from HS.o.self.1.2) (i:=3) rfl;have f3:=aF HS.o.self.1.2 3;go_wp2_with fail;clear e3 f3;have E0:=fU.of (show _=some (Z06 3 nm Z05 tx 0) from(((HS.o.own (i:=3) (u:=.string tx) (fun _=>trivial))).self.1).2);have qi:=E0.sm ((Sm.refl [] _).drew) (by simp);go_wp2_with fail
    go_region_held3 (fun W=>W.cell? ⟨w4.heap.size,0,none⟩=some (.int .i64 3)∧W.cell? ⟨w4.heap.size,1,none⟩=some (.string nm)∧W.cell? ⟨w4.heap.size,2,none⟩=some (.string ByteArray.empty)∧W.cell? ⟨w4.heap.size,3,none⟩=some (.string tx)∧W.cell? ⟨w4.heap.size,4,none⟩=some (.int .i64 0)∧W.cell? ⟨w4.heap.size,5,none⟩=some (.int .i64 0)) (first| exact E0|exact qi|exact tK|exact(tK.alloc _)|exact Ds|exact(Ds.alloc _)|exact um)
     (first
      | (go_at_call 30;refine bt (bl c false _ _ ((HS.o.own (i:=3) (u:=.string tx) (fun _=>trivial)).drew).st.cur.at_ (by have:=((HS.o.own (i:=3) (u:=.string tx) (fun _=>trivial)).drew).st.dh;omega)) ((HS.o.own (i:=3) (u:=.string tx) (fun _=>trivial)).drew) (az c.l false) (by decide) (fun d W7 w19 a3 k3 gT=>?_);have tK:=fU.of (gT.self.2.1).2)
      | (go_at_call 24;refine bt (kF c _ _ gT.st.cur.at_ (by have:=gT.st.dh;omega)) gT (dI c.l 62) (by decide) (fun x Yo w20 a4 k4 mD=>?_);have Ds:=fU.of (mD.self.2.2.1).2)
      | (go_at_call 18;refine dv {kind:=3,name:=nm,text:=tx} [d,x] (vs:=#[.slice a3 d.length k3,.slice a4 x.length k4]) (.cons (mD.self.2.1).1.2.to (.cons (mD.self.1).1.2.to .nil)) (by have:=(mD.self.2.1).2;have:=(mD.self.1).2;simp[made]<;>omega) (by simp) mD (fun w21 am jm hm=>?_);have um:=fU.of (hm.self.2.2.2.1).2))
    all_goals go_wp2_with fail;go_returns;exact bz hm hm.self.1
theorem pZ(l:List Tok)(k:Int):Tm 0 10 10 1 1 (fq l k):=fun p=>by obtain⟨a,b,c,d⟩:=pY l k p;exact⟨a,by omega,c,by omega⟩
theorem Ol(c:Sx)(ta:Option Addr)(tk:Nat)(text:List Nd)(p:Ps)(w:World)(h:fV c p w)(hd:p.deep≤90)(ht:kM c 0 w (.slice ta text.length tk) text)(hz:text.length≤10):Calls Tryz.prog 34 #[.pointer (some ⟨c.sp,0,none⟩),.slice ta text.length tk] w (aM c (lY c.l text p).2 (lY c.l text p).1 w):=by
 obtain⟨r,hr⟩:∃r,(lY c.l text) p=r:=⟨_,rfl⟩;rw[hr];unfold lY at hr;have HS:=ae (pU hr h hd ht);have zr:=ae hz;clear hz ht;clear h hd hr;go_enter Tryz.func34,Tryz.ntmps34;go_wp2_with fail;refine e9 HS.o fun nm q1 w1 h=>?_;replace HS:=ae h;clear h;go_wp2_with fail;refine bt (bl c true _ _ (HS.o.alloc (Z06 32 nm Z05 Z05 0)).st.cur.at_ (by have:=(HS.o.alloc (Z06 32 nm Z05 Z05 0)).st.dh;omega)) (HS.o.alloc (Z06 32 nm Z05 Z05 0)) (az c.l true) (by decide) fun d q2 w2 a1 k1 h=>?_;replace HS:=ae h;clear h;have Tu:=ae (HS.o.self.1).2;replace HS:=ae (HS.o.bad);replace HS:=ae (HS.o.kind);have d4:∀o,(World.alloc w2 o).cell? ⟨c.sp,4,none⟩=some (.bool q2.bad):=fun o=>(HS.o.alloc o).st.cur.at_.c4;have fd4:∀o,(World.alloc w2 o).frozen? ⟨c.sp,4,none⟩=false:=fun o=>(HS.o.alloc o).st.cur.at_.free 4
 cases hb:q2.bad with
 | true=>
  simp only[hb] at d4;go_wp2_with fail;clear d4;refine mH ((HS.o.KZ (HS.o.self.2.2.1) (HS.o.self.1).1.2).no (fun h=>by rw[hb] at h;cases h.1)) (by decide) fun q3 w3 _ h=>?_;replace HS:=ae h;clear h;replace HS:=ae (HS.o.kind);have d5:=HS.o.st.cur.at_.c5;have lS:=HS.o.st.cur.at_.free 5
  cases hu:q3.unsure with
  | true=>
   simp only[hu] at d5;have HU:=ae hu;clear hu;go_wp2_with fail;clear d5 lS;refine cP (HS.o.l9 (u:=true) (by simp[HU.o])) (by decide) fun Xz q4 w4 _ _ h=>?_;replace HS:=ae h;clear h;replace HS:=ae (HS.o.named);go_wp2_with fail;refine e9 HS.o fun mm q5 w5 h=>?_;replace HS:=ae h;clear h;go_wp2_with fail;have EE:=ae (fun g e=>((HS.o.self.1).own.lt g e).2);refine fy {kind:=33,name:=mm} HS.o fun w6 am jm h=>?_;replace HS:=ae h;clear h;have how:=(HS.o.self.2.1).own;have cv:=HS.o.st.cur.new;go_wp2_with (at_builtin;refine gH _ rfl _ _ _ rfl 23 _ 1 24 Tryz.underlying64 fm rfl (by omega) (by omega) (.slice (some ⟨w2.heap.size,0,none⟩) 2 2) [text,d].length [.slice ta text.length tk,.slice a1 d.length k1] rfl how #[.slice am (made {kind:=33,name:=mm} []).length jm] rfl rfl (by simp[Value.oneCell']) (by simp) cv ?_);intro gn oJ wn aJ hg bV b9;have HK:=ae ((HS.o.self.2.1).add (HS.o.self.1).2 EE.o (by simpa using aJ) hg bV);have HG:=ae hg;clear how cv aJ bV b9 hg;replace HS:=ae (HS.o.FN HK.o HG.o (HS.o.self.2.1).base (fun X hX=>And.intro (oA.grow (HS.o.self.2.2.2.1) (HS.o.self.2.1) sr HG.o HS.o.st.cur.sp X hX) trivial));clear HK HG EE;go_wp2_with fail;obtain⟨R,(HF:Hd _),h⟩:=rG (item:=fq c.l 33) (HS.o.nH (E':=fun X=>oA w (w1.heap.size) (Z06 32 nm Z05 Z05 0) X∧True) (fun _ h=>⟨h.2.1,trivial⟩)) (HS.o.self.1) (by have:=zr.o;have:=Tu.o;simp[made];omega) (by simp);have HR:=ae h;clear h HS
   go_loopg [6] (many c.l) (fun g v wr=>By c w p.deep (90+(1+0)) (fun X=>oA w (w1.heap.size) (Z06 32 nm Z05 Z05 0) X∧True) (fq c.l 33) 13 R q5.deep g v wr)
   case atStart=>exact HR.o
   case round=>
    obtain⟨acc,vs,q,h⟩:=hrel;obtain⟨ak,kk,hv⟩:=h.k.form;subst hv;have HL:=ae h;clear h HR;go_wp2_with fail;refine HL.o.cP (f:=fun kids=>pure (made {kind:=32,name:=nm} kids)) HF.o (by decide) (fun w0 h=>?_) (fun rx q1 w0 ht hi h=>?_)
    · have HS:=ae h;clear h;obtain⟨e0,e1,e2,e3,e4,e5⟩:=fU.of (show _=some (Z06 32 nm Z05 Z05 0) from(HS.o.self.2.1).2);go_wp2_with fail;refine jY {kind:=32,name:=nm} (HS.o.self.1) (by have:=HL.o.z;omega) (by have:=HL.o.n;omega) HS.o fun w7 am jm (HS:Hd _)=>?_;clear e0 e1 e2 e3 e4 e5;go_wp2_with fail;go_returns;exact bz HS.o HS.o.self.1
    have HT:=ae ht;have HI:=ae hi;have HS:=ae h;clear h hi ht;go_wp2_with fail;replace HS:=ae (HS.o.as (m':=aw c.l>>=fun s=>pure (made {kind:=33,name:=s} [])) rfl);refine e9 HS.o fun m2 q8 w8 h=>?_;replace HS:=ae h;clear h;go_wp2_with fail;have MS:=ae HS.o.self.size;refine fy {kind:=33,name:=m2} HS.o fun w9 am jm h=>?_;replace HS:=ae h;clear h;have how:=(HL.o.k.sm HS.o.self.2 HL.o.s.cur.sp).own;have de:(acc.length+1)*24≤140737488355328:=by have:=HL.o.n;omega
    have cv:=HS.o.st.cur.new;go_wp2_with (at_builtin;refine gH _ rfl _ _ _ rfl 23 _ 1 24 Tryz.underlying64 fm rfl (by omega) (by omega) (.slice ak acc.length kk) acc.length vs rfl how #[.slice am (made {kind:=33,name:=m2} []).length jm] rfl rfl (by simp[Value.oneCell']) de cv ?_);intro gn oJ wn aJ hg bV b9;have HK:=ae (HL.o.add HS.o.self.2 HS.o.self.1.2 MS.o (by simpa using aJ) hg bV);have HG:=ae hg;clear how de cv aJ hg bV b9;go_wp2_with fail;obtain⟨m2,Nv,(HN:Hd _)⟩:=HL.o.next HT.o HI.o HS.o (Hq (pZ c.l 33)) (by decide) (.inr (by simp[made])) HK.o HG.o (fun X hX=>And.intro (oA.grow (HL.o.s.ext _ HS.o.self.2).1 HL.o.k HS.o.self.2 HG.o HL.o.s.cur.sp X hX) trivial);go_roundg (gk-1)
    case measure=>omega
    case rel=>exact⟨_,_,_,by rw[show gk-1=m2 by omega];exact HN.o⟩
  | false=>
   simp only[hu] at d5;have HU:=ae hu;clear hu;go_wp2_with fail;refine eG HS.o fun w10 h=>?_;replace HS:=ae h;clear h;clear d5 lS;have d5:=HS.o.st.cur.at_.c5;have lS:=HS.o.st.cur.at_.free 5;simp only[HU.o] at d5;go_wp2_with fail;clear d5 lS;refine cP (HS.o.l9 (u:=(ag c.l q3.pos==13)) (by first| (rw[HU.o,Bool.false_or];first| exact il _ _|exact ik _ _)|simp[HU.o,bne])) (by decide) fun Xz X8 w11 _ _ h=>?_
   replace HS:=ae h;clear h;replace HS:=ae (HS.o.named);go_wp2_with fail;refine e9 HS.o fun mm OI w12 h=>?_;replace HS:=ae h;clear h;go_wp2_with fail;have EE:=ae (fun g e=>((HS.o.self.1).own.lt g e).2);refine fy {kind:=33,name:=mm} HS.o fun w13 am jm h=>?_;replace HS:=ae h;clear h;have how:=(HS.o.self.2.1).own;have cv:=HS.o.st.cur.new;go_wp2_with (at_builtin;refine gH _ rfl _ _ _ rfl 23 _ 1 24 Tryz.underlying64 fm rfl (by omega) (by omega) (.slice (some ⟨w2.heap.size,0,none⟩) 2 2) [text,d].length [.slice ta text.length tk,.slice a1 d.length k1] rfl how #[.slice am (made {kind:=33,name:=mm} []).length jm] rfl rfl (by simp[Value.oneCell']) (by simp) cv ?_);intro gn oJ wn aJ hg bV b9;have HK:=ae ((HS.o.self.2.1).add (HS.o.self.1).2 EE.o (by simpa using aJ) hg bV);have HG:=ae hg;clear how cv aJ bV b9 hg;replace HS:=ae (HS.o.FN HK.o HG.o (HS.o.self.2.1).base (fun X hX=>And.intro (oA.grow (HS.o.self.2.2.2.1) (HS.o.self.2.1) sr HG.o HS.o.st.cur.sp X hX) trivial));clear HK HG EE;go_wp2_with fail;obtain⟨R,(HF:Hd _),h⟩:=rG (item:=fq c.l 33) (HS.o.nH (E':=fun X=>oA w (w1.heap.size) (Z06 32 nm Z05 Z05 0) X∧True) (fun _ h=>⟨h.2.1,trivial⟩)) (HS.o.self.1) (by have:=zr.o;have:=Tu.o;simp[made];omega) (by simp);have HR:=ae h;clear h HS
   go_loopg [6] (many c.l) (fun g v wr=>By c w p.deep (90+(1+0)) (fun X=>oA w (w1.heap.size) (Z06 32 nm Z05 Z05 0) X∧True) (fq c.l 33) 13 R OI.deep g v wr)
   case atStart=>exact HR.o
   case round=>
    obtain⟨acc,vs,q,h⟩:=hrel;obtain⟨ak,kk,hv⟩:=h.k.form;subst hv;have HL:=ae h;clear h HR;go_wp2_with fail;refine HL.o.cP (f:=fun kids=>pure (made {kind:=32,name:=nm} kids)) HF.o (by decide) (fun w0 h=>?_) (fun rx q1 w0 ht hi h=>?_)
    · have HS:=ae h;clear h;obtain⟨e0,e1,e2,e3,e4,e5⟩:=fU.of (show _=some (Z06 32 nm Z05 Z05 0) from(HS.o.self.2.1).2);go_wp2_with fail;refine jY {kind:=32,name:=nm} (HS.o.self.1) (by have:=HL.o.z;omega) (by have:=HL.o.n;omega) HS.o fun w14 am jm (HS:Hd _)=>?_;clear e0 e1 e2 e3 e4 e5;go_wp2_with fail;go_returns;exact bz HS.o HS.o.self.1
    have HT:=ae ht;have HI:=ae hi;have HS:=ae h;clear h hi ht;go_wp2_with fail;replace HS:=ae (HS.o.as (m':=aw c.l>>=fun s=>pure (made {kind:=33,name:=s} [])) rfl);refine e9 HS.o fun m2 Yn w15 (HS:Hd _)=>?_;go_wp2_with fail;have MS:=ae HS.o.self.size;refine fy {kind:=33,name:=m2} HS.o fun w16 am jm (HS:Hd _)=>?_;have how:=(HL.o.k.sm HS.o.self.2 HL.o.s.cur.sp).own;have de:(acc.length+1)*24≤140737488355328:=by have:=HL.o.n;omega
    have cv:=HS.o.st.cur.new;go_wp2_with (at_builtin;refine gH _ rfl _ _ _ rfl 23 _ 1 24 Tryz.underlying64 fm rfl (by omega) (by omega) (.slice ak acc.length kk) acc.length vs rfl how #[.slice am (made {kind:=33,name:=m2} []).length jm] rfl rfl (by simp[Value.oneCell']) de cv ?_);intro gn oJ wn aJ hg bV b9;have HK:=ae (HL.o.add HS.o.self.2 HS.o.self.1.2 MS.o (by simpa using aJ) hg bV);have HG:=ae hg;clear how de cv aJ hg bV b9;go_wp2_with fail;obtain⟨m2,Nv,(HN:Hd _)⟩:=HL.o.next HT.o HI.o HS.o (Hq (pZ c.l 33)) (by decide) (.inr (by simp[made])) HK.o HG.o (fun X hX=>And.intro (oA.grow (HL.o.s.ext _ HS.o.self.2).1 HL.o.k HS.o.self.2 HG.o HL.o.s.cur.sp X hX) trivial);go_roundg (gk-1)
    case measure=>omega
    case rel=>exact⟨_,_,_,by rw[show gk-1=m2 by omega];exact HN.o⟩
 | false=>
  simp only[hb] at d4;by_cases hk:ag c.l q2.pos=8
  · skip
    have y2:(ag c.l q2.pos !=8)=false:=by simpa using hk
    go_wp2_with fail;refine eG ((HS.o.KZ (HS.o.self.2.2.1) (HS.o.self.1).1.2).no (fun h=>h.2 hk)) fun w17 h=>?_;replace HS:=ae h;clear h;go_wp2_with fail;clear d4 y2;refine mH HS.o (by decide) fun X9 w18 _ h=>?_;replace HS:=ae h;clear h;replace HS:=ae (HS.o.kind);have d5:=HS.o.st.cur.at_.c5;have lS:=HS.o.st.cur.at_.free 5
    cases hu:X9.unsure with
    | true=>
     simp only[hu] at d5;have HU:=ae hu;clear hu;go_wp2_with fail;clear d5 lS;refine cP (HS.o.l9 (u:=true) (by simp[HU.o])) (by decide) fun Xz W7 w19 _ _ h=>?_;replace HS:=ae h;clear h;replace HS:=ae (HS.o.named);go_wp2_with fail;refine e9 HS.o fun mm Yo w20 h=>?_;replace HS:=ae h;clear h;go_wp2_with fail;have EE:=ae (fun g e=>((HS.o.self.1).own.lt g e).2);refine fy {kind:=33,name:=mm} HS.o fun w21 am jm h=>?_;replace HS:=ae h;clear h;have how:=(HS.o.self.2.1).own;have cv:=HS.o.st.cur.new;go_wp2_with (at_builtin;refine gH _ rfl _ _ _ rfl 23 _ 1 24 Tryz.underlying64 fm rfl (by omega) (by omega) (.slice (some ⟨w2.heap.size,0,none⟩) 2 2) [text,d].length [.slice ta text.length tk,.slice a1 d.length k1] rfl how #[.slice am (made {kind:=33,name:=mm} []).length jm] rfl rfl (by simp[Value.oneCell']) (by simp) cv ?_);intro gn oJ wn aJ hg bV b9;have HK:=ae ((HS.o.self.2.1).add (HS.o.self.1).2 EE.o (by simpa using aJ) hg bV);have HG:=ae hg;clear how cv aJ bV b9 hg;replace HS:=ae (HS.o.FN HK.o HG.o (HS.o.self.2.1).base (fun X hX=>And.intro (oA.grow (HS.o.self.2.2.2.1) (HS.o.self.2.1) sr HG.o HS.o.st.cur.sp X hX) trivial));clear HK HG EE;go_wp2_with fail;obtain⟨R,(HF:Hd _),h⟩:=rG (item:=fq c.l 33) (HS.o.nH (E':=fun X=>oA w (w1.heap.size) (Z06 32 nm Z05 Z05 0) X∧True) (fun _ h=>⟨h.2.1,trivial⟩)) (HS.o.self.1) (by have:=zr.o;have:=Tu.o;simp[made];omega) (by simp);have HR:=ae h;clear h HS
     go_loopg [6] (many c.l) (fun g v wr=>By c w p.deep (90+(1+0)) (fun X=>oA w (w1.heap.size) (Z06 32 nm Z05 Z05 0) X∧True) (fq c.l 33) 13 R Yo.deep g v wr)
     case atStart=>exact HR.o
     case round=>
      obtain⟨acc,vs,q,h⟩:=hrel;obtain⟨ak,kk,hv⟩:=h.k.form;subst hv;have HL:=ae h;clear h HR;go_wp2_with fail;refine HL.o.cP (f:=fun kids=>pure (made {kind:=32,name:=nm} kids)) HF.o (by decide) (fun w0 h=>?_) (fun rx q1 w0 ht hi h=>?_)
      · have HS:=ae h;clear h;obtain⟨e0,e1,e2,e3,e4,e5⟩:=fU.of (show _=some (Z06 32 nm Z05 Z05 0) from(HS.o.self.2.1).2);go_wp2_with fail;refine jY {kind:=32,name:=nm} (HS.o.self.1) (by have:=HL.o.z;omega) (by have:=HL.o.n;omega) HS.o fun w22 am jm (HS:Hd _)=>?_;clear e0 e1 e2 e3 e4 e5;go_wp2_with fail;go_returns;exact bz HS.o HS.o.self.1
      have HT:=ae ht;have HI:=ae hi;have HS:=ae h;clear h hi ht;go_wp2_with fail;replace HS:=ae (HS.o.as (m':=aw c.l>>=fun s=>pure (made {kind:=33,name:=s} [])) rfl);refine e9 HS.o fun m2 q23 w23 h=>?_;replace HS:=ae h;clear h;go_wp2_with fail;have MS:=ae HS.o.self.size;refine fy {kind:=33,name:=m2} HS.o fun w24 am jm h=>?_;replace HS:=ae h;clear h;have how:=(HL.o.k.sm HS.o.self.2 HL.o.s.cur.sp).own;have de:(acc.length+1)*24≤140737488355328:=by have:=HL.o.n;omega
      have cv:=HS.o.st.cur.new;go_wp2_with (at_builtin;refine gH _ rfl _ _ _ rfl 23 _ 1 24 Tryz.underlying64 fm rfl (by omega) (by omega) (.slice ak acc.length kk) acc.length vs rfl how #[.slice am (made {kind:=33,name:=m2} []).length jm] rfl rfl (by simp[Value.oneCell']) de cv ?_);intro gn oJ wn aJ hg bV b9;have HK:=ae (HL.o.add HS.o.self.2 HS.o.self.1.2 MS.o (by simpa using aJ) hg bV);have HG:=ae hg;clear how de cv aJ hg bV b9;go_wp2_with fail;obtain⟨m2,Nv,(HN:Hd _)⟩:=HL.o.next HT.o HI.o HS.o (Hq (pZ c.l 33)) (by decide) (.inr (by simp[made])) HK.o HG.o (fun X hX=>And.intro (oA.grow (HL.o.s.ext _ HS.o.self.2).1 HL.o.k HS.o.self.2 HG.o HL.o.s.cur.sp X hX) trivial);go_roundg (gk-1)
      case measure=>omega
      case rel=>exact⟨_,_,_,by rw[show gk-1=m2 by omega];exact HN.o⟩
    | false=>
     simp only[hu] at d5;have HU:=ae hu;clear hu;go_wp2_with fail;refine eG HS.o fun w25 h=>?_;replace HS:=ae h;clear h;clear d5 lS;have d5:=HS.o.st.cur.at_.c5;have lS:=HS.o.st.cur.at_.free 5;simp only[HU.o] at d5;go_wp2_with fail;clear d5 lS;refine cP (HS.o.l9 (u:=(ag c.l X9.pos==13)) (by first| (rw[HU.o,Bool.false_or];first| exact il _ _|exact ik _ _)|simp[HU.o,bne])) (by decide) fun Xz q26 w26 _ _ h=>?_
     replace HS:=ae h;clear h;replace HS:=ae (HS.o.named);go_wp2_with fail;refine e9 HS.o fun mm q27 w27 h=>?_;replace HS:=ae h;clear h;go_wp2_with fail;have EE:=ae (fun g e=>((HS.o.self.1).own.lt g e).2);refine fy {kind:=33,name:=mm} HS.o fun w28 am jm h=>?_;replace HS:=ae h;clear h;have how:=(HS.o.self.2.1).own;have cv:=HS.o.st.cur.new;go_wp2_with (at_builtin;refine gH _ rfl _ _ _ rfl 23 _ 1 24 Tryz.underlying64 fm rfl (by omega) (by omega) (.slice (some ⟨w2.heap.size,0,none⟩) 2 2) [text,d].length [.slice ta text.length tk,.slice a1 d.length k1] rfl how #[.slice am (made {kind:=33,name:=mm} []).length jm] rfl rfl (by simp[Value.oneCell']) (by simp) cv ?_);intro gn oJ wn aJ hg bV b9;have HK:=ae ((HS.o.self.2.1).add (HS.o.self.1).2 EE.o (by simpa using aJ) hg bV);have HG:=ae hg;clear how cv aJ bV b9 hg;replace HS:=ae (HS.o.FN HK.o HG.o (HS.o.self.2.1).base (fun X hX=>And.intro (oA.grow (HS.o.self.2.2.2.1) (HS.o.self.2.1) sr HG.o HS.o.st.cur.sp X hX) trivial));clear HK HG EE;go_wp2_with fail;obtain⟨R,(HF:Hd _),h⟩:=rG (item:=fq c.l 33) (HS.o.nH (E':=fun X=>oA w (w1.heap.size) (Z06 32 nm Z05 Z05 0) X∧True) (fun _ h=>⟨h.2.1,trivial⟩)) (HS.o.self.1) (by have:=zr.o;have:=Tu.o;simp[made];omega) (by simp);have HR:=ae h;clear h HS
     go_loopg [6] (many c.l) (fun g v wr=>By c w p.deep (90+(1+0)) (fun X=>oA w (w1.heap.size) (Z06 32 nm Z05 Z05 0) X∧True) (fq c.l 33) 13 R q27.deep g v wr)
     case atStart=>exact HR.o
     case round=>
      obtain⟨acc,vs,q,h⟩:=hrel;obtain⟨ak,kk,hv⟩:=h.k.form;subst hv;have HL:=ae h;clear h HR;go_wp2_with fail;refine HL.o.cP (f:=fun kids=>pure (made {kind:=32,name:=nm} kids)) HF.o (by decide) (fun w0 h=>?_) (fun rx q1 w0 ht hi h=>?_)
      · have HS:=ae h;clear h;obtain⟨e0,e1,e2,e3,e4,e5⟩:=fU.of (show _=some (Z06 32 nm Z05 Z05 0) from(HS.o.self.2.1).2);go_wp2_with fail;refine jY {kind:=32,name:=nm} (HS.o.self.1) (by have:=HL.o.z;omega) (by have:=HL.o.n;omega) HS.o fun w29 am jm (HS:Hd _)=>?_;clear e0 e1 e2 e3 e4 e5;go_wp2_with fail;go_returns;exact bz HS.o HS.o.self.1
      have HT:=ae ht;have HI:=ae hi;have HS:=ae h;clear h hi ht;go_wp2_with fail;replace HS:=ae (HS.o.as (m':=aw c.l>>=fun s=>pure (made {kind:=33,name:=s} [])) rfl);refine e9 HS.o fun m2 q30 w30 (HS:Hd _)=>?_;go_wp2_with fail;have MS:=ae HS.o.self.size;refine fy {kind:=33,name:=m2} HS.o fun w31 am jm (HS:Hd _)=>?_;have how:=(HL.o.k.sm HS.o.self.2 HL.o.s.cur.sp).own;have de:(acc.length+1)*24≤140737488355328:=by have:=HL.o.n;omega
      have cv:=HS.o.st.cur.new;go_wp2_with (at_builtin;refine gH _ rfl _ _ _ rfl 23 _ 1 24 Tryz.underlying64 fm rfl (by omega) (by omega) (.slice ak acc.length kk) acc.length vs rfl how #[.slice am (made {kind:=33,name:=m2} []).length jm] rfl rfl (by simp[Value.oneCell']) de cv ?_);intro gn oJ wn aJ hg bV b9;have HK:=ae (HL.o.add HS.o.self.2 HS.o.self.1.2 MS.o (by simpa using aJ) hg bV);have HG:=ae hg;clear how de cv aJ hg bV b9;go_wp2_with fail;obtain⟨m2,Nv,(HN:Hd _)⟩:=HL.o.next HT.o HI.o HS.o (Hq (pZ c.l 33)) (by decide) (.inr (by simp[made])) HK.o HG.o (fun X hX=>And.intro (oA.grow (HL.o.s.ext _ HS.o.self.2).1 HL.o.k HS.o.self.2 HG.o HL.o.s.cur.sp X hX) trivial);go_roundg (gk-1)
      case measure=>omega
      case rel=>exact⟨_,_,_,by rw[show gk-1=m2 by omega];exact HN.o⟩
  · skip
    have y2:(ag c.l q2.pos !=8)=true:=by simpa using hk
    go_wp2_with fail;refine eG ((HS.o.KZ (HS.o.self.2.2.1) (HS.o.self.1).1.2).yes ⟨hb,hk⟩) fun w32 (HS:Hd _)=>?_;have d5:=HS.o.st.cur.at_.c5;have lS:=HS.o.st.cur.at_.free 5;go_wp2_with fail;clear d4 y2 d5 lS;refine iV (HS.o.l9 (u:=true) (by simp)) fun q33 w33 (HS:Hd _)=>?_;go_wp2_with fail;go_returns;exact eA HS.o
end Go.Proofs.YtnpjmhodfdgloaaGreatDoor
