/- Part of the proof. -/
import Derived.Test.YtnpjmhodfdgloaaGreatDoorQ30
set_option linter.unusedVariables false
set_option linter.unusedSimpArgs false
namespace Go.Proofs.YtnpjmhodfdgloaaGreatDoor
set_option maxRecDepth 100000
set_option maxHeartbeats 32000000
open Go.RowKit
attribute [local go_sem ↓] Go.wp_at_zero Go.wp_at_succ
theorem xv(c:Sx)(bb ee:Int)(gP:bb≠1)(Nr:ee≠1)(p:Ps)(w:World)(h:fV c p w)(hd:p.deep≤110):Calls Tryz.prog 36 #[.pointer (some ⟨c.sp,0,none⟩),.int .i64 bb,.int .i64 ee] w (aM c (fX c.l bb ee p).2 (fX c.l bb ee p).1 w):=by
 obtain⟨r,hr⟩:∃r,(fX c.l bb ee) p=r:=⟨_,rfl⟩;rw[hr];rw[Lk] at hr;have HS:=ae (gz hr h hd);have EC:=ae gP;have Uu:=ae Nr;clear gP Nr;clear h hd hr;go_enter Tryz.func36,Tryz.ntmps36;go_wp2_with fail;refine Kr HS.o EC.o fun b q1 w1 hp (HS:Hd _)=>?_;clear hp
 cases b with
 | false=>
  replace HS:=ae (HS.o.no (by simp));go_wp2_with fail;go_returns
  exact eA HS.o
 | true=>
  replace HS:=ae (HS.o.yes (by simp));go_wp2_with fail;obtain⟨R,hr,(HR:Hd _)⟩:=vx (item:=sE c.l) HS.o;subst hr;clear HS
  go_loopg [7,8] 1000010 (fun g v ii wr=>Bz c w p.deep 110 (fun _=>True) (sE c.l) ee R q1.deep g v ii wr)
  case atStart=>exact HR.o
  case round=>
   obtain⟨j,m,acc,q,(jF:Hd _),rfl,h⟩:=hrel;have HL:=ae h;have TN:=h.jb;have d4:=h.s.cur.at_.c4;clear h HR;go_upto_region 5 with fail
   go_cut [32] from 18 to 32 (fun v wx=>∃b,v=.bool b∧Hd ((b=false→aM c R.2 R.1.flatten w (.returned u7) wx)∧(b=true→qV c w p.deep 110 (fun _=>True) (sE c.l) ee R q1.deep j m acc u7 q wx∧q.bad=false∧(j=0∨(ay c.l ee q).1=false))))
   case first=>
    cases hb:q.bad with
    | true=>
     rw[hb] at d4;have HB:=ae hb;clear hb;go_wp2_with fail;go_meet
     exact⟨false,rfl,fun _=>HL.o.bad HB.o,fun e=>by cases e⟩
    | false=>
     rw[hb] at d4;have HB:=ae hb;clear hb;by_cases hj:j=0
     · have y0:((j:Int)==0)=true:=by simp[hj]
       have HJ:=ae hj;clear hj;go_wp2_with fail;go_meet;exact⟨true,rfl,fun e=>(by cases e),fun _=>⟨HL.o,HB.o,.inl HJ.o⟩⟩
     · have y0:((j:Int)==0)=false:=by simp;omega
       have Ia:=ae hj;clear hj;go_wp2_with fail;refine HL.o.cP Ia.o HB.o Uu.o (fun w0 h=>?_) (fun w0 h ht=>?_)
       · have HE:=ae h;clear h;go_wp2_with fail;go_meet;exact⟨false,rfl,fun _=>HE.o,fun e=>by cases e⟩
       · have HE:=ae h;have HT:=ae ht;clear h ht;go_wp2_with fail;go_meet;exact⟨true,rfl,fun e=>(by cases e),fun _=>⟨HE.o,HB.o,.inr HT.o⟩⟩
   case rest=>
    obtain⟨b,rfl,hh⟩:=hcut;clear d4 HL
    cases b with
    | false=>
     have HE:=ae (hh.out.1 rfl);clear hh;go_wp2_with fail;go_returns
     exact HE.o
    | true=>
     obtain⟨h,hb,(HJ:Hd _)⟩:=hh.out.2 rfl;have HL:=ae h;have HB:=ae hb;obtain⟨rx,(HI:Hd _),h⟩:=h.Sp hb;have HS:=ae h;clear hh h hb;go_wp2_with fail;refine uk HS.o fun ab q2 w2 a1 k1 (HS:Hd _)=>?_;go_wp2_with fail;refine e9 HS.o fun nm q3 w3 (HS:Hd _)=>?_;have AA:=ae (((HS.o.self.2)).size);go_wp2_with fail;refine mH (HS.o.alloc (Z06 30 nm Z05 Z05 0)) (by decide) fun q4 w4 _ (HS:Hd _)=>?_;go_wp2_with fail;refine bt (vL c _ _ HS.o.st.cur.at_ (by have:=HS.o.st.dh;omega)) HS.o (lM c.l 62) (by decide) fun ty q5 w5 a2 k2 (HS:Hd _)=>?_;go_wp2_with fail;replace HS:=ae (HS.o.assoc);refine cP HS.o (by decide) fun bv q6 w6 _ (HP:Hd _) (HS:Hd _)=>?_
     cases bv with
     | false=>
      replace HS:=ae (HS.o.Kc (by simp)|>.pure)
      go_wp2_with fail;have E0:=fU.of (show _=some (Z06 30 nm Z05 Z05 0) from(HS.o.self.2.1).2);have qi:=E0.sm ((Sm.refl [] _).drew) (by simp);go_wp2_with fail
      go_region_held3 (fun W=>W.cell? ⟨w3.heap.size,0,none⟩=some (.int .i64 30)∧W.cell? ⟨w3.heap.size,1,none⟩=some (.string nm)∧W.cell? ⟨w3.heap.size,2,none⟩=some (.string ByteArray.empty)∧W.cell? ⟨w3.heap.size,3,none⟩=some (.string ByteArray.empty)∧W.cell? ⟨w3.heap.size,4,none⟩=some (.int .i64 0)∧W.cell? ⟨w3.heap.size,5,none⟩=some (.int .i64 0)) (first| exact E0|exact qi|exact tK|exact(tK.alloc _)|exact um|exact un)
       (first
        | (go_at_call 30;refine bt (bl c true _ _ (HS.o.drew).st.cur.at_ (by have:=(HS.o.drew).st.dh;omega)) (HS.o.drew) (az c.l true) (by decide) (fun d q7 w7 a3 k3 gT=>?_);have tK:=fU.of (gT.self.2.2.1).2)
        | (go_at_call 18;refine dv {kind:=30,name:=nm} [ab,ty,([]:List Nd),d] (vs:=#[.slice a1 ab.length k1,.slice a2 ty.length k2,.slice none 0 0,.slice a3 d.length k3]) (.cons (gT.self.2.2.2.1).1.2.to (.cons (gT.self.2.1).1.2.to (.cons (kM.nil c _).to (.cons (gT.self.1).1.2.to .nil)))) (by have:=(gT.self.2.2.2.1).2;have:=(gT.self.2.1).2;have:=(gT.self.1).2;simp[made]<;>omega) (by simp) gT (fun w8 am jm hm=>?_);have um:=fU.of (hm.self.2.2.2.1).2;obtain⟨Cw,PG,_,_,_,zD,_⟩:=hm.self.1.2;have UZ:acc.flatten.length+(made {kind:=30,name:=nm} [ab,ty,([]:List Nd),d]).length≤9000000:=(by have:=(gT.self.2.2.2.1).2;have:=(gT.self.2.1).2;have:=(gT.self.1).2;have:=HL.o.z;rw[eE];simp only[List.flatten_cons,List.flatten_nil,List.append_nil,List.length_append,List.length_nil,List.nil_append];omega))
        | (refine iv w.heap.size Cw rfl _ _ _ rfl 67 _ 6 72 Tryz.underlying23 np rfl (by omega) u7 (.slice am (made {kind:=30,name:=nm} [ab,ty,([]:List Nd),d]).length jm) acc.flatten.length (made {kind:=30,name:=nm} [ab,ty,([]:List Nd),d]).length (gF acc.flatten) (gF (made {kind:=30,name:=nm} [ab,ty,([]:List Nd),d])) rfl rfl (HL.o.o.sm (hm.self.2.2.2.2.2) HL.o.s.cur.sp).row zD (j0 _) (by simp only[maxLen];omega) (by omega) hm.st.cur.new ?_;intro vn wn aJ hg bV;have un:=um.grown hg (fun e=>by have h1:=(HL.o.o.lt _ e).2;have h2:=AA.o;omega)))
      all_goals
       have HM:=ae hm;have HW:=ae aJ;have HG:=ae hg;clear hm aJ hg bV;go_wp2_with fail;obtain⟨m2,h⟩:=HL.o.next (v':=vn) HB.o HJ.o HI.o HM.o (Dk c.l) (by decide) (by first| exact HW.o|(rw[List.length_flatten];exact HW.o)) HG.o (fun _ _=>trivial)
       have HN:=ae h;clear h;go_roundg (gk-1)
       case measure=>have:=jF.o;omega
       case rel=>exact⟨j+1,m2,_,_,by have:=jF.o;omega,by go_num,HN.o⟩
     | true=>
      replace HS:=ae (HS.o.xU (by simp));go_wp2_with fail;refine bt (A6 c true _ _ HS.o.st.cur.at_ (by have:=HS.o.st.dh;omega)) HS.o (iz c.l true 62) (by decide) fun v q9 w9 a4 k4 (HS:Hd _)=>?_;have E0:=fU.of (show _=some (Z06 30 nm Z05 Z05 0) from(HS.o.self.2.2.1).2);have qi:=E0.sm ((Sm.refl [] _).drew) (by simp);go_wp2_with fail
      go_region_held3 (fun W=>W.cell? ⟨w3.heap.size,0,none⟩=some (.int .i64 30)∧W.cell? ⟨w3.heap.size,1,none⟩=some (.string nm)∧W.cell? ⟨w3.heap.size,2,none⟩=some (.string ByteArray.empty)∧W.cell? ⟨w3.heap.size,3,none⟩=some (.string ByteArray.empty)∧W.cell? ⟨w3.heap.size,4,none⟩=some (.int .i64 0)∧W.cell? ⟨w3.heap.size,5,none⟩=some (.int .i64 0)) (first| exact E0|exact qi|exact tK|exact(tK.alloc _)|exact um|exact un)
       (first
        | (go_at_call 30;refine bt (bl c true _ _ (HS.o.drew).st.cur.at_ (by have:=(HS.o.drew).st.dh;omega)) (HS.o.drew) (az c.l true) (by decide) (fun d yT w10 a5 k5 gT=>?_);have tK:=fU.of (gT.self.2.2.2.1).2)
        | (go_at_call 18;refine dv {kind:=30,name:=nm} [ab,ty,v,d] (vs:=#[.slice a1 ab.length k1,.slice a2 ty.length k2,.slice a4 v.length k4,.slice a5 d.length k5]) (.cons (gT.self.2.2.2.2.1).1.2.to (.cons (gT.self.2.2.1).1.2.to (.cons (gT.self.2.1).1.2.to (.cons (gT.self.1).1.2.to .nil)))) (by have:=(gT.self.2.2.2.2.1).2;have:=(gT.self.2.2.1).2;have:=(gT.self.2.1).2;have:=(gT.self.1).2;simp[made]<;>omega) (by simp) gT (fun w11 am jm hm=>?_);have um:=fU.of (hm.self.2.2.2.2.1).2;obtain⟨Cw,PG,_,_,_,zD,_⟩:=hm.self.1.2;have UZ:acc.flatten.length+(made {kind:=30,name:=nm} [ab,ty,v,d]).length≤9000000:=(by have:=(gT.self.2.2.2.2.1).2;have:=(gT.self.2.2.1).2;have:=(gT.self.2.1).2;have:=(gT.self.1).2;have:=HL.o.z;rw[eE];simp only[List.flatten_cons,List.flatten_nil,List.append_nil,List.length_append,List.length_nil,List.nil_append];omega))
        | (refine iv w.heap.size Cw rfl _ _ _ rfl 67 _ 6 72 Tryz.underlying23 np rfl (by omega) u7 (.slice am (made {kind:=30,name:=nm} [ab,ty,v,d]).length jm) acc.flatten.length (made {kind:=30,name:=nm} [ab,ty,v,d]).length (gF acc.flatten) (gF (made {kind:=30,name:=nm} [ab,ty,v,d])) rfl rfl (HL.o.o.sm (hm.self.2.2.2.2.2.2) HL.o.s.cur.sp).row zD (j0 _) (by simp only[maxLen];omega) (by omega) hm.st.cur.new ?_;intro vn wn aJ hg bV;have un:=um.grown hg (fun e=>by have h1:=(HL.o.o.lt _ e).2;have h2:=AA.o;omega)))
      all_goals
       have HM:=ae hm;have HW:=ae aJ;have HG:=ae hg;clear hm aJ hg bV;go_wp2_with fail;obtain⟨m2,h⟩:=HL.o.next (v':=vn) HB.o HJ.o HI.o HM.o (Dk c.l) (by decide) (by first| exact HW.o|(rw[List.length_flatten];exact HW.o)) HG.o (fun _ _=>trivial)
       have HN:=ae h;clear h;go_roundg (gk-1)
       case measure=>have:=jF.o;omega
       case rel=>exact⟨j+1,m2,_,_,by have:=jF.o;omega,by go_num,HN.o⟩
theorem xq(c:Sx)(p:Ps)(w:World)(h:fV c p w)(hd:p.deep≤100):Calls Tryz.prog 33 #[.pointer (some ⟨c.sp,0,none⟩)] w (aM c (hZ c.l p).2 (hZ c.l p).1 w):=by
 obtain⟨r,hr⟩:∃r,(hZ c.l) p=r:=⟨_,rfl⟩;rw[hr];rw[Lj] at hr;have HS:=ae (gz hr h hd);clear h hd hr;go_enter Tryz.func33,Tryz.ntmps33;go_wp2_with fail;refine Kr HS.o (by decide) fun b q1 w1 hp (HS:Hd _)=>?_;clear hp
 cases b with
 | false=>
  replace HS:=ae (HS.o.no (by simp));go_wp2_with fail;go_returns
  exact eA HS.o
 | true=>
  replace HS:=ae (HS.o.yes (by simp));go_wp2_with fail;obtain⟨R,hr,(HR:Hd _)⟩:=vx (item:=sl c.l) HS.o;subst hr;clear HS
  go_loopg [3,4] 1000010 (fun g v ii wr=>Bz c w p.deep 100 (fun _=>True) (sl c.l) 14 R q1.deep g v ii wr)
  case atStart=>exact HR.o
  case round=>
   obtain⟨j,m,acc,q,(jF:Hd _),rfl,h⟩:=hrel;have HL:=ae h;have TN:=h.jb;have d4:=h.s.cur.at_.c4;clear h HR;go_upto_region 5 with fail
   go_cut [25] from 12 to 25 (fun v wx=>∃b,v=.bool b∧Hd ((b=false→aM c R.2 R.1.flatten w (.returned u3) wx)∧(b=true→qV c w p.deep 100 (fun _=>True) (sl c.l) 14 R q1.deep j m acc u3 q wx∧q.bad=false∧(j=0∨(ay c.l 14 q).1=false))))
   case first=>
    cases hb:q.bad with
    | true=>
     rw[hb] at d4;have HB:=ae hb;clear hb;go_wp2_with fail;go_meet
     exact⟨false,rfl,fun _=>HL.o.bad HB.o,fun e=>by cases e⟩
    | false=>
     rw[hb] at d4;have HB:=ae hb;clear hb;by_cases hj:j=0
     · have y0:((j:Int)==0)=true:=by simp[hj]
       have HJ:=ae hj;clear hj;go_wp2_with fail;go_meet;exact⟨true,rfl,fun e=>(by cases e),fun _=>⟨HL.o,HB.o,.inl HJ.o⟩⟩
     · have y0:((j:Int)==0)=false:=by simp;omega
       have Ia:=ae hj;clear hj;go_wp2_with fail;refine HL.o.cP Ia.o HB.o (by decide) (fun w0 h=>?_) (fun w0 h ht=>?_)
       · have HE:=ae h;clear h;go_wp2_with fail;go_meet;exact⟨false,rfl,fun _=>HE.o,fun e=>by cases e⟩
       · have HE:=ae h;have HT:=ae ht;clear h ht;go_wp2_with fail;go_meet;exact⟨true,rfl,fun e=>(by cases e),fun _=>⟨HE.o,HB.o,.inr HT.o⟩⟩
   case rest=>
    obtain⟨b,rfl,hh⟩:=hcut;clear d4 HL
    cases b with
    | false=>
     have HE:=ae (hh.out.1 rfl);clear hh;go_wp2_with fail;go_returns
     exact HE.o
    | true=>
     obtain⟨h,hb,(HJ:Hd _)⟩:=hh.out.2 rfl;have HL:=ae h;have HB:=ae hb;obtain⟨rx,(HI:Hd _),h⟩:=h.Sp hb;have HS:=ae h;clear hh h hb;go_wp2_with fail;refine uk HS.o fun ab q2 w2 a1 k1 (HS:Hd _)=>?_;go_wp2_with fail;refine e9 HS.o fun nm q3 w3 (HS:Hd _)=>?_;replace HS:=ae (HS.o.kind);have AA:=ae (((HS.o.self.2)).size);by_cases hk:ag c.l q3.pos=4
     · skip
       have y1:(ag c.l q3.pos==4)=true:=by simpa using hk
       go_wp2_with fail;refine eG ((HS.o.alloc (Z06 29 nm Z05 Z05 0)).xU hk) fun w4 (HS:Hd _)=>?_;clear hk;go_wp2_with fail;clear y1;refine bt (xv c 4 5 (by decide) (by decide) _ _ HS.o.st.cur.at_ (by have:=HS.o.st.dh;omega)) HS.o (kW c.l 4 5) (by decide) fun v q5 w5 a2 k2 (HS:Hd _)=>?_;go_wp2_with fail;refine mH HS.o (by decide) fun q6 w6 _ (HS:Hd _)=>?_;go_wp2_with fail;refine bt (vL c _ _ HS.o.st.cur.at_ (by have:=HS.o.st.dh;omega)) HS.o (lM c.l 62) (by decide) fun ty q7 w7 a3 k3 (HS:Hd _)=>?_;have E0:=fU.of (show _=some (Z06 29 nm Z05 Z05 0) from(HS.o.self.2.2.1).2);have qi:=E0.sm ((Sm.refl [] _).drew) (by simp);go_wp2_with fail
       go_region_held3 (fun W=>W.cell? ⟨w3.heap.size,0,none⟩=some (.int .i64 29)∧W.cell? ⟨w3.heap.size,1,none⟩=some (.string nm)∧W.cell? ⟨w3.heap.size,2,none⟩=some (.string ByteArray.empty)∧W.cell? ⟨w3.heap.size,3,none⟩=some (.string ByteArray.empty)∧W.cell? ⟨w3.heap.size,4,none⟩=some (.int .i64 0)∧W.cell? ⟨w3.heap.size,5,none⟩=some (.int .i64 0)) (first| exact E0|exact qi|exact tK|exact(tK.alloc _)|exact um|exact un)
        (first
         | (go_at_call 30;refine bt (bl c true _ _ (HS.o.drew).st.cur.at_ (by have:=(HS.o.drew).st.dh;omega)) (HS.o.drew) (az c.l true) (by decide) (fun d q8 w8 a4 k4 gT=>?_);have tK:=fU.of (gT.self.2.2.2.1).2)
         | (go_at_call 18;refine dv {kind:=29,name:=nm} [ab,v,ty,d] (vs:=#[.slice a1 ab.length k1,.slice a2 v.length k2,.slice a3 ty.length k3,.slice a4 d.length k4]) (.cons (gT.self.2.2.2.2.1).1.2.to (.cons (gT.self.2.2.1).1.2.to (.cons (gT.self.2.1).1.2.to (.cons (gT.self.1).1.2.to .nil)))) (by have:=(gT.self.2.2.2.2.1).2;have:=(gT.self.2.2.1).2;have:=(gT.self.2.1).2;have:=(gT.self.1).2;simp[made]<;>omega) (by simp) gT (fun w9 am jm hm=>?_);have um:=fU.of (hm.self.2.2.2.2.1).2;obtain⟨Cw,PG,_,_,_,zD,_⟩:=hm.self.1.2;have UZ:acc.flatten.length+(made {kind:=29,name:=nm} [ab,v,ty,d]).length≤9000000:=(by have:=(gT.self.2.2.2.2.1).2;have:=(gT.self.2.2.1).2;have:=(gT.self.2.1).2;have:=(gT.self.1).2;have:=HL.o.z;rw[eE];simp only[List.flatten_cons,List.flatten_nil,List.append_nil,List.length_append,List.length_nil,List.nil_append];omega))
         | (refine iv w.heap.size Cw rfl _ _ _ rfl 67 _ 6 72 Tryz.underlying23 np rfl (by omega) u3 (.slice am (made {kind:=29,name:=nm} [ab,v,ty,d]).length jm) acc.flatten.length (made {kind:=29,name:=nm} [ab,v,ty,d]).length (gF acc.flatten) (gF (made {kind:=29,name:=nm} [ab,v,ty,d])) rfl rfl (HL.o.o.sm (hm.self.2.2.2.2.2.2) HL.o.s.cur.sp).row zD (j0 _) (by simp only[maxLen];omega) (by omega) hm.st.cur.new ?_;intro vn wn aJ hg bV;have un:=um.grown hg (fun e=>by have h1:=(HL.o.o.lt _ e).2;have h2:=AA.o;omega)))
       all_goals
        have HM:=ae hm;have HW:=ae aJ;have HG:=ae hg;clear hm aJ hg bV;go_wp2_with fail;obtain⟨m2,h⟩:=HL.o.next (v':=vn) HB.o HJ.o HI.o HM.o (Dj c.l) (by decide) (by first| exact HW.o|(rw[List.length_flatten];exact HW.o)) HG.o (fun _ _=>trivial)
        have HN:=ae h;clear h;go_roundg (gk-1)
        case measure=>have:=jF.o;omega
        case rel=>exact⟨j+1,m2,_,_,by have:=jF.o;omega,by go_num,HN.o⟩
     · skip
       have y1:(ag c.l q3.pos==4)=false:=by simpa using hk
       go_wp2_with fail;refine eG (((HS.o.alloc (Z06 29 nm Z05 Z05 0)).Kc hk).pure) fun w10 (HS:Hd _)=>?_;clear hk;go_wp2_with fail;clear y1;refine mH HS.o (by decide) fun X8 w11 _ (HS:Hd _)=>?_;go_wp2_with fail;refine bt (vL c _ _ HS.o.st.cur.at_ (by have:=HS.o.st.dh;omega)) HS.o (lM c.l 62) (by decide) fun ty OI w12 a5 k5 (HS:Hd _)=>?_;have E0:=fU.of (show _=some (Z06 29 nm Z05 Z05 0) from(HS.o.self.2.1).2);have qi:=E0.sm ((Sm.refl [] _).drew) (by simp);go_wp2_with fail
       go_region_held3 (fun W=>W.cell? ⟨w3.heap.size,0,none⟩=some (.int .i64 29)∧W.cell? ⟨w3.heap.size,1,none⟩=some (.string nm)∧W.cell? ⟨w3.heap.size,2,none⟩=some (.string ByteArray.empty)∧W.cell? ⟨w3.heap.size,3,none⟩=some (.string ByteArray.empty)∧W.cell? ⟨w3.heap.size,4,none⟩=some (.int .i64 0)∧W.cell? ⟨w3.heap.size,5,none⟩=some (.int .i64 0)) (first| exact E0|exact qi|exact tK|exact(tK.alloc _)|exact um|exact un)
        (first
         | (go_at_call 30;refine bt (bl c true _ _ (HS.o.drew).st.cur.at_ (by have:=(HS.o.drew).st.dh;omega)) (HS.o.drew) (az c.l true) (by decide) (fun d tH w13 a6 k6 gT=>?_);have tK:=fU.of (gT.self.2.2.1).2)
         | (go_at_call 18;refine dv {kind:=29,name:=nm} [ab,([]:List Nd),ty,d] (vs:=#[.slice a1 ab.length k1,.slice none 0 0,.slice a5 ty.length k5,.slice a6 d.length k6]) (.cons (gT.self.2.2.2.1).1.2.to (.cons (kM.nil c _).to (.cons (gT.self.2.1).1.2.to (.cons (gT.self.1).1.2.to .nil)))) (by have:=(gT.self.2.2.2.1).2;have:=(gT.self.2.1).2;have:=(gT.self.1).2;simp[made]<;>omega) (by simp) gT (fun w14 am jm hm=>?_);have um:=fU.of (hm.self.2.2.2.1).2;obtain⟨Cw,PG,_,_,_,zD,_⟩:=hm.self.1.2;have UZ:acc.flatten.length+(made {kind:=29,name:=nm} [ab,([]:List Nd),ty,d]).length≤9000000:=(by have:=(gT.self.2.2.2.1).2;have:=(gT.self.2.1).2;have:=(gT.self.1).2;have:=HL.o.z;rw[eE];simp only[List.flatten_cons,List.flatten_nil,List.append_nil,List.length_append,List.length_nil,List.nil_append];omega))
         | (refine iv w.heap.size Cw rfl _ _ _ rfl 67 _ 6 72 Tryz.underlying23 np rfl (by omega) u3 (.slice am (made {kind:=29,name:=nm} [ab,([]:List Nd),ty,d]).length jm) acc.flatten.length (made {kind:=29,name:=nm} [ab,([]:List Nd),ty,d]).length (gF acc.flatten) (gF (made {kind:=29,name:=nm} [ab,([]:List Nd),ty,d])) rfl rfl (HL.o.o.sm (hm.self.2.2.2.2.2) HL.o.s.cur.sp).row zD (j0 _) (by simp only[maxLen];omega) (by omega) hm.st.cur.new ?_;intro vn wn aJ hg bV;have un:=um.grown hg (fun e=>by have h1:=(HL.o.o.lt _ e).2;have h2:=AA.o;omega)))
       all_goals
        have HM:=ae hm;have HW:=ae aJ;have HG:=ae hg;clear hm aJ hg bV;go_wp2_with fail;obtain⟨m2,h⟩:=HL.o.next (v':=vn) HB.o HJ.o HI.o HM.o (Dj c.l) (by decide) (by first| exact HW.o|(rw[List.length_flatten];exact HW.o)) HG.o (fun _ _=>trivial)
        have HN:=ae h;clear h;go_roundg (gk-1)
        case measure=>have:=jF.o;omega
        case rel=>exact⟨j+1,m2,_,_,by have:=jF.o;omega,by go_num,HN.o⟩
theorem Ey(l:List Tok):Tm 0 10 10 1 1 (dU l):=fun p=>by obtain⟨a,b,c,d⟩:=qL l p;exact⟨a,by omega,c,by omega⟩
theorem BC(w:World)(o:Obj):(w.alloc o).heap.size=w.heap.size+1:=Array.size_push ..
theorem dz.U1{β:Type}{c:Sx}{w W:World}{lo N b n:Nat}{E:World→Prop}{q:Ps}{mm:SM β}{rr:β×Ps}{y:Value}{x:List Nd}(h:dz c w lo N E mm rr q W)(hl:kM c n W y x)(hb:W.heap.size=b):dz c w lo N (fun X=>bI c w X (.slice (some ⟨b,0,none⟩) 1 1) [y] [x]∧E X) mm rr q (W.alloc (.cells #[y] 23 (0,0))):=by subst hb;exact h.Vz hl
theorem IC(c:Sx)(ta:Option Addr)(tk:Nat)(text:List Nd)(p:Ps)(w:World)(h:fV c p w)(hd:p.deep≤90)(ht:kM c 0 w (.slice ta text.length tk) text)(hz:text.length≤10):Calls Tryz.prog 37 #[.pointer (some ⟨c.sp,0,none⟩),.slice ta text.length tk] w (aM c (ir c.l text p).2 (ir c.l text p).1 w):=by
 obtain⟨r,hr⟩:∃r,(ir c.l text) p=r:=⟨_,rfl⟩;rw[hr];rw[xo] at hr;unfold rS at hr;have HS:=ae (pU hr h hd ht);have zr:=ae hz;clear hz ht;clear h hd hr;go_enter Tryz.func37,Tryz.ntmps37;go_wp2_with fail;refine mH HS.o (by decide) fun q1 w1 _ h=>?_;replace HS:=ae h;clear h;go_wp2_with fail;refine e9 HS.o fun nm q2 w2 h=>?_;replace HS:=ae h;clear h;replace HS:=ae (HS.o.assoc);replace HS:=ae (HS.o.kind);go_wp2_with fail;refine eG (dz.U1 (HS.o.alloc (Z06 37 nm Z05 Z05 0)) (((HS.o.alloc (Z06 37 nm Z05 Z05 0))).self.2.1) (b:=w2.heap.size+1) (BC _ _)) fun w3 h=>?_;replace HS:=ae h;clear h;go_upto_if 16 with fail
 go_cut [6] from 16 to 21 (fun v wx=>∃vs xs q,Hd (dz c w p.deep (90+(3+0)) (fun X=>bI c w X v vs xs∧oA w (w2.heap.size) (Z06 37 nm Z05 Z05 0) X∧True) (zW c.l nm xs) r q wx∧xs.flatten.length≤1000110∧xs.length≤2))
 case first=>
  by_cases hk:ag c.l q2.pos=4
  · skip
    have y1:(ag c.l q2.pos==4)=true:=by simpa using hk
    replace HS:=ae (HS.o.xU hk);clear hk;replace HS:=ae (HS.o.assoc);have EE:=ae (fun g e=>((HS.o.self.1).own.lt g e).2);go_wp2_with fail;refine bt (xv c 4 5 (by decide) (by decide) _ _ HS.o.st.cur.at_ (by have:=HS.o.st.dh;omega)) HS.o (kW c.l 4 5) (by decide) fun ip q4 w4 a1 k1 h=>?_;replace HS:=ae h;clear h;clear y1;have HPZ:=ae (HS.o.self.1).2;replace HS:=ae (HS.o.pure);have how:=(HS.o.self.2.1).own;have cv:=HS.o.st.cur.new;go_wp2_with (at_builtin;refine gH _ rfl _ _ _ rfl 23 _ 1 24 Tryz.underlying64 fm rfl (by omega) (by omega) (.slice (some ⟨w2.heap.size+1,0,none⟩) 1 1) [text].length [.slice ta text.length tk] rfl how #[.slice a1 ip.length k1] rfl rfl (by simp[Value.oneCell']) (by simp) cv ?_);intro gn oJ wn aJ hg bV b9;have HK:=ae ((HS.o.self.2.1).add (HS.o.self.1).1.2 EE.o (by simpa using aJ) hg bV);have HG:=ae hg;clear how cv aJ bV b9 hg;replace HS:=ae (HS.o.FN HK.o HG.o (HS.o.self.2.1).base (fun X hX=>And.intro (oA.grow (HS.o.self.2.2.1) (HS.o.self.2.1) sr HG.o HS.o.st.cur.sp X hX) trivial));clear HK HG EE;go_wp2_with fail;go_meet;exact⟨_,_,_,HS.o,by have:=HPZ.o;have:=zr.o;simp;omega,by simp⟩
  · skip
    have y1:(ag c.l q2.pos==4)=false:=by simpa using hk
    replace HS:=ae (HS.o.Kc hk);clear hk;replace HS:=ae (HS.o.pure);go_wp2_with fail;go_meet;exact⟨[.slice ta text.length tk],[text],_,⟨(HS.o.nH (fun X h=>⟨h.1,h.2.1,trivial⟩)).st.more (Nat.le_add_right 90 3),HS.o.eq⟩ ,by have:=zr.o;simp;omega,by simp⟩
 case rest=>
  obtain⟨vs,xs,q,hc⟩:=hcut;obtain⟨ak,kk,hv⟩:=hc.out.1.self.1.form;subst hv;have h:=hc.out.1;have UB:=ae hc.out.2;unfold zW at h;replace HS:=ae h;clear h hc;replace HS:=ae (HS.o.word);go_upto_region 6 with fail
  go_cut [] from 22 to 32 (fun wx=>∃q,Hd (dz c w p.deep (90+(3+0)) (fun X=>bI c w X (.slice ak xs.length kk) vs xs∧oA w (w2.heap.size) (Z06 37 nm Z05 Z05 0) X∧True) (gp c.l>>=fun _=>cR c.l 0 ly>>=fun on=>if on=false then dn else(dY>>=fun _=>qI c.l nm xs)) r q wx))
  case first=>
   have d5:=HS.o.st.cur.at_.c5;have lS:=HS.o.st.cur.at_.free 5
   cases hu:q.unsure with
   | true=>
    simp only[hu] at d5;have HU:=ae hu;clear hu;go_wp2_with fail;go_meet
    exact⟨_,HS.o.l9 (u:=true) (by simp[HU.o])⟩
   | false=>simp only[hu] at d5;have HU:=ae hu;clear hu;go_wp2_with fail;refine hQ (s:=qQ) HS.o fun w5 h=>?_;replace HS:=ae h;clear h;clear d5 lS;have d5:=HS.o.st.cur.at_.c5;have lS:=HS.o.st.cur.at_.free 5;simp only[HU.o] at d5;go_wp2_with fail;go_meet;exact⟨_,HS.o.l9 (u:=(cR c.l 0 qQ q).1) (by first| (rw[HU.o,Bool.false_or];first| exact il _ _|exact ik _ _)|simp[HU.o])⟩
  case rest=>
   obtain⟨qq6,h⟩:=hcut;replace HS:=ae h.out;clear h;go_wp2_with fail;refine A3 HS.o fun q6 w6 h=>?_;replace HS:=ae h;clear h;go_wp2_with fail;replace HS:=ae (HS.o.word)
   cases hw:(cR c.l 0 ly q6).1 with
   | false=>
    rw[hw] at HS;replace HS:=ae (HS.o.yes (by simp));refine hQ (s:=ly) HS.o fun w7 h=>?_;replace HS:=ae h;clear h;go_wp2_with fail;clear hw;refine iV HS.o fun q8 w8 h=>?_;replace HS:=ae h;clear h;go_wp2_with fail;go_returns
    exact eA HS.o
   | true=>
    have EF:=ae (qS hw);rw[hw] at HS;replace HS:=ae (HS.o.no (by simp));refine hQ (s:=ly) HS.o fun w9 h=>?_;replace HS:=ae h;clear h;go_upto_region 10 with fail
    clear hw
    go_cut [] from 40 to 46 (fun wx=>∃q,Hd (dz c w p.deep (90+(3+0)) (fun X=>bI c w X (.slice ak xs.length kk) vs xs∧oA w (w2.heap.size) (Z06 37 nm Z05 Z05 0) X∧True) (qI c.l nm xs) r q wx))
    case first=>have d1:=HS.o.st.cur.at_.c1;have uq:=HS.o.st.cur.at_.free 1;have Bf:=HS.o.st.cur.pos;go_wp2_with fail;clear d1 uq Bf;go_meet;exact⟨_,(HS.o.move (u:=(q6.pos:Int)+1) (by simp) (EF.o))⟩
    case rest=>
     obtain⟨qqm,h⟩:=hcut;have h:=h.out;unfold qI at h;replace HS:=ae h;clear h EF;replace HS:=ae (HS.o.kind);go_upto_region 11 with fail
     go_cut [] from 47 to 58 (fun wx=>∃q,Hd (dz c w p.deep (90+(3+0)) (fun X=>bI c w X (.slice ak xs.length kk) vs xs∧oA w (w2.heap.size) (Z06 37 nm Z05 Z05 0) X∧True) (ay c.l 13>>=fun _=>(dU c.l>>=fun k=>dE c.l 13 (dU c.l) (many c.l) (xs++[k]))>>=fun kids=>pure (made {kind:=37,name:=nm} kids)) r q wx))
     case first=>
      have d5:=HS.o.st.cur.at_.c5;have lS:=HS.o.st.cur.at_.free 5
      cases hu:qqm.unsure with
      | true=>
       simp only[hu] at d5;have HU:=ae hu;clear hu;go_wp2_with fail;go_meet
       exact⟨_,HS.o.l9 (u:=true) (by simp[HU.o])⟩
      | false=>simp only[hu] at d5;have HU:=ae hu;clear hu;go_wp2_with fail;refine eG HS.o fun w10 h=>?_;replace HS:=ae h;clear h;clear d5 lS;have d5:=HS.o.st.cur.at_.c5;have lS:=HS.o.st.cur.at_.free 5;simp only[HU.o] at d5;go_wp2_with fail;go_meet;exact⟨_,HS.o.l9 (u:=(ag c.l qqm.pos==13)) (by first| (rw[HU.o,Bool.false_or];first| exact il _ _|exact ik _ _)|simp[HU.o])⟩
     case rest=>
      obtain⟨Z49,h⟩:=hcut;replace HS:=ae h.out;clear h;go_wp2_with fail;refine cP HS.o (by decide) fun Xz X8 w11 _ _ h=>?_;replace HS:=ae h;clear h;replace HS:=ae (HS.o.assoc);go_wp2_with fail;refine Cv HS.o fun mm OI w12 h=>?_;replace HS:=ae h;clear h;go_wp2_with fail;have EE:=ae (fun g e=>((HS.o.self.1).own.lt g e).2);refine fy {kind:=38,name:=mm} HS.o fun w13 am jm h=>?_;replace HS:=ae h;clear h;have how:=(HS.o.self.2.1).own;have cv:=HS.o.st.cur.new;go_wp2_with (at_builtin;refine gH _ rfl _ _ _ rfl 23 _ 1 24 Tryz.underlying64 fm rfl (by omega) (by omega) (.slice ak xs.length kk) xs.length vs rfl how #[.slice am (made {kind:=38,name:=mm} []).length jm] rfl rfl (by simp[Value.oneCell']) (by have:=UB.o.2;omega) cv ?_);intro gn oJ wn aJ hg bV b9;have HK:=ae ((HS.o.self.2.1).add (HS.o.self.1).2 EE.o (by simpa using aJ) hg bV);have HG:=ae hg;clear how cv aJ bV b9 hg;replace HS:=ae (HS.o.FN HK.o HG.o (HS.o.self.2.1).base (fun X hX=>And.intro (oA.grow (HS.o.self.2.2.1) (HS.o.self.2.1) sr HG.o HS.o.st.cur.sp X hX) trivial));clear HK HG EE;go_wp2_with fail;obtain⟨R,(HF:Hd _),h⟩:=rG (item:=dU c.l) (HS.o.nH (E':=fun X=>oA w (w2.heap.size) (Z06 37 nm Z05 Z05 0) X∧True) (fun _ h=>⟨h.2.1,trivial⟩)) (HS.o.self.1) (by have:=UB.o.1;simp only[List.flatten_append,List.flatten_cons,List.flatten_nil,List.append_nil,List.length_append,eE,List.length_nil];omega) (by have:=UB.o.2;rw[List.length_append];simp;omega);have HR:=ae h;clear h HS
      go_loopg [6] (many c.l) (fun g v wr=>By c w p.deep ((90+(3+0))) (fun X=>oA w (w2.heap.size) (Z06 37 nm Z05 Z05 0) X∧True) (dU c.l) 13 R OI.deep g v wr)
      case atStart=>exact HR.o
      case round=>
       obtain⟨acc,vs,q,h⟩:=hrel;obtain⟨ak,kk,hv⟩:=h.k.form;subst hv;have HL:=ae h;clear h HR;go_wp2_with fail;refine HL.o.cP (f:=fun kids=>pure (made {kind:=37,name:=nm} kids)) HF.o (by decide) (fun w0 h=>?_) (fun rx q1 w0 ht hi h=>?_)
       · have HS:=ae h;clear h;obtain⟨e0,e1,e2,e3,e4,e5⟩:=fU.of (show _=some (Z06 37 nm Z05 Z05 0) from(HS.o.self.2.1).2);go_wp2_with fail;refine jY {kind:=37,name:=nm} (HS.o.self.1) (by have:=HL.o.z;omega) (by have:=HL.o.n;omega) HS.o fun w14 am jm (HS:Hd _)=>?_;clear e0 e1 e2 e3 e4 e5;go_wp2_with fail;go_returns;exact bz HS.o HS.o.self.1
       have HT:=ae ht;have HI:=ae hi;have HS:=ae h;clear h hi ht;go_wp2_with fail;replace HS:=ae (HS.o.as (m':=dU c.l>>=fun s=>pure s) rfl);refine Cv HS.o fun m2 Yn w15 (HS:Hd _)=>?_;go_wp2_with fail;have MS:=ae HS.o.self.size;refine fy {kind:=38,name:=m2} HS.o fun w16 am jm (HS:Hd _)=>?_;have how:=(HL.o.k.sm HS.o.self.2 HL.o.s.cur.sp).own;have de:(acc.length+1)*24≤140737488355328:=by have:=HL.o.n;omega
       have cv:=HS.o.st.cur.new;go_wp2_with (at_builtin;refine gH _ rfl _ _ _ rfl 23 _ 1 24 Tryz.underlying64 fm rfl (by omega) (by omega) (.slice ak acc.length kk) acc.length vs rfl how #[.slice am (made {kind:=38,name:=m2} []).length jm] rfl rfl (by simp[Value.oneCell']) de cv ?_);intro gn oJ wn aJ hg bV b9;have HK:=ae (HL.o.add HS.o.self.2 HS.o.self.1.2 MS.o (by simpa using aJ) hg bV);have HG:=ae hg;clear how de cv aJ hg bV b9;go_wp2_with fail;obtain⟨m2,Nv,(HN:Hd _)⟩:=HL.o.next HT.o HI.o HS.o (Hq (Ey c.l)) (by decide) (.inr (by simp[made])) HK.o HG.o (fun X hX=>And.intro (oA.grow (HL.o.s.ext _ HS.o.self.2).1 HL.o.k HS.o.self.2 HG.o HL.o.s.cur.sp X hX) trivial);go_roundg (gk-1)
       case measure=>omega
       case rel=>exact⟨_,_,_,by rw[show gk-1=m2 by omega];exact HN.o⟩
section
variable{P:Program}{o:Oper}{ops:Array Oper}{ac:Act}{W:World}{K:Act→World→Prop}{Q:Exit→Act→World→Prop}{E:Prop}
theorem XA(base:Nat)(ux:o.guard=none)(s x:Operand)(t:TypeId)
 (ho:o.op=.call {callee:=.builtin .append,args:=#[s,x],argTypes:=#[t,t]})
 (e:TypeId) (z:Value) (size bytes:Nat) (ht:P.underlying t=some (.slice e)) (rD:(P.info? e).map (fun i=>(i.zero,i.size,i.bytes))=some (some z,size,bytes))
 (hz:z.cells.size=size) (om:0<size) (V3:0<bytes) (v:Value) (n:Nat) (xs:List Value) (hs:ac.eval s=v) (aJ:W.ownsRow base e size v n xs)
 (cs:Array Value) (hx:ac.eval x=.slice (some ⟨W.heap.size,0,none⟩) 2 2) (hcs:cs.size=2*size) (h1:∀u∈cs.toList,u.oneCell'=true)
 (lj:(n+2)*bytes≤140737488355328) (cv:base≤W.heap.size)
 (h:∀g cap w',w'.ownsRow base e size (.slice (some ⟨g,0,none⟩) (n+2) cap) (n+2) (xs++cs.toList)→W.grownBy w' v.ownBlock→(v.ownBlock=some g∨g=W.heap.size+1)→g<w'.heap.size →
  K (ac.put o.dst (.slice (some ⟨g,0,none⟩) (n+2) cap)) w') :
 if Region.wanted o (yielded ops ac.tmps)=true then Oper.wp P o ac (W.alloc (.cells cs e)) K Q else E:=by
 obtain⟨i0,hi,PT⟩:=Option.map_eq_some_iff.1 rD;simp only[Prod.mk.injEq] at PT;obtain⟨Vu,Vv,Rh⟩:=PT;have hn:n+2≤140737488355328:=Nat.le_trans (Nat.le_mul_of_pos_right _ V3) lj
 refine step_append_lies (w:=W.alloc (.cells cs e)) ux s x t ho base e i0 z size bytes ht hi Vu Vv Rh hz om v n xs hs (aJ.alloc _) ⟨W.heap.size,0,none⟩ 2 2 cs.toList hx (by simpa using hcs)
  (World.news_of_block (heap_alloc_new W _)) h1 (by omega) (by simp only[maxLen];omega) lj (by simp;omega) (W.heap.size+1) (by simp) ?_
 intro g cap w' h2 h3 h4 h5;exact h g cap w' h2 (fe h3) h4 h5
end
theorem Vy{c:Sx}{w W:World}{v:Value}{vs:List Value}{xs:List (List Nd)}{b:Nat}{cs:Array Value}(hb:W.heap[b]?=some (.cells cs 67 (0,0)))(hk:bI c w W v vs xs):v.ownBlock≠some b:=by
 intro e;rcases hk.own.2 with⟨rfl,h0⟩|⟨g,cap,cur,rfl,_,h5,_⟩
 · cases e
 · cases e
   rw[hb] at h5
   cases h5
theorem bI.ZU{c:Sx}{w W W':World}{v u1 u2:Value}{vs:List Value}{xs:List (List Nd)}{x1 x2:List Nd}{b1 b2 g cap:Nat}(h:bI c w W v vs xs)(h1:kM c b1 W u1 x1)(h2:kM c b2 W u2 x2)(gP:∀g,v.ownBlock=some g→g<b1)(kh:∀g,v.ownBlock=some g→g<b2)
 (aJ:W'.ownsRow w.heap.size 23 1 (.slice (some ⟨g,0,none⟩) (xs.length+2) cap) (xs.length+2) (vs++[u1,u2]))
 (hg:W.grownBy W' v.ownBlock) (bV:v.ownBlock=some g∨g=W.heap.size+1):bI c w W' (.slice (some ⟨g,0,none⟩) (xs.length+2) cap) (vs++[u1,u2]) (xs++[x1,x2]):=by
 have ho:∀q,(Value.slice (some ⟨g,0,none⟩) (xs.length+2) cap).ownBlock=some q→v.ownBlock=some q∨W.heap.size+1=q:=fun q e=>by
  obtain rfl:g=q:=by simpa[Value.ownBlock] using e
  exact bV.imp id (fun e=>e.symm)
 have key:∀{b:Nat} {u:Value} {x:List Nd},kM c b W u x→(∀g,v.ownBlock=some g→g<b)→∃lo hi,(c.sp<lo∨hi≤c.sp)∧hi≤W'.heap.size∧(∀q,(Value.slice (some ⟨g,0,none⟩) (xs.length+2) cap).ownBlock=some q→¬(lo≤q∧q<hi))∧ke.rd lo hi W' u x:=fun hl hb=>by
  obtain⟨lo,hi,l1,l2,l3,l4⟩:=hl;refine⟨lo,hi,l2,Nat.le_trans l3 hg.size,fun q e Be=>?_,ke.keep l4 (fun k k1 k2=>hg.block k (by omega) (fun e=>?_))⟩
  · rcases ho q e with e|e
    · have:=hb q e;omega
    · omega
  · have:=hb k e.symm;omega
 refine⟨by simpa using aJ,?_⟩;have r0:=h.rows.grown hg (own':=(Value.slice (some ⟨g,0,none⟩) (xs.length+2) cap).ownBlock) (fun q e=>(ho q e).imp id (fun e=>by omega));have r1:=(r0.snoc (key h1 gP)).snoc (key h2 kh);simpa using r1
def Bm(l:List Tok)(n:ByteArray)(kids:List (List Nd)):SM (List Nd):=do
 let d ←ao l true
 let f ←hZ l
 pure (made {kind:=27,name:=n} (kids++[d,f]))
theorem L9(l:List Tok)(text:List Nd):fY l text=(do let n ←aw l;gp l;let kids ←At l text;Bm l n kids):=rfl
theorem xC(c:Sx)(ta:Option Addr)(tk:Nat)(text:List Nd)(p:Ps)(w:World)(h:fV c p w)(hd:p.deep≤70)(ht:kM c 0 w (.slice ta text.length tk) text)(hz:text.length≤10):Calls Tryz.prog 31 #[.pointer (some ⟨c.sp,0,none⟩),.slice ta text.length tk] w (aM c (fY c.l text p).2 (fY c.l text p).1 w):=by
 obtain⟨r,hr⟩:∃r,(fY c.l text) p=r:=⟨_,rfl⟩;rw[hr];rw[L9] at hr;unfold At at hr;have HS:=ae (pU hr h hd ht);have zr:=ae hz;clear hz ht;clear h hd hr;go_enter Tryz.func31,Tryz.ntmps31;go_wp2_with fail;refine e9 HS.o fun nm q1 w1 h=>?_;replace HS:=ae h;clear h;go_wp2_with fail;refine A3 (dz.U1 (HS.o.alloc (Z06 27 nm Z05 Z05 0)) (((HS.o.alloc (Z06 27 nm Z05 Z05 0))).self.2.1) (b:=w1.heap.size+1) (BC _ _)) fun q2 w2 h=>?_;replace HS:=ae h;clear h;go_wp2_with fail;replace HS:=ae (HS.o.assoc);replace HS:=ae (HS.o.word);refine hQ (s:=cN) HS.o fun w3 h=>?_;replace HS:=ae h;clear h;go_upto_if 15 with fail
 go_cut [6] from 15 to 40 (fun v wx=>∃vs xs q,Hd (dz c w p.deep (70+10) (fun X=>bI c w X v vs xs∧oA w (w1.heap.size) (Z06 27 nm Z05 Z05 0) X∧True) (Bm c.l nm xs) r q wx∧xs.flatten.length≤2000500∧xs.length≤1000010))
 case first=>
  cases hw:(cR c.l 0 cN q2).1 with
  | false=>
   rw[hw] at HS;replace HS:=ae (HS.o.Kc (by simp));replace HS:=ae (HS.o.pure);clear hw;go_wp2_with fail;go_meet
   exact⟨_,_,_,⟨(HS.o.nH (fun X h=>⟨h.1,h.2.1,trivial⟩)).st.more (Nat.le_add_right 70 10),HS.o.eq⟩,by have:=zr.o;simp;omega,by simp⟩
  | true=>
   have EF:=ae (qS hw);rw[hw] at HS;replace HS:=ae (HS.o.xU (by simp));replace HS:=ae (HS.o.assoc);clear hw;have d1:=HS.o.st.cur.at_.c1;have uq:=HS.o.st.cur.at_.free 1;have Bf:=HS.o.st.cur.pos;go_wp2_with fail;clear d1 uq Bf;refine cP ((HS.o.move (u:=(q2.pos:Int)+1) (by simp) (EF.o)).assoc) (by decide) fun Xz q4 w4 _ _ h=>?_;replace HS:=ae h;clear h;replace HS:=ae (HS.o.assoc);replace HS:=ae (HS.o.named);go_wp2_with fail;refine e9 HS.o fun mm q5 w5 h=>?_;replace HS:=ae h;clear h;go_wp2_with fail;have EE:=ae (fun g e=>((HS.o.self.1).own.lt g e).2);refine fy {kind:=28,name:=mm} HS.o fun w6 am jm h=>?_;replace HS:=ae h;clear h;have how:=(HS.o.self.2.1).own;have cv:=HS.o.st.cur.new;go_wp2_with (at_builtin;refine gH _ rfl _ _ _ rfl 23 _ 1 24 Tryz.underlying64 fm rfl (by omega) (by omega) (.slice (some ⟨w1.heap.size+1,0,none⟩) 1 1) [text].length [.slice ta text.length tk] rfl how #[.slice am (made {kind:=28,name:=mm} []).length jm] rfl rfl (by simp[Value.oneCell']) (by simp) cv ?_);intro gn oJ wn aJ hg bV b9;have HK:=ae ((HS.o.self.2.1).add (HS.o.self.1).2 EE.o (by simpa using aJ) hg bV);have HG:=ae hg;clear how cv aJ bV b9 hg;replace HS:=ae (HS.o.FN HK.o HG.o (HS.o.self.2.1).base (fun X hX=>And.intro (oA.grow (HS.o.self.2.2.1) (HS.o.self.2.1) sr HG.o HS.o.st.cur.sp X hX) trivial));clear HK HG EE;go_wp2_with fail;obtain⟨R,(HF:Hd _),h⟩:=rG (item:=fq c.l 28) (HS.o.nH (E':=fun X=>oA w (w1.heap.size) (Z06 27 nm Z05 Z05 0) X∧True) (fun _ h=>⟨h.2.1,trivial⟩)) (HS.o.self.1) (by have:=zr.o;simp[made];omega) (by simp);have HR:=ae h;clear h HS
   go_loopg [6] (many c.l) (fun g v wr=>By c w p.deep (70) (fun X=>oA w (w1.heap.size) (Z06 27 nm Z05 Z05 0) X∧True) (fq c.l 28) 20 R q5.deep g v wr)
   case atStart=>exact HR.o
   case round=>
    obtain⟨acc,vs,q,h⟩:=hrel;obtain⟨ak,kk,hv⟩:=h.k.form;subst hv;have HL:=ae h;clear h HR;go_wp2_with fail;refine HL.o.cP (f:=fun kids=>Bm c.l nm kids) HF.o (by decide) (fun w0 h=>?_) (fun rx q1 w0 ht hi h=>?_)
    · have HS:=ae h;clear h;go_wp2_with fail;go_meet;exact⟨_,_,_,HS.o,by have:=HL.o.z;omega,by have:=HL.o.n;omega⟩
    have HT:=ae ht;have HI:=ae hi;have HS:=ae h;clear h hi ht;go_wp2_with fail;replace HS:=ae (HS.o.as (m':=aw c.l>>=fun s=>pure (made {kind:=28,name:=s} [])) rfl);refine e9 HS.o fun m2 q7 w7 (HS:Hd _)=>?_;go_wp2_with fail;have MS:=ae HS.o.self.size;refine fy {kind:=28,name:=m2} HS.o fun w8 am jm (HS:Hd _)=>?_;have how:=(HL.o.k.sm HS.o.self.2 HL.o.s.cur.sp).own;have de:(acc.length+1)*24≤140737488355328:=by have:=HL.o.n;omega
    have cv:=HS.o.st.cur.new;go_wp2_with (at_builtin;refine gH _ rfl _ _ _ rfl 23 _ 1 24 Tryz.underlying64 fm rfl (by omega) (by omega) (.slice ak acc.length kk) acc.length vs rfl how #[.slice am (made {kind:=28,name:=m2} []).length jm] rfl rfl (by simp[Value.oneCell']) de cv ?_);intro gn oJ wn aJ hg bV b9;have HK:=ae (HL.o.add HS.o.self.2 HS.o.self.1.2 MS.o (by simpa using aJ) hg bV);have HG:=ae hg;clear how de cv aJ hg bV b9;go_wp2_with fail;obtain⟨m2,Nv,(HN:Hd _)⟩:=HL.o.next HT.o HI.o HS.o (Hq (pZ c.l 28)) (by decide) (.inr (by simp[made])) HK.o HG.o (fun X hX=>And.intro (oA.grow (HL.o.s.ext _ HS.o.self.2).1 HL.o.k HS.o.self.2 HG.o HL.o.s.cur.sp X hX) trivial);go_roundg (gk-1)
    case measure=>omega
    case rel=>exact⟨_,_,_,by rw[show gk-1=m2 by omega];exact HN.o⟩
 case rest=>
  obtain⟨vs,xs,q,hc⟩:=hcut;obtain⟨ak,kk,hv⟩:=hc.out.1.self.1.form;subst hv;have h:=hc.out.1;have UB:=ae hc.out.2;unfold Bm at h;replace HS:=ae h;clear h hc;have E0:=fU.of (show _=some (Z06 27 nm Z05 Z05 0) from HS.o.self.2.1.2);have qi:=E0.sm ((Sm.refl [] _).drew) (by simp);go_wp2_with fail
  go_region_held3 (fun W=>W.cell? ⟨w1.heap.size,0,none⟩=some (.int .i64 27)∧W.cell? ⟨w1.heap.size,1,none⟩=some (.string nm)∧W.cell? ⟨w1.heap.size,2,none⟩=some (.string ByteArray.empty)∧W.cell? ⟨w1.heap.size,3,none⟩=some (.string ByteArray.empty)∧W.cell? ⟨w1.heap.size,4,none⟩=some (.int .i64 0)∧W.cell? ⟨w1.heap.size,5,none⟩=some (.int .i64 0)) (first| exact E0|exact qi|exact tK|exact(tK.alloc _)|exact u_f|exact(u_f.alloc _)|exact un|exact(un.alloc _)|exact um|exact(um.alloc _))
   (first
    | (go_at_call 30;refine bt (bl c true _ _ HS.o.drew.st.cur.at_ (by have:=HS.o.drew.st.dh;omega)) HS.o.drew (az c.l true) (by decide) (fun d qd wd ad kd hd=>?_);have tK:=fU.of (show _=some (Z06 27 nm Z05 Z05 0) from hd.self.2.2.1.2))
    | (go_at_call 33;refine bt (xq c _ _ hd.st.cur.at_ (by have:=hd.st.dh;omega)) hd (pr c.l) (by decide) (fun f qf wf af kf hf=>?_);have u_f:=fU.of (show _=some (Z06 27 nm Z05 Z05 0) from hf.self.2.2.2.1.2))
    | (refine XA _ rfl _ _ _ rfl 23 _ 1 24 Tryz.underlying64 fm rfl (by decide) (by decide) (.slice ak xs.length kk) xs.length vs rfl hf.self.2.2.1.own #[.slice ad d.length kd,.slice af f.length kf] rfl rfl (by simp[Value.oneCell']) (by have:=UB.o.2;omega) hf.st.cur.new ?_;intro gn oJ wn aJ hg bV b9;have un:=u_f.grown hg (Vy hf.self.2.2.2.1.2 hf.self.2.2.1);have hK:=hf.self.2.2.1.ZU hf.self.2.1.1.2 hf.self.1.1.2 (fun g e=>(HS.o.drew.self.1.own.lt g e).2) (fun g e=>(hd.self.2.1.own.lt g e).2) (by simpa using aJ) hg bV;have hm:=dz.FN hf hK hg hf.self.2.2.1.base (fun X hX=>And.intro (oA.grow hf.self.2.2.2.1 hf.self.2.2.1 sr hg hf.st.cur.sp X hX) trivial))
    | (go_at_call 18;refine jY {kind:=27,name:=nm} hm.self.1 (by have:=UB.o.1;have:=hf.self.1.2;have:=hf.self.2.1.2;simp only[List.flatten_append,List.flatten_cons,List.flatten_nil,List.append_nil,List.length_append];omega) (by have:=UB.o.2;rw[List.length_append];simp;omega) hm (fun w9 am jm hz=>?_);have um:=fU.of (show _=some (Z06 27 nm Z05 Z05 0) from hz.self.2.2.1.2)))
  all_goals go_wp2_with fail;go_returns;exact bz hz hz.self.1
end Go.Proofs.YtnpjmhodfdgloaaGreatDoor
