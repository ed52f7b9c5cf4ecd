/- Part of the proof. -/
import Derived.Test.YtnpjmhodfdgloaaGreatDoorQ26
set_option linter.unusedVariables false
set_option linter.unusedSimpArgs false
namespace Go.Proofs.YtnpjmhodfdgloaaGreatDoor
set_option maxRecDepth 100000
set_option maxHeartbeats 32000000
open Go.RowKit
attribute [local go_sem ↓] Go.wp_at_zero Go.wp_at_succ
theorem B2(c:Sx)(fixed:Bool)(Xe:∀q W,fV c q W→q.deep≤150→Calls Tryz.prog 65 #[.pointer (some ⟨c.sp,0,none⟩),.bool false] W (aM c (cE c.l false q).2 (cE c.l false q).1 W))(p:Ps)(w:World)(h:fV c p w)(hd:p.deep≤120):Calls Tryz.prog 30 #[.pointer (some ⟨c.sp,0,none⟩),.bool fixed] w (aM c (ao c.l fixed p).2 (ao c.l fixed p).1 w):=by
 have HG:=ae Xe;obtain⟨r,hr⟩:∃r,(ao c.l fixed) p=r:=⟨_,rfl⟩;rw[hr];rw[CY] at hr;have HS:=ae (gz hr h hd);clear h hd hr Xe;go_enter Tryz.func30,Tryz.ntmps30;go_wp2_with fail;obtain⟨R,hr,(HR:Hd _)⟩:=N3 (item:=vi c.l fixed) HS.o;subst hr;clear HS
 go_loopg [5] (many c.l) (fun g v wr=>LU c w p.deep 120 (fun _=>True) (vi c.l fixed) 9 R p.deep g v wr)
 case atStart=>exact HR.o
 case round=>
  obtain⟨acc,q,h⟩:=hrel;have HL:=ae h;have d4:=h.s.cur.at_.c4;clear h HR
  cases hb:q.bad with
  | true=>
   rw[hb] at d4;have HB:=ae hb;clear hb;go_wp2_with fail;go_returns
   exact HL.o.bad HB.o
  | false=>
   rw[hb] at d4;clear hb;go_wp2_with fail;refine HL.o.cP (by decide) (fun w0 h=>?_) (fun rx q1 w0 ht hi h=>?_)
   · have HE:=ae h;clear h;go_wp2_with fail;go_returns;exact HE.o
   have HT:=ae ht;have HI:=ae hi;have HS:=ae h;clear h hi ht d4;go_wp2_with fail;refine e9 HS.o fun nm q1 w1 (HS:Hd _)=>?_;replace HS:=ae (HS.o.asks);have AA:=ae (((HS.o.self)).size);have d5:∀o,(World.alloc w1 o).cell? ⟨c.sp,5,none⟩=some (.bool q1.unsure):=fun o=>(HS.o.alloc o).st.cur.at_.c5;have lS:∀o,(World.alloc w1 o).frozen? ⟨c.sp,5,none⟩=false:=fun o=>(HS.o.alloc o).st.cur.at_.free 5
   cases hu:q1.unsure with
   | true=>
    simp only[hu] at d5;have HU:=ae hu;clear hu;go_wp2_with fail;clear d5 lS;have E0:=fU.of (show _=some (Z06 10 nm Z05 Z05 0) from((((HS.o.alloc (Z06 10 nm Z05 Z05 0)).l9 (u:=true) (by simp[HU.o]))).self.1).2);have qi:=E0.sm ((Sm.refl [] _).drew) (by simp);go_wp2_with fail
    go_region_held3 (fun W=>W.cell? ⟨w1.heap.size,0,none⟩=some (.int .i64 10)∧W.cell? ⟨w1.heap.size,1,none⟩=some (.string nm)∧W.cell? ⟨w1.heap.size,2,none⟩=some (.string ByteArray.empty)∧W.cell? ⟨w1.heap.size,3,none⟩=some (.string ByteArray.empty)∧W.cell? ⟨w1.heap.size,4,none⟩=some (.int .i64 0)∧W.cell? ⟨w1.heap.size,5,none⟩=some (.int .i64 0)) (first| exact E0|exact qi|exact Fj|exact(Fj.alloc _)|exact um|exact un)
     (first
      | (go_at_call 65;refine bt (HG.o _ _ (((HS.o.alloc (Z06 10 nm Z05 Z05 0)).l9 (u:=true) (by simp[HU.o])).drew).st.cur.at_ (by have:=(((HS.o.alloc (Z06 10 nm Z05 Z05 0)).l9 (u:=true) (by simp[HU.o])).drew).st.dh;omega)) (((HS.o.alloc (Z06 10 nm Z05 Z05 0)).l9 (u:=true) (by simp[HU.o])).drew) (iy c.l false) (by decide) (fun v q2 w2 a1 k1 sx=>?_);have Fj:=fU.of (sx.self.2.1).2)
      | (go_at_call 18;refine dv {kind:=10,name:=nm} [v] (vs:=#[.slice a1 v.length k1]) (.cons (sx.self.1).1.2.to .nil) (by have:=(sx.self.1).2;simp[made]<;>omega) (by simp) sx (fun w3 am jm hm=>?_);have um:=fU.of (hm.self.2.2.1).2;obtain⟨Cw,PG,_,_,_,zD,_⟩:=hm.self.1.2;have UZ:acc.flatten.length+(made {kind:=10,name:=nm} [v]).length≤9000000:=(by have:=(sx.self.1).2;have:=HL.o.z;rw[eE];simp only[List.flatten_cons,List.flatten_nil,List.append_nil,List.length_append,List.length_nil,List.nil_append];omega))
      | (refine iv w.heap.size Cw rfl _ _ _ rfl 67 _ 6 72 Tryz.underlying23 np rfl (by omega) u5 (.slice am (made {kind:=10,name:=nm} [v]).length jm) acc.flatten.length (made {kind:=10,name:=nm} [v]).length (gF acc.flatten) (gF (made {kind:=10,name:=nm} [v])) rfl rfl (HL.o.o.sm (hm.self.2.2.2) HL.o.s.cur.sp).row zD (j0 _) (by simp only[maxLen];omega) (by omega) hm.st.cur.new ?_;intro vn wn aJ hg bV;have un:=um.grown hg (fun e=>by have h1:=(HL.o.o.lt _ e).2;have h2:=AA.o;omega)))
    all_goals
     have HM:=ae hm;have HW:=ae aJ;have HG:=ae hg;clear hm aJ hg bV;go_wp2_with fail;obtain⟨m2,Nv,(HN:Hd _)⟩:=HL.o.next HT.o HI.o HM.o (xP c.l _) (by decide) HW.o HG.o (fun _ _=>trivial);go_roundg (gk-1)
     case measure=>omega
     case rel=>exact⟨_,_,by rw[show gk-1=m2 by omega];exact HN.o⟩
   | false=>
    simp only[hu] at d5;have HU:=ae hu;clear hu
    cases fixed with
    | false=>
     go_wp2_with fail;clear d5 lS;have E0:=fU.of (show _=some (Z06 10 nm Z05 Z05 0) from((((HS.o.alloc (Z06 10 nm Z05 Z05 0)).l9 (u:=false) (by first| (rw[HU.o,Bool.false_or];first| exact il _ _|exact ik _ _)|simp[HU.o,bne]))).self.1).2)
     have qi:=E0.sm ((Sm.refl [] _).drew) (by simp);go_wp2_with fail
     go_region_held3 (fun W=>W.cell? ⟨w1.heap.size,0,none⟩=some (.int .i64 10)∧W.cell? ⟨w1.heap.size,1,none⟩=some (.string nm)∧W.cell? ⟨w1.heap.size,2,none⟩=some (.string ByteArray.empty)∧W.cell? ⟨w1.heap.size,3,none⟩=some (.string ByteArray.empty)∧W.cell? ⟨w1.heap.size,4,none⟩=some (.int .i64 0)∧W.cell? ⟨w1.heap.size,5,none⟩=some (.int .i64 0)) (first| exact E0|exact qi|exact Fj|exact(Fj.alloc _)|exact um|exact un)
      (first
       | (go_at_call 65;refine bt (HG.o _ _ (((HS.o.alloc (Z06 10 nm Z05 Z05 0)).l9 (u:=false) (by first| (rw[HU.o,Bool.false_or];first| exact il _ _|exact ik _ _)|simp[HU.o,bne])).drew).st.cur.at_ (by have:=(((HS.o.alloc (Z06 10 nm Z05 Z05 0)).l9 (u:=false) (by first| (rw[HU.o,Bool.false_or];first| exact il _ _|exact ik _ _)|simp[HU.o,bne])).drew).st.dh;omega)) (((HS.o.alloc (Z06 10 nm Z05 Z05 0)).l9 (u:=false) (by first| (rw[HU.o,Bool.false_or];first| exact il _ _|exact ik _ _)|simp[HU.o,bne])).drew) (iy c.l false) (by decide) (fun v q4 w4 a2 k2 sx=>?_);have Fj:=fU.of (sx.self.2.1).2)
       | (go_at_call 18;refine dv {kind:=10,name:=nm} [v] (vs:=#[.slice a2 v.length k2]) (.cons (sx.self.1).1.2.to .nil) (by have:=(sx.self.1).2;simp[made]<;>omega) (by simp) sx (fun w5 am jm hm=>?_);have um:=fU.of (hm.self.2.2.1).2;obtain⟨Cw,PG,_,_,_,zD,_⟩:=hm.self.1.2;have UZ:acc.flatten.length+(made {kind:=10,name:=nm} [v]).length≤9000000:=(by have:=(sx.self.1).2;have:=HL.o.z;rw[eE];simp only[List.flatten_cons,List.flatten_nil,List.append_nil,List.length_append,List.length_nil,List.nil_append];omega))
       | (refine iv w.heap.size Cw rfl _ _ _ rfl 67 _ 6 72 Tryz.underlying23 np rfl (by omega) u5 (.slice am (made {kind:=10,name:=nm} [v]).length jm) acc.flatten.length (made {kind:=10,name:=nm} [v]).length (gF acc.flatten) (gF (made {kind:=10,name:=nm} [v])) rfl rfl (HL.o.o.sm (hm.self.2.2.2) HL.o.s.cur.sp).row zD (j0 _) (by simp only[maxLen];omega) (by omega) hm.st.cur.new ?_;intro vn wn aJ hg bV;have un:=um.grown hg (fun e=>by have h1:=(HL.o.o.lt _ e).2;have h2:=AA.o;omega)))
     all_goals
      have HM:=ae hm;have HW:=ae aJ;have HG:=ae hg;clear hm aJ hg bV;go_wp2_with fail;obtain⟨m2,Nv,(HN:Hd _)⟩:=HL.o.next HT.o HI.o HM.o (xP c.l _) (by decide) HW.o HG.o (fun _ _=>trivial);go_roundg (gk-1)
      case measure=>omega
      case rel=>exact⟨_,_,by rw[show gk-1=m2 by omega];exact HN.o⟩
    | true=>
     go_wp2_with fail;refine UL (HS.o.alloc (Z06 10 nm Z05 Z05 0)) fun w6 (HS:Hd _)=>?_;clear d5 lS;have d5:=HS.o.st.cur.at_.c5;have lS:=HS.o.st.cur.at_.free 5;simp only[HU.o] at d5;go_wp2_with fail;clear d5 lS;have E0:=fU.of (show _=some (Z06 10 nm Z05 Z05 0) from(((HS.o.l9 (u:=(nf c.l q1).1) (by first| (rw[HU.o,Bool.false_or];first| exact il _ _|exact ik _ _)|simp[HU.o,bne]))).self.1).2)
     have qi:=E0.sm ((Sm.refl [] _).drew) (by simp);go_wp2_with fail
     go_region_held3 (fun W=>W.cell? ⟨w1.heap.size,0,none⟩=some (.int .i64 10)∧W.cell? ⟨w1.heap.size,1,none⟩=some (.string nm)∧W.cell? ⟨w1.heap.size,2,none⟩=some (.string ByteArray.empty)∧W.cell? ⟨w1.heap.size,3,none⟩=some (.string ByteArray.empty)∧W.cell? ⟨w1.heap.size,4,none⟩=some (.int .i64 0)∧W.cell? ⟨w1.heap.size,5,none⟩=some (.int .i64 0)) (first| exact E0|exact qi|exact Fj|exact(Fj.alloc _)|exact um|exact un)
      (first
       | (go_at_call 65;refine bt (HG.o _ _ ((HS.o.l9 (u:=(nf c.l q1).1) (by first| (rw[HU.o,Bool.false_or];first| exact il _ _|exact ik _ _)|simp[HU.o,bne])).drew).st.cur.at_ (by have:=((HS.o.l9 (u:=(nf c.l q1).1) (by first| (rw[HU.o,Bool.false_or];first| exact il _ _|exact ik _ _)|simp[HU.o,bne])).drew).st.dh;omega)) ((HS.o.l9 (u:=(nf c.l q1).1) (by first| (rw[HU.o,Bool.false_or];first| exact il _ _|exact ik _ _)|simp[HU.o,bne])).drew) (iy c.l false) (by decide) (fun v q7 w7 a3 k3 sx=>?_);have Fj:=fU.of (sx.self.2.1).2)
       | (go_at_call 18;refine dv {kind:=10,name:=nm} [v] (vs:=#[.slice a3 v.length k3]) (.cons (sx.self.1).1.2.to .nil) (by have:=(sx.self.1).2;simp[made]<;>omega) (by simp) sx (fun w8 am jm hm=>?_);have um:=fU.of (hm.self.2.2.1).2;obtain⟨Cw,PG,_,_,_,zD,_⟩:=hm.self.1.2;have UZ:acc.flatten.length+(made {kind:=10,name:=nm} [v]).length≤9000000:=(by have:=(sx.self.1).2;have:=HL.o.z;rw[eE];simp only[List.flatten_cons,List.flatten_nil,List.append_nil,List.length_append,List.length_nil,List.nil_append];omega))
       | (refine iv w.heap.size Cw rfl _ _ _ rfl 67 _ 6 72 Tryz.underlying23 np rfl (by omega) u5 (.slice am (made {kind:=10,name:=nm} [v]).length jm) acc.flatten.length (made {kind:=10,name:=nm} [v]).length (gF acc.flatten) (gF (made {kind:=10,name:=nm} [v])) rfl rfl (HL.o.o.sm (hm.self.2.2.2) HL.o.s.cur.sp).row zD (j0 _) (by simp only[maxLen];omega) (by omega) hm.st.cur.new ?_;intro vn wn aJ hg bV;have un:=um.grown hg (fun e=>by have h1:=(HL.o.o.lt _ e).2;have h2:=AA.o;omega)))
     all_goals
      have HM:=ae hm;have HW:=ae aJ;have HG:=ae hg;clear hm aJ hg bV;go_wp2_with fail;obtain⟨m2,Nv,(HN:Hd _)⟩:=HL.o.next HT.o HI.o HM.o (xP c.l _) (by decide) HW.o HG.o (fun _ _=>trivial);go_roundg (gk-1)
      case measure=>omega
      case rel=>exact⟨_,_,by rw[show gk-1=m2 by omega];exact HN.o⟩
def qy(l:List Tok)(sub:SM (List Nd)):SM (List Nd):=do
 let k ←fc l 0
 let on ←cR l 0 ly
 if k=15∧on=false then(do
  let s ←aw l
  let d ←ao l false
  pure (made {kind:=7,name:=s} [d]))
 else(do
  gp l
  let on ←cR l 0 ly
  let t ←(if on=true then(do dY;aw l) else pure ByteArray.empty:SM ByteArray)
  let d ←ao l false
  let x ←sub
  pure (made {kind:=8,text:=t} [d,x]))
def zV(l:List Tok)(sub:SM (List Nd)):SM (List Nd):=fun p=>if p.bad=false∧ag l p.pos=12 then sub p else([],p)
def FV(l:List Tok)(sub:SM (List Nd))(a n:ByteArray):SM (List Nd):=do
 let args ←cE l false
 let FX ←ao l false
 let x ←zV l sub
 pure (made {kind:=6,name:=n,alias:=a} [args,FX,x])
theorem wY(l:List Tok)(sub:SM (List Nd)):cG l sub=(do
 if(←ay l 6)=true then qy l sub else(do
  let n ←aw l
  if(←ay l 7)=true then(do let m ←aw l;FV l sub n m) else FV l sub ByteArray.empty n)):=by
 funext p
 unfold cG;rw[aC,aC];split
 · rfl
 · rw[aC,aC,aC,aC,aC];split<;>rfl
theorem JM{l:List Tok}{sub:SM (List Nd)}(hs:Tm 0 10 0 2 1 sub):Tm 0 10 0 2 0 (zV l sub):=fun p=>by
 unfold zV;by_cases hc:p.bad=false∧ag l p.pos=12
 · simp only[if_pos hc];obtain⟨a,b,c,d⟩:=hs p;have h0:=iM hc.1;exact⟨a,b,c,by rw[h0] at d ⊢;omega⟩
 · simp only[if_neg hc];exact⟨lr,by show 0+p.pos+10*bd p≤p.pos+0+10*bd p+0*bd p;omega,lr,by show p.deep+2*bd p≤p.deep+2*bd p+0*bd p;omega⟩
theorem JF(c:Sx)(sub:SM (List Nd))(d0:Nat)(MR:Tm 0 10 0 2 1 sub)(MO:∀q W,fV c q W→q.deep≤120→Calls Tryz.prog 30 #[.pointer (some ⟨c.sp,0,none⟩),.bool false] W (aM c (ao c.l false q).2 (ao c.l false q).1 W))(MQ:∀q W,fV c q W→d0≤q.deep→q.deep≤110→Calls Tryz.prog 24 #[.pointer (some ⟨c.sp,0,none⟩)] W (aM c (sub q).2 (sub q).1 W))(p:Ps)(w:World)(h:fV c p w)(hd:p.deep≤90)(h0:d0≤p.deep):Calls Tryz.prog 92 #[.pointer (some ⟨c.sp,0,none⟩)] w (aM c (qy c.l sub p).2 (qy c.l sub p).1 w):=by
 have Uy:=ae MR;have dZ:=ae MO;have av:=ae MQ;obtain⟨r,hr⟩:∃r,(qy c.l sub) p=r:=⟨_,rfl⟩;rw[hr];unfold qy at hr;have HS:=ae (gz hr h hd);have A9:=ae h0;clear h0;clear h hd hr MR MO MQ;go_enter Tryz.func92,Tryz.ntmps92;go_wp2_with fail;replace HS:=ae (HS.o.kind);replace HS:=ae (HS.o.word);by_cases hk:ag c.l p.pos=15
 · skip
   have y1:(ag c.l p.pos==15)=true:=by simpa using hk
   refine eG HS.o fun w1 h=>?_;replace HS:=ae h;clear h
   cases hw:(cR c.l 0 ly p).1 with
   | false=>
    replace HS:=ae (HS.o.yes ⟨hk,hw⟩);clear hk;go_wp2_with fail;refine hQ (s:=ly) HS.o fun w2 h=>?_;replace HS:=ae h;clear h;go_wp2_with fail;clear hw y1;refine e9 HS.o fun nm q3 w3 h=>?_;replace HS:=ae h;clear h;go_wp2_with fail;refine bt (dZ.o _ _ HS.o.st.cur.at_ (by have:=HS.o.st.dh;omega)) HS.o (az c.l false) (by decide) fun d q4 w4 a1 k1 h=>?_;replace HS:=ae h;clear h;go_wp2_with fail;refine dv {kind:=7,name:=nm} [d] (vs:=#[.slice a1 d.length k1]) (.cons (HS.o.self.1).1.2.to .nil) (by have:=(HS.o.self.1).2;simp[made]<;>omega) (by simp) HS.o fun w5 am jm h=>?_;replace HS:=ae h;clear h;go_wp2_with fail;go_returns
    exact bz HS.o HS.o.self.1
    | true=>
     replace HS:=ae (HS.o.no (fun h=>by rw[hw] at h;cases h.2));clear hk;go_wp2_with fail;refine hQ (s:=ly) HS.o fun w6 h=>?_;replace HS:=ae h;clear h;go_wp2_with fail;clear hw y1;refine A3 (HS.o.alloc (Z06 8 Z05 Z05 Z05 0)) fun q7 w7 h=>?_;replace HS:=ae h;clear h;go_wp2_with fail;replace HS:=ae (HS.o.word)
     cases hw:(cR c.l 0 ly q7).1 with
     | false=>
      rw[hw] at HS;refine hQ (s:=ly) HS.o fun w8 h=>?_;replace HS:=ae h;clear h;replace HS:=ae (HS.o.Kc (by simp));replace HS:=ae (HS.o.pure);have E0:=fU.of (show _=some (Z06 8 Z05 Z05 Z05 0) from(HS.o.self.1).2);have qi:=E0.sm ((Sm.refl [] _).drew) (by simp);go_wp2_with fail
      go_region_held3 (fun W=>W.cell? ⟨w6.heap.size,0,none⟩=some (.int .i64 8)∧W.cell? ⟨w6.heap.size,1,none⟩=some (.string ByteArray.empty)∧W.cell? ⟨w6.heap.size,2,none⟩=some (.string ByteArray.empty)∧W.cell? ⟨w6.heap.size,3,none⟩=some (.string ByteArray.empty)∧W.cell? ⟨w6.heap.size,4,none⟩=some (.int .i64 0)∧W.cell? ⟨w6.heap.size,5,none⟩=some (.int .i64 0)) (first| exact E0|exact qi|exact tK|exact(tK.alloc _)|exact Ds|exact(Ds.alloc _)|exact um)
       (first
        | (go_at_call 30;refine bt (dZ.o _ _ (HS.o.drew).st.cur.at_ (by have:=(HS.o.drew).st.dh;omega)) (HS.o.drew) (az c.l false) (by decide) (fun d q9 w9 a2 k2 gT=>?_);have tK:=fU.of (gT.self.2.1).2)
        | (go_at_call 24;refine bt (av.o _ _ gT.st.cur.at_ (by have:=gT.st.dl;have:=A9.o;omega) (by have:=gT.st.dh;omega)) gT (Uy.o) (by decide) (fun x yT w10 a3 k3 mD=>?_);have Ds:=fU.of (mD.self.2.2.1).2)
        | (go_at_call 18;refine dv {kind:=8} [d,x] (vs:=#[.slice a2 d.length k2,.slice a3 x.length k3]) (.cons (mD.self.2.1).1.2.to (.cons (mD.self.1).1.2.to .nil)) (by have:=(mD.self.2.1).2;have:=(mD.self.1).2;simp[made]<;>omega) (by simp) mD (fun w11 am jm hm=>?_);have um:=fU.of (hm.self.2.2.2.1).2))
      all_goals
       go_wp2_with fail;go_returns
       exact bz hm hm.self.1
     | true=>
      rw[hw] at HS;have EF:=ae (qS hw);refine hQ (s:=ly) HS.o fun w12 h=>?_;replace HS:=ae h;clear h;replace HS:=ae (HS.o.xU (by simp));replace HS:=ae (HS.o.assoc);have d1:=HS.o.st.cur.at_.c1;have uq:=HS.o.st.cur.at_.free 1;have Bf:=HS.o.st.cur.pos;go_wp2_with fail;clear d1 uq Bf;refine e9 (HS.o.move (u:=(q7.pos:Int)+1) (by simp) (EF.o)) fun tx tH w13 h=>?_;replace HS:=ae h;clear h;have e3:=cell_of (show _=some (Z06 8 Z05 Z05 Z05 0) from HS.o.self.1.2) (i:=3) rfl;have f3:=aF HS.o.self.1.2 3;go_wp2_with fail;clear e3 f3;have E0:=fU.of (show _=some (Z06 8 Z05 Z05 tx 0) from(((HS.o.own (i:=3) (u:=.string tx) (fun _=>trivial))).self.1).2);have qi:=E0.sm ((Sm.refl [] _).drew) (by simp);go_wp2_with fail
      go_region_held3 (fun W=>W.cell? ⟨w6.heap.size,0,none⟩=some (.int .i64 8)∧W.cell? ⟨w6.heap.size,1,none⟩=some (.string ByteArray.empty)∧W.cell? ⟨w6.heap.size,2,none⟩=some (.string ByteArray.empty)∧W.cell? ⟨w6.heap.size,3,none⟩=some (.string tx)∧W.cell? ⟨w6.heap.size,4,none⟩=some (.int .i64 0)∧W.cell? ⟨w6.heap.size,5,none⟩=some (.int .i64 0)) (first| exact E0|exact qi|exact tK|exact(tK.alloc _)|exact Ds|exact(Ds.alloc _)|exact um)
       (first
        | (go_at_call 30;refine bt (dZ.o _ _ ((HS.o.own (i:=3) (u:=.string tx) (fun _=>trivial)).drew).st.cur.at_ (by have:=((HS.o.own (i:=3) (u:=.string tx) (fun _=>trivial)).drew).st.dh;omega)) ((HS.o.own (i:=3) (u:=.string tx) (fun _=>trivial)).drew) (az c.l false) (by decide) (fun d Rp w14 a4 k4 gT=>?_);have tK:=fU.of (gT.self.2.1).2)
        | (go_at_call 24;refine bt (av.o _ _ gT.st.cur.at_ (by have:=gT.st.dl;have:=A9.o;omega) (by have:=gT.st.dh;omega)) gT (Uy.o) (by decide) (fun x Yn w15 a5 k5 mD=>?_);have Ds:=fU.of (mD.self.2.2.1).2)
        | (go_at_call 18;refine dv {kind:=8,text:=tx} [d,x] (vs:=#[.slice a4 d.length k4,.slice a5 x.length k5]) (.cons (mD.self.2.1).1.2.to (.cons (mD.self.1).1.2.to .nil)) (by have:=(mD.self.2.1).2;have:=(mD.self.1).2;simp[made]<;>omega) (by simp) mD (fun w16 am jm hm=>?_);have um:=fU.of (hm.self.2.2.2.1).2))
      all_goals go_wp2_with fail;go_returns;exact bz hm hm.self.1
 · skip
   have y1:(ag c.l p.pos==15)=false:=by simpa using hk
   replace HS:=ae (HS.o.no (fun h=>hk h.1));clear hk;refine eG HS.o fun w17 h=>?_;replace HS:=ae h;clear h;go_wp2_with fail;clear y1;refine A3 (HS.o.alloc (Z06 8 Z05 Z05 Z05 0)) fun X9 w18 h=>?_;replace HS:=ae h;clear h;go_wp2_with fail;replace HS:=ae (HS.o.word)
   cases hw:(cR c.l 0 ly X9).1 with
   | false=>
    rw[hw] at HS;refine hQ (s:=ly) HS.o fun w19 h=>?_;replace HS:=ae h;clear h;replace HS:=ae (HS.o.Kc (by simp));replace HS:=ae (HS.o.pure);have E0:=fU.of (show _=some (Z06 8 Z05 Z05 Z05 0) from(HS.o.self.1).2);have qi:=E0.sm ((Sm.refl [] _).drew) (by simp);go_wp2_with fail
    go_region_held3 (fun W=>W.cell? ⟨w17.heap.size,0,none⟩=some (.int .i64 8)∧W.cell? ⟨w17.heap.size,1,none⟩=some (.string ByteArray.empty)∧W.cell? ⟨w17.heap.size,2,none⟩=some (.string ByteArray.empty)∧W.cell? ⟨w17.heap.size,3,none⟩=some (.string ByteArray.empty)∧W.cell? ⟨w17.heap.size,4,none⟩=some (.int .i64 0)∧W.cell? ⟨w17.heap.size,5,none⟩=some (.int .i64 0)) (first| exact E0|exact qi|exact tK|exact(tK.alloc _)|exact Ds|exact(Ds.alloc _)|exact um)
     (first
      | (go_at_call 30;refine bt (dZ.o _ _ (HS.o.drew).st.cur.at_ (by have:=(HS.o.drew).st.dh;omega)) (HS.o.drew) (az c.l false) (by decide) (fun d Yo w20 a6 k6 gT=>?_);have tK:=fU.of (gT.self.2.1).2)
      | (go_at_call 24;refine bt (av.o _ _ gT.st.cur.at_ (by have:=gT.st.dl;have:=A9.o;omega) (by have:=gT.st.dh;omega)) gT (Uy.o) (by decide) (fun x q21 w21 a7 k7 mD=>?_);have Ds:=fU.of (mD.self.2.2.1).2)
      | (go_at_call 18;refine dv {kind:=8} [d,x] (vs:=#[.slice a6 d.length k6,.slice a7 x.length k7]) (.cons (mD.self.2.1).1.2.to (.cons (mD.self.1).1.2.to .nil)) (by have:=(mD.self.2.1).2;have:=(mD.self.1).2;simp[made]<;>omega) (by simp) mD (fun w22 am jm hm=>?_);have um:=fU.of (hm.self.2.2.2.1).2))
    all_goals
     go_wp2_with fail;go_returns
     exact bz hm hm.self.1
   | true=>
    rw[hw] at HS;have EF:=ae (qS hw);refine hQ (s:=ly) HS.o fun w23 h=>?_;replace HS:=ae h;clear h;replace HS:=ae (HS.o.xU (by simp));replace HS:=ae (HS.o.assoc);have d1:=HS.o.st.cur.at_.c1;have uq:=HS.o.st.cur.at_.free 1;have Bf:=HS.o.st.cur.pos;go_wp2_with fail;clear d1 uq Bf;refine e9 (HS.o.move (u:=(X9.pos:Int)+1) (by simp) (EF.o)) fun tx q24 w24 (HS:Hd _)=>?_;have e3:=cell_of (show _=some (Z06 8 Z05 Z05 Z05 0) from HS.o.self.1.2) (i:=3) rfl;have f3:=aF HS.o.self.1.2 3;go_wp2_with fail;clear e3 f3;have E0:=fU.of (show _=some (Z06 8 Z05 Z05 tx 0) from(((HS.o.own (i:=3) (u:=.string tx) (fun _=>trivial))).self.1).2);have qi:=E0.sm ((Sm.refl [] _).drew) (by simp);go_wp2_with fail
    go_region_held3 (fun W=>W.cell? ⟨w17.heap.size,0,none⟩=some (.int .i64 8)∧W.cell? ⟨w17.heap.size,1,none⟩=some (.string ByteArray.empty)∧W.cell? ⟨w17.heap.size,2,none⟩=some (.string ByteArray.empty)∧W.cell? ⟨w17.heap.size,3,none⟩=some (.string tx)∧W.cell? ⟨w17.heap.size,4,none⟩=some (.int .i64 0)∧W.cell? ⟨w17.heap.size,5,none⟩=some (.int .i64 0)) (first| exact E0|exact qi|exact tK|exact(tK.alloc _)|exact Ds|exact(Ds.alloc _)|exact um)
     (first
      | (go_at_call 30;refine bt (dZ.o _ _ ((HS.o.own (i:=3) (u:=.string tx) (fun _=>trivial)).drew).st.cur.at_ (by have:=((HS.o.own (i:=3) (u:=.string tx) (fun _=>trivial)).drew).st.dh;omega)) ((HS.o.own (i:=3) (u:=.string tx) (fun _=>trivial)).drew) (az c.l false) (by decide) (fun d q25 w25 a8 k8 gT=>?_);have tK:=fU.of (gT.self.2.1).2)
      | (go_at_call 24;refine bt (av.o _ _ gT.st.cur.at_ (by have:=gT.st.dl;have:=A9.o;omega) (by have:=gT.st.dh;omega)) gT (Uy.o) (by decide) (fun x q26 w26 a9 k9 mD=>?_);have Ds:=fU.of (mD.self.2.2.1).2)
      | (go_at_call 18;refine dv {kind:=8,text:=tx} [d,x] (vs:=#[.slice a8 d.length k8,.slice a9 x.length k9]) (.cons (mD.self.2.1).1.2.to (.cons (mD.self.1).1.2.to .nil)) (by have:=(mD.self.2.1).2;have:=(mD.self.1).2;simp[made]<;>omega) (by simp) mD (fun w27 am jm hm=>?_);have um:=fU.of (hm.self.2.2.2.1).2))
    all_goals go_wp2_with fail;go_returns;exact bz hm hm.self.1
theorem Iv{l:List Tok}{sub:SM (List Nd)}{q:Ps}(hb:q.bad=false)(hk:ag l q.pos=12):zV l sub q=sub q:=if_pos ⟨hb,hk⟩
theorem dz.FP{β:Type}{c:Sx}{w W:World}{lo N:Nat}{E:World→Prop}{q:Ps}{r:β×Ps}{sub:SM (List Nd)}{f:List Nd→SM β}(h:dz c w lo N E (zV c.l sub>>=f) r q W)(hc:¬(q.bad=false∧ag c.l q.pos=12)):dz c w lo N E (f []) r q W:=
 ⟨h.st,by have h1:=h.eq;rw[aC] at h1;unfold zV at h1;rw[if_neg hc] at h1;exact h1⟩
theorem Db(c:Sx)(sub:SM (List Nd))(d0:Nat)(MR:Tm 0 10 0 2 1 sub)(Xe:∀q W,fV c q W→q.deep≤150→Calls Tryz.prog 65 #[.pointer (some ⟨c.sp,0,none⟩),.bool false] W (aM c (cE c.l false q).2 (cE c.l false q).1 W))(MO:∀q W,fV c q W→q.deep≤120→Calls Tryz.prog 30 #[.pointer (some ⟨c.sp,0,none⟩),.bool false] W (aM c (ao c.l false q).2 (ao c.l false q).1 W))(MQ:∀q W,fV c q W→d0≤q.deep→q.deep≤110→Calls Tryz.prog 24 #[.pointer (some ⟨c.sp,0,none⟩)] W (aM c (sub q).2 (sub q).1 W))(p:Ps)(w:World)(h:fV c p w)(hd:p.deep≤80)(h0:d0≤p.deep):Calls Tryz.prog 60 #[.pointer (some ⟨c.sp,0,none⟩)] w (aM c (cG c.l sub p).2 (cG c.l sub p).1 w):=by
 have Uy:=ae MR;have HG:=ae Xe;have dZ:=ae MO;have av:=ae MQ;obtain⟨r,hr⟩:∃r,(cG c.l sub) p=r:=⟨_,rfl⟩;rw[hr];rw[wY] at hr;have HS:=ae (gz hr h hd);have A9:=ae h0;clear h0;have WQ:Hd (∀q W,fV c q W→q.deep≤90→d0≤q.deep→Calls Tryz.prog 92 #[.pointer (some ⟨c.sp,0,none⟩)] W (aM c (qy c.l sub q).2 (qy c.l sub q).1 W)):=fun q W h1 h2 h3=>JF c sub d0 MR MO MQ q W h1 h2 h3;clear h hd hr MR Xe MO MQ;go_enter Tryz.func60,Tryz.ntmps60;go_wp2_with fail;refine cP HS.o (by decide) fun b q1 w1 _ (HP:Hd _) (HS:Hd _)=>?_
 cases b with
 | false=>
  replace HS:=ae (HS.o.no (by simp));go_wp2_with fail;refine e9 HS.o fun nm q2 w2 (HS:Hd _)=>?_;go_wp2_with fail;refine cP (HS.o.alloc (Z06 6 nm Z05 Z05 0)) (by decide) fun b2 q3 w3 _ (HP:Hd _) (HS:Hd _)=>?_
  cases b2 with
  | false=>
   replace HS:=ae (HS.o.no (by simp));go_wp2_with fail;unfold FV at HS;refine bt (HG.o _ _ HS.o.st.cur.at_ (by have:=HS.o.st.dh;omega)) HS.o (iy c.l false) (by decide) fun ar q4 w4 a1 k1 (HS:Hd _)=>?_;go_wp2_with fail;refine bt (dZ.o _ _ HS.o.st.cur.at_ (by have:=HS.o.st.dh;omega)) HS.o (az c.l false) (by decide) fun di q5 w5 a2 k2 (HS:Hd _)=>?_;have d4:=HS.o.st.cur.at_.c4
   cases hb:q5.bad with
   | true=>
    rw[hb] at d4;replace HS:=ae (HS.o.FP (fun e=>by rw[hb] at e;cases e.1));clear hb;obtain⟨e0,e1,e2,e3,e4,e5⟩:=fU.of (show _=some (Z06 6 nm Z05 Z05 0) from(HS.o.self.2.2.1).2);go_wp2_with fail;refine dv {kind:=6,name:=nm} [ar,di,([]:List Nd)] (vs:=#[.slice a1 ar.length k1,.slice a2 di.length k2,.slice none 0 0]) (.cons (HS.o.self.2.1).1.2.to (.cons (HS.o.self.1).1.2.to (.cons (kM.nil c _).to .nil))) (by have:=(HS.o.self.2.1).2;have:=(HS.o.self.1).2;simp[made]<;>omega) (by simp) HS.o fun w6 am jm (HS:Hd _)=>?_;clear e0 e1 e2 e3 e4 e5 d4;go_wp2_with fail;go_returns
    exact bz HS.o HS.o.self.1
   | false=>
    rw[hb] at d4;by_cases hk:ag c.l q5.pos=12
    · skip
      have y1:(ag c.l q5.pos==12)=true:=by simpa using hk
      have Zv:=ae (Iv (sub:=sub) hb hk);clear hb hk;go_wp2_with fail;refine eG HS.o fun w7 (HS:Hd _)=>?_;go_wp2_with fail;clear d4 y1;refine bt (by rw[Zv.o];exact av.o _ _ HS.o.st.cur.at_ (by have:=HS.o.st.dl;have:=A9.o;omega) (by have:=HS.o.st.dh;omega)) HS.o (JM Uy.o) (by decide) fun su q8 w8 a3 k3 (HS:Hd _)=>?_;obtain⟨e0,e1,e2,e3,e4,e5⟩:=fU.of (show _=some (Z06 6 nm Z05 Z05 0) from(HS.o.self.2.2.2.1).2);go_wp2_with fail;refine dv {kind:=6,name:=nm} [ar,di,su] (vs:=#[.slice a1 ar.length k1,.slice a2 di.length k2,.slice a3 su.length k3]) (.cons (HS.o.self.2.2.1).1.2.to (.cons (HS.o.self.2.1).1.2.to (.cons (HS.o.self.1).1.2.to .nil))) (by have:=(HS.o.self.2.2.1).2;have:=(HS.o.self.2.1).2;have:=(HS.o.self.1).2;simp[made]<;>omega) (by simp) HS.o fun w9 am jm (HS:Hd _)=>?_;clear e0 e1 e2 e3 e4 e5;go_wp2_with fail;go_returns;exact bz HS.o HS.o.self.1
    · skip
      have y1:(ag c.l q5.pos==12)=false:=by simpa using hk
      replace HS:=ae (HS.o.FP (fun e=>hk e.2));clear hb hk;go_wp2_with fail;refine eG HS.o fun w10 (HS:Hd _)=>?_;obtain⟨e0,e1,e2,e3,e4,e5⟩:=fU.of (show _=some (Z06 6 nm Z05 Z05 0) from(HS.o.self.2.2.1).2);go_wp2_with fail;refine dv {kind:=6,name:=nm} [ar,di,([]:List Nd)] (vs:=#[.slice a1 ar.length k1,.slice a2 di.length k2,.slice none 0 0]) (.cons (HS.o.self.2.1).1.2.to (.cons (HS.o.self.1).1.2.to (.cons (kM.nil c _).to .nil))) (by have:=(HS.o.self.2.1).2;have:=(HS.o.self.1).2;simp[made]<;>omega) (by simp) HS.o fun w11 am jm (HS:Hd _)=>?_;clear e0 e1 e2 e3 e4 e5;go_wp2_with fail;go_returns
      exact bz HS.o HS.o.self.1
  | true=>
   replace HS:=ae (HS.o.yes (by simp));go_wp2_with fail;have tU:=show _=some (Z06 6 nm Z05 Z05 0) from HS.o.self.1.2
   have e1:=cell_of tU (i:=1) rfl;have e2:=cell_of tU (i:=2) rfl;have f1:=aF tU 1;have f2:=aF tU 2
   go_region_law (go_simp;go_at_call 26;refine e9 HS.o.drew fun mm OI w12 h=>?_;have gP:=show _=some (Z06 6 nm Z05 Z05 0) from h.self.1.2;have e1':=cell_of gP (i:=1) rfl;have XF:=cell_of gP (i:=2) rfl;have f1':=aF gP 1;have f2':=aF gP 2)
   all_goals
    replace HS:=ae h;clear h tU e1 e2 f1 f2 gP e1' XF f1' f2';go_wp2_with fail;unfold FV at HS;refine bt (HG.o _ _ ((HS.o.own (i:=2) (u:=.string nm) (fun _=>trivial)).own (i:=1) (u:=.string mm) (fun _=>trivial)).st.cur.at_ (by have:=((HS.o.own (i:=2) (u:=.string nm) (fun _=>trivial)).own (i:=1) (u:=.string mm) (fun _=>trivial)).st.dh;omega)) ((HS.o.own (i:=2) (u:=.string nm) (fun _=>trivial)).own (i:=1) (u:=.string mm) (fun _=>trivial)) (iy c.l false) (by decide) fun ar tH w13 a4 k4 (HS:Hd _)=>?_;go_wp2_with fail;refine bt (dZ.o _ _ HS.o.st.cur.at_ (by have:=HS.o.st.dh;omega)) HS.o (az c.l false) (by decide) fun di Rp w14 a5 k5 (HS:Hd _)=>?_;have d4:=HS.o.st.cur.at_.c4
    cases hb:Rp.bad with
    | true=>
     rw[hb] at d4;replace HS:=ae (HS.o.FP (fun e=>by rw[hb] at e;cases e.1));clear hb;obtain⟨e0,e1,e2,e3,e4,e5⟩:=fU.of (show _=some (Z06 6 mm nm Z05 0) from(HS.o.self.2.2.1).2);go_wp2_with fail;refine dv {kind:=6,name:=mm,alias:=nm} [ar,di,([]:List Nd)] (vs:=#[.slice a4 ar.length k4,.slice a5 di.length k5,.slice none 0 0]) (.cons (HS.o.self.2.1).1.2.to (.cons (HS.o.self.1).1.2.to (.cons (kM.nil c _).to .nil))) (by have:=(HS.o.self.2.1).2;have:=(HS.o.self.1).2;simp[made]<;>omega) (by simp) HS.o fun w15 am jm (HS:Hd _)=>?_;clear e0 e1 e2 e3 e4 e5 d4;go_wp2_with fail;go_returns
     exact bz HS.o HS.o.self.1
    | false=>
     rw[hb] at d4;by_cases hk:ag c.l Rp.pos=12
     · skip
       have y1:(ag c.l Rp.pos==12)=true:=by simpa using hk
       have Zv:=ae (Iv (sub:=sub) hb hk);clear hb hk;go_wp2_with fail;refine eG HS.o fun w16 (HS:Hd _)=>?_;go_wp2_with fail;clear d4 y1;refine bt (by rw[Zv.o];exact av.o _ _ HS.o.st.cur.at_ (by have:=HS.o.st.dl;have:=A9.o;omega) (by have:=HS.o.st.dh;omega)) HS.o (JM Uy.o) (by decide) fun su q17 w17 a6 k6 (HS:Hd _)=>?_;obtain⟨e0,e1,e2,e3,e4,e5⟩:=fU.of (show _=some (Z06 6 mm nm Z05 0) from(HS.o.self.2.2.2.1).2);go_wp2_with fail;refine dv {kind:=6,name:=mm,alias:=nm} [ar,di,su] (vs:=#[.slice a4 ar.length k4,.slice a5 di.length k5,.slice a6 su.length k6]) (.cons (HS.o.self.2.2.1).1.2.to (.cons (HS.o.self.2.1).1.2.to (.cons (HS.o.self.1).1.2.to .nil))) (by have:=(HS.o.self.2.2.1).2;have:=(HS.o.self.2.1).2;have:=(HS.o.self.1).2;simp[made]<;>omega) (by simp) HS.o fun w18 am jm (HS:Hd _)=>?_;clear e0 e1 e2 e3 e4 e5;go_wp2_with fail;go_returns;exact bz HS.o HS.o.self.1
     · skip
       have y1:(ag c.l Rp.pos==12)=false:=by simpa using hk
       replace HS:=ae (HS.o.FP (fun e=>hk e.2));clear hb hk;go_wp2_with fail;refine eG HS.o fun w19 (HS:Hd _)=>?_;obtain⟨e0,e1,e2,e3,e4,e5⟩:=fU.of (show _=some (Z06 6 mm nm Z05 0) from(HS.o.self.2.2.1).2);go_wp2_with fail;refine dv {kind:=6,name:=mm,alias:=nm} [ar,di,([]:List Nd)] (vs:=#[.slice a4 ar.length k4,.slice a5 di.length k5,.slice none 0 0]) (.cons (HS.o.self.2.1).1.2.to (.cons (HS.o.self.1).1.2.to (.cons (kM.nil c _).to .nil))) (by have:=(HS.o.self.2.1).2;have:=(HS.o.self.1).2;simp[made]<;>omega) (by simp) HS.o fun w20 am jm (HS:Hd _)=>?_;clear e0 e1 e2 e3 e4 e5;go_wp2_with fail;go_returns
       exact bz HS.o HS.o.self.1
 | true=>replace HS:=ae (HS.o.yes (by simp));go_wp2_with fail;refine(WQ.o _ _ HS.o.st.cur.at_ (by have:=HS.o.st.dh;omega) (by have:=HS.o.st.dl;have:=A9.o;omega)).mono ?_;intro e w21 h1;rw[HS.o.eq] at h1;obtain⟨a1,k1,rfl,(HL:Hd _),(HC:Hd _),hs⟩:=h1.go HS.o.st.cur;clear h1 hs;go_wp2_with fail;go_returns;exact lp HC.o HL.o rfl
end Go.Proofs.YtnpjmhodfdgloaaGreatDoor
