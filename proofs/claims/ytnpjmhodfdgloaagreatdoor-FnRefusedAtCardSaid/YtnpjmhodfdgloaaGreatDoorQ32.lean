/- Part of the proof. -/
import Derived.Deep.CutBlock
import Derived.Test.YtnpjmhodfdgloaaGreatDoorQ31
set_option linter.unusedVariables false
set_option linter.unusedSimpArgs false
namespace Go.Proofs.YtnpjmhodfdgloaaGreatDoor
set_option maxRecDepth 100000
set_option maxHeartbeats 32000000
open Go.RowKit
attribute [local go_sem ↓] Go.wp_at_zero Go.wp_at_succ
theorem Hv{x w:ByteArray}{l:List UInt8}(h:x=w)(hl:w.toList=l):x.toList=l∧(x.toList==l)=true:=by subst h;exact⟨hl,by rw[hl];exact beq_self_eq_true l⟩
theorem Hw{x w:ByteArray}{l:List UInt8}(h:¬x=w)(hl:w.toList=l):¬x.toList=l∧(x.toList==l)=false:=by have hn:¬x.toList=l:=fun e=>h (Go.WideShapes.bytes_inj (by rw[←ByteArray.toList_eq,←ByteArray.toList_eq,e,hl]));exact⟨hn,bn hn⟩
theorem Gm:hO.toList=[113,117,101,114,121]:=by rw[ByteArray.toList_eq];rfl
theorem vq:l7.toList=[109,117,116,97,116,105,111,110]:=by rw[ByteArray.toList_eq];rfl
theorem nN:ga.toList=[115,117,98,115,99,114,105,112,116,105,111,110]:=by rw[ByteArray.toList_eq];rfl
theorem vp:dV.toList=[102,114,97,103,109,101,110,116]:=by rw[ByteArray.toList_eq];rfl
theorem Bj:fp.toList=[115,99,104,101,109,97]:=by rw[ByteArray.toList_eq];rfl
theorem Mo:ka.toList=[115,99,97,108,97,114]:=by rw[ByteArray.toList_eq];rfl
theorem TY:iC.toList=[116,121,112,101]:=by rw[ByteArray.toList_eq];rfl
theorem Cs:fE.toList=[105,110,116,101,114,102,97,99,101]:=by rw[ByteArray.toList_eq];rfl
theorem Q1:mU.toList=[117,110,105,111,110]:=by rw[ByteArray.toList_eq];rfl
theorem TX:qO.toList=[101,110,117,109]:=by rw[ByteArray.toList_eq];rfl
theorem Q0:mT.toList=[105,110,112,117,116]:=by rw[ByteArray.toList_eq];rfl
theorem Cr:fD.toList=[100,105,114,101,99,116,105,118,101]:=by rw[ByteArray.toList_eq];rfl
theorem Bi:fZ.toList=[101,120,116,101,110,100]:=by rw[ByteArray.toList_eq];rfl
section
variable(l:List Tok)
def Qt(text:List Nd)(w:ByteArray):SM (List Nd):=
 if aN w then(do qH;eF l) else
 if w=dV then dx l else
 if w=fp then iQ l text else
 if w=ka then(do let n ←aw l;let d ←ao l true;pure (made {kind:=26,name:=n} [text,d])) else
 if w=iC then fY l text else
 if w=fE then(do
  let n ←aw l
  let imp ←cR l 0 cN
  aL imp
  let d ←ao l true
  let f ←hZ l
  pure (made {kind:=31,name:=n} [text,d,f])) else
 if w=mU then lY l text else
 if w=qO then hJ l text else
 if w=mT then(do let n ←aw l;let d ←ao l true;let i ←fX l 12 14;pure (made {kind:=36,name:=n} [text,d,i])) else
 if w=fD then ir l text else
 if w=fZ then(do
  let t ←cR l 0 iC
  aL (!t)
  if t=false then dn else
  dY
  let o ←fY l []
  pure (made {kind:=39} [o])) else
 (do qH;dn)
theorem vg(text:List Nd)(w:ByteArray):CX l text w=(aL (decide (w=fp)&&!text.isEmpty)>>=fun _=>aw l>>=Qt l text):=rfl
def uK(w:ByteArray):Bool:=aN w||decide (w=dV)||decide (w=fZ)
theorem uE{text:List Nd}{q:Ps}(h:uK (aX l q.pos)=true)(ht:text.isEmpty=false):wX l text q=(qH>>=fun _=>dn) q:=by
 unfold wX;unfold uK at h;rw[if_pos (by rw[h,ht];rfl)]
 rfl
theorem vt{text:List Nd}{q:Ps}{w:ByteArray}(hw:aX l q.pos=w)(h:uK w=false∨text.isEmpty=true):wX l text q=CX l text w q:=by
 subst hw;unfold wX;unfold uK at h;rw[if_neg];intro e;rw[Bool.and_eq_true] at e;rcases h with h|h
 · rw[h] at e;cases e.1
 · rw[h] at e;cases e.2
end
section
variable{c:Sx}{w W:World}{lo N:Nat}{E:World→Prop}{β:Type}{r:β×Ps}{q:Ps}{Q:Ending→World→Prop}
theorem DQ{f:List Nd→SM β}(h:dz c w lo N E (cj c.l>>=f) r q W)(hk:ag c.l q.pos=18∨ag c.l q.pos=19)
 (k:∀x q' W' a n,x.length=1→q'.pos=q.pos+1→q'.bad=q.bad→dz c w lo N (fun X=>kM c 0 X (.slice a x.length n) x∧True) (f x) r q' W'→Q (.returned (.slice a x.length n)) W') :
 Calls Tryz.prog 25 #[.pointer (some ⟨c.sp,0,none⟩)] W Q:=by
 refine(rY c q W h.st.cur.at_ hk).mono ?_;rintro e W' h1;obtain⟨a,n,rfl,hl,h2,h3⟩:=h1.go2 h.st.cur;exact k (cj c.l q).1 (cj c.l q).2 W' a n rfl rfl rfl ⟨⟨h2,h.st.dl,h.st.dh,fun X hX=>⟨(hl.sm hX).any,trivial⟩⟩,h.eq⟩
end
theorem BM(c:Sx)(p:Ps)(w:World)(h:fV c p w)(hd:p.deep≤60)(hb:p.bad=false):Calls Tryz.prog 16 #[.pointer (some ⟨c.sp,0,none⟩)] w (aM c (dX c.l p).2 (dX c.l p).1 w):=by
 obtain⟨r,hr⟩:∃r,(dX c.l) p=r:=⟨_,rfl⟩;rw[hr];rw[pO] at hr;have HS:=ae (gz hr h hd);have HB:=ae hb;clear hb;clear h hd hr;go_enter Tryz.func16,Tryz.ntmps16;go_wp2_with fail;replace HS:=ae (HS.o.kind);by_cases hk:ag c.l p.pos=12
 · skip
   have y1:(ag c.l p.pos==12)=true:=by simpa using hk
   have y2:(ag c.l p.pos !=12)=false:=by simpa using hk
   replace HS:=ae (HS.o.yes hk);have HK:=ae hk;clear hk;refine eG HS.o fun w1 (HS:Hd _)=>?_;go_wp2_with fail;clear y1 y2;refine bt (kF c _ _ HS.o.st.cur.at_ (by have:=HS.o.st.dh;omega)) HS.o (dI c.l 62) (by decide) fun x q2 w2 a1 k1 (HS:Hd _)=>?_;go_wp2_with fail;refine dv {kind:=2,text:=hO,flag:=1} [x] (vs:=#[.slice a1 x.length k1]) (.cons (HS.o.self.1).1.2.to .nil) (by have:=(HS.o.self.1).2;simp[made]<;>omega) (by simp) HS.o fun w3 am jm (HS:Hd _)=>?_;go_wp2_with fail;go_returns;exact bz HS.o HS.o.self.1
 · skip
   have y1:(ag c.l p.pos==12)=false:=by simpa using hk
   have y2:(ag c.l p.pos !=12)=true:=by simpa using hk
   replace HS:=ae (HS.o.no hk);have HK:=ae hk;clear hk;refine eG HS.o fun w4 (HS:Hd _)=>?_;go_upto_region 4 with fail
   clear y1 y2
   go_cut [20] from 13 to 20 (fun v wx=>v=.bool (decide (ag c.l p.pos=18∨ag c.l p.pos=19))∧Hd (dz c w p.deep 60 (fun _=>True) ((if ag c.l p.pos=18∨ag c.l p.pos=19 then cj c.l else pure []:SM (List Nd))>>=oa c.l) r p wx))
   case first=>
    by_cases mf:ag c.l p.pos=18
    · skip
      have y1:(ag c.l p.pos==18)=true:=by simpa using mf
      have Uo:=ae mf;clear mf;go_wp2_with fail;refine eG HS.o fun w5 (HS:Hd _)=>?_;go_wp2_with fail;go_meet;exact⟨by rw[decide_eq_true (.inl Uo.o)],HS.o⟩
    have y1:(ag c.l p.pos==18)=false:=by simpa using mf
    have Uo:=ae mf;clear mf;go_wp2_with fail;refine eG HS.o fun w6 h=>?_;replace HS:=ae h;clear h;by_cases mn:ag c.l p.pos=19
    · skip
      have y2:(ag c.l p.pos==19)=true:=by simpa using mn
      have Zq:=ae mn;clear mn;go_wp2_with fail;refine eG HS.o fun w7 h=>?_;replace HS:=ae h;clear h;go_wp2_with fail;go_meet;exact⟨by rw[decide_eq_true (.inr Zq.o)],HS.o⟩
    have y2:(ag c.l p.pos==19)=false:=by simpa using mn
    have Zq:=ae mn;clear mn;go_wp2_with fail;refine eG HS.o fun w8 h=>?_;replace HS:=ae h;clear h;go_wp2_with fail;go_meet;exact⟨by rw[decide_eq_false (fun e=>e.elim Uo.o Zq.o)],HS.o⟩
   case rest=>
    obtain⟨rfl,h⟩:=hcut;replace HS:=h;clear h;go_upto_if 20 with fail
    go_cut [3] from 20 to 22 (fun v wx=>∃ta tk text q,v=.slice ta text.length tk∧Hd (dz c w p.deep 60 (fun X=>kM c 0 X (.slice ta text.length tk) text∧True) (oa c.l text) r q wx)∧Hd (text.length≤10∧q.bad=false∧(text.isEmpty=false→1≤q.pos)))
    case first=>
     by_cases hk:ag c.l p.pos=18∨ag c.l p.pos=19
     · skip
       rw[decide_eq_true hk];have HK:=ae hk;replace HS:=ae (HS.o.xU hk);clear hk;go_wp2_with fail;refine DQ HS.o HK.o fun x q9 w9 ta tk (HX:Hd _) (HPP:Hd _) (Tr:Hd _) h=>?_;replace HS:=ae h;clear h;go_wp2_with fail;go_meet;exact⟨ta,tk,x,_,rfl,HS,⟨by have h:x.length=1:=HX.o;omega,Tr.o.trans HB.o,fun _=>by rw[HPP.o];omega⟩⟩
     rw[decide_eq_false hk];replace HS:=ae (HS.o.Kc hk);clear hk;replace HS:=ae (HS.o.pure);go_wp2_with fail;go_meet;exact⟨none,0,[],_,rfl,ae (HS.o.nH (fun X _=>⟨kM.nil c X,trivial⟩)),⟨by simp,HB.o,fun e=>by cases e⟩⟩
    case rest=>
     obtain⟨ta,tk,text,q,rfl,h,h2⟩:=hcut;replace HS:=h;have zr:=ae h2.out.1;replace HB:=ae h2.out.2.1;have Xq:=ae h2.out.2.2;clear h h2;unfold oa at HS;obtain⟨te,KU⟩:∃b,text.isEmpty=b:=⟨_,rfl⟩
     have yl:te=false→(text.length:Int)>0:=fun e=>by
      rw[e] at KU
      cases text with
      | nil=>cases KU
      | cons a t=>simp only[List.length_cons];omega
     have yn:te=true→¬((text.length:Int)>0):=fun e=>by
      rw[e] at KU
      cases text with
      | nil=>simp
      | cons a t=>cases KU
     have Xu:=ae yl;have Xv:=ae yn;have EH:=ae KU;clear yl yn KU;replace HS:=ae (HS.o.as (m':=fc c.l 0>>=fun q=>if q≠15 then dn else wX c.l text) rfl);replace HS:=ae (HS.o.kind);by_cases hk:ag c.l q.pos=15
     · skip
       have y1:(ag c.l q.pos==15)=true:=by simpa using hk
       have y2:(ag c.l q.pos !=15)=false:=by simpa using hk
       replace HS:=ae (HS.o.no (fun e=>e hk));have HK:=ae hk;clear hk;go_wp2_with fail;refine eG HS.o fun w10 h=>?_;replace HS:=ae h;clear h;obtain⟨X,hX⟩:∃X,aX c.l q.pos=X:=⟨_,rfl⟩;have HX:=ae hX;have hi:q.pos<c.l.length:=Mq HK.o (by decide);have c0:=HS.o.st.cur.at_.c0;have c1:=HS.o.st.cur.at_.c1;have Cf:=(HS.o.st.cur.at_.jC.at_ _ hi).1;rw[Cf] at c0;have t1:=(HS.o.st.cur.at_.jC.at_ _ hi).2.2.1;rw[←Du hi,hX] at t1;have z2:(q.pos:Int)<(c.l.length:Int):=by omega
       have z3:(0:Int)≤(q.pos:Int):=by omega
       have Bf:=HS.o.st.cur.pos;have R1:=ae hi;clear hX Cf hi;obtain⟨w0,rfl⟩:∃W,W=w10:=⟨w10,rfl⟩;go_upto_region 8 with fail
       clear y1 y2
       go_cut [38] from 28 to 38 (fun v wx=>v=.string X∧Hd (dz c w p.deep 60 (fun X=>kM c 0 X (.slice ta text.length tk) text∧True) (wX c.l text) r q wx))
       case first=>go_quiet (fail);go_wp2_with fail;go_meet;exact⟨rfl,HS.o.up (by(repeat(first| exact sr|assumption|refine Sm.alloc ?_ _|refine Sm.drew ?_|refine Sm.drewN ?_ _)))⟩
       case rest=>
        obtain⟨rfl,h⟩:=hcut;replace HS:=h;clear h c0 c1 t1 z2 z3;go_upto_block 0 with fail
        go_cut [] from 39 to 70 (fun wx=>∃q,Hd (dz c w p.deep 60 (fun X=>kM c 0 X (.slice ta text.length tk) text∧True) (aw c.l>>=Qt c.l text) r q wx)∧Hd (q.bad=false∧ag c.l q.pos=15∧q.pos<c.l.length))
        case first=>
         by_cases kZ:X=hO
         · skip
           obtain⟨Hn,Hu⟩:=Hv kZ Gm;have hc:uK X=true:=by rw[kZ];rfl
           clear kZ
           cases te with
           | false=>
            have yt:=Xu.o rfl;replace HS:=ae (HS.o.as (uE c.l (by rw[HX.o];exact hc) EH.o));clear hc;have TQ:=Xq.o EH.o;have d1:=HS.o.st.cur.at_.c1;have uq:=HS.o.st.cur.at_.free 1;go_wp2_with fail;clear d1 uq;refine iV (HS.o.back (u:=(q.pos:Int)-1) (by omega)) fun X8 w11 (HS:Hd _)=>?_;go_wp2_with fail;go_returns
            exact eA HS.o
           | true=>have yt:=Xv.o rfl;replace HS:=ae (HS.o.as ((vt c.l HX.o (.inr EH.o)).trans (congrFun (vg c.l text X) q)));clear hc;go_wp2_with fail;go_meet;exact⟨_,HS.o.EB (by rw[EH.o];simp),⟨HB.o,HK.o,R1.o⟩⟩
         obtain⟨Hn,Hu⟩:=Hw kZ Gm;have FM:=ae kZ;clear kZ;by_cases fQ:X=l7
         · skip
           obtain⟨xO,xR⟩:=Hv fQ vq;have hc:uK X=true:=by rw[fQ];rfl
           clear fQ
           cases te with
           | false=>
            have yt:=Xu.o rfl;replace HS:=ae (HS.o.as (uE c.l (by rw[HX.o];exact hc) EH.o));clear hc;have TQ:=Xq.o EH.o;have d1:=HS.o.st.cur.at_.c1;have uq:=HS.o.st.cur.at_.free 1;go_wp2_with fail;clear d1 uq;refine iV (HS.o.back (u:=(q.pos:Int)-1) (by omega)) fun OI w12 (HS:Hd _)=>?_;go_wp2_with fail;go_returns
            exact eA HS.o
           | true=>have yt:=Xv.o rfl;replace HS:=ae (HS.o.as ((vt c.l HX.o (.inr EH.o)).trans (congrFun (vg c.l text X) q)));clear hc;go_wp2_with fail;go_meet;exact⟨_,HS.o.EB (by rw[EH.o];simp),⟨HB.o,HK.o,R1.o⟩⟩
         obtain⟨xO,xR⟩:=Hw fQ vq;have xl:=ae fQ;clear fQ;by_cases dy:X=ga
         · skip
           obtain⟨pV,qc⟩:=Hv dy nN;have hc:uK X=true:=by rw[dy];rfl
           clear dy
           cases te with
           | false=>
            have yt:=Xu.o rfl;replace HS:=ae (HS.o.as (uE c.l (by rw[HX.o];exact hc) EH.o));clear hc;have TQ:=Xq.o EH.o;have d1:=HS.o.st.cur.at_.c1;have uq:=HS.o.st.cur.at_.free 1;go_wp2_with fail;clear d1 uq;refine iV (HS.o.back (u:=(q.pos:Int)-1) (by omega)) fun tH w13 (HS:Hd _)=>?_;go_wp2_with fail;go_returns
            exact eA HS.o
           | true=>have yt:=Xv.o rfl;replace HS:=ae (HS.o.as ((vt c.l HX.o (.inr EH.o)).trans (congrFun (vg c.l text X) q)));clear hc;go_wp2_with fail;go_meet;exact⟨_,HS.o.EB (by rw[EH.o];simp),⟨HB.o,HK.o,R1.o⟩⟩
         obtain⟨pV,qc⟩:=Hw dy nN;have ui:=ae dy;clear dy;by_cases fC:X=dV
         · skip
           obtain⟨xN,xQ⟩:=Hv fC vp;have hc:uK X=true:=by rw[fC];rfl
           clear fC
           cases te with
           | false=>
            have yt:=Xu.o rfl;replace HS:=ae (HS.o.as (uE c.l (by rw[HX.o];exact hc) EH.o));clear hc;have TQ:=Xq.o EH.o;have d1:=HS.o.st.cur.at_.c1;have uq:=HS.o.st.cur.at_.free 1;go_wp2_with fail;clear d1 uq;refine iV (HS.o.back (u:=(q.pos:Int)-1) (by omega)) fun Rp w14 (HS:Hd _)=>?_;go_wp2_with fail;go_returns
            exact eA HS.o
           | true=>have yt:=Xv.o rfl;replace HS:=ae (HS.o.as ((vt c.l HX.o (.inr EH.o)).trans (congrFun (vg c.l text X) q)));clear hc;go_wp2_with fail;go_meet;exact⟨_,HS.o.EB (by rw[EH.o];simp),⟨HB.o,HK.o,R1.o⟩⟩
         obtain⟨xN,xQ⟩:=Hw fC vp;have BB:=ae fC;clear fC;by_cases iA:X=fZ
         · skip
           obtain⟨Df,Dp⟩:=Hv iA Bi;have hc:uK X=true:=by rw[iA];rfl
           clear iA
           cases te with
           | false=>
            have yt:=Xu.o rfl;replace HS:=ae (HS.o.as (uE c.l (by rw[HX.o];exact hc) EH.o));clear hc;have TQ:=Xq.o EH.o;have d1:=HS.o.st.cur.at_.c1;have uq:=HS.o.st.cur.at_.free 1;go_wp2_with fail;clear d1 uq;refine iV (HS.o.back (u:=(q.pos:Int)-1) (by omega)) fun Yn w15 (HS:Hd _)=>?_;go_wp2_with fail;go_returns
            exact eA HS.o
           | true=>have yt:=Xv.o rfl;replace HS:=ae (HS.o.as ((vt c.l HX.o (.inr EH.o)).trans (congrFun (vg c.l text X) q)));clear hc;go_wp2_with fail;go_meet;exact⟨_,HS.o.EB (by rw[EH.o];simp),⟨HB.o,HK.o,R1.o⟩⟩
         obtain⟨Df,Dp⟩:=Hw iA Bi;have Ip:=ae iA;clear iA;have hc:uK X=false:=by simp[uK,aN,FM.out,xl.out,ui.out,BB.out,Ip.out]
         replace HS:=ae (HS.o.as ((vt c.l HX.o (.inl hc)).trans (congrFun (vg c.l text X) q)));clear hc;by_cases iB:X=fp
         · skip
           obtain⟨Dg,Dq⟩:=Hv iB Bj;have yf:=ae iB;clear iB;have d5:=HS.o.st.cur.at_.c5;have lS:=HS.o.st.cur.at_.free 5
           cases hu:q.unsure with
           | true=>
            simp only[hu] at d5;have HU:=ae hu;clear hu;go_wp2_with fail;go_meet
            exact⟨_,HS.o.l9 (u:=true) (by rw[HU.o];rfl),⟨HB.o,HK.o,R1.o⟩⟩
           | false=>simp only[hu] at d5;have HU:=ae hu;clear hu;go_wp2_with fail;go_meet;exact⟨_,HS.o.l9 (u:=decide (0<text.length)) (by rw[HU.o,yf.out];cases text<;>simp),⟨HB.o,HK.o,R1.o⟩⟩
         obtain⟨Dg,Dq⟩:=Hw iB Bj;have yf:=ae iB;clear iB;go_wp2_with fail;go_meet;exact⟨_,HS.o.EB (by rw[decide_eq_false yf.out];rfl),⟨HB.o,HK.o,R1.o⟩⟩
        case rest=>
         clear HB HK R1;obtain⟨q2,h,h2⟩:=hcut;replace HS:=h;have HB:=ae h2.out.1;have HK:=ae h2.out.2.1;have R1:=ae h2.out.2.2;clear h h2;go_wp2_with fail;refine GB HS.o fun x q3 w3 hx (HQ:Hd _) (HS:Hd _)=>?_;clear hx;have WQ:Hd (1≤q3.pos):=by unfold Hd;rw[HQ.o,rL HB.o HK.o];exact Nat.succ_le_succ (Nat.zero_le _)
         unfold Qt at HS;by_cases kZ:x=hO
         · skip
           obtain⟨Hn,Hu⟩:=Hv kZ Gm;replace HS:=ae (HS.o.yes (by rw[kZ];decide));clear kZ;have TQ:=WQ.o;have d1:=HS.o.st.cur.at_.c1;have uq:=HS.o.st.cur.at_.free 1;have Bf:=HS.o.st.cur.pos;go_wp2_with fail;clear d1 uq;refine(r9 c _ _ (HS.o.back (u:=(q3.pos:Int)-1) (by omega)).st.cur.at_ (by have:=(HS.o.back (u:=(q3.pos:Int)-1) (by omega)).st.dh;omega)).mono ?_;intro e w4 h1;rw[(HS.o.back (u:=(q3.pos:Int)-1) (by omega)).eq] at h1;obtain⟨a1,k1,rfl,(HL:Hd _),(HC:Hd _),hs⟩:=h1.go (HS.o.back (u:=(q3.pos:Int)-1) (by omega)).st.cur;clear h1 hs;go_wp2_with fail;go_returns;exact lp HC.o HL.o rfl
         obtain⟨Hn,Hu⟩:=Hw kZ Gm;have FM:=ae kZ;clear kZ;by_cases fQ:x=l7
         · skip
           obtain⟨xO,xR⟩:=Hv fQ vq;replace HS:=ae (HS.o.yes (by rw[fQ];decide));clear fQ;have TQ:=WQ.o;have d1:=HS.o.st.cur.at_.c1;have uq:=HS.o.st.cur.at_.free 1;have Bf:=HS.o.st.cur.pos;go_wp2_with fail;clear d1 uq;refine(r9 c _ _ (HS.o.back (u:=(q3.pos:Int)-1) (by omega)).st.cur.at_ (by have:=(HS.o.back (u:=(q3.pos:Int)-1) (by omega)).st.dh;omega)).mono ?_;intro e w4 h1;rw[(HS.o.back (u:=(q3.pos:Int)-1) (by omega)).eq] at h1;obtain⟨a1,k1,rfl,(HL:Hd _),(HC:Hd _),hs⟩:=h1.go (HS.o.back (u:=(q3.pos:Int)-1) (by omega)).st.cur;clear h1 hs;go_wp2_with fail;go_returns;exact lp HC.o HL.o rfl
         obtain⟨xO,xR⟩:=Hw fQ vq;have xl:=ae fQ;clear fQ;by_cases dy:x=ga
         · skip
           obtain⟨pV,qc⟩:=Hv dy nN;replace HS:=ae (HS.o.yes (by rw[dy];decide));clear dy;have TQ:=WQ.o;have d1:=HS.o.st.cur.at_.c1;have uq:=HS.o.st.cur.at_.free 1;have Bf:=HS.o.st.cur.pos;go_wp2_with fail;clear d1 uq;refine(r9 c _ _ (HS.o.back (u:=(q3.pos:Int)-1) (by omega)).st.cur.at_ (by have:=(HS.o.back (u:=(q3.pos:Int)-1) (by omega)).st.dh;omega)).mono ?_;intro e w4 h1;rw[(HS.o.back (u:=(q3.pos:Int)-1) (by omega)).eq] at h1;obtain⟨a1,k1,rfl,(HL:Hd _),(HC:Hd _),hs⟩:=h1.go (HS.o.back (u:=(q3.pos:Int)-1) (by omega)).st.cur;clear h1 hs;go_wp2_with fail;go_returns;exact lp HC.o HL.o rfl
         have IY:¬aN x=true:=by simp[aN,FM.out,xl.out,dy]
         obtain⟨pV,qc⟩:=Hw dy nN;replace HS:=ae (HS.o.no IY);clear IY;have ui:=ae dy;clear dy;by_cases fC:x=dV
         · skip
           obtain⟨xN,xQ⟩:=Hv fC vp;replace HS:=ae (HS.o.yes fC);clear fC;go_wp2_with fail;refine(G8 c _ _ HS.o.st.cur.at_ (by have:=HS.o.st.dh;omega)).mono ?_;intro e w4 h1;rw[HS.o.eq] at h1;obtain⟨a1,k1,rfl,(HL:Hd _),(HC:Hd _),hs⟩:=h1.go HS.o.st.cur;clear h1 hs;go_wp2_with fail;go_returns;exact lp HC.o HL.o rfl
         obtain⟨xN,xQ⟩:=Hw fC vp;replace HS:=ae (HS.o.no fC);have BB:=ae fC;clear fC;by_cases iB:x=fp
         · skip
           obtain⟨Dg,Dq⟩:=Hv iB Bj;replace HS:=ae (HS.o.yes iB);clear iB;go_wp2_with fail;refine(Lo c ta tk text _ _ HS.o.st.cur.at_ (by have:=HS.o.st.dh;omega) HS.o.self.1 zr.o).mono ?_;intro e w4 h1;rw[HS.o.eq] at h1;obtain⟨a1,k1,rfl,(HL:Hd _),(HC:Hd _),hs⟩:=h1.go HS.o.st.cur;clear h1 hs;go_wp2_with fail;go_returns;exact lp HC.o HL.o rfl
         obtain⟨Dg,Dq⟩:=Hw iB Bj;replace HS:=ae (HS.o.no iB);have yf:=ae iB;clear iB;by_cases qe:x=ka
         · skip
           obtain⟨QD,QL⟩:=Hv qe Mo;replace HS:=ae (HS.o.yes qe);clear qe;go_wp2_with fail;refine e9 HS.o fun nm q16 w16 (HS:Hd _)=>?_;go_wp2_with fail;refine bt (bl c true _ _ HS.o.st.cur.at_ (by have:=HS.o.st.dh;omega)) HS.o (az c.l true) (by decide) fun d q17 w17 a2 k2 (HS:Hd _)=>?_;go_wp2_with fail;refine dv {kind:=26,name:=nm} [text,d] (vs:=#[.slice ta text.length tk,.slice a2 d.length k2]) (.cons (HS.o.self.2.1).to (.cons (HS.o.self.1).1.2.to .nil)) (by have:=zr.o;have:=(HS.o.self.1).2;simp[made]<;>omega) (by simp) HS.o fun w18 am jm (HS:Hd _)=>?_;go_wp2_with fail;go_returns;exact bz HS.o HS.o.self.1
         obtain⟨QD,QL⟩:=Hw qe Mo;replace HS:=ae (HS.o.no qe);have Xy:=ae qe;clear qe;by_cases xT:x=iC
         · skip
           obtain⟨Wj,WG⟩:=Hv xT TY;replace HS:=ae (HS.o.yes xT);clear xT;go_wp2_with fail;refine(xC c ta tk text _ _ HS.o.st.cur.at_ (by have:=HS.o.st.dh;omega) HS.o.self.1 zr.o).mono ?_;intro e w4 h1;rw[HS.o.eq] at h1;obtain⟨a1,k1,rfl,(HL:Hd _),(HC:Hd _),hs⟩:=h1.go HS.o.st.cur;clear h1 hs;go_wp2_with fail;go_returns;exact lp HC.o HL.o rfl
         obtain⟨Wj,WG⟩:=Hw xT TY;replace HS:=ae (HS.o.no xT);have ZS:=ae xT;clear xT;by_cases kI:x=fE
         · skip
           obtain⟨JK,JV⟩:=Hv kI Cs;replace HS:=ae (HS.o.yes kI);clear kI;go_wp2_with fail;refine e9 HS.o fun nm W7 w19 (HS:Hd _)=>?_;replace HS:=ae (HS.o.word);have d5:=HS.o.st.cur.at_.c5;have lS:=HS.o.st.cur.at_.free 5
           cases hu:W7.unsure with
           | true=>
            simp only[hu] at d5;have HU:=ae hu;clear hu;go_wp2_with fail;clear d5 lS;refine bt (bl c true _ _ (HS.o.l9 (u:=true) (by simp[HU.o])).st.cur.at_ (by have:=(HS.o.l9 (u:=true) (by simp[HU.o])).st.dh;omega)) (HS.o.l9 (u:=true) (by simp[HU.o])) (az c.l true) (by decide) fun d Yo w20 a3 k3 (HS:Hd _)=>?_;go_wp2_with fail;refine bt (xq c _ _ HS.o.st.cur.at_ (by have:=HS.o.st.dh;omega)) HS.o (pr c.l) (by decide) fun f q21 w21 a4 k4 (HS:Hd _)=>?_;go_wp2_with fail;refine dv {kind:=31,name:=nm} [text,d,f] (vs:=#[.slice ta text.length tk,.slice a3 d.length k3,.slice a4 f.length k4]) (.cons (HS.o.self.2.2.1).to (.cons (HS.o.self.2.1).1.2.to (.cons (HS.o.self.1).1.2.to .nil))) (by have:=zr.o;have:=(HS.o.self.2.1).2;have:=(HS.o.self.1).2;simp[made]<;>omega) (by simp) HS.o fun w22 am jm (HS:Hd _)=>?_;go_wp2_with fail;go_returns
            exact bz HS.o HS.o.self.1
           | false=>
            simp only[hu] at d5;have HU:=ae hu;clear hu;go_wp2_with fail;refine hQ (s:=cN) HS.o fun w23 (HS:Hd _)=>?_;clear d5 lS;have d5:=HS.o.st.cur.at_.c5;have lS:=HS.o.st.cur.at_.free 5;simp only[HU.o] at d5;go_wp2_with fail;clear d5 lS;refine bt (bl c true _ _ (HS.o.l9 (u:=(cR c.l 0 cN W7).1) (by first| (rw[HU.o,Bool.false_or];first| exact il _ _|exact ik _ _)|simp[HU.o,bne])).st.cur.at_ (by have:=(HS.o.l9 (u:=(cR c.l 0 cN W7).1) (by first| (rw[HU.o,Bool.false_or];first| exact il _ _|exact ik _ _)|simp[HU.o,bne])).st.dh;omega)) (HS.o.l9 (u:=(cR c.l 0 cN W7).1) (by first| (rw[HU.o,Bool.false_or];first| exact il _ _|exact ik _ _)|simp[HU.o,bne])) (az c.l true) (by decide) fun d q24 w24 a5 k5 h=>?_
            replace HS:=ae h;clear h;go_wp2_with fail;refine bt (xq c _ _ HS.o.st.cur.at_ (by have:=HS.o.st.dh;omega)) HS.o (pr c.l) (by decide) fun f q25 w25 a6 k6 (HS:Hd _)=>?_;go_wp2_with fail;refine dv {kind:=31,name:=nm} [text,d,f] (vs:=#[.slice ta text.length tk,.slice a5 d.length k5,.slice a6 f.length k6]) (.cons (HS.o.self.2.2.1).to (.cons (HS.o.self.2.1).1.2.to (.cons (HS.o.self.1).1.2.to .nil))) (by have:=zr.o;have:=(HS.o.self.2.1).2;have:=(HS.o.self.1).2;simp[made]<;>omega) (by simp) HS.o fun w26 am jm (HS:Hd _)=>?_;go_wp2_with fail;go_returns;exact bz HS.o HS.o.self.1
         obtain⟨JK,JV⟩:=Hw kI Cs;replace HS:=ae (HS.o.no kI);have TA:=ae kI;clear kI;by_cases tq:x=mU
         · skip
           obtain⟨Tb,Tl⟩:=Hv tq Q1;replace HS:=ae (HS.o.yes tq);clear tq;go_wp2_with fail;refine(Ol c ta tk text _ _ HS.o.st.cur.at_ (by have:=HS.o.st.dh;omega) HS.o.self.1 zr.o).mono ?_;intro e w4 h1;rw[HS.o.eq] at h1;obtain⟨a1,k1,rfl,(HL:Hd _),(HC:Hd _),hs⟩:=h1.go HS.o.st.cur;clear h1 hs;go_wp2_with fail;go_returns;exact lp HC.o HL.o rfl
         obtain⟨Tb,Tl⟩:=Hw tq Q1;replace HS:=ae (HS.o.no tq);have YR:=ae tq;clear tq;by_cases xS:x=qO
         · skip
           obtain⟨Wi,WE⟩:=Hv xS TX;replace HS:=ae (HS.o.yes xS);clear xS;go_wp2_with fail;refine(Pr c ta tk text _ _ HS.o.st.cur.at_ (by have:=HS.o.st.dh;omega) HS.o.self.1 zr.o).mono ?_;intro e w4 h1;rw[HS.o.eq] at h1;obtain⟨a1,k1,rfl,(HL:Hd _),(HC:Hd _),hs⟩:=h1.go HS.o.st.cur;clear h1 hs;go_wp2_with fail;go_returns;exact lp HC.o HL.o rfl
         obtain⟨Wi,WE⟩:=Hw xS TX;replace HS:=ae (HS.o.no xS);have ZR:=ae xS;clear xS;by_cases tn:x=mT
         · skip
           obtain⟨Ta,Tk⟩:=Hv tn Q0;replace HS:=ae (HS.o.yes tn);clear tn;go_wp2_with fail;refine e9 HS.o fun nm q27 w27 (HS:Hd _)=>?_;go_wp2_with fail;refine bt (bl c true _ _ HS.o.st.cur.at_ (by have:=HS.o.st.dh;omega)) HS.o (az c.l true) (by decide) fun d q28 w28 a7 k7 (HS:Hd _)=>?_;go_wp2_with fail;refine bt (xv c 12 14 (by decide) (by decide) _ _ HS.o.st.cur.at_ (by have:=HS.o.st.dh;omega)) HS.o (kW c.l 12 14) (by decide) fun i q29 w29 a8 k8 (HS:Hd _)=>?_;go_wp2_with fail;refine dv {kind:=36,name:=nm} [text,d,i] (vs:=#[.slice ta text.length tk,.slice a7 d.length k7,.slice a8 i.length k8]) (.cons (HS.o.self.2.2.1).to (.cons (HS.o.self.2.1).1.2.to (.cons (HS.o.self.1).1.2.to .nil))) (by have:=zr.o;have:=(HS.o.self.2.1).2;have:=(HS.o.self.1).2;simp[made]<;>omega) (by simp) HS.o fun w30 am jm (HS:Hd _)=>?_;go_wp2_with fail;go_returns;exact bz HS.o HS.o.self.1
         obtain⟨Ta,Tk⟩:=Hw tn Q0;replace HS:=ae (HS.o.no tn);have YQ:=ae tn;clear tn;by_cases kH:x=fD
         · skip
           obtain⟨JJ,JU⟩:=Hv kH Cr;replace HS:=ae (HS.o.yes kH);clear kH;go_wp2_with fail;refine(IC c ta tk text _ _ HS.o.st.cur.at_ (by have:=HS.o.st.dh;omega) HS.o.self.1 zr.o).mono ?_;intro e w4 h1;rw[HS.o.eq] at h1;obtain⟨a1,k1,rfl,(HL:Hd _),(HC:Hd _),hs⟩:=h1.go HS.o.st.cur;clear h1 hs;go_wp2_with fail;go_returns;exact lp HC.o HL.o rfl
         obtain⟨JJ,JU⟩:=Hw kH Cr;replace HS:=ae (HS.o.no kH);have Tz:=ae kH;clear kH;by_cases iA:x=fZ
         · skip
           obtain⟨Df,Dp⟩:=Hv iA Bi;replace HS:=ae (HS.o.yes iA);clear iA;replace HS:=ae (HS.o.word);obtain⟨b,hb⟩:∃b,(cR c.l 0 iC q3).1=b:=⟨_,rfl⟩;rw[hb] at HS;have Ts:=ae hb;clear hb
           cases b with
           | false=>
            have d5:=HS.o.st.cur.at_.c5;have lS:=HS.o.st.cur.at_.free 5
            cases hu:q3.unsure with
            | true=>
             simp only[hu] at d5;have HU:=ae hu;clear hu;go_wp2_with fail;clear d5 lS;refine hQ (s:=iC) (HS.o.l9 (u:=true) (by rw[HU.o];rfl)) fun w31 h=>?_;replace HS:=ae h;clear h;have V2:(cR c.l 0 iC {q3 with unsure:=true}).1=false:=Ts.o;replace HS:=ae (HS.o.yes (by simp));go_wp2_with fail;refine iV HS.o fun q32 w32 h=>?_;replace HS:=ae h;clear h;go_wp2_with fail;go_returns
             exact eA HS.o
            | false=>
             simp only[hu] at d5;have HU:=ae hu;clear hu;go_wp2_with fail;refine hQ (s:=iC) HS.o fun w33 h=>?_;replace HS:=ae h;clear h;have V2:=Ts.o;clear d5 lS;have d5:=HS.o.st.cur.at_.c5;have lS:=HS.o.st.cur.at_.free 5;simp only[HU.o] at d5;go_wp2_with fail;clear d5 lS V2;refine hQ (s:=iC) (HS.o.l9 (u:=true) (by rw[HU.o];rfl)) fun w34 h=>?_;replace HS:=ae h;clear h;have V2:(cR c.l 0 iC {q3 with unsure:=true}).1=false:=Ts.o;replace HS:=ae (HS.o.yes (by simp));go_wp2_with fail;refine iV HS.o fun q35 w35 h=>?_;replace HS:=ae h;clear h;go_wp2_with fail;go_returns
             exact eA HS.o
           | true=>
            have d5:=HS.o.st.cur.at_.c5;have lS:=HS.o.st.cur.at_.free 5
            cases hu:q3.unsure with
            | true=>
             simp only[hu] at d5;have HU:=ae hu;clear hu;go_wp2_with fail;clear d5 lS;refine hQ (s:=iC) (HS.o.l9 (u:=true) (by rw[HU.o];rfl)) fun w36 h=>?_;replace HS:=ae h;clear h;have V2:(cR c.l 0 iC {q3 with unsure:=true}).1=true:=Ts.o;replace HS:=ae (HS.o.no (by decide));have EF:=ae (qS Ts.o);have d1:=HS.o.st.cur.at_.c1;have uq:=HS.o.st.cur.at_.free 1;have Bf:=HS.o.st.cur.pos;go_wp2_with fail;clear d1 uq Bf;refine bt (xC c none 0 [] _ _ (HS.o.move (u:=(q3.pos:Int)+1) (by simp) EF.o).st.cur.at_ (by have:=(HS.o.move (u:=(q3.pos:Int)+1) (by simp) EF.o).st.dh;omega) (kM.nil c _) (by simp)) (HS.o.move (u:=(q3.pos:Int)+1) (by simp) EF.o) (vI c.l []) (by decide) fun o q37 w37 a9 k9 h=>?_;replace HS:=ae h;clear h;go_wp2_with fail;refine dv {kind:=39} [o] (vs:=#[.slice a9 o.length k9]) (.cons (HS.o.self.1).1.2.to .nil) (by have:=(HS.o.self.1).2;simp[made]<;>omega) (by simp) HS.o fun w38 am jm h=>?_;replace HS:=ae h;clear h;go_wp2_with fail;go_returns
             exact bz HS.o HS.o.self.1
            | false=>simp only[hu] at d5;have HU:=ae hu;clear hu;go_wp2_with fail;refine hQ (s:=iC) HS.o fun w39 h=>?_;replace HS:=ae h;clear h;have V2:=Ts.o;clear d5 lS;have d5:=HS.o.st.cur.at_.c5;have lS:=HS.o.st.cur.at_.free 5;simp only[HU.o] at d5;go_wp2_with fail;clear d5 lS V2;refine hQ (s:=iC) (HS.o.l9 (u:=false) (by rw[HU.o];rfl)) fun w40 h=>?_;replace HS:=ae h;clear h;have V2:(cR c.l 0 iC {q3 with unsure:=false}).1=true:=Ts.o;replace HS:=ae (HS.o.no (by decide));have EF:=ae (qS Ts.o);have d1:=HS.o.st.cur.at_.c1;have uq:=HS.o.st.cur.at_.free 1;have Bf:=HS.o.st.cur.pos;go_wp2_with fail;clear d1 uq Bf;refine bt (xC c none 0 [] _ _ (HS.o.move (u:=(q3.pos:Int)+1) (by simp) EF.o).st.cur.at_ (by have:=(HS.o.move (u:=(q3.pos:Int)+1) (by simp) EF.o).st.dh;omega) (kM.nil c _) (by simp)) (HS.o.move (u:=(q3.pos:Int)+1) (by simp) EF.o) (vI c.l []) (by decide) fun o q41 w41 TB Vx (HS:Hd _)=>?_;go_wp2_with fail;refine dv {kind:=39} [o] (vs:=#[.slice TB o.length Vx]) (.cons (HS.o.self.1).1.2.to .nil) (by have:=(HS.o.self.1).2;simp[made]<;>omega) (by simp) HS.o fun w42 am jm (HS:Hd _)=>?_;go_wp2_with fail;go_returns;exact bz HS.o HS.o.self.1
         obtain⟨Df,Dp⟩:=Hw iA Bi;replace HS:=ae (HS.o.no iA);have Ip:=ae iA;clear iA;have TQ:=WQ.o;have d1:=HS.o.st.cur.at_.c1;have uq:=HS.o.st.cur.at_.free 1;have Bf:=HS.o.st.cur.pos;go_wp2_with fail;clear d1 uq;refine iV (HS.o.back (u:=(q3.pos:Int)-1) (by omega)) fun q43 w43 (HS:Hd _)=>?_;go_wp2_with fail;go_returns;exact eA HS.o
     · skip
       have y1:(ag c.l q.pos==15)=false:=by simpa using hk
       have y2:(ag c.l q.pos !=15)=true:=by simpa using hk
       replace HS:=ae (HS.o.yes hk);have HK:=ae hk;clear hk;go_wp2_with fail;refine eG HS.o fun w44 (HS:Hd _)=>?_;go_wp2_with fail;clear y1 y2;refine iV HS.o fun q45 w45 (HS:Hd _)=>?_;go_wp2_with fail;go_returns;exact eA HS.o
end Go.Proofs.YtnpjmhodfdgloaaGreatDoor
