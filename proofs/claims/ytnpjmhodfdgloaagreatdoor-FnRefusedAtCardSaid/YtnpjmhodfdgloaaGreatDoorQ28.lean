/- Part of the proof. -/
import Derived.Test.YtnpjmhodfdgloaaGreatDoorQ27
set_option linter.unusedVariables false
set_option linter.unusedSimpArgs false
namespace Go.Proofs.YtnpjmhodfdgloaaGreatDoor
set_option maxRecDepth 100000
set_option maxHeartbeats 32000000
open Go.RowKit
attribute [local go_sem ↓] Go.wp_at_zero Go.wp_at_succ
def hM(l:List Tok)(n:Nat)(fixed:Bool):SM (List Nd):=fun p=>
 if l.length≤p.pos then dn p else
 if ag l p.pos=3 then(if fixed then dn p else(do dY;let s ←aw l;pure (made {kind:=11,name:=s} [])) p) else
 if ag l p.pos=16 then(made {kind:=12,text:=aX l p.pos} [],{p with pos:=p.pos+1}) else
 if ag l p.pos=17 then(made {kind:=13,text:=aX l p.pos} [],{p with pos:=p.pos+1}) else
 if ag l p.pos=18 then(made {kind:=14,text:=aX l p.pos,flag:=0} [],{p with pos:=p.pos+1}) else
 if ag l p.pos=19 then(made {kind:=14,text:=aX l p.pos,flag:=1} [],{p with pos:=p.pos+1}) else
 if ag l p.pos=15 then
  (if aX l p.pos=qR then(made {kind:=15,flag:=1} [],{p with pos:=p.pos+1}) else
   if aX l p.pos=mS then(made {kind:=15} [],{p with pos:=p.pos+1}) else
   if aX l p.pos=qP then dn {p with pos:=p.pos+1,unsure:=true} else
   (made {kind:=16,name:=aX l p.pos} [],{p with pos:=p.pos+1})) else
 if ag l p.pos=10 then
  (do dY;let kids ←dk l 11 (cQ l n fixed) (many l) [];pure (made {kind:=17} kids)) p else
 if ag l p.pos=12 then
  (do
   dY
   let kids ←dk l 14 (pL l n fixed) (many l) []
   pure (made {kind:=18} kids)) p else
 dn p
theorem F9(l:List Tok)(n:Nat)(fixed:Bool):cQ l (n+1) fixed=(do if(←ew)=true then(do let out ←hM l n fixed;jx;pure out) else pure []):=rfl
section
variable{l:List Tok}{n:Nat}{f:Bool}{q:Ps}{X:ByteArray}
theorem PE(h:¬q.pos<l.length):hM l n f q=dn q:=by unfold hM;rw[if_pos (by omega)]
theorem Vb(h:q.pos<l.length)(hk:ag l q.pos=3):hM l n f q=(if f=true then dn else(do dY;let s ←aw l;pure (made {kind:=11,name:=s} []))) q:=by unfold hM;rw[if_neg (by omega),if_pos hk];cases f<;>rfl
theorem S9(h:q.pos<l.length)(hk:ag l q.pos=16)(hx:aX l q.pos=X):hM l n f q=(do dY;pure (made {kind:=12,text:=X} []):SM (List Nd)) q:=by unfold hM;rw[if_neg (by omega),if_neg (by rw[hk];decide),if_pos hk,hx];rfl
theorem Sa(h:q.pos<l.length)(hk:ag l q.pos=17)(hx:aX l q.pos=X):hM l n f q=(do dY;pure (made {kind:=13,text:=X} []):SM (List Nd)) q:=by unfold hM;rw[if_neg (by omega),if_neg (by rw[hk];decide),if_neg (by rw[hk];decide),if_pos hk,hx];rfl
theorem Sb(h:q.pos<l.length)(hk:ag l q.pos=18)(hx:aX l q.pos=X):hM l n f q=(do dY;pure (made {kind:=14,text:=X,flag:=0} []):SM (List Nd)) q:=by unfold hM;rw[if_neg (by omega),if_neg (by rw[hk];decide),if_neg (by rw[hk];decide),if_neg (by rw[hk];decide),if_pos hk,hx];rfl
theorem Sc(h:q.pos<l.length)(hk:ag l q.pos=19)(hx:aX l q.pos=X):hM l n f q=(do dY;pure (made {kind:=14,text:=X,flag:=1} []):SM (List Nd)) q:=by unfold hM;rw[if_neg (by omega),if_neg (by rw[hk];decide),if_neg (by rw[hk];decide),if_neg (by rw[hk];decide),if_neg (by rw[hk];decide),if_pos hk,hx];rfl
theorem S8(h:q.pos<l.length)(hk:ag l q.pos=15)(hx:aX l q.pos=X):hM l n f q=(do
 dY
 if X=qR then pure (made {kind:=15,flag:=1} []) else
 if X=mS then pure (made {kind:=15} []) else
 if X=qP then(do aL true;dn) else pure (made {kind:=16,name:=X} []):SM (List Nd)) q:=by
 unfold hM;rw[if_neg (by omega),if_neg (by rw[hk];decide),if_neg (by rw[hk];decide),if_neg (by rw[hk];decide),if_neg (by rw[hk];decide),if_neg (by rw[hk];decide),if_pos hk,hx,aC];by_cases h1:X=qR
 · rw[if_pos h1,if_pos h1];rfl
 rw[if_neg h1,if_neg h1];by_cases h2:X=mS
 · rw[if_pos h2,if_pos h2];rfl
 rw[if_neg h2,if_neg h2];by_cases h3:X=qP
 · rw[if_pos h3,if_pos h3,aC];show dn _=dn _;congr 1;simp[aL,dY]
 · rw[if_neg h3,if_neg h3];rfl
theorem S6(h:q.pos<l.length)(hk:ag l q.pos=10):hM l n f q=(do dY;let kids ←dk l 11 (cQ l n f) (many l) [];pure (made {kind:=17} kids):SM (List Nd)) q:=by unfold hM;rw[if_neg (by omega),if_neg (by rw[hk];decide),if_neg (by rw[hk];decide),if_neg (by rw[hk];decide),if_neg (by rw[hk];decide),if_neg (by rw[hk];decide),if_neg (by rw[hk];decide),if_pos hk]
theorem S7(h:q.pos<l.length)(hk:ag l q.pos=12):hM l n f q=(do dY;let kids ←dk l 14 (pL l n f) (many l) [];pure (made {kind:=18} kids):SM (List Nd)) q:=by unfold hM;rw[if_neg (by omega),if_neg (by rw[hk];decide),if_neg (by rw[hk];decide),if_neg (by rw[hk];decide),if_neg (by rw[hk];decide),if_neg (by rw[hk];decide),if_neg (by rw[hk];decide),if_neg (by rw[hk];decide),if_pos hk]
theorem Sd(h:q.pos<l.length)(h3:ag l q.pos≠3)(sv:ag l q.pos≠16)(ue:ag l q.pos≠17)(mf:ag l q.pos≠18)(mn:ag l q.pos≠19)(ml:ag l q.pos≠15)(jq:ag l q.pos≠10)(lq:ag l q.pos≠12):hM l n f q=dn q:=by unfold hM;rw[if_neg (by omega),if_neg h3,if_neg sv,if_neg ue,if_neg mf,if_neg mn,if_neg ml,if_neg jq,if_neg lq]
theorem Pv(q:Ps):(db q).bad=true:=by
 cases h:(db q).bad with
 | true=>rfl
 | false=>have h1:=jL q;rw[iM h] at h1;cases h1
theorem PF(q:Ps):(hM l n f q).2.bad=true∨1≤(hM l n f q).1.length:=by
 unfold hM
 repeat' split
 all_goals first
  | exact .inl (Pv _)
  | exact .inr (Nat.succ_le_succ (Nat.zero_le _))
theorem On(hn:1≤n)(q:Ps):(cQ l n f q).2.bad=true∨1≤(cQ l n f q).1.length:=by
 obtain⟨k,rfl⟩:∃k,n=k+1:=⟨n-1,by omega⟩;rw[F9,aC];obtain⟨_,_,_,⟨h,_⟩|⟨h,h2⟩⟩:=G6 q
 · rw[h];exact PF (l:=l) (n:=k) (f:=f) (ew q).2
 · rw[h];refine .inl ?_;show(ew q).2.bad=true
   cases hb:(ew q).2.bad with
   | true=>rfl
   | false=>rw[iM hb] at h2;cases h2
theorem Oc(l:List Tok)(f:Bool)(n:Nat):Tm 0 10 10 1 1 (cQ l n f):=fun p=>by obtain⟨a,b,c,d⟩:=iz l f n p;exact⟨a,by omega,c,d⟩
end
theorem O2(c:Sx)(n:Nat)(fixed:Bool)(Xr:∀q W,fV c q W→q.deep≤200→62≤n+q.deep→Calls Tryz.prog 69 #[.pointer (some ⟨c.sp,0,none⟩),.bool fixed] W (aM c (cQ c.l n fixed q).2 (cQ c.l n fixed q).1 W))(p:Ps)(w:World)(h:fV c p w)(hd:p.deep≤60)(hn:1≤n)(PD:62≤n+p.deep):Calls Tryz.prog 93 #[.pointer (some ⟨c.sp,0,none⟩),.bool fixed] w (aM c (hM c.l n fixed p).2 (hM c.l n fixed p).1 w):=by
 have HV:=ae Xr;obtain⟨r,hr⟩:∃r,(hM c.l n fixed) p=r:=⟨_,rfl⟩;rw[hr];have HS:=ae (gz hr h hd);have Xi:=ae hn;have R0:=ae PD;clear hn PD;clear h hd hr Xr;go_enter Tryz.func93,Tryz.ntmps93;go_wp2_with fail;have c0:=HS.o.st.cur.at_.c0;have c1:=HS.o.st.cur.at_.c1;have hl:=HS.o.st.cur.at_.jC.small;by_cases hi:p.pos<c.l.length
 case' neg=>
  have z1:(p.pos:Int)≥(c.l.length:Int):=by omega
  replace HS:=ae (HS.o.as (PE hi));clear hi;go_quiet (fail);go_wp2_with fail;refine iV (HS.o.up (by(repeat(first| exact sr|assumption|refine Sm.alloc ?_ _|refine Sm.drew ?_|refine Sm.drewN ?_ _)))) fun q1 w1 h=>?_;replace HS:=ae h;clear h;go_wp2_with fail;go_returns;exact eA HS.o
 case' pos=>
  have Cf:=(HS.o.st.cur.at_.jC.at_ _ hi).1;rw[Cf] at c0;have z1:¬((p.pos:Int)≥(c.l.length:Int)):=by omega
  have HI:=ae hi;have ZC:=ae Cf;clear hi Cf
  go_region
  go_wp2_with fail;have xr:Sm [] w w.drew:=sr.drew;generalize w.drew=w0 at *;replace HS:=ae (HS.o.up xr);clear xr c0 c1 z1;obtain⟨_,t0,t1,t2,t3⟩:=HS.o.st.cur.at_.jC.at_ _ HI.o;have c0:=HS.o.st.cur.at_.c0;rw[ZC.o] at c0;have c1:=HS.o.st.cur.at_.c1;rw[←Gn HI.o] at t0;rw[←Du HI.o] at t1;generalize c.l[p.pos].start=ts at t2;generalize c.l[p.pos].stop=te at t3;have z2:(p.pos:Int)<(c.l.length:Int):=by have:=HI.o;omega
  have z3:(0:Int)≤(p.pos:Int):=by omega
  have tX:c.sp≠w0.heap.size:=by have:=HS.o.st.cur.low;omega
  have Z0r:w0.heap.size≠c.sp:=fun e=>tX e.symm;obtain⟨K,hK⟩:∃K,ag c.l p.pos=K:=⟨_,rfl⟩;obtain⟨X,hX⟩:∃X,aX c.l p.pos=X:=⟨_,rfl⟩;rw[hK] at t0;rw[hX] at t1;have Ic:=ae hK;have Xt:=ae hX;have f1:=HS.o.st.cur.at_.free 1;have f5:=HS.o.st.cur.at_.free 5;have c5:=HS.o.st.cur.at_.c5;clear hK hX;have Bf:=HS.o.st.cur.pos;have af1:∀o,(w0.alloc o).frozen? ⟨c.sp,1,none⟩=false:=fun o=>(HS.o.alloc o).st.cur.at_.free 1;have af5:∀o,(w0.alloc o).frozen? ⟨c.sp,5,none⟩=false:=fun o=>(HS.o.alloc o).st.cur.at_.free 5;have ac5:∀o,(w0.alloc o).cell? ⟨c.sp,5,none⟩=some (.bool p.unsure):=fun o=>(HS.o.alloc o).st.cur.at_.c5;have ac0:∀o,(w0.alloc o).cell? ⟨c.sp,0,none⟩=some (.slice (some ⟨c.tb,c.o,none⟩) c.l.length c.cap):=fun o=>((Sm.refl [] w0).alloc o).keeps c0 (by simp);have ac1:∀o,(w0.alloc o).cell? ⟨c.sp,1,none⟩=some (.int .i64 (p.pos:Int)):=fun o=>((Sm.refl [] w0).alloc o).keeps c1 (by simp);have at0:∀o,(w0.alloc o).cell? ⟨c.tb,c.o+p.pos*4,none⟩=some (.int .i64 K):=fun o=>((Sm.refl [] w0).alloc o).keeps t0 (by simp);have at1:∀o,(w0.alloc o).cell? ⟨c.tb,c.o+p.pos*4+1,none⟩=some (.string X):=fun o=>((Sm.refl [] w0).alloc o).keeps t1 (by simp);have at2:∀o,(w0.alloc o).cell? ⟨c.tb,c.o+p.pos*4+2,none⟩=some (.int .i64 (ts:Int)):=fun o=>((Sm.refl [] w0).alloc o).keeps t2 (by simp);have at3:∀o,(w0.alloc o).cell? ⟨c.tb,c.o+p.pos*4+3,none⟩=some (.int .i64 (te:Int)):=fun o=>((Sm.refl [] w0).alloc o).keeps t3 (by simp)
  go_region
  all_goals
   replace HS:=ae ((HS.o.alloc (.cells #[.int .i64 K,.string X,.int .i64 (ts:Int),.int .i64 (te:Int)] 63 (0,0))).drew);obtain⟨w1,zE⟩:∃W,W=(World.alloc w0 (.cells #[.int .i64 K,.string X,.int .i64 (ts:Int),.int .i64 (te:Int)] 63 (0,0))).drew:=⟨_,rfl⟩;rw[←zE] at HS;rw[←zE];clear zE t0 t1 t2 t3 c0 c1 f1 f5 c5 ac0 ac1 ac5 af1 af5 at0 at1 at2 at3 z2 z3 hl;have c1:=HS.o.st.cur.at_.c1;have f1:=HS.o.st.cur.at_.free 1;have e0:=cell_of HS.o.self.1.2 (i:=0) rfl;have e1:=cell_of HS.o.self.1.2 (i:=1) rfl;by_cases h3:K=3
   · skip
     subst h3;replace HS:=ae (HS.o.as (Vb HI.o Ic.o))
     cases fixed with
     | true=>
      replace HS:=ae (HS.o.yes rfl);go_wp2_with fail;refine iV (HS.o) fun q1 w1 h=>?_;replace HS:=ae h;clear h;go_wp2_with fail;go_returns
      exact eA HS.o
      | false=>replace HS:=ae (HS.o.no (by decide));go_wp2_with fail;refine e9 (HS.o.move (u:=(p.pos:Int)+1) (by simp) HI.o) fun nm q1 w1 h=>?_;replace HS:=ae h;clear h;go_wp2_with fail;refine fy {kind:=11,name:=nm} HS.o fun w2 am jm h=>?_;replace HS:=ae h;clear h;go_wp2_with fail;go_returns;exact bz HS.o HS.o.self.1
   have g3:(K==3)=false:=by simpa using h3
   by_cases sv:K=16
   · skip
     subst sv;replace HS:=ae (HS.o.as (S9 HI.o Ic.o Xt.o));go_wp2_with fail;refine fy {kind:=12,text:=X} (HS.o.move (u:=(p.pos:Int)+1) (by simp) HI.o) fun w3 am jm h=>?_;replace HS:=ae h;clear h;go_wp2_with fail;go_returns;exact bz HS.o HS.o.self.1
   have g16:(K==16)=false:=by simpa using sv
   by_cases ue:K=17
   · skip
     subst ue;replace HS:=ae (HS.o.as (Sa HI.o Ic.o Xt.o));go_wp2_with fail;refine fy {kind:=13,text:=X} (HS.o.move (u:=(p.pos:Int)+1) (by simp) HI.o) fun w4 am jm h=>?_;replace HS:=ae h;clear h;go_wp2_with fail;go_returns;exact bz HS.o HS.o.self.1
   have g17:(K==17)=false:=by simpa using ue
   by_cases mf:K=18
   · skip
     subst mf;replace HS:=ae (HS.o.as (Sb HI.o Ic.o Xt.o));go_wp2_with fail;refine fy {kind:=14,text:=X,flag:=0} (HS.o.move (u:=(p.pos:Int)+1) (by simp) HI.o) fun w5 am jm h=>?_;replace HS:=ae h;clear h;go_wp2_with fail;go_returns;exact bz HS.o HS.o.self.1
   have g18:(K==18)=false:=by simpa using mf
   by_cases mn:K=19
   · skip
     subst mn;replace HS:=ae (HS.o.as (Sc HI.o Ic.o Xt.o));go_wp2_with fail;refine fy {kind:=14,text:=X,flag:=1} (HS.o.move (u:=(p.pos:Int)+1) (by simp) HI.o) fun w6 am jm h=>?_;replace HS:=ae h;clear h;go_wp2_with fail;go_returns;exact bz HS.o HS.o.self.1
   have g19:(K==19)=false:=by simpa using mn
   by_cases ml:K=15
   · skip
     subst ml;replace HS:=ae (HS.o.as (S8 HI.o Ic.o Xt.o));by_cases Fm:X=qR
     · skip
       have Ug:X.toList=[116,114,117,101]:=by rw[Fm,ByteArray.toList_eq];rfl
       have Io:=ae Fm;clear Fm;go_wp2_with fail;refine fy {kind:=15,flag:=1} ((HS.o.move (u:=(p.pos:Int)+1) (by simp) HI.o).yes Io.out) fun w7 am jm h=>?_;replace HS:=ae h;clear h;go_wp2_with fail;go_returns;exact bz HS.o HS.o.self.1
     have Ug:¬X.toList=[116,114,117,101]:=fun e=>Fm (Go.WideShapes.bytes_inj (by rw[←ByteArray.toList_eq,e];rfl));have Z2k:(X.toList==[116,114,117,101])=false:=bn Ug;have Io:=ae Fm;clear Fm;by_cases A5:X=mS
     · skip
       have Qu:X.toList=[102,97,108,115,101]:=by rw[A5,ByteArray.toList_eq];rfl
       have FL:=ae A5;clear A5;go_wp2_with fail;refine fy {kind:=15} (((HS.o.move (u:=(p.pos:Int)+1) (by simp) HI.o).no Io.out).yes FL.out) fun w8 am jm h=>?_;replace HS:=ae h;clear h;go_wp2_with fail;go_returns;exact bz HS.o HS.o.self.1
     have Qu:¬X.toList=[102,97,108,115,101]:=fun e=>A5 (Go.WideShapes.bytes_inj (by rw[←ByteArray.toList_eq,e];rfl));have Z0Y:(X.toList==[102,97,108,115,101])=false:=bn Qu;have FL:=ae A5;clear A5;by_cases Fl:X=qP
     · skip
       have Uf:X.toList=[110,117,108,108]:=by rw[Fl,ByteArray.toList_eq];rfl
       have P3:=ae Fl;clear Fl;have c5:=HS.o.st.cur.at_.c5;have f5:=HS.o.st.cur.at_.free 5;go_wp2_with fail;refine iV ((((HS.o.move (u:=(p.pos:Int)+1) (by simp) HI.o).no Io.out).no FL.out).yes P3.out|>.l9 (u:=true) (by simp)) fun q1 w1 h=>?_
       replace HS:=ae h;clear h;go_wp2_with fail;go_returns;exact eA HS.o
     have Uf:¬X.toList=[110,117,108,108]:=fun e=>Fl (Go.WideShapes.bytes_inj (by rw[←ByteArray.toList_eq,e];rfl));have Z2j:(X.toList==[110,117,108,108])=false:=bn Uf;have P3:=ae Fl;clear Fl;go_wp2_with fail;refine fy {kind:=16,name:=X} ((((HS.o.move (u:=(p.pos:Int)+1) (by simp) HI.o).no Io.out).no FL.out).no P3.out) fun w9 am jm h=>?_;replace HS:=ae h;clear h;go_wp2_with fail;go_returns;exact bz HS.o HS.o.self.1
   have g15:(K==15)=false:=by simpa using ml
   by_cases jq:K=10
   · skip
     subst jq;replace HS:=ae (HS.o.as (S6 HI.o Ic.o));go_wp2_with fail;obtain⟨R,(HF:Hd _),m0,(HR:Hd _)⟩:=Ct (item:=cQ c.l n fixed) (dz.nH (E':=fun _=>True) (HS.o.move (u:=(p.pos:Int)+1) (by simp) HI.o) (fun _ _=>trivial));clear HS
     go_loopg [6] 1000010 (fun g v wr=>FC c w (p.deep) (60) (fun _=>True) (cQ c.l n fixed) 11 R ({p with pos:=p.pos+1}:Ps).deep false g v wr)
     case atStart=>exact⟨0,m0,_,_,_,rfl,HR.o⟩
     case round=>
      obtain⟨j,m,acc,vs,q,(jF:Hd _),h⟩:=hrel;obtain⟨ak,kk,hv⟩:=h.form;subst hv;have HL:=ae h;have TN:=h.jb;have KO:=h.n;have d4:=h.s.cur.at_.c4;clear h HR
      cases hb:q.bad with
      | true=>
       rw[hb] at d4;have HS:=ae (HL.o.bad (f:=fun kids=>pure (made {kind:=17} kids)) HF.o hb);clear hb KO;go_wp2_with fail;refine jY {kind:=17} HS.o.self.1 (by have:=HL.o.z;omega) (by have:=HL.o.n;have:=HL.o.l.jm;omega) HS.o fun w10 am jm h=>?_;replace HS:=ae h;clear h;go_wp2_with fail;go_returns
       exact bz HS.o HS.o.self.1
      | false=>
       rw[hb] at d4;have HB:=ae hb;clear hb;have Ia:=ae (show True from trivial);clear KO;go_wp2_with fail;refine HL.o.cP (f:=fun kids=>pure (made {kind:=17} kids)) HF.o (fun h=>by cases h.1) HB.o (by decide) (fun q1 w0 h=>?_) (fun w0 h ht=>?_)
       · have HS:=ae h;clear h;go_wp2_with fail;refine jY {kind:=17} HS.o.self.1 (by have:=HL.o.z;omega) (by have:=HL.o.n;have:=HL.o.l.jm;omega) HS.o fun w11 am jm h=>?_;replace HS:=ae h;clear h;go_wp2_with fail;go_returns;exact bz HS.o HS.o.self.1
       have HJ:Hd (j=0∨(ay c.l 11 q).1=false):=.inr ht;have ZA:=ae ht;replace HL:=ae h;clear h ht d4 Ia;go_wp2_with fail;obtain⟨rx,(HI:Hd _),(YK:Hd _),h⟩:=HL.o.Sp HB.o;have HS:=ae h;clear h;replace HS:=ae (HS.o.as (m':=cQ c.l n fixed>>=fun a=>pure a) rfl);refine bt (HV.o _ _ HS.o.st.cur.at_ (by have:=HS.o.st.dh;omega) (by have h1:q.deep=p.deep:=YK.o;have:=R0.o;omega)) HS.o (iz c.l fixed n) (by decide) fun v OI w12 a1 k1 h=>?_;replace HS:=ae h;clear h;have how:=(HL.o.k.sm HS.o.self.2 HL.o.s.cur.sp).own;have de:(acc.length+1)*24≤140737488355328:=by have:=HL.o.n;have:=HL.o.l.jm;omega
       have cv:=HS.o.st.cur.new;go_wp2_with (at_builtin;refine gH _ rfl _ _ _ rfl 23 _ 1 24 Tryz.underlying64 fm rfl (by omega) (by omega) (.slice ak acc.length kk) acc.length vs rfl how #[.slice a1 v.length k1] rfl rfl (by simp[Value.oneCell']) de cv ?_);intro gn oJ wn aJ hg bV b9;have HK:=ae (HL.o.add HS.o.self.2 (HS.o.self.1.1.2) lr (by simpa using aJ) hg bV);have HG:=ae hg;clear how de cv aJ hg bV b9;go_wp2_with fail;obtain⟨m2,h⟩:=HL.o.next HB.o (.inr (HJ.o.elim (fun _=>ZA.o) id)) HI.o HS.o (Oc c.l fixed n) (by decide) (by have h:=On (l:=c.l) (f:=fixed) Xi.o q;rw[HI.o,←HS.o.eq] at h;exact h) HK.o HG.o (fun _ _=>trivial);have HN:=ae h;clear h;go_roundg (gk-1)
       case measure=>have:=jF.o;omega
       case rel=>exact⟨j+1,m2,_,_,_,by have:=jF.o;omega,HN.o⟩
   have g10:(K==10)=false:=by simpa using jq
   by_cases lq:K=12
   · skip
     subst lq;replace HS:=ae (HS.o.as (S7 HI.o Ic.o));go_wp2_with fail;obtain⟨R,(HF:Hd _),m0,(HR:Hd _)⟩:=Ct (item:=pL c.l n fixed) (dz.nH (E':=fun _=>True) (HS.o.move (u:=(p.pos:Int)+1) (by simp) HI.o) (fun _ _=>trivial));clear HS
     go_loopg [7] 1000010 (fun g v wr=>FC c w (p.deep) (60) (fun _=>True) (pL c.l n fixed) 14 R ({p with pos:=p.pos+1}:Ps).deep false g v wr)
     case atStart=>exact⟨0,m0,_,_,_,rfl,HR.o⟩
     case round=>
      obtain⟨j,m,acc,vs,q,(jF:Hd _),h⟩:=hrel;obtain⟨ak,kk,hv⟩:=h.form;subst hv;have HL:=ae h;have TN:=h.jb;have KO:=h.n;have d4:=h.s.cur.at_.c4;clear h HR
      cases hb:q.bad with
      | true=>
       rw[hb] at d4;have HS:=ae (HL.o.bad (f:=fun kids=>pure (made {kind:=18} kids)) HF.o hb);clear hb KO;go_wp2_with fail;refine jY {kind:=18} HS.o.self.1 (by have:=HL.o.z;omega) (by have:=HL.o.n;have:=HL.o.l.jm;omega) HS.o fun w13 am jm (HS:Hd _)=>?_;go_wp2_with fail;go_returns
       exact bz HS.o HS.o.self.1
      | false=>
       rw[hb] at d4;have HB:=ae hb;clear hb;have Ia:=ae (show True from trivial);clear KO;go_wp2_with fail;refine HL.o.cP (f:=fun kids=>pure (made {kind:=18} kids)) HF.o (fun h=>by cases h.1) HB.o (by decide) (fun q1 w0 h=>?_) (fun w0 h ht=>?_)
       · have HS:=ae h;clear h;go_wp2_with fail;refine jY {kind:=18} HS.o.self.1 (by have:=HL.o.z;omega) (by have:=HL.o.n;have:=HL.o.l.jm;omega) HS.o fun w14 am jm (HS:Hd _)=>?_;go_wp2_with fail;go_returns;exact bz HS.o HS.o.self.1
       have HJ:Hd (j=0∨(ay c.l 14 q).1=false):=.inr ht;have ZA:=ae ht;replace HL:=ae h;clear h ht d4 Ia;go_wp2_with fail;obtain⟨rx,(HI:Hd _),(YK:Hd _),(HS:Hd _)⟩:=HL.o.Sp HB.o;refine e9 HS.o fun nm Yn w15 (HS:Hd _)=>?_;have AA:=ae (((HS.o.self)).size);go_wp2_with fail;refine mH (HS.o.alloc (Z06 19 nm Z05 Z05 0)) (by decide) fun q16 w16 _ (HS:Hd _)=>?_;go_wp2_with fail;have E0:=fU.of (show _=some (Z06 19 nm Z05 Z05 0) from(HS.o.self.1).2);have qi:=E0.sm ((Sm.refl [] _).drew) (by simp);go_wp2_with fail
       go_region_held3 (fun W=>W.cell? ⟨w15.heap.size,0,none⟩=some (.int .i64 19)∧W.cell? ⟨w15.heap.size,1,none⟩=some (.string nm)∧W.cell? ⟨w15.heap.size,2,none⟩=some (.string ByteArray.empty)∧W.cell? ⟨w15.heap.size,3,none⟩=some (.string ByteArray.empty)∧W.cell? ⟨w15.heap.size,4,none⟩=some (.int .i64 0)∧W.cell? ⟨w15.heap.size,5,none⟩=some (.int .i64 0)) (first| exact E0|exact qi|exact Fj|exact(Fj.alloc _)|exact um|exact un|exact(um.alloc _))
        (first
         | (go_at_call 69;refine bt (HV.o _ _ (HS.o.drew).st.cur.at_ (by have:=(HS.o.drew).st.dh;omega) (by have h1:=(HS.o.drew).st.dl;have:=R0.o;omega)) (HS.o.drew) (iz c.l fixed n) (by decide) (fun v q17 w17 a2 k2 sx=>?_);have Fj:=fU.of (sx.self.2.1).2)
         | (go_at_call 18;refine dv {kind:=19,name:=nm} [v] (vs:=#[.slice a2 v.length k2]) (.cons (sx.self.1).1.2.to .nil) (by have:=(sx.self.1).2;simp[made]<;>omega) (by simp) sx (fun w18 am jm hm=>?_);have um:=fU.of (hm.self.2.2.1).2;have J0:=(sx.self.2.2.size))
         | (refine BD _ rfl _ _ _ rfl 23 _ 1 24 Tryz.underlying64 fm rfl (by decide) (by decide) (.slice ak acc.length kk) acc.length vs rfl (HL.o.k.sm (hm.self.2.2.2) HL.o.s.cur.sp).own #[.slice am (made {kind:=19,name:=nm} [v]).length jm] rfl rfl (by simp[Value.oneCell']) (by have:=HL.o.n;have:=HL.o.l.jm;omega) hm.st.cur.new ?_;intro gn oJ wn aJ hg bV b9;have un:=um.grown hg (fun e=>by have h1:=(HL.o.k.own.lt _ e).2;have h2:=AA.o;omega)))
       all_goals
        replace HS:=ae hm;have HK:=ae (HL.o.add (hm.self.2.2.2) hm.self.1.2 J0 (by simpa using aJ) hg bV);have HG:=ae hg;clear hm J0 aJ hg bV b9;go_wp2_with fail;obtain⟨m2,(HN:Hd _)⟩:=HL.o.next HB.o (.inr (HJ.o.elim (fun _=>ZA.o) id)) HI.o HS.o (Ax c.l n fixed) (by decide) (.inr (by simp[made])) HK.o HG.o (fun _ _=>trivial);go_roundg (gk-1)
        case measure=>have:=jF.o;omega
        case rel=>exact⟨j+1,m2,_,_,_,by have:=jF.o;omega,HN.o⟩
   have g12:(K==12)=false:=by simpa using lq
   replace HS:=ae (HS.o.as (Sd HI.o (by rw[Ic.o];exact h3) (by rw[Ic.o];exact sv) (by rw[Ic.o];exact ue) (by rw[Ic.o];exact mf) (by rw[Ic.o];exact mn) (by rw[Ic.o];exact ml) (by rw[Ic.o];exact jq) (by rw[Ic.o];exact lq)));go_wp2_with fail;refine iV (HS.o) fun q1 w1 (HS:Hd _)=>?_;go_wp2_with fail;go_returns;exact eA HS.o
theorem Tg(l:List Tok)(n:Nat)(f:Bool):Tm 0 10 0 1 1 (hM l n f):=by
 have ih:=iz l f n;have hf:=Ax l n f;refine Dl fun p=>?_;have b0:=dG p;unfold hM
 repeat' first
  | (with_reducible first| refine wp_bind ?_|refine tu fun _ _ _ _ _ _=>?_|refine Bp fun _ _ _ _ _=>?_|refine K3 (fun _ _ _ _ _=>?_) ?_|refine Dx (fun _ _ _ _ _=>?_) (fun _ _ _ _=>?_)|refine pw fun _ _ _ _=>?_|refine wp_move fun _ _ _ _=>?_|refine qT fun _ _ _ _ _=>?_|refine QY ‹Tm _ _ _ _ _ _› fun _ _ _ _ _ _=>?_|refine wp_pure ?_|(refine gr (fun h=>?_) (fun h=>?_)<;>first| exact absurd h (by decide)|exact absurd rfl h|clear h))
  | (refine QW (fun h=>?_) (fun h=>?_)<;>clear h)
  | (refine qT fun _ _ _ _ _=>?_)
  | (refine K1 fun _ _ _ _=>?_)
  | (refine QX fun _ _ _ _=>?_)
  | (refine wp_bind ?_)
 all_goals (refine⟨?_,?_,?_,?_⟩<;>(try simp only[gl] at *)<;>omega)
theorem JI(c:Sx)(n:Nat)(fixed:Bool)(HH0:∀q W,fV c q W→q.deep≤60→62≤n+q.deep→1≤n→Calls Tryz.prog 93 #[.pointer (some ⟨c.sp,0,none⟩),.bool fixed] W (aM c (hM c.l n fixed q).2 (hM c.l n fixed q).1 W))(p:Ps)(w:World)(h:fV c p w)(hd:p.deep≤200)(PD:62≤n+1+p.deep):Calls Tryz.prog 69 #[.pointer (some ⟨c.sp,0,none⟩),.bool fixed] w (aM c (cQ c.l (n+1) fixed p).2 (cQ c.l (n+1) fixed p).1 w):=by
 have HH:=ae HH0;obtain⟨r,hr⟩:∃r,(cQ c.l (n+1) fixed) p=r:=⟨_,rfl⟩;rw[hr];rw[F9] at hr;have HS:=ae (gz hr h hd);have R0:=ae PD;clear PD;clear h hd hr HH0;go_enter Tryz.func69,Tryz.ntmps69;go_wp2_with fail;refine G5 HS.o (by decide) (fun q1 w1 hb hd h=>?_) (fun q1 w1 h=>?_)
 · replace HS:=ae (h.yes (by simp));have HD:=ae hd;clear h hb hd;go_wp2_with fail;refine bt (HH.o _ _ HS.o.st.cur.at_ HS.o.st.dh (by have:=HD.o;have:=R0.o;omega) (by have:=HD.o;have:=R0.o;have:=HS.o.st.dh;omega)) HS.o (Tg c.l n fixed) (by decide) fun v q2 w2 a1 k1 (HS:Hd _)=>?_;go_wp2_with fail;refine nO HS.o fun q3 w3 (HS:Hd _)=>?_;go_wp2_with fail;go_returns;exact bz HS.o HS.o.self.1.1
 · replace HS:=ae (h.no (by simp));clear h;go_wp2_with fail;go_returns;exact eA HS.o
theorem De(c:Sx)(fixed:Bool):∀(n:Nat) (p:Ps) (w:World),fV c p w→p.deep≤200→62≤n+p.deep→1≤n →
 Calls Tryz.prog 69 #[.pointer (some ⟨c.sp,0,none⟩),.bool fixed] w (aM c (cQ c.l n fixed p).2 (cQ c.l n fixed p).1 w)
 | 0,p,w,h,h1,h2,h3=>absurd h3 (by decide)
 | n+1,p,w,h,h1,h2,h3=>
  JI c n fixed (fun q W hq h4 h5 h6=>O2 c n fixed (fun q' W' AO h7 h8=>De c fixed n q' W' AO h7 h8 h6) q W hq h4 h6 h5) p w h h1 h2
theorem A6(c:Sx)(fixed:Bool)(q:Ps)(W:World)(h:fV c q W)(hd:q.deep≤200):Calls Tryz.prog 69 #[.pointer (some ⟨c.sp,0,none⟩),.bool fixed] W (aM c (cQ c.l 62 fixed q).2 (cQ c.l 62 fixed q).1 W):=De c fixed 62 q W h hd (by omega) (by omega)
theorem wO(c:Sx)(fixed:Bool)(q:Ps)(W:World)(h:fV c q W)(hd:q.deep≤150):Calls Tryz.prog 65 #[.pointer (some ⟨c.sp,0,none⟩),.bool fixed] W (aM c (cE c.l fixed q).2 (cE c.l fixed q).1 W):=D2 c fixed (A6 c fixed) q W h hd
theorem bl(c:Sx)(fixed:Bool)(q:Ps)(W:World)(h:fV c q W)(hd:q.deep≤120):Calls Tryz.prog 30 #[.pointer (some ⟨c.sp,0,none⟩),.bool fixed] W (aM c (ao c.l fixed q).2 (ao c.l fixed q).1 W):=B2 c fixed (wO c false) q W h hd
theorem D1(l:List Tok)(n:Nat):aI l (n+1)=(do if(←ew)=true then(do cr l 12;eT l 14;let kids ←cV l 14 (cG l (aI l n)) (many l) [];jx;pure (made {kind:=5} kids)) else pure []):=rfl
theorem Eo(l:List Tok)(sub:SM (List Nd))(q:Ps):1≤(cG l sub q).1.length:=by
 rw[wY,aC];split
 · unfold qy;rw[aC,aC];split
   · exact Nat.succ_le_succ (Nat.zero_le _)
   · exact Nat.succ_le_succ (Nat.zero_le _)
 · rw[aC,aC];split
   · exact Nat.succ_le_succ (Nat.zero_le _)
   · exact Nat.succ_le_succ (Nat.zero_le _)
theorem A0(c:Sx)(n:Nat)(p:Ps)(w:World)(h:fV c p w)(hd:p.deep≤110)(HL0:∀q W,fV c q W→q.deep≤80→p.deep+1≤q.deep→1≤n→Calls Tryz.prog 60 #[.pointer (some ⟨c.sp,0,none⟩)] W (aM c (cG c.l (aI c.l n) q).2 (cG c.l (aI c.l n) q).1 W))(PD:62≤n+1+p.deep):Calls Tryz.prog 24 #[.pointer (some ⟨c.sp,0,none⟩)] w (aM c (aI c.l (n+1) p).2 (aI c.l (n+1) p).1 w):=by
 obtain⟨r,hr⟩:∃r,(aI c.l (n+1)) p=r:=⟨_,rfl⟩;rw[hr];rw[D1] at hr;have HS:=ae (gz hr h hd);have rn:=ae HL0;have R0:=ae PD;clear HL0 PD;clear h hd hr;go_enter Tryz.func24,Tryz.ntmps24;go_wp2_with fail;refine G5 HS.o (by decide) (fun q1 w1 hb hd h=>?_) (fun q1 w1 h=>?_)
 · replace HS:=ae (h.yes (by simp));have Xi:Hd (1≤n):=by have h1:=h.st.dh;have h2:=R0.o;unfold Hd;omega
   clear h hb hd;go_wp2_with fail;refine mH HS.o (by decide) fun q2 w2 (Hhp:Hd _) (HS:Hd _)=>?_;go_wp2_with fail;refine LA HS.o (Hhp.out) fun q3 w3 (HS:Hd _)=>?_;go_wp2_with fail;obtain⟨R,(HF:Hd _),m0,(HR:Hd _)⟩:=F1 (item:=cG c.l (aI c.l n)) HS.o (bI.nil _ _ _) (by simp);clear HS
   go_loopg [3] 1000010 (fun g v wr=>FC c w (p.deep+1) (60) (fun _=>True) (cG c.l (aI c.l n)) 14 R q3.deep true g v wr)
   case atStart=>exact⟨0,m0,_,_,_,rfl,HR.o⟩
   case round=>
    obtain⟨j,m,acc,vs,q,(jF:Hd _),h⟩:=hrel;obtain⟨ak,kk,hv⟩:=h.form;subst hv;have HL:=ae h;have TN:=h.jb;have Dy:=ae h.n;have d4:=h.s.cur.at_.c4;clear h HR;go_upto_region 6 with fail
    go_cut [25] from 11 to 25 (fun v wx=>∃b,v=.bool b∧Hd ((b=false→∃q1,dz c w (p.deep+1) ((60)+10) (fun X=>bI c w X (.slice ak acc.length kk) vs acc∧(fun _=>True) X) ((fun kids=>(do jx;pure (made {kind:=5} kids))) acc) r q1 wx)∧(b=true→oI c w (p.deep+1) (60) (fun _=>True) (cG c.l (aI c.l n)) 14 R q3.deep true 0 j m acc vs (.slice ak acc.length kk) q wx∧q.bad=false∧(j=0∨(ay c.l 14 q).1=false))))
    case first=>
     cases hb:q.bad with
     | true=>
      rw[hb] at d4;have HS:=ae (HL.o.bad (f:=fun kids=>(do jx;pure (made {kind:=5} kids))) HF.o hb);clear hb;go_wp2_with fail;go_meet
      exact⟨false,rfl,fun _=>⟨_,HS.o⟩,fun e=>by cases e⟩
     | false=>
      rw[hb] at d4;have HB:=ae hb;clear hb;by_cases hj:j=0
      · have y0:((acc.length:Int)==0)=true:=by rw[show acc.length=0 from Dy.o.trans (by rw[hj])];rfl
        have HJ:=ae hj;clear hj;go_wp2_with fail;go_meet;exact⟨true,rfl,fun e=>(by cases e),fun _=>⟨HL.o,HB.o,.inl HJ.o⟩⟩
      · have y0:((acc.length:Int)==0)=false:=bn (by have h9:acc.length=0+j:=Dy.o;omega);have Ia:=ae hj;clear hj;go_wp2_with fail;refine HL.o.cP (f:=fun kids=>(do jx;pure (made {kind:=5} kids))) HF.o (fun h=>Ia.o h.2) HB.o (by decide) (fun q1 w0 h=>?_) (fun w0 h ht=>?_)
        · have HE:=ae h;clear h;go_wp2_with fail;go_meet;exact⟨false,rfl,fun _=>⟨_,HE.o⟩,fun e=>by cases e⟩
        · have HE:=ae h;have HT:=ae ht;clear h ht;go_wp2_with fail;go_meet;exact⟨true,rfl,fun e=>(by cases e),fun _=>⟨HE.o,HB.o,.inr HT.o⟩⟩
    case rest=>
     obtain⟨b,rfl,hh⟩:=hcut;clear d4
     cases b with
     | false=>
      obtain⟨q1,(HS:Hd _)⟩:=hh.out.1 rfl;clear hh;go_wp2_with fail;refine nO HS.o fun q4 w4 (HS:Hd _)=>?_;go_wp2_with fail;refine jY (xs:=acc) {kind:=5} HS.o.self.1 (by have:=HL.o.z;omega) (by have:=HL.o.n;have:=HL.o.l.jm;omega) HS.o fun w5 am jm (HS:Hd _)=>?_;go_wp2_with fail;go_returns
      exact bz HS.o HS.o.self.1
     | true=>
      obtain⟨h,hb,(HJ:Hd _)⟩:=hh.out.2 rfl;clear HL;have HL:=ae h;have HB:=ae hb;obtain⟨rx,(HI:Hd _),(YK:Hd _),h⟩:=h.Sp hb;have HS:=ae h;clear hh h hb;go_wp2_with fail;replace HS:=ae (HS.o.as (m':=cG c.l (aI c.l n)>>=fun a=>pure a) rfl);refine bt (rn.o _ _ HS.o.st.cur.at_ (by have:=HS.o.st.dh;omega) HS.o.st.dl Xi.o) HS.o (oY c.l (dI c.l n)) (by decide) fun v q6 w6 a1 k1 (HS:Hd _)=>?_;have how:=(HL.o.k.sm HS.o.self.2 HL.o.s.cur.sp).own;have de:(acc.length+1)*24≤140737488355328:=by have:=HL.o.n;have:=HL.o.l.jm;omega
      have cv:=HS.o.st.cur.new;go_wp2_with (at_builtin;refine gH _ rfl _ _ _ rfl 23 _ 1 24 Tryz.underlying64 fm rfl (by omega) (by omega) (.slice ak acc.length kk) acc.length vs rfl how #[.slice a1 v.length k1] rfl rfl (by simp[Value.oneCell']) de cv ?_);intro gn oJ wn aJ hg bV b9;have HK:=ae (HL.o.add HS.o.self.2 (HS.o.self.1.1.2) lr (by simpa using aJ) hg bV);have HG:=ae hg;clear how de cv aJ hg bV b9;go_wp2_with fail;obtain⟨m2,h⟩:=HL.o.next HB.o (HJ.o.imp (fun e=>⟨rfl,e⟩) id) HI.o HS.o (oY c.l (dI c.l n)) (by decide) (by have h:=Eo c.l (aI c.l n) q;rw[HI.o,←HS.o.eq] at h;exact .inr h) HK.o HG.o (fun _ _=>trivial);have HN:=ae h;clear h;go_roundg (gk-1)
      case measure=>have:=jF.o;omega
      case rel=>exact⟨j+1,m2,_,_,_,by have:=jF.o;omega,HN.o⟩
 · replace HS:=ae (h.no (by simp));clear h;go_wp2_with fail;go_returns;exact eA HS.o
theorem tJ(c:Sx):∀(n:Nat) (p:Ps) (w:World),fV c p w→p.deep≤110→62≤n+p.deep→1≤n →
 Calls Tryz.prog 24 #[.pointer (some ⟨c.sp,0,none⟩)] w (aM c (aI c.l n p).2 (aI c.l n p).1 w)
 | 0,p,w,h,h1,h2,h3=>absurd h3 (by decide)
 | n+1,p,w,h,h1,h2,h3=>
  A0 c n p w h h1 (fun q W hq h4 h5 h6=>Db c (aI c.l n) (p.deep+1) (dI c.l n) (wO c false) (bl c false) (fun q' W' AO h7 h8=>tJ c n q' W' AO h8 (by omega) h6) q W hq h4 h5) h2
theorem kF(c:Sx)(q:Ps)(W:World)(h:fV c q W)(hd:q.deep≤110):Calls Tryz.prog 24 #[.pointer (some ⟨c.sp,0,none⟩)] W (aM c (aI c.l 62 q).2 (aI c.l 62 q).1 W):=tJ c 62 q W h hd (by omega) (by omega)
theorem il(a b:Int):(a !=b)=decide (a≠b):=by rw[Bool.eq_iff_iff];simp
theorem ik(a b:Int):(a==b)=decide (a=b):=by rw[Bool.eq_iff_iff];simp
theorem NZ(l:List Tok)(n:Nat):eK l (n+1)=(do
 if(←ew)=true then(do
  let k ←fc l 0
  aL (decide (k≠15)&&decide (k≠10))
  let out ←(do
   if(←ay l 10)=true then(do
    let x ←eK l n
    let k ←fc l 0
    aL (decide (k≠11))
    cr l 11
    pure (made {kind:=21} [x]))
   else(do
    let s ←aw l
    pure (made {kind:=20,name:=s} [])):SM (List Nd))
  let out ←(do if(←ay l 2)=true then pure (made {kind:=22} [out]) else pure out:SM (List Nd))
  jx
  pure out)
 else pure []):=rfl
theorem JH(c:Sx)(n:Nat)(HT0:∀q W,fV c q W→q.deep≤200→62≤n+q.deep→1≤n→Calls Tryz.prog 68 #[.pointer (some ⟨c.sp,0,none⟩)] W (aM c (eK c.l n q).2 (eK c.l n q).1 W))(p:Ps)(w:World)(h:fV c p w)(hd:p.deep≤200)(PD:62≤n+1+p.deep):Calls Tryz.prog 68 #[.pointer (some ⟨c.sp,0,none⟩)] w (aM c (eK c.l (n+1) p).2 (eK c.l (n+1) p).1 w):=by
 have HT:=ae HT0;obtain⟨r,hr⟩:∃r,(eK c.l (n+1)) p=r:=⟨_,rfl⟩;rw[hr];rw[NZ] at hr;have HS:=ae (gz hr h hd);have R0:=ae PD;clear PD;clear h hd hr HT0;go_enter Tryz.func68,Tryz.ntmps68;go_wp2_with fail;refine G5 HS.o (by decide) (fun q1 w1 hb hd h=>?_) (fun q1 w1 h=>?_)
 · replace HS:=ae (h.yes (by simp));have Xi:Hd (1≤n∧62≤n+q1.deep):=by have h1:=h.st.dh;have h2:=R0.o;unfold Hd;omega
   have HB:=ae hb;clear h hb hd;replace HS:=ae (HS.o.kind);by_cases hk:ag c.l q1.pos=10
   · skip
     have y2:(ag c.l q1.pos !=10)=false:=by simpa using hk
     have HK:=ae hk;clear hk;go_wp2_with fail;refine eG HS.o fun w2 h=>?_;replace HS:=ae h;clear h;replace HS:=ae (HS.o.EB (by simp[HK.o]));go_wp2_with fail;clear y2;replace HS:=ae (HS.o.assoc);refine cP HS.o (by decide) fun b q3 w3 hx _ h=>?_;replace HS:=ae h;clear h;obtain rfl:b=true:=(A2 hx HB.o).trans (decide_eq_true HK.o);clear hx;replace HS:=ae (HS.o.xU (by simp));go_wp2_with fail;replace HS:=ae (HS.o.assoc);refine bt (HT.o _ _ HS.o.st.cur.at_ (by have:=HS.o.st.dh;omega) (by have:=R0.o;have:=HS.o.st.dl;omega) Xi.o.1) HS.o (lM c.l n) (by decide) fun x q4 w4 a1 k1 h=>?_;replace HS:=ae h;clear h;go_wp2_with fail;replace HS:=ae (HS.o.assoc);replace HS:=ae (HS.o.kind);replace HS:=ae (HS.o.assoc);refine dv {kind:=21} [x] (vs:=#[.slice a1 x.length k1]) (.cons (HS.o.self.1).1.2.to .nil) (by have:=(HS.o.self.1).2;simp[made]<;>omega) (by simp) HS.o fun w5 am jm h=>?_;replace HS:=ae h;clear h;have d5:=HS.o.st.cur.at_.c5;have lS:=HS.o.st.cur.at_.free 5
     cases hu:q4.unsure with
     | true=>
      simp only[hu] at d5;have HU:=ae hu;clear hu;go_wp2_with fail;clear d5 lS;refine mH ((HS.o.l9 (u:=true) (by simp[HU.o])).assoc) (by decide) fun q6 w6 _ h=>?_;replace HS:=ae h;clear h;replace HS:=ae (HS.o.pure);go_wp2_with fail;replace HS:=ae (HS.o.assoc);refine cP HS.o (by decide) fun b2 q7 w7 _ (HP:Hd _) h=>?_;replace HS:=ae h;clear h
      cases b2 with
      | false=>
       replace HS:=ae (HS.o.Kc (by simp));go_wp2_with fail;replace HS:=ae (HS.o.pure);refine nO HS.o fun q8 w8 h=>?_;replace HS:=ae h;clear h;go_wp2_with fail;go_returns
       exact bz HS.o HS.o.self.1
      | true=>
       replace HS:=ae (HS.o.xU (by simp));go_wp2_with fail;replace HS:=ae (HS.o.pure);refine dv {kind:=22} [(made {kind:=21} [x])] (vs:=#[.slice am (made {kind:=21} [x]).length jm]) (.cons (HS.o.self.1).2.to .nil) (by have:=(HS.o.self.2.1).2;simp[made]<;>omega) (by simp) HS.o fun w9 am jm h=>?_;replace HS:=ae h;clear h;go_wp2_with fail;refine nO HS.o fun yT w10 h=>?_;replace HS:=ae h;clear h;go_wp2_with fail;go_returns
       exact bz HS.o HS.o.self.1
     | false=>
      simp only[hu] at d5;have HU:=ae hu;clear hu;go_wp2_with fail;refine eG HS.o fun w11 h=>?_;replace HS:=ae h;clear h;clear d5 lS;have d5:=HS.o.st.cur.at_.c5;have lS:=HS.o.st.cur.at_.free 5;simp only[HU.o] at d5;go_wp2_with fail;clear d5 lS;refine mH ((HS.o.l9 (u:=(ag c.l q4.pos !=11)) (by first| (rw[HU.o,Bool.false_or];first| exact il _ _|exact ik _ _)|simp[HU.o,bne])).assoc) (by decide) fun OI w12 _ h=>?_
      replace HS:=ae h;clear h;replace HS:=ae (HS.o.pure);go_wp2_with fail;replace HS:=ae (HS.o.assoc);refine cP HS.o (by decide) fun b2 tH w13 _ (HP:Hd _) h=>?_;replace HS:=ae h;clear h
      cases b2 with
      | false=>
       replace HS:=ae (HS.o.Kc (by simp));go_wp2_with fail;replace HS:=ae (HS.o.pure);refine nO HS.o fun Rp w14 h=>?_;replace HS:=ae h;clear h;go_wp2_with fail;go_returns
       exact bz HS.o HS.o.self.1
      | true=>replace HS:=ae (HS.o.xU (by simp));go_wp2_with fail;replace HS:=ae (HS.o.pure);refine dv {kind:=22} [(made {kind:=21} [x])] (vs:=#[.slice am (made {kind:=21} [x]).length jm]) (.cons (HS.o.self.1).2.to .nil) (by have:=(HS.o.self.2.1).2;simp[made]<;>omega) (by simp) HS.o fun w15 am jm h=>?_;replace HS:=ae h;clear h;go_wp2_with fail;refine nO HS.o fun q16 w16 h=>?_;replace HS:=ae h;clear h;go_wp2_with fail;go_returns;exact bz HS.o HS.o.self.1
   · skip
     have y2:(ag c.l q1.pos !=10)=true:=by simpa using hk
     have HK:=ae hk;clear hk;go_wp2_with fail;refine eG HS.o fun w17 h=>?_;replace HS:=ae h;clear h;by_cases hk:ag c.l q1.pos=15
     · skip
       have y3:(ag c.l q1.pos !=15)=false:=by simpa using hk
       have ZB:=ae hk;clear hk;go_wp2_with fail;refine eG HS.o fun w18 h=>?_;replace HS:=ae h;clear h;replace HS:=ae (HS.o.EB (by simp[ZB.o]));go_wp2_with fail;clear y2 y3;replace HS:=ae (HS.o.assoc);refine cP HS.o (by decide) fun b W7 w19 hx _ h=>?_;replace HS:=ae h;clear h;obtain rfl:b=false:=(A2 hx HB.o).trans (decide_eq_false HK.o);clear hx;replace HS:=ae (HS.o.Kc (by simp));go_wp2_with fail;replace HS:=ae (HS.o.assoc);refine e9 HS.o fun nm Yo w20 h=>?_;replace HS:=ae h;clear h;go_wp2_with fail;replace HS:=ae (HS.o.pure);refine fy {kind:=20,name:=nm} HS.o fun w21 am jm h=>?_;replace HS:=ae h;clear h;go_wp2_with fail;replace HS:=ae (HS.o.assoc);refine cP HS.o (by decide) fun b2 q22 w22 _ (HP:Hd _) h=>?_;replace HS:=ae h;clear h
       cases b2 with
       | false=>
        replace HS:=ae (HS.o.Kc (by simp));go_wp2_with fail;replace HS:=ae (HS.o.pure);refine nO HS.o fun q23 w23 h=>?_;replace HS:=ae h;clear h;go_wp2_with fail;go_returns
        exact bz HS.o HS.o.self.1
       | true=>replace HS:=ae (HS.o.xU (by simp));go_wp2_with fail;replace HS:=ae (HS.o.pure);refine dv {kind:=22} [(made {kind:=20,name:=nm} [])] (vs:=#[.slice am (made {kind:=20,name:=nm} []).length jm]) (.cons (HS.o.self.1).2.to .nil) (by simp[made]<;>omega) (by simp) HS.o fun w24 am jm h=>?_;replace HS:=ae h;clear h;go_wp2_with fail;refine nO HS.o fun q25 w25 h=>?_;replace HS:=ae h;clear h;go_wp2_with fail;go_returns;exact bz HS.o HS.o.self.1
     · skip
       have y3:(ag c.l q1.pos !=15)=true:=by simpa using hk
       have ZB:=ae hk;clear hk;go_wp2_with fail;refine eG HS.o fun w26 h=>?_;replace HS:=ae h;clear h;have d5:=HS.o.st.cur.at_.c5;have lS:=HS.o.st.cur.at_.free 5;go_wp2_with fail;clear y2 y3 d5 lS;refine cP ((HS.o.l9 (u:=true) (by simp[HK.o,ZB.o])).assoc) (by decide) fun b q27 w27 hx _ h=>?_;replace HS:=ae h;clear h;obtain rfl:b=false:=(A2 hx HB.o).trans (decide_eq_false HK.o);clear hx;replace HS:=ae (HS.o.Kc (by simp));go_wp2_with fail;replace HS:=ae (HS.o.assoc);refine e9 HS.o fun nm q28 w28 h=>?_;replace HS:=ae h;clear h;go_wp2_with fail;replace HS:=ae (HS.o.pure);refine fy {kind:=20,name:=nm} HS.o fun w29 am jm h=>?_;replace HS:=ae h;clear h;go_wp2_with fail;replace HS:=ae (HS.o.assoc);refine cP HS.o (by decide) fun b2 q30 w30 _ (HP:Hd _) h=>?_;replace HS:=ae h;clear h
       cases b2 with
       | false=>
        replace HS:=ae (HS.o.Kc (by simp));go_wp2_with fail;replace HS:=ae (HS.o.pure);refine nO HS.o fun q31 w31 h=>?_;replace HS:=ae h;clear h;go_wp2_with fail;go_returns
        exact bz HS.o HS.o.self.1
       | true=>replace HS:=ae (HS.o.xU (by simp));go_wp2_with fail;replace HS:=ae (HS.o.pure);refine dv {kind:=22} [(made {kind:=20,name:=nm} [])] (vs:=#[.slice am (made {kind:=20,name:=nm} []).length jm]) (.cons (HS.o.self.1).2.to .nil) (by simp[made]<;>omega) (by simp) HS.o fun w32 am jm (HS:Hd _)=>?_;go_wp2_with fail;refine nO HS.o fun q33 w33 (HS:Hd _)=>?_;go_wp2_with fail;go_returns;exact bz HS.o HS.o.self.1
 · replace HS:=ae (h.no (by simp));clear h;go_wp2_with fail;go_returns;exact eA HS.o
theorem Dd(c:Sx):∀(n:Nat) (p:Ps) (w:World),fV c p w→p.deep≤200→62≤n+p.deep→1≤n →
 Calls Tryz.prog 68 #[.pointer (some ⟨c.sp,0,none⟩)] w (aM c (eK c.l n p).2 (eK c.l n p).1 w)
 | 0,p,w,h,h1,h2,h3=>absurd h3 (by decide)
 | n+1,p,w,h,h1,h2,h3=>JH c n (fun q W hq h4 h5 h6=>Dd c n q W hq h4 h5 h6) p w h h1 h2
theorem vL(c:Sx)(q:Ps)(W:World)(h:fV c q W)(hd:q.deep≤200):Calls Tryz.prog 68 #[.pointer (some ⟨c.sp,0,none⟩)] W (aM c (eK c.l 62 q).2 (eK c.l 62 q).1 W):=Dd c 62 q W h hd (by omega) (by omega)
end Go.Proofs.YtnpjmhodfdgloaaGreatDoor
