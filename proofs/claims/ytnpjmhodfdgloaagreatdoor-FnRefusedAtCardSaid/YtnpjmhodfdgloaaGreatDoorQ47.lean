/- Part of the proof. -/
import Derived.Test.YtnpjmhodfdgloaaGreatDoorQ32
import Derived.Test.YtnpjmhodfdgloaaGreatDoorQ45
set_option linter.unusedVariables false
set_option linter.unusedSimpArgs false
namespace Go.Proofs.YtnpjmhodfdgloaaGreatDoor
set_option maxRecDepth 100000
set_option maxHeartbeats 32000000
open Go.RowKit
attribute [local go_sem ↓] Go.wp_at_zero Go.wp_at_succ
structure DA(c:Sx)(w:World)(R:List (List Nd)×Ps)(d0 m:Nat)(acc:List (List Nd))(vs:List Value)(v:Value)(q:Ps)(W:World):Prop where
 l:wH c.l R d0 m acc q
 k:bI c w W v vs acc
 s:lO c w q W
def OM(c:Sx)(w:World)(R:List (List Nd)×Ps)(d0 g:Nat)(v:Value)(wr:World):Prop:=∃acc vs q,DA c w R d0 g acc vs v q wr
section
variable{c:Sx}{w W W':World}{R:List (List Nd)×Ps}{d0 m:Nat}{acc:List (List Nd)}{vs:List Value}{v:Value}{q:Ps}{r:List Nd×Ps}{f:List (List Nd)→SM (List Nd)}
theorem DA.exit(h:DA c w R d0 m acc vs v q W)(hc:¬(q.bad=false∧q.pos<c.l.length))(hf:f R.1 R.2=r)(hs:Sm [] W W'):dz c w d0 (d0+30) (fun X=>bI c w X v vs acc∧True) (f acc) r q W':=by rw[h.l.end_ hc] at hf;exact⟨⟨h.s.up hs,h.l.lo,h.l.hu,fun X hX=>⟨h.k.sm (hs.of_nil.trans hX) h.s.sp,trivial⟩⟩,hf⟩
theorem DA.z(h:DA c w R d0 m acc vs v q W):acc.flatten.length≤3000050∧acc.length+m≤1000002:=by have h1:=h.l.zu;have h2:=h.s.pos;have h3:=h.s.at_.jC.small;have h4:=h.l.len;omega
theorem DA.up(h:DA c w R d0 m acc vs v q W)(hs:Sm [] W W'):DA c w R d0 m acc vs v q W':=⟨h.l,h.k.sm hs.of_nil h.s.sp,h.s.up hs⟩
end
def KC(kids:List (List Nd)):SM (List Nd):=if kids.isEmpty=true then(do aL true;dn) else pure (made {kind:=1} kids)
theorem IJ(l:List Tok):bL l=(eg l (many l) []>>=KC):=rfl
theorem yr(c:Sx)(p:Ps)(w:World)(h:fV c p w)(hd:p.deep≤30):Calls Tryz.prog 12 #[.pointer (some ⟨c.sp,0,none⟩)] w (aM c (bL c.l p).2 (bL c.l p).1 w):=by
 obtain⟨r,hr⟩:∃r,bL c.l p=r:=⟨_,rfl⟩;rw[hr];rw[IJ] at hr;obtain⟨R,(HF:Hd _),hR⟩:∃R,KC R.1 R.2=r∧wH c.l R p.deep (many c.l) [] p:=⟨eg c.l (many c.l) [] p,by rw[aC] at hr;exact hr,wH.start⟩;have WM:=ae hd;have HR:Hd (OM c w R p.deep (many c.l) (.slice none 0 0) w):=⟨[],[],p,hR,bI.nil _ _ _,lO.start h⟩;clear h hd hr hR;go_enter Tryz.func12,Tryz.ntmps12;go_wp2_with fail
 go_loopg [3] (many c.l) (fun g v wr=>OM c w R p.deep g v wr)
 case atStart=>exact HR.o
 case round=>
  obtain⟨acc,vs,q,h⟩:=hrel;obtain⟨ak,kk,hv⟩:=h.k.form;subst hv;have HL:=ae h;have d4:=h.s.at_.c4;have d1:=h.s.at_.c1;have d0:=h.s.at_.c0;clear h HR;go_upto_region 2 with fail
  go_cut [20] from 4 to 20 (fun v wx=>∃b,v=.bool b∧Hd (DA c w R p.deep gk acc vs (.slice ak acc.length kk) q wx)∧Hd ((b=true→q.bad=false∧q.pos<c.l.length)∧(b=false→¬(q.bad=false∧q.pos<c.l.length))))
  case first=>
   cases hb:q.bad with
   | true=>
    rw[hb] at d4;have HB:=ae hb;clear hb;go_quiet (fail);go_wp2_with fail;go_meet
    exact⟨false,rfl,HL.o.up (by(repeat(first| exact sr|assumption|refine Sm.alloc ?_ _|refine Sm.drew ?_|refine Sm.drewN ?_ _))),fun e=>(by cases e),fun _ h=>by rw[HB.o] at h;cases h.1⟩
   | false=>
    rw[hb] at d4;have HB:=ae hb;clear hb;by_cases hi:q.pos<c.l.length
    · have z1:(q.pos:Int)<(c.l.length:Int):=by omega
      have HI:=ae hi;clear hi;go_quiet (fail);go_wp2_with fail;go_meet;exact⟨true,rfl,HL.o.up (by(repeat(first| exact sr|assumption|refine Sm.alloc ?_ _|refine Sm.drew ?_|refine Sm.drewN ?_ _))),fun _=>⟨HB.o,HI.o⟩,fun e=>by cases e⟩
    · have z1:¬((q.pos:Int)<(c.l.length:Int)):=by omega
      have HI:=ae hi;clear hi;go_quiet (fail);go_wp2_with fail;go_meet;exact⟨false,rfl,HL.o.up (by(repeat(first| exact sr|assumption|refine Sm.alloc ?_ _|refine Sm.drew ?_|refine Sm.drewN ?_ _))),fun e=>(by cases e),fun _ h=>HI.o h.2⟩
  case rest=>
   clear HL d0 d1 d4;obtain⟨b,rfl,HL,hh⟩:=hcut
   cases b with
   | false=>
    have HS:=ae (HL.o.exit (hh.out.2 rfl) HF.o sr);have HZ:=ae HL.o.z;clear hh;unfold KC at HS;by_cases ha:acc.length=0
    · have y:((acc.length:Int)==0)=true:=by rw[ha];rfl
      have HA:Hd (acc.isEmpty=true):=by unfold Hd;rw[List.isEmpty_iff];exact List.eq_nil_of_length_eq_zero ha
      replace HS:=ae (HS.o.yes HA.o);have d5:=HS.o.st.cur.at_.c5;have lS:=HS.o.st.cur.at_.free 5;clear ha;go_wp2_with fail;clear d5 lS;refine iV (HS.o.l9 (u:=true) (by simp)) fun q1 w1 (HS:Hd _)=>?_;go_wp2_with fail;go_returns;exact eA HS.o
    · have y:((acc.length:Int)==0)=false:=bn (by omega);have HA:Hd (¬acc.isEmpty=true):=by unfold Hd;rw[List.isEmpty_iff];intro e;exact ha (by rw[e];rfl)
      replace HS:=ae (HS.o.no HA.o);clear ha;go_wp2_with fail;refine jY {kind:=1} (HS.o.self.1) (by have:=HZ.o;omega) (by have:=HZ.o;omega) HS.o fun w1 am jm (HS:Hd _)=>?_;go_wp2_with fail;go_returns
      exact bz HS.o HS.o.self.1
   | true=>
    obtain⟨hb,hi⟩:=hh.out.1 rfl;have HNX:=ae (HL.o.l.next (x:=(dX c.l q).1) (q':=(dX c.l q).2) hb hi rfl);have HDF:=ae (BM c q wc HL.o.s.at_ (by have h1:=HL.o.l.hi hb;have h2:=WM.o;omega) hb);clear hh hb hi;generalize dX c.l q=y at *;obtain⟨x,q1⟩:=y;go_wp2_with fail;refine HDF.o.mono ?_;intro e w1 h1;obtain⟨a1,k1,rfl,(Bt:Hd _),(HC:Hd _),(I1:Hd _)⟩:=h1.go2 HL.o.s;clear h1 HDF;have how:=(HL.o.k.sm I1.o HL.o.s.sp).own;have de:(acc.length+1)*24≤140737488355328:=by have:=HL.o.z;omega
    have cv:=HC.o.new;go_wp2_with (at_builtin;refine gH _ rfl _ _ _ rfl 23 _ 1 24 Tryz.underlying64 fm rfl (by omega) (by omega) (.slice ak acc.length kk) acc.length vs rfl how #[.slice a1 x.length k1] rfl rfl (by simp[Value.oneCell']) de cv ?_);intro gn oJ wn aJ hg bV b9;have HK:=ae ((HL.o.k.sm I1.o HL.o.s.sp).add Bt.o (fun g e=>(HL.o.k.own.lt g e).2) (by simpa using aJ) hg bV);have HG:=ae hg;clear how de cv aJ hg bV b9;go_wp2_with fail;obtain⟨m2,hm,h⟩:=HNX.o;have HN:Hd (DA c w R p.deep m2 (acc++[x]) (vs++[.slice a1 x.length k1]) (.slice (some ⟨gn,0,none⟩) (acc.length+1) oJ) q1 wn):=⟨h,HK.o,HC.o.grown HG.o HL.o.k.base⟩;clear h;go_roundg (gk-1)
    case measure=>omega
    case rel=>exact⟨_,_,_,by rw[show gk-1=m2 by omega];exact HN.o⟩
def UE(p:Ps)(a:Option Addr)(n k:Nat)(sure:Bool)(w:World)(e:Ending)(w':World):Prop:=Sm [] w w'∧e=.returned (.tuple #[(if p.bad=true then .slice none 0 0 else .slice a n k),.bool (!p.bad),.bool (sure&&!p.unsure)])
theorem Li(c:Sx)(p:Ps)(w:World)(h:fV c p w)(a:Option Addr)(n k:Nat)(sure:Bool):Calls Tryz.prog 13 #[.pointer (some ⟨c.sp,0,none⟩),.slice a n k,.bool sure] w (UE p a n k sure w):=by
 have d4:=h.c4;have d5:=h.c5;clear h;unfold UE
 cases hb:p.bad with
 | true=>
  rw[hb] at d4
  cases hu:p.unsure<;>rw[hu] at d5<;>cases sure<;>clear hb hu
  all_goals
   go_enter Tryz.func13,Tryz.ntmps13;go_wp2_with fail;go_quiet (fail);go_wp2_with fail;go_returns
   exact⟨by(repeat(first| exact sr|refine Sm.drew ?_|refine Sm.drewN ?_ _)),rfl⟩
 | false=>
  rw[hb] at d4
  cases hu:p.unsure<;>rw[hu] at d5<;>cases sure<;>clear hb hu
  all_goals go_enter Tryz.func13,Tryz.ntmps13;go_wp2_with fail;go_quiet (fail);go_wp2_with fail;go_returns;exact⟨by(repeat(first| exact sr|refine Sm.drew ?_|refine Sm.drewN ?_ _)),rfl⟩
theorem oe{a b:World}(h:Below a.heap.size a b):Sm [] a b:=⟨h.os,h.tape,h.output,h.size,fun k hk _=>h.block k hk⟩
theorem JR:∀(l:List Tok) (i:Nat) (h:i<l.length),(j9 l)[i*4]?=some (.int .i64 l[i].kind)∧(j9 l)[i*4+1]?=some (.string l[i].val)∧(j9 l)[i*4+2]?=some (.int .i64 (l[i].start:Int))∧(j9 l)[i*4+3]?=some (.int .i64 (l[i].stop:Int))
 | [],i,h=>by simp at h
 | t :: l,0,h=>⟨rfl,rfl,rfl,rfl⟩
 | t :: l,i+1,h=>by
  have ih:=JR l i (by simpa using h);have e:∀j,(j9 (t :: l))[(i+1)*4+j]?=(j9 l)[i*4+j]?:=fun j=>by show(Ti t++j9 l)[(i+1)*4+j]?=_;rw[List.getElem?_append_right (by show 4≤_;omega)];congr 1;show(i+1)*4+j-4=_;omega
  simp only[List.getElem_cons_succ];exact⟨(e 0).trans ih.1,(e 1).trans ih.2.1,(e 2).trans ih.2.2.1,(e 3).trans ih.2.2.2⟩
theorem Fa{w:World}{base:Nat}{v:Value}{l:List Tok}(h:w.ownsRow base 63 4 v l.length (j9 l))(hl:l.length≤1000000) :
 ∃c:Sx,c.l=l∧c.sp=w.heap.size∧v=.slice c.la l.length c.cap∧fV c uO (w.alloc (.cells #[v,.int .i64 0,.int .i64 0,.int .i64 0,.bool false,.bool false] 39 (0,0))):=by
 have h0:=h.2;rcases h0 with⟨rfl,h0⟩|⟨g,cap,cur,rfl,h1,h2,h3⟩
 · refine⟨⟨l,none,0,w.heap.size+1,0,w.heap.size⟩,rfl,rfl,by rw[h0],⟨by rw[ai];simp only[JE,uO];rw[h0];rfl,⟨fun i hi=>?_,by simp,hl⟩,Nat.zero_le _,Nat.zero_le _⟩⟩;exact absurd hi (by rw[show l.length=0 from h0];omega)
 · refine⟨⟨l,some ⟨g,0,none⟩,cap,g,0,w.heap.size⟩,rfl,rfl,rfl,⟨by rw[ai];rfl,⟨fun i hi=>?_,?_,hl⟩,Nat.zero_le _,Nat.zero_le _⟩⟩
   · have hi2:i<l.length:=hi;obtain⟨e0,e1,e2,e3⟩:=JR l i hi2;have hc:=h.alloc (.cells #[.slice (some ⟨g,0,none⟩) l.length cap,.int .i64 0,.int .i64 0,.int .i64 0,.bool false,.bool false] 39 (0,0));refine⟨rfl,?_,?_,?_,?_⟩
     · rw[Nat.zero_add];exact(hc.cellAt (i*4) (by omega)).trans e0
     · rw[Nat.zero_add];exact(hc.cellAt (i*4+1) (by omega)).trans e1
     · rw[Nat.zero_add];exact(hc.cellAt (i*4+2) (by omega)).trans e2
     · rw[Nat.zero_add];exact(hc.cellAt (i*4+3) (by omega)).trans e3
   · have:=(h.lt g rfl).2;show g≠w.heap.size;omega
theorem Ou{s:ByteArray}(hb:(cm s).bad=true)(hu:(cm s).unsure=false):∃p,whole s=.err p∧Qj s p:=by
 unfold whole;rcases KY hb hu with h|⟨t,h1,h2,h3⟩
 · rw[h];exact⟨_,rfl,.inl (Nat.lt_succ_self _)⟩
 · rw[h1];exact AE h3 (by omega)
theorem Dw{s:ByteArray}(hb:(cm s).bad=false)(hu:(cm s).unsure=false)(hn:(cm s).out.length≤s.size)(hd:(bL (cm s).out uO).2.unsure=false) :
 ((bL (cm s).out uO).2.bad=true→whole s=.err (aB (cm s).out (nY s) (bL (cm s).out uO).2.wrong).start) ∧
 ((bL (cm s).out uO).2.bad=false→∃y t,whole s=.ok y t∧dF (bL (cm s).out uO).1 y):=by
 obtain⟨h1,h2,_⟩:=xx hb hu;have h:=G4 h1 (n:=s.size+3) (by omega) hd;unfold whole;rw[h2];exact h
theorem QB{s:ByteArray}(hb:(cm s).bad=false)(hu:(cm s).unsure=false)(i:Nat):Qj s (aB (cm s).out (nY s) i).start:=by obtain⟨_,_,h⟩:=xx hb hu;obtain⟨a,b⟩:=h i;exact .inr ⟨b,fun e=>a e.1⟩
def Ef(s:ByteArray):Bool:=!(cm s).bad&&!(bL (cm s).out uO).2.bad
def A1(s:ByteArray):Bool:=!(cm s).unsure&&((cm s).bad||!(bL (cm s).out uO).2.unsure)
theorem Ov{s:ByteArray}(hn:(cm s).bad=false→(cm s).out.length≤s.size)(hs:A1 s=true) :
 (Ef s=true→∃y t,whole s=.ok y t∧dF (bL (cm s).out uO).1 y)∧(Ef s=false→∃p,whole s=.err p∧Qj s p):=by
 unfold A1 at hs;unfold Ef;rw[Bool.and_eq_true,Bool.or_eq_true] at hs;obtain⟨h1,h2⟩:=hs;have hu:(cm s).unsure=false:=by simpa using h1
 cases hb:(cm s).bad with
 | true=>exact⟨fun e=>by simp at e,fun _=>Ou hb hu⟩
 | false=>
  have hd:(bL (cm s).out uO).2.unsure=false:=by
   rcases h2 with h2|h2
   · rw[hb] at h2;cases h2
   · simpa using h2
  obtain⟨a,b⟩:=Dw hb hu (hn hb) hd;refine⟨fun e=>b (by simpa using e),fun e=>⟨_,a (by simpa using e),QB hb hu _⟩⟩
theorem Ym{s:ByteArray}{p pl:Nat}(h:Qj s p)(hp:Ko s p pl)(ha:xV s):pl≤s.size∧¬mid s pl:=by
 obtain⟨a,b,c⟩:=hp;refine⟨a,?_⟩;rcases h with h|⟨h1,h2⟩
 · exact c h ha
 · rw[b h1];exact h2
theorem CI{w w1 w':World}{k:Nat}{o:Obj}(h:Sm [] w w1)(hk:k=w1.heap.size)(h2:Sm [k] (w1.alloc o) w'):Sm [] w w':=
 h2.forget (h.alloc o) (fun q hq=>.inr (by simp at hq;subst hq;rw[hk];exact h.size))
def Kp(s:ByteArray)(w:World)(e:Ending)(w':World):Prop:=Sm [] w w'∧∃v,e=.returned (.tuple #[v,.bool (Ef s),.bool (A1 s)])∧(Ef s=true→ke.rd w.heap.size w'.heap.size w' v (bL (cm s).out uO).1)∧((cm s).bad=false→(cm s).out.length≤s.size)
theorem LC(s:ByteArray)(w:World)(hs:s.size≤1000000):Calls Tryz.prog 6 #[.string s] w (Kp s w):=by
 have Bt:=ae (Ms s w (by omega));unfold FD MT at Bt;have wM:=ae hs
 have Zu:Hd (∀w',Sm [] w w'→(cm s).bad=true→Kp s w (.returned (.tuple #[.slice none 0 0,.bool false,.bool (!(cm s).unsure)])) w'):=
  fun w' h hb=>⟨h,.slice none 0 0,by unfold Ef A1;rw[hb];simp,fun e=>(by unfold Ef at e;rw[hb] at e;cases e),fun e=>(by rw[hb] at e;cases e)⟩
 have ED:Hd (∀(w':World) (v:Value),Sm [] w w'→(cm s).bad=false→(cm s).out.length≤s.size→((bL (cm s).out uO).2.bad=false→ke.rd w.heap.size w'.heap.size w' v (bL (cm s).out uO).1)→Kp s w (.returned (.tuple #[v,.bool (!(bL (cm s).out uO).2.bad),.bool (!(cm s).unsure&&!(bL (cm s).out uO).2.unsure)])) w'):=
  fun w' v h hb hl hr=>⟨h,v,by unfold Ef A1;rw[hb];simp,fun e=>hr (by unfold Ef at e;rw[hb] at e;simpa using e),fun _=>hl⟩
 clear hs;generalize cm s=y at *
 cases hb:y.bad with
 | true=>
  have HB:=ae hb;rw[hb] at Bt;clear hb;go_enter Tryz.func6,Tryz.ntmps6;go_wp2_with fail;refine Bt.o.mono ?_;rintro e w1 ⟨ov,l,rfl,hl,h1,h2,h3⟩;have H3:=ae (oe h3);clear h1 h2 h3 hl Bt;go_wp2_with fail;go_returns
  exact Zu.o _ H3.o HB.o
 | false=>
  have HB:=ae hb;rw[hb] at Bt;clear hb;generalize Y8:bL y.out uO=z at ED;obtain⟨zl,zp⟩:=z;have ZQ:=ae Y8;clear Y8;go_enter Tryz.func6,Tryz.ntmps6;go_wp2_with fail;refine Bt.o.mono ?_;rintro e w1 ⟨ov,l,rfl,hl,h1,h2,h3⟩;have hl2:l=y.out:=by rw[hl];rfl
  clear hl;subst hl2;obtain⟨c,(Uu:Hd _),(Ki:Hd _),e3,(H4:Hd _)⟩:=Fa h1 (by have:=wM.o;have:=h2;omega);subst e3;have H3:=ae (oe h3);have Dy:=ae h2;clear h1 h2 h3 Bt;have Ut:=ae (yr c uO _ H4.o (Nat.zero_le _));rw[Ki.o,Uu.o,ZQ.o] at Ut;go_wp2_with fail;refine Ut.o.mono ?_;intro e w2 h1;obtain⟨v,rfl,hr,bV,(I1:Hd _)⟩:=h1;obtain⟨a,k,rfl⟩:=pj hr;have Rv:=ae bV;have HR:=ae hr;have Ux:=ae (Li c _ w2 bV a zl.length k (!y.unsure));rw[Ki.o] at Ux;clear bV hr Ut;unfold UE at Ux;have hz:=ae (CI H3.o Ki.o I1.o)
  try simp only at ED Ux HR
  cases PS:zp.bad with
  | true=>
   rw[PS] at Ux ED;clear PS;go_wp2_with fail;refine Ux.o.mono ?_;rintro e w3 ⟨(aO:Hd _),rfl⟩;go_wp2_with fail;go_returns
   exact ED.o _ _ (hz.out.trans aO.o) HB.o Dy.o (fun e=>by cases e)
  | false=>rw[PS] at Ux ED;clear PS;go_wp2_with fail;refine Ux.o.mono ?_;rintro e w3 ⟨(aO:Hd _),rfl⟩;go_wp2_with fail;go_returns;exact ED.o _ _ (hz.out.trans aO.o) HB.o Dy.o (fun _=>ke.wide (au.sm HR.o aO.o lr (fun q hq=>by cases hq)) (by have:=H3.o.size;simp;omega) aO.o.size)
def RH(s:ByteArray)(w:World)(e:Ending)(w':World):Prop:=Sm [] w w'∧∃(pl:Nat) (b:Bool),e=.returned (.tuple #[.int .i64 (pl:Int),.bool b]) ∧
 (b=true→(cm s).bad=false∧(cm s).unsure=false∧(bL (cm s).out uO).2.bad=true∧(bL (cm s).out uO).2.unsure=false∧pl=(aB (cm s).out (nY s) (bL (cm s).out uO).2.wrong).start∧(cm s).out.length≤s.size)
theorem T4{s:ByteArray}{w w':World}(h:Sm [] w w'):RH s w (.returned (.tuple #[.int .i64 0,.bool false])) w':=⟨h,0,false,rfl,fun e=>by cases e⟩
theorem El(s:ByteArray)(w:World)(hs:s.size≤1000000):Calls Tryz.prog 9 #[.string s] w (RH s w):=by
 have Bt:=ae (Ms s w (by omega));unfold FD MT at Bt;have wM:=ae hs;have oB:Hd (∀w',Sm [] w w'→RH s w (.returned (.tuple #[.int .i64 0,.bool false])) w'):=fun w' h=>T4 h
 have OZ:Hd (∀(w':World) (pl:Nat),Sm [] w w'→(cm s).bad=false→(cm s).unsure=false→(bL (cm s).out uO).2.bad=true→(bL (cm s).out uO).2.unsure=false→pl=(aB (cm s).out (nY s) (bL (cm s).out uO).2.wrong).start→(cm s).out.length≤s.size→RH s w (.returned (.tuple #[.int .i64 (pl:Int),.bool true])) w'):=
  fun w' pl h a b c d e f=>⟨h,pl,true,rfl,fun _=>⟨a,b,c,d,e,f⟩⟩
 clear hs;generalize cm s=y at *
 cases hb:y.bad with
 | true=>
  rw[hb] at Bt;clear hb OZ;go_enter Tryz.func9,Tryz.ntmps9;go_wp2_with fail;refine Bt.o.mono ?_;rintro e w1 ⟨ov,l,rfl,hl,h1,h2,h3⟩;have H3:=ae (oe h3);clear h1 h2 h3 hl Bt;go_wp2_with fail;go_returns
  exact oB.o _ H3.o
 | false=>
  have HB:=ae hb;rw[hb] at Bt
  cases hu:y.unsure with
  | true=>
   rw[hu] at Bt;clear hb hu OZ;go_enter Tryz.func9,Tryz.ntmps9;go_wp2_with fail;refine Bt.o.mono ?_;rintro e w1 ⟨ov,l,rfl,hl,h1,h2,h3⟩;have H3:=ae (oe h3);clear h1 h2 h3 hl Bt;go_wp2_with fail;go_returns
   exact oB.o _ H3.o
  | false=>
   have HU:=ae hu;rw[hu] at Bt;clear hb hu;generalize Y8:bL y.out uO=z at OZ;obtain⟨zl,zp⟩:=z;have ZQ:=ae Y8;clear Y8;go_enter Tryz.func9,Tryz.ntmps9;go_wp2_with fail;refine Bt.o.mono ?_;rintro e w1 ⟨ov,l,rfl,hl,h1,h2,h3⟩;have hl2:l=y.out:=by rw[hl];rfl
   clear hl;subst hl2;obtain⟨c,(Uu:Hd _),(Ki:Hd _),e3,(H4:Hd _)⟩:=Fa h1 (by have:=wM.o;have:=h2;omega);subst e3;have H3:=ae (oe h3);have Dy:=ae h2;clear h1 h2 h3 Bt;have Ut:=ae (yr c uO _ H4.o (Nat.zero_le _));rw[Ki.o,Uu.o,ZQ.o] at Ut;go_wp2_with fail;refine Ut.o.mono ?_;intro e w2 h1;obtain⟨v,rfl,hr,bV,iI⟩:=h1;have Rv:=ae bV;have I1:=ae (CI H3.o Ki.o iI);have d4:=bV.c4;have d5:=bV.c5;have d3:=bV.c3;have hsp:c.sp=w1.heap.size:=Ki.o;rw[hsp] at d4 d5 d3;clear bV iI hr Ut hsp
   cases PS:zp.bad with
   | false=>
    rw[PS] at d4;clear PS;go_wp2_with fail;go_returns
    exact oB.o _ I1.o
   | true=>
    have AA:=ae PS;rw[PS] at d4
    cases Y9:zp.unsure with
    | true=>
     rw[Y9] at d5;clear PS Y9;go_wp2_with fail;go_returns
     exact oB.o _ I1.o
    | false=>
     have HZU:=ae Y9;rw[Y9] at d5;clear PS Y9;by_cases hw:zp.wrong<y.out.length
     · have z1:(zp.wrong:Int)<(y.out.length:Int):=by omega
       have z2:(0:Int)≤(zp.wrong:Int):=by omega
       have hw':zp.wrong<c.l.length:=by rw[Uu.o];exact hw
       obtain⟨Cf,ta,tb,t2,td⟩:=Rv.o.jC.at_ _ hw';clear ta tb td
       have lD:(c.l[zp.wrong].start:Int)=((aB y.out (nY s) zp.wrong).start:Int):=by
        unfold aB;rw[←Uu.o,List.getElem?_eq_getElem hw']
        rfl
       rw[lD] at t2;rw[Cf];generalize (aB y.out (nY s) zp.wrong).start=st at *;have XZ:st=st:=rfl;clear lD Cf hw hw';go_wp2_with fail;go_returns;exact OZ.o _ _ I1.o HB.o HU.o AA.o HZU.o rfl Dy.o
     · have z1:¬((zp.wrong:Int)<(y.out.length:Int)):=by omega
       have HE:Hd ((aB y.out (nY s) zp.wrong).start=s.size):=ae (by rw[A4 (by omega)];rfl);clear hw;go_wp2_with fail;go_returns;exact OZ.o _ _ I1.o HB.o HU.o AA.o HZU.o HE.o.symm Dy.o
theorem Pz(s:ByteArray)(p:Nat)(hp:p≤s.size)(hm:¬mid s p)(n:Nat):∀i fr ln,s.size-i≤n→fr≤i→i≤s.size→fr≤p →
 ∃a f:Nat,lA p (fL s i) ln fr=(((ln+a:Nat):Int),(p:Int)+1-(f:Int))∧f≤p∧∃x,(bA s i fr)[a]?=some x∧p-f≤x.size:=by
 induction n with
 | zero=>
  intro i fr ln h1 h2 h3 h4;refine⟨0,fr,by rw[me (by omega)];rfl,h4,s.extract fr s.size,by rw[kx (by omega)];rfl,?_⟩
  rw[ByteArray.size_extract];omega
 | succ n ih=>
  intro i fr ln h1 h2 h3 h4;by_cases hi:i<s.size
  · by_cases he:nx s i=10∨nx s i=13
    · rw[iT hi he,fP hi he];by_cases hip:i<p
      · have hle:mY s i≤p:=by
         unfold mY;by_cases hc:nx s i=13∧i+1<s.size∧nx s (i+1)=10
         · rw[if_pos hc];have:p≠i+1:=fun e=>hm ⟨by rw[e];exact hc.2.2,by omega,by rw[e];exact hc.1⟩;omega
         · rw[if_neg hc];omega
        have g1:=sk s i;have g2:=KE hi;obtain⟨a,f,q1,q2,x,q3,q4⟩:=ih (mY s i) (mY s i) (ln+1) (by omega) lr g2 hle;refine⟨a+1,f,?_,q2,x,by simpa using q3,q4⟩;rw[pa (by exact hip),q1];congr 2;omega
      · refine⟨0,fr,by rw[BX (by exact hip)];rfl,h4,s.extract fr i,rfl,?_⟩;rw[ByteArray.size_extract];omega
    · rw[uo hi he,nt hi he];exact ih (i+1) fr ln (by omega) (by omega) (by omega) h4
  · refine⟨0,fr,by rw[me hi];rfl,h4,s.extract fr s.size,by rw[kx hi];rfl,?_⟩;rw[ByteArray.size_extract];omega
theorem VA{s:ByteArray}{p:Nat}(hp:p≤s.size)(hm:¬mid s p):∃(a f:Nat) (x:ByteArray),loc s p=(((a+1:Nat):Int),(p:Int)+1-(f:Int))∧f≤p∧(bA s 0 0)[a]?=some x∧p-f≤x.size:=by obtain⟨a,f,q1,q2,x,q3,q4⟩:=Pz s p hp hm s.size 0 0 1 (by omega) lr (Nat.zero_le _) (Nat.zero_le _);exact⟨a,f,x,by unfold loc;rw[q1,Nat.add_comm],q2,q3,q4⟩
theorem KJ{s:ByteArray}{p i ln fr:Nat}(h:p≤i):lA p (fL s i) ln fr=((ln:Int),(p:Int)+1-(fr:Int)):=by
 cases he:fL s i with
 | nil=>rfl
 | cons x t=>have:=IK s (s.size-i) i lr x (by rw[he];simp);rw[BX (by omega)]
def nW(s:ByteArray)(p:Nat)(w:World)(l f j:Value)(wr:World):Prop:=
 ∃(k ln fr:Nat),l=.int .i64 ln∧f=.int .i64 fr∧j=.int .i64 k∧k≤s.size∧ln≤k+1∧fr≤k∧wr=w∧Hd (loc s p=lA p (fL s k) ln fr)
theorem Ot(s:ByteArray)(p:Nat)(w:World)(hs:s.size≤1099511627776)(hp:p≤1099511627777) :
 Calls Tryz.prog 10 #[.string s,.int .i64 (p:Int)] w fun e w'=>e=.returned (.tuple #[.int .i64 (loc s p).1,.int .i64 (loc s p).2])∧w'=w:=by
 go_enter Tryz.func10,Tryz.ntmps10;go_wp2_with fail
 go_loopw [4,6,7] (fun l f j wr=>nW s p w l f j wr) (fun _ _ j _=>s.size-(intOf j).toNat)
 case atStart=>unfold nW;exact⟨0,1,0,rfl,rfl,rfl,Nat.zero_le _,by omega,by omega,rfl,rfl⟩
 case round=>
  unfold nW at hrel;obtain⟨k,ln,fr,rfl,rfl,rfl,hk,KO,hfr,rfl,hd⟩:=hrel;have k1:(0:Int)≤(k:Int):=by omega
  by_cases b9:k<s.size
  · have k2:(k:Int)<(s.size:Int):=by omega
    by_cases Rd:k<p
    · have k3:(k:Int)<(p:Int):=by omega
      have ek:s[k].toNat=nx s k:=fi b9;by_cases yT:nx s k=10
      · have eL:Hd (loc s p=lA p (fL s (k+1)) (ln+1) (k+1)):=by
         unfold Hd;rw[hd.out,iT b9 (.inl yT),pa (by exact Rd),show mY s k=k+1 by unfold mY;rw[if_neg (by omega)]]
        have e3:((nx s k:Int)==10)=true:=by simp;omega
        have e2:((nx s k:Int)==13)=false:=by simp;omega
        clear yT hd;go_wp2;go_roundw
        case rel=>(first| refine⟨_,_,_,?_,rfl,rfl,rfl⟩|skip);unfold nW;exact⟨k+1,ln+1,k+1,by go_num,by go_num,by go_num,by omega,by omega,by omega,rfl,eL⟩
        case measure=>simp[intOf];omega
      have e3:((nx s k:Int)==10)=false:=by simp;omega
      by_cases tH:nx s k=13
      · have e2:((nx s k:Int)==13)=true:=by simp;omega
        by_cases q1:k+1<s.size
        · have k4:(k:Int)+1<(s.size:Int):=by omega
          have ek1:s[k+1].toNat=nx s (k+1):=fi q1;have k5:(0:Int)≤(k:Int)+1:=by omega
          by_cases q2:nx s (k+1)=10
          · have eL:Hd (loc s p=lA p (fL s (k+2)) (ln+1) (k+2)):=by
             unfold Hd;rw[hd.out,iT b9 (.inr tH),pa (by exact Rd),show mY s k=k+2 by unfold mY;rw[if_pos ⟨tH,q1,q2⟩]]
            have e4:((nx s (k+1):Int)==10)=true:=by simp;omega
            clear tH q2 hd;go_wp2;go_roundw
            case rel=>(first| refine⟨_,_,_,?_,rfl,rfl,rfl⟩|skip);unfold nW;exact⟨k+2,ln+1,k+2,by go_num,by go_num,by go_num,by omega,by omega,by omega,rfl,eL⟩
            case measure=>simp[intOf];omega
          · have eL:Hd (loc s p=lA p (fL s (k+1)) (ln+1) (k+1)):=by
             unfold Hd;rw[hd.out,iT b9 (.inr tH),pa (by exact Rd),show mY s k=k+1 by unfold mY;rw[if_neg (by omega)]]
            have e4:((nx s (k+1):Int)==10)=false:=by simp;omega
            clear tH q2 hd;go_wp2;go_roundw
            case rel=>(first| refine⟨_,_,_,?_,rfl,rfl,rfl⟩|skip);unfold nW;exact⟨k+1,ln+1,k+1,by go_num,by go_num,by go_num,by omega,by omega,by omega,rfl,eL⟩
            case measure=>simp[intOf];omega
        · have k4:¬((k:Int)+1<(s.size:Int)):=by omega
          have eL:Hd (loc s p=lA p (fL s (k+1)) (ln+1) (k+1)):=by unfold Hd;rw[hd.out,iT b9 (.inr tH),pa (by exact Rd),show mY s k=k+1 by unfold mY;rw[if_neg (by omega)]]
          clear tH hd;go_wp2;go_roundw
          case rel=>(first| refine⟨_,_,_,?_,rfl,rfl,rfl⟩|skip);unfold nW;exact⟨k+1,ln+1,k+1,by go_num,by go_num,by go_num,by omega,by omega,by omega,rfl,eL⟩
          case measure=>simp[intOf];omega
      · have e2:((nx s k:Int)==13)=false:=by simp;omega
        have eL:Hd (loc s p=lA p (fL s (k+1)) ln fr):=by unfold Hd;rw[hd.out,uo b9 (by omega)]
        clear tH yT hd;go_wp2;go_roundw
        case rel=>(first| refine⟨_,_,_,?_,rfl,rfl,rfl⟩|skip);unfold nW;exact⟨k+1,ln,fr,by go_num,by go_num,by go_num,by omega,by omega,by omega,rfl,eL⟩
        case measure=>simp[intOf];omega
    · have k3:¬((k:Int)<(p:Int)):=by omega
      have eL:Hd (loc s p=((ln:Int),(p:Int)+1-(fr:Int))):=by unfold Hd;rw[hd.out,KJ (by omega)]
      clear hd;go_wp2;go_returns;refine⟨?_,rfl⟩;rw[eL.out];have hz:(p:Int)-(fr:Int)+1=(p:Int)+1-(fr:Int):=by omega
      rw[←hz]
      rfl
  · have k2:¬((k:Int)<(s.size:Int)):=by omega
    have eL:Hd (loc s p=((ln:Int),(p:Int)+1-(fr:Int))):=by unfold Hd;rw[hd.out,me b9];rfl
    clear hd;go_wp2;go_returns;refine⟨?_,rfl⟩;rw[eL.out];have hz:(p:Int)-(fr:Int)+1=(p:Int)+1-(fr:Int):=by omega
    rw[←hz]
    rfl
def Ru(s:ByteArray)(w:World)(e:Ending)(w':World):Prop:=∃b,e=.returned (.bool b)∧w'=w∧(b=true→xV s)
theorem BF(s:ByteArray)(w:World)(hs:s.size≤1099511627776) :
 Calls Tryz.prog 5 #[.string s] w (Ru s w):=by
 go_enter Tryz.func5,Tryz.ntmps5;go_wp2_with fail
 go_loop [3] (fun v=>∃k:Nat,k≤s.size∧v=.int .i64 k∧Hd (∀i,i<k→nx s i<128)) (fun v=>s.size-(intOf v).toNat)
 case atStart=>exact⟨0,by omega,rfl,fun i hi=>by omega⟩
 case round=>
  obtain⟨k,hk,rfl,hd⟩:=hrel;have k1:(0:Int)≤(k:Int):=by omega
  by_cases b9:k<s.size
  · have k2:(k:Int)<(s.size:Int):=by omega
    have ek:s[k].toNat=nx s k:=fi b9;by_cases q1:nx s k<128
    · have eL:Hd (∀i,i<k+1→nx s i<128):=fun i hi=>by
       by_cases e:i=k
       · subst e;exact q1
       · exact hd.out i (by omega)
      have e1:¬((nx s k:Int)≥128):=by omega
      clear q1 hd;go_wp2;go_round
      case rel=>exact⟨k+1,by omega,by go_num,eL⟩
      case measure=>simp[intOf];omega
    · have e1:(nx s k:Int)≥128:=by omega
      clear q1 hd;go_wp2;go_ret;exact⟨false,rfl,rfl,fun e=>by cases e⟩
  · have k2:¬((k:Int)<(s.size:Int)):=by omega
    go_wp2;go_ret;exact⟨true,rfl,rfl,fun _ i hi=>hd.out i (by omega)⟩
def Im(w:World)(e:Ending)(w':World):Prop:=e=.returned (.bool true)∧Sm [] w w'
theorem SJ{s:ByteArray}{y:List Nd}{t:Tok}(h:whole s=.ok y t):whole s≠.eo:=by rw[h];intro e;cases e
theorem Jj{s:ByteArray}{p:Nat}(h:whole s=.err p):whole s≠.eo:=by rw[h];intro e;cases e
theorem Gt(s:ByteArray)(hs:s.size≤2000):(bA s 0 0).length≤2001∧∀x∈bA s 0 0,x.size≤2000:=by have h1:=ns s 0 0;exact⟨by omega,fun x hx=>Nat.le_trans (mg s 0 0 x hx) hs⟩
theorem J5(s:ByteArray)(w:World)(ht:qW w):Calls Tryz.prog 3 #[.string s] w (Im w):=by
 have RF:=ae ht;clear ht;by_cases hm:s.size>2147483647
 · have z1:(s.size:Int)>2147483647:=by omega
   clear hm;go_enter Tryz.func3,Tryz.ntmps3;go_wp2_with fail;go_returns;exact⟨rfl,sr⟩
 have z1:¬((s.size:Int)>2147483647):=by omega
 by_cases h2:s.size>2000
 · have z2:(s.size:Int)>2000:=by omega
   clear hm h2;go_enter Tryz.func3,Tryz.ntmps3;go_wp2_with fail;go_returns;exact⟨rfl,sr⟩
 have z2:¬((s.size:Int)>2000):=by omega
 have wM:Hd (s.size≤2000):=by unfold Hd;omega
 clear hm h2;have HA:=ae (BF s w (by have:=wM.o;omega));have HP:=ae (LC s w (by have:=wM.o;omega));go_enter Tryz.func3,Tryz.ntmps3;go_wp2_with fail;refine HA.o.mono ?_;rintro e wa ⟨b,rfl,hwa,hb⟩;subst hwa
 cases b with
 | false=>
  go_wp2_with fail;go_returns
  exact⟨rfl,sr⟩
 | true=>
  have Zs:=ae (hb rfl);clear hb;go_wp2_with fail;refine HP.o.mono ?_;rintro e w1 ⟨(av:Hd _),v,rfl,_,(Dy:Hd _)⟩;clear HP HA
  cases hsu:A1 s with
  | false=>
   go_wp2_with fail;go_returns
   exact⟨rfl,av.o⟩
  | true=>
   obtain⟨(HL1:Hd _),(HL2:Hd _)⟩:=Ov Dy.o hsu;clear hsu;have YN:=ae (RF.o.sm av.o (fun k hk=>by cases hk))
   cases AM:Ef s with
   | true=>
    obtain⟨y,t,hw,_⟩:=HL1.o AM;have HR:=ae (oq BL s w1 YN.o (by have:=wM.o;omega) (SJ hw));unfold qx at HR;rw[hw] at HR;clear AM hw;go_wp2_with fail;refine HR.o.mono ?_;rintro e w2 ⟨(ax:Hd _),rfl⟩;go_wp2_with fail;go_returns
    exact⟨rfl,av.o.trans ax.o⟩
   | false=>
    obtain⟨p,hw,(ZG:Hd _)⟩:=HL2.o AM;have HR:=ae (oq BL s w1 YN.o (by have:=wM.o;omega) (Jj hw));unfold qx at HR;rw[hw] at HR;clear AM hw;go_wp2_with fail;refine HR.o.mono ?_;rintro e w2 ⟨cT,pl,rfl,Rd⟩;have ax:=ae cT;obtain⟨g1,g2⟩:=Ym ZG.o Rd Zs.o;obtain⟨a,f,x,q1,q2,q3,q4⟩:=VA g1 g2;have Hz:=ae (zJ s w2 (by have:=wM.o;omega));obtain⟨b1,b2⟩:=Gt s wM.o
    have UY:a<(bA s 0 0).length:=by
     by_cases h:a<(bA s 0 0).length
     · exact h
     · rw[List.getElem?_eq_none (by omega)] at q3;cases q3
    have hx:=b2 x (List.mem_of_getElem? q3);have HX:=ae hx;have EC:=ae b1;have YJ:=ae UY;have Xn:=ae q2;have ZH:=ae q3;have HQ4:=ae q4;have HG1:=ae g1;rw[q1];clear cT Rd q1 q2 q3 q4 b1 b2 g1 g2 UY hx HR;generalize bA s 0 0=ls at *;simp only;go_wp2_with fail;refine Hz.o.mono ?_;rintro e w3 ⟨v3,rfl,ho,s9⟩;have aO:=ae s9
    obtain⟨g,cap,rfl⟩:∃g cap,v3=.slice (some ⟨g,0,none⟩) ls.length cap:=by
     have h1:=YJ.o;rcases ho.2 with⟨rfl,h0⟩|⟨g,cap,cur,rfl,_⟩
     · omega
     · exact⟨g,cap,rfl⟩
    have hc:w3.cell? ⟨g,a,none⟩=some (.string x):=by
     rw[ho.cellAt a (by have:=YJ.o;omega)];unfold kG;rw[List.getElem?_map,ZH.o]
     rfl
    have n1:((a+1:Nat):Int)≥1:=by omega
    have n2:((a+1:Nat):Int)≤(ls.length:Int):=by have:=YJ.o;omega
    have n3:(pl:Int)+1-(f:Int)≥1:=by have:=Xn.o;omega
    have n4:(pl:Int)+1-(f:Int)≤(x.size:Int)+1:=by have:=Xn.o;have:=HQ4.o;omega
    have ba:a≤2001:=by have:=YJ.o;have:=EC.o;omega
    have bp:pl≤2000:=by have:=HG1.o;have:=wM.o;omega
    have bf:f≤2000:=by have:=Xn.o;omega
    have bx:x.size≤2000:=HX.o;clear s9 ho;go_wp2_with fail;go_returns;exact⟨rfl,(av.o.trans ax.o).trans aO.o⟩
theorem Ri(s:ByteArray)(w:World)(ht:qW w):Calls Tryz.prog 4 #[.string s] w (Im w):=by
 have RF:=ae ht;clear ht;by_cases hm:s.size>2147483647
 · have z1:(s.size:Int)>2147483647:=by omega
   clear hm;go_enter Tryz.func4,Tryz.ntmps4;go_wp2_with fail;go_returns;exact⟨rfl,sr⟩
 have z1:¬((s.size:Int)>2147483647):=by omega
 by_cases h2:s.size>2000
 · have z2:(s.size:Int)>2000:=by omega
   clear hm h2;go_enter Tryz.func4,Tryz.ntmps4;go_wp2_with fail;go_returns;exact⟨rfl,sr⟩
 have z2:¬((s.size:Int)>2000):=by omega
 have wM:Hd (s.size≤2000):=by unfold Hd;omega
 clear hm h2;have HA:=ae (BF s w (by have:=wM.o;omega));have HP:=ae (El s w (by have:=wM.o;omega));go_enter Tryz.func4,Tryz.ntmps4;go_wp2_with fail;refine HA.o.mono ?_;rintro e wa ⟨b,rfl,hwa,hb⟩;subst hwa
 cases b with
 | false=>
  go_wp2_with fail;go_returns
  exact⟨rfl,sr⟩
 | true=>
  clear hb HA;go_wp2_with fail;refine HP.o.mono ?_;rintro e w1 ⟨(av:Hd _),pl,b,rfl,hb⟩;clear HP
  cases b with
  | false=>
   go_wp2_with fail;go_returns
   exact⟨rfl,av.o⟩
  | true=>obtain⟨b1,b2,b3,b4,b5,b6⟩:=hb rfl;have hw:=(Dw b1 b2 b6 b4).1 b3;have hle:=(xx b1 b2).2.2 (bL (cm s).out uO).2.wrong;rw[←b5] at hw hle;have YN:=ae (RF.o.sm av.o (fun k hk=>by cases hk));have HR:=ae (oq BL s w1 YN.o (by have:=wM.o;omega) (Jj hw));unfold qx at HR;rw[hw] at HR;have wL:=ae hle.2;clear hb b1 b2 b3 b4 b5 b6 hw hle;go_wp2_with fail;refine HR.o.mono ?_;rintro e w2 ⟨(ax:Hd _),p2,rfl,Rd⟩;have he:p2=pl:=Rd.2.1 wL.o;subst he;have Ty:=ae (Ot s p2 w2 (by have:=wM.o;omega) (by have:=wL.o;have:=wM.o;omega));clear Rd HR;generalize loc s p2=lc at *;obtain⟨l1,l2⟩:=lc;simp only;go_wp2_with fail;refine Ty.o.mono ?_;rintro e w3 ⟨rfl,rfl⟩;clear Ty;simp only;go_wp2_with fail;go_returns;exact⟨rfl,av.o.trans ax.o⟩
end Go.Proofs.YtnpjmhodfdgloaaGreatDoor
