/- Part of the proof. -/
import Derived.IntWalk
import Derived.Test.YtnpjmhodfdgloaaGreatDoorQ11
set_option linter.unusedVariables false
set_option linter.unusedSimpArgs false
namespace Go.Proofs.YtnpjmhodfdgloaaGreatDoor
set_option maxRecDepth 100000
set_option maxHeartbeats 32000000
open Go.RowKit
attribute [local go_sem ↓] Go.wp_at_zero Go.wp_at_succ
def q3:ByteArray:=⟨#[34,34,34]⟩
def q4:ByteArray:=⟨#[92,34,34,34]⟩
def aZ(s:ByteArray)(x:Lx)(k:Nat)(o:ByteArray):Lx:=
 if h:k<s.size then
  if st s k q3=true then({x with unsure:=x.unsure||!mL o}:Lx).add 19 (k+3) (iF o) else
  if st s k q4=true then aZ s {x with unsure:=true} (k+4) (o++q3) else
  if h3:(pt s k).2=0 then{x with unsure:=true,bad:=true} else
  if oy (pt s k).1=false then x.fail else
  aZ s {x with unsure:=x.unsure||!Qz (pt s k).1} (k+(pt s k).2) (o++s.extract k (k+(pt s k).2))
 else x.fail
termination_by s.size-k
decreasing_by
 · omega
 · omega
theorem bM.gI{w w':World}{xb:Nat}{s:ByteArray}{x:Lx}(h:bM w xb s x)(hs:Sm [] w w'):Below xb w w':=by obtain⟨ov,h1,h2⟩:=h;exact hs.below.mono (Nat.le_of_lt (lt_of_block h1))
def I5(w:World)(xb:Nat)(s:ByteArray)(x:Lx)(g:Nat)(v u:Value)(wr:World):Prop:=
 ∃(k:Nat) (o:ByteArray) (y:Lx),v=.string o∧u=.int .i64 (k:Int)∧bM wr xb s y∧Below xb w wr∧Hd (aZ s x (x.pos+3) ByteArray.empty=aZ s y k o)∧k≤s.size+6∧o.size≤k∧y.out=x.out∧g=s.size-k
theorem MX(xb:Nat)(s:ByteArray)(x:Lx)(w:World)(hx:bM w xb s x)(hs:s.size≤1099511627776)(hp:x.pos≤s.size)(hn:x.out.length≤1099511627776) :
 Calls Tryz.prog 53 #[.pointer (some ⟨xb,0,none⟩)] w fun e w'=>e=.returned (.tuple #[])∧bM w' xb s (aZ s x (x.pos+3) ByteArray.empty)∧Below xb w w':=by
 obtain⟨ov,h1,h2,c0,c1,c3,c4,f1,f3,f4⟩:=hx.facts;go_enter Tryz.func53,Tryz.ntmps53;go_wp2_with fail
 go_loopg [2,3,4,5,6,7] (s.size-(x.pos+3)) (fun g v u _ _ _ _ wr=>I5 w xb s x g v u wr)
 case atStart=>exact⟨x.pos+3,ByteArray.empty,x,rfl,rfl,hx,Below.refl _ _,rfl,by omega,Nat.zero_le _,rfl,rfl⟩
 case round=>
  obtain⟨k,o,y,rfl,rfl,hy,hb,hd,hk,ho,OB,rfl⟩:=hrel;clear h1 h2 c0 c1 c3 c4 f1 f3 f4 hx;obtain⟨ov,h1,h2,c0,c1,c3,c4,f1,f3,f4⟩:=hy.facts;by_cases q1:k<s.size
  · have z1:(0:Int)≤(k:Int):=by omega
    have z2:(k:Int)<(s.size:Int):=by omega
    have lD:=bu s q3 k wr hs (by omega) (by decide)
    cases qa:st s k q3 with
    | true=>
     have qa':st s k ⟨#[34,34,34]⟩=true:=qa;clear lD;have nK:=hd.out.trans (by rw[aZ,dif_pos q1,if_pos qa]);clear hd
     cases hu:y.unsure with
     | true=>
      rw[hu] at c4 nK;have hf:Hd (aZ s x (x.pos+3) ByteArray.empty=({y with unsure:=true}:Lx).add 19 (k+3) (iF o)):=nK;clear nK;have st:=ej (y:={y with unsure:=true}) hy hb 4 (.bool true) (by decide) (fun _=>rfl) rfl;go_wp2_with (first| (go_at_call 45;refine(bu s _ k wr hs ?_ ?_).mono ?_;omega;decide;rintro e w' ⟨rfl,aY⟩;rw[aY];clear aY w')|(go_at_call 90;refine(uj o _ (by omega)).mono ?_;rintro e w3 ⟨rfl,Ys⟩;have wb:=st.1.sm Ys;have uf:=st.2.trans (st.1.gI Ys))|(go_at_call 47;refine(se xb s _ 19 (k+3) (iF o) _ wb (by rw[show(Lx.out _)=x.out from OB];exact hn)).mono ?_;rintro e w' ⟨rfl,hl,mW⟩))
      go_returns
      exact⟨rfl,by rw[hf.out];exact hl,uf.trans mW⟩
     | false=>
      rw[hu] at c4 nK;have hf:Hd (aZ s x (x.pos+3) ByteArray.empty=({y with unsure:=!mL o}:Lx).add 19 (k+3) (iF o)):=nK;clear nK;go_wp2_with (first| (go_at_call 45;refine(bu s _ k wr hs ?_ ?_).mono ?_;omega;decide;rintro e w' ⟨rfl,aY⟩;rw[aY];clear aY w')|(go_at_call 89;refine(CR o _ (by omega)).mono ?_;rintro e w1 ⟨rfl,sm1⟩;have lE:=hy.sm sm1;have gP:=hb.trans (hy.gI sm1);obtain⟨ov',g1,g2,d0,d1,d3,d4,e1',YU,e4'⟩:=lE.facts;have st:=ej (y:={y with unsure:=!mL o}) lE gP 4 (.bool (!mL o)) (by decide) (fun _=>rfl) rfl)|(go_at_call 90;refine(uj o _ (by omega)).mono ?_;rintro e w3 ⟨rfl,Ys⟩;have wb:=st.1.sm Ys;have uf:=st.2.trans (st.1.gI Ys))|(go_at_call 47;refine(se xb s _ 19 (k+3) (iF o) _ wb (by rw[show(Lx.out _)=x.out from OB];exact hn)).mono ?_;rintro e w' ⟨rfl,hl,mW⟩))
      go_returns
      exact⟨rfl,by rw[hf.out];exact hl,uf.trans mW⟩
    | false=>
    have qa':st s k ⟨#[34,34,34]⟩=false:=qa;clear lD;have mr:=bu s q4 k wr hs (by omega) (by decide)
    cases qb:st s k q4 with
    | true=>
     have Xa:st s k ⟨#[92,34,34,34]⟩=true:=qb;clear mr;have iW:Hd (aZ s x (x.pos+3) ByteArray.empty=aZ s {y with unsure:=true} (k+4) (o++q3)):=hd.out.trans (by rw[aZ,dif_pos q1,if_neg (by simp[qa]),if_pos qb]);clear hd;have st:=ej (y:={y with unsure:=true}) hy hb 4 (.bool true) (by decide) (fun _=>rfl) rfl;have mE:q3.size=3:=rfl;have WW:o.size+q3.size≤maxLen:=by rw[mE];unfold maxLen;omega
     have XX:(o++q3).size≤k+4:=by rw[ByteArray.size_append,mE];omega
     have TS:∀v u,v=Value.string (o++q3)→u=Value.int .i64 ((k+4:Nat):Int)→I5 w xb s x (s.size-(k+4)) v u (wr.setCell ⟨xb,4,none⟩ (.bool true)):=
      fun v u hv hu=>⟨k+4,o++q3,_,hv,hu,st.1,st.2,iW,by omega,XX,OB,rfl⟩
     clear iW XX st;have b9:s.size-(k+4)<s.size-k:=by omega
     unfold q3 at WW TS;clear mE;go_wp2_with (first| (go_at_call 45;refine(bu s _ k wr hs ?_ ?_).mono ?_;omega;decide;rintro e w' ⟨rfl,aY⟩;rw[aY];clear aY w'))
     go_roundg (s.size-(k+4))
     case measure=>exact b9
     case rel=>exact TS _ _ rfl (by go_num)
    | false=>
    have Xa:st s k ⟨#[92,34,34,34]⟩=false:=qb;clear mr;have AM:=MD s k;have zq:=fun W=>vz s k W hs q1;have nK:=hd.out.trans (by rw[aZ,dif_pos q1,if_neg (by simp[qa]),if_neg (by simp[qb])]);obtain⟨c,n,R9⟩:∃c n,pt s k=(c,n):=⟨_,_,rfl⟩;rw[R9] at AM zq nK;dsimp only at AM zq nK;clear R9 hd;by_cases qn:n=0
    · subst qn;rw[dif_pos rfl] at nK;have hf:Hd (aZ s x (x.pos+3) ByteArray.empty={y with unsure:=true,bad:=true}):=nK;clear nK AM;have st:=ej (y:={y with unsure:=true}) hy hb 4 (.bool true) (by decide) (fun _=>rfl) rfl
      cases hu:y.unsure with
      | true=>
       rw[hu] at c4;go_wp2_with (first| (go_at_call 45;refine(bu s _ k wr hs ?_ ?_).mono ?_;omega;decide;rintro e w' ⟨rfl,aY⟩;rw[aY];clear aY w')|(go_at_call 86;refine(zq _).mono ?_;rintro e w' ⟨rfl,aY⟩;rw[aY];clear aY w')|(go_at_call 87;refine(ff c _).mono ?_;rintro e w' ⟨rfl,aY⟩;rw[aY];clear aY w')|(go_at_call 55;refine(eD xb s _ _ st.1).mono ?_;rintro e w' ⟨rfl,hl,mW⟩))
       go_returns
       exact⟨rfl,by rw[hf.out];exact hl,st.2.trans mW⟩
      | false=>
       rw[hu] at c4;go_wp2_with (first| (go_at_call 45;refine(bu s _ k wr hs ?_ ?_).mono ?_;omega;decide;rintro e w' ⟨rfl,aY⟩;rw[aY];clear aY w')|(go_at_call 86;refine(zq _).mono ?_;rintro e w' ⟨rfl,aY⟩;rw[aY];clear aY w')|(go_at_call 87;refine(ff c _).mono ?_;rintro e w' ⟨rfl,aY⟩;rw[aY];clear aY w')|(go_at_call 55;refine(eD xb s _ _ st.1).mono ?_;rintro e w' ⟨rfl,hl,mW⟩))
       go_returns;exact⟨rfl,by rw[hf.out];exact hl,st.2.trans mW⟩
    rw[dif_neg qn] at nK;have AM:=AM qn q1;obtain⟨k1,k2,k3,k4⟩:=AM;have en:((n:Int)==0)=false:=by simp;omega
    cases Y2:oy c with
    | false=>
     rw[Y2,if_pos rfl] at nK;have hf:Hd (aZ s x (x.pos+3) ByteArray.empty=y.fail):=nK;clear nK
     cases hu:y.unsure with
     | true=>
      rw[hu] at c4;have st:=ej (y:={y with unsure:=true}) hy hb 4 (.bool true) (by decide) (fun _=>rfl) rfl;go_wp2_with (first| (go_at_call 45;refine(bu s _ k wr hs ?_ ?_).mono ?_;omega;decide;rintro e w' ⟨rfl,aY⟩;rw[aY];clear aY w')|(go_at_call 86;refine(zq _).mono ?_;rintro e w' ⟨rfl,aY⟩;rw[aY];clear aY w')|(go_at_call 87;refine(ff c _).mono ?_;rintro e w' ⟨rfl,aY⟩;rw[aY];clear aY w')|(go_at_call 55;refine(eD xb s _ _ st.1).mono ?_;rintro e w' ⟨rfl,hl,mW⟩))
      go_returns;refine⟨rfl,?_,st.2.trans mW⟩
      rw[hf.out,show y.fail=Lx.fail {y with unsure:=true} by rw[←hu]];exact hl
     | false=>
      rw[hu] at c4;have st:=ej (y:={y with unsure:=false}) hy hb 4 (.bool false) (by decide) (fun _=>rfl) rfl;go_wp2_with (first| (go_at_call 45;refine(bu s _ k wr hs ?_ ?_).mono ?_;omega;decide;rintro e w' ⟨rfl,aY⟩;rw[aY];clear aY w')|(go_at_call 86;refine(zq _).mono ?_;rintro e w' ⟨rfl,aY⟩;rw[aY];clear aY w')|(go_at_call 87;refine(ff c _).mono ?_;rintro e w' ⟨rfl,aY⟩;rw[aY];clear aY w')|(go_at_call 55;refine(eD xb s _ _ st.1).mono ?_;rintro e w' ⟨rfl,hl,mW⟩))
      go_returns;refine⟨rfl,?_,st.2.trans mW⟩
      rw[hf.out,show y.fail=Lx.fail {y with unsure:=false} by rw[←hu]];exact hl
    | true=>
     rw[Y2,if_neg (by simp)] at nK;have iW:Hd (aZ s x (x.pos+3) ByteArray.empty=aZ s {y with unsure:=y.unsure||!Qz c} (k+n) (o++s.extract k (k+n))):=nK
     clear nK;have om:(s.extract k (k+n)).size=n:=by rw[ByteArray.size_extract];omega
     have WW:o.size+(s.extract k (k+n)).size≤maxLen:=by unfold maxLen;omega
     have Z0p:o.size+n≤maxLen:=by unfold maxLen;omega
     have z4:(k:Int)≤(k:Int)+(n:Int):=by omega
     have z5:(k:Int)+(n:Int)≤(s.size:Int):=by omega
     cases hu:y.unsure with
     | true=>
      rw[hu] at c4 iW;have st:=ej (y:={y with unsure:=true}) hy hb 4 (.bool true) (by decide) (fun _=>rfl) rfl;go_wp2_with (first| (go_at_call 45;refine(bu s _ k wr hs ?_ ?_).mono ?_;omega;decide;rintro e w' ⟨rfl,aY⟩;rw[aY];clear aY w')|(go_at_call 86;refine(zq _).mono ?_;rintro e w' ⟨rfl,aY⟩;rw[aY];clear aY w')|(go_at_call 87;refine(ff c _).mono ?_;rintro e w' ⟨rfl,aY⟩;rw[aY];clear aY w'))
      go_roundg (s.size-(k+n))
      case measure=>omega
      case rel=>exact⟨k+n,_,_,rfl,by go_num,st.1,st.2,iW,by omega,by rw[ByteArray.size_append];omega,OB,rfl⟩
     | false=>
      rw[hu] at c4 iW
      cases Rf:Qz c with
      | true=>
       rw[Rf] at iW;have st:=ej (y:={y with unsure:=false}) hy hb 4 (.bool false) (by decide) (fun _=>rfl) rfl;go_wp2_with (first| (go_at_call 45;refine(bu s _ k wr hs ?_ ?_).mono ?_;omega;decide;rintro e w' ⟨rfl,aY⟩;rw[aY];clear aY w')|(go_at_call 86;refine(zq _).mono ?_;rintro e w' ⟨rfl,aY⟩;rw[aY];clear aY w')|(go_at_call 87;refine(ff c _).mono ?_;rintro e w' ⟨rfl,aY⟩;rw[aY];clear aY w'))
       go_roundg (s.size-(k+n))
       case measure=>omega
       case rel=>exact⟨k+n,_,_,rfl,by go_num,st.1,st.2,iW,by omega,by rw[ByteArray.size_append];omega,OB,rfl⟩
      | false=>
       rw[Rf] at iW;have st:=ej (y:={y with unsure:=true}) hy hb 4 (.bool true) (by decide) (fun _=>rfl) rfl;go_wp2_with (first| (go_at_call 45;refine(bu s _ k wr hs ?_ ?_).mono ?_;omega;decide;rintro e w' ⟨rfl,aY⟩;rw[aY];clear aY w')|(go_at_call 86;refine(zq _).mono ?_;rintro e w' ⟨rfl,aY⟩;rw[aY];clear aY w')|(go_at_call 87;refine(ff c _).mono ?_;rintro e w' ⟨rfl,aY⟩;rw[aY];clear aY w'))
       go_roundg (s.size-(k+n))
       case measure=>omega
       case rel=>exact⟨k+n,_,_,rfl,by go_num,st.1,st.2,iW,by omega,by rw[ByteArray.size_append];omega,OB,rfl⟩
  · have hf:Hd (aZ s x (x.pos+3) ByteArray.empty=y.fail):=hd.out.trans (by rw[aZ,dif_neg q1]);have z2:¬((k:Int)<(s.size:Int)):=by omega
    have st:=And.intro hy hb;go_wp2_with ((go_at_call 55;refine(eD xb s _ _ st.1).mono ?_;rintro e w' ⟨rfl,hl,mW⟩));go_returns;exact⟨rfl,by rw[hf.out];exact hl,hb.trans mW⟩
def bU(s:ByteArray)(x:Lx):Lx:=
 let c:=nx s x.pos
 if c=32∨c=9∨c=10∨c=13∨c=44 then{x with pos:=x.pos+1} else
 if st s x.pos ⟨#[239,187,191]⟩=true then{x with pos:=x.pos+3,unsure:=true} else
 if c=35 then dW s x else
 if st s x.pos ⟨#[46,46,46]⟩=true then x.add 6 (x.pos+3) ByteArray.empty else
 if 0<wC c then x.add (wC c) (x.pos+1) ByteArray.empty else
 if gN c=true then x.add 15 (cw s x.pos) (s.extract x.pos (cw s x.pos)) else
 if c=45∨eC c=true then gg s x else
 if st s x.pos q3=true then aZ s x (x.pos+3) ByteArray.empty else
 if c=34 then aR s x (x.pos+1) ByteArray.empty else x.fail
def oC(s:ByteArray):Nat→Lx→Lx
 | 0,x=>x
 | n+1,x=>if x.bad=false∧x.pos<s.size then oC s n (bU s x) else x
theorem bM.low{w:World}{xb:Nat}{s:ByteArray}{x:Lx}(h:bM w xb s x):xb<w.heap.size:=by obtain⟨ov,h1,h2⟩:=h;exact lt_of_block h1
theorem Og(xb:Nat)(s:ByteArray)(x:Lx)(w:World)(hx:bM w xb s x)(hs:s.size≤1099511627776)(hp:x.pos<s.size)(hn:x.out.length≤1099511627776)(hc:nx s x.pos=32) :
 Calls Tryz.prog 22 #[.pointer (some ⟨xb,0,none⟩)] w fun e w'=>e=.returned (.tuple #[])∧bM w' xb s ({x with pos:=x.pos+1})∧Below xb w w':=by
 obtain⟨ov,h1,h2,c0,c1,c3,c4,f1,f3,f4⟩:=hx.facts;have z1:(0:Int)≤(x.pos:Int):=by omega
 have z2:(x.pos:Int)<(s.size:Int):=by omega
 have z3:s[x.pos].toNat=nx s x.pos:=fi hp;go_enter Tryz.func22,Tryz.ntmps22;go_upto_region 0 with fail
 go_quiet (fail);have lE:bM (w.drewN nq) xb s x:=hx.drewN _;have gP:=below_drewN (Below.refl xb w) nq;clear h1 h2 c0 c1 c3 c4 f1 f3 f4 hx;generalize w.drewN nq=w1 at *;obtain⟨ov,h1,h2,c0,c1,c3,c4,f1,f3,f4⟩:=lE.facts;go_wp2_with fail;go_returns;exact⟨rfl,ej (y:={x with pos:=x.pos+1}) lE gP 1 (.int .i64 ((x.pos:Int)+1)) (by decide) (fun _=>rfl) rfl⟩
theorem QK(xb:Nat)(s:ByteArray)(x:Lx)(w:World)(hx:bM w xb s x)(hs:s.size≤1099511627776)(hp:x.pos<s.size)(hn:x.out.length≤1099511627776)(hc:nx s x.pos=9) :
 Calls Tryz.prog 22 #[.pointer (some ⟨xb,0,none⟩)] w fun e w'=>e=.returned (.tuple #[])∧bM w' xb s ({x with pos:=x.pos+1})∧Below xb w w':=by
 obtain⟨ov,h1,h2,c0,c1,c3,c4,f1,f3,f4⟩:=hx.facts;have z1:(0:Int)≤(x.pos:Int):=by omega
 have z2:(x.pos:Int)<(s.size:Int):=by omega
 have z3:s[x.pos].toNat=nx s x.pos:=fi hp;go_enter Tryz.func22,Tryz.ntmps22;go_upto_region 0 with fail
 go_quiet (fail);have lE:bM (w.drewN nq) xb s x:=hx.drewN _;have gP:=below_drewN (Below.refl xb w) nq;clear h1 h2 c0 c1 c3 c4 f1 f3 f4 hx;generalize w.drewN nq=w1 at *;obtain⟨ov,h1,h2,c0,c1,c3,c4,f1,f3,f4⟩:=lE.facts;go_wp2_with fail;go_returns;exact⟨rfl,ej (y:={x with pos:=x.pos+1}) lE gP 1 (.int .i64 ((x.pos:Int)+1)) (by decide) (fun _=>rfl) rfl⟩
theorem Oe(xb:Nat)(s:ByteArray)(x:Lx)(w:World)(hx:bM w xb s x)(hs:s.size≤1099511627776)(hp:x.pos<s.size)(hn:x.out.length≤1099511627776)(hc:nx s x.pos=10) :
 Calls Tryz.prog 22 #[.pointer (some ⟨xb,0,none⟩)] w fun e w'=>e=.returned (.tuple #[])∧bM w' xb s ({x with pos:=x.pos+1})∧Below xb w w':=by
 obtain⟨ov,h1,h2,c0,c1,c3,c4,f1,f3,f4⟩:=hx.facts;have z1:(0:Int)≤(x.pos:Int):=by omega
 have z2:(x.pos:Int)<(s.size:Int):=by omega
 have z3:s[x.pos].toNat=nx s x.pos:=fi hp;go_enter Tryz.func22,Tryz.ntmps22;go_upto_region 0 with fail
 go_quiet (fail);have lE:bM (w.drewN nq) xb s x:=hx.drewN _;have gP:=below_drewN (Below.refl xb w) nq;clear h1 h2 c0 c1 c3 c4 f1 f3 f4 hx;generalize w.drewN nq=w1 at *;obtain⟨ov,h1,h2,c0,c1,c3,c4,f1,f3,f4⟩:=lE.facts;go_wp2_with fail;go_returns;exact⟨rfl,ej (y:={x with pos:=x.pos+1}) lE gP 1 (.int .i64 ((x.pos:Int)+1)) (by decide) (fun _=>rfl) rfl⟩
theorem Of(xb:Nat)(s:ByteArray)(x:Lx)(w:World)(hx:bM w xb s x)(hs:s.size≤1099511627776)(hp:x.pos<s.size)(hn:x.out.length≤1099511627776)(hc:nx s x.pos=13) :
 Calls Tryz.prog 22 #[.pointer (some ⟨xb,0,none⟩)] w fun e w'=>e=.returned (.tuple #[])∧bM w' xb s ({x with pos:=x.pos+1})∧Below xb w w':=by
 obtain⟨ov,h1,h2,c0,c1,c3,c4,f1,f3,f4⟩:=hx.facts;have z1:(0:Int)≤(x.pos:Int):=by omega
 have z2:(x.pos:Int)<(s.size:Int):=by omega
 have z3:s[x.pos].toNat=nx s x.pos:=fi hp;go_enter Tryz.func22,Tryz.ntmps22;go_upto_region 0 with fail
 go_quiet (fail);have lE:bM (w.drewN nq) xb s x:=hx.drewN _;have gP:=below_drewN (Below.refl xb w) nq;clear h1 h2 c0 c1 c3 c4 f1 f3 f4 hx;generalize w.drewN nq=w1 at *;obtain⟨ov,h1,h2,c0,c1,c3,c4,f1,f3,f4⟩:=lE.facts;go_wp2_with fail;go_returns;exact⟨rfl,ej (y:={x with pos:=x.pos+1}) lE gP 1 (.int .i64 ((x.pos:Int)+1)) (by decide) (fun _=>rfl) rfl⟩
theorem Oh(xb:Nat)(s:ByteArray)(x:Lx)(w:World)(hx:bM w xb s x)(hs:s.size≤1099511627776)(hp:x.pos<s.size)(hn:x.out.length≤1099511627776)(hc:nx s x.pos=44) :
 Calls Tryz.prog 22 #[.pointer (some ⟨xb,0,none⟩)] w fun e w'=>e=.returned (.tuple #[])∧bM w' xb s ({x with pos:=x.pos+1})∧Below xb w w':=by
 obtain⟨ov,h1,h2,c0,c1,c3,c4,f1,f3,f4⟩:=hx.facts;have z1:(0:Int)≤(x.pos:Int):=by omega
 have z2:(x.pos:Int)<(s.size:Int):=by omega
 have z3:s[x.pos].toNat=nx s x.pos:=fi hp;go_enter Tryz.func22,Tryz.ntmps22;go_upto_region 0 with fail
 go_quiet (fail);have lE:bM (w.drewN nq) xb s x:=hx.drewN _;have gP:=below_drewN (Below.refl xb w) nq;clear h1 h2 c0 c1 c3 c4 f1 f3 f4 hx;generalize w.drewN nq=w1 at *;obtain⟨ov,h1,h2,c0,c1,c3,c4,f1,f3,f4⟩:=lE.facts;go_wp2_with fail;go_returns;exact⟨rfl,ej (y:={x with pos:=x.pos+1}) lE gP 1 (.int .i64 ((x.pos:Int)+1)) (by decide) (fun _=>rfl) rfl⟩
theorem Oi(xb:Nat)(s:ByteArray)(x:Lx)(w:World)(hx:bM w xb s x)(hs:s.size≤1099511627776)(hp:x.pos<s.size)(hn:x.out.length≤1099511627776)(hb:¬(nx s x.pos=32∨nx s x.pos=9∨nx s x.pos=10∨nx s x.pos=13∨nx s x.pos=44))(hq:st s x.pos ⟨#[239,187,191]⟩=true) :
 Calls Tryz.prog 22 #[.pointer (some ⟨xb,0,none⟩)] w fun e w'=>e=.returned (.tuple #[])∧bM w' xb s ({x with pos:=x.pos+3,unsure:=true})∧Below xb w w':=by
 have n32:((nx s x.pos:Int)==32)=false:=by simp;omega
 have n9:((nx s x.pos:Int)==9)=false:=by simp;omega
 have n10:((nx s x.pos:Int)==10)=false:=by simp;omega
 have n13:((nx s x.pos:Int)==13)=false:=by simp;omega
 have n44:((nx s x.pos:Int)==44)=false:=by simp;omega
 clear hb;obtain⟨ov,h1,h2,c0,c1,c3,c4,f1,f3,f4⟩:=hx.facts;have z1:(0:Int)≤(x.pos:Int):=by omega
 have z2:(x.pos:Int)<(s.size:Int):=by omega
 have z3:s[x.pos].toNat=nx s x.pos:=fi hp;go_enter Tryz.func22,Tryz.ntmps22;go_upto_region 0 with fail
 go_quiet (fail);have lE:bM (w.drewN nq) xb s x:=hx.drewN _;have gP:=below_drewN (Below.refl xb w) nq;clear h1 h2 c0 c1 c3 c4 f1 f3 f4 hx;generalize w.drewN nq=w1 at *;obtain⟨ov,h1,h2,c0,c1,c3,c4,f1,f3,f4⟩:=lE.facts;go_upto_region 4 with fail
 have lD:=fun W=>bu s ⟨#[239,187,191]⟩ x.pos W hs (by omega) (by decide);rw[hq] at lD;go_quiet ((go_at_call 45;exact Calls.quiet_of_same (lD _)));have oM:bM (w1.drewN nq) xb s x:=lE.drewN _;have kh:=below_drewN gP nq;clear h1 h2 c0 c1 c3 c4 f1 f3 f4 lE gP;generalize w1.drewN nq=w2 at *;obtain⟨ov,h1,h2,c0,c1,c3,c4,f1,f3,f4⟩:=oM.facts;go_wp2_with fail;go_returns;have a1:=ej (y:={x with unsure:=true}) oM kh 4 (.bool true) (by decide) (fun _=>rfl) rfl;exact⟨rfl,ej (y:={x with pos:=x.pos+3,unsure:=true}) a1.1 a1.2 1 (.int .i64 ((x.pos:Int)+3)) (by decide) (fun _=>rfl) rfl⟩
theorem EA(xb:Nat)(s:ByteArray)(x:Lx)(w:World)(hx:bM w xb s x)(hs:s.size≤1099511627776)(hp:x.pos<s.size)(hn:x.out.length≤1099511627776)(hb:¬(nx s x.pos=32∨nx s x.pos=9∨nx s x.pos=10∨nx s x.pos=13∨nx s x.pos=44))(hq:st s x.pos ⟨#[239,187,191]⟩=false)(hc:nx s x.pos=35) :
 Calls Tryz.prog 22 #[.pointer (some ⟨xb,0,none⟩)] w fun e w'=>e=.returned (.tuple #[])∧bM w' xb s (dW s x)∧Below xb w w':=by
 have n32:((nx s x.pos:Int)==32)=false:=by simp;omega
 have n9:((nx s x.pos:Int)==9)=false:=by simp;omega
 have n10:((nx s x.pos:Int)==10)=false:=by simp;omega
 have n13:((nx s x.pos:Int)==13)=false:=by simp;omega
 have n44:((nx s x.pos:Int)==44)=false:=by simp;omega
 clear hb;obtain⟨ov,h1,h2,c0,c1,c3,c4,f1,f3,f4⟩:=hx.facts;have z1:(0:Int)≤(x.pos:Int):=by omega
 have z2:(x.pos:Int)<(s.size:Int):=by omega
 have z3:s[x.pos].toNat=nx s x.pos:=fi hp;go_enter Tryz.func22,Tryz.ntmps22;go_upto_region 0 with fail
 go_quiet (fail);have lE:bM (w.drewN nq) xb s x:=hx.drewN _;have gP:=below_drewN (Below.refl xb w) nq;clear h1 h2 c0 c1 c3 c4 f1 f3 f4 hx;generalize w.drewN nq=w1 at *;obtain⟨ov,h1,h2,c0,c1,c3,c4,f1,f3,f4⟩:=lE.facts;go_upto_region 4 with fail
 have lD:=fun W=>bu s ⟨#[239,187,191]⟩ x.pos W hs (by omega) (by decide);rw[hq] at lD;go_quiet ((go_at_call 45;exact Calls.quiet_of_same (lD _)));have oM:bM (w1.drewN nq) xb s x:=lE.drewN _;have kh:=below_drewN gP nq;clear h1 h2 c0 c1 c3 c4 f1 f3 f4 lE gP;generalize w1.drewN nq=w2 at *;obtain⟨ov,h1,h2,c0,c1,c3,c4,f1,f3,f4⟩:=oM.facts;go_wp2_with (go_at_call 46;refine(IA xb s x w2 oM hs (by omega)).mono ?_;rintro e w' ⟨rfl,hl,mW⟩);go_returns;exact⟨rfl,hl,kh.trans mW⟩
theorem Hs(xb:Nat)(s:ByteArray)(x:Lx)(w:World)(hx:bM w xb s x)(hs:s.size≤1099511627776)(hp:x.pos<s.size)(hn:x.out.length≤1099511627776)(hb:¬(nx s x.pos=32∨nx s x.pos=9∨nx s x.pos=10∨nx s x.pos=13∨nx s x.pos=44))(hq:st s x.pos ⟨#[239,187,191]⟩=false)(Ga:nx s x.pos≠35)(js:st s x.pos ⟨#[46,46,46]⟩=true) :
 Calls Tryz.prog 22 #[.pointer (some ⟨xb,0,none⟩)] w fun e w'=>e=.returned (.tuple #[])∧bM w' xb s (x.add 6 (x.pos+3) ByteArray.empty)∧Below xb w w':=by
 have n32:((nx s x.pos:Int)==32)=false:=by simp;omega
 have n9:((nx s x.pos:Int)==9)=false:=by simp;omega
 have n10:((nx s x.pos:Int)==10)=false:=by simp;omega
 have n13:((nx s x.pos:Int)==13)=false:=by simp;omega
 have n44:((nx s x.pos:Int)==44)=false:=by simp;omega
 have n35:((nx s x.pos:Int)==35)=false:=by simp;omega
 clear hb;obtain⟨ov,h1,h2,c0,c1,c3,c4,f1,f3,f4⟩:=hx.facts;have z1:(0:Int)≤(x.pos:Int):=by omega
 have z2:(x.pos:Int)<(s.size:Int):=by omega
 have z3:s[x.pos].toNat=nx s x.pos:=fi hp;go_enter Tryz.func22,Tryz.ntmps22;go_upto_region 0 with fail
 go_quiet (fail);have lE:bM (w.drewN nq) xb s x:=hx.drewN _;have gP:=below_drewN (Below.refl xb w) nq;clear h1 h2 c0 c1 c3 c4 f1 f3 f4 hx;generalize w.drewN nq=w1 at *;obtain⟨ov,h1,h2,c0,c1,c3,c4,f1,f3,f4⟩:=lE.facts;go_upto_region 4 with fail
 have lD:=fun W=>bu s ⟨#[239,187,191]⟩ x.pos W hs (by omega) (by decide);rw[hq] at lD;go_quiet ((go_at_call 45;exact Calls.quiet_of_same (lD _)));have oM:bM (w1.drewN nq) xb s x:=lE.drewN _;have kh:=below_drewN gP nq;clear h1 h2 c0 c1 c3 c4 f1 f3 f4 lE gP;generalize w1.drewN nq=w2 at *;obtain⟨ov,h1,h2,c0,c1,c3,c4,f1,f3,f4⟩:=oM.facts;go_upto_region 9 with fail
 have mr:=fun W=>bu s ⟨#[46,46,46]⟩ x.pos W hs (by omega) (by decide);rw[js] at mr;go_quiet ((go_at_call 45;exact Calls.quiet_of_same (mr _)));have wb:bM (w2.drewN nq) xb s x:=oM.drewN _;have uf:=below_drewN kh nq;clear h1 h2 c0 c1 c3 c4 f1 f3 f4 oM kh;generalize w2.drewN nq=w3 at *;obtain⟨ov,h1,h2,c0,c1,c3,c4,f1,f3,f4⟩:=wb.facts;go_wp2_with (go_at_call 47;refine(se xb s x 6 (x.pos+3) ByteArray.empty w3 wb hn).mono ?_;rintro e w' ⟨rfl,hl,mW⟩);go_returns;exact⟨rfl,hl,uf.trans mW⟩
theorem sign_zero(c:Nat)(hc:c<256)(h:wC c=0)(w:World):Calls Tryz.prog 48 #[.int .u8 (c:Int)] w fun e w'=>e=.returned (.int .i64 0)∧w'=w:=by have:=Jx c hc w;rw[h] at this;exact this
theorem jt(c:Nat)(b:Bool)(hc:c<256)(h:gN c=b)(w:World):Calls Tryz.prog 49 #[.int .u8 (c:Int)] w fun e w'=>e=.returned (.bool b)∧w'=w:=by have:=uC c hc w;rw[h] at this;exact this
theorem nr(c:Nat)(b:Bool)(hc:c<256)(h:eC c=b)(w:World):Calls Tryz.prog 51 #[.int .u8 (c:Int)] w fun e w'=>e=.returned (.bool b)∧w'=w:=by have:=uD c hc w;rw[h] at this;exact this
theorem Lq:∀c,c<256→0≤wC c:=by decide +kernel
theorem LK(xb:Nat)(s:ByteArray)(x:Lx)(w:World)(hx:bM w xb s x)(hs:s.size≤1099511627776)(hp:x.pos<s.size)(hn:x.out.length≤1099511627776)(hb:¬(nx s x.pos=32∨nx s x.pos=9∨nx s x.pos=10∨nx s x.pos=13∨nx s x.pos=44))(hq:st s x.pos ⟨#[239,187,191]⟩=false)(Ga:nx s x.pos≠35)(js:st s x.pos ⟨#[46,46,46]⟩=false)(cJ:0<wC (nx s x.pos)) :
 Calls Tryz.prog 22 #[.pointer (some ⟨xb,0,none⟩)] w fun e w'=>e=.returned (.tuple #[])∧bM w' xb s (x.add (wC (nx s x.pos)) (x.pos+1) ByteArray.empty)∧Below xb w w':=by
 have n32:((nx s x.pos:Int)==32)=false:=by simp;omega
 have n9:((nx s x.pos:Int)==9)=false:=by simp;omega
 have n10:((nx s x.pos:Int)==10)=false:=by simp;omega
 have n13:((nx s x.pos:Int)==13)=false:=by simp;omega
 have n44:((nx s x.pos:Int)==44)=false:=by simp;omega
 have n35:((nx s x.pos:Int)==35)=false:=by simp;omega
 clear hb;obtain⟨ov,h1,h2,c0,c1,c3,c4,f1,f3,f4⟩:=hx.facts;have z1:(0:Int)≤(x.pos:Int):=by omega
 have z2:(x.pos:Int)<(s.size:Int):=by omega
 have z3:s[x.pos].toNat=nx s x.pos:=fi hp;go_enter Tryz.func22,Tryz.ntmps22;go_upto_region 0 with fail
 go_quiet (fail);have lE:bM (w.drewN nq) xb s x:=hx.drewN _;have gP:=below_drewN (Below.refl xb w) nq;clear h1 h2 c0 c1 c3 c4 f1 f3 f4 hx;generalize w.drewN nq=w1 at *;obtain⟨ov,h1,h2,c0,c1,c3,c4,f1,f3,f4⟩:=lE.facts;go_upto_region 4 with fail
 have lD:=fun W=>bu s ⟨#[239,187,191]⟩ x.pos W hs (by omega) (by decide);rw[hq] at lD;go_quiet ((go_at_call 45;exact Calls.quiet_of_same (lD _)));have oM:bM (w1.drewN nq) xb s x:=lE.drewN _;have kh:=below_drewN gP nq;clear h1 h2 c0 c1 c3 c4 f1 f3 f4 lE gP;generalize w1.drewN nq=w2 at *;obtain⟨ov,h1,h2,c0,c1,c3,c4,f1,f3,f4⟩:=oM.facts;go_upto_region 9 with fail
 have mr:=fun W=>bu s ⟨#[46,46,46]⟩ x.pos W hs (by omega) (by decide);rw[js] at mr;go_quiet ((go_at_call 45;exact Calls.quiet_of_same (mr _)));have wb:bM (w2.drewN nq) xb s x:=oM.drewN _;have uf:=below_drewN kh nq;clear h1 h2 c0 c1 c3 c4 f1 f3 f4 oM kh;generalize w2.drewN nq=w3 at *;obtain⟨ov,h1,h2,c0,c1,c3,c4,f1,f3,f4⟩:=wb.facts;obtain⟨q,HQ⟩:∃q,Hd (wC (nx s x.pos)=q):=⟨_,rfl⟩;have Re:=fun W=>Jx (nx s x.pos) (fb _ _) W;rw[HQ.o] at Re cJ;go_upto_region 12 with(go_at_call 48;(with_reducible refine(Re _).mono ?_);rintro e w' ⟨rfl,aY⟩;rw[aY];clear aY w')
 have ZX:Hd (∀W,bM W xb s x→Calls Tryz.prog 47 #[.pointer (some ⟨xb,0,none⟩),.int .i64 q,.int .i64 ((x.pos:Int)+1),.string ⟨#[]⟩] W fun e w'=>e=.returned (.tuple #[])∧bM w' xb s (x.add q (x.pos+1) ByteArray.empty)∧Below xb W w'):=fun W h=>se xb s x q (x.pos+1) ByteArray.empty W h hn;have hw:IntKind.i64.wrap ((x.pos:Int)+1)=(x.pos:Int)+1:=IntWalk.i64_in _ (by omega);clear h1 h2 f1 f3 f4 n32 n9 n10 n13 n44 n35 lD mr hq js z3 c0 c3 c4
 go_region_law (first| (go_simp;go_at_call 48;(with_reducible refine(Re _).mono ?_);rintro e w' ⟨rfl,aY⟩;rw[aY];clear aY w')|(go_simp;go_at_call 47;refine(ZX.out _ (bM.drew wb)).mono ?_;rintro e w' ⟨rfl,hl,mW⟩))
 all_goals (go_wp2;go_end0;exact⟨rfl,by rw[HQ.o];exact hl,uf.trans ((Below.refl xb w3).drew.trans mW)⟩)
def Xw(s:ByteArray)(p:Nat)(v:Value):Prop:=∃k:Nat,p≤k∧k≤s.size∧v=.int .i64 k∧Hd (cw s p=cw s k)
theorem lV{s:ByteArray}{k:Nat}(h:(gN (nx s k)||eC (nx s k))=true):cw s k=cw s (k+1):=by rw[cw,dif_pos h]
theorem ny{s:ByteArray}{k:Nat}(h:(gN (nx s k)||eC (nx s k))=false):cw s k=k:=by rw[cw,dif_neg (by simp[h])]
theorem LJ(xb:Nat)(s:ByteArray)(x:Lx)(w:World)(hx:bM w xb s x)(hs:s.size≤1099511627776)(hp:x.pos<s.size)(hn:x.out.length≤1099511627776)(hb:¬(nx s x.pos=32∨nx s x.pos=9∨nx s x.pos=10∨nx s x.pos=13∨nx s x.pos=44))(hq:st s x.pos ⟨#[239,187,191]⟩=false)(Ga:nx s x.pos≠35)(js:st s x.pos ⟨#[46,46,46]⟩=false)(xr:wC (nx s x.pos)=0)(E4:gN (nx s x.pos)=true) :
 Calls Tryz.prog 22 #[.pointer (some ⟨xb,0,none⟩)] w fun e w'=>e=.returned (.tuple #[])∧bM w' xb s (x.add 15 (cw s x.pos) (s.extract x.pos (cw s x.pos)))∧Below xb w w':=by
 have n32:((nx s x.pos:Int)==32)=false:=by simp;omega
 have n9:((nx s x.pos:Int)==9)=false:=by simp;omega
 have n10:((nx s x.pos:Int)==10)=false:=by simp;omega
 have n13:((nx s x.pos:Int)==13)=false:=by simp;omega
 have n44:((nx s x.pos:Int)==44)=false:=by simp;omega
 have n35:((nx s x.pos:Int)==35)=false:=by simp;omega
 clear hb;obtain⟨ov,h1,h2,c0,c1,c3,c4,f1,f3,f4⟩:=hx.facts;have z1:(0:Int)≤(x.pos:Int):=by omega
 have z2:(x.pos:Int)<(s.size:Int):=by omega
 have z3:s[x.pos].toNat=nx s x.pos:=fi hp;go_enter Tryz.func22,Tryz.ntmps22;go_upto_region 0 with fail
 go_quiet (fail);have lE:bM (w.drewN nq) xb s x:=hx.drewN _;have gP:=below_drewN (Below.refl xb w) nq;clear h1 h2 c0 c1 c3 c4 f1 f3 f4 hx;generalize w.drewN nq=w1 at *;obtain⟨ov,h1,h2,c0,c1,c3,c4,f1,f3,f4⟩:=lE.facts;go_upto_region 4 with fail
 have lD:=fun W=>bu s ⟨#[239,187,191]⟩ x.pos W hs (by omega) (by decide);rw[hq] at lD;go_quiet ((go_at_call 45;exact Calls.quiet_of_same (lD _)));have oM:bM (w1.drewN nq) xb s x:=lE.drewN _;have kh:=below_drewN gP nq;clear h1 h2 c0 c1 c3 c4 f1 f3 f4 lE gP;generalize w1.drewN nq=w2 at *;obtain⟨ov,h1,h2,c0,c1,c3,c4,f1,f3,f4⟩:=oM.facts;go_upto_region 9 with fail
 have mr:=fun W=>bu s ⟨#[46,46,46]⟩ x.pos W hs (by omega) (by decide);rw[js] at mr;go_quiet ((go_at_call 45;exact Calls.quiet_of_same (mr _)));have wb:bM (w2.drewN nq) xb s x:=oM.drewN _;have uf:=below_drewN kh nq;clear h1 h2 c0 c1 c3 c4 f1 f3 f4 oM kh;generalize w2.drewN nq=w3 at *;obtain⟨ov,h1,h2,c0,c1,c3,c4,f1,f3,f4⟩:=wb.facts;have Z01:Hd (gN (nx s x.pos)=true):=E4;have Z0x:Hd (wC (nx s x.pos)=0):=xr;clear E4 xr hq js;go_wp2_with (first| (go_at_call 48;refine(sign_zero (nx s x.pos) (fb _ _) Z0x.out _).mono ?_;rintro e w' ⟨rfl,aY⟩;rw[aY];clear aY w')|(go_at_call 49;refine(jt (nx s x.pos) true (fb _ _) Z01.out _).mono ?_;rintro e w' ⟨rfl,aY⟩;rw[aY];clear aY w'))
 go_loop [3] (fun v=>Xw s x.pos v) (fun v=>s.size+1-(intOf v).toNat)
 case atStart=>exact⟨x.pos,lr,by omega,rfl,rfl⟩
 case round=>
  obtain⟨k,hk,ri,rfl,hd⟩:=hrel;have hc:=fb s k
  cases qb:gN (nx s k) with
  | true=>
   have Xa:Hd (gN (nx s k)=true):=qb;have b9:k<s.size:=sO (by unfold gN at qb;simp at qb;omega);have eL:Hd (cw s x.pos=cw s (k+1)):=hd.out.trans (lV (by simp[qb]));clear qb hd;go_wp2_with (first| (go_at_call 50;refine(jM xb s k _ c0 (by omega)).mono ?_;rintro e w' ⟨rfl,aY⟩;rw[aY];clear aY w')|(go_at_call 49;refine(jt (nx s k) true hc Xa.out _).mono ?_;rintro e w' ⟨rfl,aY⟩;rw[aY];clear aY w'))
   go_round
   case rel=>exact⟨k+1,by omega,by omega,by go_num,eL⟩
   case measure=>simp[intOf];omega
  | false=>
   have Xa:Hd (gN (nx s k)=false):=qb
   cases qd:eC (nx s k) with
   | true=>
    have qd':Hd (eC (nx s k)=true):=qd;have b9:k<s.size:=sO (by unfold eC at qd;simp at qd;omega);have eL:Hd (cw s x.pos=cw s (k+1)):=hd.out.trans (lV (by simp[qd]));clear qb qd hd;go_wp2_with (first| (go_at_call 50;refine(jM xb s k _ c0 (by omega)).mono ?_;rintro e w' ⟨rfl,aY⟩;rw[aY];clear aY w')|(go_at_call 49;refine(jt (nx s k) false hc Xa.out _).mono ?_;rintro e w' ⟨rfl,aY⟩;rw[aY];clear aY w')|(go_at_call 51;refine(nr (nx s k) true hc qd'.out _).mono ?_;rintro e w' ⟨rfl,aY⟩;rw[aY];clear aY w'))
    go_round
    case rel=>exact⟨k+1,by omega,by omega,by go_num,eL⟩
    case measure=>simp[intOf];omega
   | false=>
    have qd':Hd (eC (nx s k)=false):=qd;have eL:Hd (cw s x.pos=k):=hd.out.trans (ny (by simp[qb,qd]));clear qb qd hd;have y2:(x.pos:Int)≤(k:Int):=by omega
    have y3:(k:Int)≤(s.size:Int):=by omega
    go_upto_region 17 with(first| (go_at_call 50;refine(jM xb s k _ c0 (by omega)).mono ?_;rintro e w' ⟨rfl,aY⟩;rw[aY];clear aY w')|(go_at_call 49;refine(jt (nx s k) false hc Xa.out _).mono ?_;rintro e w' ⟨rfl,aY⟩;rw[aY];clear aY w')|(go_at_call 51;refine(nr (nx s k) false hc qd'.out _).mono ?_;rintro e w' ⟨rfl,aY⟩;rw[aY];clear aY w'))
    go_region_law (go_simp;go_at_call 47;refine(se xb s x 15 k (s.extract x.pos k) _ (bM.drew wb) hn).mono ?_;rintro e w' ⟨rfl,hl,mW⟩)
    all_goals (go_wp2;go_end0;exact⟨rfl,by rw[eL.out];exact hl,uf.trans ((Below.refl xb w3).drew.trans mW)⟩)
theorem JQ(xb:Nat)(s:ByteArray)(x:Lx)(w:World)(hx:bM w xb s x)(hs:s.size≤1099511627776)(hp:x.pos<s.size)(hn:x.out.length≤1099511627776)(hb:¬(nx s x.pos=32∨nx s x.pos=9∨nx s x.pos=10∨nx s x.pos=13∨nx s x.pos=44))(hq:st s x.pos ⟨#[239,187,191]⟩=false)(Ga:nx s x.pos≠35)(js:st s x.pos ⟨#[46,46,46]⟩=false)(xr:wC (nx s x.pos)=0)(E4:gN (nx s x.pos)=false)(hc:nx s x.pos=45) :
 Calls Tryz.prog 22 #[.pointer (some ⟨xb,0,none⟩)] w fun e w'=>e=.returned (.tuple #[])∧bM w' xb s (gg s x)∧Below xb w w':=by
 have n32:((nx s x.pos:Int)==32)=false:=by simp;omega
 have n9:((nx s x.pos:Int)==9)=false:=by simp;omega
 have n10:((nx s x.pos:Int)==10)=false:=by simp;omega
 have n13:((nx s x.pos:Int)==13)=false:=by simp;omega
 have n44:((nx s x.pos:Int)==44)=false:=by simp;omega
 have n35:((nx s x.pos:Int)==35)=false:=by simp;omega
 clear hb;obtain⟨ov,h1,h2,c0,c1,c3,c4,f1,f3,f4⟩:=hx.facts;have z1:(0:Int)≤(x.pos:Int):=by omega
 have z2:(x.pos:Int)<(s.size:Int):=by omega
 have z3:s[x.pos].toNat=nx s x.pos:=fi hp;go_enter Tryz.func22,Tryz.ntmps22;go_upto_region 0 with fail
 go_quiet (fail);have lE:bM (w.drewN nq) xb s x:=hx.drewN _;have gP:=below_drewN (Below.refl xb w) nq;clear h1 h2 c0 c1 c3 c4 f1 f3 f4 hx;generalize w.drewN nq=w1 at *;obtain⟨ov,h1,h2,c0,c1,c3,c4,f1,f3,f4⟩:=lE.facts;go_upto_region 4 with fail
 have lD:=fun W=>bu s ⟨#[239,187,191]⟩ x.pos W hs (by omega) (by decide);rw[hq] at lD;go_quiet ((go_at_call 45;exact Calls.quiet_of_same (lD _)));have oM:bM (w1.drewN nq) xb s x:=lE.drewN _;have kh:=below_drewN gP nq;clear h1 h2 c0 c1 c3 c4 f1 f3 f4 lE gP;generalize w1.drewN nq=w2 at *;obtain⟨ov,h1,h2,c0,c1,c3,c4,f1,f3,f4⟩:=oM.facts;go_upto_region 9 with fail
 have mr:=fun W=>bu s ⟨#[46,46,46]⟩ x.pos W hs (by omega) (by decide);rw[js] at mr;go_quiet ((go_at_call 45;exact Calls.quiet_of_same (mr _)));have wb:bM (w2.drewN nq) xb s x:=oM.drewN _;have uf:=below_drewN kh nq;clear h1 h2 c0 c1 c3 c4 f1 f3 f4 oM kh;generalize w2.drewN nq=w3 at *;obtain⟨ov,h1,h2,c0,c1,c3,c4,f1,f3,f4⟩:=wb.facts;have Re:∀W,Calls Tryz.prog 48 #[.int .u8 45] W fun e w'=>e=.returned (.int .i64 0)∧w'=W:=fun W=>sign_zero 45 (by decide) (by decide) W;have V0:∀W,Calls Tryz.prog 49 #[.int .u8 45] W fun e w'=>e=.returned (.bool false)∧w'=W:=fun W=>jt 45 false (by decide) (by decide) W;go_wp2_with (first| (go_at_call 48;refine(Re _).mono ?_;rintro e w' ⟨rfl,aY⟩;rw[aY];clear aY w')|(go_at_call 49;refine(V0 _).mono ?_;rintro e w' ⟨rfl,aY⟩;rw[aY];clear aY w')|(go_at_call 52;refine(CJ xb s x _ wb hn hs (by omega)).mono ?_;rintro e w' ⟨rfl,hl,mW⟩))
 go_returns;exact⟨rfl,hl,uf.trans mW⟩
theorem JP(xb:Nat)(s:ByteArray)(x:Lx)(w:World)(hx:bM w xb s x)(hs:s.size≤1099511627776)(hp:x.pos<s.size)(hn:x.out.length≤1099511627776)(hb:¬(nx s x.pos=32∨nx s x.pos=9∨nx s x.pos=10∨nx s x.pos=13∨nx s x.pos=44))(hq:st s x.pos ⟨#[239,187,191]⟩=false)(Ga:nx s x.pos≠35)(js:st s x.pos ⟨#[46,46,46]⟩=false)(xr:wC (nx s x.pos)=0)(E4:gN (nx s x.pos)=false)(PC:nx s x.pos≠45)(s7:eC (nx s x.pos)=true) :
 Calls Tryz.prog 22 #[.pointer (some ⟨xb,0,none⟩)] w fun e w'=>e=.returned (.tuple #[])∧bM w' xb s (gg s x)∧Below xb w w':=by
 have n32:((nx s x.pos:Int)==32)=false:=by simp;omega
 have n9:((nx s x.pos:Int)==9)=false:=by simp;omega
 have n10:((nx s x.pos:Int)==10)=false:=by simp;omega
 have n13:((nx s x.pos:Int)==13)=false:=by simp;omega
 have n44:((nx s x.pos:Int)==44)=false:=by simp;omega
 have n35:((nx s x.pos:Int)==35)=false:=by simp;omega
 have n45:((nx s x.pos:Int)==45)=false:=by simp;omega
 clear hb;obtain⟨ov,h1,h2,c0,c1,c3,c4,f1,f3,f4⟩:=hx.facts;have z1:(0:Int)≤(x.pos:Int):=by omega
 have z2:(x.pos:Int)<(s.size:Int):=by omega
 have z3:s[x.pos].toNat=nx s x.pos:=fi hp;go_enter Tryz.func22,Tryz.ntmps22;go_upto_region 0 with fail
 go_quiet (fail);have lE:bM (w.drewN nq) xb s x:=hx.drewN _;have gP:=below_drewN (Below.refl xb w) nq;clear h1 h2 c0 c1 c3 c4 f1 f3 f4 hx;generalize w.drewN nq=w1 at *;obtain⟨ov,h1,h2,c0,c1,c3,c4,f1,f3,f4⟩:=lE.facts;go_upto_region 4 with fail
 have lD:=fun W=>bu s ⟨#[239,187,191]⟩ x.pos W hs (by omega) (by decide);rw[hq] at lD;go_quiet ((go_at_call 45;exact Calls.quiet_of_same (lD _)));have oM:bM (w1.drewN nq) xb s x:=lE.drewN _;have kh:=below_drewN gP nq;clear h1 h2 c0 c1 c3 c4 f1 f3 f4 lE gP;generalize w1.drewN nq=w2 at *;obtain⟨ov,h1,h2,c0,c1,c3,c4,f1,f3,f4⟩:=oM.facts;go_upto_region 9 with fail
 have mr:=fun W=>bu s ⟨#[46,46,46]⟩ x.pos W hs (by omega) (by decide);rw[js] at mr;go_quiet ((go_at_call 45;exact Calls.quiet_of_same (mr _)));have wb:bM (w2.drewN nq) xb s x:=oM.drewN _;have uf:=below_drewN kh nq;clear h1 h2 c0 c1 c3 c4 f1 f3 f4 oM kh;generalize w2.drewN nq=w3 at *;obtain⟨ov,h1,h2,c0,c1,c3,c4,f1,f3,f4⟩:=wb.facts;go_wp2_with (first| (go_at_call 48;refine(sign_zero (nx s x.pos) (fb _ _) xr _).mono ?_;rintro e w' ⟨rfl,aY⟩;rw[aY];clear aY w')|(go_at_call 49;refine(jt (nx s x.pos) false (fb _ _) E4 _).mono ?_;rintro e w' ⟨rfl,aY⟩;rw[aY];clear aY w')|(go_at_call 51;refine(nr (nx s x.pos) true (fb _ _) s7 _).mono ?_;rintro e w' ⟨rfl,aY⟩;rw[aY];clear aY w')|(go_at_call 52;refine(CJ xb s x _ wb hn hs (by omega)).mono ?_;rintro e w' ⟨rfl,hl,mW⟩))
 go_returns;exact⟨rfl,hl,uf.trans mW⟩
end Go.Proofs.YtnpjmhodfdgloaaGreatDoor
