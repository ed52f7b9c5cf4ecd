/- Part of the proof. -/
import Derived.Test.YtnpjmhodfdgloaaGreatDoorQ12
set_option linter.unusedVariables false
set_option linter.unusedSimpArgs false
namespace Go.Proofs.YtnpjmhodfdgloaaGreatDoor
set_option maxRecDepth 100000
set_option maxHeartbeats 32000000
open Go.RowKit
attribute [local go_sem ↓] Go.wp_at_zero Go.wp_at_succ
theorem SK(s:ByteArray)(i:Nat)(h:(eX s i).1≠0):i<(eX s i).2:=by
 unfold eX at *;generalize ha:(if nx s i=45 then i+1 else i)=a at *;have h0:i≤a:=by rw[←ha];split<;>omega
 unfold r7 at *;by_cases c:eN s a=a∨(nx s a=48∧a+1<eN s a)
 · rw[if_pos c] at h;simp at h
 rw[if_neg c] at *;have h1:=im s a;have h2:=kl s a;have h3:=yi (s:=s) (i:=a) (by omega);generalize eN s a=t at *;unfold numDot at *;by_cases d:nx s t=46∧eN s (t+1)=t+1
 · rw[if_pos d] at h;simp at h
 rw[if_neg d] at *;by_cases e:nx s t=46
 · rw[if_pos e,if_pos e] at *;have h4:=im s (t+1);have h5:=kl s (t+1);have h6:=yi (s:=s) (i:=t+1) (by omega);have:=vu s 17 (eN s (t+1)) (by omega) h;omega
 · rw[if_neg e,if_neg e] at *;have:=vu s 16 t (by omega) h;omega
def Af(s:ByteArray)(x y:Lx):Prop:=
 x.pos≤y.pos∧y.pos≤s.size∧y.out.length+x.pos≤x.out.length+y.pos∧(y.bad=true∨x.pos<y.pos)
theorem gV{s:ByteArray}{x y:Lx}(hx:x.pos≤s.size)(h1:y.pos=x.pos)(h2:y.out=x.out)(h3:y.bad=true):Af s x y:=
 ⟨by omega,by omega,by rw[h1,h2];omega,.inl h3⟩
theorem ph{s:ByteArray}{x y:Lx}{k:Int}{tp:Nat}{v:ByteArray}(h1:x.pos<tp)(h2:tp≤s.size)(hy:y.pos=x.pos)(ho:y.out=x.out):Af s x (y.add k tp v):=by refine⟨by show x.pos≤tp;omega,h2,?_,.inr h1⟩;show(y.out++[_]).length+x.pos≤x.out.length+tp;rw[ho];simp;omega
theorem CF{s:ByteArray}{x y:Lx}(h1:x.pos<y.pos)(h2:y.pos≤s.size)(ho:y.out=x.out):Af s x y:=
 ⟨by omega,h2,by rw[ho];omega,.inr h1⟩
theorem Cy(s:ByteArray)(x:Lx)(hx:x.pos≤s.size):Af s x (gg s x):=by
 unfold gg;have h1:=SK s x.pos;have h2:=MB s x.pos;split
 · exact gV hx rfl rfl rfl
 · rename_i h;split
   · exact gV hx rfl rfl rfl
   · exact ph (h1 h) (h2 h).2 rfl rfl
theorem Qo(s:ByteArray)(i:Nat)(h:(pt s i).2≠0)(hi:i<s.size):i+(pt s i).2≤s.size:=(MD s i h hi).1
theorem Gw(s:ByteArray)(n:Nat):∀(x:Lx) (k:Nat) (o:ByteArray),s.size-k≤n→x.pos<k→x.pos≤s.size→Af s x (aR s x k o):=by
 induction n with
 | zero=>
  intro x k o h h1 h2;rw[aR,dif_neg (by omega)]
  exact gV h2 rfl rfl rfl
 | succ n ih=>
  intro x k o h h1 h2;rw[aR];split
  · rename_i hk;split
    · exact ph (by omega) (by omega) rfl rfl
    split
    · exact gV h2 rfl rfl rfl
    split
    · split
      · exact gV h2 rfl rfl rfl
      · rename_i h3;exact ih {x with unsure:=(iU s k x.unsure).2.2} _ _ (by omega) (show x.pos<_ by omega) h2
    split
    · exact gV h2 rfl rfl rfl
    · rename_i h3;split
      · exact gV h2 rfl rfl rfl
      · exact ih {x with unsure:=x.unsure||!Qz (pt s k).1} _ _ (by omega) (show x.pos<_ by omega) h2
  · exact gV h2 rfl rfl rfl
theorem QA{s:ByteArray}{i:Nat}{t:ByteArray}(h:st s i t=true):i+t.size≤s.size:=by unfold st at h;exact(of_decide_eq_true h).1
theorem E9(s:ByteArray)(n:Nat):∀(x:Lx) (k:Nat) (o:ByteArray),s.size-k≤n→x.pos<k→x.pos≤s.size→Af s x (aZ s x k o):=by
 induction n with
 | zero=>
  intro x k o h h1 h2;rw[aZ,dif_neg (by omega)]
  exact gV h2 rfl rfl rfl
 | succ n ih=>
  intro x k o h h1 h2;rw[aZ];split
  · rename_i hk;split
    · rename_i hq;have:k+3≤s.size:=QA hq;exact ph (by omega) this rfl rfl
    split
    · exact ih {x with unsure:=true} _ _ (by omega) (show x.pos<_ by omega) h2
    split
    · exact gV h2 rfl rfl rfl
    · rename_i h3;split
      · exact gV h2 rfl rfl rfl
      · exact ih {x with unsure:=x.unsure||!Qz (pt s k).1} _ _ (by omega) (show x.pos<_ by omega) h2
  · exact gV h2 rfl rfl rfl
theorem Ja(s:ByteArray)(n:Nat):∀(x:Lx),s.size-x.pos≤n→x.pos≤s.size→(dW s x).out=x.out∧x.pos≤(dW s x).pos∧(dW s x).pos≤s.size:=by
 induction n with
 | zero=>
  intro x h h1;rw[dW,dif_neg (by omega)]
  exact⟨rfl,lr,h1⟩
 | succ n ih=>
  intro x h h1;rw[dW];split
  · rename_i hk;split
    · exact⟨rfl,lr,h1⟩
    · rename_i h2;have hp:=Qo s x.pos h2 hk.1;obtain⟨a,b,c⟩:=ih {x with pos:=x.pos+(pt s x.pos).2,unsure:=x.unsure||!Qz (pt s x.pos).1||!oy (pt s x.pos).1||decide (128≤(pt s x.pos).1)} (by show s.size-(x.pos+(pt s x.pos).2)≤n;omega) hp
      exact⟨a,Nat.le_trans (show x.pos≤x.pos+(pt s x.pos).2 by omega) b,c⟩
  · exact⟨rfl,lr,h1⟩
theorem Jb(s:ByteArray)(x:Lx)(h:x.pos<s.size)(hc:nx s x.pos=35):Af s x (dW s x):=by
 have e:pt s x.pos=(35,1):=by unfold pt;rw[hc];rfl
 rw[dW,dif_pos ⟨h,by omega,by omega⟩,dif_neg (by rw[e];decide)];obtain⟨a,b,c⟩:=Ja s s.size {x with pos:=x.pos+(pt s x.pos).2,unsure:=x.unsure||!Qz (pt s x.pos).1||!oy (pt s x.pos).1||decide (128≤(pt s x.pos).1)} (by show s.size-(x.pos+(pt s x.pos).2)≤s.size;omega) (by show x.pos+(pt s x.pos).2≤s.size;rw[e];exact h)
 refine CF ?_ c a;have:x.pos+(pt s x.pos).2≤_:=b;rw[e] at this;rw[e];exact this
theorem NQ(s:ByteArray)(i:Nat):i≤cw s i∧cw s i≤max i s.size:=by
 fun_induction cw s i with
 | case1 i h ih=>
  have:i<s.size:=sO (by unfold gN eC at h;simp at h;omega)
  omega
 | case2 i h=>omega
theorem zP{s:ByteArray}{i:Nat}(h:gN (nx s i)=true)(hi:i<s.size):i<cw s i∧cw s i≤s.size:=by rw[cw,dif_pos (by simp[h])];have:=NQ s (i+1);omega
theorem lG(s:ByteArray)(x:Lx)(h:x.pos<s.size):Af s x (bU s x):=by
 unfold bU;dsimp only;split
 · exact CF (show x.pos<x.pos+1 by omega) (show x.pos+1≤s.size by omega) rfl
 split
 · rename_i h1;have:x.pos+3≤s.size:=QA h1;exact CF (show x.pos<x.pos+3 by omega) this rfl
 split
 · rename_i h1;exact Jb s x h h1
 split
 · rename_i h1;have:x.pos+3≤s.size:=QA h1;exact ph (by omega) this rfl rfl
 split
 · exact ph (by omega) (by omega) rfl rfl
 split
 · rename_i h1;exact ph (zP h1 h).1 (zP h1 h).2 rfl rfl
 split
 · exact Cy s x (by omega)
 split
 · exact E9 s s.size x _ _ (by omega) (by omega) (by omega)
 split
 · exact Gw s s.size x _ _ (by omega) (by omega) (by omega)
 · exact gV (by omega) rfl rfl rfl
theorem JO(xb:Nat)(s:ByteArray)(x:Lx)(w:World)(hx:bM w xb s x)(hs:s.size≤1099511627776)(hp:x.pos<s.size)(hn:x.out.length≤1099511627776)(hb:¬(nx s x.pos=32∨nx s x.pos=9∨nx s x.pos=10∨nx s x.pos=13∨nx s x.pos=44))(hq:st s x.pos ⟨#[239,187,191]⟩=false)(Ga:nx s x.pos≠35)(js:st s x.pos ⟨#[46,46,46]⟩=false)(xr:wC (nx s x.pos)=0)(E4:gN (nx s x.pos)=false)(PC:nx s x.pos≠45)(s7:eC (nx s x.pos)=false)(mE:st s x.pos q3=true) :
 Calls Tryz.prog 22 #[.pointer (some ⟨xb,0,none⟩)] w fun e w'=>e=.returned (.tuple #[])∧bM w' xb s (aZ s x (x.pos+3) ByteArray.empty)∧Below xb w w':=by
 have n32:((nx s x.pos:Int)==32)=false:=by simp;omega
 have n9:((nx s x.pos:Int)==9)=false:=by simp;omega
 have n10:((nx s x.pos:Int)==10)=false:=by simp;omega
 have n13:((nx s x.pos:Int)==13)=false:=by simp;omega
 have n44:((nx s x.pos:Int)==44)=false:=by simp;omega
 have n35:((nx s x.pos:Int)==35)=false:=by simp;omega
 have n45:((nx s x.pos:Int)==45)=false:=by simp;omega
 clear hb;obtain⟨ov,h1,h2,c0,c1,c3,c4,f1,f3,f4⟩:=hx.facts;have z1:(0:Int)≤(x.pos:Int):=by omega
 have z2:(x.pos:Int)<(s.size:Int):=by omega
 have z3:s[x.pos].toNat=nx s x.pos:=fi hp;go_enter Tryz.func22,Tryz.ntmps22;go_upto_region 0 with fail
 go_quiet (fail);have lE:bM (w.drewN nq) xb s x:=hx.drewN _;have gP:=below_drewN (Below.refl xb w) nq;clear h1 h2 c0 c1 c3 c4 f1 f3 f4 hx;generalize w.drewN nq=w1 at *;obtain⟨ov,h1,h2,c0,c1,c3,c4,f1,f3,f4⟩:=lE.facts;go_upto_region 4 with fail
 have lD:=fun W=>bu s ⟨#[239,187,191]⟩ x.pos W hs (by omega) (by decide);rw[hq] at lD;go_quiet ((go_at_call 45;exact Calls.quiet_of_same (lD _)));have oM:bM (w1.drewN nq) xb s x:=lE.drewN _;have kh:=below_drewN gP nq;clear h1 h2 c0 c1 c3 c4 f1 f3 f4 lE gP;generalize w1.drewN nq=w2 at *;obtain⟨ov,h1,h2,c0,c1,c3,c4,f1,f3,f4⟩:=oM.facts;go_upto_region 9 with fail
 have mr:=fun W=>bu s ⟨#[46,46,46]⟩ x.pos W hs (by omega) (by decide);rw[js] at mr;go_quiet ((go_at_call 45;exact Calls.quiet_of_same (mr _)));have wb:bM (w2.drewN nq) xb s x:=oM.drewN _;have uf:=below_drewN kh nq;clear h1 h2 c0 c1 c3 c4 f1 f3 f4 oM kh;generalize w2.drewN nq=w3 at *;obtain⟨ov,h1,h2,c0,c1,c3,c4,f1,f3,f4⟩:=wb.facts;go_upto_region 20 with(first| (go_at_call 48;refine(sign_zero (nx s x.pos) (fb _ _) xr _).mono ?_;rintro e w' ⟨rfl,aY⟩;rw[aY];clear aY w')|(go_at_call 49;refine(jt (nx s x.pos) false (fb _ _) E4 _).mono ?_;rintro e w' ⟨rfl,aY⟩;rw[aY];clear aY w')|(go_at_call 51;refine(nr (nx s x.pos) false (fb _ _) s7 _).mono ?_;rintro e w' ⟨rfl,aY⟩;rw[aY];clear aY w'))
 have uz:=fun W=>bu s q3 x.pos W hs (by omega) (by decide);rw[mE] at uz;go_quiet ((go_at_call 45;exact Calls.quiet_of_same (uz _)));have TV:bM (w3.drewN nq) xb s x:=wb.drewN _;have TI:=below_drewN uf nq;clear h1 h2 c0 c1 c3 c4 f1 f3 f4 wb uf;generalize w3.drewN nq=w4 at *;obtain⟨ov,h1,h2,c0,c1,c3,c4,f1,f3,f4⟩:=TV.facts;go_wp2_with (go_at_call 53;refine(MX xb s x _ TV hs (by omega) hn).mono ?_;rintro e w' ⟨rfl,hl,mW⟩);go_returns;exact⟨rfl,hl,TI.trans mW⟩
theorem LL(xb:Nat)(s:ByteArray)(x:Lx)(w:World)(hx:bM w xb s x)(hs:s.size≤1099511627776)(hp:x.pos<s.size)(hn:x.out.length≤1099511627776)(hb:¬(nx s x.pos=32∨nx s x.pos=9∨nx s x.pos=10∨nx s x.pos=13∨nx s x.pos=44))(hq:st s x.pos ⟨#[239,187,191]⟩=false)(Ga:nx s x.pos≠35)(js:st s x.pos ⟨#[46,46,46]⟩=false)(xr:wC (nx s x.pos)=0)(E4:gN (nx s x.pos)=false)(PC:nx s x.pos≠45)(s7:eC (nx s x.pos)=false)(mE:st s x.pos q3=false)(hc:nx s x.pos=34) :
 Calls Tryz.prog 22 #[.pointer (some ⟨xb,0,none⟩)] w fun e w'=>e=.returned (.tuple #[])∧bM w' xb s (aR s x (x.pos+1) ByteArray.empty)∧Below xb w w':=by
 have n32:((nx s x.pos:Int)==32)=false:=by simp;omega
 have n9:((nx s x.pos:Int)==9)=false:=by simp;omega
 have n10:((nx s x.pos:Int)==10)=false:=by simp;omega
 have n13:((nx s x.pos:Int)==13)=false:=by simp;omega
 have n44:((nx s x.pos:Int)==44)=false:=by simp;omega
 have n35:((nx s x.pos:Int)==35)=false:=by simp;omega
 have n45:((nx s x.pos:Int)==45)=false:=by simp;omega
 clear hb;obtain⟨ov,h1,h2,c0,c1,c3,c4,f1,f3,f4⟩:=hx.facts;have z1:(0:Int)≤(x.pos:Int):=by omega
 have z2:(x.pos:Int)<(s.size:Int):=by omega
 have z3:s[x.pos].toNat=nx s x.pos:=fi hp;go_enter Tryz.func22,Tryz.ntmps22;go_upto_region 0 with fail
 go_quiet (fail);have lE:bM (w.drewN nq) xb s x:=hx.drewN _;have gP:=below_drewN (Below.refl xb w) nq;clear h1 h2 c0 c1 c3 c4 f1 f3 f4 hx;generalize w.drewN nq=w1 at *;obtain⟨ov,h1,h2,c0,c1,c3,c4,f1,f3,f4⟩:=lE.facts;go_upto_region 4 with fail
 have lD:=fun W=>bu s ⟨#[239,187,191]⟩ x.pos W hs (by omega) (by decide);rw[hq] at lD;go_quiet ((go_at_call 45;exact Calls.quiet_of_same (lD _)));have oM:bM (w1.drewN nq) xb s x:=lE.drewN _;have kh:=below_drewN gP nq;clear h1 h2 c0 c1 c3 c4 f1 f3 f4 lE gP;generalize w1.drewN nq=w2 at *;obtain⟨ov,h1,h2,c0,c1,c3,c4,f1,f3,f4⟩:=oM.facts;go_upto_region 9 with fail
 have mr:=fun W=>bu s ⟨#[46,46,46]⟩ x.pos W hs (by omega) (by decide);rw[js] at mr;go_quiet ((go_at_call 45;exact Calls.quiet_of_same (mr _)));have wb:bM (w2.drewN nq) xb s x:=oM.drewN _;have uf:=below_drewN kh nq;clear h1 h2 c0 c1 c3 c4 f1 f3 f4 oM kh;generalize w2.drewN nq=w3 at *;obtain⟨ov,h1,h2,c0,c1,c3,c4,f1,f3,f4⟩:=wb.facts;have Re:∀W,Calls Tryz.prog 48 #[.int .u8 34] W fun e w'=>e=.returned (.int .i64 0)∧w'=W:=fun W=>sign_zero 34 (by decide) (by decide) W;have V0:∀W,Calls Tryz.prog 49 #[.int .u8 34] W fun e w'=>e=.returned (.bool false)∧w'=W:=fun W=>jt 34 false (by decide) (by decide) W;have Z07:∀W,Calls Tryz.prog 51 #[.int .u8 34] W fun e w'=>e=.returned (.bool false)∧w'=W:=fun W=>nr 34 false (by decide) (by decide) W;go_upto_region 20 with(first| (go_at_call 48;refine(Re _).mono ?_;rintro e w' ⟨rfl,aY⟩;rw[aY];clear aY w')|(go_at_call 49;refine(V0 _).mono ?_;rintro e w' ⟨rfl,aY⟩;rw[aY];clear aY w')|(go_at_call 51;refine(Z07 _).mono ?_;rintro e w' ⟨rfl,aY⟩;rw[aY];clear aY w'))
 have uz:=fun W=>bu s q3 x.pos W hs (by omega) (by decide);rw[mE] at uz;go_quiet ((go_at_call 45;exact Calls.quiet_of_same (uz _)));have TV:bM (w3.drewN nq) xb s x:=wb.drewN _;have TI:=below_drewN uf nq;clear h1 h2 c0 c1 c3 c4 f1 f3 f4 wb uf;generalize w3.drewN nq=w4 at *;obtain⟨ov,h1,h2,c0,c1,c3,c4,f1,f3,f4⟩:=TV.facts;go_wp2_with (go_at_call 54;refine(QE xb s x _ TV hs (by omega) hn).mono ?_;rintro e w' ⟨rfl,hl,mW⟩);go_returns;exact⟨rfl,hl,TI.trans mW⟩
theorem LI(xb:Nat)(s:ByteArray)(x:Lx)(w:World)(hx:bM w xb s x)(hs:s.size≤1099511627776)(hp:x.pos<s.size)(hn:x.out.length≤1099511627776)(hb:¬(nx s x.pos=32∨nx s x.pos=9∨nx s x.pos=10∨nx s x.pos=13∨nx s x.pos=44))(hq:st s x.pos ⟨#[239,187,191]⟩=false)(Ga:nx s x.pos≠35)(js:st s x.pos ⟨#[46,46,46]⟩=false)(xr:wC (nx s x.pos)=0)(E4:gN (nx s x.pos)=false)(PC:nx s x.pos≠45)(s7:eC (nx s x.pos)=false)(mE:st s x.pos q3=false)(o3:nx s x.pos≠34) :
 Calls Tryz.prog 22 #[.pointer (some ⟨xb,0,none⟩)] w fun e w'=>e=.returned (.tuple #[])∧bM w' xb s (x.fail)∧Below xb w w':=by
 have n32:((nx s x.pos:Int)==32)=false:=by simp;omega
 have n9:((nx s x.pos:Int)==9)=false:=by simp;omega
 have n10:((nx s x.pos:Int)==10)=false:=by simp;omega
 have n13:((nx s x.pos:Int)==13)=false:=by simp;omega
 have n44:((nx s x.pos:Int)==44)=false:=by simp;omega
 have n35:((nx s x.pos:Int)==35)=false:=by simp;omega
 have n45:((nx s x.pos:Int)==45)=false:=by simp;omega
 have n34:((nx s x.pos:Int)==34)=false:=by simp;omega
 clear hb;obtain⟨ov,h1,h2,c0,c1,c3,c4,f1,f3,f4⟩:=hx.facts;have z1:(0:Int)≤(x.pos:Int):=by omega
 have z2:(x.pos:Int)<(s.size:Int):=by omega
 have z3:s[x.pos].toNat=nx s x.pos:=fi hp;go_enter Tryz.func22,Tryz.ntmps22;go_upto_region 0 with fail
 go_quiet (fail);have lE:bM (w.drewN nq) xb s x:=hx.drewN _;have gP:=below_drewN (Below.refl xb w) nq;clear h1 h2 c0 c1 c3 c4 f1 f3 f4 hx;generalize w.drewN nq=w1 at *;obtain⟨ov,h1,h2,c0,c1,c3,c4,f1,f3,f4⟩:=lE.facts;go_upto_region 4 with fail
 have lD:=fun W=>bu s ⟨#[239,187,191]⟩ x.pos W hs (by omega) (by decide);rw[hq] at lD;go_quiet ((go_at_call 45;exact Calls.quiet_of_same (lD _)));have oM:bM (w1.drewN nq) xb s x:=lE.drewN _;have kh:=below_drewN gP nq;clear h1 h2 c0 c1 c3 c4 f1 f3 f4 lE gP;generalize w1.drewN nq=w2 at *;obtain⟨ov,h1,h2,c0,c1,c3,c4,f1,f3,f4⟩:=oM.facts;go_upto_region 9 with fail
 have mr:=fun W=>bu s ⟨#[46,46,46]⟩ x.pos W hs (by omega) (by decide);rw[js] at mr;go_quiet ((go_at_call 45;exact Calls.quiet_of_same (mr _)));have wb:bM (w2.drewN nq) xb s x:=oM.drewN _;have uf:=below_drewN kh nq;clear h1 h2 c0 c1 c3 c4 f1 f3 f4 oM kh;generalize w2.drewN nq=w3 at *;obtain⟨ov,h1,h2,c0,c1,c3,c4,f1,f3,f4⟩:=wb.facts;go_upto_region 20 with(first| (go_at_call 48;refine(sign_zero (nx s x.pos) (fb _ _) xr _).mono ?_;rintro e w' ⟨rfl,aY⟩;rw[aY];clear aY w')|(go_at_call 49;refine(jt (nx s x.pos) false (fb _ _) E4 _).mono ?_;rintro e w' ⟨rfl,aY⟩;rw[aY];clear aY w')|(go_at_call 51;refine(nr (nx s x.pos) false (fb _ _) s7 _).mono ?_;rintro e w' ⟨rfl,aY⟩;rw[aY];clear aY w'))
 have uz:=fun W=>bu s q3 x.pos W hs (by omega) (by decide);rw[mE] at uz;go_quiet ((go_at_call 45;exact Calls.quiet_of_same (uz _)));have TV:bM (w3.drewN nq) xb s x:=wb.drewN _;have TI:=below_drewN uf nq;clear h1 h2 c0 c1 c3 c4 f1 f3 f4 wb uf;generalize w3.drewN nq=w4 at *;obtain⟨ov,h1,h2,c0,c1,c3,c4,f1,f3,f4⟩:=TV.facts;go_wp2_with (go_at_call 55;refine(eD xb s x _ TV).mono ?_;rintro e w' ⟨rfl,hl,mW⟩);go_returns;exact⟨rfl,hl,TI.trans mW⟩
theorem Od(xb:Nat)(s:ByteArray)(x:Lx)(w:World)(hx:bM w xb s x)(hs:s.size≤1099511627776)(hp:x.pos<s.size)(hn:x.out.length≤1099511627776) :
 Calls Tryz.prog 22 #[.pointer (some ⟨xb,0,none⟩)] w fun e w'=>e=.returned (.tuple #[])∧bM w' xb s (bU s x)∧Below xb w w':=by
 unfold bU;dsimp only;by_cases hb:nx s x.pos=32∨nx s x.pos=9∨nx s x.pos=10∨nx s x.pos=13∨nx s x.pos=44
 · rw[if_pos hb];rcases hb with hb|hb|hb|hb|hb
   · exact Og xb s x w hx hs hp hn hb
   · exact QK xb s x w hx hs hp hn hb
   · exact Oe xb s x w hx hs hp hn hb
   · exact Of xb s x w hx hs hp hn hb
   · exact Oh xb s x w hx hs hp hn hb
 rw[if_neg hb];by_cases hq:st s x.pos ⟨#[239,187,191]⟩=true
 · rw[if_pos hq];exact Oi xb s x w hx hs hp hn hb hq
 rw[if_neg hq];have hq:=Bool.eq_false_iff.2 hq;by_cases Ga:nx s x.pos=35
 · rw[if_pos Ga];exact EA xb s x w hx hs hp hn hb hq Ga
 rw[if_neg Ga];by_cases js:st s x.pos ⟨#[46,46,46]⟩=true
 · rw[if_pos js];exact Hs xb s x w hx hs hp hn hb hq Ga js
 rw[if_neg js];have js:=Bool.eq_false_iff.2 js;by_cases xr:0<wC (nx s x.pos)
 · rw[if_pos xr];exact LK xb s x w hx hs hp hn hb hq Ga js xr
 rw[if_neg xr];have xr:wC (nx s x.pos)=0:=by have:=Lq (nx s x.pos) (fb _ _);omega
 by_cases E4:gN (nx s x.pos)=true
 · rw[if_pos E4];exact LJ xb s x w hx hs hp hn hb hq Ga js xr E4
 rw[if_neg E4];have E4:=Bool.eq_false_iff.2 E4;by_cases PC:nx s x.pos=45
 · rw[if_pos (.inl PC)];exact JQ xb s x w hx hs hp hn hb hq Ga js xr E4 PC
 by_cases s7:eC (nx s x.pos)=true
 · rw[if_pos (.inr s7)];exact JP xb s x w hx hs hp hn hb hq Ga js xr E4 PC s7
 rw[if_neg (fun h=>h.elim PC s7)];have s7:=Bool.eq_false_iff.2 s7;by_cases mE:st s x.pos q3=true
 · rw[if_pos mE];exact JO xb s x w hx hs hp hn hb hq Ga js xr E4 PC s7 mE
 rw[if_neg mE];have mE:=Bool.eq_false_iff.2 mE;by_cases o3:nx s x.pos=34
 · rw[if_pos o3];exact LL xb s x w hx hs hp hn hb hq Ga js xr E4 PC s7 mE o3
 rw[if_neg o3];exact LI xb s x w hx hs hp hn hb hq Ga js xr E4 PC s7 mE o3
def X2:Lx:=⟨0,[],false,false⟩
def cm(s:ByteArray):Lx:=oC s (s.size+2) X2
theorem sH{s:ByteArray}{y:Lx}(h:y.bad=true∨s.size≤y.pos)(m:Nat):oC s m y=y:=by
 cases m with
 | zero=>rfl
 | succ m=>
  show(if y.bad=false∧y.pos<s.size then oC s m (bU s y) else y)=y;rw[if_neg];rintro⟨h1,h2⟩;rcases h with h|h
  · rw[h] at h1;cases h1
  · omega
theorem Cz{s:ByteArray}{y:Lx}(h:y.bad=false)(h2:y.pos<s.size)(m:Nat):oC s (m+1) y=oC s m (bU s y):=if_pos ⟨h,h2⟩
def U2(s:ByteArray)(y:Lx):Nat:=2*(s.size-y.pos)+(if y.bad=true then 0 else 1)
theorem Qb{s:ByteArray}{y y':Lx}(hb:y.bad=false)(h1:y.pos≤y'.pos)(h2:y'.pos≤s.size)(h3:y'.bad=true∨y.pos<y'.pos):U2 s y'<U2 s y:=by
 unfold U2;rw[hb];rcases h3 with h3|h3
 · rw[h3];simp;omega
 · split<;>simp<;>omega
def FE(w:World)(xb:Nat)(s:ByteArray)(g:Nat)(wr:World):Prop:=
 ∃(y:Lx) (m:Nat),bM wr xb s y∧Below xb w wr∧y.pos≤s.size∧y.out.length≤y.pos∧(y.bad=true∨s.size-y.pos<m)∧Hd (cm s=oC s m y)∧g=U2 s y
def rq(s:ByteArray)(w:World)(e:Ending)(w':World):Prop:=
 ∃ov,e=.returned (.tuple #[ov,.bool (!(cm s).bad),.bool (!(cm s).unsure)])∧w'.ownsRow (w.heap.size+1) 63 4 ov (cm s).out.length (j9 (cm s).out)∧(cm s).out.length≤s.size∧Below w.heap.size w w'
theorem NH(s:ByteArray)(w:World)(hs:s.size≤1099511627776) :
 Calls Tryz.prog 15 #[.string s] w (rq s w):=by
 go_enter Tryz.func15,Tryz.ntmps15;go_wp2_with fail;have PQ:bM (w.alloc (.cells (mG s X2 (.slice none 0 0)) 79 (0,0))) w.heap.size s X2:=⟨_,ai _ _,World.ownsRow_nil _ _ _ _⟩;have tU:Below w.heap.size w (w.alloc (.cells (mG s X2 (.slice none 0 0)) 79 (0,0))):=(Below.refl _ _).alloc lr _
 go_loopg [] (U2 s X2) (fun g wr=>FE w w.heap.size s g wr)
 case atStart=>unfold FE;exact⟨X2,s.size+2,PQ,tU,Nat.zero_le _,lr,.inr (by show s.size-0<s.size+2;omega),rfl,rfl⟩
 case round=>
  unfold FE at hrel;obtain⟨y,m,hy,hb,hp,ho,hm,hd,rfl⟩:=hrel;clear PQ tU;obtain⟨ov,h1,h2,c0,c1,c3,c4,f1,f3,f4⟩:=hy.facts
  cases gK:y.bad with
  | true=>
   have hf:Hd (cm s=y):=hd.out.trans (sH (.inl gK) _);rw[gK] at c3;have c2:wr.cell? ⟨w.heap.size,2,none⟩=some ov:=cell_of h1 rfl;have HB:Hd (y.bad=true):=gK;clear gK hm hd;go_upto_region 4 with fail
   go_quiet (fail);go_wp2_with fail;go_ret3;unfold rq;rw[hf.out]
   exact⟨ov,by rw[HB.o];rfl,h2,by omega,below_drewN hb _⟩
  | false=>
   rw[gK] at c3;have HB:Hd (y.bad=false):=gK;by_cases b9:y.pos<s.size
   · have z1:(y.pos:Int)<(s.size:Int):=by omega
     obtain⟨m,rfl⟩:∃m',m=m'+1:=⟨m-1,by rcases hm with hm|hm;rw[gK] at hm;cases hm;omega⟩;have eL:Hd (cm s=oC s m (bU s y)):=hd.out.trans (Cz gK b9 m);have hmv:=lG s y b9;have hm':s.size-y.pos<m+1:=by rcases hm with hm|hm;rw[gK] at hm;cases hm;omega
     have HT:Hd (∀W,bM W w.heap.size s y→Calls Tryz.prog 22 #[.pointer (some ⟨w.heap.size,0,none⟩)] W fun e w'=>e=.returned (.tuple #[])∧bM w' w.heap.size s (bU s y)∧Below w.heap.size W w'):=fun W h=>Od _ s y W h hs b9 (by omega);clear gK hm hd;generalize bU s y=y' at *;obtain⟨v1,v2,v3,v4⟩:=hmv;go_wp2_with fail;refine(HT.o _ hy).mono ?_;rintro e w2 ⟨rfl,hl,mW⟩;go_wp2_with fail;have HM:Hd (U2 s y'<U2 s y):=Qb HB.o v1 v2 v4;go_roundg (U2 s y')
     case measure=>exact HM.o
     case rel=>unfold FE;exact⟨y',m,hl,hb.trans mW,v2,by omega,by rcases v4 with v4|v4;exact .inl v4;exact .inr (by omega),eL,rfl⟩
   · have z1:¬((y.pos:Int)<(s.size:Int)):=by omega
     have hf:Hd (cm s=y):=hd.out.trans (sH (.inr (by omega)) _);have c2:wr.cell? ⟨w.heap.size,2,none⟩=some ov:=cell_of h1 rfl;clear gK hm hd;go_upto_region 4 with fail
     go_quiet (fail);go_wp2_with fail;go_ret3;unfold rq;rw[hf.out];exact⟨ov,by rw[HB.o];rfl,h2,by omega,below_drewN hb _⟩
def MT(y:Lx)(n:Nat)(w:World)(e:Ending)(w':World):Prop:=
 ∃ov l,e=.returned (.tuple #[ov,.bool (!y.bad),.bool (!y.unsure)])∧l=(if y.bad=true then[] else y.out)∧w'.ownsRow (w.heap.size+1) 63 4 ov l.length (j9 l)∧l.length≤n∧Below w.heap.size w w'
def FD(s:ByteArray)(w:World)(e:Ending)(w':World):Prop:=MT (cm s) s.size w e w'
theorem Q6{y:Lx}{n:Nat}{w w':World}(hb:y.bad=true)(h3:Below w.heap.size w w'):MT y n w (.returned (.tuple #[.slice none 0 0,.bool false,.bool (!y.unsure)])) w':=
 ⟨_,[],by rw[hb];rfl,by rw[hb];rfl,World.ownsRow_nil _ _ _ _,Nat.zero_le _,h3⟩
theorem NG{y:Lx}{n:Nat}{w w':World}{ov:Value}(hb:y.bad=false)(h1:w'.ownsRow (w.heap.size+1) 63 4 ov y.out.length (j9 y.out))(h2:y.out.length≤n)(h3:Below w.heap.size w w'):MT y n w (.returned (.tuple #[ov,.bool true,.bool (!y.unsure)])) w':=
 ⟨_,y.out,by rw[hb];rfl,by rw[hb];rfl,h1,h2,h3⟩
theorem Ms(s:ByteArray)(w:World)(hs:s.size≤1099511627776):Calls Tryz.prog 11 #[.string s] w (FD s w):=by
 have HL:Hd (Calls Tryz.prog 15 #[.string s] w (rq s w)):=NH s w hs;show Calls Tryz.prog 11 #[.string s] w (MT (cm s) s.size w);unfold rq at HL;generalize cm s=y at *
 cases hb:y.bad with
 | true=>
  have HB:Hd (y.bad=true):=hb;rw[hb] at HL;clear hb;go_enter Tryz.func11,Tryz.ntmps11;go_wp2_with fail;refine HL.o.mono ?_;rintro e w1 ⟨ov,rfl,h1,h2,h3⟩;have H3:Hd (Below w.heap.size w w1):=h3;clear h1 h2 h3 HL;go_wp2_with fail;go_ret3
  exact Q6 HB.o H3.o
 | false=>have HB:Hd (y.bad=false):=hb;rw[hb] at HL;clear hb;go_enter Tryz.func11,Tryz.ntmps11;go_wp2_with fail;refine HL.o.mono ?_;rintro e w1 ⟨ov,rfl,h1,h2,h3⟩;have H3:Hd (Below w.heap.size w w1):=h3;have H1:Hd (w1.ownsRow (w.heap.size+1) 63 4 ov y.out.length (j9 y.out)):=h1;have H2:Hd (y.out.length≤s.size):=h2;clear h1 h2 h3 HL;go_wp2_with fail;go_ret3;exact NG HB.o H1.o H2.o H3.o
end Go.Proofs.YtnpjmhodfdgloaaGreatDoor
