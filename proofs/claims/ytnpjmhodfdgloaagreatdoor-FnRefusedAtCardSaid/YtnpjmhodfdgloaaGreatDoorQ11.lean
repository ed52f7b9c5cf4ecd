/- Part of the proof. -/
import Derived.Test.YtnpjmhodfdgloaaGreatDoorQ10
set_option linter.unusedVariables false
set_option linter.unusedSimpArgs false
namespace Go.Proofs.YtnpjmhodfdgloaaGreatDoor
set_option maxRecDepth 100000
set_option maxHeartbeats 32000000
open Go.RowKit
attribute [local go_sem ↓] Go.wp_at_zero Go.wp_at_succ
theorem mg(s:ByteArray)(i fr:Nat):∀x∈bA s i fr,x.size≤s.size:=by
 by_cases h:i<s.size
 · by_cases h':nx s i=10∨nx s i=13
   · rw[fP h h'];intro x hx;rcases List.mem_cons.1 hx with rfl|hx
     · simp[ByteArray.size_extract];omega
     · exact mg s _ _ x hx
   · rw[nt h h'];exact mg s (i+1) fr
 · rw[kx h];intro x hx;simp at hx;subst hx;simp[ByteArray.size_extract]
termination_by s.size-i
decreasing_by
 · have:=sk s i;omega
 · omega
theorem ns(s:ByteArray)(i fr:Nat):(bA s i fr).length≤s.size-i+1:=by
 by_cases h:i<s.size
 · by_cases h':nx s i=10∨nx s i=13
   · rw[fP h h'];have:=ns s (mY s i) (mY s i);have:=sk s i;simp;omega
   · rw[nt h h'];have:=ns s (i+1) fr;omega
 · rw[kx h];simp
termination_by s.size-i
decreasing_by
 · have:=sk s i;omega
 · omega
def cY(n:Nat)(x:ByteArray):Bool:=decide (¬(bS x 0=x.size∧0<x.size∧x.size<n))
theorem j6{n:Nat}{x:ByteArray}(h:¬(bS x 0=x.size∧0<x.size∧x.size<n)):cY n x=true:=decide_eq_true h
def GV(l:List ByteArray):Bool:=!decide (0<df l∧bS (l.getD 0 ByteArray.empty) 0<(l.getD 0 ByteArray.empty).size)&&(l.drop 1).all (cY (df l))
def mL(raw:ByteArray):Bool:=GV (bA raw 0 0)
def tw(l:List ByteArray)(n:Nat)(w:World)(j:Value)(wr:World):Prop:=∃(k:Nat),1≤k∧k≤l.length∧j=.int .i64 k∧Sm [] w wr∧Hd ((l.drop 1).all (cY n)=(l.drop k).all (cY n))
theorem Kw{q:Int}{x:ByteArray}(hx:x.size≤1099511627776)(hq:q≤1099511627776):cg q x≤1099511627776:=by have:=(mF x 0 (by omega)).2;unfold cg;split<;>omega
theorem BI:∀(l:List ByteArray) (q:Int),(∀x∈l,x.size≤1099511627776)→q≤1099511627776→l.foldl cg q≤1099511627776
 | [],q,_,h=>h
 | x :: l,q,hl,h=>BI l _ (fun y hy=>hl y (List.mem_cons_of_mem _ hy)) (Kw (hl x (List.mem_cons_self ..)) h)
theorem FR(l:List ByteArray)(h:∀x∈l,x.size≤1099511627776):df l≤1099511627776:=by have:=BI (l.drop 1) (-1) (fun x hx=>h x (List.mem_of_mem_drop hx)) (by omega);unfold df tP;omega
theorem Ir{l:List ByteArray}{k:Nat}(h:k<l.length)(p:ByteArray→Bool):(l.drop k).all p=(p (l.getD k ByteArray.empty)&&(l.drop (k+1)).all p):=by rw[yv h];rfl
theorem lB{l:List ByteArray}{k:Nat}(h:k<l.length):l.getD k ByteArray.empty∈l:=by rw[List.getD_eq_getElem?_getD,List.getElem?_eq_getElem h];exact List.getElem_mem h
theorem CR(s:ByteArray)(w:World)(hs:s.size≤1099511627776) :
 Calls Tryz.prog 89 #[.string s] w fun e w'=>e=.returned (.bool (mL s))∧Sm [] w w':=by
 have tX:=vr s 0 0;have om:=mg s 0 0;have KO:=ns s 0 0;go_enter Tryz.func89,Tryz.ntmps89;go_wp2_with fail;refine(zJ s _ hs).mono ?_;rintro e w1 ⟨v,rfl,aJ,iI⟩;obtain⟨hn,g,cap,rfl,Nt,EV,R7,S4,_⟩:=rf aJ tX;have lD:=xM aJ;have hP:Hd (mL s=GV (bA s 0 0)):=rfl;generalize bA s 0 0=l at lD hP tX om KO R7;clear aJ hn;have Z4:0<l.length:=by cases l with| nil=>exact absurd rfl tX|cons=>simp
 have hl:l.length≤1099511627777:=by omega
 have hL:Hd (∀x∈l,x.size≤1099511627776):=fun x hx=>Nat.le_trans (om x hx) hs;have l0:(0:Int)<(l.length:Int):=by omega
 have PQ:=lD 0 Z4;have xr:(l.getD 0 ByteArray.empty).size≤1099511627776:=hL.out _ (lB Z4);clear om tX;have hS:Hd (dr w1 g 0 l):=lD;have UX:Hd (mL s=(!decide (0<df l∧bS (l.getD 0 ByteArray.empty) 0<(l.getD 0 ByteArray.empty).size)&&(l.drop 1).all (cY (df l)))):=hP;clear lD hP;generalize l.getD 0 ByteArray.empty=x0 at PQ xr UX;have hle:=(mF x0 0 (by omega)).2;simp only[Nat.add_zero] at PQ;go_wp2_with (go_at_call 120;refine(BK l g 0 cap _ hS.out hl hL.out).mono ?_;rintro e w' ⟨rfl,hw⟩;rw[hw];clear hw w');have PH:df l≤1099511627776:=FR l hL.out;generalize df l=n at UX PH;by_cases c0:0<n
 · have UQ:(0:Int)<(n:Int):=by omega
   by_cases c1:bS x0 0<x0.size
   · have XB:(bS x0 0:Int)<(x0.size:Int):=by omega
     have hf:Hd (mL s=false):=by unfold Hd;rw[UX.out];simp[c0,c1]
     go_quiet ((go_at_call 121;exact Calls.quiet_of_same (du _ _ xr)));go_wp2;go_ret;exact⟨lJ hf.out.symm,iI.drewN _⟩
   · have XB:¬((bS x0 0:Int)<(x0.size:Int)):=by omega
     have hf:Hd (mL s=(l.drop 1).all (cY n)):=by unfold Hd;rw[UX.out];simp[c1]
     clear UX;go_quiet ((go_at_call 121;exact Calls.quiet_of_same (du _ _ xr)));go_wp2_with fail
     go_loopw [5] (fun j wr=>tw l n w1 j wr) (fun j _=>l.length-(intOf j).toNat)
     case atStart=>unfold tw;exact⟨1,by omega,by omega,rfl,sr.drewN _,rfl⟩
     case round=>
      unfold tw at hrel;obtain⟨k,K9,ri,rfl,Ew,hd⟩:=hrel;have k1:(0:Int)≤(k:Int):=by omega
      by_cases b9:k<l.length
      · have k2:(k:Int)<(l.length:Int):=by omega
        have hc:=(hS.out.sm Ew (by simp)) k b9;have hx:(l.getD k ByteArray.empty).size≤1099511627776:=hL.out _ (lB b9);have eL:Hd ((l.drop 1).all (cY n)=(cY n (l.getD k ByteArray.empty)&&(l.drop (k+1)).all (cY n))):=hd.out.trans (Ir b9 _);generalize l.getD k ByteArray.empty=x at hc hx eL;have Z0m:=(mF x 0 (by omega)).2;simp only[Nat.zero_add] at hc;clear hd;by_cases b1:bS x 0=x.size
        · by_cases b2:0<x.size
          · by_cases b3:x.size<n
            · have Vc:Hd (mL s=false):=by unfold Hd;rw[hf.out,eL.out];simp[cY,b1,b2,b3]
              clear eL hf;have e1:((bS x 0:Int)==(x.size:Int))=true:=by simp;omega
              have n1:(bS x 0==x.size)=true:=by simp;omega
              have e2:((0:Int)<(x.size:Int)):=by omega
              have XF:decide ((0:Int)<(x.size:Int))=true:=decide_eq_true (by omega);have n2:decide (0<x.size)=true:=decide_eq_true (by omega);have e3:((x.size:Int)<(n:Int)):=by omega
              have YU:decide ((x.size:Int)<(n:Int))=true:=decide_eq_true (by omega);have n3:decide (x.size<n)=true:=decide_eq_true (by omega);clear b1 b2 b3;go_wp2_with fail;go_quiet ((go_at_call 121;exact Calls.quiet_of_same (du _ _ hx)));go_wp2;go_ret;exact⟨lJ Vc.out.symm,(iI.trans Ew).drewN _⟩
            · have iW:Hd ((l.drop 1).all (cY n)=(l.drop (k+1)).all (cY n)):=by unfold Hd;rw[eL.out,j6 (n:=n) (x:=x) (by omega)];rfl
              clear eL;have e1:((bS x 0:Int)==(x.size:Int))=true:=by simp;omega
              have n1:(bS x 0==x.size)=true:=by simp;omega
              have e2:((0:Int)<(x.size:Int)):=by omega
              have XF:decide ((0:Int)<(x.size:Int))=true:=decide_eq_true (by omega);have n2:decide (0<x.size)=true:=decide_eq_true (by omega);have e3:¬((x.size:Int)<(n:Int)):=by omega
              have YU:decide ((x.size:Int)<(n:Int))=false:=decide_eq_false (by omega);have n3:decide (x.size<n)=false:=decide_eq_false (by omega);clear b1 b2 b3;go_wp2_with fail;go_quiet ((go_at_call 121;exact Calls.quiet_of_same (du _ _ hx)));go_wp2_with fail;go_roundw
              case rel=>(first| refine⟨_,?_,rfl⟩|skip);unfold tw;exact⟨k+1,by omega,by omega,by go_num,Ew.drewN _,iW⟩
              case measure=>simp[intOf];omega
          · have iW:Hd ((l.drop 1).all (cY n)=(l.drop (k+1)).all (cY n)):=by unfold Hd;rw[eL.out,j6 (n:=n) (x:=x) (by omega)];rfl
            clear eL;have z1:x.size=0:=by omega
            have z2:bS x 0=0:=by omega
            clear b1 b2;go_wp2_with fail;go_quiet ((go_at_call 121;exact Calls.quiet_of_same (du _ _ hx)));go_wp2_with fail;go_roundw
            case rel=>(first| refine⟨_,?_,rfl⟩|skip);unfold tw;exact⟨k+1,by omega,by omega,by go_num,Ew.drewN _,iW⟩
            case measure=>simp[intOf];omega
        · have iW:Hd ((l.drop 1).all (cY n)=(l.drop (k+1)).all (cY n)):=by unfold Hd;rw[eL.out,j6 (n:=n) (x:=x) (by omega)];rfl
          clear eL;have e1:((bS x 0:Int)==(x.size:Int))=false:=by simp;omega
          have n1:(bS x 0==x.size)=false:=by simp;omega
          clear b1;go_wp2_with fail;go_quiet ((go_at_call 121;exact Calls.quiet_of_same (du _ _ hx)));go_wp2_with fail;go_roundw
          case rel=>(first| refine⟨_,?_,rfl⟩|skip);unfold tw;exact⟨k+1,by omega,by omega,by go_num,Ew.drewN _,iW⟩
          case measure=>simp[intOf];omega
      · have k2:¬((k:Int)<(l.length:Int)):=by omega
        have Vc:Hd (mL s=true):=by unfold Hd;rw[hf.out,hd.out,List.drop_of_length_le (by omega)];rfl
        go_wp2_with fail;go_ret;exact⟨lJ Vc.out.symm,iI.trans Ew⟩
 · have UQ:¬((0:Int)<(n:Int)):=by omega
   have Z3f:decide ((0:Int)<(n:Int))=false:=by simp;omega
   have hf:Hd (mL s=(l.drop 1).all (cY n)):=by unfold Hd;rw[UX.out];simp[c0]
   clear UX;go_quiet (fail);go_wp2_with fail
   go_loopw [5] (fun j wr=>tw l n w1 j wr) (fun j _=>l.length-(intOf j).toNat)
   case atStart=>unfold tw;exact⟨1,by omega,by omega,rfl,sr.drewN _,rfl⟩
   case round=>
    unfold tw at hrel;obtain⟨k,K9,ri,rfl,Ew,hd⟩:=hrel;have k1:(0:Int)≤(k:Int):=by omega
    by_cases b9:k<l.length
    · have k2:(k:Int)<(l.length:Int):=by omega
      have hc:=(hS.out.sm Ew (by simp)) k b9;have hx:(l.getD k ByteArray.empty).size≤1099511627776:=hL.out _ (lB b9);have eL:Hd ((l.drop 1).all (cY n)=(cY n (l.getD k ByteArray.empty)&&(l.drop (k+1)).all (cY n))):=hd.out.trans (Ir b9 _);generalize l.getD k ByteArray.empty=x at hc hx eL;have Z0m:=(mF x 0 (by omega)).2;simp only[Nat.zero_add] at hc;clear hd;by_cases b1:bS x 0=x.size
      · by_cases b2:0<x.size
        · by_cases b3:x.size<n
          · have Vc:Hd (mL s=false):=by unfold Hd;rw[hf.out,eL.out];simp[cY,b1,b2,b3]
            clear eL hf;have e1:((bS x 0:Int)==(x.size:Int))=true:=by simp;omega
            have n1:(bS x 0==x.size)=true:=by simp;omega
            have e2:((0:Int)<(x.size:Int)):=by omega
            have XF:decide ((0:Int)<(x.size:Int))=true:=decide_eq_true (by omega);have n2:decide (0<x.size)=true:=decide_eq_true (by omega);have e3:((x.size:Int)<(n:Int)):=by omega
            have YU:decide ((x.size:Int)<(n:Int))=true:=decide_eq_true (by omega);have n3:decide (x.size<n)=true:=decide_eq_true (by omega);clear b1 b2 b3;go_wp2_with fail;go_quiet ((go_at_call 121;exact Calls.quiet_of_same (du _ _ hx)));go_wp2;go_ret;exact⟨lJ Vc.out.symm,(iI.trans Ew).drewN _⟩
          · have iW:Hd ((l.drop 1).all (cY n)=(l.drop (k+1)).all (cY n)):=by unfold Hd;rw[eL.out,j6 (n:=n) (x:=x) (by omega)];rfl
            clear eL;have e1:((bS x 0:Int)==(x.size:Int))=true:=by simp;omega
            have n1:(bS x 0==x.size)=true:=by simp;omega
            have e2:((0:Int)<(x.size:Int)):=by omega
            have XF:decide ((0:Int)<(x.size:Int))=true:=decide_eq_true (by omega);have n2:decide (0<x.size)=true:=decide_eq_true (by omega);have e3:¬((x.size:Int)<(n:Int)):=by omega
            have YU:decide ((x.size:Int)<(n:Int))=false:=decide_eq_false (by omega);have n3:decide (x.size<n)=false:=decide_eq_false (by omega);clear b1 b2 b3;go_wp2_with fail;go_quiet ((go_at_call 121;exact Calls.quiet_of_same (du _ _ hx)));go_wp2_with fail;go_roundw
            case rel=>(first| refine⟨_,?_,rfl⟩|skip);unfold tw;exact⟨k+1,by omega,by omega,by go_num,Ew.drewN _,iW⟩
            case measure=>simp[intOf];omega
        · have iW:Hd ((l.drop 1).all (cY n)=(l.drop (k+1)).all (cY n)):=by unfold Hd;rw[eL.out,j6 (n:=n) (x:=x) (by omega)];rfl
          clear eL;have z1:x.size=0:=by omega
          have z2:bS x 0=0:=by omega
          clear b1 b2;go_wp2_with fail;go_quiet ((go_at_call 121;exact Calls.quiet_of_same (du _ _ hx)));go_wp2_with fail;go_roundw
          case rel=>(first| refine⟨_,?_,rfl⟩|skip);unfold tw;exact⟨k+1,by omega,by omega,by go_num,Ew.drewN _,iW⟩
          case measure=>simp[intOf];omega
      · have iW:Hd ((l.drop 1).all (cY n)=(l.drop (k+1)).all (cY n)):=by unfold Hd;rw[eL.out,j6 (n:=n) (x:=x) (by omega)];rfl
        clear eL;have e1:((bS x 0:Int)==(x.size:Int))=false:=by simp;omega
        have n1:(bS x 0==x.size)=false:=by simp;omega
        clear b1;go_wp2_with fail;go_quiet ((go_at_call 121;exact Calls.quiet_of_same (du _ _ hx)));go_wp2_with fail;go_roundw
        case rel=>(first| refine⟨_,?_,rfl⟩|skip);unfold tw;exact⟨k+1,by omega,by omega,by go_num,Ew.drewN _,iW⟩
        case measure=>simp[intOf];omega
    · have k2:¬((k:Int)<(l.length:Int)):=by omega
      have Vc:Hd (mL s=true):=by unfold Hd;rw[hf.out,hd.out,List.drop_of_length_le (by omega)];rfl
      go_wp2_with fail;go_ret;exact⟨lJ Vc.out.symm,iI.trans Ew⟩
def jo(n:Nat)(x:ByteArray):ByteArray:=x.extract (min n x.size) x.size
def blank(x:ByteArray):Bool:=decide (bS x 0=x.size)
def iG(n:Nat):List ByteArray→List ByteArray
 | []=>[]
 | x :: l=>x :: l.map (jo n)
def gJ(l:List ByteArray):List ByteArray:=l.dropWhile blank
def fT:Nat→List ByteArray→List ByteArray
 | 0,l=>l
 | n+1,l=>if 0<l.length∧blank (l.getD (l.length-1) ByteArray.empty)=true then fT n (l.take (l.length-1)) else l
def qB(out:ByteArray):Nat→List ByteArray→ByteArray
 | _,[]=>out
 | i,x :: l=>qB ((if 0<i then out++⟨#[10]⟩ else out)++x) (i+1) l
def iF(raw:ByteArray):ByteArray:=
 let l:=gJ (iG (df (bA raw 0 0)) (bA raw 0 0))
 qB ByteArray.empty 0 (fT l.length l)
theorem dr.set{w:World}{b:Nat}{l:List ByteArray}(h:dr w b 0 l){k:Nat}(hk:k<l.length)(y:ByteArray):dr (w.setCell ⟨b,k,none⟩ (.string y)) b 0 (l.set k y):=by
 intro i hi;simp only[List.length_set] at hi;have rC:=h i hi;simp only[Nat.zero_add] at rC ⊢;by_cases e:i=k
 · subst e;rw[World.cell?_setCell_same _ _ _ rC];simp[List.getD_eq_getElem?_getD,hi]
 · rw[World.cell?_setCell_other _ _ _ _ (by first| (simp;done)|(simp;omega)),rC]
   simp[List.getD_eq_getElem?_getD,List.getElem?_set_ne (Ne.symm e)]
theorem dr.TF{w:World}{b o:Nat}{x:ByteArray}{l:List ByteArray}(h:dr w b o (x :: l)):dr w b (o+1) l:=by intro i hi;have:=h (i+1) (by simp;omega);rw[show o+1+i=o+(i+1) by omega,this];simp[List.getD_eq_getElem?_getD]
theorem dr.nil(w:World)(b o:Nat):dr w b o []:=fun i hi=>by simp at hi
theorem dr.take{w:World}{b o:Nat}{l:List ByteArray}(h:dr w b o l)(k:Nat):dr w b o (l.take k):=by
 intro i hi;simp at hi;have hk:i<k:=by omega
 rw[h i (by omega)];simp[List.getD_eq_getElem?_getD,List.getElem?_take,hk]
theorem Ky(n:Nat)(l:List ByteArray)(k:Nat)(h1:1≤k)(hk:k<l.length):(iG n l).getD k ByteArray.empty=jo n (l.getD k ByteArray.empty):=by
 cases l with
 | nil=>simp at hk
 | cons x l=>obtain⟨j,rfl⟩:∃j,k=j+1:=⟨k-1,by omega⟩;simp at hk;simp[iG,List.getD_eq_getElem?_getD,hk]
theorem sg(n:Nat)(l:List ByteArray):(iG n l).length=l.length:=by cases l<;>simp[iG]
def wG(n:Nat)(l l':List ByteArray)(k:Nat):Prop:=l'.length=l.length∧∀i,i<l.length→l'.getD i ByteArray.empty=if i<k then(iG n l).getD i ByteArray.empty else l.getD i ByteArray.empty
theorem wG.start(n:Nat)(l:List ByteArray):wG n l l 1:=⟨rfl,fun i hi=>by
 split
 · obtain rfl:i=0:=by omega
   cases l with| nil=>simp at hi|cons x l=>simp[iG]
 · rfl⟩
theorem wG.step{n:Nat}{l l':List ByteArray}{k:Nat}(h:wG n l l' k)(h1:1≤k)(hk:k<l.length):wG n l (l'.set k (jo n (l.getD k ByteArray.empty))) (k+1):=by
 refine⟨by simp[h.1],fun i hi=>?_⟩;by_cases e:i=k
 · subst e;rw[if_pos (by omega),Ky n l i h1 hk];simp[List.getD_eq_getElem?_getD,h.1,hk]
 · have:=h.2 i hi;rw[List.getD_eq_getElem?_getD,List.getElem?_set_ne (Ne.symm e),←List.getD_eq_getElem?_getD,this];by_cases c:i<k
   · rw[if_pos c,if_pos (by omega)]
   · rw[if_neg c,if_neg (by omega)]
theorem wG.done{n:Nat}{l l':List ByteArray}(h:wG n l l' l.length):l'=iG n l:=by
 apply List.ext_getElem?;intro i;by_cases hi:i<l.length
 · have:=h.2 i hi;rw[if_pos hi] at this;rw[List.getElem?_eq_getElem (by rw[h.1];exact hi),List.getElem?_eq_getElem (by rw[sg];exact hi)];rw[List.getD_eq_getElem?_getD,List.getD_eq_getElem?_getD,List.getElem?_eq_getElem (by rw[h.1];exact hi),List.getElem?_eq_getElem (by rw[sg];exact hi)] at this;simpa using this
 · rw[List.getElem?_eq_none (by rw[h.1];omega),List.getElem?_eq_none (by rw[sg];omega)]
def xd(n g:Nat)(l:List ByteArray)(w1:World)(j:Value)(wr:World):Prop:=
 ∃(k:Nat) (l':List ByteArray),1≤k∧k≤l.length∧j=.int .i64 k∧Sm [g] w1 wr∧dr wr g 0 l'∧wG n l l' k∧(∀i,wr.frozen? ⟨g,i,none⟩=false)
theorem s4{x:ByteArray}{l:List ByteArray}(h:blank x=true):gJ (x :: l)=gJ l:=by simp[gJ,h]
theorem Dn{x:ByteArray}{l:List ByteArray}(h:blank x=false):gJ (x :: l)=x :: l:=by simp[gJ,h]
def wE(l:List ByteArray):Nat:=(l.map fun x=>x.size+1).sum
theorem ja(x:ByteArray)(l:List ByteArray):wE (x :: l)=x.size+1+wE l:=by simp[wE]
theorem vK(s:ByteArray)(i fr:Nat)(h:fr≤i)(hi:i≤s.size):wE (bA s i fr)≤s.size-fr+1:=by
 by_cases h1:i<s.size
 · by_cases h2:nx s i=10∨nx s i=13
   · rw[fP h1 h2,ja];have hg:=sk s i;have he:mY s i≤s.size:=by unfold mY;split<;>omega
     have:=vK s (mY s i) (mY s i) lr he;simp only[ByteArray.size_extract];omega
   · rw[nt h1 h2];exact vK s (i+1) fr (by omega) (by omega)
 · rw[kx h1,ja];simp[wE,ByteArray.size_extract]
termination_by s.size-i
theorem LM(n:Nat)(l:List ByteArray):wE (l.map (jo n))≤wE l:=by
 induction l with
 | nil=>exact lr
 | cons x l ih=>
  simp only[List.map_cons,ja];have:(jo n x).size≤x.size:=by unfold jo;simp[ByteArray.size_extract]
  omega
theorem Tj(n:Nat)(l:List ByteArray):wE (iG n l)≤wE l:=by
 cases l with
 | nil=>exact lr
 | cons x l=>have:=LM n l;simp only[iG,ja];omega
theorem zj(l:List ByteArray)(k:Nat):wE (l.take k)≤wE l:=by
 induction l generalizing k with
 | nil=>simp
 | cons x l ih=>cases k with| zero=>simp[wE]|succ k=>have:=ih k;simp only[List.take_succ_cons,ja];omega
def DL(base:Nat)(t:List ByteArray)(w1:World)(v:Value)(wr:World):Prop:=
 ∃(b o c:Nat) (l:List ByteArray),v=.slice (some ⟨b,o,none⟩) l.length c∧l.length≤c∧c≤maxLen∧l.length≤1099511627777∧base≤b∧Sm [] w1 wr∧dr wr b o l∧Hd (t=gJ l)∧Hd (∀x∈l,x.size≤1099511627776)∧wE l≤1099511627777
def FI(base:Nat)(t:List ByteArray)(m:Nat)(w1:World)(v:Value)(wr:World):Prop:=
 ∃(b o c:Nat) (l:List ByteArray) (d:Nat),v=.slice (some ⟨b,o,none⟩) l.length c∧l.length≤c∧c≤maxLen∧l.length≤1099511627777∧base≤b∧Sm [] w1 wr∧dr wr b o l∧Hd (t=fT d l)∧l.length≤d∧Hd (∀x∈l,x.size≤1099511627776)∧wE l≤1099511627777
def P0(l:List ByteArray)(r:ByteArray)(v j:Value):Prop:=
 ∃(k:Nat) (out:ByteArray),k≤l.length∧j=.int .i64 k∧v=.string out∧Hd (r=qB out k (l.drop k))∧out.size+wE (l.drop k)≤1099511627777
def lenOf:Value→Nat|.slice _ n _=>n|_=>0
theorem FU(n:Nat)(x:ByteArray):(jo n x).size≤x.size:=by unfold jo;simp[ByteArray.size_extract]
theorem IB{n B:Nat}{l:List ByteArray}(h:∀x∈l,x.size≤B):∀x∈iG n l,x.size≤B:=by
 cases l with
 | nil=>exact h
 | cons y l=>
  intro x hx;rcases List.mem_cons.1 hx with rfl|hx
  · exact h _ (List.mem_cons_self ..)
  · obtain⟨z,hz,rfl⟩:=List.mem_map.1 hx;exact Nat.le_trans (FU n z) (h _ (List.mem_cons_of_mem _ hz))
theorem uj(s:ByteArray)(w:World)(hs:s.size≤1099511627776) :
 Calls Tryz.prog 90 #[.string s] w fun e w'=>e=.returned (.string (iF s))∧Sm [] w w':=by
 have tX:=vr s 0 0;have om:=mg s 0 0;have KO:=ns s 0 0;have Nz:wE (bA s 0 0)≤1099511627777:=by have:=vK s 0 0 lr (Nat.zero_le _);omega
 go_enter Tryz.func90,Tryz.ntmps90;go_wp2_with fail;refine(zJ s _ hs).mono ?_;rintro e w1 ⟨v,rfl,aJ,iI⟩;obtain⟨hn,g,cap,rfl,Nt,EV,R7,S4,V1⟩:=rf aJ tX;have lD:=xM aJ;have Mi:∀i,w1.frozen? ⟨g,i,none⟩=false:=fun i=>aJ.frozenAt i;have hP:Hd (iF s=qB ByteArray.empty 0 (fT (gJ (iG (df (bA s 0 0)) (bA s 0 0))).length (gJ (iG (df (bA s 0 0)) (bA s 0 0))))):=rfl;generalize bA s 0 0=l at lD hP tX om KO R7 Nz;clear aJ hn V1;have Z4:0<l.length:=by cases l with| nil=>exact absurd rfl tX|cons=>simp
 have hl:l.length≤1099511627777:=by omega
 have hL:Hd (∀x∈l,x.size≤1099511627776):=fun x hx=>Nat.le_trans (om x hx) hs;clear om tX KO;have hS:Hd (dr w1 g 0 l):=lD;have hF:Hd (∀i,w1.frozen? ⟨g,i,none⟩=false):=Mi;clear lD Mi;go_wp2_with (go_at_call 120;refine(BK l g 0 cap _ hS.out hl hL.out).mono ?_;rintro e w' ⟨rfl,hw⟩;rw[hw];clear hw w');have PH:df l≤1099511627776:=FR l hL.out;generalize df l=n at hP PH
 go_loopw [5] (fun j wr=>xd n g l w1 j wr) (fun j _=>l.length-(intOf j).toNat)
 case atStart=>unfold xd;exact⟨1,l,by omega,by omega,rfl,sr,hS.out,wG.start n l,hF.out⟩
 case round=>
  unfold xd at hrel;obtain⟨k,l',K9,ri,rfl,Ew,lD,hcut,Mi⟩:=hrel;have k1:(0:Int)≤(k:Int):=by omega
  have Z3:l'.length=l.length:=hcut.1;by_cases b9:k<l.length
  · have k2:(k:Int)<(l.length:Int):=by omega
    have hc:=lD k (by omega);have Y7:l'.getD k ByteArray.empty=l.getD k ByteArray.empty:=by have:=hcut.2 k b9;rw[if_neg (by omega)] at this;exact this
    rw[Y7] at hc;have hx:(l.getD k ByteArray.empty).size≤1099511627776:=hL.out _ (lB b9);have IU:Hd (wG n l (l'.set k (jo n (l.getD k ByteArray.empty))) (k+1)):=hcut.step K9 b9;have Ci:Hd (dr wr g 0 l'):=lD;generalize l.getD k ByteArray.empty=x at hc hx IU;simp only[Nat.zero_add] at hc;have hf:=Mi k;have XJ:Hd (∀i,wr.frozen? ⟨g,i,none⟩=false):=Mi;clear lD hcut Mi Y7;by_cases hm:n≤x.size
    · have Z5:(n:Int)≤(x.size:Int):=by omega
      have hy:jo n x=x.extract n x.size:=by unfold jo;rw[Nat.min_eq_left hm]
      rw[hy] at IU;clear hy;have fin:xd n g l w1 (.int .i64 ((k:Int)+1)) (wr.setCell ⟨g,k,none⟩ (.string (x.extract n x.size))).drew:=by unfold xd;exact⟨k+1,_,by omega,by omega,by go_num,(Ew.setCell (.inr (by simp)) _).drew,Ci.out.set (by omega) _,IU.out,fun i=>by simpa using XJ.out i⟩
      go_wp2_with fail
      go_region
      go_wp2_with fail;go_roundw
      case rel=>exact fin
      case measure=>simp[intOf];omega
    · have Z5:¬(n:Int)≤(x.size:Int):=by omega
      have hy:jo n x=ByteArray.empty:=by unfold jo;rw[Nat.min_eq_right (by omega)];simp
      rw[hy] at IU;clear hy;have fin:xd n g l w1 (.int .i64 ((k:Int)+1)) (wr.setCell ⟨g,k,none⟩ (.string ByteArray.empty)).drew:=by unfold xd;exact⟨k+1,_,by omega,by omega,by go_num,(Ew.setCell (.inr (by simp)) _).drew,Ci.out.set (by omega) _,IU.out,fun i=>by simpa using XJ.out i⟩
      go_wp2_with fail
      go_region
      go_wp2_with fail;go_roundw
      case rel=>exact fin
      case measure=>simp[intOf];omega
  · have k2:¬((k:Int)<(l.length:Int)):=by omega
    obtain rfl:k=l.length:=by omega
    have Vh:=hcut.done;subst Vh;have Ci:Hd (dr wr g 0 (iG n l)):=lD;have PL:Hd (∀x∈iG n l,x.size≤1099511627776):=IB hL.out;have hlen:(iG n l).length=l.length:=sg n l;have Y4:wE (iG n l)≤1099511627777:=Nat.le_trans (Tj n l) Nz;have sw:Sm [] w wr:=Ew.forget iI (by simp;omega);clear lD hcut Mi hS hF hL Z3;have XV:(iG n l).length≤1099511627777:=by omega
    have YY:(iG n l).length≤cap:=by omega
    rw[←hlen] at *;generalize iG n l=l2 at *;go_wp2_with fail;obtain⟨wo,rfl⟩:∃wo:World,wo=wr:=⟨_,rfl⟩
    go_loopw [3] (fun v wz=>DL w.heap.size (gJ l2) wo v wz) (fun v _=>lenOf v)
    case atStart=>unfold DL;exact⟨g,0,cap,l2,rfl,YY,S4,XV,Nt,sr,Ci.out,rfl,PL,Y4⟩
    case round=>
     unfold DL at hrel;obtain⟨b,o,c,l3,rfl,Oy,R8,KN,uf,sz,uz,Sh,AQ,Ge⟩:=hrel;by_cases Se:∃x r,l3=x :: r∧blank x=true
     · obtain⟨x,r,rfl,tV⟩:=Se;have hx:x.size≤1099511627776:=AQ.out x (List.mem_cons_self ..);have hc:=uz 0 (by simp);have hbe:bS x 0=x.size:=of_decide_eq_true tV;have KQ:Hd (gJ l2=gJ r):=Sh.out.trans (s4 tV);have Vs:wE r≤1099511627777:=by rw[ja] at Ge;omega
       clear Ge;have Nx:r.length+1≤c:=by simpa using Oy
       have hsr:Hd (∀y∈r,y.size≤1099511627776):=fun y hy=>AQ.out y (List.mem_cons_of_mem _ hy);have Z0A:Hd (dr wr b (o+1) r):=uz.TF;have Cj:Hd (r=[]→dr wr b o r):=fun h=>by subst h;exact dr.nil _ _ _
       have e1:(bS x 0==x.size)=true:=by simp[hbe]
       have p1:((0:Int)<((x :: r).length:Int)):=by simp
       simp only[Nat.add_zero,List.getD_cons_zero] at hc;have Gd:r.length≤1099511627777:=by simp at KN;omega
       simp only[List.length_cons] at p1 KN;clear uz Sh AQ tV hbe Oy;simp only[List.length_cons];have p2:(0:Nat)<r.length+1:=by omega
       by_cases R7:c=1
       · subst R7;obtain rfl:r=[]:=List.eq_nil_of_length_eq_zero (by omega);go_wp2_with fail;go_quiet ((go_at_call 121;exact Calls.quiet_of_same (du _ _ hx)));go_wp2_with fail;refine⟨?_,by simp[lenOf]⟩;unfold DL;exact⟨b,o,0,[],rfl,by simp,by omega,by simp,uf,sz.drewN _,dr.nil _ _ _,KQ,fun y hy=>by simp at hy,by simp[wE]⟩
       · have q1:(1:Int)≤(c:Int):=by omega
         have q2:¬(c=1):=R7;have q3:(1:Nat)≤r.length+1:=by omega
         go_wp2_with fail;go_quiet ((go_at_call 121;exact Calls.quiet_of_same (du _ _ hx)));go_wp2_with fail;refine⟨?_,by simp[lenOf]⟩;unfold DL;exact⟨b,o+1,c-1,r,rfl,by omega,by omega,Gd,uf,sz.drewN _,Z0A.out,KQ,hsr,Vs⟩
     · have Ce:Hd (gJ l2=l3):=by
        unfold Hd;rw[Sh.out]
        cases l3 with
        | nil=>rfl
        | cons x r=>exact Dn (by cases hb:blank x with| false=>rfl|true=>exact absurd ⟨x,r,rfl,hb⟩ Se)
       have Vd:Hd (∀h:0<l3.length,blank (l3.getD 0 ByteArray.empty)=false):=fun h=>by
        cases l3 with
        | nil=>simp at h
        | cons x r=>cases hb:blank x with| false=>exact hb|true=>exact absurd ⟨x,r,rfl,hb⟩ Se
       have hT:Hd (iF s=qB ByteArray.empty 0 (fT l3.length l3)):=by unfold Hd;rw[hP.out,Ce.out]
       have Yr:=sw.trans sz;have Ci:Hd (dr wr b o l3):=uz;clear hP Sh uz Se Ce;rcases Nat.eq_zero_or_pos l3.length with h0|h0
       all_goals first
        | (have z:l3.length=0:=h0;clear h0;go_wp2_with fail;go_quiet (fail);go_wp2_with fail)
        | (
         have hc:=Ci.out 0 h0;have hx:(l3.getD 0 ByteArray.empty).size≤1099511627776:=AQ.out _ (lB h0);have hb:=Vd.out h0;generalize l3.getD 0 ByteArray.empty=x at hc hx hb;have e1:(bS x 0==x.size)=false:=by have:=of_decide_eq_false hb;simpa using this
         have p1:(0:Int)<(l3.length:Int):=by omega
         simp only[Nat.add_zero] at hc;clear hb
         go_wp2_with fail;go_quiet ((go_at_call 121;exact Calls.quiet_of_same (du _ _ hx)));go_wp2_with fail)
       all_goals
        have Uh:=Yr.drewN nq;have Z0B:Hd (dr (wr.drewN nq) b o l3):=Ci.out;generalize wr.drewN nq=wq at *;clear Yr Ci
        go_loopw [3] (fun v wr=>FI w.heap.size (fT l3.length l3) 0 wq v wr) (fun v _=>lenOf v)
        case atStart=>unfold FI;exact⟨b,o,c,l3,l3.length,rfl,Oy,R8,KN,uf,sr,Z0B.out,rfl,by omega,AQ,Ge⟩
        case round=>
         unfold FI at hrel;obtain⟨b5,o5,c5,l5,d,rfl,Pf,YW,hl5,WT,Uk,Cj,Rg,hd5,Ny,PN⟩:=hrel;rcases Nat.eq_zero_or_pos l5.length with h5|h5
         · have uw:Hd (fT l3.length l3=l5):=by
            unfold Hd;rw[Rg.out]
            cases d with
            | zero=>rfl
            | succ d=>unfold fT;rw[if_neg (by omega)]
           have z5:l5.length=0:=h5;clear h5 Rg;go_wp2_with fail;go_quiet (fail);go_wp2_with fail;obtain rfl:l5=[]:=List.eq_nil_of_length_eq_zero z5;have hR:Hd (iF s=ByteArray.empty):=by unfold Hd;rw[hT.out,uw.out];rfl
           have sR:Sm [] w (wr.drewN nq):=(Uh.trans Uk).drewN nq;generalize wr.drewN nq=wv at *;clear z5
           go_loop [6,7] (fun v j=>v=.string ByteArray.empty∧j=.int .i64 0) (fun _ j=>0)
           case atStart=>exact⟨rfl,rfl⟩
           case round=>obtain⟨rfl,rfl⟩:=hrel;go_wp2_with fail;go_ret;exact⟨sX hR.out.symm,sR⟩
         · obtain⟨m,hm⟩:∃m,l5.length=m+1:=⟨l5.length-1,by omega⟩;have hc:=Cj m (by omega);have WZ:(l5.getD m ByteArray.empty).size≤1099511627776:=Ny.out _ (lB (by omega));obtain⟨d,rfl⟩:∃e,d=e+1:=⟨d-1,by omega⟩;have KT:Hd (fT l3.length l3=if blank (l5.getD m ByteArray.empty)=true then fT d (l5.take m) else l5):=by unfold Hd;rw[Rg.out];rw[fT,hm];simp
           generalize l5.getD m ByteArray.empty=x5 at hc WZ KT;have p5:(0:Nat)<m+1:=by omega
           have p6:(0:Int)<(m:Int)+1:=by omega
           have p7:(m:Int)<(m:Int)+1:=by omega
           cases tV:blank x5 with
           | true=>
            have e5:(bS x5 0==x5.size)=true:=by have:=of_decide_eq_true tV;simpa using this
            rw[tV] at KT;have Z9:Hd (fT l3.length l3=fT d (l5.take m)):=KT;have Z0C:Hd (dr wr b5 o5 (l5.take m)):=Cj.take m;have Z8:Hd (∀y∈l5.take m,y.size≤1099511627776):=fun y hy=>Ny.out y (List.mem_of_mem_take hy);have Rb:(l5.take m).length=m:=by simp;omega
            have q5:(m:Int)≤(c5:Int):=by omega
            have q6:m≤c5:=by omega
            clear tV KT Rg Cj Ny;rw[hm];go_wp2_with fail;go_quiet ((go_at_call 121;exact Calls.quiet_of_same (du _ _ WZ)));go_wp2_with fail;refine⟨?_,by simp[lenOf]⟩;unfold FI
            exact⟨b5,o5,c5,l5.take m,d,by rw[Rb],by omega,YW,by omega,WT,Uk.drewN _,Z0C.out,Z9,by omega,Z8,Nat.le_trans (zj _ _) PN⟩
           | false=>
            have e5:(bS x5 0==x5.size)=false:=by have:=of_decide_eq_false tV;simpa using this
            rw[tV] at KT;have uw:Hd (fT l3.length l3=l5):=KT;clear tV KT Rg;rw[hm];go_wp2_with fail;go_quiet ((go_at_call 121;exact Calls.quiet_of_same (du _ _ WZ)));go_wp2_with fail;have hR:Hd (iF s=qB ByteArray.empty 0 l5):=by unfold Hd;rw[hT.out,uw.out]
            have sR:Sm [] w (wr.drewN nq):=(Uh.trans Uk).drewN nq;have Z0D:Hd (dr (wr.drewN nq) b5 o5 l5):=Cj;generalize wr.drewN nq=wv at *
            go_loop [6,7] (fun v j=>P0 l5 (iF s) v j) (fun _ j=>l5.length-(intOf j).toNat)
            case atStart=>unfold P0;exact⟨0,ByteArray.empty,by omega,rfl,rfl,hR,by simpa using PN⟩
            case round=>
             unfold P0 at hrel;obtain⟨k8,out,hk8,rfl,rfl,hj,hos⟩:=hrel;have k81:(0:Int)≤(k8:Int):=by omega
             by_cases Vj:k8<l5.length
             · have hc8:=Z0D.out k8 Vj;rw[yv Vj,ja] at hos;have Vf:Hd (iF s=qB ((if 0<k8 then out++⟨#[10]⟩ else out)++l5.getD k8 ByteArray.empty) (k8+1) (l5.drop (k8+1))):=by unfold Hd;rw[hj.out,yv Vj];rfl
               have k82:(k8:Int)<(l5.length:Int):=by omega
               have k84:(k8:Int)<(m:Int)+1:=by omega
               have k85:k8<m+1:=by omega
               generalize l5.getD k8 ByteArray.empty=x8 at hc8 Vf hos;have b1:out.size+1≤maxLen:=by unfold maxLen;omega
               have b2:(out++⟨#[10]⟩:ByteArray).size+x8.size≤maxLen:=by simp only[ByteArray.size_append];show out.size+1+x8.size≤_;unfold maxLen;omega
               have b3:out.size+x8.size≤maxLen:=by unfold maxLen;omega
               by_cases OA:0<k8
               · have k83:(0:Int)<(k8:Int):=by omega
                 rw[if_pos OA] at Vf;go_wp2_with fail;go_round
                 case rel=>(first| refine⟨_,_,?_,rfl,rfl⟩|skip);unfold P0;exact⟨k8+1,_,by omega,by go_num,rfl,Vf,by simp only[ByteArray.size_append];have:(⟨#[10]⟩:ByteArray).size=1:=rfl;omega⟩
                 case measure=>simp[intOf];omega
               · obtain rfl:k8=0:=by omega
                 rw[if_neg OA] at Vf;simp only[Nat.add_zero] at hc8;go_wp2_with fail;go_round
                 case rel=>(first| refine⟨_,_,?_,rfl,rfl⟩|skip);unfold P0;exact⟨0+1,_,by omega,by go_num,rfl,Vf,by simp only[ByteArray.size_append];omega⟩
                 case measure=>simp[intOf];omega
             · have k82:¬((k8:Int)<(l5.length:Int)):=by omega
               have Vf:Hd (iF s=out):=by unfold Hd;rw[hj.out,List.drop_of_length_le (by omega)];rfl
               have k84:¬((k8:Int)<(m:Int)+1):=by omega
               have k85:m+1≤k8:=by omega
               have k86:¬k8<m+1:=by omega
               go_wp2_with fail;go_ret;exact⟨sX Vf.out.symm,sR⟩
end Go.Proofs.YtnpjmhodfdgloaaGreatDoor
