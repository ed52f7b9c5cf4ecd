/- Part of the proof. -/
import Derived.Test.YtnpjmhodfdgloaaGreatDoorQ09
set_option linter.unusedVariables false
set_option linter.unusedSimpArgs false
namespace Go.Proofs.YtnpjmhodfdgloaaGreatDoor
set_option maxRecDepth 100000
set_option maxHeartbeats 32000000
open Go.RowKit
def BS(c:Nat):Option UInt8:=
 if c=34 then some 34 else if c=92 then some 92 else if c=47 then some 47 else if c=98 then some 8 else if c=102 then some 12 else if c=110 then some 10 else if c=114 then some 13 else if c=116 then some 9 else none
def uv(s:ByteArray)(k m:Nat)(q:Int):Option Int×Nat:=
 if h:k<m then(if eO (nx s k)<0 then(none,k) else uv s (k+1) m (16*q+eO (nx s k))) else(some q,m)
termination_by m-k
def iU(s:ByteArray)(i:Nat)(u:Bool):ByteArray×Nat×Bool:=
 match BS (nx s (i+1)) with
 | some b=>(⟨#[b]⟩,2,u)
 | none=>if nx s (i+1)≠117 then(ByteArray.empty,0,u) else
  match uv s (i+2) (i+6) 0 with
  | (none,k)=>(ByteArray.empty,0,u||decide (nx s k=123))
  | (some n,_)=>if 55296≤n∧n<57344 then(ByteArray.empty,0,true) else(Utf8.encode n,6,u||decide (n=0))
theorem oL(c:Nat):-1≤eO c∧eO c≤15:=by unfold eO;(repeat' split)<;>omega
theorem bM.sm{w w':World}{xb:Nat}{s:ByteArray}{x:Lx}(h:bM w xb s x)(hs:Sm [] w w'):bM w' xb s x:=by obtain⟨ov,h1,h2⟩:=h;exact⟨ov,hs.obj h1 (by simp),h2.kept (row:=none) ⟨hs.os,hs.tape,hs.output,hs.size,fun k hk _=>hs.block k hk (by simp)⟩ (by cases h:ov.ownBlock with| none=>exact .inl rfl|some b=>exact .inr (by simp))⟩
def kO(j:Nat):Nat:=match j with| 0=>34|1=>92|2=>47|3=>98|4=>102|5=>110|6=>114|_=>116
theorem nZ{c k:Nat}(hn:∀j,j<k→kO j≠c)(h:kO k≠c):∀j,j<k+1→kO j≠c:=by
 intro j hj;by_cases e:j=k
 · rw[e];exact h
 · exact hn j (by omega)
def Un(c:Nat)(v:Value):Prop:=∃k:Nat,k≤8∧v=.int .i64 (k:Int)∧Hd (∀j,j<k→kO j≠c)
def UC(s:ByteArray)(i:Nat)(v u:Value):Prop:=∃(k:Nat) (q:Int),i+2≤k∧k≤i+6∧v=.int .i64 q∧u=.int .i64 (k:Int)∧0≤q∧Hd (q<16 ^ (k-(i+2)))∧Hd (uv s (i+2) (i+6) 0=uv s k (i+6) q)
theorem KF(xb:Nat)(s:ByteArray)(i:Nat)(x:Lx)(w:World)(hx:bM w xb s x)(hs:s.size≤1099511627776)(hi:i≤1099511627776) :
 Calls Tryz.prog 91 #[.pointer (some ⟨xb,0,none⟩),.int .i64 (i:Int)] w fun e w'=>e=.returned (.tuple #[.string (iU s i x.unsure).1,.int .i64 ((iU s i x.unsure).2.1:Int)])∧bM w' xb s {x with unsure:=(iU s i x.unsure).2.2}∧Below xb w w':=by
 obtain⟨ov,h1,h2,c0,c1,c3,c4,f1,f3,f4⟩:=hx.facts;obtain⟨c,hc⟩:∃c,nx s (i+1)=c:=⟨_,rfl⟩;have YX:c<256:=by rw[←hc];exact fb _ _
 go_enter Tryz.func91,Tryz.ntmps91;have nxt:=pJ xb s ((i:Int)+1) w (i:=i+1) rfl c0 (by omega);rw[hc] at nxt;go_wp2_with (go_at_call 50;refine nxt.mono ?_;rintro e w' ⟨rfl,aY⟩;rw[aY];clear aY w')
 go_loop [9] (fun v=>Un c v) (fun v=>8-(intOf v).toNat)
 case atStart=>exact⟨0,by omega,rfl,fun j h=>by omega⟩
 case round=>
  obtain⟨k,hk,rfl,hn⟩:=hrel;have t0:((({data:=#[34,92,47,98,102,110,114,116]}:ByteArray)[0]'(by decide))).toNat=34:=rfl;have t1:((({data:=#[34,92,47,98,102,110,114,116]}:ByteArray)[1]'(by decide))).toNat=92:=rfl;have t2:((({data:=#[34,92,47,98,102,110,114,116]}:ByteArray)[2]'(by decide))).toNat=47:=rfl;have t3:((({data:=#[34,92,47,98,102,110,114,116]}:ByteArray)[3]'(by decide))).toNat=98:=rfl;have t4:((({data:=#[34,92,47,98,102,110,114,116]}:ByteArray)[4]'(by decide))).toNat=102:=rfl;have t5:((({data:=#[34,92,47,98,102,110,114,116]}:ByteArray)[5]'(by decide))).toNat=110:=rfl;have t6:((({data:=#[34,92,47,98,102,110,114,116]}:ByteArray)[6]'(by decide))).toNat=114:=rfl;have t7:((({data:=#[34,92,47,98,102,110,114,116]}:ByteArray)[7]'(by decide))).toNat=116:=rfl;by_cases h8:k=8
  · subst h8
    have e1:BS c=none:=by
     have:=hn.out;unfold BS;have a0:=this 0 (by omega);have a1:=this 1 (by omega);have a2:=this 2 (by omega);have a3:=this 3 (by omega);have a4:=this 4 (by omega);have a5:=this 5 (by omega);have a6:=this 6 (by omega);have a7:=this 7 (by omega);simp only[kO] at a0 a1 a2 a3 a4 a5 a6 a7
     (repeat' split)<;>first| rfl|omega
    have he:Hd (iU s i x.unsure=if c≠117 then(ByteArray.empty,0,x.unsure) else
     match uv s (i+2) (i+6) 0 with
     | (none,k)=>(ByteArray.empty,0,x.unsure||decide (nx s k=123))
     | (some n,_)=>if 55296≤n∧n<57344 then(ByteArray.empty,0,true) else(Utf8.encode n,6,x.unsure||decide (n=0))):=by unfold Hd iU;rw[hc,e1]
    clear e1 hn;by_cases tR:c=117
    · have hg:Hd (iU s i x.unsure=match uv s (i+2) (i+6) 0 with
       | (none,k)=>(ByteArray.empty,0,x.unsure||decide (nx s k=123))
       | (some n,_)=>if 55296≤n∧n<57344 then(ByteArray.empty,0,true) else(Utf8.encode n,6,x.unsure||decide (n=0))):=by unfold Hd;rw[he.out,if_neg (by omega)]
      clear he nxt hc YX t0 t1 t2 t3 t4 t5 t6 t7;subst tR;go_wp2_with fail
      go_loop [10,11,12] (fun v u _=>UC s i v u) (fun _ u _=>i+6-(intOf u).toNat)
      case atStart=>exact⟨i+2,0,by omega,by omega,rfl,rfl,by omega,by unfold Hd;simp,rfl⟩
      case round=>
       obtain⟨k,q,K9,ri,rfl,rfl,hq0,IZ,hh⟩:=hrel
       have js:q<65536:=by
        have:=IZ.out;have:k-(i+2)=0∨k-(i+2)=1∨k-(i+2)=2∨k-(i+2)=3∨k-(i+2)=4:=by omega
        rcases this with h|h|h|h|h<;>(rw[h] at IZ;have:=IZ.out;omega)
       by_cases b9:k<i+6
       · have z1:(k:Int)<(i:Int)+6:=by omega
         have hl:=oL (nx s k);have Z6:=fb s k;by_cases Vm:eO (nx s k)<0
         · have TM:Hd (iU s i x.unsure=(ByteArray.empty,0,x.unsure||decide (nx s k=123))):=by unfold Hd;rw[hg.out,hh.out,uv,dif_pos b9,if_pos Vm]
           clear hg hh IZ;have Z1W:decide (eO (nx s k)<0)=true:=decide_eq_true Vm
           cases hu:x.unsure with
           | true=>
            have hf:Hd (iU s i x.unsure=(ByteArray.empty,0,true)):=by unfold Hd;rw[TM.out,hu];rfl
            rw[hu] at c4;go_wp2_with (first| (go_at_call 50;refine(jM xb s k w c0 (by omega)).mono ?_;rintro e w' ⟨rfl,aY⟩;rw[aY];clear aY w')|(go_at_call 122;refine(oj (nx s k) Z6 w).mono ?_;rintro e w' ⟨rfl,aY⟩;rw[aY];clear aY w'))
            go_ret2;rw[hf.out]
            exact⟨rfl,ej (y:={x with unsure:=true}) hx (Below.refl _ _) 4 (.bool true) (by decide) (fun _=>rfl) rfl⟩
           | false=>
            have hf:Hd (iU s i x.unsure=(ByteArray.empty,0,decide (nx s k=123))):=by unfold Hd;rw[TM.out,hu];rfl
            rw[hu] at c4;obtain⟨bb,tE⟩:∃bb,decide (nx s k=123)=bb:=⟨_,rfl⟩;have kh:((nx s k:Int)==123)=bb:=by rw[←tE,Bool.eq_iff_iff];simp;omega
            rw[tE] at hf;clear tE;go_wp2_with (first| (go_at_call 50;refine(jM xb s k w c0 (by omega)).mono ?_;rintro e w' ⟨rfl,aY⟩;rw[aY];clear aY w')|(go_at_call 122;refine(oj (nx s k) Z6 w).mono ?_;rintro e w' ⟨rfl,aY⟩;rw[aY];clear aY w'))
            go_ret2;rw[hf.out];exact⟨rfl,ej (y:={x with unsure:=bb}) hx (Below.refl _ _) 4 (.bool bb) (by decide) (fun _=>rfl) rfl⟩
         · have hh':Hd (uv s (i+2) (i+6) 0=uv s (k+1) (i+6) (16*q+eO (nx s k))):=by unfold Hd;rw[hh.out,uv,dif_pos b9,if_neg Vm]
           have mE:Hd (16*q+eO (nx s k)<16 ^ (k+1-(i+2))):=by unfold Hd;rw[show k+1-(i+2)=(k-(i+2))+1 by omega,Int.pow_succ];have:=IZ.out;omega
           clear hh IZ;go_wp2_with (first| (go_at_call 50;refine(jM xb s k w c0 (by omega)).mono ?_;rintro e w' ⟨rfl,aY⟩;rw[aY];clear aY w')|(go_at_call 122;refine(oj (nx s k) Z6 w).mono ?_;rintro e w' ⟨rfl,aY⟩;rw[aY];clear aY w'))
           go_round
           case rel=>exact⟨k+1,_,by omega,by omega,rfl,by go_num,by omega,mE,hh'⟩
           case measure=>simp[intOf];omega
       · obtain rfl:k=i+6:=by omega
         have TM:Hd (iU s i x.unsure=if 55296≤q∧q<57344 then(ByteArray.empty,0,true) else(Utf8.encode q,6,x.unsure||decide (q=0))):=by unfold Hd;rw[hg.out,hh.out,uv,dif_neg b9]
         clear hg hh IZ;by_cases vl:55296≤q
         · by_cases hhi:q<57344
           · have hf:Hd (iU s i x.unsure=(ByteArray.empty,0,true)):=by unfold Hd;rw[TM.out,if_pos ⟨vl,hhi⟩]
             go_wp2_with fail;go_ret2;rw[hf.out];exact⟨rfl,ej (y:={x with unsure:=true}) hx (Below.refl _ _) 4 (.bool true) (by decide) (fun _=>rfl) rfl⟩
           · have XR:Hd (iU s i x.unsure=(Utf8.encode q,6,x.unsure||decide (q=0))):=by unfold Hd;rw[TM.out,if_neg (by omega)]
             clear TM
             cases hu:x.unsure with
             | true=>
              have hf:Hd (iU s i x.unsure=(Utf8.encode q,6,true)):=by unfold Hd;rw[XR.out,hu];rfl
              rw[hu] at c4;have st:=ej (y:={x with unsure:=true}) hx (Below.refl _ _) 4 (.bool true) (by decide) (fun _=>rfl) rfl;go_wp2_with (go_at_call 123;refine(qv q _ (by omega) (by omega)).mono ?_;rintro e w' ⟨rfl,iI⟩);go_ret2;rw[hf.out]
              exact⟨rfl,st.1.sm iI,st.2.trans (iI.below.mono (by have:=lt_of_block h1;simp;omega))⟩
             | false=>
              have hf:Hd (iU s i x.unsure=(Utf8.encode q,6,(q==0))):=by unfold Hd;rw[XR.out,hu,Bool.false_or];congr 2
              rw[hu] at c4;have st:=ej (y:={x with unsure:=(q==0)}) hx (Below.refl _ _) 4 (.bool (q==0)) (by decide) (fun _=>rfl) rfl;go_wp2_with (go_at_call 123;refine(qv q _ (by omega) (by omega)).mono ?_;rintro e w' ⟨rfl,iI⟩);go_ret2;rw[hf.out];exact⟨rfl,st.1.sm iI,st.2.trans (iI.below.mono (by have:=lt_of_block h1;simp;omega))⟩
         · have XR:Hd (iU s i x.unsure=(Utf8.encode q,6,x.unsure||decide (q=0))):=by unfold Hd;rw[TM.out,if_neg (by omega)]
           clear TM
           cases hu:x.unsure with
           | true=>
            have hf:Hd (iU s i x.unsure=(Utf8.encode q,6,true)):=by unfold Hd;rw[XR.out,hu];rfl
            rw[hu] at c4;have st:=ej (y:={x with unsure:=true}) hx (Below.refl _ _) 4 (.bool true) (by decide) (fun _=>rfl) rfl;go_wp2_with (go_at_call 123;refine(qv q _ (by omega) (by omega)).mono ?_;rintro e w' ⟨rfl,iI⟩);go_ret2;rw[hf.out]
            exact⟨rfl,st.1.sm iI,st.2.trans (iI.below.mono (by have:=lt_of_block h1;simp;omega))⟩
           | false=>
            have hf:Hd (iU s i x.unsure=(Utf8.encode q,6,(q==0))):=by unfold Hd;rw[XR.out,hu,Bool.false_or];congr 2
            rw[hu] at c4;have st:=ej (y:={x with unsure:=(q==0)}) hx (Below.refl _ _) 4 (.bool (q==0)) (by decide) (fun _=>rfl) rfl;go_wp2_with (go_at_call 123;refine(qv q _ (by omega) (by omega)).mono ?_;rintro e w' ⟨rfl,iI⟩);go_ret2;rw[hf.out];exact⟨rfl,st.1.sm iI,st.2.trans (iI.below.mono (by have:=lt_of_block h1;simp;omega))⟩
    · have Z1E:((c:Int) !=117)=true:=by simp;omega
      have hf:Hd (iU s i x.unsure=(ByteArray.empty,0,x.unsure)):=by unfold Hd;rw[he.out,if_pos tR]
      clear he;go_wp2;go_ret2;rw[hf.out];exact⟨rfl,hx,Below.refl _ _⟩
  · have hk8:k=0∨k=1∨k=2∨k=3∨k=4∨k=5∨k=6∨k=7:=by omega
    rcases hk8 with rfl|rfl|rfl|rfl|rfl|rfl|rfl|rfl
    · by_cases hq:c=34
      · have hf:Hd (iU s i x.unsure=(⟨#[34]⟩,2,x.unsure)):=by unfold Hd iU;rw[hc,hq];rfl
        have AO:((c:Int)==34)=true:=by simp;omega
        have KR:((34:Int)==(c:Int))=true:=by simp;omega
        clear hc;subst hq;go_wp2;go_ret2;rw[hf.out];exact⟨rfl,hx,Below.refl _ _⟩
      · have AO:((34:Int)==(c:Int))=false:=by simp;omega
        have KP:Hd (∀j,j<1→kO j≠c):=nZ hn.out (fun h=>hq h.symm);clear hn;go_wp2;go_round
        case rel=>exact⟨1,by omega,rfl,KP⟩
        case measure=>simp[intOf]
    · by_cases hq:c=92
      · have hf:Hd (iU s i x.unsure=(⟨#[92]⟩,2,x.unsure)):=by unfold Hd iU;rw[hc,hq];rfl
        have AO:((c:Int)==92)=true:=by simp;omega
        have KR:((92:Int)==(c:Int))=true:=by simp;omega
        clear hc;subst hq;go_wp2;go_ret2;rw[hf.out];exact⟨rfl,hx,Below.refl _ _⟩
      · have AO:((92:Int)==(c:Int))=false:=by simp;omega
        have KP:Hd (∀j,j<2→kO j≠c):=nZ hn.out (fun h=>hq h.symm);clear hn;go_wp2;go_round
        case rel=>exact⟨2,by omega,rfl,KP⟩
        case measure=>simp[intOf]
    · by_cases hq:c=47
      · have hf:Hd (iU s i x.unsure=(⟨#[47]⟩,2,x.unsure)):=by unfold Hd iU;rw[hc,hq];rfl
        have AO:((c:Int)==47)=true:=by simp;omega
        have KR:((47:Int)==(c:Int))=true:=by simp;omega
        clear hc;subst hq;go_wp2;go_ret2;rw[hf.out];exact⟨rfl,hx,Below.refl _ _⟩
      · have AO:((47:Int)==(c:Int))=false:=by simp;omega
        have KP:Hd (∀j,j<3→kO j≠c):=nZ hn.out (fun h=>hq h.symm);clear hn;go_wp2;go_round
        case rel=>exact⟨3,by omega,rfl,KP⟩
        case measure=>simp[intOf]
    · by_cases hq:c=98
      · have hf:Hd (iU s i x.unsure=(⟨#[8]⟩,2,x.unsure)):=by unfold Hd iU;rw[hc,hq];rfl
        have AO:((c:Int)==98)=true:=by simp;omega
        have KR:((98:Int)==(c:Int))=true:=by simp;omega
        clear hc;subst hq;go_wp2;go_ret2;rw[hf.out];exact⟨rfl,hx,Below.refl _ _⟩
      · have AO:((98:Int)==(c:Int))=false:=by simp;omega
        have KP:Hd (∀j,j<4→kO j≠c):=nZ hn.out (fun h=>hq h.symm);clear hn;go_wp2;go_round
        case rel=>exact⟨4,by omega,rfl,KP⟩
        case measure=>simp[intOf]
    · by_cases hq:c=102
      · have hf:Hd (iU s i x.unsure=(⟨#[12]⟩,2,x.unsure)):=by unfold Hd iU;rw[hc,hq];rfl
        have AO:((c:Int)==102)=true:=by simp;omega
        have KR:((102:Int)==(c:Int))=true:=by simp;omega
        clear hc;subst hq;go_wp2;go_ret2;rw[hf.out];exact⟨rfl,hx,Below.refl _ _⟩
      · have AO:((102:Int)==(c:Int))=false:=by simp;omega
        have KP:Hd (∀j,j<5→kO j≠c):=nZ hn.out (fun h=>hq h.symm);clear hn;go_wp2;go_round
        case rel=>exact⟨5,by omega,rfl,KP⟩
        case measure=>simp[intOf]
    · by_cases hq:c=110
      · have hf:Hd (iU s i x.unsure=(⟨#[10]⟩,2,x.unsure)):=by unfold Hd iU;rw[hc,hq];rfl
        have AO:((c:Int)==110)=true:=by simp;omega
        have KR:((110:Int)==(c:Int))=true:=by simp;omega
        clear hc;subst hq;go_wp2;go_ret2;rw[hf.out];exact⟨rfl,hx,Below.refl _ _⟩
      · have AO:((110:Int)==(c:Int))=false:=by simp;omega
        have KP:Hd (∀j,j<6→kO j≠c):=nZ hn.out (fun h=>hq h.symm);clear hn;go_wp2;go_round
        case rel=>exact⟨6,by omega,rfl,KP⟩
        case measure=>simp[intOf]
    · by_cases hq:c=114
      · have hf:Hd (iU s i x.unsure=(⟨#[13]⟩,2,x.unsure)):=by unfold Hd iU;rw[hc,hq];rfl
        have AO:((c:Int)==114)=true:=by simp;omega
        have KR:((114:Int)==(c:Int))=true:=by simp;omega
        clear hc;subst hq;go_wp2;go_ret2;rw[hf.out];exact⟨rfl,hx,Below.refl _ _⟩
      · have AO:((114:Int)==(c:Int))=false:=by simp;omega
        have KP:Hd (∀j,j<7→kO j≠c):=nZ hn.out (fun h=>hq h.symm);clear hn;go_wp2;go_round
        case rel=>exact⟨7,by omega,rfl,KP⟩
        case measure=>simp[intOf]
    · by_cases hq:c=116
      · have hf:Hd (iU s i x.unsure=(⟨#[9]⟩,2,x.unsure)):=by unfold Hd iU;rw[hc,hq];rfl
        have AO:((c:Int)==116)=true:=by simp;omega
        have KR:((116:Int)==(c:Int))=true:=by simp;omega
        clear hc;subst hq;go_wp2;go_ret2;rw[hf.out];exact⟨rfl,hx,Below.refl _ _⟩
      · have AO:((116:Int)==(c:Int))=false:=by simp;omega
        have KP:Hd (∀j,j<8→kO j≠c):=nZ hn.out (fun h=>hq h.symm);clear hn;go_wp2;go_round
        case rel=>exact⟨8,by omega,rfl,KP⟩
        case measure=>simp[intOf]
theorem UW(s:ByteArray)(i:Nat)(u:Bool):(iU s i u).1.size≤(iU s i u).2.1∧(iU s i u).2.1≤6:=by
 unfold iU;split
 · exact⟨show 1≤2 by decide,show 2≤6 by decide⟩
 · split
   · exact⟨Nat.le_refl 0,show 0≤6 by decide⟩
   · split
     · exact⟨Nat.le_refl 0,show 0≤6 by decide⟩
     · split
       · exact⟨Nat.le_refl 0,show 0≤6 by decide⟩
       · exact⟨Nat.le_trans (encode_size_le _) (show 4≤6 by decide),Nat.le_refl 6⟩
def aR(s:ByteArray)(x:Lx)(k:Nat)(o:ByteArray):Lx:=
 if h:k<s.size then
  if nx s k=34 then x.add 18 (k+1) o else
  if nx s k=10∨nx s k=13 then x.fail else
  if nx s k=92 then
   (if h2:(iU s k x.unsure).2.1=0 then{x with unsure:=(iU s k x.unsure).2.2,bad:=true} else
    aR s {x with unsure:=(iU s k x.unsure).2.2} (k+(iU s k x.unsure).2.1) (o++(iU s k x.unsure).1)) else
  if h3:(pt s k).2=0 then{x with unsure:=true,bad:=true} else
  if oy (pt s k).1=false then x.fail else
  aR s {x with unsure:=x.unsure||!Qz (pt s k).1} (k+(pt s k).2) (o++s.extract k (k+(pt s k).2))
 else x.fail
termination_by s.size-k
decreasing_by
 · omega
 · omega
def RI(w:World)(xb:Nat)(s:ByteArray)(x:Lx)(g:Nat)(v u:Value)(wr:World):Prop:=
 ∃(k:Nat) (o:ByteArray) (y:Lx),v=.string o∧u=.int .i64 (k:Int)∧bM wr xb s y∧Below xb w wr∧Hd (aR s x (x.pos+1) ByteArray.empty=aR s y k o)∧k≤s.size+6∧o.size≤k∧y.out=x.out∧g=s.size-k
theorem QE(xb:Nat)(s:ByteArray)(x:Lx)(w:World)(hx:bM w xb s x)(hs:s.size≤1099511627776)(hp:x.pos≤s.size)(hn:x.out.length≤1099511627776) :
 Calls Tryz.prog 54 #[.pointer (some ⟨xb,0,none⟩)] w fun e w'=>e=.returned (.tuple #[])∧bM w' xb s (aR s x (x.pos+1) ByteArray.empty)∧Below xb w w':=by
 obtain⟨ov,h1,h2,c0,c1,c3,c4,f1,f3,f4⟩:=hx.facts;go_enter Tryz.func54,Tryz.ntmps54;go_wp2_with fail
 go_loopg [2,3,4,5,6,7,8,9,10] (s.size-(x.pos+1)) (fun g v u _ _ _ _ _ _ _ wr=>RI w xb s x g v u wr)
 case atStart=>exact⟨x.pos+1,ByteArray.empty,x,rfl,rfl,hx,Below.refl _ _,rfl,by omega,Nat.zero_le _,rfl,rfl⟩
 case round=>
  obtain⟨k,o,y,rfl,rfl,hy,hb,hd,hk,ho,OB,rfl⟩:=hrel;clear h1 h2 c0 c1 c3 c4 f1 f3 f4 hx;obtain⟨ov,h1,h2,c0,c1,c3,c4,f1,f3,f4⟩:=hy.facts;have Z6:=fb s k;by_cases q1:k<s.size
  · have z1:(0:Int)≤(k:Int):=by omega
    have z2:(k:Int)<(s.size:Int):=by omega
    have z3:s[k].toNat=nx s k:=fi q1;by_cases Yp:nx s k=34
    · have hf:Hd (aR s x (x.pos+1) ByteArray.empty=y.add 18 (k+1) o):=hd.out.trans (by rw[aR,dif_pos q1,if_pos Yp]);go_wp2_with (go_at_call 47;refine(se xb s y 18 (k+1) o wr hy (by rw[OB];exact hn)).mono ?_;rintro e w' ⟨rfl,hl,mW⟩);go_returns;exact⟨rfl,by rw[hf.out];exact hl,hb.trans mW⟩
    have e34:((nx s k:Int)==34)=false:=by simp;omega
    by_cases yT:nx s k=10
    · have hf:Hd (aR s x (x.pos+1) ByteArray.empty=y.fail):=hd.out.trans (by rw[aR,dif_pos q1,if_neg Yp,if_pos (.inl yT)]);go_wp2_with (go_at_call 55;refine(eD xb s y wr hy).mono ?_;rintro e w' ⟨rfl,hl,mW⟩);go_returns;exact⟨rfl,by rw[hf.out];exact hl,hb.trans mW⟩
    have e10:((nx s k:Int)==10)=false:=by simp;omega
    by_cases tH:nx s k=13
    · have hf:Hd (aR s x (x.pos+1) ByteArray.empty=y.fail):=hd.out.trans (by rw[aR,dif_pos q1,if_neg Yp,if_pos (.inr tH)]);go_wp2_with (go_at_call 55;refine(eD xb s y wr hy).mono ?_;rintro e w' ⟨rfl,hl,mW⟩);go_returns;exact⟨rfl,by rw[hf.out];exact hl,hb.trans mW⟩
    have e13:((nx s k:Int)==13)=false:=by simp;omega
    by_cases q92:nx s k=92
    · have hes:=UW s k y.unsure;have Me:=KF xb s k y wr hy hs (by omega);have nK:=hd.out.trans (by rw[aR,dif_pos q1,if_neg Yp,if_neg (by omega),if_pos q92]);obtain⟨t,n,u,he⟩:∃t n u,iU s k y.unsure=(t,n,u):=⟨_,_,_,rfl⟩;rw[he] at hes Me nK;dsimp only at hes Me nK;obtain⟨i1,i2⟩:=hes;clear he hd;by_cases qn:n=0
      · subst qn;rw[dif_pos rfl] at nK;have hf:Hd (aR s x (x.pos+1) ByteArray.empty={y with unsure:=u,bad:=true}):=nK;clear nK;go_wp2_with (first| (go_at_call 91;refine Me.mono ?_;rintro e w1 ⟨rfl,Vh,gP⟩)|(go_at_call 55;refine(eD xb s _ _ Vh).mono ?_;rintro e w' ⟨rfl,hl,mW⟩))
        go_returns;exact⟨rfl,by rw[hf.out];exact hl,hb.trans (gP.trans mW)⟩
      · rw[dif_neg qn] at nK;have iW:Hd (aR s x (x.pos+1) ByteArray.empty=aR s {y with unsure:=u} (k+n) (o++t)):=nK;clear nK;have en:((n:Int)==0)=false:=by simp;omega
        have WW:o.size+t.size≤maxLen:=by unfold maxLen;omega
        go_wp2_with (go_at_call 91;refine Me.mono ?_;rintro e w1 ⟨rfl,Vh,gP⟩);go_roundg (s.size-(k+n))
        case measure=>omega
        case rel=>exact⟨k+n,o++t,_,rfl,by go_num,Vh,hb.trans gP,iW,by omega,by rw[ByteArray.size_append];omega,OB,rfl⟩
    have e92:((nx s k:Int)==92)=false:=by simp;omega
    have AM:=MD s k;have zq:=fun W=>vz s k W hs q1;have nK:=hd.out.trans (by rw[aR,dif_pos q1,if_neg Yp,if_neg (by omega),if_neg q92]);obtain⟨c,n,R9⟩:∃c n,pt s k=(c,n):=⟨_,_,rfl⟩;rw[R9] at AM zq nK;dsimp only at AM zq nK;clear R9 hd;by_cases qn:n=0
    · subst qn;rw[dif_pos rfl] at nK;have hf:Hd (aR s x (x.pos+1) ByteArray.empty={y with unsure:=true,bad:=true}):=nK;clear nK AM;have st:=ej (y:={y with unsure:=true}) hy hb 4 (.bool true) (by decide) (fun _=>rfl) rfl
      cases hu:y.unsure with
      | true=>
       rw[hu] at c4;go_wp2_with (first| (go_at_call 86;refine(zq _).mono ?_;rintro e w' ⟨rfl,aY⟩;rw[aY];clear aY w')|(go_at_call 87;refine(ff c _).mono ?_;rintro e w' ⟨rfl,aY⟩;rw[aY];clear aY w')|(go_at_call 55;refine(eD xb s _ _ st.1).mono ?_;rintro e w' ⟨rfl,hl,mW⟩))
       go_returns
       exact⟨rfl,by rw[hf.out];exact hl,st.2.trans mW⟩
      | false=>
       rw[hu] at c4;go_wp2_with (first| (go_at_call 86;refine(zq _).mono ?_;rintro e w' ⟨rfl,aY⟩;rw[aY];clear aY w')|(go_at_call 87;refine(ff c _).mono ?_;rintro e w' ⟨rfl,aY⟩;rw[aY];clear aY w')|(go_at_call 55;refine(eD xb s _ _ st.1).mono ?_;rintro e w' ⟨rfl,hl,mW⟩))
       go_returns;exact⟨rfl,by rw[hf.out];exact hl,st.2.trans mW⟩
    rw[dif_neg qn] at nK;have AM:=AM qn q1;obtain⟨k1,k2,k3,k4⟩:=AM;have en:((n:Int)==0)=false:=by simp;omega
    cases Y2:oy c with
    | false=>
     rw[Y2,if_pos rfl] at nK;have hf:Hd (aR s x (x.pos+1) ByteArray.empty=y.fail):=nK;clear nK
     cases hu:y.unsure with
     | true=>
      rw[hu] at c4;have st:=ej (y:={y with unsure:=true}) hy hb 4 (.bool true) (by decide) (fun _=>rfl) rfl;go_wp2_with (first| (go_at_call 86;refine(zq _).mono ?_;rintro e w' ⟨rfl,aY⟩;rw[aY];clear aY w')|(go_at_call 87;refine(ff c _).mono ?_;rintro e w' ⟨rfl,aY⟩;rw[aY];clear aY w')|(go_at_call 55;refine(eD xb s _ _ st.1).mono ?_;rintro e w' ⟨rfl,hl,mW⟩))
      go_returns;refine⟨rfl,?_,st.2.trans mW⟩
      rw[hf.out,show y.fail=Lx.fail {y with unsure:=true} by rw[←hu]];exact hl
     | false=>
      rw[hu] at c4;have st:=ej (y:={y with unsure:=false}) hy hb 4 (.bool false) (by decide) (fun _=>rfl) rfl;go_wp2_with (first| (go_at_call 86;refine(zq _).mono ?_;rintro e w' ⟨rfl,aY⟩;rw[aY];clear aY w')|(go_at_call 87;refine(ff c _).mono ?_;rintro e w' ⟨rfl,aY⟩;rw[aY];clear aY w')|(go_at_call 55;refine(eD xb s _ _ st.1).mono ?_;rintro e w' ⟨rfl,hl,mW⟩))
      go_returns;refine⟨rfl,?_,st.2.trans mW⟩
      rw[hf.out,show y.fail=Lx.fail {y with unsure:=false} by rw[←hu]];exact hl
    | true=>
     rw[Y2,if_neg (by simp)] at nK;have iW:Hd (aR s x (x.pos+1) ByteArray.empty=aR s {y with unsure:=y.unsure||!Qz c} (k+n) (o++s.extract k (k+n))):=nK
     clear nK;have om:(s.extract k (k+n)).size=n:=by rw[ByteArray.size_extract];omega
     have WW:o.size+(s.extract k (k+n)).size≤maxLen:=by unfold maxLen;omega
     have Z0p:o.size+n≤maxLen:=by unfold maxLen;omega
     have z4:(k:Int)≤(k:Int)+(n:Int):=by omega
     have z5:(k:Int)+(n:Int)≤(s.size:Int):=by omega
     cases hu:y.unsure with
     | true=>
      rw[hu] at c4 iW;have st:=ej (y:={y with unsure:=true}) hy hb 4 (.bool true) (by decide) (fun _=>rfl) rfl;go_wp2_with (first| (go_at_call 86;refine(zq _).mono ?_;rintro e w' ⟨rfl,aY⟩;rw[aY];clear aY w')|(go_at_call 87;refine(ff c _).mono ?_;rintro e w' ⟨rfl,aY⟩;rw[aY];clear aY w'))
      go_roundg (s.size-(k+n))
      case measure=>omega
      case rel=>exact⟨k+n,_,_,rfl,by go_num,st.1,st.2,iW,by omega,by rw[ByteArray.size_append];omega,OB,rfl⟩
     | false=>
      rw[hu] at c4 iW
      cases Rf:Qz c with
      | true=>
       rw[Rf] at iW;have st:=ej (y:={y with unsure:=false}) hy hb 4 (.bool false) (by decide) (fun _=>rfl) rfl;go_wp2_with (first| (go_at_call 86;refine(zq _).mono ?_;rintro e w' ⟨rfl,aY⟩;rw[aY];clear aY w')|(go_at_call 87;refine(ff c _).mono ?_;rintro e w' ⟨rfl,aY⟩;rw[aY];clear aY w'))
       go_roundg (s.size-(k+n))
       case measure=>omega
       case rel=>exact⟨k+n,_,_,rfl,by go_num,st.1,st.2,iW,by omega,by rw[ByteArray.size_append];omega,OB,rfl⟩
      | false=>
       rw[Rf] at iW;have st:=ej (y:={y with unsure:=true}) hy hb 4 (.bool true) (by decide) (fun _=>rfl) rfl;go_wp2_with (first| (go_at_call 86;refine(zq _).mono ?_;rintro e w' ⟨rfl,aY⟩;rw[aY];clear aY w')|(go_at_call 87;refine(ff c _).mono ?_;rintro e w' ⟨rfl,aY⟩;rw[aY];clear aY w'))
       go_roundg (s.size-(k+n))
       case measure=>omega
       case rel=>exact⟨k+n,_,_,rfl,by go_num,st.1,st.2,iW,by omega,by rw[ByteArray.size_append];omega,OB,rfl⟩
  · have hf:Hd (aR s x (x.pos+1) ByteArray.empty=y.fail):=hd.out.trans (by rw[aR,dif_neg q1]);have z2:¬((k:Int)<(s.size:Int)):=by omega
    go_wp2_with (go_at_call 55;refine(eD xb s y wr hy).mono ?_;rintro e w' ⟨rfl,hl,mW⟩);go_returns;exact⟨rfl,by rw[hf.out];exact hl,hb.trans mW⟩
def dr(w:World)(b o:Nat)(l:List ByteArray):Prop:=∀i,i<l.length→w.cell? ⟨b,o+i,none⟩=some (.string (l.getD i ByteArray.empty))
theorem xM{w:World}{base g cap:Nat}{l:List ByteArray}(h:w.ownsRow base 9 1 (.slice (some ⟨g,0,none⟩) l.length cap) l.length (kG l)):dr w g 0 l:=by
 intro i hi;have:=h.cells (g:=g) rfl i (.string (l.getD i ByteArray.empty)) (by simp[kG,List.getElem?_eq_getElem hi,List.getD_eq_getElem?_getD]);have ha:(⟨g,0,none⟩:Addr).add i=⟨g,0+i,none⟩:=by unfold Addr.add;split<;>simp_all
 rwa [ha] at this
theorem dr.sm{X:List Nat}{w w':World}{b o:Nat}{l:List ByteArray}(h:dr w b o l)(s:Sm X w w')(hx:b∉X):dr w' b o l:=fun i hi=>s.keeps (h i hi) hx
theorem rf{w:World}{base n:Nat}{v:Value}{l:List ByteArray}(h:w.ownsRow base 9 1 v n (kG l))(hl:l≠[]):n=l.length∧∃g cap,v=.slice (some ⟨g,0,none⟩) l.length cap∧base≤g∧g<w.heap.size∧l.length≤cap∧cap≤maxLen∧w.heap[g]?.isSome:=by
 have hn:n=l.length:=by have:=h.1;simp[kG] at this;omega
 subst hn;refine⟨rfl,?_⟩;rcases h.2 with⟨_,h0⟩|⟨g,cap,cur,rfl,hb,hh,h1,h2,h3,h4⟩
 · exact absurd (List.eq_nil_of_length_eq_zero h0) hl
 · exact⟨g,cap,rfl,hb,lt_of_block hh,h1,h2,by rw[hh];rfl⟩
theorem vr(s:ByteArray)(i fr:Nat):bA s i fr≠[]:=by
 by_cases h:i<s.size
 · by_cases h':nx s i=10∨nx s i=13
   · rw[fP h h'];simp
   · rw[nt h h'];exact vr s (i+1) fr
 · rw[kx h];simp
termination_by s.size-i
def cg(out:Int)(x:ByteArray):Int:=if bS x 0<x.size∧(out<0∨(bS x 0:Int)<out) then(bS x 0:Int) else out
def tP(l:List ByteArray):Int:=(l.drop 1).foldl cg (-1)
def df(l:List ByteArray):Nat:=(tP l).toNat
theorem yv{l:List ByteArray}{k:Nat}(h:k<l.length):l.drop k=l.getD k ByteArray.empty :: l.drop (k+1):=by rw[List.drop_eq_getElem_cons h];simp[List.getD_eq_getElem?_getD,List.getElem?_eq_getElem h]
theorem BZ{l:List ByteArray}{k:Nat}(h:k<l.length)(q:Int):(l.drop k).foldl cg q=(l.drop (k+1)).foldl cg (cg q (l.getD k ByteArray.empty)):=by rw[yv h];rfl
def Br(l:List ByteArray)(o j:Value):Prop:=∃(k:Nat) (q:Int),1≤k∧j=.int .i64 k∧o=.int .i64 q∧-1≤q∧q≤1099511627776∧Hd (tP l=(l.drop k).foldl cg q)∧k≤l.length+1
theorem BK(l:List ByteArray)(b o cap:Nat)(w:World)(hl:dr w b o l)(hn:l.length≤1099511627777)(hs:∀x∈l,x.size≤1099511627776) :
 Calls Tryz.prog 120 #[.slice (some ⟨b,o,none⟩) l.length cap] w fun e w'=>e=.returned (.int .i64 (df l:Int))∧w'=w:=by
 go_enter Tryz.func120,Tryz.ntmps120;go_wp2_with fail
 go_loop [3,4] (fun o j=>Br l o j) (fun _ j=>l.length-(intOf j).toNat)
 case atStart=>exact⟨1,-1,by omega,rfl,rfl,by omega,by omega,rfl,by omega⟩
 case round=>
  obtain⟨k,q,hk,rfl,rfl,hq0,IZ,hd,hkl⟩:=hrel;have k1:(0:Int)≤(k:Int):=by omega
  by_cases b9:k<l.length
  · have k2:(k:Int)<(l.length:Int):=by omega
    have hc:=hl k b9;have hx:(l.getD k ByteArray.empty).size≤1099511627776:=hs _ (by rw[List.getD_eq_getElem?_getD,List.getElem?_eq_getElem b9];exact List.getElem_mem b9);generalize Cl:l.getD k ByteArray.empty=x at hc hx;have eL:Hd (tP l=(l.drop (k+1)).foldl cg (cg q x)):=by rw[←Cl];exact hd.out.trans (BZ b9 q)
    have hle:=(mF x 0 (by omega)).2;clear Cl hd hl;by_cases c1:bS x 0<x.size
    · have XB:(bS x 0:Int)<(x.size:Int):=by omega
      by_cases c2:q<0
      · have KL:Hd (tP l=(l.drop (k+1)).foldl cg (bS x 0:Int)):=by rw[show(bS x 0:Int)=cg q x by unfold cg;rw[if_pos ⟨c1,.inl c2⟩]];exact eL
        clear eL;go_wp2_with (go_at_call 121;refine(du _ _ hx).mono ?_;rintro e w' ⟨rfl,rfl⟩);go_round
        case rel=>(first| refine⟨_,_,?_,rfl,rfl⟩|skip);unfold Br;exact⟨k+1,_,by omega,by go_num,rfl,by omega,by omega,KL,by omega⟩
        case measure=>simp[intOf];omega
      · by_cases c3:(bS x 0:Int)<q
        · have KL:Hd (tP l=(l.drop (k+1)).foldl cg (bS x 0:Int)):=by rw[show(bS x 0:Int)=cg q x by unfold cg;rw[if_pos ⟨c1,.inr c3⟩]];exact eL
          clear eL;go_wp2_with (go_at_call 121;refine(du _ _ hx).mono ?_;rintro e w' ⟨rfl,rfl⟩);go_round
          case rel=>(first| refine⟨_,_,?_,rfl,rfl⟩|skip);unfold Br;exact⟨k+1,_,by omega,by go_num,rfl,by omega,by omega,KL,by omega⟩
          case measure=>simp[intOf];omega
        · have KL:Hd (tP l=(l.drop (k+1)).foldl cg q):=by rw[show cg q x=q by unfold cg;rw[if_neg (by omega)]] at eL;exact eL
          clear eL;go_wp2_with (go_at_call 121;refine(du _ _ hx).mono ?_;rintro e w' ⟨rfl,rfl⟩);go_round
          case rel=>(first| refine⟨_,_,?_,rfl,rfl⟩|skip);unfold Br;exact⟨k+1,_,by omega,by go_num,rfl,by omega,by omega,KL,by omega⟩
          case measure=>simp[intOf];omega
    · have XB:¬((bS x 0:Int)<(x.size:Int)):=by omega
      have KL:Hd (tP l=(l.drop (k+1)).foldl cg q):=by rw[show cg q x=q by unfold cg;rw[if_neg (by omega)]] at eL;exact eL
      clear eL;go_wp2_with (go_at_call 121;refine(du _ _ hx).mono ?_;rintro e w' ⟨rfl,rfl⟩);go_round
      case rel=>(first| refine⟨_,_,?_,rfl,rfl⟩|skip);unfold Br;exact⟨k+1,_,by omega,by go_num,rfl,by omega,by omega,KL,by omega⟩
      case measure=>simp[intOf];omega
  · have k2:¬((k:Int)<(l.length:Int)):=by omega
    have eL:Hd (tP l=q):=by unfold Hd;rw[hd.out,List.drop_of_length_le (by omega)];rfl
    clear hd;go_wp2_with fail
    all_goals go_ret
    all_goals (refine⟨oV ?_,rfl⟩;unfold df;rw[eL.out];omega)
end Go.Proofs.YtnpjmhodfdgloaaGreatDoor
