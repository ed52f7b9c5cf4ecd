/- Part of the proof. -/
import Derived.Deep.CutRange
import Derived.Test.YtnpjmhodfdgloaaGreatDoorQ08
set_option linter.unusedVariables false
set_option linter.unusedSimpArgs false
namespace Go.Proofs.YtnpjmhodfdgloaaGreatDoor
set_option maxRecDepth 100000
set_option maxHeartbeats 32000000
open Go.RowKit
attribute [local go_sem ↓] Go.wp_at_zero Go.wp_at_succ
theorem Z10{k j:IntKind}{a b c d:Int}(h:a=b)(h':c=d):Ending.returned (.tuple #[.int k a,.int j c])=.returned (.tuple #[.int k b,.int j d]):=by rw[h,h']
theorem mi{s:ByteArray}{tO i:Nat}{c:Int}(h:¬i<tO):gO s tO i c=some c:=by rw[gO,dif_neg h]
theorem gG{s:ByteArray}{tO i:Nat}{c:Int}(h:i<tO)(hb:nx s i<128∨191<nx s i):gO s tO i c=none:=by rw[gO,dif_pos h,if_pos hb]
theorem gW{s:ByteArray}{tO i:Nat}{c:Int}(h:i<tO)(h1:128≤nx s i)(h2:nx s i≤191):gO s tO i c=gO s tO (i+1) (c*64+(nx s i:Int)-128):=by rw[gO,dif_pos h,if_neg (by omega)]
def tz(s:ByteArray)(i many:Nat)(c0:Int)(c m j:Value):Prop:=
 ∃(k:Nat) (q:Int),i+1≤k∧k≤i+many∧j=.int .i64 k∧m=.int .i64 (many:Int)∧c=.int .i64 q∧0≤q∧q<64 ^ (k-i)∧Hd (gO s (i+many) (i+1) c0=gO s (i+many) k q)
theorem vz(s:ByteArray)(i:Nat)(w:World)(hs:s.size≤1099511627776)(hi:i<s.size) :
 Calls Tryz.prog 86 #[.string s,.int .i64 (i:Int)] w fun e w'=>e=.returned (.tuple #[.int .i64 (pt s i).1,.int .i64 ((pt s i).2:Int)])∧w'=w:=by
 have h1:(0:Int)≤(i:Int):=by omega
 have h2:(i:Int)<(s.size:Int):=by omega
 have hn:=fb s i;have e0:s[i].toNat=nx s i:=fi hi;by_cases r1:nx s i<128
 · have hp:Hd (pt s i=((nx s i:Int),1)):=by unfold Hd pt;rw[if_pos r1]
   go_enter Tryz.func86,Tryz.ntmps86;go_wp2;go_ret2;rw[hp.out];exact⟨rfl,rfl⟩
 by_cases SW:194≤nx s i∧nx s i<224
 · obtain⟨r2,r3⟩:=SW;have Ml:mM (nx s i)=((nx s i:Int)-192,2,128):=by unfold mM;rw[if_pos ⟨r2,r3⟩]
   by_cases hz:s.size<i+2
   · have hp:Hd (pt s i=(0,0)):=by unfold Hd pt;rw[if_neg r1,Ml];simp[hz]
     clear Ml;go_enter Tryz.func86,Tryz.ntmps86;go_wp2;go_ret2;rw[hp.out];exact⟨rfl,rfl⟩
   · have hp:Hd (pt s i=match gO s (i+2) (i+1) ((nx s i:Int)-192) with
      | none=>(0,0)
      | some c=>if c<128∨1114111<c∨(55296≤c∧c<57344) then(0,0) else(c,2)):=by
      unfold Hd pt;rw[if_neg r1,Ml];dsimp only;rw[if_neg (by omega)];cases gO s _ (i+1) _<;>rfl
     clear Ml;go_enter Tryz.func86,Tryz.ntmps86;go_wp2
     go_loop [4,5,8] (fun c m j=>tz s i 2 ((nx s i:Int)-192) c m j) (fun _ _ j=>i+8-(intOf j).toNat)
     case atStart=>unfold tz;exact⟨i+1,_,by omega,by omega,by go_num,rfl,rfl,by omega,by rw[show i+1-i=1 by omega];omega,rfl⟩
     case round=>
      unfold tz at hrel;obtain⟨k,q,K9,ri,rfl,rfl,rfl,IZ,js,hr⟩:=hrel
      have mE:q≤16777216:=by
       have:k-i=1∨k-i=2∨k-i=3∨k-i=4:=by omega
       rcases this with h|h|h|h<;>rw[h] at js<;>omega
      have Vq:Hd (q<64 ^ (k-i)):=js;clear js;have hnk:=fb s k;by_cases b9:k<i+2
      · have Mk:k<s.size:=by omega
        have ek:s[k].toNat=nx s k:=fi Mk;have k1:(0:Int)≤(k:Int):=by omega
        have k2:(k:Int)<(s.size:Int):=by omega
        have k3:(k:Int)<(i:Int)+2:=by omega
        by_cases b1:nx s k<128
        · have hf:Hd (pt s i=(0,0)):=by unfold Hd;rw[hp.out,hr.out,gG b9 (.inl b1)]
          go_wp2;go_ret2;rw[hf.out];exact⟨rfl,rfl⟩
        by_cases b2:191<nx s k
        · have hf:Hd (pt s i=(0,0)):=by unfold Hd;rw[hp.out,hr.out,gG b9 (.inr b2)]
          go_wp2;go_ret2;rw[hf.out];exact⟨rfl,rfl⟩
        have nj:Hd (gO s (i+2) (i+1) ((nx s i:Int)-192)=gO s (i+2) (k+1) (q*64+(nx s k:Int)-128)):=hr.out.trans (gW b9 (by omega) (by omega));have TR:q*64+(nx s k:Int)-128<64 ^ (k+1-i):=by rw[show k+1-i=(k-i)+1 by omega,Int.pow_succ];have:=Vq.out;omega
        have Y1:Hd (q*64+(nx s k:Int)-128<64 ^ (k+1-i)):=TR;clear TR;go_wp2;go_round
        case rel=>(first| refine⟨_,_,_,?_,rfl,rfl,rfl⟩|skip);unfold tz;exact⟨k+1,_,by omega,by omega,by go_num,rfl,rfl,by omega,Y1.out,nj⟩
        case measure=>simp[intOf];omega
      · obtain rfl:k=i+2:=by omega
        have nj:Hd (pt s i=if q<128∨1114111<q∨(55296≤q∧q<57344) then(0,0) else(q,2)):=by unfold Hd;rw[hp.out,hr.out,mi (by omega)]
        have k3:¬((i:Int)+2<(i:Int)+2):=by omega
        by_cases g1:q<128
        · have hf:Hd (pt s i=(0,0)):=by unfold Hd;rw[nj.out,if_pos (.inl g1)]
          go_wp2;go_ret2;rw[hf.out];exact⟨rfl,rfl⟩
        by_cases g2:1114111<q
        · have hf:Hd (pt s i=(0,0)):=by unfold Hd;rw[nj.out,if_pos (.inr (.inl g2))]
          go_wp2;go_ret2;rw[hf.out];exact⟨rfl,rfl⟩
        by_cases g3:55296≤q
        · by_cases g4:q<57344
          · have hf:Hd (pt s i=(0,0)):=by unfold Hd;rw[nj.out,if_pos (.inr (.inr ⟨g3,g4⟩))]
            go_wp2;go_ret2;rw[hf.out];exact⟨rfl,rfl⟩
          · have hf:Hd (pt s i=(q,2)):=by unfold Hd;rw[nj.out,if_neg (by omega)]
            go_wp2;go_ret2;rw[hf.out];exact⟨rfl,rfl⟩
        · have hf:Hd (pt s i=(q,2)):=by unfold Hd;rw[nj.out,if_neg (by omega)]
          go_wp2;go_ret2;rw[hf.out];exact⟨rfl,rfl⟩
 by_cases SX:224≤nx s i∧nx s i<240
 · obtain⟨r2,r3⟩:=SX;have Ml:mM (nx s i)=((nx s i:Int)-224,3,2048):=by unfold mM;rw[if_neg (by omega),if_pos ⟨r2,r3⟩]
   by_cases hz:s.size<i+3
   · have hp:Hd (pt s i=(0,0)):=by unfold Hd pt;rw[if_neg r1,Ml];simp[hz]
     clear Ml;go_enter Tryz.func86,Tryz.ntmps86;go_wp2;go_ret2;rw[hp.out];exact⟨rfl,rfl⟩
   · have hp:Hd (pt s i=match gO s (i+3) (i+1) ((nx s i:Int)-224) with
      | none=>(0,0)
      | some c=>if c<2048∨1114111<c∨(55296≤c∧c<57344) then(0,0) else(c,3)):=by
      unfold Hd pt;rw[if_neg r1,Ml];dsimp only;rw[if_neg (by omega)];cases gO s _ (i+1) _<;>rfl
     clear Ml;go_enter Tryz.func86,Tryz.ntmps86;go_wp2
     go_loop [4,5,8] (fun c m j=>tz s i 3 ((nx s i:Int)-224) c m j) (fun _ _ j=>i+8-(intOf j).toNat)
     case atStart=>unfold tz;exact⟨i+1,_,by omega,by omega,by go_num,rfl,rfl,by omega,by rw[show i+1-i=1 by omega];omega,rfl⟩
     case round=>
      unfold tz at hrel;obtain⟨k,q,K9,ri,rfl,rfl,rfl,IZ,js,hr⟩:=hrel
      have mE:q≤16777216:=by
       have:k-i=1∨k-i=2∨k-i=3∨k-i=4:=by omega
       rcases this with h|h|h|h<;>rw[h] at js<;>omega
      have Vq:Hd (q<64 ^ (k-i)):=js;clear js;have hnk:=fb s k;by_cases b9:k<i+3
      · have Mk:k<s.size:=by omega
        have ek:s[k].toNat=nx s k:=fi Mk;have k1:(0:Int)≤(k:Int):=by omega
        have k2:(k:Int)<(s.size:Int):=by omega
        have k3:(k:Int)<(i:Int)+3:=by omega
        by_cases b1:nx s k<128
        · have hf:Hd (pt s i=(0,0)):=by unfold Hd;rw[hp.out,hr.out,gG b9 (.inl b1)]
          go_wp2;go_ret2;rw[hf.out];exact⟨rfl,rfl⟩
        by_cases b2:191<nx s k
        · have hf:Hd (pt s i=(0,0)):=by unfold Hd;rw[hp.out,hr.out,gG b9 (.inr b2)]
          go_wp2;go_ret2;rw[hf.out];exact⟨rfl,rfl⟩
        have nj:Hd (gO s (i+3) (i+1) ((nx s i:Int)-224)=gO s (i+3) (k+1) (q*64+(nx s k:Int)-128)):=hr.out.trans (gW b9 (by omega) (by omega));have TR:q*64+(nx s k:Int)-128<64 ^ (k+1-i):=by rw[show k+1-i=(k-i)+1 by omega,Int.pow_succ];have:=Vq.out;omega
        have Y1:Hd (q*64+(nx s k:Int)-128<64 ^ (k+1-i)):=TR;clear TR;go_wp2;go_round
        case rel=>(first| refine⟨_,_,_,?_,rfl,rfl,rfl⟩|skip);unfold tz;exact⟨k+1,_,by omega,by omega,by go_num,rfl,rfl,by omega,Y1.out,nj⟩
        case measure=>simp[intOf];omega
      · obtain rfl:k=i+3:=by omega
        have nj:Hd (pt s i=if q<2048∨1114111<q∨(55296≤q∧q<57344) then(0,0) else(q,3)):=by unfold Hd;rw[hp.out,hr.out,mi (by omega)]
        have k3:¬((i:Int)+3<(i:Int)+3):=by omega
        by_cases g1:q<2048
        · have hf:Hd (pt s i=(0,0)):=by unfold Hd;rw[nj.out,if_pos (.inl g1)]
          go_wp2;go_ret2;rw[hf.out];exact⟨rfl,rfl⟩
        by_cases g2:1114111<q
        · have hf:Hd (pt s i=(0,0)):=by unfold Hd;rw[nj.out,if_pos (.inr (.inl g2))]
          go_wp2;go_ret2;rw[hf.out];exact⟨rfl,rfl⟩
        by_cases g3:55296≤q
        · by_cases g4:q<57344
          · have hf:Hd (pt s i=(0,0)):=by unfold Hd;rw[nj.out,if_pos (.inr (.inr ⟨g3,g4⟩))]
            go_wp2;go_ret2;rw[hf.out];exact⟨rfl,rfl⟩
          · have hf:Hd (pt s i=(q,3)):=by unfold Hd;rw[nj.out,if_neg (by omega)]
            go_wp2;go_ret2;rw[hf.out];exact⟨rfl,rfl⟩
        · have hf:Hd (pt s i=(q,3)):=by unfold Hd;rw[nj.out,if_neg (by omega)]
          go_wp2;go_ret2;rw[hf.out];exact⟨rfl,rfl⟩
 by_cases SY:240≤nx s i∧nx s i<245
 · obtain⟨r2,r3⟩:=SY;have Ml:mM (nx s i)=((nx s i:Int)-240,4,65536):=by unfold mM;rw[if_neg (by omega),if_neg (by omega),if_pos ⟨r2,r3⟩]
   by_cases hz:s.size<i+4
   · have hp:Hd (pt s i=(0,0)):=by unfold Hd pt;rw[if_neg r1,Ml];simp[hz]
     clear Ml;go_enter Tryz.func86,Tryz.ntmps86;go_wp2;go_ret2;rw[hp.out];exact⟨rfl,rfl⟩
   · have hp:Hd (pt s i=match gO s (i+4) (i+1) ((nx s i:Int)-240) with
      | none=>(0,0)
      | some c=>if c<65536∨1114111<c∨(55296≤c∧c<57344) then(0,0) else(c,4)):=by
      unfold Hd pt;rw[if_neg r1,Ml];dsimp only;rw[if_neg (by omega)];cases gO s _ (i+1) _<;>rfl
     clear Ml;go_enter Tryz.func86,Tryz.ntmps86;go_wp2
     go_loop [4,5,8] (fun c m j=>tz s i 4 ((nx s i:Int)-240) c m j) (fun _ _ j=>i+8-(intOf j).toNat)
     case atStart=>unfold tz;exact⟨i+1,_,by omega,by omega,by go_num,rfl,rfl,by omega,by rw[show i+1-i=1 by omega];omega,rfl⟩
     case round=>
      unfold tz at hrel;obtain⟨k,q,K9,ri,rfl,rfl,rfl,IZ,js,hr⟩:=hrel
      have mE:q≤16777216:=by
       have:k-i=1∨k-i=2∨k-i=3∨k-i=4:=by omega
       rcases this with h|h|h|h<;>rw[h] at js<;>omega
      have Vq:Hd (q<64 ^ (k-i)):=js;clear js;have hnk:=fb s k;by_cases b9:k<i+4
      · have Mk:k<s.size:=by omega
        have ek:s[k].toNat=nx s k:=fi Mk;have k1:(0:Int)≤(k:Int):=by omega
        have k2:(k:Int)<(s.size:Int):=by omega
        have k3:(k:Int)<(i:Int)+4:=by omega
        by_cases b1:nx s k<128
        · have hf:Hd (pt s i=(0,0)):=by unfold Hd;rw[hp.out,hr.out,gG b9 (.inl b1)]
          go_wp2;go_ret2;rw[hf.out];exact⟨rfl,rfl⟩
        by_cases b2:191<nx s k
        · have hf:Hd (pt s i=(0,0)):=by unfold Hd;rw[hp.out,hr.out,gG b9 (.inr b2)]
          go_wp2;go_ret2;rw[hf.out];exact⟨rfl,rfl⟩
        have nj:Hd (gO s (i+4) (i+1) ((nx s i:Int)-240)=gO s (i+4) (k+1) (q*64+(nx s k:Int)-128)):=hr.out.trans (gW b9 (by omega) (by omega));have TR:q*64+(nx s k:Int)-128<64 ^ (k+1-i):=by rw[show k+1-i=(k-i)+1 by omega,Int.pow_succ];have:=Vq.out;omega
        have Y1:Hd (q*64+(nx s k:Int)-128<64 ^ (k+1-i)):=TR;clear TR;go_wp2;go_round
        case rel=>(first| refine⟨_,_,_,?_,rfl,rfl,rfl⟩|skip);unfold tz;exact⟨k+1,_,by omega,by omega,by go_num,rfl,rfl,by omega,Y1.out,nj⟩
        case measure=>simp[intOf];omega
      · obtain rfl:k=i+4:=by omega
        have nj:Hd (pt s i=if q<65536∨1114111<q∨(55296≤q∧q<57344) then(0,0) else(q,4)):=by unfold Hd;rw[hp.out,hr.out,mi (by omega)]
        have k3:¬((i:Int)+4<(i:Int)+4):=by omega
        by_cases g1:q<65536
        · have hf:Hd (pt s i=(0,0)):=by unfold Hd;rw[nj.out,if_pos (.inl g1)]
          go_wp2;go_ret2;rw[hf.out];exact⟨rfl,rfl⟩
        by_cases g2:1114111<q
        · have hf:Hd (pt s i=(0,0)):=by unfold Hd;rw[nj.out,if_pos (.inr (.inl g2))]
          go_wp2;go_ret2;rw[hf.out];exact⟨rfl,rfl⟩
        by_cases g3:55296≤q
        · by_cases g4:q<57344
          · have hf:Hd (pt s i=(0,0)):=by unfold Hd;rw[nj.out,if_pos (.inr (.inr ⟨g3,g4⟩))]
            go_wp2;go_ret2;rw[hf.out];exact⟨rfl,rfl⟩
          · have hf:Hd (pt s i=(q,4)):=by unfold Hd;rw[nj.out,if_neg (by omega)]
            go_wp2;go_ret2;rw[hf.out];exact⟨rfl,rfl⟩
        · have hf:Hd (pt s i=(q,4)):=by unfold Hd;rw[nj.out,if_neg (by omega)]
          go_wp2;go_ret2;rw[hf.out];exact⟨rfl,rfl⟩
 have hp:Hd (pt s i=(0,0)):=by unfold Hd pt mM;rw[if_neg r1,if_neg SW,if_neg SX,if_neg SY];simp
 by_cases q1:194≤nx s i
 · have q2:245≤nx s i:=by omega
   have q3:¬(nx s i<224):=by omega
   have q4:¬(nx s i<240):=by omega
   have q5:¬(nx s i<245):=by omega
   clear SW SX SY;go_enter Tryz.func86,Tryz.ntmps86;go_wp2;go_ret2;rw[hp.out];exact⟨rfl,rfl⟩
 · clear SW SX SY;go_enter Tryz.func86,Tryz.ntmps86;go_wp2;go_ret2;rw[hp.out];exact⟨rfl,rfl⟩
theorem bu(s t:ByteArray)(i:Nat)(w:World)(hs:s.size≤1099511627776)(hi:i≤1099511627900)(ht:t.size≤10) :
 Calls Tryz.prog 45 #[.string s,.int .i64 (i:Int),.string t] w fun e w'=>e=.returned (.bool (st s i t))∧w'=w:=by
 by_cases h:i+t.size≤s.size
 · have h1:(i:Int)+(t.size:Int)≤(s.size:Int):=by omega
   go_enter Tryz.func45,Tryz.ntmps45;go_wp2;go_ret;exact⟨lJ (by rw[zt];simp[st,h]),rfl⟩
 · have h1:¬((i:Int)+(t.size:Int)≤(s.size:Int)):=by omega
   go_enter Tryz.func45,Tryz.ntmps45;go_wp2;go_ret;exact⟨lJ (by simp[st,h]),rfl⟩
def bS(s:ByteArray)(n:Nat):Nat:=if h:n<s.size∧(nx s n=32∨nx s n=9) then bS s (n+1) else n
termination_by s.size-n
theorem pg{s:ByteArray}{k:Nat}(h:k<s.size)(h':nx s k=32∨nx s k=9):bS s k=bS s (k+1):=by rw[bS,dif_pos ⟨h,h'⟩]
theorem rI{s:ByteArray}{k:Nat}(h:¬(k<s.size∧(nx s k=32∨nx s k=9))):bS s k=k:=by rw[bS,dif_neg h]
theorem mF(s:ByteArray)(n:Nat)(h:n≤s.size):n≤bS s n∧bS s n≤s.size:=by
 by_cases h':n<s.size∧(nx s n=32∨nx s n=9)
 · rw[pg h'.1 h'.2];have:=mF s (n+1) (by omega);omega
 · rw[rI h'];omega
termination_by s.size-n
theorem du(s:ByteArray)(w:World)(hs:s.size≤1099511627776) :
 Calls Tryz.prog 121 #[.string s] w fun e w'=>e=.returned (.int .i64 (bS s 0:Int))∧w'=w:=by
 go_enter Tryz.func121,Tryz.ntmps121;go_wp2_with fail
 go_loop [3] (fun v=>∃k:Nat,k≤s.size∧v=.int .i64 k∧Hd (bS s 0=bS s k)) (fun v=>s.size-(intOf v).toNat)
 case atStart=>exact⟨0,by omega,rfl,rfl⟩
 case round=>
  obtain⟨k,hk,rfl,hd⟩:=hrel;have k1:(0:Int)≤(k:Int):=by omega
  by_cases b9:k<s.size
  · have k2:(k:Int)<(s.size:Int):=by omega
    have ek:s[k].toNat=nx s k:=fi b9;by_cases q1:nx s k=32
    · have eL:Hd (bS s 0=bS s (k+1)):=hd.out.trans (pg b9 (.inl q1));have e1:((nx s k:Int)==32)=true:=by simp;omega
      clear q1;go_wp2;go_round
      case rel=>exact⟨k+1,by omega,by go_num,eL⟩
      case measure=>simp[intOf];omega
    · have e1:((nx s k:Int)==32)=false:=by simp;omega
      by_cases q2:nx s k=9
      · have eL:Hd (bS s 0=bS s (k+1)):=hd.out.trans (pg b9 (.inr q2));have e2:((nx s k:Int)==9)=true:=by simp;omega
        clear q1 q2;go_wp2;go_round
        case rel=>exact⟨k+1,by omega,by go_num,eL⟩
        case measure=>simp[intOf];omega
      · have eL:Hd (bS s 0=k):=hd.out.trans (rI (by omega));have e2:((nx s k:Int)==9)=false:=by simp;omega
        clear q1 q2;go_wp2;go_ret;exact⟨oV (by rw[eL.out]),rfl⟩
  · have k2:¬((k:Int)<(s.size:Int)):=by omega
    have eL:Hd (bS s 0=k):=hd.out.trans (rI (by omega));go_wp2;go_ret;exact⟨oV (by rw[eL.out]),rfl⟩
def mY(s:ByteArray)(i:Nat):Nat:=if nx s i=13∧i+1<s.size∧nx s (i+1)=10 then i+2 else i+1
theorem sk(s:ByteArray)(i:Nat):i<mY s i:=by unfold mY;split<;>omega
def bA(s:ByteArray)(i fr:Nat):List ByteArray:=
 if h:i<s.size then(if nx s i=10∨nx s i=13 then s.extract fr i :: bA s (mY s i) (mY s i) else bA s (i+1) fr) else[s.extract fr s.size]
termination_by s.size-i
decreasing_by
 · have:=sk s i;omega
 · omega
theorem kx{s:ByteArray}{i fr:Nat}(h:¬i<s.size):bA s i fr=[s.extract fr s.size]:=by rw[bA,dif_neg h]
theorem fP{s:ByteArray}{i fr:Nat}(h:i<s.size)(h':nx s i=10∨nx s i=13):bA s i fr=s.extract fr i :: bA s (mY s i) (mY s i):=by rw[bA,dif_pos h,if_pos h']
theorem nt{s:ByteArray}{i fr:Nat}(h:i<s.size)(h':¬(nx s i=10∨nx s i=13)):bA s i fr=bA s (i+1) fr:=by rw[bA,dif_pos h,if_neg h']
def kG(l:List ByteArray):List Value:=l.map Value.string
theorem Xb(l:List ByteArray):∀u∈kG l,u.oneCell'=true:=by intro u hu;simp only[kG,List.mem_map] at hu;obtain⟨x,_,rfl⟩:=hu;rfl
theorem wT:(Tryz.prog.info? 9).map (fun i=>(i.zero,i.size,i.bytes))=some (some (.string ⟨#[]⟩),1,16):=by kernel_rfl
def jH(s:ByteArray)(w:World)(v f j:Value)(wr:World):Prop:=
 ∃(k fr:Nat) (acc:List ByteArray),fr≤k∧k≤s.size∧f=.int .i64 fr∧j=.int .i64 k∧wr.ownsRow w.heap.size 9 1 v acc.length (kG acc)∧Sm [] w wr∧Hd (bA s 0 0=acc++bA s k fr)∧acc.length≤k
theorem fW{w w':World}{acc:List ByteArray}{x:ByteArray}{g cap:Nat}(h:w'.ownsRow w.heap.size 9 1 (.slice (some ⟨g,0,none⟩) (acc.length+1) cap) (acc.length+1) (kG acc++#[Value.string x].toList)) :
 w'.ownsRow w.heap.size 9 1 (.slice (some ⟨g,0,none⟩) (acc.length+1) cap) (acc++[x]).length (kG (acc++[x])):=by
 simpa[kG] using h
theorem zJ(s:ByteArray)(w:World)(hs:s.size≤1099511627776) :
 Calls Tryz.prog 8 #[.string s] w fun e w'=>∃v,e=.returned v∧w'.ownsRow w.heap.size 9 1 v (bA s 0 0).length (kG (bA s 0 0))∧Sm [] w w':=by
 go_enter Tryz.func8,Tryz.ntmps8;go_wp2_with fail
 go_loopw [3,4,5] (fun v f j wr=>jH s w v f j wr) (fun _ _ j _=>s.size-(intOf j).toNat)
 case atStart=>exact⟨0,0,[],by omega,by omega,rfl,rfl,World.ownsRow_nil _ _ _ _,sr,rfl,by simp⟩
 case round=>
  obtain⟨k,fr,acc,hfr,hk,rfl,rfl,aJ,iI,hd,UY⟩:=hrel;have k1:(0:Int)≤(k:Int):=by omega
  have f1:(0:Int)≤(fr:Int):=by omega
  have f2:(fr:Int)≤(k:Int):=by omega
  have hz:=iI.size;by_cases b9:k<s.size
  · have k2:(k:Int)<(s.size:Int):=by omega
    have k3:(k:Int)≤(s.size:Int):=by omega
    have ek:s[k].toNat=nx s k:=fi b9;by_cases yT:nx s k=10
    · have eL:Hd (bA s 0 0=(acc++[s.extract fr k])++bA s (k+1) (k+1)):=by
       unfold Hd;rw[hd.out,fP b9 (.inl yT),show mY s k=k+1 by unfold mY;first| rw[if_pos ⟨by assumption,by assumption,by assumption⟩]|rw[if_neg (by omega)]];simp
      have e1:((nx s k:Int) !=10)=false:=by simp;omega
      have e2:((nx s k:Int)==13)=false:=by simp;omega
      have e3:((nx s k:Int)==10)=true:=by simp;omega
      clear yT;go_wp2_with (at_builtin;refine gH _ rfl _ _ _ rfl 9 _ 1 16 Tryz.underlying28 wT rfl (by omega) (by omega) _ acc.length (kG acc) rfl aJ _ rfl rfl (by simp[Value.oneCell']) (by omega) hz ?_);intro g cap w' aQ hg bV ea;have xL:=iI.grown hg (fun b hb=>.inl (aJ.lt b hb).1);have GS:=fW aQ;clear aQ hg bV ea aJ iI hd;go_wp2;go_roundw
      case rel=>(first| refine⟨_,_,_,?_,rfl,rfl,rfl⟩|skip);unfold jH;exact⟨k+1,k+1,acc++[s.extract fr k],by omega,by omega,by go_num,by go_num,GS,xL,eL,by simp;omega⟩
      case measure=>simp[intOf];omega
    have e1:((nx s k:Int) !=10)=true:=by simp;omega
    by_cases tH:nx s k=13
    · have e2:((nx s k:Int) !=13)=false:=by simp;omega
      have e3:((nx s k:Int)==13)=true:=by simp;omega
      by_cases q1:k+1<s.size
      · have k4:(k:Int)+1<(s.size:Int):=by omega
        have ek1:s[k+1].toNat=nx s (k+1):=fi q1;have k5:(0:Int)≤(k:Int)+1:=by omega
        by_cases q2:nx s (k+1)=10
        · have eL:Hd (bA s 0 0=(acc++[s.extract fr k])++bA s (k+2) (k+2)):=by
           unfold Hd;rw[hd.out,fP b9 (.inr tH),show mY s k=k+2 by unfold mY;first| rw[if_pos ⟨by assumption,by assumption,by assumption⟩]|rw[if_neg (by omega)]];simp
          have e4:((nx s (k+1):Int)==10)=true:=by simp;omega
          clear tH q2;go_wp2_with (at_builtin;refine gH _ rfl _ _ _ rfl 9 _ 1 16 Tryz.underlying28 wT rfl (by omega) (by omega) _ acc.length (kG acc) rfl aJ _ rfl rfl (by simp[Value.oneCell']) (by omega) hz ?_);intro g cap w' aQ hg bV ea;have xL:=iI.grown hg (fun b hb=>.inl (aJ.lt b hb).1);have GS:=fW aQ;clear aQ hg bV ea aJ iI hd;go_wp2;go_roundw
          case rel=>(first| refine⟨_,_,_,?_,rfl,rfl,rfl⟩|skip);unfold jH;exact⟨k+2,k+2,acc++[s.extract fr k],by omega,by omega,by go_num,by go_num,GS,xL,eL,by simp;omega⟩
          case measure=>simp[intOf];omega
        · have eL:Hd (bA s 0 0=(acc++[s.extract fr k])++bA s (k+1) (k+1)):=by
           unfold Hd;rw[hd.out,fP b9 (.inr tH),show mY s k=k+1 by unfold mY;first| rw[if_pos ⟨by assumption,by assumption,by assumption⟩]|rw[if_neg (by omega)]];simp
          have e4:((nx s (k+1):Int)==10)=false:=by simp;omega
          clear tH q2;go_wp2_with (at_builtin;refine gH _ rfl _ _ _ rfl 9 _ 1 16 Tryz.underlying28 wT rfl (by omega) (by omega) _ acc.length (kG acc) rfl aJ _ rfl rfl (by simp[Value.oneCell']) (by omega) hz ?_);intro g cap w' aQ hg bV ea;have xL:=iI.grown hg (fun b hb=>.inl (aJ.lt b hb).1);have GS:=fW aQ;clear aQ hg bV ea aJ iI hd;go_wp2;go_roundw
          case rel=>(first| refine⟨_,_,_,?_,rfl,rfl,rfl⟩|skip);unfold jH;exact⟨k+1,k+1,acc++[s.extract fr k],by omega,by omega,by go_num,by go_num,GS,xL,eL,by simp;omega⟩
          case measure=>simp[intOf];omega
      · have k4:¬((k:Int)+1<(s.size:Int)):=by omega
        have eL:Hd (bA s 0 0=(acc++[s.extract fr k])++bA s (k+1) (k+1)):=by unfold Hd;rw[hd.out,fP b9 (.inr tH),show mY s k=k+1 by unfold mY;first| rw[if_pos ⟨by assumption,by assumption,by assumption⟩]|rw[if_neg (by omega)]];simp
        clear tH;go_wp2_with (at_builtin;refine gH _ rfl _ _ _ rfl 9 _ 1 16 Tryz.underlying28 wT rfl (by omega) (by omega) _ acc.length (kG acc) rfl aJ _ rfl rfl (by simp[Value.oneCell']) (by omega) hz ?_);intro g cap w' aQ hg bV ea;have xL:=iI.grown hg (fun b hb=>.inl (aJ.lt b hb).1);have GS:=fW aQ;clear aQ hg bV ea aJ iI hd;go_wp2;go_roundw
        case rel=>(first| refine⟨_,_,_,?_,rfl,rfl,rfl⟩|skip);unfold jH;exact⟨k+1,k+1,acc++[s.extract fr k],by omega,by omega,by go_num,by go_num,GS,xL,eL,by simp;omega⟩
        case measure=>simp[intOf];omega
    · have e2:((nx s k:Int) !=13)=true:=by simp;omega
      have eL:Hd (bA s 0 0=acc++bA s (k+1) fr):=by unfold Hd;rw[hd.out,nt b9 (by omega)]
      clear yT tH hd;go_wp2;go_roundw
      case rel=>(first| refine⟨_,_,_,?_,rfl,rfl,rfl⟩|skip);unfold jH;exact⟨k+1,fr,acc,by omega,by omega,rfl,by go_num,aJ,iI,eL,by omega⟩
      case measure=>simp[intOf];omega
  · have k2:¬((k:Int)<(s.size:Int)):=by omega
    obtain rfl:k=s.size:=by omega
    have eL:Hd (bA s 0 0=acc++[s.extract fr s.size]):=by unfold Hd;rw[hd.out,kx (by omega)]
    clear hd;go_wp2_with (at_builtin;refine gH _ rfl _ _ _ rfl 9 _ 1 16 Tryz.underlying28 wT rfl (by omega) (by omega) _ acc.length (kG acc) rfl aJ _ rfl rfl (by simp[Value.oneCell']) (by omega) hz ?_);intro g cap w' aQ hg bV ea;have xL:=iI.grown hg (fun b hb=>.inl (aJ.lt b hb).1);have GS:=fW aQ;clear aQ hg bV ea aJ iI;go_wp2;go_ret;rw[eL.out];exact⟨_,rfl,by simpa using GS,xL⟩
def gg(s:ByteArray)(x:Lx):Lx:=
 if(eX s x.pos).1=0 then x.fail else
 if nx s (eX s x.pos).2=46∨gN (nx s (eX s x.pos).2)=true then{x with unsure:=true,bad:=true} else
 x.add ((eX s x.pos).1:Int) (eX s x.pos).2 (s.extract x.pos (eX s x.pos).2)
theorem bM.drew{w:World}{xb:Nat}{s:ByteArray}{x:Lx}(h:bM w xb s x):bM w.drew xb s x:=h
theorem vu(s:ByteArray)(k t:Nat)(ht:t≤s.size)(h:(lW s k t).1≠0):t≤(lW s k t).2∧(lW s k t).2≤s.size:=by
 unfold lW at *;generalize hb:(if nx s (t+1)=43∨nx s (t+1)=45 then t+1+1 else t+1)=b at *;have h0:t≤b:=by rw[←hb];split<;>omega
 have h1:=im s b;have h2:=kl s b;by_cases c1:nx s t=101∨nx s t=69
 · rw[if_pos c1] at *;by_cases c2:eN s b=b
   · rw[if_pos c2] at h;simp at h
   · rw[if_neg c2];have:=yi c2;dsimp only;omega
 · rw[if_neg c1];exact⟨lr,ht⟩
theorem MB(s:ByteArray)(i:Nat)(h:(eX s i).1≠0):i≤(eX s i).2∧(eX s i).2≤s.size:=by
 unfold eX at *;generalize ha:(if nx s i=45 then i+1 else i)=a at *;have h0:i≤a:=by rw[←ha];split<;>omega
 unfold r7 at *;by_cases c:eN s a=a∨(nx s a=48∧a+1<eN s a)
 · rw[if_pos c] at h;simp at h
 rw[if_neg c] at *;have h1:=im s a;have h2:=kl s a;have h3:=yi (s:=s) (i:=a) (by omega);generalize eN s a=t at *;unfold numDot at *;by_cases d:nx s t=46∧eN s (t+1)=t+1
 · rw[if_pos d] at h;simp at h
 rw[if_neg d] at *;by_cases e:nx s t=46
 · rw[if_pos e,if_pos e] at *;have h4:=im s (t+1);have h5:=kl s (t+1);have h6:=yi (s:=s) (i:=t+1) (by omega);have:=vu s 17 (eN s (t+1)) (by omega) h;omega
 · rw[if_neg e,if_neg e] at *;have:=vu s 16 t (by omega) h;omega
theorem CJ(xb:Nat)(s:ByteArray)(x:Lx)(w:World)(hx:bM w xb s x)(hn:x.out.length≤1099511627776)(hs:s.size≤1099511627776)(hp:x.pos≤s.size) :
 Calls Tryz.prog 52 #[.pointer (some ⟨xb,0,none⟩)] w fun e w'=>e=.returned (.tuple #[])∧bM w' xb s (gg s x)∧Below xb w w':=by
 have PQ:=id hx;obtain⟨ov,h1,h2⟩:=hx;have c0:w.cell? ⟨xb,0,none⟩=some (.string s):=cell_of h1 rfl;have c1:w.cell? ⟨xb,1,none⟩=some (.int .i64 (x.pos:Int)):=cell_of h1 rfl;have c4:w.cell? ⟨xb,4,none⟩=some (.bool x.unsure):=cell_of h1 rfl;have f4:=aF h1 4;have num:=Jl xb s x.pos w c0 hs (by omega);have hle:=MB s x.pos;unfold gg;obtain⟨k,t,hkt⟩:∃k t,eX s x.pos=(k,t):=⟨_,_,rfl⟩;rw[hkt] at num hle ⊢;dsimp only at num hle ⊢;by_cases hk:k=0
 · rw[if_pos hk];subst hk;go_enter Tryz.func52,Tryz.ntmps52;go_wp2_with (first| (go_at_call 88;refine num.mono ?_;rintro e w' ⟨rfl,aY⟩;rw[aY];clear aY w')|(go_at_call 55;refine(eD xb s x w PQ).mono ?_;rintro e w' ⟨rfl,hl,hb⟩))
   go_returns;exact⟨rfl,hl,hb⟩
 rw[if_neg hk];have hle:=hle hk;have ek:((k:Int)==0)=false:=by simp;omega
 have hc:=fb s t;have Yq:Below xb w (w.setCell ⟨xb,4,none⟩ (.bool true)):=(Below.refl xb w).setCell (p:=⟨xb,4,none⟩) (Nat.le_refl xb) _;by_cases hd:nx s t=46
 · rw[if_pos (.inl hd)];go_enter Tryz.func52,Tryz.ntmps52;go_wp2_with (first| (go_at_call 88;refine num.mono ?_;rintro e w' ⟨rfl,aY⟩;rw[aY];clear aY w')|(go_at_call 50;refine(jM xb s t w c0 (by omega)).mono ?_;rintro e w' ⟨rfl,aY⟩;rw[aY];clear aY w')|(go_at_call 55;refine(eD xb s {x with unsure:=true} (w.setCell ⟨xb,4,none⟩ (.bool true)) (bM.sU h1 h2 4 _ rfl rfl)).mono ?_;rintro e w' ⟨rfl,hl,hb⟩))
   go_returns;exact⟨rfl,hl,Yq.trans hb⟩
 have ed:((nx s t:Int)==46)=false:=by simp;omega
 cases hb:gN (nx s t) with
 | true=>
  rw[if_pos (.inr rfl)];go_enter Tryz.func52,Tryz.ntmps52;go_wp2_with (first| (go_at_call 88;refine num.mono ?_;rintro e w' ⟨rfl,aY⟩;rw[aY];clear aY w')|(go_at_call 50;refine(jM xb s t w c0 (by omega)).mono ?_;rintro e w' ⟨rfl,aY⟩;rw[aY];clear aY w')|(go_at_call 49;refine(uC (nx s t) hc w).mono ?_;rintro e w' ⟨rfl,aY⟩;rw[aY];clear aY w')|(go_at_call 55;refine(eD xb s {x with unsure:=true} (w.setCell ⟨xb,4,none⟩ (.bool true)) (bM.sU h1 h2 4 _ rfl rfl)).mono ?_;rintro e w' ⟨rfl,hl,hb⟩))
  go_returns
  exact⟨rfl,hl,Yq.trans hb⟩
 | false=>
  rw[if_neg (by simp[hd])];have z1:(0:Int)≤(x.pos:Int):=by omega
  have z2:(x.pos:Int)≤(t:Int):=by omega
  have z3:(t:Int)≤(s.size:Int):=by omega
  go_enter Tryz.func52,Tryz.ntmps52;go_upto_region 7 with(first| (go_at_call 88;refine num.mono ?_;rintro e w' ⟨rfl,aY⟩;rw[aY];clear aY w')|(go_at_call 50;refine(jM xb s t w c0 (by omega)).mono ?_;rintro e w' ⟨rfl,aY⟩;rw[aY];clear aY w')|(go_at_call 49;refine(uC (nx s t) hc w).mono ?_;rintro e w' ⟨rfl,aY⟩;rw[aY];clear aY w'))
  go_region_law (go_simp;go_at_call 47;refine(se xb s x (k:Int) t (s.extract x.pos t) _ (bM.drew PQ) hn).mono ?_;rintro e w' ⟨rfl,hl,hb⟩)
  all_goals (go_wp2;go_end0;exact⟨rfl,hl,(Below.refl xb w).drew.trans hb⟩)
theorem MD(s:ByteArray)(i:Nat)(h:(pt s i).2≠0)(hi:i<s.size):i+(pt s i).2≤s.size∧0≤(pt s i).1∧(pt s i).1≤1114111∧(pt s i).2≤4:=by
 have hn:=fb s i;unfold pt at *;by_cases h1:nx s i<128
 · rw[if_pos h1] at *;dsimp only;omega
 rw[if_neg h1] at *;generalize hm:mM (nx s i)=m at *;obtain⟨c,n,l⟩:=m
 have hl:0≤l∧n≤4:=by
  unfold mM at hm;split at hm
  · simp only[Prod.mk.injEq] at hm;omega
  split at hm
  · simp only[Prod.mk.injEq] at hm;omega
  split at hm<;>(simp only[Prod.mk.injEq] at hm;omega)
 dsimp only at *;by_cases h2:n=0∨s.size<i+n
 · rw[if_pos h2] at h;simp at h
 rw[if_neg h2] at *
 cases hr:gO s (i+n) (i+1) c with
 | none=>rw[hr] at h;simp at h
 | some q=>
  rw[hr] at h;dsimp only at *;by_cases h3:q<l∨1114111<q∨(55296≤q∧q<57344)
  · rw[if_pos h3] at h;simp at h
  rw[if_neg h3] at *;dsimp only;omega
theorem bM.facts{w:World}{xb:Nat}{s:ByteArray}{x:Lx}(h:bM w xb s x):∃ov,w.heap[xb]?=some (.cells (mG s x ov) 79 (0,0))∧w.ownsRow (xb+1) 63 4 ov x.out.length (j9 x.out) ∧
 w.cell? ⟨xb,0,none⟩=some (.string s)∧w.cell? ⟨xb,1,none⟩=some (.int .i64 (x.pos:Int))∧w.cell? ⟨xb,3,none⟩=some (.bool x.bad)∧w.cell? ⟨xb,4,none⟩=some (.bool x.unsure) ∧
 w.frozen? ⟨xb,1,none⟩=false∧w.frozen? ⟨xb,3,none⟩=false∧w.frozen? ⟨xb,4,none⟩=false:=by
 obtain⟨ov,h1,h2⟩:=h;exact⟨ov,h1,h2,cell_of h1 rfl,cell_of h1 rfl,cell_of h1 rfl,cell_of h1 rfl,aF h1 1,aF h1 3,aF h1 4⟩
theorem bM.drewN{w:World}{xb:Nat}{s:ByteArray}{x:Lx}(h:bM w xb s x)(n:Nat):bM (w.drewN n) xb s x:=h
theorem below_drewN{B:Nat}{a w:World}(h:Below B a w)(n:Nat):Below B a (w.drewN n):=⟨h.os,h.tape,h.output,h.size,h.block⟩
theorem ej{w w':World}{xb:Nat}{s:ByteArray}{x y:Lx}(h:bM w' xb s x)(hb:Below xb w w')(i:Nat)(u:Value)(hi:i≠2)(hy:∀ov,(mG s x ov).setIfInBounds i u=mG s y ov)(ho:y.out=x.out) :
 bM (w'.setCell ⟨xb,i,none⟩ u) xb s y∧Below xb w (w'.setCell ⟨xb,i,none⟩ u):=by
 obtain⟨ov,h1,h2⟩:=h;exact⟨bM.sU h1 h2 i u (hy ov) ho,hb.setCell (p:=⟨xb,i,none⟩) (Nat.le_refl xb) _⟩
def dW(s:ByteArray)(x:Lx):Lx:=
 if h:x.pos<s.size∧nx s x.pos≠10∧nx s x.pos≠13 then
  if h2:(pt s x.pos).2=0 then{x with bad:=true,unsure:=true} else
  dW s {x with pos:=x.pos+(pt s x.pos).2,unsure:=x.unsure||!Qz (pt s x.pos).1||!oy (pt s x.pos).1||decide (128≤(pt s x.pos).1)}
 else x
termination_by s.size-x.pos
decreasing_by
 show s.size-(x.pos+(pt s x.pos).2)<s.size-x.pos;omega
def OL(w:World)(xb:Nat)(s:ByteArray)(x:Lx)(g:Nat)(wr:World):Prop:=
 ∃y,bM wr xb s y∧Below xb w wr∧Hd (dW s x=dW s y)∧y.pos≤s.size∧g=s.size-y.pos
theorem IA(xb:Nat)(s:ByteArray)(x:Lx)(w:World)(hx:bM w xb s x)(hs:s.size≤1099511627776)(hp:x.pos≤s.size) :
 Calls Tryz.prog 46 #[.pointer (some ⟨xb,0,none⟩)] w fun e w'=>e=.returned (.tuple #[])∧bM w' xb s (dW s x)∧Below xb w w':=by
 go_enter Tryz.func46,Tryz.ntmps46;go_wp2_with fail
 go_loopg [] (s.size-x.pos) (fun g wr=>OL w xb s x g wr)
 case atStart=>exact⟨x,hx,Below.refl _ _,rfl,hp,rfl⟩
 case round=>
  obtain⟨y,hy,hb,hd,Sg,rfl⟩:=hrel;obtain⟨ov,h1,h2,c0,c1,c3,c4,f1,f3,f4⟩:=hy.facts;by_cases q1:y.pos<s.size
  · have z1:(0:Int)≤(y.pos:Int):=by omega
    have z2:(y.pos:Int)<(s.size:Int):=by omega
    have z3:s[y.pos].toNat=nx s y.pos:=fi q1;by_cases q2:nx s y.pos=10
    · have hf:Hd (dW s x=y):=hd.out.trans (by rw[dW,dif_neg (by omega)]);go_upto_region 0 with fail
      go_quiet (fail);go_wp2;go_end0;exact⟨rfl,by rw[hf.out];exact hy.drewN _,below_drewN hb _⟩
    by_cases q3:nx s y.pos=13
    · have hf:Hd (dW s x=y):=hd.out.trans (by rw[dW,dif_neg (by omega)]);go_upto_region 0 with fail
      go_quiet (fail);go_wp2;go_end0;exact⟨rfl,by rw[hf.out];exact hy.drewN _,below_drewN hb _⟩
    have e1:((nx s y.pos:Int) !=10)=true:=by simp;omega
    have e2:((nx s y.pos:Int) !=13)=true:=by simp;omega
    have AM:=MD s y.pos;by_cases q4:(pt s y.pos).2=0
    · have hf:Hd (dW s x={y with bad:=true,unsure:=true}):=hd.out.trans (by rw[dW,dif_pos ⟨q1,q2,q3⟩,dif_pos q4]);clear AM;go_upto_region 0 with fail
      go_quiet (fail);have lE:bM (wr.drewN nq) xb s y:=hy.drewN _;have gP:=below_drewN hb nq;clear h1 h2 c0 c1 c3 c4 f1 f3 f4 hy hb;generalize wr.drewN nq=w1 at *;obtain⟨ov,h1,h2,c0,c1,c3,c4,f1,f3,f4⟩:=lE.facts;have zq:=fun W=>vz s y.pos W hs q1;rw[q4] at zq;go_upto_region 1 with fail
      go_quiet ((go_at_call 86;exact Calls.quiet_of_same (zq _)));have oM:=lE.drewN nq;have kh:=below_drewN gP nq;clear h1 h2 c0 c1 c3 c4 f1 f3 f4 lE gP zq;generalize w1.drewN nq=w2 at *;obtain⟨ov,h1,h2,c0,c1,c3,c4,f1,f3,f4⟩:=oM.facts;go_wp2;go_returns;refine⟨rfl,?_⟩;rw[hf.out];have a1:=ej (y:={y with bad:=true}) oM kh 3 (.bool true) (by decide) (fun _=>rfl) rfl;exact ej (y:={y with bad:=true,unsure:=true}) a1.1 a1.2 4 (.bool true) (by decide) (fun _=>rfl) rfl
    · obtain⟨c,n,R9⟩:∃c n,pt s y.pos=(c,n):=⟨_,_,rfl⟩;have nK:Hd (dW s x=dW s {y with pos:=y.pos+n,unsure:=y.unsure||!Qz c||!oy c||decide (128≤c)}):=hd.out.trans (by rw[dW,dif_pos ⟨q1,q2,q3⟩,dif_neg q4,R9]);have AM:=AM q4 q1;rw[R9] at q4 AM;dsimp only at q4 AM;have zq:=fun W=>vz s y.pos W hs q1;rw[R9] at zq;dsimp only at zq;clear R9;obtain⟨k1,k2,k3,k4⟩:=AM;have q4':((n:Int)==0)=false:=by simp;omega
      go_upto_region 0 with fail
      go_quiet (fail);have lE:bM (wr.drewN nq) xb s y:=hy.drewN _;have gP:=below_drewN hb nq;clear h1 h2 c0 c1 c3 c4 f1 f3 f4 hy hb;generalize wr.drewN nq=w1 at *;obtain⟨ov,h1,h2,c0,c1,c3,c4,f1,f3,f4⟩:=lE.facts;go_upto_region 1 with fail
      go_quiet ((go_at_call 86;exact Calls.quiet_of_same (zq _)));have oM:=lE.drewN nq;have kh:=below_drewN gP nq;clear h1 h2 c0 c1 c3 c4 f1 f3 f4 lE gP zq;generalize w1.drewN nq=w2 at *;obtain⟨ov,h1,h2,c0,c1,c3,c4,f1,f3,f4⟩:=oM.facts;obtain⟨uu,Vt⟩:∃uu,(y.unsure||!Qz c||!oy c||decide (128≤c))=uu:=⟨_,rfl⟩
      rw[Vt] at nK;go_upto_region 5 with(go_at_call 87;refine(ff c _).mono ?_;rintro e w' ⟨rfl,aY⟩;rw[aY];clear aY w')
      go_cut [4,5] from 6 to 91 (fun p q wx=>bM wx xb s {y with unsure:=uu}∧Below xb w wx)
      case first=>
       clear nK hd;have Vt:Hd ((y.unsure||!Qz c||!oy c||decide (128≤c))=uu):=Vt
       cases g1:y.unsure with
       | true=>
        obtain rfl:uu=true:=by rw[←Vt.out,g1];rfl
        rw[g1] at c4;go_wp2;go_meet
        exact ej (y:={y with unsure:=true}) oM kh 4 (.bool true) (by decide) (fun _=>rfl) rfl
       | false=>
        rw[g1] at c4
        cases g2:Qz c with
        | false=>
         obtain rfl:uu=true:=by rw[←Vt.out,g1,g2];rfl
         go_wp2;go_meet
         exact ej (y:={y with unsure:=true}) oM kh 4 (.bool true) (by decide) (fun _=>rfl) rfl
        | true=>
         cases g3:oy c with
         | false=>
          obtain rfl:uu=true:=by rw[←Vt.out,g1,g2,g3];rfl
          go_wp2;go_meet
          exact ej (y:={y with unsure:=true}) oM kh 4 (.bool true) (by decide) (fun _=>rfl) rfl
         | true=>
          obtain rfl:uu=decide (128≤c):=by rw[←Vt.out,g1,g2,g3];rfl
          go_wp2;go_meet;exact ej (y:={y with unsure:=(decide (128≤c))}) oM kh 4 (.bool (decide (128≤c))) (by decide) (fun _=>rfl) rfl
      case rest=>
       obtain⟨wb,uf⟩:=hcut;clear h1 h2 c0 c1 c3 c4 f1 f3 f4 oM kh;obtain⟨ov,h1,h2,c0,c1,c3,c4,f1,f3,f4⟩:=wb.facts;go_wp2;go_roundg (s.size-(y.pos+n))
       case measure=>omega
       case rel=>have a1:=ej (y:={y with unsure:=uu,pos:=y.pos+n}) wb uf 1 (.int .i64 ((y.pos:Int)+(n:Int))) (by decide) (fun _=>rfl) rfl;unfold OL;exact⟨_,a1.1,a1.2,nK,k1,rfl⟩
  · have hf:Hd (dW s x=y):=hd.out.trans (by rw[dW,dif_neg (by omega)]);have z2:¬((y.pos:Int)<(s.size:Int)):=by omega
    go_upto_region 0 with fail
    go_quiet (fail);go_wp2;go_end0;exact⟨rfl,by rw[hf.out];exact hy.drewN _,below_drewN hb _⟩
end Go.Proofs.YtnpjmhodfdgloaaGreatDoor
