/- Part of the proof. -/
import Derived.Lib.SlBytesRow
import Derived.Test.YtnpjmhodfdgloaaGreatDoorQ14
import Derived.Test.YtnpjmhodfdgloaaGreatDoorQ16
set_option linter.unusedVariables false
set_option linter.unusedSimpArgs false
namespace Go.Proofs.YtnpjmhodfdgloaaGreatDoor
set_option maxRecDepth 100000
set_option maxHeartbeats 32000000
open Go.RowKit
attribute [local go_sem ↓] Go.wp_at_zero Go.wp_at_succ
theorem wV(s:ByteArray):∀m x,x.unsure=true→(lU s m x).unsure=true
 | 0,x,hu=>hu
 | m+1,x,hu=>by
  show(if x.bad=false∧x.out=[]∧x.pos<s.size then lU s m (bU s x) else x).unsure=true;split
  · exact wV s m _ (uF s x hu)
  · exact hu
theorem zU{s:ByteArray}{p:Nat}(hp:p<s.size)(h:(bU s ⟨p,[],false,false⟩).unsure=true):rd s p=.eo:=by unfold rd xy;rw[ky ⟨rfl,rfl,hp⟩];unfold kE;rw[if_pos (wV s _ _ h)]
def tv(s:ByteArray)(q:Nat):Prop:=q<s.size→¬(nx s q=32∨nx s q=9∨nx s q=10∨nx s q=13∨nx s q=44)∧nx s q≠35∧st s q Ks=false
theorem Np{s:ByteArray}{k:Nat}(hk:k<s.size)(h:nx s k=32∨nx s k=9∨nx s k=10∨nx s k=13∨nx s k=44):rd s k=rd s (k+1):=
 H5 hk (by unfold bU;dsimp only;rw[if_pos h])
theorem Ma{s:ByteArray}{k:Nat}(hk:k<s.size)(h0:¬(nx s k=32∨nx s k=9∨nx s k=10∨nx s k=13∨nx s k=44))(h:st s k Ks=true):rd s k=.eo:=
 zU hk (by unfold bU;dsimp only;rw[if_neg h0,if_pos (show st s k ⟨#[239,187,191]⟩=true from h)])
theorem zi{s:ByteArray}{k:Nat}(h:st s k Ks=true):nx s k=239:=by have:=(of_decide_eq_true h).2;rw[←qZ this (by decide)];decide
theorem Mb{s:ByteArray}{k:Nat}(h:nx s k=35):bU s ⟨k,[],false,false⟩=dW s ⟨k,[],false,false⟩:=by unfold bU;dsimp only;rw[if_neg (by rw[h];decide),if_neg (fun e=>by have:=zi e;rw[h] at this;cases this),if_pos h]
theorem RV{s:ByteArray}{j:Nat}(h:¬(j<s.size∧nx s j≠10∧nx s j≠13)):dW s ⟨j,[],false,false⟩=⟨j,[],false,false⟩:=by rw[dW,dif_neg h]
theorem GX{s:ByteArray}{j:Nat}(h:nx s j<128):pt s j=((nx s j:Int),1):=by unfold pt;rw[if_pos h]
theorem Iy{s:ByteArray}{j:Nat}(h:j<s.size∧nx s j≠10∧nx s j≠13)(hu:(dW s ⟨j,[],false,false⟩).unsure=false) :
 nx s j<128∧(nx s j=9∨32≤nx s j)∧dW s ⟨j,[],false,false⟩=dW s ⟨j+1,[],false,false⟩:=by
 rw[dW,dif_pos h] at hu ⊢;dsimp only at hu ⊢;by_cases h2:(pt s j).2=0
 · rw[dif_pos h2] at hu;cases hu
 rw[dif_neg h2] at hu ⊢
 have hq:(false||!Qz (pt s j).1||!oy (pt s j).1||decide (128≤(pt s j).1))=false:=by
  cases hx:(false||!Qz (pt s j).1||!oy (pt s j).1||decide (128≤(pt s j).1)) with
  | false=>rfl
  | true=>rw[hx] at hu;have:=yF s _ ⟨j+(pt s j).2,[],false,true⟩ lr rfl;rw[this] at hu;cases hu
 have XG:nx s j<128:=by
  by_cases hb:nx s j<128
  · exact hb
  · exfalso
    have h3:128≤(pt s j).1:=by
     rcases Jo s j (by omega) h2 with⟨a1,a2,a3,a4,a5,a6⟩|⟨a1,a2,a3,a4,a5,a6,a7,a8,a9,TB⟩|⟨a1,a2,a3,a4,a5,a6,a7,a8,a9,TB,ZT,a12⟩
     · rw[a6];dsimp only;omega
     · omega
     · omega
    simp[h3] at hq
 rw[hq];rw[GX XG] at hq ⊢
 have hb:oy (nx s j:Int)=true:=by
  cases hx:oy (nx s j:Int) with
  | true=>rfl
  | false=>rw[hx] at hq;simp at hq
 refine⟨XG,?_,rfl⟩;unfold oy at hb;have:=of_decide_eq_true hb;omega
def LW(s:ByteArray)(p:Nat)(w:World)(e:Ending)(w':World):Prop:=∃q:Nat,e=.returned (.tuple #[.int .i64 (q:Int),.int .i64 (q:Int)])∧p≤q∧q≤s.size∧rd s q=rd s p∧tv s q∧Sm [] w w'
def xf(s:ByteArray)(p:Nat)(w:World)(u v:Value)(wr:World):Prop:=∃k:Nat,u=.int .i64 (k:Int)∧v=.int .i64 (k:Int)∧p≤k∧k≤s.size∧Hd (rd s k=rd s p)∧Sm [] w wr
def xX(s:ByteArray)(k:Nat)(w:World)(u v:Value)(wr:World):Prop:=∃j:Nat,u=.int .i64 (j:Int)∧v=.int .i64 (j:Int)∧k<j∧j≤s.size∧Hd (dW s ⟨k,[],false,false⟩=dW s ⟨j,[],false,false⟩)∧Sm [] w wr
theorem S2(hD:iR)(s:ByteArray)(bb cap p:Nat)(w:World)(hb:ji w bb s)(Gc:s.size≤cap)(ht:qW w)(hs:s.size≤1099511627776)(hp:p≤s.size)(ho:rd s p≠.eo) :
 Calls Tryz.prog 94 #[.slice (some ⟨bb,0,none⟩) s.size cap,.int .i64 p] w (LW s p w):=by
 have HR:Hd (∀i W,Sm [] w W→i≤s.size→Calls Tryz.prog 96 #[.slice (some ⟨bb,0,none⟩) s.size cap,.int .i64 (i:Nat)] W (nV s i W)):=
  fun i W h hi=>lX hD s bb cap i W (hb.sm h (by simp)) Gc (ht.sm h (by simp)) hs (by omega)
 have HO:=ae ho;clear hb ht ho;go_enter Tryz.func94,Tryz.ntmps94;go_wp2_with fail
 go_loopw [4,5] (fun u v wr=>xf s p w u v wr) (fun u _ _=>s.size-(intOf u).toNat)
 case atStart=>unfold xf;exact⟨p,rfl,rfl,lr,hp,rfl,sr⟩
 case round=>
  unfold xf at hrel;obtain⟨k,rfl,rfl,XY,hk,hd,iI⟩:=hrel;by_cases b9:k<s.size
  · have k2:(k:Int)<(s.size:Int):=by omega
    have HS:=ae iI;clear iI;go_wp2_with fail;refine(HR.o k _ HS.o hk).mono ?_;rintro e w1 ⟨c,n,rfl,l8,cJ⟩;have av:=ae (HS.o.trans cJ);clear cJ;by_cases ha:nx s k<128
    · obtain⟨rfl,rfl⟩:=l8.s6 b9 ha;clear l8;by_cases tV:nx s k=32∨nx s k=9∨nx s k=10∨nx s k=13∨nx s k=44
      · have eL:Hd (rd s (k+1)=rd s p):=by unfold Hd;rw[←Np b9 tV];exact hd.out
        clear hd ha;rcases tV with h|h|h|h|h
        all_goals
         rw[h];clear h;go_wp2_with fail;go_roundw
         case rel=>(first| refine⟨_,_,?_,rfl,rfl⟩|skip);unfold xf;exact⟨k+1,by go_num,by go_num,by omega,by omega,eL,av.o⟩
         case measure=>simp[intOf];omega
      · by_cases hc:nx s k=35
        · have tX:rd s k≠.eo:=by rw[hd.out];exact HO.o
          have HU:Hd ((dW s ⟨k,[],false,false⟩).unsure=false):=by
           unfold Hd
           cases hx:(dW s ⟨k,[],false,false⟩).unsure with
           | false=>rfl
           | true=>exact absurd (zU b9 (by rw[Mb hc];exact hx)) tX
          have lD:=ae (Iy (s:=s) (j:=k) ⟨b9,by omega,by omega⟩ HU.o).2.2;have HG:Hd (∀j,dW s ⟨k,[],false,false⟩=⟨j,[],false,false⟩→rd s j=rd s p):=fun j hj=>by rw[←H5 b9 ((Mb hc).trans hj)];exact hd.out
          clear tV hd tX;rw[hc];clear hc;go_wp2_with fail
          go_loopw [4,5] (fun u v wr=>xX s k w u v wr) (fun u _ _=>s.size-(intOf u).toNat)
          case atStart=>unfold xX;exact⟨k+1,by go_num,by go_num,by omega,by omega,lD.out,av.o⟩
          case round=>
           unfold xX at hrel;obtain⟨j,rfl,rfl,hkj,hj,iW,(ax:Hd _)⟩:=hrel;clear av;go_wp2_with fail;refine(HR.o j _ ax.o hj).mono ?_;rintro e w2 ⟨c,n,rfl,l8,cT⟩;have aO:=ae (ax.o.trans cT);clear cT;by_cases Be:j<s.size∧nx s j≠10∧nx s j≠13
           · obtain⟨a1,a2,a3⟩:=Iy Be (by rw[←iW.out];exact HU.o);obtain⟨rfl,rfl⟩:=l8.s6 Be.1 a1;have TK:Hd (dW s ⟨k,[],false,false⟩=dW s ⟨j+1,[],false,false⟩):=iW.out.trans a3;have z1:(j:Int)<(s.size:Int):=by omega
             have z2:((nx s j:Int) !=0)=true:=by simp;omega
             have z4:((nx s j:Int) !=10)=true:=by simp;omega
             have z5:((nx s j:Int) !=13)=true:=by simp;omega
             obtain⟨Z1,IW,hj3⟩:=Be;clear l8 a3 iW IW hj3;by_cases h9:nx s j=9
             · have z6:¬((nx s j:Int)>31):=by omega
               have z7:((nx s j:Int)==9)=true:=by simp;omega
               clear h9 a2;go_wp2_with fail;go_roundw
               case rel=>(first| refine⟨_,_,?_,rfl,rfl⟩|skip);unfold xX;exact⟨j+1,by go_num,by go_num,by omega,by omega,TK,aO.o⟩
               case measure=>simp[intOf];omega
             · have z6:(nx s j:Int)>31:=by omega
               clear h9 a2;go_wp2_with fail;go_roundw
               case rel=>(first| refine⟨_,_,?_,rfl,rfl⟩|skip);unfold xX;exact⟨j+1,by go_num,by go_num,by omega,by omega,TK,aO.o⟩
               case measure=>simp[intOf];omega
           · have Yk:Hd (rd s j=rd s p):=HG.o j (iW.out.trans (RV Be));by_cases Z1:j<s.size
             · have z1:(j:Int)<(s.size:Int):=by omega
               by_cases jq:nx s j=10
               · obtain⟨rfl,rfl⟩:=l8.s6 Z1 (by omega);rw[jq];clear l8 Be jq iW;go_wp2_with fail;go_roundw
                 case rel=>(first| refine⟨_,_,?_,rfl,rfl⟩|skip);unfold xf;exact⟨j,rfl,rfl,by omega,by omega,Yk,aO.o⟩
                 case measure=>simp[intOf];omega
               · have WS:nx s j=13:=by
                  by_cases h:nx s j=13
                  · exact h
                  · exact absurd ⟨Z1,jq,h⟩ Be
                 obtain⟨rfl,rfl⟩:=l8.s6 Z1 (by omega);rw[WS];clear l8 Be jq WS iW;go_wp2_with fail;go_roundw
                 case rel=>(first| refine⟨_,_,?_,rfl,rfl⟩|skip);unfold xf;exact⟨j,rfl,rfl,by omega,by omega,Yk,aO.o⟩
                 case measure=>simp[intOf];omega
             · have z1:¬((j:Int)<(s.size:Int)):=by omega
               clear l8 Be iW;go_wp2_with fail;go_roundw
               case rel=>(first| refine⟨_,_,?_,rfl,rfl⟩|skip);unfold xf;exact⟨j,rfl,rfl,by omega,by omega,Yk,aO.o⟩
               case measure=>simp[intOf];omega
        · have HN:Hd (tv s k):=fun _=>⟨tV,hc,by
           cases hx:st s k Ks with
           | false=>rfl
           | true=>have:=zi hx;omega⟩
          have z1:((nx s k:Int)==65279)=false:=by simp;omega
          have z2:((nx s k:Int)==9)=false:=by simp;omega
          have z3:((nx s k:Int)==32)=false:=by simp;omega
          have z4:((nx s k:Int)==10)=false:=by simp;omega
          have z5:((nx s k:Int)==13)=false:=by simp;omega
          have z6:((nx s k:Int)==44)=false:=by simp;omega
          have z7:((nx s k:Int)==35)=false:=by simp;omega
          clear tV hc ha;go_wp2_with fail;go_returns;exact⟨k,rfl,XY,hk,hd.out,HN.o,av.o⟩
    · obtain⟨b1,b2,b3,b4,b5,b6⟩:=l8.UN (by omega);have hcb:c≠65279:=fun e=>HO.o (by rw[←hd.out];exact Ma b9 (by omega) (b6 e))
      have HN:Hd (tv s k):=fun _=>⟨by omega,by omega,by
       cases hx:st s k Ks with
       | false=>rfl
       | true=>exact absurd (by rw[←hd.out];exact Ma b9 (by omega) hx) HO.o⟩
      have z1:(c==65279)=false:=by simp;omega
      have z2:(c==9)=false:=by simp;omega
      have z3:(c==32)=false:=by simp;omega
      have z4:(c==10)=false:=by simp;omega
      have z5:(c==13)=false:=by simp;omega
      have z6:(c==44)=false:=by simp;omega
      have z7:(c==35)=false:=by simp;omega
      clear l8 b5 b6 hcb ha;go_wp2_with fail;go_returns;exact⟨k,rfl,XY,hk,hd.out,HN.o,av.o⟩
  · have k2:¬((k:Int)<(s.size:Int)):=by omega
    have HN:Hd (tv s k):=fun h=>absurd h b9;have HS:=ae iI;clear iI;go_wp2_with fail;go_returns;exact⟨k,rfl,XY,hk,hd.out,HN.o,HS.o⟩
def kg(t:Tok):Value:=.agg #[.int .i64 t.kind,.int .i64 (t.start:Int),.int .i64 (t.stop:Int),.string t.val]
def Ez:Value:=.agg #[.int .i64 0,.int .i64 0,.int .i64 0,.string ⟨#[]⟩]
def dm:Obj:=.cells #[.int .i64 0,.int .i64 0,.int .i64 0,.string ⟨#[]⟩] 91 (0,0)
def xV(s:ByteArray):Prop:=∀i,i<s.size→nx s i<128
def ij(s:ByteArray)(r:LR)(w:World)(e:Ending)(w':World):Prop:=Sm [] w w'∧match r with
 | .tok t=>e=.returned (.tuple #[kg t,.nilIface])
 | .err _=>∃v pl,e=.returned (.tuple #[Ez,.iface 51 v])∧(lh s).rd w.heap.size w'.heap.size w' v pl∧pl≤s.size∧(xV s→¬mid s pl)
 | .eo=>True
def FG(k:Int)(a b:Int)(v:ByteArray)(w:World)(e:Ending)(w':World):Prop:=e=.returned (.agg #[.int .i64 k,.int .i64 a,.int .i64 b,.string v])∧Sm [] w w'
theorem bh(k a b:Int)(v:ByteArray)(w:World):Calls Tryz.prog 95 #[.int .i64 k,.int .i64 a,.int .i64 b,.string v] w (FG k a b v w):=by go_enter Tryz.func95,Tryz.ntmps95;go_wp2_with fail;go_returns;exact⟨rfl,(Sm.refl [] w).alloc _⟩
theorem ei{w w':World}{k:Nat}(h:Sm [] w w')(hk:w.heap.size≤k)(a b c d:Value):Sm [] w ((((w'.setCell ⟨k,0,none⟩ a).setCell ⟨k,1,none⟩ b).setCell ⟨k,2,none⟩ c).setCell ⟨k,3,none⟩ d):=
 (((h.setCell (p:=⟨k,0,none⟩) (.inl hk) _).setCell (p:=⟨k,1,none⟩) (.inl hk) _).setCell (p:=⟨k,2,none⟩) (.inl hk) _).setCell (p:=⟨k,3,none⟩) (.inl hk) _
structure UG(w:World)(k:Nat):Prop where
 c0:w.cell? ⟨k,0,none⟩=some (.int .i64 0)
 c1:w.cell? ⟨k,1,none⟩=some (.int .i64 0)
 c2:w.cell? ⟨k,2,none⟩=some (.int .i64 0)
 c3:w.cell? ⟨k,3,none⟩=some (.string ⟨#[]⟩)
 f0:w.frozen? ⟨k,0,none⟩=false
 f1:w.frozen? ⟨k,1,none⟩=false
 f2:w.frozen? ⟨k,2,none⟩=false
 f3:w.frozen? ⟨k,3,none⟩=false
theorem cS{w w':World}(h:Sm [] (w.alloc dm) w'):UG w' w.heap.size:=by have ho:w'.heap[w.heap.size]?=some dm:=h.obj (ai w dm) (by simp);exact⟨cell_of ho rfl,cell_of ho rfl,cell_of ho rfl,cell_of ho rfl,aF ho 0,aF ho 1,aF ho 2,aF ho 3⟩
def LS(s:ByteArray)(p:Nat)(w:World)(e:Ending)(w':World):Prop:=Sm [] w w'∧((eC (nx s p)=true∧e=.returned (.tuple #[.int .i64 (eN s p:Int),.nilIface]))∨(eC (nx s p)=false∧∃v,e=.returned (.tuple #[.int .i64 (p:Int),.iface 51 v])∧(lh s).rd w.heap.size w'.heap.size w' v p))
def Fv(s:ByteArray)(p:Nat)(w:World)(u c n:Value)(wr:World):Prop:=∃(k:Nat) (cc nn:Int),u=.int .i64 (k:Int)∧c=.int .i32 cc∧n=.int .i64 nn∧p≤k∧k≤s.size∧Hd (Rn s k cc nn)∧Hd (eN s p=eN s k)∧Sm [] w wr
theorem rR{s:ByteArray}{k:Nat}{c n:Int}(h:Rn s k c n):(eC (nx s k)=true→k<s.size∧c=(nx s k:Int)∧n=1∧(48≤c∧c≤57))∧(eC (nx s k)=false→¬(48≤c∧c≤57)):=by
 constructor
 · intro hd;have h1:=J3 hd;unfold eC at hd;have hd:=of_decide_eq_true hd;obtain⟨a,b⟩:=h.s6 h1 (by omega);exact⟨h1,a,b,by omega⟩
 · intro hd;unfold eC at hd;have hd:=of_decide_eq_false hd;by_cases h1:k<s.size
   · by_cases h2:nx s k<128
     · obtain⟨a,b⟩:=h.s6 h1 h2;omega
     · have:=(h.UN (by omega)).1;omega
   · obtain⟨a,b⟩:=h.out (by omega);omega
theorem CT(hD:iR)(s:ByteArray)(sb bb cap p:Nat)(c n:Int)(w:World)(dA:kj w sb bb cap s)(ht:qW w)(hp:p≤s.size)(hr:Rn s p c n) :
 Calls Tryz.prog 125 #[.pointer (some ⟨sb,0,none⟩),.int .i64 p,.int .i32 c,.int .i64 n] w (LS s p w):=by
 have HR:Hd (∀i W,Sm [] w W→i≤s.size→Calls Tryz.prog 96 #[.slice (some ⟨bb,0,none⟩) s.size cap,.int .i64 (i:Nat)] W (nV s i W)):=
  fun i W h hi=>lX hD s bb cap i W (dA.bytes.sm h (by simp)) dA.le (ht.sm h (by simp)) dA.small (by have:=dA.small;omega)
 have HN:Hd (∀d,Calls Tryz.prog 84 #[.pointer (some ⟨sb,0,none⟩),.int .i64 p,.string d] w (kL s p w)):=fun d=>dD s sb bb cap p d w dA (by have:=dA.small;omega);have c0:=dA.c0;have om:=dA.small;clear dA ht
 cases hd:eC (nx s p) with
 | true=>
  obtain⟨h1,rfl,rfl,h2,h3⟩:=(rR hr).1 hd;have eL:=ae hd;have nj:=ae hr;clear hd hr HN;go_enter Tryz.func125,Tryz.ntmps125;go_wp2_with fail
  go_loopw [11,12,3] (fun u c n wr=>Fv s p w u c n wr) (fun u _ _ _=>s.size-(intOf u).toNat)
  case atStart=>unfold Fv;exact⟨p,_,_,rfl,rfl,rfl,lr,hp,nj.out,rfl,sr⟩
  case round=>
   unfold Fv at hrel;obtain⟨k,cc,nn,rfl,rfl,rfl,XY,hk,Z7,s7,(HS:Hd _)⟩:=hrel
   cases iW:eC (nx s k) with
   | true=>
    obtain⟨g1,rfl,rfl,g2,g3⟩:=(rR Z7.out).1 iW;have S5:Hd (eN s p=eN s (k+1)):=s7.out.trans (nX iW);clear iW s7 Z7;go_wp2_with fail;refine(HR.o (k+1) _ HS.o (by omega)).mono ?_;rintro e w1 ⟨c',n',rfl,l8,cJ⟩;have av:=ae (HS.o.trans cJ);have Z0w:=ae l8;clear cJ l8;go_wp2_with fail;go_roundw
    case rel=>(first| refine⟨_,_,_,?_,rfl,rfl,rfl⟩|skip);unfold Fv;exact⟨k+1,_,_,by go_num,rfl,rfl,by omega,by omega,Z0w,S5,av.o⟩
    case measure=>simp[intOf];omega
   | false=>
    have hn:=(rR Z7.out).2 iW;have S5:Hd (eN s p=k):=s7.out.trans (vh iW);clear iW s7 Z7;by_cases h48:48≤cc
    · have z1:¬(cc≤57):=by omega
      clear hn;go_wp2_with fail;go_returns;exact⟨HS.o,.inl ⟨eL.out,by rw[S5.out];rfl⟩⟩
    · have z1:¬(cc≥48):=by omega
      clear hn;go_wp2_with fail;go_returns
      exact⟨HS.o,.inl ⟨eL.out,by rw[S5.out];rfl⟩⟩
 | false=>
  have hn:=(rR hr).2 hd;have eL:=ae hd;clear hd hr HR;by_cases h48:48≤c
  · have z1:¬(c≤57):=by omega
    clear hn;go_enter Tryz.func125,Tryz.ntmps125;go_wp2_with fail;refine(HN.o _).mono ?_;rintro e w1 ⟨v,rfl,h1,h2⟩;go_wp2_with fail;go_returns;exact⟨h2,.inr ⟨eL.out,v,rfl,h1⟩⟩
  · have z1:¬(c≥48):=by omega
    clear hn;go_enter Tryz.func125,Tryz.ntmps125;go_wp2_with fail;refine(HN.o _).mono ?_;rintro e w1 ⟨v,rfl,h1,h2⟩;go_wp2_with fail;go_returns;exact⟨h2,.inr ⟨eL.out,v,rfl,h1⟩⟩
def wg(c:Nat):Bool:=gN c||eC c
theorem T3{s:ByteArray}{k:Nat}{c n:Int}(h:Rn s k c n)(hk:k<s.size):wg (nx s k)=true↔((48≤c∧c≤57)∨(65≤c∧c≤90)∨c=95∨(97≤c∧c≤122)):=by
 have hl:=fb s k;unfold wg gN eC;by_cases h2:nx s k<128
 · obtain⟨a,b⟩:=h.s6 hk h2;subst a;simp;omega
 · have:=(h.UN (by omega)).1;simp;omega
theorem jg(s:ByteArray)(bb p q cap:Nat)(w:World)(hb:ji w bb s)(h1:p≤q)(h2:q≤s.size) :
 (convert 70 9 (.slice (some ⟨bb,p,none⟩) (q-p) cap)).run Tryz.prog w=.ok (.string (s.extract p q)) w:=by
 have h:=Lib.run_convert_window (P:=Tryz.prog) w 70 5 9 Tryz.underlying70 Tryz.underlying5 Tryz.underlying9 bb 0 s (fun i hi=>by rw[Nat.zero_add,hb i hi,fi hi]) p (q-p) cap (by omega);rw[Nat.zero_add,show p+(q-p)=q by omega] at h;exact h
def xj(s:ByteArray)(p:Nat)(w:World)(u v:Value)(wr:World):Prop:=∃k:Nat,u=.int .i64 (k:Int)∧v=.int .i64 (k:Int)∧p<k∧k≤s.size∧Hd (cw s p=cw s k)∧Sm [] (w.alloc dm) wr
theorem yV(hD:iR)(s:ByteArray)(sb bb cap p:Nat)(w:World)(dA:kj w sb bb cap s)(ht:qW w)(hp:p<s.size)(hn:gN (nx s p)=true) :
 Calls Tryz.prog 97 #[.pointer (some ⟨sb,0,none⟩),.int .i64 p,.int .i64 p] w (FG 15 p (cw s p:Nat) (s.extract p (cw s p)) w):=by
 have HR:Hd (∀i W,Sm [] w W→i≤s.size→Calls Tryz.prog 96 #[.slice (some ⟨bb,0,none⟩) s.size cap,.int .i64 (i:Nat)] W (nV s i W)):=
  fun i W h hi=>lX hD s bb cap i W (dA.bytes.sm h (by simp)) dA.le (ht.sm h (by simp)) dA.small (by have:=dA.small;omega)
 have HS:=ae dA;have c0:∀o,(w.alloc o).cell? ⟨sb,0,none⟩=some (.slice (some ⟨bb,0,none⟩) s.size cap):=fun o=>((Sm.refl [] w).alloc o).keeps dA.c0 (by simp);have om:=dA.small;have Gc:=dA.le;have hN:Hd (cw s p=cw s (p+1)):=lV (by rw[hn];rfl);have hNl:=zP hn hp;clear dA ht hn;go_enter Tryz.func97,Tryz.ntmps97;go_wp2_with fail
 go_loopw [9,10] (fun u v wr=>xj s p w u v wr) (fun u _ _=>s.size-(intOf u).toNat)
 case atStart=>unfold xj;exact⟨p+1,by go_num,by go_num,by omega,by omega,hN.out,sr⟩
 case round=>
  unfold xj at hrel;obtain⟨k,rfl,rfl,XY,hk,hd,iI⟩:=hrel;have ya:=ae iI;have HSk:=ae (((Sm.refl [] w).alloc dm).trans iI);clear iI;go_wp2_with fail;refine(HR.o k _ HSk.o hk).mono ?_;rintro e w1 ⟨c,n,rfl,l8,cJ⟩;have av:=ae (ya.o.trans cJ);clear cJ ya HSk;have HT:=ae (cS av.o);by_cases Mk:k=s.size
  · have z1:((k:Int) !=(s.size:Int))=false:=by simp;omega
    have hf:Hd (cw s p=k):=by unfold Hd;rw[hd.out,Mk];exact ny (by rw[pK lr];decide)
    clear hd l8 Mk;have IV:=jg s bb p k (cap-p) w1 (HS.o.bytes.sm (((Sm.refl [] w).alloc dm).trans av.o) (by simp)) (by omega) hk;have q1:(0:Int)≤(p:Int):=by omega
    have q2:(p:Int)≤(k:Int):=by omega
    have q3:(k:Int)≤(cap:Int):=by omega
    go_wp2_with fail;refine(bh _ _ _ _ _).mono ?_;rintro e w2 ⟨rfl,cT⟩;have kc:=ae (cS (av.o.trans cT));have ax:=ae ((((Sm.refl [] w).alloc dm).trans av.o).trans cT);obtain⟨t0,t1,t2,t3,g0,g1,g2,g3⟩:=kc.o;clear cT IV;go_wp2_with fail;refine bodyPost_ret (by simp[results,Tryz.results97,go_sem,t0,t1,t2,t3];try rfl) rfl ?_;rw[hf.out];exact⟨rfl,ei ax.o lr _ _ _ _⟩
  · have b9:k<s.size:=by omega
    have z1:((k:Int) !=(s.size:Int))=true:=by simp;omega
    have tW:=T3 l8 b9;clear l8 Mk;have hcs:(c<48)∨(48≤c∧c≤57)∨(58≤c∧c≤64)∨(65≤c∧c≤90)∨(91≤c∧c≤94)∨(c=95)∨(c=96)∨(97≤c∧c≤122)∨(123≤c):=by omega
    rcases hcs with hc|hc|hc|hc|hc|hc|hc|hc|hc
    · have IY:wg (nx s k)=false:=by
       cases hx:wg (nx s k) with
       | false=>rfl
       | true=>have:=tW.1 hx;omega
      have hf:Hd (cw s p=k):=hd.out.trans (ny IY);have VW:(c==95)=false:=by simp;omega
      have n48:¬(c≥48):=by omega
      clear IY tW hd hc;have IV:=jg s bb p k (cap-p) w1 (HS.o.bytes.sm (((Sm.refl [] w).alloc dm).trans av.o) (by simp)) (by omega) hk;have q1:(0:Int)≤(p:Int):=by omega
      have q2:(p:Int)≤(k:Int):=by omega
      have q3:(k:Int)≤(cap:Int):=by omega
      go_wp2_with fail;refine(bh _ _ _ _ _).mono ?_;rintro e w2 ⟨rfl,cT⟩;have kc:=ae (cS (av.o.trans cT));have ax:=ae ((((Sm.refl [] w).alloc dm).trans av.o).trans cT);obtain⟨t0,t1,t2,t3,g0,g1,g2,g3⟩:=kc.o;clear cT IV;go_wp2_with fail;refine bodyPost_ret (by simp[results,Tryz.results97,go_sem,t0,t1,t2,t3];try rfl) rfl ?_;rw[hf.out];exact⟨rfl,ei ax.o lr _ _ _ _⟩
    · have hy:wg (nx s k)=true:=tW.2 (by omega);have eL:Hd (cw s p=cw s (k+1)):=hd.out.trans (lV hy);have VW:(c==95)=false:=by simp;omega
      have Xd:(c≥48):=by omega
      have y57:(c≤57):=by omega
      clear hy tW hd hc;go_wp2_with fail;go_roundw
      case rel=>(first| refine⟨_,_,?_,rfl,rfl⟩|skip);unfold xj;exact⟨k+1,by go_num,by go_num,by omega,by omega,eL,av.o⟩
      case measure=>simp[intOf];omega
    · have IY:wg (nx s k)=false:=by
       cases hx:wg (nx s k) with
       | false=>rfl
       | true=>have:=tW.1 hx;omega
      have hf:Hd (cw s p=k):=hd.out.trans (ny IY);have VW:(c==95)=false:=by simp;omega
      have Xd:(c≥48):=by omega
      have n57:¬(c≤57):=by omega
      have n65:¬(c≥65):=by omega
      clear IY tW hd hc;have IV:=jg s bb p k (cap-p) w1 (HS.o.bytes.sm (((Sm.refl [] w).alloc dm).trans av.o) (by simp)) (by omega) hk;have q1:(0:Int)≤(p:Int):=by omega
      have q2:(p:Int)≤(k:Int):=by omega
      have q3:(k:Int)≤(cap:Int):=by omega
      go_wp2_with fail;refine(bh _ _ _ _ _).mono ?_;rintro e w2 ⟨rfl,cT⟩;have kc:=ae (cS (av.o.trans cT));have ax:=ae ((((Sm.refl [] w).alloc dm).trans av.o).trans cT);obtain⟨t0,t1,t2,t3,g0,g1,g2,g3⟩:=kc.o;clear cT IV;go_wp2_with fail;refine bodyPost_ret (by simp[results,Tryz.results97,go_sem,t0,t1,t2,t3];try rfl) rfl ?_;rw[hf.out];exact⟨rfl,ei ax.o lr _ _ _ _⟩
    · have hy:wg (nx s k)=true:=tW.2 (by omega);have eL:Hd (cw s p=cw s (k+1)):=hd.out.trans (lV hy);have VW:(c==95)=false:=by simp;omega
      have Xd:(c≥48):=by omega
      have n57:¬(c≤57):=by omega
      have Zp:(c≥65):=by omega
      have y90:(c≤90):=by omega
      clear hy tW hd hc;go_wp2_with fail;go_roundw
      case rel=>(first| refine⟨_,_,?_,rfl,rfl⟩|skip);unfold xj;exact⟨k+1,by go_num,by go_num,by omega,by omega,eL,av.o⟩
      case measure=>simp[intOf];omega
    · have IY:wg (nx s k)=false:=by
       cases hx:wg (nx s k) with
       | false=>rfl
       | true=>have:=tW.1 hx;omega
      have hf:Hd (cw s p=k):=hd.out.trans (ny IY);have VW:(c==95)=false:=by simp;omega
      have Xd:(c≥48):=by omega
      have n57:¬(c≤57):=by omega
      have Zp:(c≥65):=by omega
      have n90:¬(c≤90):=by omega
      have n97:¬(c≥97):=by omega
      clear IY tW hd hc;have IV:=jg s bb p k (cap-p) w1 (HS.o.bytes.sm (((Sm.refl [] w).alloc dm).trans av.o) (by simp)) (by omega) hk;have q1:(0:Int)≤(p:Int):=by omega
      have q2:(p:Int)≤(k:Int):=by omega
      have q3:(k:Int)≤(cap:Int):=by omega
      go_wp2_with fail;refine(bh _ _ _ _ _).mono ?_;rintro e w2 ⟨rfl,cT⟩;have kc:=ae (cS (av.o.trans cT));have ax:=ae ((((Sm.refl [] w).alloc dm).trans av.o).trans cT);obtain⟨t0,t1,t2,t3,g0,g1,g2,g3⟩:=kc.o;clear cT IV;go_wp2_with fail;refine bodyPost_ret (by simp[results,Tryz.results97,go_sem,t0,t1,t2,t3];try rfl) rfl ?_;rw[hf.out];exact⟨rfl,ei ax.o lr _ _ _ _⟩
    · have hy:wg (nx s k)=true:=tW.2 (by omega);have eL:Hd (cw s p=cw s (k+1)):=hd.out.trans (lV hy);have y95:(c==95)=true:=by simp;omega
      clear hy tW hd hc;go_wp2_with fail;go_roundw
      case rel=>(first| refine⟨_,_,?_,rfl,rfl⟩|skip);unfold xj;exact⟨k+1,by go_num,by go_num,by omega,by omega,eL,av.o⟩
      case measure=>simp[intOf];omega
    · have IY:wg (nx s k)=false:=by
       cases hx:wg (nx s k) with
       | false=>rfl
       | true=>have:=tW.1 hx;omega
      have hf:Hd (cw s p=k):=hd.out.trans (ny IY);have VW:(c==95)=false:=by simp;omega
      have Xd:(c≥48):=by omega
      have n57:¬(c≤57):=by omega
      have Zp:(c≥65):=by omega
      have n90:¬(c≤90):=by omega
      have n97:¬(c≥97):=by omega
      clear IY tW hd hc;have IV:=jg s bb p k (cap-p) w1 (HS.o.bytes.sm (((Sm.refl [] w).alloc dm).trans av.o) (by simp)) (by omega) hk;have q1:(0:Int)≤(p:Int):=by omega
      have q2:(p:Int)≤(k:Int):=by omega
      have q3:(k:Int)≤(cap:Int):=by omega
      go_wp2_with fail;refine(bh _ _ _ _ _).mono ?_;rintro e w2 ⟨rfl,cT⟩;have kc:=ae (cS (av.o.trans cT));have ax:=ae ((((Sm.refl [] w).alloc dm).trans av.o).trans cT);obtain⟨t0,t1,t2,t3,g0,g1,g2,g3⟩:=kc.o;clear cT IV;go_wp2_with fail;refine bodyPost_ret (by simp[results,Tryz.results97,go_sem,t0,t1,t2,t3];try rfl) rfl ?_;rw[hf.out];exact⟨rfl,ei ax.o lr _ _ _ _⟩
    · have hy:wg (nx s k)=true:=tW.2 (by omega);have eL:Hd (cw s p=cw s (k+1)):=hd.out.trans (lV hy);have VW:(c==95)=false:=by simp;omega
      have Xd:(c≥48):=by omega
      have n57:¬(c≤57):=by omega
      have Zp:(c≥65):=by omega
      have n90:¬(c≤90):=by omega
      have y97:(c≥97):=by omega
      have Z4e:(c≤122):=by omega
      clear hy tW hd hc;go_wp2_with fail;go_roundw
      case rel=>(first| refine⟨_,_,?_,rfl,rfl⟩|skip);unfold xj;exact⟨k+1,by go_num,by go_num,by omega,by omega,eL,av.o⟩
      case measure=>simp[intOf];omega
    · have IY:wg (nx s k)=false:=by
       cases hx:wg (nx s k) with
       | false=>rfl
       | true=>have:=tW.1 hx;omega
      have hf:Hd (cw s p=k):=hd.out.trans (ny IY);have VW:(c==95)=false:=by simp;omega
      have Xd:(c≥48):=by omega
      have n57:¬(c≤57):=by omega
      have Zp:(c≥65):=by omega
      have n90:¬(c≤90):=by omega
      have y97:(c≥97):=by omega
      have n122:¬(c≤122):=by omega
      clear IY tW hd hc;have IV:=jg s bb p k (cap-p) w1 (HS.o.bytes.sm (((Sm.refl [] w).alloc dm).trans av.o) (by simp)) (by omega) hk;have q1:(0:Int)≤(p:Int):=by omega
      have q2:(p:Int)≤(k:Int):=by omega
      have q3:(k:Int)≤(cap:Int):=by omega
      go_wp2_with fail;refine(bh _ _ _ _ _).mono ?_;rintro e w2 ⟨rfl,cT⟩;have kc:=ae (cS (av.o.trans cT));have ax:=ae ((((Sm.refl [] w).alloc dm).trans av.o).trans cT);obtain⟨t0,t1,t2,t3,g0,g1,g2,g3⟩:=kc.o;clear cT IV;go_wp2_with fail;refine bodyPost_ret (by simp[results,Tryz.results97,go_sem,t0,t1,t2,t3];try rfl) rfl ?_;rw[hf.out];exact⟨rfl,ei ax.o lr _ _ _ _⟩
theorem uP{s:ByteArray}{k:Nat}{c n:Int}(h:Rn s k c n)(x:Nat)(h0:0<x)(h1:x<128):(c=(x:Int)↔nx s k=x)∧(nx s k=x→n=1∧k<s.size):=by
 by_cases hk:k<s.size
 · by_cases h2:nx s k<128
   · obtain⟨a,b⟩:=h.s6 hk h2;subst a;exact⟨by omega,fun _=>⟨b,hk⟩⟩
   · have:=(h.UN (by omega)).1;exact⟨by omega,fun _=>by omega⟩
 · obtain⟨a,b⟩:=h.out (by omega);rw[pK (by omega)];exact⟨by omega,fun h=>by omega⟩
theorem lK{s:ByteArray}{k:Nat}{c n:Int}(h:Rn s k c n)(x:Nat)(h0:0<x)(h1:x<128)(he:nx s k=x):(c==(x:Int))=true:=by simpa using(uP h x h0 h1).1.2 he
theorem iN{s:ByteArray}{k:Nat}{c n:Int}(h:Rn s k c n)(x:Nat)(h0:0<x)(h1:x<128)(he:nx s k≠x):(c==(x:Int))=false:=by have:=(uP h x h0 h1).1;simp;intro e;exact he (this.1 e)
def ru(s:ByteArray)(a:Nat)(w:World)(u c n:Value)(wx:World):Prop:=u=.int .i64 (a:Int)∧∃cc nn,c=.int .i32 cc∧n=.int .i64 nn∧Hd (Rn s a cc nn)∧Sm [] (w.alloc dm) wx
def LV(s:ByteArray)(b:Nat)(w:World)(u f:Value)(wx:World):Prop:=∃v:Nat,eN s b=v∧b<v∧u=.int .i64 (v:Int)∧f=.bool true∧Sm [] (w.alloc dm) wx
def L7(s:ByteArray)(p:Nat):Tok:=⟨((eX s p).1:Int),s.extract p (eX s p).2,p,(eX s p).2⟩
def wk(s:ByteArray)(p:Nat):LR:=if(eX s p).1=0 then .err (s.size+1) else .tok (L7 s p)
theorem N2(s:ByteArray)(a t:Nat)(h:eN s a=t)(hn:a<t):eC (nx s (t-1))=true:=by
 fun_induction eN s a with
 | case1 i hi ih=>
  by_cases e:i+1<t
  · exact ih h e
  · have:=im s (i+1);have:t=i+1:=by omega
    rw[this,Nat.add_sub_cancel];exact hi
 | case2 i hi=>omega
theorem og{s:ByteArray}{p pl:Nat}{w w1 w2:World}{v:Value}(h1:Sm [] w w1)(h:(lh s).rd w1.heap.size w2.heap.size w2 v pl)(h2:Sm [] w1 w2)(hp:pl≤s.size)(hm:¬mid s pl)(k:Nat)(hk:w.heap.size≤k)(ri:k<w1.heap.size)(a b c d:Value) :
 ij s (.err p) w (.returned (.tuple #[Ez,.iface 51 v])) ((((w2.setCell ⟨k,0,none⟩ a).setCell ⟨k,1,none⟩ b).setCell ⟨k,2,none⟩ c).setCell ⟨k,3,none⟩ d):=by
 refine⟨ei (h1.trans h2) hk a b c d,v,pl,rfl,?_,hp,fun _=>hm⟩;have hz:=h1.size;refine(lh s).wide ((lh s).keep h (fun j j1 j2=>?_)) hz (by simp);rw[Below.heap_setCell _ _ _ _ (by show j≠k;omega),Below.heap_setCell _ _ _ _ (by show j≠k;omega),Below.heap_setCell _ _ _ _ (by show j≠k;omega),Below.heap_setCell _ _ _ _ (by show j≠k;omega)]
theorem fB{s:ByteArray}{p pl:Nat}{w w1 w2:World}{v:Value}(h1:Sm [] w w1)(h:(lh s).rd w1.heap.size w2.heap.size w2 v pl)(h2:Sm [] w1 w2)(hp:pl≤s.size)(hm:xV s→¬mid s pl)(k:Nat)(hk:w.heap.size≤k)(ri:k<w1.heap.size)(a b c d:Value) :
 ij s (.err p) w (.returned (.tuple #[Ez,.iface 51 v])) ((((w2.setCell ⟨k,0,none⟩ a).setCell ⟨k,1,none⟩ b).setCell ⟨k,2,none⟩ c).setCell ⟨k,3,none⟩ d):=by
 refine⟨ei (h1.trans h2) hk a b c d,v,pl,rfl,?_,hp,hm⟩;have hz:=h1.size;refine(lh s).wide ((lh s).keep h (fun j j1 j2=>?_)) hz (by simp);rw[Below.heap_setCell _ _ _ _ (by show j≠k;omega),Below.heap_setCell _ _ _ _ (by show j≠k;omega),Below.heap_setCell _ _ _ _ (by show j≠k;omega),Below.heap_setCell _ _ _ _ (by show j≠k;omega)]
theorem BU(s:ByteArray){a b c:Nat}(h1:a≤b)(h2:b≤c):s.extract a b++s.extract b c=s.extract a c:=by apply ByteArray.ext;simp only[ByteArray.data_append,ByteArray.data_extract];rw[Array.extract_append_extract];congr 1<;>omega
theorem Zl{s:ByteArray}{k:Nat}{c n:Int}(h:Rn s k c n)(hk:k<s.size)(ha:nx s k<128):c=(nx s k:Int)∧n=1:=h.s6 hk ha
end Go.Proofs.YtnpjmhodfdgloaaGreatDoor
