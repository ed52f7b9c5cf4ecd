/- Part of the proof. -/
import Derived.Laws.RangeAny
import Derived.Test.YtnpjmhodfdgloaaGreatDoorQ11
set_option linter.unusedVariables false
set_option linter.unusedSimpArgs false
namespace Go.Proofs.YtnpjmhodfdgloaaGreatDoor
set_option maxRecDepth 100000
set_option maxHeartbeats 32000000
open Go.RowKit
theorem F2(s:ByteArray)(w:World)(hs:s.size≤1099511627776) :
 Calls Tryz.prog 167 #[.string s] w fun e w'=>e=.returned (.int .i64 (bS s 0:Int))∧Sm [] w w':=by
 go_enter Tryz.func167,Tryz.ntmps167;go_wp2_with fail
 go_loopw [2] (fun v wr=>∃k:Nat,k≤s.size∧wr=w.iter s k∧v=.int .i64 k∧Hd (bS s 0=bS s k)) (fun _ wr=>s.size-wr.iterPos w.heap.size)
 case atStart=>exact⟨0,by omega,rfl,rfl,rfl⟩
 case round=>
  obtain⟨k,hk,rfl,rfl,hd⟩:=hrel;by_cases b9:k<s.size
  · have ek:s[k].toNat=nx s k:=fi b9;by_cases q1:nx s k=32
    · have eL:Hd (bS s 0=bS s (k+1)):=hd.out.trans (pg b9 (.inl q1));have KQ:∀ty,(Instr.next (.pointer (some ⟨w.heap.size,0,none⟩)) true ty).run Tryz.prog (w.iter s k)=.ok (.tuple #[.bool true,.int .i64 k,.int .i32 32]) (w.iter s (k+1)):=fun ty=>by rw[run_next_ascii w s k ty b9 (by omega),ek,q1];rfl
      clear q1;go_wp2_with fail;go_roundw
      case rel=>exact⟨k+1,by omega,rfl,by go_num,eL⟩
      case measure=>simp;omega
    · by_cases q2:nx s k=9
      · have eL:Hd (bS s 0=bS s (k+1)):=hd.out.trans (pg b9 (.inr q2));have KQ:∀ty,(Instr.next (.pointer (some ⟨w.heap.size,0,none⟩)) true ty).run Tryz.prog (w.iter s k)=.ok (.tuple #[.bool true,.int .i64 k,.int .i32 9]) (w.iter s (k+1)):=fun ty=>by rw[run_next_ascii w s k ty b9 (by omega),ek,q2];rfl
        clear q1 q2;go_wp2_with fail;go_roundw
        case rel=>exact⟨k+1,by omega,rfl,by go_num,eL⟩
        case measure=>simp;omega
      · have eL:Hd (bS s 0=k):=hd.out.trans (rI (by omega))
        obtain⟨c,n,hc,e1,e2⟩:∃(c:Nat) (n:Nat),(Utf8.decode s k)=(c,n)∧((c:Int)==32)=false∧((c:Int)==9)=false:=by
         by_cases ha:(s[k]'b9).toNat<128
         · exact⟨_,_,decode_ascii s k b9 ha,by simp;omega,by simp;omega⟩
         · have hh:=decode_high s k b9 (by omega);generalize Utf8.decode s k=cn at hh;obtain⟨c,n⟩:=cn;have h1:128≤c:=hh.1;exact⟨c,n,rfl,bn (by omega),bn (by omega)⟩
        have KQ:∀ty,(Instr.next (.pointer (some ⟨w.heap.size,0,none⟩)) true ty).run Tryz.prog (w.iter s k)=.ok (.tuple #[.bool true,.int .i64 k,.int .i32 (c:Nat)]) (w.iter s (k+n)):=fun ty=>by rw[run_next_any w s k ty b9,hc]
        clear q1 q2 hc;go_wp2_with fail;go_ret;exact⟨oV (by rw[eL.out]),sr.alloc _⟩
  · have eL:Hd (bS s 0=k):=hd.out.trans (rI (by omega));have KQ:∀ty,(Instr.next (.pointer (some ⟨w.heap.size,0,none⟩)) true ty).run Tryz.prog (w.iter s k)=_:=fun ty=>run_next_end w s k ty b9;go_wp2_with fail;go_ret;exact⟨oV (by rw[eL.out]),sr.alloc _⟩
theorem xm(s:ByteArray)(w:World)(hs:s.size≤1099511627776) :
 Calls Tryz.prog 168 #[.string s] w fun e w'=>e=.returned (.bool (blank s))∧Sm [] w w':=by
 have HL:=ae (F2 s w hs);go_enter Tryz.func168,Tryz.ntmps168;go_wp2_with fail;refine HL.o.mono ?_;rintro e w' ⟨rfl,(HS:Hd _)⟩;go_wp2_with fail;go_ret;refine⟨lJ ?_,HS.o⟩;unfold blank;by_cases h:bS s 0=s.size
 · simp[h]
 · have:¬((bS s 0:Int)=(s.size:Int)):=by omega
   simp[h,this]
theorem K5(s:ByteArray)(w:World)(hs:s.size≤1099511627776) :
 Calls Tryz.prog 166 #[.string s] w fun e w'=>∃v,e=.returned v∧w'.ownsRow w.heap.size 9 1 v (bA s 0 0).length (kG (bA s 0 0))∧Sm [] w w':=by
 go_enter Tryz.func166,Tryz.ntmps166;go_wp2_with fail
 go_loopw [3,4,5] (fun v f j wr=>jH s w v f j wr) (fun _ _ j _=>s.size-(intOf j).toNat)
 case atStart=>exact⟨0,0,[],by omega,by omega,rfl,rfl,World.ownsRow_nil _ _ _ _,sr,rfl,by simp⟩
 case round=>
  obtain⟨k,fr,acc,hfr,hk,rfl,rfl,aJ,iI,hd,UY⟩:=hrel;have k1:(0:Int)≤(k:Int):=by omega
  have f1:(0:Int)≤(fr:Int):=by omega
  have f2:(fr:Int)≤(k:Int):=by omega
  have hz:=iI.size;by_cases b9:k<s.size
  · have k2:(k:Int)<(s.size:Int):=by omega
    have k3:(k:Int)≤(s.size:Int):=by omega
    have ek:s[k].toNat=nx s k:=fi b9;by_cases yT:nx s k=10
    · have eL:Hd (bA s 0 0=(acc++[s.extract fr k])++bA s (k+1) (k+1)):=by
       unfold Hd;rw[hd.out,fP b9 (.inl yT),show mY s k=k+1 by unfold mY;first| rw[if_pos ⟨by assumption,by assumption,by assumption⟩]|rw[if_neg (by omega)]];simp
      have e1:((nx s k:Int) !=10)=false:=by simp;omega
      have e5:((nx s k:Int) !=13)=true:=by simp;omega
      have e2:((nx s k:Int)==13)=false:=by simp;omega
      have e3:((nx s k:Int)==10)=true:=by simp;omega
      clear yT;go_wp2_with (at_builtin;refine gH _ rfl _ _ _ rfl 9 _ 1 16 Tryz.underlying28 wT rfl (by omega) (by omega) _ acc.length (kG acc) rfl aJ _ rfl rfl (by simp[Value.oneCell']) (by omega) hz ?_);intro g cap w' aQ hg bV ea;have xL:=iI.grown hg (fun b hb=>.inl (aJ.lt b hb).1);have GS:=fW aQ;clear aQ hg bV ea aJ iI hd;go_wp2;go_roundw
      case rel=>(first| refine⟨_,_,_,?_,rfl,rfl,rfl⟩|skip);unfold jH;exact⟨k+1,k+1,acc++[s.extract fr k],by omega,by omega,by go_num,by go_num,GS,xL,eL,by simp;omega⟩
      case measure=>simp[intOf];omega
    have e1:((nx s k:Int) !=10)=true:=by simp;omega
    by_cases tH:nx s k=13
    · have e2:((nx s k:Int) !=13)=false:=by simp;omega
      have e3:((nx s k:Int)==13)=true:=by simp;omega
      by_cases q1:k+1<s.size
      · have k4:(k:Int)+1<(s.size:Int):=by omega
        have ek1:s[k+1].toNat=nx s (k+1):=fi q1;have k5:(0:Int)≤(k:Int)+1:=by omega
        by_cases q2:nx s (k+1)=10
        · have eL:Hd (bA s 0 0=(acc++[s.extract fr k])++bA s (k+2) (k+2)):=by
           unfold Hd;rw[hd.out,fP b9 (.inr tH),show mY s k=k+2 by unfold mY;first| rw[if_pos ⟨by assumption,by assumption,by assumption⟩]|rw[if_neg (by omega)]];simp
          have e4:((nx s (k+1):Int)==10)=true:=by simp;omega
          clear tH q2;go_wp2_with (at_builtin;refine gH _ rfl _ _ _ rfl 9 _ 1 16 Tryz.underlying28 wT rfl (by omega) (by omega) _ acc.length (kG acc) rfl aJ _ rfl rfl (by simp[Value.oneCell']) (by omega) hz ?_);intro g cap w' aQ hg bV ea;have xL:=iI.grown hg (fun b hb=>.inl (aJ.lt b hb).1);have GS:=fW aQ;clear aQ hg bV ea aJ iI hd;go_wp2;go_roundw
          case rel=>(first| refine⟨_,_,_,?_,rfl,rfl,rfl⟩|skip);unfold jH;exact⟨k+2,k+2,acc++[s.extract fr k],by omega,by omega,by go_num,by go_num,GS,xL,eL,by simp;omega⟩
          case measure=>simp[intOf];omega
        · have eL:Hd (bA s 0 0=(acc++[s.extract fr k])++bA s (k+1) (k+1)):=by
           unfold Hd;rw[hd.out,fP b9 (.inr tH),show mY s k=k+1 by unfold mY;first| rw[if_pos ⟨by assumption,by assumption,by assumption⟩]|rw[if_neg (by omega)]];simp
          have e4:((nx s (k+1):Int)==10)=false:=by simp;omega
          clear tH q2;go_wp2_with (at_builtin;refine gH _ rfl _ _ _ rfl 9 _ 1 16 Tryz.underlying28 wT rfl (by omega) (by omega) _ acc.length (kG acc) rfl aJ _ rfl rfl (by simp[Value.oneCell']) (by omega) hz ?_);intro g cap w' aQ hg bV ea;have xL:=iI.grown hg (fun b hb=>.inl (aJ.lt b hb).1);have GS:=fW aQ;clear aQ hg bV ea aJ iI hd;go_wp2;go_roundw
          case rel=>(first| refine⟨_,_,_,?_,rfl,rfl,rfl⟩|skip);unfold jH;exact⟨k+1,k+1,acc++[s.extract fr k],by omega,by omega,by go_num,by go_num,GS,xL,eL,by simp;omega⟩
          case measure=>simp[intOf];omega
      · have k4:¬((k:Int)+1<(s.size:Int)):=by omega
        have eL:Hd (bA s 0 0=(acc++[s.extract fr k])++bA s (k+1) (k+1)):=by unfold Hd;rw[hd.out,fP b9 (.inr tH),show mY s k=k+1 by unfold mY;first| rw[if_pos ⟨by assumption,by assumption,by assumption⟩]|rw[if_neg (by omega)]];simp
        clear tH;go_wp2_with (at_builtin;refine gH _ rfl _ _ _ rfl 9 _ 1 16 Tryz.underlying28 wT rfl (by omega) (by omega) _ acc.length (kG acc) rfl aJ _ rfl rfl (by simp[Value.oneCell']) (by omega) hz ?_);intro g cap w' aQ hg bV ea;have xL:=iI.grown hg (fun b hb=>.inl (aJ.lt b hb).1);have GS:=fW aQ;clear aQ hg bV ea aJ iI hd;go_wp2;go_roundw
        case rel=>(first| refine⟨_,_,_,?_,rfl,rfl,rfl⟩|skip);unfold jH;exact⟨k+1,k+1,acc++[s.extract fr k],by omega,by omega,by go_num,by go_num,GS,xL,eL,by simp;omega⟩
        case measure=>simp[intOf];omega
    · have e2:((nx s k:Int) !=13)=true:=by simp;omega
      have eL:Hd (bA s 0 0=acc++bA s (k+1) fr):=by unfold Hd;rw[hd.out,nt b9 (by omega)]
      clear yT tH hd;go_wp2;go_roundw
      case rel=>(first| refine⟨_,_,_,?_,rfl,rfl,rfl⟩|skip);unfold jH;exact⟨k+1,fr,acc,by omega,by omega,rfl,by go_num,aJ,iI,eL,by omega⟩
      case measure=>simp[intOf];omega
  · have k2:¬((k:Int)<(s.size:Int)):=by omega
    obtain rfl:k=s.size:=by omega
    have eL:Hd (bA s 0 0=acc++[s.extract fr s.size]):=by unfold Hd;rw[hd.out,kx (by omega)]
    clear hd;go_wp2_with (at_builtin;refine gH _ rfl _ _ _ rfl 9 _ 1 16 Tryz.underlying28 wT rfl (by omega) (by omega) _ acc.length (kG acc) rfl aJ _ rfl rfl (by simp[Value.oneCell']) (by omega) hz ?_);intro g cap w' aQ hg bV ea;have xL:=iI.grown hg (fun b hb=>.inl (aJ.lt b hb).1);have GS:=fW aQ;clear aQ hg bV ea aJ iI;go_wp2;go_ret;rw[eL.out];exact⟨_,rfl,by simpa using GS,xL⟩
structure bw(α:Type) where
 rd:Nat→Nat→World→Nat→α→Prop
 keep:∀{lo hi:Nat} {w w':World} {b:Nat} {x:α},rd lo hi w b x→mz lo hi w w'→lo≤b→b<hi→rd lo hi w' b x
 wide:∀{lo hi Bk rC:Nat} {w:World} {b:Nat} {x:α},rd lo hi w b x→Bk≤lo→hi≤rC→rd Bk rC w b x
section
variable{α β:Type}
def bw.cell(i:Nat)(R:au α):bw α where
 rd lo hi w b x:=∃v,w.cell? ⟨b,i,none⟩=some v∧R.rd lo hi w v x
 keep:=by rintro lo hi w w' b x ⟨v,h1,h2⟩ hs l1 l2;exact⟨v,(hs.cell l1 l2).trans h1,R.keep h2 hs⟩
 wide:=by rintro lo hi Bk rC w b x ⟨v,h1,h2⟩ l1 l2;exact⟨v,h1,R.wide h2 l1 l2⟩
def bw.both(A:bw α)(B:bw β):bw (α×β) where
 rd lo hi w b x:=A.rd lo hi w b x.1∧B.rd lo hi w b x.2
 keep:=by rintro lo hi w w' b x ⟨h1,h2⟩ hs l1 l2;exact⟨A.keep h1 hs l1 l2,B.keep h2 hs l1 l2⟩
 wide:=by rintro lo hi Bk rC w b x ⟨h1,h2⟩ l1 l2;exact⟨A.wide h1 l1 l2,B.wide h2 l1 l2⟩
def au.ptr(B:bw α):au α where
 rd lo hi w v x:=∃b,v=.pointer (some ⟨b,0,none⟩)∧lo≤b∧b<hi∧B.rd lo hi w b x
 keep:=by rintro lo hi w w' v x ⟨b,h1,h2,h3,h4⟩ hs;exact⟨b,h1,h2,h3,B.keep h4 hs h2 h3⟩
 wide:=by rintro lo hi Bk rC w v x ⟨b,h1,h2,h3,h4⟩ l1 l2;exact⟨b,h1,by omega,by omega,B.wide h4 l1 l2⟩
def au.iface(t:TypeId)(R:au α):au α where
 rd lo hi w v x:=∃u,v=.iface t u∧R.rd lo hi w u x
 keep:=by rintro lo hi w w' v x ⟨u,h1,h2⟩ hs;exact⟨u,h1,R.keep h2 hs⟩
 wide:=by rintro lo hi Bk rC w v x ⟨u,h1,h2⟩ l1 l2;exact⟨u,h1,R.wide h2 l1 l2⟩
def au.map(f:α→β)(R:au α):au β where
 rd lo hi w v x:=∃a,x=f a∧R.rd lo hi w v a
 keep:=by rintro lo hi w w' v x ⟨a,h1,h2⟩ hs;exact⟨a,h1,R.keep h2 hs⟩
 wide:=by rintro lo hi Bk rC w v x ⟨a,h1,h2⟩ l1 l2;exact⟨a,h1,R.wide h2 l1 l2⟩
def au.or(R S:au α):au α where
 rd lo hi w v x:=R.rd lo hi w v x∨S.rd lo hi w v x
 keep:=by rintro lo hi w w' v x h hs;exact h.elim (fun h=>.inl (R.keep h hs)) (fun h=>.inr (S.keep h hs))
 wide:=by rintro lo hi Bk rC w v x h l1 l2;exact h.elim (fun h=>.inl (R.wide h l1 l2)) (fun h=>.inr (S.wide h l1 l2))
def au.is(u:Value)(a:α):au α where
 rd lo hi w v x:=v=u∧x=a
 keep:=fun h _=>h
 wide:=fun h _ _=>h
def au.never:au α where
 rd lo hi w v x:=False
 keep:=fun h _=>h
 wide:=fun h _ _=>h
end
def wD:au ByteArray where
 rd lo hi w v x:=v=.string x
 keep:=fun h _=>h
 wide:=fun h _ _=>h
def M5:au Bool where
 rd lo hi w v x:=v=.bool x
 keep:=fun h _=>h
 wide:=fun h _ _=>h
def dR:au Unit where
 rd lo hi w v x:=∃b i j,v=.pointer (some ⟨b,0,none⟩)∧lo≤b∧b<hi∧w.cell? ⟨b,0,none⟩=some (.int .i64 i)∧w.cell? ⟨b,1,none⟩=some (.int .i64 j)
 keep:=by rintro lo hi w w' v x ⟨b,i,j,h1,h2,h3,h4,h5⟩ hs;exact⟨b,i,j,h1,h2,h3,(hs.cell h2 h3).trans h4,(hs.cell h2 h3).trans h5⟩
 wide:=by rintro lo hi Bk rC w v x ⟨b,i,j,h1,h2,h3,h4,h5⟩ l1 l2;exact⟨b,i,j,h1,by omega,by omega,h4,h5⟩
def eW:au ByteArray:=au.map Prod.snd (au.ptr ((bw.cell 1 dR).both (bw.cell 2 wD)))
def xB:Value:=.pointer none
def Jg:au ByteArray:=au.or (au.is xB ByteArray.empty) eW
def ot:au ByteArray:=au.map Prod.snd (au.ptr ((bw.cell 1 dR).both (bw.cell 2 eW)))
def L5:au ByteArray:=au.or (au.is xB ByteArray.empty) ot
def mI(k:Int):au (List Nd):=au.map (fun s=>made {kind:=k,name:=s} []) ot
def CG(k:Int):au (List Nd):=au.map (fun s=>made {kind:=k,name:=s} []) eW
def BV(R:au (List Nd)):au (List Nd):=au.map List.flatten (au.list R)
theorem Qf{lo hi:Nat}{w:World}{b:Nat}{t:TypeId}{K Lc:Value}{s:ByteArray}(ho:w.heap[b]?=some (.cells #[K,Lc,.string s] t (0,0)))(h1:lo≤b)(h2:b<hi)(hl:dR.rd lo hi w Lc ()):eW.rd lo hi w (.pointer (some ⟨b,0,none⟩)) s:=
 ⟨((),s),rfl,b,rfl,h1,h2,⟨_,cell_of ho rfl,hl⟩,⟨_,cell_of ho rfl,rfl⟩⟩
theorem F4{lo hi:Nat}{w:World}{b:Nat}{t:TypeId}{K Lc N:Value}{s:ByteArray}(ho:w.heap[b]?=some (.cells #[K,Lc,N] t (0,0)))(h1:lo≤b)(h2:b<hi)(hl:dR.rd lo hi w Lc ())(hn:eW.rd lo hi w N s):ot.rd lo hi w (.pointer (some ⟨b,0,none⟩)) s:=
 ⟨((),s),rfl,b,rfl,h1,h2,⟨_,cell_of ho rfl,hl⟩,⟨_,cell_of ho rfl,hn⟩⟩
section
variable{lo hi:Nat}{w:World}{b:Nat}{t:TypeId}{C0 C1 C2 C3 C4 C5 C6 C7 C8 C9 C10 C11 C12:Value}
def QS :au (List Nd):=au.map (fun p=>made {kind:=11,name:=p.2} []) (au.ptr ((bw.cell 1 dR).both (bw.cell 2 eW)))
theorem Tn{n:ByteArray}(ho:w.heap[b]?=some (.cells #[C0,C1,C2] t (0,0)))(g1:lo≤b)(g2:b<hi)(h1:au.rd dR lo hi w C1 ())(h2:au.rd eW lo hi w C2 n):(QS ).rd lo hi w (.pointer (some ⟨b,0,none⟩)) (made {kind:=11,name:=n} []):=
 ⟨((),n),rfl,b,rfl,g1,g2,⟨⟨_,cell_of ho rfl,h1⟩,⟨_,cell_of ho rfl,h2⟩⟩⟩
def Yd :au (List Nd):=au.map (fun p=>made {kind:=12,text:=p.2} []) (au.ptr ((bw.cell 1 dR).both (bw.cell 2 wD)))
theorem So{tx:ByteArray}(ho:w.heap[b]?=some (.cells #[C0,C1,C2] t (0,0)))(g1:lo≤b)(g2:b<hi)(h1:au.rd dR lo hi w C1 ())(h2:au.rd wD lo hi w C2 tx):(Yd ).rd lo hi w (.pointer (some ⟨b,0,none⟩)) (made {kind:=12,text:=tx} []):=
 ⟨((),tx),rfl,b,rfl,g1,g2,⟨⟨_,cell_of ho rfl,h1⟩,⟨_,cell_of ho rfl,h2⟩⟩⟩
def Px :au (List Nd):=au.map (fun p=>made {kind:=13,text:=p.2} []) (au.ptr ((bw.cell 1 dR).both (bw.cell 2 wD)))
theorem Nl{tx:ByteArray}(ho:w.heap[b]?=some (.cells #[C0,C1,C2] t (0,0)))(g1:lo≤b)(g2:b<hi)(h1:au.rd dR lo hi w C1 ())(h2:au.rd wD lo hi w C2 tx):(Px ).rd lo hi w (.pointer (some ⟨b,0,none⟩)) (made {kind:=13,text:=tx} []):=
 ⟨((),tx),rfl,b,rfl,g1,g2,⟨⟨_,cell_of ho rfl,h1⟩,⟨_,cell_of ho rfl,h2⟩⟩⟩
def Hm :au (List Nd):=au.map (fun p=>made {kind:=14,text:=p.2} []) (au.ptr ((bw.cell 1 dR).both (bw.cell 2 wD)))
theorem LF{tx:ByteArray}(ho:w.heap[b]?=some (.cells #[C0,C1,C2] t (0,0)))(g1:lo≤b)(g2:b<hi)(h1:au.rd dR lo hi w C1 ())(h2:au.rd wD lo hi w C2 tx):(Hm ).rd lo hi w (.pointer (some ⟨b,0,none⟩)) (made {kind:=14,text:=tx} []):=
 ⟨((),tx),rfl,b,rfl,g1,g2,⟨⟨_,cell_of ho rfl,h1⟩,⟨_,cell_of ho rfl,h2⟩⟩⟩
def TD :au (List Nd):=au.map (fun p=>if p.2=true then made {kind:=15,flag:=1} [] else made {kind:=15} []) (au.ptr ((bw.cell 1 dR).both (bw.cell 2 M5)))
theorem Iw{fl:Bool}(ho:w.heap[b]?=some (.cells #[C0,C1,C2] t (0,0)))(g1:lo≤b)(g2:b<hi)(h1:au.rd dR lo hi w C1 ())(h2:au.rd M5 lo hi w C2 fl):(TD ).rd lo hi w (.pointer (some ⟨b,0,none⟩)) (if fl=true then made {kind:=15,flag:=1} [] else made {kind:=15} []):=
 ⟨((),fl),rfl,b,rfl,g1,g2,⟨⟨_,cell_of ho rfl,h1⟩,⟨_,cell_of ho rfl,h2⟩⟩⟩
def TG :au (List Nd):=au.map (fun p=>made {kind:=16,name:=p.2} []) (au.ptr ((bw.cell 1 dR).both (bw.cell 2 wD)))
theorem Pq{n:ByteArray}(ho:w.heap[b]?=some (.cells #[C0,C1,C2] t (0,0)))(g1:lo≤b)(g2:b<hi)(h1:au.rd dR lo hi w C1 ())(h2:au.rd wD lo hi w C2 n):(TG ).rd lo hi w (.pointer (some ⟨b,0,none⟩)) (made {kind:=16,name:=n} []):=
 ⟨((),n),rfl,b,rfl,g1,g2,⟨⟨_,cell_of ho rfl,h1⟩,⟨_,cell_of ho rfl,h2⟩⟩⟩
def J7(R:au (List Nd)):au (List Nd):=au.map (fun p=>made {kind:=17} p.2) (au.ptr ((bw.cell 1 dR).both (bw.cell 2 (au.list R))))
theorem J8(R:au (List Nd)){l:List (List Nd)}(ho:w.heap[b]?=some (.cells #[C0,C1,C2] t (0,0)))(g1:lo≤b)(g2:b<hi)(h1:au.rd dR lo hi w C1 ())(h2:au.rd (au.list R) lo hi w C2 l):(J7 R).rd lo hi w (.pointer (some ⟨b,0,none⟩)) (made {kind:=17} l):=
 ⟨((),l),rfl,b,rfl,g1,g2,⟨⟨_,cell_of ho rfl,h1⟩,⟨_,cell_of ho rfl,h2⟩⟩⟩
def oQ(R:au (List Nd)):au (List Nd):=au.map (fun p=>made {kind:=19,name:=p.1} [p.2.2]) (au.ptr ((bw.cell 1 eW).both ((bw.cell 2 dR).both (bw.cell 3 R))))
theorem La(R:au (List Nd)){n:ByteArray}{v:List Nd}(ho:w.heap[b]?=some (.cells #[C0,C1,C2,C3] t (0,0)))(g1:lo≤b)(g2:b<hi)(h1:au.rd eW lo hi w C1 n)(h2:au.rd dR lo hi w C2 ())(h3:au.rd R lo hi w C3 v):(oQ R).rd lo hi w (.pointer (some ⟨b,0,none⟩)) (made {kind:=19,name:=n} [v]):=
 ⟨(n,(),v),rfl,b,rfl,g1,g2,⟨⟨_,cell_of ho rfl,h1⟩,⟨⟨_,cell_of ho rfl,h2⟩,⟨_,cell_of ho rfl,h3⟩⟩⟩⟩
def yM(R:au (List Nd)):au (List Nd):=au.map (fun p=>made {kind:=18} p.2) (au.ptr ((bw.cell 1 dR).both (bw.cell 2 (au.list (oQ R)))))
theorem CK(R:au (List Nd)){l:List (List Nd)}(ho:w.heap[b]?=some (.cells #[C0,C1,C2] t (0,0)))(g1:lo≤b)(g2:b<hi)(h1:au.rd dR lo hi w C1 ())(h2:au.rd (au.list (oQ R)) lo hi w C2 l):(yM R).rd lo hi w (.pointer (some ⟨b,0,none⟩)) (made {kind:=18} l):=
 ⟨((),l),rfl,b,rfl,g1,g2,⟨⟨_,cell_of ho rfl,h1⟩,⟨_,cell_of ho rfl,h2⟩⟩⟩
def cH:Nat→au (List Nd)
 | 0=>au.never
 | n+1=>au.or (au.iface 196 QS) (au.or (au.iface 316 Yd) (au.or (au.iface 319 Px) (au.or (au.iface 231 Hm) (au.or (au.iface 322 TD) (au.or (au.iface 326 TG) (au.or (au.iface 310 (J7 (cH n))) (au.iface 313 (yM (cH n)))))))))
def Dv(n:Nat):au (List Nd):=au.or (au.is .nilIface []) (cH n)
def U0(R:au (List Nd)):au (List Nd):=au.map (fun p=>made {kind:=21} [p.2]) (au.ptr ((bw.cell 1 dR).both (bw.cell 2 R)))
theorem Cu(R:au (List Nd)){k:List Nd}(ho:w.heap[b]?=some (.cells #[C0,C1,C2] t (0,0)))(g1:lo≤b)(g2:b<hi)(h1:au.rd dR lo hi w C1 ())(h2:au.rd R lo hi w C2 k):(U0 R).rd lo hi w (.pointer (some ⟨b,0,none⟩)) (made {kind:=21} [k]):=
 ⟨((),k),rfl,b,rfl,g1,g2,⟨⟨_,cell_of ho rfl,h1⟩,⟨_,cell_of ho rfl,h2⟩⟩⟩
def Yj(R:au (List Nd)):au (List Nd):=au.map (fun p=>made {kind:=22} [p.2]) (au.ptr ((bw.cell 1 dR).both (bw.cell 2 R)))
theorem MA(R:au (List Nd)){k:List Nd}(ho:w.heap[b]?=some (.cells #[C0,C1,C2] t (0,0)))(g1:lo≤b)(g2:b<hi)(h1:au.rd dR lo hi w C1 ())(h2:au.rd R lo hi w C2 k):(Yj R).rd lo hi w (.pointer (some ⟨b,0,none⟩)) (made {kind:=22} [k]):=
 ⟨((),k),rfl,b,rfl,g1,g2,⟨⟨_,cell_of ho rfl,h1⟩,⟨_,cell_of ho rfl,h2⟩⟩⟩
def Uc:au (List Nd):=au.is .nilIface L6
def Dr(R:au (List Nd)):au (List Nd):=au.or Uc (au.or (au.iface 217 (mI 20)) (au.iface 303 (U0 (au.or Uc R))))
def qM:Nat→au (List Nd)
 | 0=>au.never
 | n+1=>au.or (Dr (qM n)) (au.iface 307 (Yj (Dr (qM n))))
def DN(n0:Nat):au (List Nd):=au.map (fun p=>made {kind:=9,name:=p.2.1} [p.2.2]) (au.ptr ((bw.cell 1 dR).both ((bw.cell 2 eW).both (bw.cell 3 (cH n0)))))
theorem RO(n0:Nat){n:ByteArray}{v:List Nd}(ho:w.heap[b]?=some (.cells #[C0,C1,C2,C3] t (0,0)))(g1:lo≤b)(g2:b<hi)(h1:au.rd dR lo hi w C1 ())(h2:au.rd eW lo hi w C2 n)(h3:au.rd (cH n0) lo hi w C3 v):(DN n0).rd lo hi w (.pointer (some ⟨b,0,none⟩)) (made {kind:=9,name:=n} [v]):=
 ⟨((),n,v),rfl,b,rfl,g1,g2,⟨⟨_,cell_of ho rfl,h1⟩,⟨⟨_,cell_of ho rfl,h2⟩,⟨_,cell_of ho rfl,h3⟩⟩⟩⟩
def KA(n0:Nat):au (List Nd):=au.map (fun p=>made {kind:=10,name:=p.2.1} [p.2.2]) (au.ptr ((bw.cell 1 dR).both ((bw.cell 2 eW).both (bw.cell 3 (BV (DN n0))))))
theorem RX(n0:Nat){n:ByteArray}{a:List Nd}(ho:w.heap[b]?=some (.cells #[C0,C1,C2,C3] t (0,0)))(g1:lo≤b)(g2:b<hi)(h1:au.rd dR lo hi w C1 ())(h2:au.rd eW lo hi w C2 n)(h3:au.rd (BV (DN n0)) lo hi w C3 a):(KA n0).rd lo hi w (.pointer (some ⟨b,0,none⟩)) (made {kind:=10,name:=n} [a]):=
 ⟨((),n,a),rfl,b,rfl,g1,g2,⟨⟨_,cell_of ho rfl,h1⟩,⟨⟨_,cell_of ho rfl,h2⟩,⟨_,cell_of ho rfl,h3⟩⟩⟩⟩
def gX(n0:Nat):au (List Nd):=BV (KA n0)
def P6(n0:Nat):au (List Nd):=BV (DN n0)
def Qm(R:au (List Nd)):au (List Nd):=au.or (au.is xB []) R
def KH(n0:Nat)(R:au (List Nd)):au (List Nd):=au.map (fun p=>made {kind:=6,name:=p.2.2.1,alias:=p.2.1} [p.2.2.2.1,p.2.2.2.2.1,p.2.2.2.2.2]) (au.ptr ((bw.cell 1 dR).both ((bw.cell 2 Jg).both ((bw.cell 3 eW).both ((bw.cell 4 (P6 n0)).both ((bw.cell 5 (gX n0)).both (bw.cell 6 (Qm R))))))))
theorem vj(n0:Nat)(R:au (List Nd)){al:ByteArray}{n:ByteArray}{a:List Nd}{d:List Nd}{x:List Nd}(ho:w.heap[b]?=some (.cells #[C0,C1,C2,C3,C4,C5,C6] t (0,0)))(g1:lo≤b)(g2:b<hi)(h1:au.rd dR lo hi w C1 ())(h2:au.rd Jg lo hi w C2 al)(h3:au.rd eW lo hi w C3 n)(h4:au.rd (P6 n0) lo hi w C4 a)(h5:au.rd (gX n0) lo hi w C5 d)(h6:au.rd (Qm R) lo hi w C6 x):(KH n0 R).rd lo hi w (.pointer (some ⟨b,0,none⟩)) (made {kind:=6,name:=n,alias:=al} [a,d,x]):=
 ⟨((),al,n,a,d,x),rfl,b,rfl,g1,g2,⟨⟨_,cell_of ho rfl,h1⟩,⟨⟨_,cell_of ho rfl,h2⟩,⟨⟨_,cell_of ho rfl,h3⟩,⟨⟨_,cell_of ho rfl,h4⟩,⟨⟨_,cell_of ho rfl,h5⟩,⟨_,cell_of ho rfl,h6⟩⟩⟩⟩⟩⟩⟩
def Hl(n0:Nat):au (List Nd):=au.map (fun p=>made {kind:=7,name:=p.2.1} [p.2.2]) (au.ptr ((bw.cell 1 dR).both ((bw.cell 2 eW).both (bw.cell 3 (gX n0)))))
theorem LD(n0:Nat){n:ByteArray}{d:List Nd}(ho:w.heap[b]?=some (.cells #[C0,C1,C2,C3] t (0,0)))(g1:lo≤b)(g2:b<hi)(h1:au.rd dR lo hi w C1 ())(h2:au.rd eW lo hi w C2 n)(h3:au.rd (gX n0) lo hi w C3 d):(Hl n0).rd lo hi w (.pointer (some ⟨b,0,none⟩)) (made {kind:=7,name:=n} [d]):=
 ⟨((),n,d),rfl,b,rfl,g1,g2,⟨⟨_,cell_of ho rfl,h1⟩,⟨⟨_,cell_of ho rfl,h2⟩,⟨_,cell_of ho rfl,h3⟩⟩⟩⟩
def Gk(n0:Nat)(R:au (List Nd)):au (List Nd):=au.map (fun p=>made {kind:=8,text:=p.2.1} [p.2.2.1,p.2.2.2]) (au.ptr ((bw.cell 1 dR).both ((bw.cell 2 L5).both ((bw.cell 3 (gX n0)).both (bw.cell 4 R)))))
theorem xu(n0:Nat)(R:au (List Nd)){tx:ByteArray}{d:List Nd}{x:List Nd}(ho:w.heap[b]?=some (.cells #[C0,C1,C2,C3,C4] t (0,0)))(g1:lo≤b)(g2:b<hi)(h1:au.rd dR lo hi w C1 ())(h2:au.rd L5 lo hi w C2 tx)(h3:au.rd (gX n0) lo hi w C3 d)(h4:au.rd R lo hi w C4 x):(Gk n0 R).rd lo hi w (.pointer (some ⟨b,0,none⟩)) (made {kind:=8,text:=tx} [d,x]):=
 ⟨((),tx,d,x),rfl,b,rfl,g1,g2,⟨⟨_,cell_of ho rfl,h1⟩,⟨⟨_,cell_of ho rfl,h2⟩,⟨⟨_,cell_of ho rfl,h3⟩,⟨_,cell_of ho rfl,h4⟩⟩⟩⟩⟩
def iL(n0:Nat)(R:au (List Nd)):au (List Nd):=au.or (au.iface 193 (KH n0 R)) (au.or (au.iface 289 (Hl n0)) (au.iface 293 (Gk n0 R)))
def Wg(R:au (List Nd)):au (List Nd):=au.map (fun p=>made {kind:=5} p.2) (au.ptr ((bw.cell 1 dR).both (bw.cell 2 (au.list R))))
theorem T6(R:au (List Nd)){l:List (List Nd)}(ho:w.heap[b]?=some (.cells #[C0,C1,C2] t (0,0)))(g1:lo≤b)(g2:b<hi)(h1:au.rd dR lo hi w C1 ())(h2:au.rd (au.list R) lo hi w C2 l):(Wg R).rd lo hi w (.pointer (some ⟨b,0,none⟩)) (made {kind:=5} l):=
 ⟨((),l),rfl,b,rfl,g1,g2,⟨⟨_,cell_of ho rfl,h1⟩,⟨_,cell_of ho rfl,h2⟩⟩⟩
def mu:Nat→au (List Nd)
 | 0=>au.never
 | n+1=>Wg (iL n (mu n))
def varName:au ByteArray:=ot
theorem LO{lo hi:Nat}{w:World}{b:Nat}{t:TypeId}{K Lc N:Value}{s:ByteArray}(ho:w.heap[b]?=some (.cells #[K,Lc,N] t (0,0)))(h1:lo≤b)(h2:b<hi)(hl:dR.rd lo hi w Lc ())(hn:eW.rd lo hi w N s):varName.rd lo hi w (.pointer (some ⟨b,0,none⟩)) s:=F4 ho h1 h2 hl hn
theorem WK{lo hi:Nat}{w:World}{v:Value}{x:List Nd}(h:QS.rd lo hi w v x):∃s,x=made {kind:=11,name:=s} []∧varName.rd lo hi w v s:=by obtain⟨⟨u,s⟩,rfl,h⟩:=h;exact⟨s,rfl,⟨(u,s),rfl,h⟩⟩
def qN(n0:Nat):au (List Nd):=au.map (fun p=>made {kind:=4,name:=p.2.1} [p.2.2.1,p.2.2.2]) (au.ptr ((bw.cell 1 dR).both ((bw.cell 2 varName).both ((bw.cell 3 (qM n0)).both (bw.cell 4 (Dv n0))))))
theorem ti(n0:Nat){n:ByteArray}{k:List Nd}{v:List Nd}(ho:w.heap[b]?=some (.cells #[C0,C1,C2,C3,C4] t (0,0)))(g1:lo≤b)(g2:b<hi)(h1:au.rd dR lo hi w C1 ())(h2:au.rd varName lo hi w C2 n)(h3:au.rd (qM n0) lo hi w C3 k)(h4:au.rd (Dv n0) lo hi w C4 v):(qN n0).rd lo hi w (.pointer (some ⟨b,0,none⟩)) (made {kind:=4,name:=n} [k,v]):=
 ⟨((),n,k,v),rfl,b,rfl,g1,g2,⟨⟨_,cell_of ho rfl,h1⟩,⟨⟨_,cell_of ho rfl,h2⟩,⟨⟨_,cell_of ho rfl,h3⟩,⟨_,cell_of ho rfl,h4⟩⟩⟩⟩⟩
def QT(n0:Nat):au (List Nd):=BV (qN n0)
def opR(n0:Nat):au (List Nd):=au.map (fun p=>made {kind:=2,text:=p.2.1,name:=p.2.2.1} [p.2.2.2.1,p.2.2.2.2.1,p.2.2.2.2.2]) (au.ptr ((bw.cell 1 dR).both ((bw.cell 2 wD).both ((bw.cell 3 Jg).both ((bw.cell 4 (QT n0)).both ((bw.cell 5 (gX n0)).both (bw.cell 6 (mu n0))))))))
theorem Lb(n0:Nat){tx:ByteArray}{n:ByteArray}{v:List Nd}{d:List Nd}{x:List Nd}(ho:w.heap[b]?=some (.cells #[C0,C1,C2,C3,C4,C5,C6] t (0,0)))(g1:lo≤b)(g2:b<hi)(h1:au.rd dR lo hi w C1 ())(h2:au.rd wD lo hi w C2 tx)(h3:au.rd Jg lo hi w C3 n)(h4:au.rd (QT n0) lo hi w C4 v)(h5:au.rd (gX n0) lo hi w C5 d)(h6:au.rd (mu n0) lo hi w C6 x):(opR n0).rd lo hi w (.pointer (some ⟨b,0,none⟩)) (made {kind:=2,text:=tx,name:=n} [v,d,x]):=
 ⟨((),tx,n,v,d,x),rfl,b,rfl,g1,g2,⟨⟨_,cell_of ho rfl,h1⟩,⟨⟨_,cell_of ho rfl,h2⟩,⟨⟨_,cell_of ho rfl,h3⟩,⟨⟨_,cell_of ho rfl,h4⟩,⟨⟨_,cell_of ho rfl,h5⟩,⟨_,cell_of ho rfl,h6⟩⟩⟩⟩⟩⟩⟩
def PA(n0:Nat):au (List Nd):=au.map (fun p=>made {kind:=3,name:=p.2.1,text:=p.2.2.1} [p.2.2.2.1,p.2.2.2.2]) (au.ptr ((bw.cell 1 dR).both ((bw.cell 3 eW).both ((bw.cell 5 ot).both ((bw.cell 6 (gX n0)).both (bw.cell 7 (mu n0)))))))
theorem PB(n0:Nat){n:ByteArray}{tx:ByteArray}{d:List Nd}{x:List Nd}(ho:w.heap[b]?=some (.cells #[C0,C1,C2,C3,C4,C5,C6,C7] t (0,0)))(g1:lo≤b)(g2:b<hi)(h1:au.rd dR lo hi w C1 ())(h3:au.rd eW lo hi w C3 n)(h5:au.rd ot lo hi w C5 tx)(h6:au.rd (gX n0) lo hi w C6 d)(h7:au.rd (mu n0) lo hi w C7 x):(PA n0).rd lo hi w (.pointer (some ⟨b,0,none⟩)) (made {kind:=3,name:=n,text:=tx} [d,x]):=
 ⟨((),n,tx,d,x),rfl,b,rfl,g1,g2,⟨⟨_,cell_of ho rfl,h1⟩,⟨⟨_,cell_of ho rfl,h3⟩,⟨⟨_,cell_of ho rfl,h5⟩,⟨⟨_,cell_of ho rfl,h6⟩,⟨_,cell_of ho rfl,h7⟩⟩⟩⟩⟩⟩
def TE :au (List Nd):=au.map (fun p=>made {kind:=23,text:=p.2} []) (au.ptr ((bw.cell 1 dR).both (bw.cell 2 wD)))
theorem Pn{tx:ByteArray}(ho:w.heap[b]?=some (.cells #[C0,C1,C2] t (0,0)))(g1:lo≤b)(g2:b<hi)(h1:au.rd dR lo hi w C1 ())(h2:au.rd wD lo hi w C2 tx):(TE ).rd lo hi w (.pointer (some ⟨b,0,none⟩)) (made {kind:=23,text:=tx} []):=
 ⟨((),tx),rfl,b,rfl,g1,g2,⟨⟨_,cell_of ho rfl,h1⟩,⟨_,cell_of ho rfl,h2⟩⟩⟩
def jX:au (List Nd):=Qm TE
def qD :au (List Nd):=au.map (fun p=>made {kind:=25,text:=p.2.1,name:=p.2.2} []) (au.ptr ((bw.cell 1 dR).both ((bw.cell 2 wD).both (bw.cell 3 ot))))
theorem Ld{tx:ByteArray}{n:ByteArray}(ho:w.heap[b]?=some (.cells #[C0,C1,C2,C3] t (0,0)))(g1:lo≤b)(g2:b<hi)(h1:au.rd dR lo hi w C1 ())(h2:au.rd wD lo hi w C2 tx)(h3:au.rd ot lo hi w C3 n):(qD ).rd lo hi w (.pointer (some ⟨b,0,none⟩)) (made {kind:=25,text:=tx,name:=n} []):=
 ⟨((),tx,n),rfl,b,rfl,g1,g2,⟨⟨_,cell_of ho rfl,h1⟩,⟨⟨_,cell_of ho rfl,h2⟩,⟨_,cell_of ho rfl,h3⟩⟩⟩⟩
def Hb(n0:Nat):au (List Nd):=au.map (fun p=>made {kind:=24} (p.2.1 :: p.2.2)) (au.ptr ((bw.cell 1 dR).both ((bw.cell 2 (gX n0)).both (bw.cell 3 (au.list qD)))))
theorem Ln(n0:Nat){d:List Nd}{l:List (List Nd)}(ho:w.heap[b]?=some (.cells #[C0,C1,C2,C3] t (0,0)))(g1:lo≤b)(g2:b<hi)(h1:au.rd dR lo hi w C1 ())(h2:au.rd (gX n0) lo hi w C2 d)(h3:au.rd (au.list qD) lo hi w C3 l):(Hb n0).rd lo hi w (.pointer (some ⟨b,0,none⟩)) (made {kind:=24} (d :: l)):=
 ⟨((),d,l),rfl,b,rfl,g1,g2,⟨⟨_,cell_of ho rfl,h1⟩,⟨⟨_,cell_of ho rfl,h2⟩,⟨_,cell_of ho rfl,h3⟩⟩⟩⟩
def Ha(n0:Nat):au (List Nd):=au.map (fun p=>made {kind:=26,name:=p.2.2.1} [p.2.1,p.2.2.2]) (au.ptr ((bw.cell 1 dR).both ((bw.cell 2 jX).both ((bw.cell 3 eW).both (bw.cell 4 (gX n0))))))
theorem Ll(n0:Nat){x:List Nd}{n:ByteArray}{d:List Nd}(ho:w.heap[b]?=some (.cells #[C0,C1,C2,C3,C4] t (0,0)))(g1:lo≤b)(g2:b<hi)(h1:au.rd dR lo hi w C1 ())(h2:au.rd jX lo hi w C2 x)(h3:au.rd eW lo hi w C3 n)(h4:au.rd (gX n0) lo hi w C4 d):(Ha n0).rd lo hi w (.pointer (some ⟨b,0,none⟩)) (made {kind:=26,name:=n} [x,d]):=
 ⟨((),x,n,d),rfl,b,rfl,g1,g2,⟨⟨_,cell_of ho rfl,h1⟩,⟨⟨_,cell_of ho rfl,h2⟩,⟨⟨_,cell_of ho rfl,h3⟩,⟨_,cell_of ho rfl,h4⟩⟩⟩⟩⟩
def gU(n0:Nat):au (List Nd):=au.map (fun p=>made {kind:=30,name:=p.2.1} [p.2.2.1,p.2.2.2.1,p.2.2.2.2.1,p.2.2.2.2.2]) (au.ptr ((bw.cell 1 dR).both ((bw.cell 2 eW).both ((bw.cell 3 jX).both ((bw.cell 4 (qM n0)).both ((bw.cell 5 (Dv n0)).both (bw.cell 6 (gX n0))))))))
theorem oO(n0:Nat){n:ByteArray}{x:List Nd}{k:List Nd}{v:List Nd}{d:List Nd}(ho:w.heap[b]?=some (.cells #[C0,C1,C2,C3,C4,C5,C6] t (0,0)))(g1:lo≤b)(g2:b<hi)(h1:au.rd dR lo hi w C1 ())(h2:au.rd eW lo hi w C2 n)(h3:au.rd jX lo hi w C3 x)(h4:au.rd (qM n0) lo hi w C4 k)(h5:au.rd (Dv n0) lo hi w C5 v)(h6:au.rd (gX n0) lo hi w C6 d):(gU n0).rd lo hi w (.pointer (some ⟨b,0,none⟩)) (made {kind:=30,name:=n} [x,k,v,d]):=
 ⟨((),n,x,k,v,d),rfl,b,rfl,g1,g2,⟨⟨_,cell_of ho rfl,h1⟩,⟨⟨_,cell_of ho rfl,h2⟩,⟨⟨_,cell_of ho rfl,h3⟩,⟨⟨_,cell_of ho rfl,h4⟩,⟨⟨_,cell_of ho rfl,h5⟩,⟨_,cell_of ho rfl,h6⟩⟩⟩⟩⟩⟩⟩
def pC(n0:Nat):au (List Nd):=BV (gU n0)
def gS(n0:Nat):au (List Nd):=au.map (fun p=>made {kind:=29,name:=p.2.1} [p.2.2.1,p.2.2.2.1,p.2.2.2.2.1,p.2.2.2.2.2]) (au.ptr ((bw.cell 1 dR).both ((bw.cell 2 eW).both ((bw.cell 3 jX).both ((bw.cell 4 (pC n0)).both ((bw.cell 5 (qM n0)).both (bw.cell 6 (gX n0))))))))
theorem yw(n0:Nat){n:ByteArray}{x:List Nd}{a:List Nd}{k:List Nd}{d:List Nd}(ho:w.heap[b]?=some (.cells #[C0,C1,C2,C3,C4,C5,C6] t (0,0)))(g1:lo≤b)(g2:b<hi)(h1:au.rd dR lo hi w C1 ())(h2:au.rd eW lo hi w C2 n)(h3:au.rd jX lo hi w C3 x)(h4:au.rd (pC n0) lo hi w C4 a)(h5:au.rd (qM n0) lo hi w C5 k)(h6:au.rd (gX n0) lo hi w C6 d):(gS n0).rd lo hi w (.pointer (some ⟨b,0,none⟩)) (made {kind:=29,name:=n} [x,a,k,d]):=
 ⟨((),n,x,a,k,d),rfl,b,rfl,g1,g2,⟨⟨_,cell_of ho rfl,h1⟩,⟨⟨_,cell_of ho rfl,h2⟩,⟨⟨_,cell_of ho rfl,h3⟩,⟨⟨_,cell_of ho rfl,h4⟩,⟨⟨_,cell_of ho rfl,h5⟩,⟨_,cell_of ho rfl,h6⟩⟩⟩⟩⟩⟩⟩
def vw(n0:Nat):au (List Nd):=au.map (fun p=>made {kind:=27,name:=p.2.1} ([p.2.2.1]++p.2.2.2.1++[p.2.2.2.2.1]++p.2.2.2.2.2)) (au.ptr ((bw.cell 1 dR).both ((bw.cell 2 eW).both ((bw.cell 3 jX).both ((bw.cell 4 (au.list (mI 28))).both ((bw.cell 5 (gX n0)).both (bw.cell 6 (au.list (gS n0)))))))))
theorem L8(n0:Nat){n:ByteArray}{x:List Nd}{li:List (List Nd)}{d:List Nd}{lf:List (List Nd)}(ho:w.heap[b]?=some (.cells #[C0,C1,C2,C3,C4,C5,C6] t (0,0)))(g1:lo≤b)(g2:b<hi)(h1:au.rd dR lo hi w C1 ())(h2:au.rd eW lo hi w C2 n)(h3:au.rd jX lo hi w C3 x)(h4:au.rd (au.list (mI 28)) lo hi w C4 li)(h5:au.rd (gX n0) lo hi w C5 d)(h6:au.rd (au.list (gS n0)) lo hi w C6 lf):(vw n0).rd lo hi w (.pointer (some ⟨b,0,none⟩)) (made {kind:=27,name:=n} ([x]++li++[d]++lf)):=
 ⟨((),n,x,li,d,lf),rfl,b,rfl,g1,g2,⟨⟨_,cell_of ho rfl,h1⟩,⟨⟨_,cell_of ho rfl,h2⟩,⟨⟨_,cell_of ho rfl,h3⟩,⟨⟨_,cell_of ho rfl,h4⟩,⟨⟨_,cell_of ho rfl,h5⟩,⟨_,cell_of ho rfl,h6⟩⟩⟩⟩⟩⟩⟩
def xw(n0:Nat):au (List Nd):=au.map (fun p=>made {kind:=31,name:=p.2.1} ([p.2.2.1]++[p.2.2.2.1]++p.2.2.2.2)) (au.ptr ((bw.cell 1 dR).both ((bw.cell 2 eW).both ((bw.cell 3 jX).both ((bw.cell 4 (gX n0)).both (bw.cell 5 (au.list (gS n0))))))))
theorem E6(n0:Nat){n:ByteArray}{x:List Nd}{d:List Nd}{lf:List (List Nd)}(ho:w.heap[b]?=some (.cells #[C0,C1,C2,C3,C4,C5] t (0,0)))(g1:lo≤b)(g2:b<hi)(h1:au.rd dR lo hi w C1 ())(h2:au.rd eW lo hi w C2 n)(h3:au.rd jX lo hi w C3 x)(h4:au.rd (gX n0) lo hi w C4 d)(h5:au.rd (au.list (gS n0)) lo hi w C5 lf):(xw n0).rd lo hi w (.pointer (some ⟨b,0,none⟩)) (made {kind:=31,name:=n} ([x]++[d]++lf)):=
 ⟨((),n,x,d,lf),rfl,b,rfl,g1,g2,⟨⟨_,cell_of ho rfl,h1⟩,⟨⟨_,cell_of ho rfl,h2⟩,⟨⟨_,cell_of ho rfl,h3⟩,⟨⟨_,cell_of ho rfl,h4⟩,⟨_,cell_of ho rfl,h5⟩⟩⟩⟩⟩⟩
def LN(n0:Nat):au (List Nd):=au.map (fun p=>made {kind:=32,name:=p.2.1} ([p.2.2.1]++[p.2.2.2.1]++p.2.2.2.2)) (au.ptr ((bw.cell 1 dR).both ((bw.cell 2 eW).both ((bw.cell 3 jX).both ((bw.cell 4 (gX n0)).both (bw.cell 5 (au.list (mI 33))))))))
theorem Ok(n0:Nat){n:ByteArray}{x:List Nd}{d:List Nd}{lf:List (List Nd)}(ho:w.heap[b]?=some (.cells #[C0,C1,C2,C3,C4,C5] t (0,0)))(g1:lo≤b)(g2:b<hi)(h1:au.rd dR lo hi w C1 ())(h2:au.rd eW lo hi w C2 n)(h3:au.rd jX lo hi w C3 x)(h4:au.rd (gX n0) lo hi w C4 d)(h5:au.rd (au.list (mI 33)) lo hi w C5 lf):(LN n0).rd lo hi w (.pointer (some ⟨b,0,none⟩)) (made {kind:=32,name:=n} ([x]++[d]++lf)):=
 ⟨((),n,x,d,lf),rfl,b,rfl,g1,g2,⟨⟨_,cell_of ho rfl,h1⟩,⟨⟨_,cell_of ho rfl,h2⟩,⟨⟨_,cell_of ho rfl,h3⟩,⟨⟨_,cell_of ho rfl,h4⟩,⟨_,cell_of ho rfl,h5⟩⟩⟩⟩⟩⟩
def kn(n0:Nat):au (List Nd):=au.map (fun p=>made {kind:=35,name:=p.2.1} [p.2.2.1,p.2.2.2]) (au.ptr ((bw.cell 1 dR).both ((bw.cell 2 eW).both ((bw.cell 3 jX).both (bw.cell 4 (gX n0))))))
theorem DV(n0:Nat){n:ByteArray}{x:List Nd}{d:List Nd}(ho:w.heap[b]?=some (.cells #[C0,C1,C2,C3,C4] t (0,0)))(g1:lo≤b)(g2:b<hi)(h1:au.rd dR lo hi w C1 ())(h2:au.rd eW lo hi w C2 n)(h3:au.rd jX lo hi w C3 x)(h4:au.rd (gX n0) lo hi w C4 d):(kn n0).rd lo hi w (.pointer (some ⟨b,0,none⟩)) (made {kind:=35,name:=n} [x,d]):=
 ⟨((),n,x,d),rfl,b,rfl,g1,g2,⟨⟨_,cell_of ho rfl,h1⟩,⟨⟨_,cell_of ho rfl,h2⟩,⟨⟨_,cell_of ho rfl,h3⟩,⟨_,cell_of ho rfl,h4⟩⟩⟩⟩⟩
def BR(n0:Nat):au (List Nd):=au.map (fun p=>made {kind:=34,name:=p.2.1} ([p.2.2.1]++[p.2.2.2.1]++p.2.2.2.2)) (au.ptr ((bw.cell 1 dR).both ((bw.cell 2 eW).both ((bw.cell 3 jX).both ((bw.cell 4 (gX n0)).both (bw.cell 5 (au.list (kn n0))))))))
theorem IL(n0:Nat){n:ByteArray}{x:List Nd}{d:List Nd}{lf:List (List Nd)}(ho:w.heap[b]?=some (.cells #[C0,C1,C2,C3,C4,C5] t (0,0)))(g1:lo≤b)(g2:b<hi)(h1:au.rd dR lo hi w C1 ())(h2:au.rd eW lo hi w C2 n)(h3:au.rd jX lo hi w C3 x)(h4:au.rd (gX n0) lo hi w C4 d)(h5:au.rd (au.list (kn n0)) lo hi w C5 lf):(BR n0).rd lo hi w (.pointer (some ⟨b,0,none⟩)) (made {kind:=34,name:=n} ([x]++[d]++lf)):=
 ⟨((),n,x,d,lf),rfl,b,rfl,g1,g2,⟨⟨_,cell_of ho rfl,h1⟩,⟨⟨_,cell_of ho rfl,h2⟩,⟨⟨_,cell_of ho rfl,h3⟩,⟨⟨_,cell_of ho rfl,h4⟩,⟨_,cell_of ho rfl,h5⟩⟩⟩⟩⟩⟩
def KW(n0:Nat):au (List Nd):=au.map (fun p=>made {kind:=36,name:=p.2.1} ([p.2.2.1]++[p.2.2.2.1]++p.2.2.2.2)) (au.ptr ((bw.cell 1 dR).both ((bw.cell 2 eW).both ((bw.cell 3 jX).both ((bw.cell 4 (gX n0)).both (bw.cell 5 (au.list (gU n0))))))))
theorem ND(n0:Nat){n:ByteArray}{x:List Nd}{d:List Nd}{lf:List (List Nd)}(ho:w.heap[b]?=some (.cells #[C0,C1,C2,C3,C4,C5] t (0,0)))(g1:lo≤b)(g2:b<hi)(h1:au.rd dR lo hi w C1 ())(h2:au.rd eW lo hi w C2 n)(h3:au.rd jX lo hi w C3 x)(h4:au.rd (gX n0) lo hi w C4 d)(h5:au.rd (au.list (gU n0)) lo hi w C5 lf):(KW n0).rd lo hi w (.pointer (some ⟨b,0,none⟩)) (made {kind:=36,name:=n} ([x]++[d]++lf)):=
 ⟨((),n,x,d,lf),rfl,b,rfl,g1,g2,⟨⟨_,cell_of ho rfl,h1⟩,⟨⟨_,cell_of ho rfl,h2⟩,⟨⟨_,cell_of ho rfl,h3⟩,⟨⟨_,cell_of ho rfl,h4⟩,⟨_,cell_of ho rfl,h5⟩⟩⟩⟩⟩⟩
def G7(n0:Nat):au (List Nd):=au.map (fun p=>made {kind:=39} [p.2]) (au.ptr ((bw.cell 1 dR).both (bw.cell 2 (vw n0))))
theorem KG(n0:Nat){x:List Nd}(ho:w.heap[b]?=some (.cells #[C0,C1,C2] t (0,0)))(g1:lo≤b)(g2:b<hi)(h1:au.rd dR lo hi w C1 ())(h2:au.rd (vw n0) lo hi w C2 x):(G7 n0).rd lo hi w (.pointer (some ⟨b,0,none⟩)) (made {kind:=39} [x]):=
 ⟨((),x),rfl,b,rfl,g1,g2,⟨⟨_,cell_of ho rfl,h1⟩,⟨_,cell_of ho rfl,h2⟩⟩⟩
def qY(n0:Nat):au (List Nd):=au.map (fun p=>made {kind:=37,name:=p.2.1} ([p.2.2.1]++[p.2.2.2.1]++p.2.2.2.2)) (au.ptr ((bw.cell 1 dR).both ((bw.cell 2 eW).both ((bw.cell 3 jX).both ((bw.cell 4 (pC n0)).both (bw.cell 5 (au.list (CG 38))))))))
theorem zw(n0:Nat){n:ByteArray}{x:List Nd}{a:List Nd}{lf:List (List Nd)}(ho:w.heap[b]?=some (.cells #[C0,C1,C2,C3,C4,C5] t (0,0)))(g1:lo≤b)(g2:b<hi)(h1:au.rd dR lo hi w C1 ())(h2:au.rd eW lo hi w C2 n)(h3:au.rd jX lo hi w C3 x)(h4:au.rd (pC n0) lo hi w C4 a)(h5:au.rd (au.list (CG 38)) lo hi w C5 lf):(qY n0).rd lo hi w (.pointer (some ⟨b,0,none⟩)) (made {kind:=37,name:=n} ([x]++[a]++lf)):=
 ⟨((),n,x,a,lf),rfl,b,rfl,g1,g2,⟨⟨_,cell_of ho rfl,h1⟩,⟨⟨_,cell_of ho rfl,h2⟩,⟨⟨_,cell_of ho rfl,h3⟩,⟨⟨_,cell_of ho rfl,h4⟩,⟨_,cell_of ho rfl,h5⟩⟩⟩⟩⟩⟩
def qX(n0:Nat):au (List Nd):=(au.or (au.iface 126 (opR n0)) (au.or (au.iface 220 (PA n0)) (au.or (au.iface 227 (Hb n0)) (au.or (au.iface 234 (Ha n0)) (au.or (au.iface 243 (vw n0)) (au.or (au.iface 247 (xw n0)) (au.or (au.iface 251 (LN n0)) (au.or (au.iface 257 (BR n0)) (au.or (au.iface 263 (KW n0)) (au.or (au.iface 267 (G7 n0)) (au.iface 276 (qY n0))))))))))))
def UU(n0:Nat):au (List Nd):=au.map (fun p=>made {kind:=1} p.2) (au.ptr ((bw.cell 1 dR).both (bw.cell 2 (au.list (qX n0)))))
theorem RY(n0:Nat){l:List (List Nd)}(ho:w.heap[b]?=some (.cells #[C0,C1,C2] t (0,0)))(g1:lo≤b)(g2:b<hi)(h1:au.rd dR lo hi w C1 ())(h2:au.rd (au.list (qX n0)) lo hi w C2 l):(UU n0).rd lo hi w (.pointer (some ⟨b,0,none⟩)) (made {kind:=1} l):=
 ⟨((),l),rfl,b,rfl,g1,g2,⟨⟨_,cell_of ho rfl,h1⟩,⟨_,cell_of ho rfl,h2⟩⟩⟩
section
variable{α β:Type}
structure gR(R:au α):Prop where
 out:∀{lo hi:Nat} {w:World} {v:Value} {x:α},R.rd lo hi w v x→∃a:Option Addr,v=.pointer a
structure DM(R:au α):Prop where
 out:∀{lo hi:Nat} {w:World} {v:Value} {x:α},R.rd lo hi w v x→∃(a:Option Addr) (n k:Nat),v=.slice a n k
structure qo(R:au α):Prop where
 out:∀{lo hi:Nat} {w:World} {v:Value} {x:α},R.rd lo hi w v x→∃(t:TypeId) (u:Value),v=.iface t u
structure AB(R:au α):Prop where
 out:∀{lo hi:Nat} {w:World} {v:Value} {x:α},R.rd lo hi w v x→v=.nilIface∨∃(t:TypeId) (u:Value),v=.iface t u
theorem gR.ptr(B:bw α):gR (au.ptr B):=⟨fun h=>by obtain⟨b,h,_⟩:=h;exact⟨_,h⟩⟩
theorem gR.map{R:au α}{f:α→β}(hR:gR R):gR (au.map f R):=⟨fun h=>by obtain⟨a,_,h⟩:=h;exact hR.out h⟩
theorem gR.nil{a:α}:gR (au.is xB a):=⟨fun h=>⟨none,h.1⟩⟩
theorem gR.or{R S:au α}(hR:gR R)(hS:gR S):gR (au.or R S):=⟨fun h=>h.elim hR.out hS.out⟩
theorem DM.list(R:au α):DM (au.list R):=⟨fun h=>by obtain⟨a,k,h,_⟩:=h;exact⟨_,_,_,h⟩⟩
theorem DM.map{R:au α}{f:α→β}(hR:DM R):DM (au.map f R):=⟨fun h=>by obtain⟨a,_,h⟩:=h;exact hR.out h⟩
theorem qo.iface(t:TypeId)(R:au α):qo (au.iface t R):=⟨fun h=>by obtain⟨u,h,_⟩:=h;exact⟨_,_,h⟩⟩
theorem qo.or{R S:au α}(hR:qo R)(hS:qo S):qo (au.or R S):=⟨fun h=>h.elim hR.out hS.out⟩
theorem qo.Zb{R:au α}(hR:qo R):AB R:=⟨fun h=>.inr (hR.out h)⟩
theorem AB.nil{a:α}:AB (au.is .nilIface a):=⟨fun h=>.inl h.1⟩
theorem AB.or{R S:au α}(hR:AB R)(hS:AB S):AB (au.or R S):=⟨fun h=>h.elim hR.out hS.out⟩
end
theorem ef:gR eW:=(gR.ptr _).map
theorem X7:gR Jg:=gR.nil.or ef
theorem jw:gR ot:=(gR.ptr _).map
theorem W5:gR L5:=gR.nil.or jw
theorem W6(k:Int):gR (mI k):=jw.map
theorem X6(k:Int):gR (CG k):=ef.map
theorem Jr:gR varName:=jw
theorem Zk:gR QS:=(gR.ptr _).map
theorem SU(R:au (List Nd)):gR (Wg R):=(gR.ptr _).map
theorem oU:∀n,gR (mu n)
 | 0=>⟨fun h=>h.elim⟩
 | n+1=>SU _
theorem lI:gR jX:=gR.nil.or ((gR.ptr _).map)
theorem Lg(n:Nat):gR (vw n):=(gR.ptr _).map
theorem kv:∀n,qo (cH n)
 | 0=>⟨fun h=>h.elim⟩
 | n+1=>(qo.iface _ _).or ((qo.iface _ _).or ((qo.iface _ _).or ((qo.iface _ _).or ((qo.iface _ _).or ((qo.iface _ _).or ((qo.iface _ _).or (qo.iface _ _)))))))
theorem X1(n:Nat):AB (Dv n):=AB.nil.or (kv n).Zb
theorem EZ(R:au (List Nd)):AB (Dr R):=AB.nil.or ((qo.iface _ _).Zb.or (qo.iface _ _).Zb)
theorem Bh:∀n,AB (qM n)
 | 0=>⟨fun h=>h.elim⟩
 | n+1=>(EZ _).or (qo.iface _ _).Zb
theorem dS(R:au (List Nd)):DM (BV R):=(DM.list _).map
theorem yA(n:Nat)(R:au (List Nd)):qo (iL n R):=(qo.iface _ _).or ((qo.iface _ _).or (qo.iface _ _))
theorem Gi(n:Nat):qo (qX n):=(qo.iface _ _).or ((qo.iface _ _).or ((qo.iface _ _).or ((qo.iface _ _).or ((qo.iface _ _).or ((qo.iface _ _).or ((qo.iface _ _).or ((qo.iface _ _).or ((qo.iface _ _).or ((qo.iface _ _).or (qo.iface _ _))))))))))
end
end Go.Proofs.YtnpjmhodfdgloaaGreatDoor
