/- Part of the proof. -/
import Derived.Shelf.Unicode.DecodeSlow
import Derived.Test.YtnpjmhodfdgloaaGreatDoorQ10
set_option linter.unusedVariables false
set_option linter.unusedSimpArgs false
namespace Go.Proofs.YtnpjmhodfdgloaaGreatDoor
set_option maxRecDepth 100000
set_option maxHeartbeats 32000000
open Go.RowKit
attribute [local go_sem ↓] Go.wp_at_zero Go.wp_at_succ
def ji(w:World)(b:Nat)(s:ByteArray):Prop:=∀i,i<s.size→w.cell? ⟨b,i,none⟩=some (.int .u8 (nx s i:Int))
theorem ji.sm{X:List Nat}{w w':World}{b:Nat}{s:ByteArray}(h:ji w b s)(hs:Sm X w w')(hx:b∉X):ji w' b s:=fun i hi=>hs.keeps (h i hi) hx
def fL(s:ByteArray)(i:Nat):List (Nat×Nat):=
 if h:i<s.size then(if nx s i=10∨nx s i=13 then(i,mY s i) :: fL s (mY s i) else fL s (i+1)) else[]
termination_by s.size-i
decreasing_by
 · have:=sk s i;omega
 · omega
theorem me{s:ByteArray}{i:Nat}(h:¬i<s.size):fL s i=[]:=by rw[fL,dif_neg h]
theorem iT{s:ByteArray}{i:Nat}(h:i<s.size)(h':nx s i=10∨nx s i=13):fL s i=(i,mY s i) :: fL s (mY s i):=by rw[fL,dif_pos h,if_pos h']
theorem uo{s:ByteArray}{i:Nat}(h:i<s.size)(h':¬(nx s i=10∨nx s i=13)):fL s i=fL s (i+1):=by rw[fL,dif_pos h,if_neg h']
theorem KE{s:ByteArray}{i:Nat}(h:i<s.size):mY s i≤s.size:=by unfold mY;split<;>omega
theorem IK(s:ByteArray)(n:Nat):∀i,s.size-i≤n→∀p,p∈fL s i→i≤p.1∧p.1<p.2∧p.2≤s.size:=by
 induction n with
 | zero=>intro i h p hp;rw[me (by omega)] at hp;cases hp
 | succ n ih=>
  intro i h p hp;by_cases h1:i<s.size
  · by_cases h2:nx s i=10∨nx s i=13
    · rw[iT h1 h2] at hp;have g1:=sk s i;have g2:=KE h1;rcases List.mem_cons.1 hp with hp|hp
      · rw[hp];exact⟨lr,g1,g2⟩
      · have:=ih (mY s i) (by omega) p hp;omega
    · rw[uo h1 h2] at hp;have:=ih (i+1) (by omega) p hp;omega
  · rw[me h1] at hp;cases hp
theorem Nh(s:ByteArray)(n:Nat):∀i,s.size-i≤n→(fL s i).length≤s.size-i:=by
 induction n with
 | zero=>intro i h;rw[me (by omega)];simp
 | succ n ih=>
  intro i h;by_cases h1:i<s.size
  · by_cases h2:nx s i=10∨nx s i=13
    · rw[iT h1 h2];have g1:=sk s i;have:=ih (mY s i) (by omega);simp;omega
    · rw[uo h1 h2];have:=ih (i+1) (by omega);omega
  · rw[me h1];simp
def yN:au (Nat×Nat) where
 rd lo hi w v p:=∃k,lo≤k∧k<hi∧v=.slice (some ⟨k,0,none⟩) 2 2∧w.cell? ⟨k,0,none⟩=some (.int .i64 (p.1:Int))∧w.cell? ⟨k,1,none⟩=some (.int .i64 (p.2:Int))
 keep:=by rintro lo hi w w' v p ⟨k,h1,h2,h3,h4,h5⟩ hs;exact⟨k,h1,h2,h3,(hs.cell h1 h2).trans h4,(hs.cell h1 h2).trans h5⟩
 wide:=by rintro lo hi Bk rC w v p ⟨k,h1,h2,h3⟩ l1 l2;exact⟨k,by omega,by omega,h3⟩
theorem vy(w:World)(a b:Nat)(t:TypeId):yN.rd w.heap.size (w.heap.size+1) (w.alloc (.cells #[.int .i64 (a:Int),.int .i64 (b:Int)] t (0,0))) (.slice (some ⟨w.heap.size,0,none⟩) 2 2) (a,b):=
 ⟨w.heap.size,lr,Nat.lt_succ_self _,rfl,cell_of (ai _ _) rfl,cell_of (ai _ _) rfl⟩
theorem Gj:(Tryz.prog.info? 55).map (fun i=>(i.zero,i.size,i.bytes))=some (some (.slice none 0 0),1,24):=by kernel_rfl
def qw(s:ByteArray)(w:World)(v j:Value)(wr:World):Prop:=
 ∃(k:Nat) (acc:List (Nat×Nat)) (vs:List Value) (ov:Value),ov=v∧j=.int .i64 k∧k≤s.size∧wr.ownsRow w.heap.size 55 1 v acc.length vs∧bP yN w.heap.size wr v.ownBlock vs acc∧Sm [] w wr∧Hd (fL s 0=acc++fL s k)∧acc.length≤k
def xY(s:ByteArray)(w:World)(e:Ending)(w':World):Prop:=∃v,e=.returned v∧(au.list yN).rd w.heap.size w'.heap.size w' v (fL s 0)∧Sm [] w w'
theorem Gs(s:ByteArray)(bb cap:Nat)(w:World)(hb:ji w bb s)(hs:s.size≤1099511627776) :
 Calls Tryz.prog 208 #[.slice (some ⟨bb,0,none⟩) s.size cap] w (xY s w):=by
 have HB:Hd (ji w bb s):=hb;clear hb;go_enter Tryz.func208,Tryz.ntmps208;go_wp2_with fail
 go_loopw [3,4] (fun v j wr=>qw s w v j wr) (fun _ j _=>s.size-(intOf j).toNat)
 case atStart=>unfold qw;exact⟨0,[],[],_,rfl,rfl,Nat.zero_le _,World.ownsRow_nil _ _ _ _,.nil,sr,rfl,lr⟩
 case round=>
  unfold qw at hrel;obtain⟨k,acc,vs,v,rfl,rfl,hk,aJ,KM,iI,hd,UY⟩:=hrel;have k1:(0:Int)≤(k:Int):=by omega
  have hz:=iI.size;by_cases b9:k<s.size
  · have k2:(k:Int)<(s.size:Int):=by omega
    have ck:=(HB.o.sm iI (by simp)) k b9;have HE:Hd (bP yN w.heap.size wr v.ownBlock vs acc):=KM;have HO:Hd (wr.ownsRow w.heap.size 55 1 v acc.length vs):=aJ;have HS:Hd (Sm [] w wr):=iI;clear KM iI;by_cases yT:nx s k=10∨nx s k=13
    · have hle:=KE b9;by_cases tH:nx s k=13
      · have e1:((nx s k:Int)==13)=true:=by simp;omega
        by_cases q1:k+1<s.size
        · have ck1:=(HB.o.sm HS.o (by simp)) (k+1) q1;have k3:(k:Int)+1<(s.size:Int):=by omega
          have k4:(0:Int)≤(k:Int)+1:=by omega
          by_cases q2:nx s (k+1)=10
          · have e0:mY s k=k+2:=by unfold mY;rw[if_pos ⟨tH,q1,q2⟩]
            have e2:((nx s (k+1):Int)==10)=true:=by simp;omega
            have eL:Hd (fL s 0=(acc++[(k,k+2)])++fL s (k+2)):=by unfold Hd;rw[hd.out,iT b9 yT,e0];simp
            clear hd;clear yT tH q2 hle e0;go_wp2_with (at_builtin;refine Is _ rfl _ _ _ rfl 55 _ 1 24 Tryz.underlying374 Gj rfl (by omega) (by omega) _ acc.length vs rfl (aJ.alloc _) _ _ rfl (by simp) rfl (by simp[Value.oneCell']) (by omega) (by simp;omega) ?_);intro g dM w' aQ hg bV ea;have EV:=fe hg;have xL:=HS.o.grown EV (fun b hb=>.inl (aJ.lt b hb).1)
            have Ki:Hd (bP yN w.heap.size w' (some g) (vs++[.slice (some ⟨wr.heap.size,0,none⟩) 2 2]) (acc++[(k,k+2)])):=
             HE.o.push (by simp) (fun j _ j1=>Below.heap_alloc _ _ _ j1) aJ hg (by rcases bV with h|h;exact .inl h;exact .inr (by simp;omega)) hz lr (by simp) (vy wr k (k+2) _)
            have DH:Hd (w'.ownsRow w.heap.size 55 1 (.slice (some ⟨g,0,none⟩) (acc.length+1) dM) (acc++[(k,k+2)]).length (vs++[.slice (some ⟨wr.heap.size,0,none⟩) 2 2])):=by unfold Hd;simpa using aQ
            have ax:Hd (Sm [] w w'):=xL;clear aQ hg EV bV ea aJ xL;go_wp2_with fail;go_roundw
            case rel=>(first| refine⟨_,_,?_,rfl,rfl⟩|skip);unfold qw;exact⟨k+2,_,_,_,rfl,by go_num,by omega,DH.o,Ki.o,ax.o,eL,by simp;omega⟩
            case measure=>simp[intOf];omega
          · have e0:mY s k=k+1:=by unfold mY;rw[if_neg (by omega)]
            have e2:((nx s (k+1):Int)==10)=false:=by simp;omega
            have eL:Hd (fL s 0=(acc++[(k,k+1)])++fL s (k+1)):=by unfold Hd;rw[hd.out,iT b9 yT,e0];simp
            clear hd;clear yT tH q2 hle e0;go_wp2_with (at_builtin;refine Is _ rfl _ _ _ rfl 55 _ 1 24 Tryz.underlying374 Gj rfl (by omega) (by omega) _ acc.length vs rfl (aJ.alloc _) _ _ rfl (by simp) rfl (by simp[Value.oneCell']) (by omega) (by simp;omega) ?_);intro g dM w' aQ hg bV ea;have EV:=fe hg;have xL:=HS.o.grown EV (fun b hb=>.inl (aJ.lt b hb).1)
            have Ki:Hd (bP yN w.heap.size w' (some g) (vs++[.slice (some ⟨wr.heap.size,0,none⟩) 2 2]) (acc++[(k,k+1)])):=
             HE.o.push (by simp) (fun j _ j1=>Below.heap_alloc _ _ _ j1) aJ hg (by rcases bV with h|h;exact .inl h;exact .inr (by simp;omega)) hz lr (by simp) (vy wr k (k+1) _)
            have DH:Hd (w'.ownsRow w.heap.size 55 1 (.slice (some ⟨g,0,none⟩) (acc.length+1) dM) (acc++[(k,k+1)]).length (vs++[.slice (some ⟨wr.heap.size,0,none⟩) 2 2])):=by unfold Hd;simpa using aQ
            have ax:Hd (Sm [] w w'):=xL;clear aQ hg EV bV ea aJ xL;go_wp2_with fail;go_roundw
            case rel=>(first| refine⟨_,_,?_,rfl,rfl⟩|skip);unfold qw;exact⟨k+1,_,_,_,rfl,by go_num,by omega,DH.o,Ki.o,ax.o,eL,by simp;omega⟩
            case measure=>simp[intOf];omega
        · have k3:¬((k:Int)+1<(s.size:Int)):=by omega
          have e0:mY s k=k+1:=by unfold mY;rw[if_neg (by omega)]
          have eL:Hd (fL s 0=(acc++[(k,k+1)])++fL s (k+1)):=by unfold Hd;rw[hd.out,iT b9 yT,e0];simp
          clear hd;clear yT tH hle e0;go_wp2_with (at_builtin;refine Is _ rfl _ _ _ rfl 55 _ 1 24 Tryz.underlying374 Gj rfl (by omega) (by omega) _ acc.length vs rfl (aJ.alloc _) _ _ rfl (by simp) rfl (by simp[Value.oneCell']) (by omega) (by simp;omega) ?_);intro g dM w' aQ hg bV ea;have EV:=fe hg;have xL:=HS.o.grown EV (fun b hb=>.inl (aJ.lt b hb).1)
          have Ki:Hd (bP yN w.heap.size w' (some g) (vs++[.slice (some ⟨wr.heap.size,0,none⟩) 2 2]) (acc++[(k,k+1)])):=
           HE.o.push (by simp) (fun j _ j1=>Below.heap_alloc _ _ _ j1) aJ hg (by rcases bV with h|h;exact .inl h;exact .inr (by simp;omega)) hz lr (by simp) (vy wr k (k+1) _)
          have DH:Hd (w'.ownsRow w.heap.size 55 1 (.slice (some ⟨g,0,none⟩) (acc.length+1) dM) (acc++[(k,k+1)]).length (vs++[.slice (some ⟨wr.heap.size,0,none⟩) 2 2])):=by unfold Hd;simpa using aQ
          have ax:Hd (Sm [] w w'):=xL;clear aQ hg EV bV ea aJ xL;go_wp2_with fail;go_roundw
          case rel=>(first| refine⟨_,_,?_,rfl,rfl⟩|skip);unfold qw;exact⟨k+1,_,_,_,rfl,by go_num,by omega,DH.o,Ki.o,ax.o,eL,by simp;omega⟩
          case measure=>simp[intOf];omega
      · have e1:((nx s k:Int)==13)=false:=by simp;omega
        have e2:((nx s k:Int)==10)=true:=by simp;omega
        have e0:mY s k=k+1:=by unfold mY;rw[if_neg (by omega)]
        have eL:Hd (fL s 0=(acc++[(k,k+1)])++fL s (k+1)):=by unfold Hd;rw[hd.out,iT b9 yT,e0];simp
        clear hd;clear yT tH hle e0;go_wp2_with (at_builtin;refine Is _ rfl _ _ _ rfl 55 _ 1 24 Tryz.underlying374 Gj rfl (by omega) (by omega) _ acc.length vs rfl (aJ.alloc _) _ _ rfl (by simp) rfl (by simp[Value.oneCell']) (by omega) (by simp;omega) ?_);intro g dM w' aQ hg bV ea;have EV:=fe hg;have xL:=HS.o.grown EV (fun b hb=>.inl (aJ.lt b hb).1)
        have Ki:Hd (bP yN w.heap.size w' (some g) (vs++[.slice (some ⟨wr.heap.size,0,none⟩) 2 2]) (acc++[(k,k+1)])):=
         HE.o.push (by simp) (fun j _ j1=>Below.heap_alloc _ _ _ j1) aJ hg (by rcases bV with h|h;exact .inl h;exact .inr (by simp;omega)) hz lr (by simp) (vy wr k (k+1) _)
        have DH:Hd (w'.ownsRow w.heap.size 55 1 (.slice (some ⟨g,0,none⟩) (acc.length+1) dM) (acc++[(k,k+1)]).length (vs++[.slice (some ⟨wr.heap.size,0,none⟩) 2 2])):=by unfold Hd;simpa using aQ
        have ax:Hd (Sm [] w w'):=xL;clear aQ hg EV bV ea aJ xL;go_wp2_with fail;go_roundw
        case rel=>(first| refine⟨_,_,?_,rfl,rfl⟩|skip);unfold qw;exact⟨k+1,_,_,_,rfl,by go_num,by omega,DH.o,Ki.o,ax.o,eL,by simp;omega⟩
        case measure=>simp[intOf];omega
    · have e1:((nx s k:Int)==13)=false:=by simp;omega
      have e2:((nx s k:Int)==10)=false:=by simp;omega
      have eL:Hd (fL s 0=acc++fL s (k+1)):=by unfold Hd;rw[hd.out,uo b9 yT]
      clear yT hd aJ;go_wp2_with fail;go_roundw
      case rel=>(first| refine⟨_,_,?_,rfl,rfl⟩|skip);unfold qw;exact⟨k+1,_,_,_,rfl,by go_num,by omega,HO.o,HE.o,HS.o,eL,by omega⟩
      case measure=>simp[intOf];omega
  · have k2:¬((k:Int)<(s.size:Int)):=by omega
    have eL:Hd (fL s 0=acc):=by unfold Hd;rw[hd.out,me b9];simp
    have HL:Hd ((au.list yN).rd w.heap.size wr.heap.size wr v acc):=cW aJ KM;have HS:Hd (Sm [] w wr):=iI;clear hd aJ KM iI;go_wp2_with fail;go_ret;unfold xY;rw[eL.out];exact⟨_,rfl,HL.o,HS.o⟩
def lA(p:Nat):List (Nat×Nat)→Nat→Nat→Int×Int
 | [],ln,fr=>((ln:Int),(p:Int)+1-(fr:Int))
 | x :: t,ln,fr=>if x.1<p then lA p t (ln+1) x.2 else((ln:Int),(p:Int)+1-(fr:Int))
def loc(s:ByteArray)(p:Nat):Int×Int:=lA p (fL s 0) 1 0
def Fy(p:Nat)(ms:List (Nat×Nat))(w1:World)(l c j:Value)(wr:World):Prop:=
 ∃(k ln fr:Nat),l=.int .i64 ln∧c=.int .i64 ((p:Int)+1-(fr:Int))∧j=.int .i64 k∧k≤ms.length∧ln≤k+1∧fr≤1099511627776∧Sm [] w1 wr∧Hd (lA p ms 1 0=lA p (ms.drop k) ln fr)
def Fx(s:ByteArray)(p:Nat)(w:World)(e:Ending)(w':World):Prop:=e=.returned (.agg #[.int .i64 (loc s p).1,.int .i64 (loc s p).2])∧Sm [] w w'
theorem pa{p:Nat}{x:Nat×Nat}{t:List (Nat×Nat)}{ln fr:Nat}(h:x.1<p):lA p (x :: t) ln fr=lA p t (ln+1) x.2:=if_pos h
theorem BX{p:Nat}{x:Nat×Nat}{t:List (Nat×Nat)}{ln fr:Nat}(h:¬x.1<p):lA p (x :: t) ln fr=((ln:Int),(p:Int)+1-(fr:Int)):=if_neg h
theorem drop_cons{α}{l:List α}{k:Nat}(h:k<l.length):l.drop k=l[k] :: l.drop (k+1):=List.drop_eq_getElem_cons h
theorem AG(s:ByteArray)(sb bb cap p:Nat)(w:World)(hc:w.cell? ⟨sb,0,none⟩=some (.slice (some ⟨bb,0,none⟩) s.size cap))(Gc:s.size≤cap)(hb:ji w bb s)(hs:s.size≤1099511627776)(hp:p≤1099511627777) :
 Calls Tryz.prog 194 #[.pointer (some ⟨sb,0,none⟩),.int .i64 p] w (Fx s p w):=by
 have HL:Hd (∀W,ji W bb s→Calls Tryz.prog 208 #[.slice (some ⟨bb,0,none⟩) s.size cap] W (xY s W)):=fun W h=>Gs s bb cap W h hs;have HB:Hd (ji w bb s):=hb;have HI:=IK s s.size 0 (by omega);have HN:=Nh s s.size 0 (by omega);unfold Fx loc;unfold xY at HL;generalize fL s 0=ms at *;have HI':Hd (∀p,p∈ms→0≤p.1∧p.1<p.2∧p.2≤s.size):=HI;clear hb HI;have c0:∀o1 o2,((w.alloc o1).alloc o2).cell? ⟨sb,0,none⟩=some (.slice (some ⟨bb,0,none⟩) s.size cap):=fun o1 o2=>(((Sm.refl [] w).alloc o1).alloc o2).keeps hc (by simp);have HC:Hd (w.cell? ⟨sb,0,none⟩=some (.slice (some ⟨bb,0,none⟩) s.size cap)):=hc;clear hc;go_enter Tryz.func194,Tryz.ntmps194;go_wp2_with fail;refine(HL.o _ (HB.o.sm (((Sm.refl [] w).alloc _).alloc _) (by simp))).mono ?_;rintro e w1 ⟨v,rfl,hv,cJ⟩;obtain⟨a,c2,rfl,h1,h2,(H3:Hd _)⟩:=hv;have HS:Hd (Sm [] w w1):=(((Sm.refl [] w).alloc _).alloc _).trans cJ;have H0:Hd (w1.heap[w.heap.size]?=some (.cells #[.int .i64 0,.int .i64 0] 61 (0,0))):=cJ.obj (wW (ai w _) _) (by simp);clear cJ HL c0;go_wp2_with fail
 go_loopw [6,7,26] (fun l c j wr=>Fy p ms w1 l c j wr) (fun _ _ j _=>ms.length-(intOf j).toNat)
 case atStart=>unfold Fy;exact⟨0,1,0,rfl,by simp,rfl,Nat.zero_le _,lr,by omega,sr,rfl⟩
 case round=>
  unfold Fy at hrel;obtain⟨k,ln,fr,rfl,rfl,rfl,hk,KO,hfr,iI,hd⟩:=hrel;have k1:(0:Int)≤(k:Int):=by omega
  by_cases b9:k<ms.length
  · have k2:(k:Int)<(ms.length:Int):=by omega
    obtain⟨b,o,u,rfl,l1,l2,hu,kb,l3,l4,rfl,ca,cb⟩:=H3.o k b9;obtain⟨i1,i2,i3⟩:=HI'.out ms[k] (List.getElem_mem b9);have cu:=iI.keeps hu (by simp);have ca':=iI.keeps ca (by simp);have cb':=iI.keeps cb (by simp);have cs:=(HS.o.trans iI).keeps HC.o (by simp);have iW:Hd (lA p ms 1 0=lA p (ms[k] :: ms.drop (k+1)) ln fr):=by unfold Hd;rw[hd.out,drop_cons b9]
    generalize ms[k]=q at *;obtain⟨q1,q2⟩:=q;dsimp only at *;have ax:=ae iI;clear iI hu ca cb hd;by_cases hq:q1<p
    · have z1:(q1:Int)<(p:Int):=by omega
      have z2:(0:Int)≤(q1:Int):=by omega
      have z3:(q1:Int)≤(q2:Int):=by omega
      have z4:(q2:Int)≤(s.size:Int):=by omega
      have z5:(q2:Int)≤(cap:Int):=by omega
      have TK:Hd (lA p ms 1 0=lA p (ms.drop (k+1)) (ln+1) q2):=by unfold Hd;rw[iW.out,pa hq]
      clear iW hq;go_wp2_with fail;go_quiet (fail);go_wp2_with fail;have aO:=ae (ax.o.drewN 3);go_roundw
      case rel=>(first| refine⟨_,_,_,?_,rfl,rfl,rfl⟩|skip);unfold Fy;refine⟨k+1,ln+1,q2,by go_num,?_,by go_num,by omega,by omega,by omega,ax.o.drewN _,TK⟩;congr 1;omega
      case measure=>simp[intOf];omega
    · have z1:¬((q1:Int)<(p:Int)):=by omega
      have z2:(0:Int)≤(q1:Int):=by omega
      have TK:Hd (lA p ms 1 0=((ln:Int),(p:Int)+1-(fr:Int))):=by unfold Hd;rw[iW.out,BX hq]
      have ro:=ax.o.obj H0.o (by simp);have r0:wr.cell? ⟨w.heap.size,0,none⟩=some (.int .i64 0):=cell_of ro rfl;have r1:wr.cell? ⟨w.heap.size,1,none⟩=some (.int .i64 0):=cell_of ro rfl;have rf0:=aF ro 0;have rf1:=aF ro 1;clear iW hq ro;go_wp2_with fail;refine bodyPost_ret (by simp[results,Tryz.results194,go_sem,r0,r1];try rfl) rfl ?_;rw[TK.out];exact⟨rfl,((HS.o.trans ax.o).setCell (p:=⟨w.heap.size,0,none⟩) (.inl lr) _).setCell (p:=⟨w.heap.size,1,none⟩) (.inl lr) _⟩
  · have k2:¬((k:Int)<(ms.length:Int)):=by omega
    have TK:Hd (lA p ms 1 0=((ln:Int),(p:Int)+1-(fr:Int))):=by unfold Hd;rw[hd.out,List.drop_eq_nil_of_le (by omega)];rfl
    have ax:=ae iI;have ro:=ax.o.obj H0.o (by simp);have r0:wr.cell? ⟨w.heap.size,0,none⟩=some (.int .i64 0):=cell_of ro rfl;have r1:wr.cell? ⟨w.heap.size,1,none⟩=some (.int .i64 0):=cell_of ro rfl;have rf0:=aF ro 0;have rf1:=aF ro 1;clear hd iI ro;go_wp2_with fail;refine bodyPost_ret (by simp[results,Tryz.results194,go_sem,r0,r1];try rfl) rfl ?_;rw[TK.out];exact⟨rfl,((HS.o.trans ax.o).setCell (p:=⟨w.heap.size,0,none⟩) (.inl lr) _).setCell (p:=⟨w.heap.size,1,none⟩) (.inl lr) _⟩
structure kj(w:World)(sb bb cap:Nat)(s:ByteArray):Prop where
 c0:w.cell? ⟨sb,0,none⟩=some (.slice (some ⟨bb,0,none⟩) s.size cap)
 le:s.size≤cap
 bytes:ji w bb s
 small:s.size≤1099511627776
theorem kj.sm{X:List Nat}{w w':World}{sb bb cap:Nat}{s:ByteArray}(h:kj w sb bb cap s)(hs:Sm X w w')(h1:sb∉X)(h2:bb∉X):kj w' sb bb cap s:=
 ⟨hs.keeps h.c0 h1,h.le,h.bytes.sm hs h2,h.small⟩
theorem kj.cI{w w':World}{sb bb cap:Nat}{s:ByteArray}(h:kj w sb bb cap s)(hs:Sm [] w w'):kj w' sb bb cap s:=h.sm hs (by simp) (by simp)
def lh(s:ByteArray):au Nat where
 rd lo hi w v p:=∃eb lb lc,v=.pointer (some ⟨eb,0,none⟩)∧lo≤eb∧eb<hi∧lo≤lb∧lb<hi∧w.cell? ⟨eb,5,none⟩=some (.slice (some ⟨lb,0,none⟩) 1 lc)∧w.cell? ⟨lb,0,none⟩=some (.int .i64 (loc s p).1)∧w.cell? ⟨lb,1,none⟩=some (.int .i64 (loc s p).2)
 keep:=by rintro lo hi w w' v p ⟨eb,lb,lc,h1,h2,h3,h4,h5,h6,h7,h8⟩ hs;exact⟨eb,lb,lc,h1,h2,h3,h4,h5,(hs.cell h2 h3).trans h6,(hs.cell h4 h5).trans h7,(hs.cell h4 h5).trans h8⟩
 wide:=by rintro lo hi Bk rC w v p ⟨eb,lb,lc,h1,h2,h3,h4,h5,h6⟩ l1 l2;exact⟨eb,lb,lc,h1,by omega,by omega,by omega,by omega,h6⟩
def kL(s:ByteArray)(p:Nat)(w:World)(e:Ending)(w':World):Prop:=∃v,e=.returned v∧(lh s).rd w.heap.size w'.heap.size w' v p∧Sm [] w w'
theorem Sk:(Tryz.prog.info? 61).map (fun i=>(i.zero,i.size,i.bytes))=some (some (.agg #[.int .i64 0,.int .i64 0]),2,16):=by kernel_rfl
def msg:ByteArray:=⟨#[83,121,110,116,97,120,32,69,114,114,111,114]⟩
theorem GF(s:ByteArray)(sb bb cap p nb pb pc:Nat)(w:World)(dA:kj w sb bb cap s)(hp:p≤1099511627777)(hc:w.cell? ⟨pb,0,none⟩=some (.int .i64 p)) :
 Calls Tryz.prog 162 #[.string msg,.slice (some ⟨nb,0,none⟩) 0 0,.string ⟨#[]⟩,.pointer (some ⟨sb,0,none⟩),.slice (some ⟨pb,0,none⟩) 1 pc,.slice none 0 0,.nilIface] w (kL s p w):=by
 have HG:Hd (∀W,kj W sb bb cap s→Calls Tryz.prog 194 #[.pointer (some ⟨sb,0,none⟩),.int .i64 p] W (Fx s p W)):=fun W h=>AG s sb bb cap p W h.c0 h.le h.bytes h.small hp;have HS:Hd (kj w sb bb cap s):=dA;have HC:Hd (w.cell? ⟨pb,0,none⟩=some (.int .i64 p)):=hc;have c0:∀o,(w.alloc o).cell? ⟨pb,0,none⟩=some (.int .i64 p):=fun o=>((Sm.refl [] w).alloc o).keeps hc (by simp);clear dA hc;unfold msg;go_enter Tryz.func162,Tryz.ntmps162;go_wp2_with fail;refine wp_loop_rounds 2 ?_;rw[rounds_succ];go_wp2_with fail;refine(HG.o _ (HS.o.cI ((Sm.refl [] w).alloc _))).mono ?_;rintro e w1 ⟨rfl,cJ⟩
 have aJ:w1.ownsRow w.heap.size 61 2 (.slice (some ⟨w.heap.size,0,none⟩) 0 0) 0 []:=
  (World.ownsRow_made (base:=w.heap.size) (size:=2) w #[] 0 lr (by simp[maxLen]) rfl).kept (row:=none) ⟨cJ.os,cJ.tape,cJ.output,cJ.size,fun k hk _=>cJ.block k hk (by simp)⟩ (.inr (by simp[Value.ownBlock]))
 have hz:=cJ.size;have H1:=ae cJ;generalize hl:loc s p=l at *;obtain⟨l1,l2⟩:=l;have HQ:=ae hl;clear hl;clear cJ;go_wp2_with (at_builtin;refine Is _ rfl _ _ _ rfl 61 _ 2 16 Tryz.underlying56 Sk rfl (by omega) (by omega) _ 0 [] rfl (aJ.alloc _) _ _ rfl (by simp) rfl (by simp[Value.oneCell']) (by omega) (by simp at *;omega) ?_);intro g dM w' aQ hg bV ea;have GL:Hd (w'.cell? ⟨g,0,none⟩=some (.int .i64 l1)):=ae (by have:=aQ.cells (g:=g) rfl 0 (.int .i64 l1) (by simp);rwa [zs] at this);have GC:Hd (w'.cell? ⟨g,1,none⟩=some (.int .i64 l2)):=ae (by have:=aQ.cells (g:=g) rfl 1 (.int .i64 l2) (by simp);rwa [zs] at this);have HB:Hd (w.heap.size≤g):=(aQ.lt g rfl).1;have WN:Hd (g<w'.heap.size):=ea;have wM:Hd (w.heap.size≤w'.heap.size):=by have:=hg.size;unfold Hd;simp at *;omega
 have ax:Hd (Sm [] w w'):=(((Sm.refl [] w).alloc _).trans (H1.o.alloc _)).grown hg (fun b hb=>.inl (aJ.lt b hb).1);clear aQ hg bV ea aJ hz;go_wp2_with fail;rw[rounds_succ];go_wp2_with fail;go_returns;refine⟨_,rfl,⟨w'.heap.size,g,dM,rfl,wM.o,by simp,HB.o,by have:=WN.o;simp;omega,?_,?_,?_⟩,ax.o.alloc _⟩
 · exact cell_of (ai _ _) rfl
 · rw[HQ.o];exact((Sm.refl [] w').alloc _).keeps GL.out (by simp)
 · rw[HQ.o];exact((Sm.refl [] w').alloc _).keeps GC.out (by simp)
theorem dD(s:ByteArray)(sb bb cap p:Nat)(d:ByteArray)(w:World)(dA:kj w sb bb cap s)(hp:p≤1099511627777) :
 Calls Tryz.prog 84 #[.pointer (some ⟨sb,0,none⟩),.int .i64 p,.string d] w (kL s p w):=by
 have HN:Hd (∀W nb pb pc,kj W sb bb cap s→W.cell? ⟨pb,0,none⟩=some (.int .i64 p)→Calls Tryz.prog 162 #[.string msg,.slice (some ⟨nb,0,none⟩) 0 0,.string ⟨#[]⟩,.pointer (some ⟨sb,0,none⟩),.slice (some ⟨pb,0,none⟩) 1 pc,.slice none 0 0,.nilIface] W (kL s p W)):=
  fun W nb pb pc h1 h2=>GF s sb bb cap p nb pb pc W h1 hp h2
 have HS:Hd (kj w sb bb cap s):=dA;unfold msg at HN;clear dA;go_enter Tryz.func84,Tryz.ntmps84;go_wp2_with (first| (go_at_call 162;refine(HN.o _ _ _ _ (HS.o.cI (((Sm.refl [] w).alloc _).alloc _)) (by simp)).mono ?_;rintro e w1 ⟨v,rfl,hv,cJ⟩)|go_in)
 go_returns;exact⟨_,rfl,(lh s).wide hv (by simp;omega) lr,(((Sm.refl [] w).alloc _).alloc _).trans cJ⟩
def Ks:ByteArray:=⟨#[239,187,191]⟩
structure Rn(s:ByteArray)(i:Nat)(c n:Int):Prop where
 out:s.size≤i→c=-1∧n=65533
 s6:i<s.size→nx s i<128→c=(nx s i:Int)∧n=1
 UN:128≤nx s i→128≤c∧c≤1114111∧1≤n∧n≤4∧((pt s i).2≠0→c=(pt s i).1∧n=((pt s i).2:Int))∧(c=65279→st s i Ks=true)
theorem Ca(s:ByteArray)(i j:Nat):((s.extract i s.size).get! j).toNat=nx s (i+j):=by
 unfold nx;by_cases h:i+j<s.size
 · rw[dif_pos h];have h1:j<(s.extract i s.size).size:=by rw[ByteArray.size_extract];omega
   have e:(s.extract i s.size).get! j=(s.extract i s.size)[j]:=by show(s.extract i s.size).data[j]! =(s.extract i s.size).data[j];exact getElem!_pos _ j h1
   rw[e,ByteArray.getElem_extract]
 · rw[dif_neg h];have h1:¬j<(s.extract i s.size).size:=by rw[ByteArray.size_extract];omega
   have e:(s.extract i s.size).get! j=0:=by show(s.extract i s.size).data[j]! =0;rw[getElem!_neg _ j h1];rfl
   rw[e];rfl
theorem Jo(s:ByteArray)(i:Nat)(hb:128≤nx s i)(h:(pt s i).2≠0) :
 (194≤nx s i∧nx s i<224∧i+2≤s.size∧128≤nx s (i+1)∧nx s (i+1)≤191∧pt s i=(((nx s i:Int)-192)*64+(nx s (i+1):Int)-128,2)) ∨
 (224≤nx s i∧nx s i<240∧i+3≤s.size∧128≤nx s (i+1)∧nx s (i+1)≤191∧128≤nx s (i+2)∧nx s (i+2)≤191∧pt s i=((((nx s i:Int)-224)*64+(nx s (i+1):Int)-128)*64+(nx s (i+2):Int)-128,3)∧2048≤(pt s i).1∧¬(55296≤(pt s i).1∧(pt s i).1<57344)) ∨
 (240≤nx s i∧nx s i<245∧i+4≤s.size∧128≤nx s (i+1)∧nx s (i+1)≤191∧128≤nx s (i+2)∧nx s (i+2)≤191∧128≤nx s (i+3)∧nx s (i+3)≤191∧pt s i=(((((nx s i:Int)-240)*64+(nx s (i+1):Int)-128)*64+(nx s (i+2):Int)-128)*64+(nx s (i+3):Int)-128,4)∧65536≤(pt s i).1∧(pt s i).1≤1114111):=by
 have q2:nx s (i+1+1)=nx s (i+2):=rfl;have q3:nx s (i+1+1+1)=nx s (i+3):=rfl;unfold pt at h ⊢;rw[if_neg (by omega)] at h ⊢;unfold mM at h ⊢;by_cases c2:194≤nx s i∧nx s i<224
 · left
   rw[if_pos c2] at h ⊢;dsimp only at h ⊢;by_cases hs:s.size<i+2
   · rw[if_pos (.inr hs)] at h;exact absurd rfl h
   rw[if_neg (by omega)] at h ⊢;by_cases b1:nx s (i+1)<128∨191<nx s (i+1)
   · rw[gG (by omega) b1] at h;exact absurd rfl h
   rw[gW (by omega) (by omega) (by omega),mi (by omega)] at h ⊢;dsimp only at h ⊢;split at h
   · exact absurd rfl h
   · rename_i hc;rw[if_neg hc];exact⟨c2.1,c2.2,by omega,by omega,by omega,rfl⟩
 rw[if_neg c2] at h ⊢;by_cases c3:224≤nx s i∧nx s i<240
 · right;left
   rw[if_pos c3] at h ⊢;dsimp only at h ⊢;by_cases hs:s.size<i+3
   · rw[if_pos (.inr hs)] at h;exact absurd rfl h
   rw[if_neg (by omega)] at h ⊢;by_cases b1:nx s (i+1)<128∨191<nx s (i+1)
   · rw[gG (by omega) b1] at h;exact absurd rfl h
   by_cases b2:nx s (i+2)<128∨191<nx s (i+2)
   · rw[gW (by omega) (by omega) (by omega),gG (by omega) b2] at h;exact absurd rfl h
   rw[gW (by omega) (by omega) (by omega),gW (by omega) (by omega) (by omega),mi (by omega)] at h ⊢;dsimp only at h ⊢;split at h
   · exact absurd rfl h
   · rename_i hc;rw[if_neg hc];exact⟨c3.1,c3.2,by omega,by omega,by omega,by omega,by omega,rfl,by dsimp only;omega,by dsimp only;omega⟩
 rw[if_neg c3] at h ⊢;by_cases c4:240≤nx s i∧nx s i<245
 · right;right
   rw[if_pos c4] at h ⊢;dsimp only at h ⊢;by_cases hs:s.size<i+4
   · rw[if_pos (.inr hs)] at h;exact absurd rfl h
   rw[if_neg (by omega)] at h ⊢;by_cases b1:nx s (i+1)<128∨191<nx s (i+1)
   · rw[gG (by omega) b1] at h;exact absurd rfl h
   by_cases b2:nx s (i+2)<128∨191<nx s (i+2)
   · rw[gW (by omega) (by omega) (by omega),gG (by omega) b2] at h;exact absurd rfl h
   by_cases b3:nx s (i+3)<128∨191<nx s (i+3)
   · rw[gW (by omega) (by omega) (by omega),gW (by omega) (by omega) (by omega),gG (by omega) b3] at h;exact absurd rfl h
   rw[gW (by omega) (by omega) (by omega),gW (by omega) (by omega) (by omega),gW (by omega) (by omega) (by omega),mi (by omega)] at h ⊢;dsimp only at h ⊢;split at h
   · exact absurd rfl h
   · rename_i hc;rw[if_neg hc];exact⟨c4.1,c4.2,by omega,by omega,by omega,by omega,by omega,by omega,by omega,rfl,by dsimp only;omega,by dsimp only;omega⟩
 · rw[if_neg c4] at h;exact absurd rfl h
theorem DW{s:ByteArray}{i:Nat}(h:i+3≤s.size)(h0:nx s i=239)(h1:nx s (i+1)=187)(h2:nx s (i+2)=191):st s i Ks=true:=by
 unfold st;rw[decide_eq_true_iff];refine⟨h,?_⟩;have om:(s.extract i (i+Ks.size)).size=Ks.size:=by rw[ByteArray.size_extract];show min (i+3) s.size-i=3;omega
 have e:∀j (hj:j<(s.extract i (i+Ks.size)).size) (IW:j<Ks.size),(s.extract i (i+Ks.size))[j]=Ks[j]:=by
  intro j hj IW;rw[ByteArray.getElem_extract];have hj3:j<3:=IW;have hu:∀k (hk:k<s.size) (b:UInt8),nx s k=b.toNat→s[k]=b:=by intro k hk b hb;unfold nx at hb;rw[dif_pos hk] at hb;exact UInt8.toNat_inj.1 hb
  match j,hj3 with
  | 0,_=>exact hu _ _ 239 h0
  | 1,_=>exact hu _ _ 187 h1
  | 2,_=>exact hu _ _ 191 h2
 exact ByteArray.ext_getElem om e
theorem FW(s:ByteArray)(i:Nat)(hi:i<s.size)(hb:128≤nx s i):128≤(Lib.decodeGo (s.extract i s.size)).1∧(Lib.decodeGo (s.extract i s.size)).1≤1114111∧1≤(Lib.decodeGo (s.extract i s.size)).2∧(Lib.decodeGo (s.extract i s.size)).2≤4 ∧
 ((pt s i).2≠0→((Lib.decodeGo (s.extract i s.size)).1:Int)=(pt s i).1∧(Lib.decodeGo (s.extract i s.size)).2=(pt s i).2)∧((Lib.decodeGo (s.extract i s.size)).1=65279→st s i Ks=true):=by
 have om:(s.extract i s.size).size=s.size-i:=by rw[ByteArray.size_extract];omega
 have hd:Lib.decodeGo (s.extract i s.size)=Lib.decodeN (s.size-i) (nx s i) (nx s (i+1)) (nx s (i+2)) (nx s (i+3)):=by unfold Lib.decodeGo;rw[if_neg (by omega),Lib.decode_at,om,Ca,Ca,Ca,Ca];rfl
 have l0:=fb s i;have l1:=fb s (i+1);have l2:=fb s (i+2);have l3:=fb s (i+3);rw[hd];refine⟨?_,?_,?_,?_,?_,?_⟩
 · unfold Lib.decodeN;repeat' split
   all_goals (dsimp only;omega)
 · unfold Lib.decodeN;repeat' split
   all_goals (dsimp only;omega)
 · unfold Lib.decodeN;repeat' split
   all_goals (dsimp only;omega)
 · unfold Lib.decodeN;repeat' split
   all_goals (dsimp only;omega)
 · intro hp;rcases Jo s i hb hp with⟨a1,a2,a3,a4,a5,a6⟩|⟨a1,a2,a3,a4,a5,a6,a7,a8,a9,TB⟩|⟨a1,a2,a3,a4,a5,a6,a7,a8,a9,TB,ZT,a12⟩
   · rw[a6];unfold Lib.decodeN;repeat' split
     all_goals (dsimp only;omega)
   · rw[a8] at a9 TB ⊢;dsimp only at a9 TB;unfold Lib.decodeN;repeat' split
     all_goals (dsimp only;omega)
   · rw[TB] at ZT a12 ⊢;dsimp only at ZT a12;unfold Lib.decodeN;repeat' split
     all_goals (dsimp only;omega)
 · intro hc
   have hh:i+3≤s.size∧nx s i=239∧nx s (i+1)=187∧nx s (i+2)=191:=by
    unfold Lib.decodeN at hc
    repeat' (split at hc)
    all_goals (dsimp only at hc;omega)
   exact DW hh.1 hh.2.1 hh.2.2.1 hh.2.2.2
def qW(w:World):Prop:=Lib.Utf8Tabs 0 1 w
def iR:Prop:=∀(s:ByteArray) (b off cap:Nat) (w:World),qW w→(∀j,j<s.size→w.cell? ⟨b,off+j,none⟩=some (.int .u8 ((s.get! j).toNat:Nat))) →
 Calls Tryz.prog 124 #[.slice (some ⟨b,off,none⟩) s.size cap] w fun e w'=>e=.returned (.tuple #[.int .i32 ((Lib.decodeGo s).1:Nat),.int .i64 ((Lib.decodeGo s).2:Nat)])∧Below w.heap.size w w'
theorem qW.sm{X:List Nat}{w w':World}(h:qW w)(hs:Sm X w w')(hx:∀k,k∈X→2≤k):qW w':=
 ⟨fun c hc=>hs.keeps (h.1 c hc) (fun e=>by have:=hx _ e;simp at this),fun i hi=>⟨hs.keeps (h.2 i hi).1 (fun e=>by have:=hx _ e;simp at this),hs.keeps (h.2 i hi).2 (fun e=>by have:=hx _ e;simp at this)⟩⟩
def nV(s:ByteArray)(i:Nat)(w:World)(e:Ending)(w':World):Prop:=∃c n:Int,e=.returned (.tuple #[.int .i32 c,.int .i64 n])∧Rn s i c n∧Sm [] w w'
theorem Wd{s:ByteArray}{i:Nat}(h:s.size≤i):Rn s i (-1) 65533:=⟨fun _=>⟨rfl,rfl⟩,fun h'=>by omega,fun h'=>by rw[pK h] at h';omega⟩
theorem Qr{s:ByteArray}{i:Nat}(h:i<s.size)(ha:nx s i<128):Rn s i (nx s i) 1:=⟨fun h'=>by omega,fun _ _=>⟨rfl,rfl⟩,fun h'=>by omega⟩
theorem Wc{s:ByteArray}{i:Nat}(h:i<s.size)(hb:128≤nx s i):Rn s i ((Lib.decodeGo (s.extract i s.size)).1:Nat) ((Lib.decodeGo (s.extract i s.size)).2:Nat):=by obtain⟨a,b,c,d,e,f⟩:=FW s i h hb;refine⟨fun h'=>by omega,fun _ h'=>by omega,fun _=>⟨by omega,by omega,by omega,by omega,fun hp=>⟨(e hp).1,by rw[(e hp).2]⟩,fun hc=>f (by omega)⟩⟩
theorem lX(hD:iR)(s:ByteArray)(bb cap i:Nat)(w:World)(hb:ji w bb s)(Gc:s.size≤cap)(ht:qW w)(hs:s.size≤1099511627776)(hi:i≤1099511727776) :
 Calls Tryz.prog 96 #[.slice (some ⟨bb,0,none⟩) s.size cap,.int .i64 i] w (nV s i w):=by
 by_cases h:s.size≤i
 · have HR:=ae (Wd h);have z1:(s.size:Int)≤(i:Int):=by omega
   clear h hb ht;go_enter Tryz.func96,Tryz.ntmps96;go_wp2_with fail;go_returns;exact⟨_,_,rfl,HR.o,sr⟩
 · have b9:i<s.size:=by omega
   have z1:¬((s.size:Int)≤(i:Int)):=by omega
   have z2:(0:Int)≤(i:Int):=by omega
   have z3:(i:Int)<(s.size:Int):=by omega
   have c0:=hb i b9;by_cases ha:nx s i<128
   · have HR:=ae (Qr b9 ha);have z4:(nx s i:Int)<128:=by omega
     clear h hb ht ha;go_enter Tryz.func96,Tryz.ntmps96;go_wp2_with fail;go_returns;exact⟨_,_,rfl,HR.o,sr⟩
   · have HR:=ae (Wc b9 (by omega));have z4:¬((nx s i:Int)<128):=by omega
     have HD:Hd (Calls Tryz.prog 124 #[.slice (some ⟨bb,i,none⟩) (s.size-i) (cap-i)] w fun e w'=>e=.returned (.tuple #[.int .i32 ((Lib.decodeGo (s.extract i s.size)).1:Nat),.int .i64 ((Lib.decodeGo (s.extract i s.size)).2:Nat)])∧Below w.heap.size w w'):=by
      have:=hD (s.extract i s.size) bb i (cap-i) w ht (fun j hj=>by
       rw[ByteArray.size_extract] at hj;rw[Ca]
       exact hb (i+j) (by omega))
      rw[ByteArray.size_extract,Nat.min_self] at this;exact this
     have z5:(s.size:Int)≤(cap:Int):=by omega
     have z6:(i:Int)≤(s.size:Int):=by omega
     generalize Lib.decodeGo (s.extract i s.size)=d at *;clear h hb ht ha;go_enter Tryz.func96,Tryz.ntmps96;go_wp2_with fail;refine HD.o.mono ?_;rintro e w' ⟨rfl,mW⟩;go_wp2_with fail;go_returns;exact⟨_,_,rfl,HR.o,Sm.Jm mW⟩
theorem oK(c:Nat)(hc:c<256)(w:World):Calls Tryz.prog 172 #[.int .i32 (c:Int)] w fun e w'=>e=.returned (.int .i64 (eO c))∧w'=w:=by
 unfold eO;have hcs:c<48∨(48≤c∧c≤57)∨(58≤c∧c≤64)∨(65≤c∧c≤70)∨(71≤c∧c≤96)∨(97≤c∧c≤102)∨103≤c:=by omega
 rcases hcs with h|h|h|h|h|h|h
 · have y1:¬((c:Int)≥48):=by omega
   have y2:¬((c:Int)≥65):=by omega
   have y3:¬((c:Int)≥97):=by omega
   rw[if_neg (by omega),if_neg (by omega),if_neg (by omega)];clear h;go_enter Tryz.func172,Tryz.ntmps172;go_wp2_with fail;go_returns;exact⟨rfl,rfl⟩
 · have y1:(c:Int)≥48:=by omega
   have y2:(c:Int)≤57:=by omega
   rw[if_pos h];clear h;go_enter Tryz.func172,Tryz.ntmps172;go_wp2_with fail;go_returns;exact⟨rfl,rfl⟩
 · have y1:(c:Int)≥48:=by omega
   have y2:¬((c:Int)≤57):=by omega
   have y3:¬((c:Int)≥65):=by omega
   have y4:¬((c:Int)≥97):=by omega
   rw[if_neg (by omega),if_neg (by omega),if_neg (by omega)];clear h;go_enter Tryz.func172,Tryz.ntmps172;go_wp2_with fail;go_returns;exact⟨rfl,rfl⟩
 · have y1:(c:Int)≥48:=by omega
   have y2:¬((c:Int)≤57):=by omega
   have y3:(c:Int)≥65:=by omega
   have y4:(c:Int)≤70:=by omega
   rw[if_neg (by omega),if_neg (by omega),if_pos h];clear h;go_enter Tryz.func172,Tryz.ntmps172;go_wp2_with fail;go_returns;exact⟨rfl,rfl⟩
 · have y1:(c:Int)≥48:=by omega
   have y2:¬((c:Int)≤57):=by omega
   have y3:(c:Int)≥65:=by omega
   have y4:¬((c:Int)≤70):=by omega
   have y5:¬((c:Int)≥97):=by omega
   rw[if_neg (by omega),if_neg (by omega),if_neg (by omega)];clear h;go_enter Tryz.func172,Tryz.ntmps172;go_wp2_with fail;go_returns;exact⟨rfl,rfl⟩
 · have y1:(c:Int)≥48:=by omega
   have y2:¬((c:Int)≤57):=by omega
   have y3:(c:Int)≥65:=by omega
   have y4:¬((c:Int)≤70):=by omega
   have y5:(c:Int)≥97:=by omega
   have y6:(c:Int)≤102:=by omega
   rw[if_neg (by omega),if_pos h];clear h;go_enter Tryz.func172,Tryz.ntmps172;go_wp2_with fail;go_returns;exact⟨rfl,rfl⟩
 · have y1:(c:Int)≥48:=by omega
   have y2:¬((c:Int)≤57):=by omega
   have y3:(c:Int)≥65:=by omega
   have y4:¬((c:Int)≤70):=by omega
   have y5:(c:Int)≥97:=by omega
   have y6:¬((c:Int)≤102):=by omega
   rw[if_neg (by omega),if_neg (by omega),if_neg (by omega)];clear h;go_enter Tryz.func172,Tryz.ntmps172;go_wp2_with fail;go_returns;exact⟨rfl,rfl⟩
theorem wrap64(n:Nat)(h:n<18446744073709551616):IntKind.i64.wrap (n:Int)=if 9223372036854775808≤n then(n:Int)-18446744073709551616 else(n:Int):=by
 have e1:(n:Int) % 2 ^ 64=(n:Int):=by omega
 have e2:IntKind.i64.bits=64:=rfl;have e3:IntKind.i64.signed=true:=rfl;unfold IntKind.wrap;simp only[e2,e3,e1,Bool.true_and,decide_eq_true_eq];split<;>split<;>omega
theorem GQ(x y:Int)(hx:-1099511627776≤x)(o6:x≤1099511627776)(hy:-1099511627776≤y)(oM:y≤1099511627776) :
 (0≤x→0≤y→bits BinOp.or IntKind.i64 x y=((x.toNat ||| y.toNat:Nat):Int))∧(x<0∨y<0→-1099511627776≤bits BinOp.or IntKind.i64 x y∧bits BinOp.or IntKind.i64 x y<0):=by
 have e:bits BinOp.or IntKind.i64 x y=IntKind.i64.wrap ((((BitVec.ofInt 64 x) ||| (BitVec.ofInt 64 y)).toNat:Nat):Int):=rfl
 rw[e,wrap64 _ (by exact(((BitVec.ofInt 64 x) ||| (BitVec.ofInt 64 y))).isLt)]
 rw[BitVec.toNat_or,BitVec.toNat_ofInt,BitVec.toNat_ofInt];have p64:((2 ^ 64:Nat):Int)=18446744073709551616:=by decide
 rw[p64];constructor
 · intro h1 h2;have a1:(x % 18446744073709551616).toNat=x.toNat:=by omega
   have a2:(y % 18446744073709551616).toNat=y.toNat:=by omega
   rw[a1,a2];have b1:x.toNat<2 ^ 41:=by omega
   have b2:y.toNat<2 ^ 41:=by omega
   have:=Nat.or_lt_two_pow b1 b2;rw[if_neg (by omega)]
 · intro h;have l1:=Nat.left_le_or (n:=(x % 18446744073709551616).toNat) (m:=(y % 18446744073709551616).toNat);have l2:=Nat.right_le_or (n:=(x % 18446744073709551616).toNat) (m:=(y % 18446744073709551616).toNat);have b1:(x % 18446744073709551616).toNat<2 ^ 64:=by omega
   have b2:(y % 18446744073709551616).toNat<2 ^ 64:=by omega
   have b3:=Nat.or_lt_two_pow b1 b2;generalize (x % 18446744073709551616).toNat ||| (y % 18446744073709551616).toNat=n at *
   rw[if_pos (by omega)];omega
theorem GR(x y:Int)(a i:Nat)(hx:-(a:Int)≤x)(o6:x<2 ^ i)(hy:-(a:Int)≤y)(oM:y<2 ^ i)(ha:a≤1099511627776)(hi:2 ^ i≤1099511627776) :
 (-(a:Int)≤bits BinOp.or IntKind.i64 x y∧bits BinOp.or IntKind.i64 x y<2 ^ i)∧(x<0∨y<0→bits BinOp.or IntKind.i64 x y<0):=by
 have rC:((2 ^ i:Nat):Int)=2 ^ i:=by norm_cast
 have hp:0<2 ^ i:=Nat.two_pow_pos i;obtain⟨h1,h2⟩:=GQ x y (by omega) (by omega) (by omega) (by omega);by_cases hn:x<0∨y<0
 · have e:bits BinOp.or IntKind.i64 x y=IntKind.i64.wrap ((((BitVec.ofInt 64 x) ||| (BitVec.ofInt 64 y)).toNat:Nat):Int):=rfl
   obtain⟨_,h3⟩:=h2 hn;refine⟨⟨?_,by omega⟩,fun _=>h3⟩;rw[e,wrap64 _ (by exact(((BitVec.ofInt 64 x) ||| (BitVec.ofInt 64 y))).isLt)];rw[BitVec.toNat_or,BitVec.toNat_ofInt,BitVec.toNat_ofInt];have p64:((2 ^ 64:Nat):Int)=18446744073709551616:=by decide
   rw[p64];have l1:=Nat.left_le_or (n:=(x % 18446744073709551616).toNat) (m:=(y % 18446744073709551616).toNat);have l2:=Nat.right_le_or (n:=(x % 18446744073709551616).toNat) (m:=(y % 18446744073709551616).toNat);generalize (x % 18446744073709551616).toNat ||| (y % 18446744073709551616).toNat=n at *
   split<;>omega
 · have e:=h1 (by omega) (by omega);have b1:x.toNat<2 ^ i:=by omega
   have b2:y.toNat<2 ^ i:=by omega
   have:=Nat.or_lt_two_pow b1 b2;rw[e];exact⟨⟨by omega,by omega⟩,fun h=>absurd h hn⟩
def JW(x y z v:Int):Int:=wrap32 (bits BinOp.or IntKind.i64 (bits BinOp.or IntKind.i64 (bits BinOp.or IntKind.i64 (x*4096) (y*256)) (z*16)) v)
theorem Oj(x y z v:Int)(hx:0≤x∧x≤15)(hy:0≤y∧y≤15)(hz:0≤z∧z≤15)(hv:0≤v∧v≤15):JW x y z v=x*4096+y*256+z*16+v:=by
 have j:∀(i a b:Nat),b<2 ^ i→(2 ^ i*a ||| b)=2 ^ i*a+b:=fun i a b h=>(Nat.two_pow_add_eq_or_of_lt h a).symm
 have e1:bits BinOp.or IntKind.i64 (x*4096) (y*256)=x*4096+y*256:=by
  rw[(GQ _ _ (by omega) (by omega) (by omega) (by omega)).1 (by omega) (by omega)];have:(x*4096).toNat=2 ^ 12*x.toNat:=by omega
  rw[this,j 12 _ _ (by omega)];omega
 have e2:bits BinOp.or IntKind.i64 (x*4096+y*256) (z*16)=x*4096+y*256+z*16:=by
  rw[(GQ _ _ (by omega) (by omega) (by omega) (by omega)).1 (by omega) (by omega)];have:(x*4096+y*256).toNat=2 ^ 8*(x*16+y).toNat:=by omega
  rw[this,j 8 _ _ (by omega)];omega
 have e3:bits BinOp.or IntKind.i64 (x*4096+y*256+z*16) v=x*4096+y*256+z*16+v:=by
  rw[(GQ _ _ (by omega) (by omega) (by omega) (by omega)).1 (by omega) (by omega)];have:(x*4096+y*256+z*16).toNat=2 ^ 4*(x*256+y*16+z).toNat:=by omega
  rw[this,j 4 _ _ (by omega)];omega
 unfold JW;rw[e1,e2,e3];unfold wrap32;omega
theorem QQ(x y z v:Int)(hx:-1≤x∧x≤15)(hy:-1≤y∧y≤15)(hz:-1≤z∧z≤15)(hv:-1≤v∧v≤15)(h:x<0∨y<0∨z<0∨v<0):JW x y z v<0∧-2147483648≤JW x y z v:=by
 unfold JW;have b1:-4096≤bits BinOp.or IntKind.i64 (x*4096) (y*256)∧bits BinOp.or IntKind.i64 (x*4096) (y*256)<131072∧(x<0∨y<0→bits BinOp.or IntKind.i64 (x*4096) (y*256)<0):=by obtain⟨g1,g2⟩:=GR (x*4096) (y*256) 4096 17 (by omega) (by omega) (by omega) (by omega) (by omega) (by omega);exact⟨g1.1,g1.2,fun h=>g2 (by omega)⟩
 generalize bits BinOp.or IntKind.i64 (x*4096) (y*256)=p at *;have b2:-4096≤bits BinOp.or IntKind.i64 p (z*16)∧bits BinOp.or IntKind.i64 p (z*16)<262144∧(p<0∨z<0→bits BinOp.or IntKind.i64 p (z*16)<0):=by obtain⟨g1,g2⟩:=GR p (z*16) 4096 18 (by omega) (by omega) (by omega) (by omega) (by omega) (by omega);exact⟨g1.1,g1.2,fun h=>g2 (by omega)⟩
 generalize bits BinOp.or IntKind.i64 p (z*16)=q at *;have b3:-4096≤bits BinOp.or IntKind.i64 q v∧bits BinOp.or IntKind.i64 q v<524288∧(q<0∨v<0→bits BinOp.or IntKind.i64 q v<0):=by obtain⟨g1,g2⟩:=GR q v 4096 19 (by omega) (by omega) (by omega) (by omega) (by omega) (by omega);exact⟨g1.1,g1.2,fun h=>g2 (by omega)⟩
 generalize bits BinOp.or IntKind.i64 q v=r at *
 have:r<0:=b3.2.2 (by
  rcases h with h|h|h|h
  · exact .inl (b2.2.2 (.inl (b1.2.2 (.inl h))))
  · exact .inl (b2.2.2 (.inl (b1.2.2 (.inr h))))
  · exact .inl (b2.2.2 (.inr h))
  · exact .inr h)
 unfold wrap32;omega
theorem JX(a b c d:Nat)(ha:a<256)(hb:b<256)(hc:c<256)(hd:d<256)(w:World):Calls Tryz.prog 130 #[.int .i32 (a:Int),.int .i32 (b:Int),.int .i32 (c:Int),.int .i32 (d:Int)] w fun e w'=>e=.returned (.int .i32 (JW (eO a) (eO b) (eO c) (eO d)))∧w'=w:=by have HA:=ae (oK a ha w);have HB:=ae (oK b hb w);have HC:=ae (oK c hc w);have HD:=ae (oK d hd w);have la:=oL a;have lb:=oL b;have lc:=oL c;have ld:=oL d;generalize eO a=x at *;generalize eO b=y at *;generalize eO c=z at *;generalize eO d=v at *;go_enter Tryz.func130,Tryz.ntmps130;go_wp2_with fail;refine HA.o.mono ?_;rintro e w1 ⟨rfl,rfl⟩;go_wp2_with fail;refine HB.o.mono ?_;rintro e w1 ⟨rfl,rfl⟩;go_wp2_with fail;refine HC.o.mono ?_;rintro e w1 ⟨rfl,rfl⟩;go_wp2_with fail;refine HD.o.mono ?_;rintro e w1 ⟨rfl,rfl⟩;go_wp2_with fail;go_returns;exact⟨rfl,rfl⟩
end Go.Proofs.YtnpjmhodfdgloaaGreatDoor
