/- Part of the proof. -/
import Derived.RegionTactic
import Derived.Deep.CutBlock
import Derived.Test.YtnpjmhodfdgloaaGreatDoorQ42
set_option linter.unusedVariables false
set_option linter.unusedSimpArgs false
namespace Go.Proofs.YtnpjmhodfdgloaaGreatDoor
set_option maxRecDepth 100000
set_option maxHeartbeats 32000000
open Go.RowKit
attribute [local go_sem ↓] Go.wp_at_zero Go.wp_at_succ
theorem B1{P:Program}(w:World)(t ty e:TypeId)(i:TypeInfo)(ht:P.underlying t=some (.slice e))(hi:P.info? e=some i)(b o m c c':Nat)(A:Option Addr)(hm:m≤c) :
 (Builtin.append_ #[t,t] ty #[.slice (some ⟨b,o,none⟩) m c,.slice A 0 c']).run P w=.ok (.slice (some ⟨b,o,none⟩) m c) w:=by
 have h:¬c<m:=by omega
 cases A<;>simp[Builtin.append_,run_underlying ht,sizeOf,typeInfo,hi,Builtin.lenOf,Builtin.firstCells,h,hm,storeCells,loadCells,loadCellsFrom]
theorem s3{P:Program}{ops:Array Oper}{o:Oper}{a:Act}{w:World}{K:Act→World→Prop}{Q:Exit→Act→World→Prop}{E:Prop}(ux:o.guard=none)(s x:Operand)(t:TypeId)
 (ho:o.op=.call {callee:=.builtin .append,args:=#[s,x],argTypes:=#[t,t]}) (e:TypeId) (i:TypeInfo) (ht:P.underlying t=some (.slice e)) (hi:P.info? e=some i)
 (b off m c:Nat) (hs:a.eval s=.slice (some ⟨b,off,none⟩) m c) (A:Option Addr) (c':Nat) (hx:a.eval x=.slice A 0 c') (hm:m≤c)
 (h:K (a.put o.dst (.slice (some ⟨b,off,none⟩) m c)) w):if Region.wanted o (yielded ops a.tmps)=true then Oper.wp P o a w K Q else E:=by
 have hw:Region.wanted o (yielded ops a.tmps)=true:=by simp[Region.wanted,ux]
 rw[if_pos hw];have KS:=B1 (P:=P) w t o.type e i ht hi b off m c c' A hm;unfold Oper.wp execOp;simp only[ho,resolve,invoke,builtin,Sem.run_bind,Sem.run_pure,Result.andThen_ok,List.map_toArray,List.map_cons,List.map_nil,hs,hx,KS];exact h
def B8(l:List ByteArray)(w1:World)(o j:Value)(wr:World):Prop:=∃(k:Nat) (q:Int),1≤k∧j=.int .i64 k∧o=.int .i64 q∧-1≤q∧q≤1099511627776∧Hd (tP l=(l.drop k).foldl cg q)∧k≤l.length+1∧Sm [] w1 wr
def xe(n:Nat)(l l':List ByteArray)(k:Nat):Prop:=l'.length=l.length∧∀i,i<l.length→l'.getD i ByteArray.empty=if i<k then mA n (l.getD i ByteArray.empty) else l.getD i ByteArray.empty
def vd(n g:Nat)(l:List ByteArray)(w1:World)(j:Value)(wr:World):Prop:=
 ∃(k:Nat) (l':List ByteArray),k≤l.length∧j=.int .i64 k∧Sm [g] w1 wr∧dr wr g 0 l'∧xe n l l' k∧(∀i,wr.frozen? ⟨g,i,none⟩=false)
theorem xe.start(n:Nat)(l:List ByteArray):xe n l l 0:=⟨rfl,fun i hi=>by rw[if_neg (by omega)]⟩
theorem xe.step{n:Nat}{l l':List ByteArray}{k:Nat}(h:xe n l l' k)(hk:k<l.length):xe n l (l'.set k (mA n (l.getD k ByteArray.empty))) (k+1):=by
 refine⟨by rw[List.length_set];exact h.1,fun i hi=>?_⟩;by_cases e:i=k
 · subst e;rw[if_pos (by omega)];simp[List.getD_eq_getElem?_getD,h.1,hk]
 · have:(l'.set k (mA n (l.getD k ByteArray.empty))).getD i ByteArray.empty=l'.getD i ByteArray.empty:=by
    simp only[List.getD_eq_getElem?_getD,List.getElem?_set,if_neg (Ne.symm e)]
   rw[this,h.2 i hi];by_cases h2:i<k
   · rw[if_pos h2,if_pos (by omega)]
   · rw[if_neg h2,if_neg (by omega)]
theorem xe.keep{n:Nat}{l l':List ByteArray}{k:Nat}(h:xe n l l' k)(hk:k<l.length)(hn:(l.getD k ByteArray.empty).size<n):xe n l l' (k+1):=by
 refine⟨h.1,fun i hi=>?_⟩;by_cases e:i=k
 · subst e;rw[h.2 i hi,if_neg (by omega),if_pos (by omega)];unfold mA;rw[if_pos hn]
 · rw[h.2 i hi];by_cases h2:i<k
   · rw[if_pos h2,if_pos (by omega)]
   · rw[if_neg h2,if_neg (by omega)]
theorem xe.done{n:Nat}{l l':List ByteArray}(h:xe n l l' l.length):l'=l.map (mA n):=by
 apply List.ext_getElem (by rw[List.length_map];exact h.1);intro i h1 h2;have h3:i<l.length:=by rw[←h.1];exact h1
 have:=h.2 i h3;rw[if_pos h3] at this;simpa[List.getD_eq_getElem?_getD,h1,h3] using this
theorem EM(n:Nat)(x:ByteArray):(mA n x).size≤x.size:=by unfold mA;split<;>simp[ByteArray.size_extract]
theorem JT(n:Nat):∀l:List ByteArray,wE (l.map (mA n))≤wE l
 | []=>lr
 | x :: l=>by rw[List.map_cons,ja,ja];have h1:=EM n x;have h2:=JT n l;omega
theorem Fg:∀l:List ByteArray,wE (gJ l)≤wE l
 | []=>lr
 | x :: l=>by
  cases hb:blank x with
  | true=>
   rw[s4 hb,ja];have:=Fg l
   omega
  | false=>rw[Dn hb];exact lr
theorem Fh:∀(n:Nat) (l:List ByteArray),(fT n l).length≤l.length
 | 0,l=>lr
 | n+1,l=>by
  rw[fT];split
  · refine Nat.le_trans (Fh n _) ?_;rw[List.length_take];omega
  · exact lr
theorem Fi:∀(n:Nat) (l:List ByteArray),wE (fT n l)≤wE l
 | 0,l=>lr
 | n+1,l=>by
  rw[fT];split
  · exact Nat.le_trans (Fi n _) (zj _ _)
  · exact lr
theorem PZ(l:List ByteArray)(h:wE l≤1099511627777):(Lib.join (l.map (·.data.toList)) (⟨#[10]⟩:ByteArray).data.toList).length≤140737488355328:=by
 have key:∀l:List ByteArray,(Lib.joinTail [10] (l.map (·.data.toList))).length≤wE l:=by
  intro l
  induction l with
  | nil=>simp[Lib.joinTail]
  | cons x l ih=>rw[ja];simp only[Lib.joinTail,List.map_cons,List.flatten_cons,List.length_append] at ih ⊢;have:x.data.toList.length=x.size:=rfl;simp only[this,List.length_cons,List.length_nil] at *;omega
 cases l with
 | nil=>exact Nat.zero_le _
 | cons x l=>rw[List.map_cons,Lib.join_cons,List.length_append];have:=key l;rw[ja] at h;have h2:x.data.toList.length=x.size:=rfl;have h3:(⟨#[10]⟩:ByteArray).data.toList=[10]:=rfl;rw[h2,h3];omega
theorem BH:∀(l:List ByteArray) (q:Int),-1≤q→-1≤l.foldl cg q
 | [],q,h=>h
 | x :: l,q,h=>BH l _ (BJ h)
theorem Kq(s:ByteArray)(w:World)(hs:s.size≤1099511627776)(hp:mL s=true) :
 Calls Tryz.prog 127 #[.string s] w fun e w'=>e=.returned (.string (iF s))∧Sm [] w w':=by
 have tX:=vr s 0 0;have om:=mg s 0 0;have KO:=ns s 0 0;have Nz:wE (bA s 0 0)≤1099511627777:=by have:=vK s 0 0 lr (Nat.zero_le _);omega
 go_enter Tryz.func127,Tryz.ntmps127;go_wp2_with fail;refine(K5 s _ hs).mono ?_;rintro e w1 ⟨v,rfl,aJ,iI⟩;obtain⟨hn,g,cap,rfl,Nt,EV,R7,S4,V1⟩:=rf aJ tX;have lD:=xM aJ;have Mi:∀i,w1.frozen? ⟨g,i,none⟩=false:=fun i=>aJ.frozenAt i;have hP:Hd (iF s=qB ByteArray.empty 0 (fT (gJ ((bA s 0 0).map (mA (df (bA s 0 0))))).length (gJ ((bA s 0 0).map (mA (df (bA s 0 0))))))):=by unfold Hd iF;rw[N1 hp]
 generalize bA s 0 0=l at lD hP tX om KO R7 Nz;clear aJ hn V1 hp;have Z4:0<l.length:=by cases l with| nil=>exact absurd rfl tX|cons=>simp
 have hl:l.length≤1099511627777:=by omega
 have hL:Hd (∀x∈l,x.size≤1099511627776):=fun x hx=>Nat.le_trans (om x hx) hs;clear om tX KO;have hS:Hd (dr w1 g 0 l):=lD;have hF:Hd (∀i,w1.frozen? ⟨g,i,none⟩=false):=Mi;have HW:Hd (Sm [] w w1):=iI;clear lD Mi iI;go_upto_block 0 with fail
 go_cut [4] from 11 (fun x wx=>x=.int .i64 (tP l)∧Sm [] w1 wx)
 case first=>
  go_wp2_with fail
  go_loopw [4,5] (fun o j wr=>B8 l w1 o j wr) (fun _ j _=>l.length-(intOf j).toNat)
  case atStart=>exact⟨1,-1,by omega,rfl,rfl,by omega,by omega,rfl,by omega,sr⟩
  case round=>
   obtain⟨k,q,hk,rfl,rfl,hq0,IZ,hd,hkl,iI⟩:=hrel;have k1:(0:Int)≤(k:Int):=by omega
   by_cases b9:k<l.length
   · have k2:(k:Int)<(l.length:Int):=by omega
     have hc:=(hS.out.sm iI (by simp)) k b9;have hx:(l.getD k ByteArray.empty).size≤1099511627776:=hL.out _ (lB b9);generalize Cl:l.getD k ByteArray.empty=x at hc hx;have eL:Hd (tP l=(l.drop (k+1)).foldl cg (cg q x)):=by rw[←Cl];exact hd.out.trans (BZ b9 q)
     have hle:=(mF x 0 (by omega)).2;have I1:=ae iI;simp only[Nat.zero_add] at hc;clear Cl hd iI;go_wp2_with fail;refine(F2 _ _ hx).mono ?_;rintro e w2 ⟨rfl,cT⟩;have ax:=ae (I1.o.trans cT);clear cT hc;generalize Rc:bS x 0=lx at *;by_cases c1:lx<x.size∧(q<0∨(lx:Int)<q)
     · have AO:cg q x=(lx:Int):=by unfold cg;rw[Rc,if_pos c1]
       rw[AO] at eL;obtain⟨c1a,c1b⟩:=c1;have XB:(lx:Int)<(x.size:Int):=by omega
       have hz:Hd ((q==-1)=true∨((q==-1)=false∧(lx:Int)<q)):=by
        unfold Hd;by_cases e:q=-1
        · left;simp[e]
        · right;exact⟨bn e,by omega⟩
       clear c1b c1a AO Rc hle;by_cases h0:lx=0
       · have Ce:Hd (tP l=0):=by unfold Hd;rw[eL.out,h0];exact yh _
         subst h0;rcases hz.out with z|⟨z,z2⟩
         all_goals clear eL;go_wp2_with fail;go_meet;exact⟨by rw[Ce.out],ax.o⟩
       · have h0':((lx:Int)==0)=false:=bn (by omega);clear h0;rcases hz.out with z|⟨z,z2⟩
         all_goals
          go_wp2_with fail;go_roundw
          case rel=>(first| refine⟨_,_,_,?_,rfl,rfl,rfl⟩|skip);unfold B8;exact⟨k+1,_,by omega,by go_num,rfl,by omega,by omega,eL,by omega,ax.o⟩
          case measure=>simp[intOf];omega
     · have AO:cg q x=q:=by unfold cg;rw[Rc,if_neg c1]
       rw[AO] at eL;clear AO Rc;by_cases c2:(lx:Int)<(x.size:Int)
       · have z:(q==-1)=false:=bn (by omega);have z2:¬((lx:Int)<q):=by omega
         clear c1;go_wp2_with fail;go_roundw
         case rel=>(first| refine⟨_,_,_,?_,rfl,rfl,rfl⟩|skip);unfold B8;exact⟨k+1,_,by omega,by go_num,rfl,by omega,by omega,eL,by omega,ax.o⟩
         case measure=>simp[intOf];omega
       · clear c1;go_wp2_with fail;go_roundw
         case rel=>(first| refine⟨_,_,_,?_,rfl,rfl,rfl⟩|skip);unfold B8;exact⟨k+1,_,by omega,by go_num,rfl,by omega,by omega,eL,by omega,ax.o⟩
         case measure=>simp[intOf];omega
   · have k2:¬((k:Int)<(l.length:Int)):=by omega
     have eL:Hd (tP l=q):=by unfold Hd;rw[hd.out,List.drop_of_length_le (by omega)];rfl
     clear hd;go_wp2_with fail;go_meet;exact⟨by rw[eL.out],iI⟩
 case rest=>
 obtain⟨rfl,cT⟩:=hcut;have PH:df l≤1099511627776:=FR l hL.out;have HN:Hd (df l=(tP l).toNat):=rfl;have hge:-1≤tP l:=BH _ _ (by omega);generalize tP l=cf at *;have mr:=hS.out.sm cT (by simp);have HFZ:Hd (∀W,Sm [] w1 W→∀i,W.frozen? ⟨g,i,none⟩=false):=fun W h i=>(h.sn EV (by simp)).trans (hF.out i);have XS:=HFZ.o _ cT;have ax:=ae cT;have K6:=ae mr;have HF2:=ae XS;clear cT mr hS hF XS HFZ;go_upto_if 42 with fail
 go_cut [3] from 11 (fun v wx=>v=.slice (some ⟨g,0,none⟩) l.length cap∧Sm [] w wx∧dr wx g 0 (l.map (mA (df l))))
 case first=>
  by_cases XL:0<cf
  · obtain⟨n,rfl⟩:∃n:Nat,cf=n:=⟨cf.toNat,by omega⟩;have hn:df l=n:=by rw[HN.o];omega
    clear HN;have HWX:=ae (HW.o.trans ax.o);go_wp2_with fail;obtain⟨wo,hwo⟩:∃wo:World,Hd (Sm [] w wo)∧Hd (Sm [] w1 wo)∧dr wo g 0 l:=⟨_,HWX.o,ax.o,K6.o⟩
    go_loopw [45] (fun j wr=>vd n g l w1 j wr) (fun j _=>l.length-(intOf j).toNat)
    case atStart=>unfold vd;exact⟨0,l,by omega,rfl,ax.o.mono (by simp),K6.o,xe.start n l,HF2.o⟩
    case round=>
     unfold vd at hrel;obtain⟨k,l',ri,rfl,Ew,lD,hcut,Mi⟩:=hrel;have k1:(0:Int)≤(k:Int):=by omega
     have Z3:l'.length=l.length:=hcut.1;by_cases b9:k<l.length
     · have k2:(k:Int)<(l.length:Int):=by omega
       have hc:=lD k (by omega);have Y7:l'.getD k ByteArray.empty=l.getD k ByteArray.empty:=by have:=hcut.2 k b9;rw[if_neg (by omega)] at this;exact this
       rw[Y7] at hc;have hx:(l.getD k ByteArray.empty).size≤1099511627776:=hL.out _ (lB b9);have Mg:Hd (xe n l (l'.set k (mA n (l.getD k ByteArray.empty))) (k+1)):=hcut.step b9;have Mh:Hd ((l.getD k ByteArray.empty).size<n→xe n l l' (k+1)):=fun h=>hcut.keep b9 h;have Ci:Hd (dr wr g 0 l'):=lD;generalize l.getD k ByteArray.empty=x at hc hx Mg Mh;simp only[Nat.zero_add] at hc;have hf:=Mi k;have XJ:Hd (∀i,wr.frozen? ⟨g,i,none⟩=false):=Mi;clear lD hcut Mi Y7;by_cases hm:x.size<n
       · have Z5:(n:Int)>(x.size:Int):=by omega
         have S4:Hd (xe n l l' (k+1)):=Mh.out hm;clear Mg Mh hm;go_wp2_with fail;go_roundw
         case rel=>unfold vd;exact⟨k+1,_,by omega,by go_num,Ew,Ci.out,S4.out,XJ.out⟩
         case measure=>simp[intOf];omega
       · have Z5:¬((n:Int)>(x.size:Int)):=by omega
         have Nv:(n:Int)≤(x.size:Int):=by omega
         have hy:mA n x=x.extract n x.size:=by unfold mA;rw[if_neg hm]
         rw[hy] at Mg;clear hy Mh hm;have fin:vd n g l w1 (.int .i64 ((k:Int)+1)) (wr.setCell ⟨g,k,none⟩ (.string (x.extract n x.size))):=by unfold vd;exact⟨k+1,_,by omega,by go_num,Ew.setCell (.inr (by simp)) _,Ci.out.set (by omega) _,Mg.out,fun i=>by simpa using XJ.out i⟩
         go_wp2_with fail;go_roundw
         case rel=>exact fin
         case measure=>simp[intOf];omega
     · have k2:¬((k:Int)<(l.length:Int)):=by omega
       obtain rfl:k=l.length:=by omega
       have Vh:=hcut.done;subst Vh;go_wp2_with fail;go_meet;exact⟨rfl,Ew.forget HW.o (by simp;omega),by rw[hn];exact lD⟩
  · have hn:df l=0:=by rw[HN.o];omega
    have hm:l.map (mA 0)=l:=by rw[List.map_congr_left (g:=id) (fun x _=>EN x)];simp
    go_wp2_with fail;go_meet;exact⟨rfl,HW.o.trans ax.o,by rw[hn,hm];exact K6.o⟩
 case rest=>
 obtain⟨rfl,s9,uz⟩:=hcut;have hlen:(l.map (mA (df l))).length=l.length:=List.length_map ..;have PL:Hd (∀x∈l.map (mA (df l)),x.size≤1099511627776):=fun y hy=>by obtain⟨z,hz,rfl⟩:=List.mem_map.1 hy;exact Nat.le_trans (EM _ z) (hL.out z hz)
 have Y4:wE (l.map (mA (df l)))≤1099511627777:=Nat.le_trans (JT _ l) Nz;rw[←hlen];have XV:(l.map (mA (df l))).length≤1099511627777:=by omega
 have YY:(l.map (mA (df l))).length≤cap:=by omega
 clear hlen ax K6 HF2 HN hge PH hL Nz;generalize l.map (mA (df l))=l2 at *;have aO:=ae s9;have RC:=ae uz;clear s9 uz;go_upto_block 4 with fail
 go_cut [3] from 11 (fun v wx=>∃(b o c:Nat),v=.slice (some ⟨b,o,none⟩) (gJ l2).length c∧(gJ l2).length≤c∧c≤maxLen∧w.heap.size≤b∧Sm [] w wx∧dr wx b o (gJ l2))
 case first=>
  go_wp2_with fail
  go_loopw [3] (fun v wz=>DL w.heap.size (gJ l2) w v wz) (fun v _=>lenOf v)
  case atStart=>unfold DL;exact⟨g,0,cap,l2,rfl,YY,S4,XV,Nt,aO.o,RC.o,rfl,PL,Y4⟩
  case round=>
   unfold DL at hrel;obtain⟨b,o,c,l3,rfl,Oy,R8,KN,uf,(SZ:Hd _),uz,Sh,AQ,Ge⟩:=hrel;have cy:=ae uz;clear uz;by_cases Se:∃x r,l3=x :: r∧blank x=true
   · obtain⟨x,r,rfl,tV⟩:=Se;have hx:x.size≤1099511627776:=AQ.out x (List.mem_cons_self ..);have hc:=cy.o 0 (by simp);have KQ:Hd (gJ l2=gJ r):=Sh.out.trans (s4 tV);have Vs:wE r≤1099511627777:=by rw[ja] at Ge;omega
     clear Ge;have Nx:r.length+1≤c:=by simpa using Oy
     have hsr:Hd (∀y∈r,y.size≤1099511627776):=fun y hy=>AQ.out y (List.mem_cons_of_mem _ hy);have p1:((0:Int)<((x :: r).length:Int)):=by simp
     simp only[Nat.add_zero,List.getD_cons_zero] at hc;have Gd:r.length≤1099511627777:=by simp at KN;omega
     simp only[List.length_cons] at p1 KN;have HB:=ae (fun W=>xm x W hx);clear Sh AQ Oy;simp only[List.length_cons];have p2:(0:Nat)<r.length+1:=by omega
     have p3:((r.length:Int)+1)>0:=by omega
     go_wp2_with fail;refine(HB.o _).mono ?_;rintro e w2 ⟨rfl,cT⟩;rw[tV];have UF:=ae (SZ.out.trans cT);have dK:Hd (dr w2 b (o+1) r):=(cy.o.sm cT (by simp)).TF;clear cT hc tV;have q1:(1:Int)≤(c:Int):=by omega
     have q3:(1:Nat)≤r.length+1:=by omega
     by_cases R7:c=1
     · subst R7;obtain rfl:r=[]:=List.eq_nil_of_length_eq_zero (by omega);go_wp2_with fail;refine⟨?_,by simp[lenOf]⟩;unfold DL;exact⟨b,o,0,[],rfl,by simp,by omega,by simp,uf,UF.out,dr.nil _ _ _,KQ,fun y hy=>by simp at hy,by simp[wE]⟩
     · go_wp2_with fail;refine⟨?_,by simp[lenOf]⟩;unfold DL;exact⟨b,o+1,c-1,r,rfl,by omega,by omega,Gd,uf,UF.out,dK.o,KQ,hsr,Vs⟩
   · have Ce:Hd (gJ l2=l3):=by
      unfold Hd;rw[Sh.out]
      cases l3 with
      | nil=>rfl
      | cons x r=>exact Dn (by cases hb:blank x with| false=>rfl|true=>exact absurd ⟨x,r,rfl,hb⟩ Se)
     have Vd:Hd (∀h:0<l3.length,blank (l3.getD 0 ByteArray.empty)=false):=fun h=>by
      cases l3 with
      | nil=>simp at h
      | cons x r=>cases hb:blank x with| false=>exact hb|true=>exact absurd ⟨x,r,rfl,hb⟩ Se
     have HX:=SZ;clear Sh Se;rcases Nat.eq_zero_or_pos l3.length with h0|h0
     · have z:l3.length=0:=h0;clear h0;go_wp2_with fail;go_meet;exact⟨b,o,c,by rw[Ce.out,z],by rw[Ce.out];exact Oy,R8,uf,HX.o,by rw[Ce.out];exact cy.o⟩
     · have hc:=cy.o 0 h0;have hx:(l3.getD 0 ByteArray.empty).size≤1099511627776:=AQ.out _ (lB h0);have hb:=Vd.out h0;generalize l3.getD 0 ByteArray.empty=x at hc hx hb;have p1:(0:Int)<(l3.length:Int):=by omega
       simp only[Nat.add_zero] at hc;have HB:=ae (fun W=>xm x W hx);go_wp2_with fail;refine(HB.o _).mono ?_;rintro e w2 ⟨rfl,cT⟩;rw[hb];have tO:=ae (HX.o.trans cT);have dK:Hd (dr w2 b o l3):=cy.o.sm cT (by simp);clear cT hc hb;go_wp2_with fail;go_meet;exact⟨b,o,c,by rw[Ce.out],by rw[Ce.out];exact Oy,R8,uf,tO.o,by rw[Ce.out];exact dK.o⟩
 case rest=>
 obtain⟨b,o,c,rfl,Oy,R8,uf,s9,uz⟩:=hcut;have hP2:Hd (iF s=qB ByteArray.empty 0 (fT (gJ l2).length (gJ l2))):=hP;have AQ:Hd (∀x∈gJ l2,x.size≤1099511627776):=fun x hx=>PL.out x (List.dropWhile_sublist _|>.mem hx);have Ge:wE (gJ l2)≤1099511627777:=Nat.le_trans (Fg l2) Y4;have KN:(gJ l2).length≤1099511627777:=Nat.le_trans (List.Sublist.length_le (List.dropWhile_sublist _)) XV;clear hP PL Y4 XV YY aO RC;generalize gJ l2=l3 at *;have aO:=ae s9;have RC:=ae uz;clear s9 uz;go_upto_block 6 with fail
 go_cut [3] from 11 (fun v wx=>∃(b o c:Nat),v=.slice (some ⟨b,o,none⟩) (fT l3.length l3).length c∧(fT l3.length l3).length≤c∧c≤maxLen∧w.heap.size≤b∧Sm [] w wx∧dr wx b o (fT l3.length l3))
 case first=>
  go_wp2_with fail
  go_loopw [3] (fun v wr=>FI w.heap.size (fT l3.length l3) 0 w v wr) (fun v _=>lenOf v)
  case atStart=>unfold FI;exact⟨b,o,c,l3,l3.length,rfl,Oy,R8,KN,uf,aO.o,RC.o,rfl,by omega,AQ,Ge⟩
  case round=>
   unfold FI at hrel;obtain⟨b5,o5,c5,l5,d,rfl,Pf,YW,hl5,WT,Uk,Cj,Rg,hd5,Ny,PN⟩:=hrel;rcases Nat.eq_zero_or_pos l5.length with h5|h5
   · have uw:Hd (fT l3.length l3=l5):=by
      unfold Hd;rw[Rg.out]
      cases d with
      | zero=>rfl
      | succ d=>unfold fT;rw[if_neg (by omega)]
     have z5:l5.length=0:=h5;have SZ:=ae Uk;have dK:=ae Cj;clear h5 Rg Uk Cj;go_wp2_with fail;go_meet;exact⟨b5,o5,c5,by rw[uw.out,z5],by rw[uw.out];exact Pf,YW,WT,SZ.out,by rw[uw.out];exact dK.o⟩
   · obtain⟨m,hm⟩:∃m,l5.length=m+1:=⟨l5.length-1,by omega⟩;have hc:=Cj m (by omega);have WZ:(l5.getD m ByteArray.empty).size≤1099511627776:=Ny.out _ (lB (by omega));obtain⟨d,rfl⟩:∃e,d=e+1:=⟨d-1,by omega⟩;have KT:Hd (fT l3.length l3=if blank (l5.getD m ByteArray.empty)=true then fT d (l5.take m) else l5):=by unfold Hd;rw[Rg.out];rw[fT,hm];simp
     generalize l5.getD m ByteArray.empty=x5 at hc WZ KT;have p5:(0:Nat)<m+1:=by omega
     have p6:(m:Int)+1>0:=by omega
     have p7:(m:Int)<(m:Int)+1:=by omega
     have p8:m≤1099511627777:=by omega
     have HB:=ae (fun W=>xm x5 W WZ);have SZ:=ae Uk;have dK:=ae Cj;have HM:=ae hm;clear Rg Uk Cj
     cases tV:blank x5 with
     | true=>
      rw[tV] at KT;have Z9:Hd (fT l3.length l3=fT d (l5.take m)):=KT;have Z8:Hd (∀y∈l5.take m,y.size≤1099511627776):=fun y hy=>Ny.out y (List.mem_of_mem_take hy);have Rb:Hd ((l5.take m).length=m):=by unfold Hd;simp;omega
      have q5:(m:Int)≤(c5:Int):=by omega
      have q6:m≤c5:=by omega
      have q7:m+1≤c5:=by omega
      clear KT;rw[hm];clear hm;go_wp2_with fail;refine(HB.o _).mono ?_;rintro e w2 ⟨rfl,cT⟩;rw[tV];have UF:=ae (SZ.out.trans cT);have je:Hd (dr w2 b5 o5 (l5.take m)):=(dK.o.sm cT (by simp)).take m;clear cT hc tV;have hwp:IntKind.i64.wrap ((m:Int)+1)=(m:Int)+1:=by rw[IntKind.wrap_i64];omega
      have htn:((m:Int)+1).toNat=m+1:=by omega
      have q0:(0:Int)≤(m:Int)+1:=by omega
      have p9:(m:Int)≤(m:Int)+1:=by omega
      by_cases hcm:c5=m+1
      · subst hcm;go_wp2_with fail
        go_region_law (refine s3 rfl (.tmp 89) (.tmp 93) 28 rfl _ _ Tryz.underlying28 rfl b5 o5 m (m+1) (by simp[Act.eval,Act.put]) (some ⟨b5,o5,none⟩) 0 (by simp[Act.eval,Act.put]) q6 ?_)
        go_simp
        go_wp2_with fail;refine⟨?_,by simp[lenOf]⟩
        (first| refine⟨_,_,_,_,_,_,_,_,_,_,_,_,_,_,_,_,_,_,_,_,_,_,_,_,_,?_,rfl,rfl⟩|skip)
        unfold FI;exact⟨b5,o5,_,l5.take m,d,by rw[Rb.out],by rw[Rb.out];omega,by omega,by rw[Rb.out];omega,WT,UF.out.drewN _,je.o,Z9,by rw[Rb.out];have:=HM.o;omega,Z8,Nat.le_trans (zj _ _) PN⟩
      · go_wp2_with fail
        go_region_law (refine s3 rfl (.tmp 89) (.tmp 93) 28 rfl _ _ Tryz.underlying28 rfl b5 o5 m c5 (by simp[Act.eval,Act.put]) (some ⟨b5,o5+(m+1),none⟩) (c5-(m+1)) (by simp[Act.eval,Act.put]) q6 ?_)
        go_simp
        go_wp2_with fail;refine⟨?_,by simp[lenOf]⟩
        (first| refine⟨_,_,_,_,_,_,_,_,_,_,_,_,_,_,_,_,_,_,_,_,_,_,_,_,_,?_,rfl,rfl⟩|skip)
        unfold FI
        exact⟨b5,o5,_,l5.take m,d,by rw[Rb.out],by rw[Rb.out];omega,by omega,by rw[Rb.out];omega,WT,UF.out.drewN _,je.o,Z9,by rw[Rb.out];have:=HM.o;omega,Z8,Nat.le_trans (zj _ _) PN⟩
     | false=>rw[tV] at KT;have uw:Hd (fT l3.length l3=l5):=KT;clear KT;rw[hm];clear hm;go_wp2_with fail;refine(HB.o _).mono ?_;rintro e w2 ⟨rfl,cT⟩;rw[tV];have UF:=ae (SZ.out.trans cT);have je:Hd (dr w2 b5 o5 l5):=dK.o.sm cT (by simp);clear cT hc tV;go_wp2_with fail;go_meet;exact⟨b5,o5,c5,by rw[uw.out,HM.o],by rw[uw.out];exact Pf,YW,WT,UF.out,by rw[uw.out];exact je.o⟩
 case rest=>
 obtain⟨b,o,c,rfl,Oy,R8,uf,(ql:Hd _),(ZJ:Hd _)⟩:=hcut;have HV:Hd (iF s=⟨(Lib.join ((fT l3.length l3).map (·.data.toList)) [10]).toArray⟩):=by unfold Hd;rw[hP2.out,KX]
 have hz3:(fT l3.length l3).length≤1099511627777:=Nat.le_trans (Fh _ _) KN;have hzt:wE (fT l3.length l3)≤1099511627777:=Nat.le_trans (Fi _ _) Ge;generalize fT l3.length l3=l6 at *;clear hP2;rcases Nat.eq_zero_or_pos l6.length with h6|h6
 · obtain rfl:l6=[]:=List.eq_nil_of_length_eq_zero h6;have HV':Hd (iF s=⟨#[]⟩):=HV;clear HV h6;go_wp2_with fail;refine(Tryz.strings_Join_none _ _ _ _).mono ?_;rintro e w' ⟨rfl,rfl⟩;go_wp2_with fail;go_ret;exact⟨sX HV'.out.symm,ql.o⟩
 · have HJ:=ae (fun(sep:ByteArray) W (iI:Sm [] w W) (lD:dr W b o l6) (hlen:(Lib.join (l6.map (·.data.toList)) sep.data.toList).length≤140737488355328)=>Tryz.strings_Join b o c l6 sep W (fun j x hj=>by
    have Z0:=(List.getElem?_eq_some_iff.1 hj).1;have:=lD j Z0;rw[List.getD_eq_getElem?_getD,hj] at this
    exact this) (World.block_lt_of_cell? W _ (lD 0 h6)) (by omega) Oy hlen)
   clear h6;go_wp2_with fail;refine(HJ.o _ _ ql.o ZJ.o (PZ l6 hzt)).mono ?_;rintro e w' ⟨rfl,mW⟩;have HSF:=ae (ql.o.trans (Sm.Jm mW));clear mW;go_wp2_with fail;go_ret;exact⟨sX HV.o.symm,HSF.o⟩
theorem Dc(s t:ByteArray)(k:Nat)(hz:∀j,j<t.size→nx t j≠0)(h0:0<t.size):st s k t=true↔∀j,j<t.size→nx s (k+j)=nx t j:=by
 unfold st;rw[decide_eq_true_iff];constructor
 · rintro⟨h1,h2⟩ j hj;have h3:j<(s.extract k (k+t.size)).size:=by rw[ByteArray.size_extract];omega
   have h4:nx (s.extract k (k+t.size)) j=nx s (k+j):=by rw[←fi h3,←fi (show k+j<s.size by omega),ByteArray.getElem_extract]
   rw[←h4,h2]
 · intro h;have h1:k+t.size≤s.size:=by have:=mZ (s:=s) (k:=k+(t.size-1)) (by rw[h _ (by omega)];exact hz _ (by omega));omega
   refine⟨h1,?_⟩;apply ByteArray.ext_getElem (by rw[ByteArray.size_extract];omega);intro i hi hi2;rw[ByteArray.getElem_extract];apply UInt8.toNat_inj.1;rw[fi,fi];exact h i hi2
theorem uZ(s:ByteArray)(k:Nat):st s k q3=true↔nx s k=34∧nx s (k+1)=34∧nx s (k+2)=34:=by
 rw[Dc s q3 k (by decide) (by decide)];constructor
 · intro h;exact⟨h 0 (by decide),h 1 (by decide),h 2 (by decide)⟩
 · rintro⟨a,b,c⟩ j hj;have:j=0∨j=1∨j=2:=by have:q3.size=3:=rfl;omega
   rcases this with rfl|rfl|rfl
   · exact a
   · exact b
   · exact c
theorem T9(s:ByteArray)(k:Nat):st s k q4=true↔nx s k=92∧nx s (k+1)=34∧nx s (k+2)=34∧nx s (k+3)=34:=by
 rw[Dc s q4 k (by decide) (by decide)];constructor
 · intro h;exact⟨h 0 (by decide),h 1 (by decide),h 2 (by decide),h 3 (by decide)⟩
 · rintro⟨a,b,c,d⟩ j hj;have:j=0∨j=1∨j=2∨j=3:=by have:q4.size=4:=rfl;omega
   rcases this with rfl|rfl|rfl|rfl
   · exact a
   · exact b
   · exact c
   · exact d
section
variable{s:ByteArray}{p k:Nat}{o:ByteArray}
theorem UO(h:¬k<s.size):aZ s (gw p) k o=(gw p).fail:=by rw[aZ,dif_neg h]
theorem Pa(h:k<s.size)(h1:nx s k=34∧nx s (k+1)=34∧nx s (k+2)=34)(hu:(aZ s (gw p) k o).unsure=false):mL o=true∧aZ s (gw p) k o=(gw p).add 19 (k+3) (iF o):=by
 rw[aZ,dif_pos h,if_pos ((uZ s k).2 h1)] at hu ⊢;have e:(false||!mL o)=false:=hu;have e2:mL o=true:=by simpa using e
 refine⟨e2,?_⟩;rw[e2];rfl
theorem Ix(h:k<s.size)(h1:¬(nx s k=34∧nx s (k+1)=34∧nx s (k+2)=34))(hu:(aZ s (gw p) k o).unsure=false) :
 ¬(nx s k=92∧nx s (k+1)=34∧nx s (k+2)=34∧nx s (k+3)=34)∧(pt s k).2≠0∧(oy (pt s k).1=false→aZ s (gw p) k o=(gw p).fail)∧(oy (pt s k).1=true→aZ s (gw p) k o=aZ s (gw p) (k+(pt s k).2) (o++s.extract k (k+(pt s k).2))):=by
 rw[aZ,dif_pos h,if_neg (fun e=>h1 ((uZ s k).1 e))] at hu ⊢;have hq:¬st s k q4=true:=fun e=>by rw[if_pos e] at hu;have:=pD s _ {gw p with unsure:=true} (k+4) (o++q3) lr rfl;rw[this] at hu;cases hu
 rw[if_neg hq] at hu ⊢;by_cases h4:(pt s k).2=0
 · rw[dif_pos h4] at hu;cases hu
 rw[dif_neg h4] at hu ⊢;refine⟨fun e=>hq ((T9 s k).2 e),h4,fun h5=>by rw[if_pos h5],fun h5=>?_⟩;rw[if_neg (by rw[h5];decide)] at hu ⊢
 have e:((gw p).unsure||!Qz (pt s k).1)=false:=by
  cases hx:((gw p).unsure||!Qz (pt s k).1) with
  | false=>rfl
  | true=>rw[hx] at hu;have:=pD s _ {gw p with unsure:=true} (k+(pt s k).2) (o++s.extract k (k+(pt s k).2)) lr rfl;rw[this] at hu;cases hu
 rw[e];rfl
end
def ug(s:ByteArray)(p:Nat)(w:World)(u v x:Value)(wr:World):Prop:=
 ∃k rp:Nat,u=.int .i64 (k:Int)∧v=.int .i64 (rp:Int)∧x=.int .i64 ((p+3:Nat):Int)∧p+3≤k∧k≤s.size∧p<rp∧rp≤k∧Hd (xV s→rp=k)∧jV wr (w.heap.size+1) []∧Sm [] (w.alloc dm) wr ∧
  Hd (aZ s (gw p) (p+3) ByteArray.empty=aZ s (gw p) k (s.extract (p+3) k))
def xn(s:ByteArray)(p:Nat):Lx:=aZ s (gw p) (p+3) ByteArray.empty
theorem EJ{s:ByteArray}{p:Nat}(h:xn s p=(gw p).fail):kE s (xn s p)=.err (s.size+1):=by rw[h];rfl
theorem P9{s:ByteArray}{p k:Nat}{o:ByteArray}(h:xn s p=(gw p).add 19 (k+3) o):kE s (xn s p)=.tok ⟨19,o,p,k+3⟩:=by rw[h];rfl
theorem Ej(hD:iR)(s:ByteArray)(sb bb cap p:Nat)(w:World)(dA:kj w sb bb cap s)(ht:qW w)(hp:p+3≤s.size)(hu:(xn s p).unsure=false) :
 Calls Tryz.prog 99 #[.pointer (some ⟨sb,0,none⟩),.int .i64 p] w (ij s (kE s (xn s p)) w):=by
 have HR:Hd (∀i W,Sm [] w W→i≤s.size+5→Calls Tryz.prog 96 #[.slice (some ⟨bb,0,none⟩) s.size cap,.int .i64 (i:Nat)] W (nV s i W)):=
  fun i W h hi=>lX hD s bb cap i W (dA.bytes.sm h (by simp)) dA.le (ht.sm h (by simp)) dA.small (by have:=dA.small;omega)
 have HN:Hd (∀(i:Nat) d W,Sm [] w W→i≤s.size→Calls Tryz.prog 84 #[.pointer (some ⟨sb,0,none⟩),.int .i64 i,.string d] W (kL s i W)):=fun i d W h hi=>dD s sb bb cap i d W (dA.cI h) (by have:=dA.small;omega);have tE:bb<w.heap.size:=World.block_lt_of_cell? w _ (dA.bytes p (by omega))
 have YO:Hd (∀W cs k l,Sm [] w W→jV W (w.heap.size+1) l→cs≤k→k≤s.size→l.length≤s.size→Calls Tryz.prog 126 #[.pointer (some ⟨w.heap.size+1,0,none⟩),.slice (some ⟨bb,cs,none⟩) (k-cs) (cap-cs)] W fun e w'=>(∃m:Int,e=.returned (.tuple #[.int .i64 m,.nilIface]))∧jV w' (w.heap.size+1) (l++(s.extract cs k).data.toList)∧Below (w.heap.size+1) W w'):=
  fun W cs k l h h1 h2 h3 h4=>Fq s bb (w.heap.size+1) cs k (cap-cs) l W h1 (dA.bytes.sm h (by simp)) h2 h3 (by omega) dA.small (by have:=dA.small;omega)
 have HU:=ae hu;have HW:Hd (Sm [] w (w.alloc dm)):=(Sm.refl [] w).alloc _;have c0:∀o,(w.alloc o).cell? ⟨sb,0,none⟩=some (.slice (some ⟨bb,0,none⟩) s.size cap):=fun o=>((Sm.refl [] w).alloc o).keeps dA.c0 (by simp);have om:=dA.small;have Gc:=dA.le;clear dA ht hu;go_enter Tryz.func99,Tryz.ntmps99;go_wp2_with fail
 go_loopw [7,8,9] (fun u v x wr=>ug s p w u v x wr) (fun u _ _ _=>s.size-(intOf u).toNat)
 case atStart=>
  unfold ug;refine⟨p+3,p+3,by go_num,by go_num,by go_num,by omega,by omega,by omega,by omega,fun _=>rfl,?_,(Sm.refl [] _).alloc _,?_⟩
  · have:=Lib.fresh_isBuffer 186 5 (w.alloc dm);simpa[jV,Lib.byteCells,dm] using this
  · unfold Hd;rw[IP]
 case round=>
  unfold ug at hrel;obtain⟨k,rp,rfl,rfl,rfl,hcs,hk,Cg,PJ,has,Z04,(HS:Hd _),hd⟩:=hrel;have HB:=ae Z04;have I2:Hd ((aZ s (gw p) k (s.extract (p+3) k)).unsure=false):=by unfold Hd;rw[←hd.out];exact HU.o
  clear Z04;by_cases b9:k<s.size
  · have z0:¬((k:Int)≥(s.size:Int)):=by omega
    go_wp2_with fail;refine(HR.o (k) _ (HW.o.trans HS.o) (by omega)).mono ?_;rintro e w1 ⟨c,n,rfl,Nx,cJ⟩;have av:=ae (HS.o.trans cJ);have EC:=ae (HB.o.sm cJ);clear cJ;have hj:s.extract (p+3) k++s.extract k (k+1)=s.extract (p+3) (k+1):=BU s hcs (by omega);by_cases o3:nx s k=34
    · obtain⟨rfl,rfl⟩:=Nx.s6 b9 (by omega);rw[o3];have WL:=ae o3;have Xf:=ae hd;clear Nx o3 hd;go_wp2_with fail;refine(HR.o (k+1) _ (HW.o.trans av.o) (by omega)).mono ?_;rintro e w2 ⟨c2,n2,rfl,mq,cT⟩;have ax:=ae (av.o.trans cT);have Rw:=ae (EC.o.sm cT);clear cT;go_wp2_with fail;refine(HR.o (k+2) _ (HW.o.trans ax.o) (by omega)).mono ?_;rintro e w3 ⟨c3,n3,rfl,I4,s9⟩;have aO:=ae (ax.o.trans s9);have LX:=ae (Rw.o.sm s9);clear s9;have hd:=Xf.o;have o3:=WL.o;clear Xf WL;by_cases h3:nx s (k+1)=34∧nx s (k+2)=34
      · have y1:(c2==34)=true:=lK mq 34 (by omega) (by omega) h3.1;have y2:(c3==34)=true:=lK I4 34 (by omega) (by omega) h3.2;obtain⟨XZ,YX⟩:=Pa b9 ⟨o3,h3.1,h3.2⟩ I2.o
        obtain⟨lx,Rc,Bf,Z0E,hf⟩:∃lx:List UInt8,Hd (∀W B,jV W B ([]++(s.extract (p+3) k).data.toList)→jV W B lx)∧Hd (mL ⟨lx.toArray⟩=true)∧Hd ((⟨lx.toArray⟩:ByteArray).size≤1099511627776)∧Hd (kE s (xn s p)=.tok ⟨19,iF ⟨lx.toArray⟩,p,k+3⟩):=
         ⟨(s.extract (p+3) k).data.toList,fun _ _ h=>h,XZ,by show(s.extract (p+3) k).size≤_;rw[ByteArray.size_extract];omega,P9 (hd.out.trans YX)⟩
        have q1:(0:Int)≤(p:Int)+3:=by omega
        have q2:(p:Int)+3≤(k:Int):=by omega
        have q3:(k:Int)≤(cap:Int):=by omega
        have HBV:=ae (fun W=>Kq ⟨lx.toArray⟩ W Z0E.out Bf.out);clear mq I4 hd o3 h3 XZ YX hj;go_wp2_with fail;refine(YO.o _ (p+3) k [] (HW.o.trans aO.o) LX.o hcs (by omega) (by simp)).mono ?_;rintro e w4 ⟨⟨m,rfl⟩,TI,tV⟩;have cy:Hd (Sm [] (w.alloc dm) w4):=gI aO.o (by simpa using tV);have DC:=ae (Rc.out _ _ TI);clear TI tV Rc;go_wp2_with fail;refine(Tryz.Buffer_String _ _ _ _ DC.o).mono ?_;rintro e w5 ⟨rfl,q,rfl⟩;have dK:=ae (cy.o.drewN q);go_wp2_with fail;refine(HBV.o _).mono ?_;rintro e w6 ⟨rfl,hs6⟩;have je:=ae (dK.o.trans hs6);clear hs6;go_wp2_with fail;refine(bh _ _ _ _ _).mono ?_;rintro e w9 ⟨rfl,cT⟩;have kc:=ae (cS (je.o.trans cT));have ql:=ae ((HW.o.trans je.o).trans cT);obtain⟨t0,t1,t2,t3,g0,g1,g2,g3⟩:=kc.o;clear cT;go_wp2_with fail;refine bodyPost_ret (by simp[results,Tryz.results99,go_sem,t0,t1,t2,t3];try rfl) rfl ?_;rw[hf.out];exact⟨ei ql.o lr _ _ _ _,rfl⟩
      · obtain⟨TP,Ka,vY,rE⟩:=Ix b9 (fun e=>h3 e.2) I2.o;have ep:pt s k=((nx s k:Int),1):=GX (by omega);rw[ep] at rE;have iW:Hd (aZ s (gw p) (p+3) ByteArray.empty=aZ s (gw p) (k+1) (s.extract (p+3) (k+1))):=by unfold Hd;rw[hd.out,rE (by unfold oy;simp;omega),hj]
        have AL:Hd (xV s→rp+1=k+1):=fun ha=>by rw[has.out ha]
        have hy:Hd ((c2==34)=false∨((c2==34)=true∧(c3==34)=false)):=by
         unfold Hd;by_cases e:nx s (k+1)=34
         · exact .inr ⟨lK mq 34 (by omega) (by omega) e,iN I4 34 (by omega) (by omega) (fun e2=>h3 ⟨e,e2⟩)⟩
         · exact .inl (iN mq 34 (by omega) (by omega) e)
        clear mq I4 hd o3 h3 hj TP Ka vY rE ep;rcases hy.out with y1|⟨y1,y2⟩
        all_goals
         go_wp2_with fail;go_roundw
         case rel=>(first| refine⟨_,_,_,?_,rfl,rfl,rfl⟩|skip);unfold ug;exact⟨k+1,rp+1,by go_num,by go_num,rfl,by omega,by omega,by omega,by omega,AL,LX.o,aO.o,iW⟩
         case measure=>simp[intOf];omega
    obtain⟨TP,Ka,vY,rE⟩:=Ix b9 (fun e=>o3 e.1) I2.o;by_cases ha:nx s k<128
    · obtain⟨rfl,rfl⟩:=Nx.s6 b9 ha;have ep:pt s k=((nx s k:Int),1):=GX ha;rw[ep] at vY rE;have y3:((nx s k:Int)==34)=false:=by simp;omega
      by_cases Oz:nx s k<32∧nx s k≠9∧nx s k≠10∧nx s k≠13
      · have hf:Hd (kE s (xn s p)=.err (s.size+1)):=EJ (hd.out.trans (vY (by unfold oy;simp;omega)));have HM:Hd (xV s→¬mid s rp):=fun ha h=>by rw[has.out ha] at h;exact Oz.2.2.1 h.1
        have y4:(nx s k:Int)<32:=by omega
        have y5:((nx s k:Int) !=9)=true:=by simp;omega
        have y6:((nx s k:Int) !=10)=true:=by simp;omega
        have y7:((nx s k:Int) !=13)=true:=by simp;omega
        clear Nx hd o3 vY rE Ka ep Oz ha TP hj;go_wp2_with fail;refine(HN.o rp _ _ (HW.o.trans av.o) (by omega)).mono ?_;rintro e w9 ⟨v,rfl,(HF:Hd _),h2⟩;have HT:=ae (cS (av.o.trans h2));have H2:=ae h2;have uy:w.heap.size<w1.heap.size:=by have h5:=av.o.size;have e5:(w.alloc dm).heap.size=w.heap.size+1:=(by simp);omega
        obtain⟨t0,t1,t2,t3,g0,g1,g2,g3⟩:=HT.o;clear h2;go_wp2_with fail;refine bodyPost_ret (by simp[results,Tryz.results99,go_sem,t0,t1,t2,t3];try rfl) rfl ?_;rw[hf.out];exact fB (HW.o.trans av.o) HF.o H2.o (by omega) HM.o w.heap.size lr uy _ _ _ _
      · have iW:Hd (aZ s (gw p) (p+3) ByteArray.empty=aZ s (gw p) (k+1) (s.extract (p+3) (k+1))):=by
         unfold Hd;rw[hd.out,rE (by unfold oy;simp;omega),hj]
        have AL:Hd (xV s→rp+1=k+1):=fun ha=>by rw[has.out ha]
        have y4:Hd (¬((nx s k:Int)<32)∨nx s k=9∨nx s k=10∨nx s k=13):=by unfold Hd;omega
        by_cases E1:nx s k=92
        · rw[E1];have R2:=ae (fun e=>TP ⟨E1,e⟩);clear Nx hd o3 vY rE Ka ep Oz ha TP hj y3 y4 E1;go_wp2_with fail;refine(HR.o (k+1) _ (HW.o.trans av.o) (by omega)).mono ?_;rintro e w2 ⟨c2,n2,rfl,mq,cT⟩;have ax:=ae (av.o.trans cT);have Rw:=ae (EC.o.sm cT);clear cT;go_wp2_with fail;refine(HR.o (k+2) _ (HW.o.trans ax.o) (by omega)).mono ?_;rintro e w3 ⟨c3,n3,rfl,I4,s9⟩;have aO:=ae (ax.o.trans s9);have LX:=ae (Rw.o.sm s9);clear s9;go_wp2_with fail;refine(HR.o (k+3) _ (HW.o.trans aO.o) (by omega)).mono ?_;rintro e w4 ⟨c4,n4,rfl,hr4,vZ⟩;have cy:=ae (aO.o.trans vZ);have DC:=ae (LX.o.sm vZ);clear vZ
          have hy:Hd ((c2==34)=false∨((c2==34)=true∧(c3==34)=false)∨((c2==34)=true∧(c3==34)=true∧(c4==34)=false)):=by
           unfold Hd;by_cases e:nx s (k+1)=34
           · by_cases e2:nx s (k+2)=34
             · exact .inr (.inr ⟨lK mq 34 (by omega) (by omega) e,lK I4 34 (by omega) (by omega) e2,iN hr4 34 (by omega) (by omega) (fun e3=>R2.o ⟨e,e2,e3⟩)⟩)
             · exact .inr (.inl ⟨lK mq 34 (by omega) (by omega) e,iN I4 34 (by omega) (by omega) e2⟩)
           · exact .inl (iN mq 34 (by omega) (by omega) e)
          clear mq I4 hr4;rcases hy.out with y1|⟨y1,y2⟩|⟨y1,y2,y6⟩
          all_goals
           go_wp2_with fail;go_roundw
           case rel=>(first| refine⟨_,_,_,?_,rfl,rfl,rfl⟩|skip);unfold ug;exact⟨k+1,rp+1,by go_num,by go_num,rfl,by omega,by omega,by omega,by omega,AL,DC.o,cy.o,iW⟩
           case measure=>simp[intOf];omega
        · have y8:((nx s k:Int)==92)=false:=by simp;omega
          rcases y4.out with y5|h|h|h
          · clear Nx hd o3 vY rE Ka ep Oz ha TP hj E1;go_wp2_with fail;go_roundw
            case rel=>(first| refine⟨_,_,_,?_,rfl,rfl,rfl⟩|skip);unfold ug;exact⟨k+1,rp+1,by go_num,by go_num,rfl,by omega,by omega,by omega,by omega,AL,EC.o,av.o,iW⟩
            case measure=>simp[intOf];omega
          all_goals
           rw[h];clear Nx hd o3 vY rE Ka ep Oz ha TP hj E1 h y3 y8 y4;go_wp2_with fail;go_roundw
           case rel=>(first| refine⟨_,_,_,?_,rfl,rfl,rfl⟩|skip);unfold ug;exact⟨k+1,rp+1,by go_num,by go_num,rfl,by omega,by omega,by omega,by omega,AL,EC.o,av.o,iW⟩
           case measure=>simp[intOf];omega
    · obtain⟨b1,b2,b3,b4,b5,b6⟩:=Nx.UN (by omega);obtain⟨rfl,rfl⟩:=b5 Ka;have hle:=Qo s k Ka b9;have IW:s.extract (p+3) k++s.extract k (k+(pt s k).2)=s.extract (p+3) (k+(pt s k).2):=BU s hcs (by omega);have iW:Hd (aZ s (gw p) (p+3) ByteArray.empty=aZ s (gw p) (k+(pt s k).2) (s.extract (p+3) (k+(pt s k).2))):=by unfold Hd;rw[hd.out,rE (by unfold oy;simp;omega),IW]
      have EW:¬xV s:=fun h=>ha (h k b9);have AL:Hd (xV s→rp+1=k+(pt s k).2):=fun h=>absurd h EW;clear IW;generalize pt s k=pq at *;obtain⟨pc,pn⟩:=pq;dsimp only at *;have y3:(pc==34)=false:=by simp;omega
      have y4:¬(pc<32):=by omega
      have y5:(pc==92)=false:=by simp;omega
      clear Nx hd o3 vY rE ha b5 b6 EW TP hj;go_wp2_with fail;go_roundw
      case rel=>(first| refine⟨_,_,_,?_,rfl,rfl,rfl⟩|skip);unfold ug;exact⟨k+pn,rp+1,by go_num,by go_num,rfl,by omega,by omega,by omega,by omega,AL,EC.o,av.o,iW⟩
      case measure=>simp[intOf];omega
  · have Mk:k=s.size:=by omega
    have z0:(k:Int)≥(s.size:Int):=by omega
    have hf:Hd (kE s (xn s p)=.err (s.size+1)):=EJ (hd.out.trans (UO b9));have HM:Hd (xV s→¬mid s rp):=fun ha h=>by have q:=h.1;rw[has.out ha,Mk,pK lr] at q;cases q
    clear hd;go_wp2_with fail;refine(HN.o rp _ _ (HW.o.trans HS.o) (by omega)).mono ?_;rintro e w9 ⟨v,rfl,(HF:Hd _),h2⟩;have HT:=ae (cS (HS.o.trans h2));have H2:=ae h2;have uy:w.heap.size<wr.heap.size:=by have h5:=HS.o.size;have e5:(w.alloc dm).heap.size=w.heap.size+1:=(by simp);omega
    obtain⟨t0,t1,t2,t3,g0,g1,g2,g3⟩:=HT.o;clear h2;go_wp2_with fail;refine bodyPost_ret (by simp[results,Tryz.results99,go_sem,t0,t1,t2,t3];try rfl) rfl ?_;rw[hf.out];exact fB (HW.o.trans HS.o) HF.o H2.o (by omega) HM.o w.heap.size lr uy _ _ _ _
end Go.Proofs.YtnpjmhodfdgloaaGreatDoor
