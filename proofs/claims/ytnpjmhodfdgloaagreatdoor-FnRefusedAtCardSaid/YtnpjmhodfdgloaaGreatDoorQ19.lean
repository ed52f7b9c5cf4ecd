/- Part of the proof. -/
import Derived.Test.YtnpjmhodfdgloaaGreatDoorQ18
set_option linter.unusedVariables false
set_option linter.unusedSimpArgs false
namespace Go.Proofs.YtnpjmhodfdgloaaGreatDoor
set_option maxRecDepth 100000
set_option maxHeartbeats 32000000
open Go.RowKit
attribute [local go_sem ↓] Go.wp_at_zero Go.wp_at_succ
theorem CU(hD:iR)(s:ByteArray)(sb bb cap p:Nat)(w:World)(dA:kj w sb bb cap s)(ht:qW w)(hp:p<s.size)(hn:nx s p=45∨eC (nx s p)=true) :
 Calls Tryz.prog 98 #[.pointer (some ⟨sb,0,none⟩),.int .i64 p,.int .i32 (nx s p:Int),.int .i64 1] w (ij s (wk s p) w):=by
 have HR:Hd (∀i W,Sm [] w W→i≤s.size→Calls Tryz.prog 96 #[.slice (some ⟨bb,0,none⟩) s.size cap,.int .i64 (i:Nat)] W (nV s i W)):=
  fun i W h hi=>lX hD s bb cap i W (dA.bytes.sm h (by simp)) dA.le (ht.sm h (by simp)) dA.small (by have:=dA.small;omega)
 have Tt:Hd (∀i c n W,Sm [] w W→i≤s.size→Rn s i c n→Calls Tryz.prog 125 #[.pointer (some ⟨sb,0,none⟩),.int .i64 (i:Nat),.int .i32 c,.int .i64 n] W (LS s i W)):=
  fun i c n W h hi hr=>CT hD s sb bb cap i c n W (dA.cI h) (ht.sm h (by simp)) hi hr
 have HN:Hd (∀(i:Nat) d W,Sm [] w W→i≤s.size→Calls Tryz.prog 84 #[.pointer (some ⟨sb,0,none⟩),.int .i64 i,.string d] W (kL s i W)):=fun i d W h hi=>dD s sb bb cap i d W (dA.cI h) (by have:=dA.small;omega);have vW:=ae dA;have HW:Hd (Sm [] w (w.alloc dm)):=(Sm.refl [] w).alloc _;have c0:∀o,(w.alloc o).cell? ⟨sb,0,none⟩=some (.slice (some ⟨bb,0,none⟩) s.size cap):=fun o=>((Sm.refl [] w).alloc o).keeps dA.c0 (by simp);have om:=dA.small;have Gc:=dA.le;have bH:Hd (Rn s p (nx s p) 1):=Qr hp (by rcases hn with h|h;omega;unfold eC at h;have:=of_decide_eq_true h;omega);obtain⟨a,ha⟩:∃a,(if nx s p=45 then p+1 else p)=a:=⟨_,rfl⟩;have hr:Hd (eX s p=r7 s a):=by unfold Hd eX;rw[ha]
 have ZY:p≤a∧a≤p+1∧a≤s.size:=by rw[←ha];split<;>omega
 have Z00:Hd (a=p∧eC (nx s p)=true∨a=p+1∧nx s p=45):=by
  unfold Hd;rw[←ha];by_cases h:nx s p=45
  · rw[if_pos h];exact .inr ⟨rfl,h⟩
  · rw[if_neg h];exact .inl ⟨rfl,hn.resolve_left h⟩
 clear dA ht hn;go_enter Tryz.func98,Tryz.ntmps98;go_upto_if 29 with fail
 go_cut [12,10,3] from 22 (fun u c n wx=>ru s a w u c n wx)
 case first=>
  by_cases h:nx s p=45
  · rw[if_pos h] at ha;subst ha;have z1:=lK bH.o 45 (by omega) (by omega) h;clear h;go_wp2_with fail;refine(HR.o (p+1) _ HW.o (by omega)).mono ?_;rintro e w1 ⟨c,n,rfl,(OV:Hd _),(av:Hd _)⟩;go_wp2_with fail;go_meet;unfold ru;exact⟨by go_num,_,_,rfl,rfl,OV.o,av.o⟩
  · rw[if_neg h] at ha;subst ha;have z1:=iN bH.o 45 (by omega) (by omega) h;clear h;go_wp2_with fail;go_meet;unfold ru;exact⟨rfl,_,_,rfl,rfl,bH.o,sr⟩
 case rest=>
  unfold ru at hcut;obtain⟨rfl,c,n,rfl,rfl,Ow,(Ac:Hd _)⟩:=hcut;clear ha bH;by_cases gK:eN s a=a∨(nx s a=48∧a+1<eN s a)
  · have hf:Hd (wk s p=.err (s.size+1)):=by
     have e:(eX s p).1=0:=by rw[hr.out];unfold r7;rw[if_pos gK]
     unfold Hd wk;rw[if_pos e]
    by_cases hz:nx s a=48
    · have z1:=lK Ow.o 48 (by omega) (by omega) hz;obtain⟨rfl,UY⟩:=(uP Ow.o 48 (by omega) (by omega)).2 hz
      have nK:eC (nx s (a+1))=true:=by
       cases hx:eC (nx s (a+1)) with
       | true=>rfl
       | false=>
        have e1:eN s a=a+1:=by rw[nX (by rw[hz];decide),vh hx]
        omega
      have HM:Hd (¬mid s (a+1)):=fun h=>by rw[h.1] at nK;cases nK
      clear hz gK hr;go_wp2_with fail;refine(HR.o (a+1) _ (HW.o.trans Ac.o) (by omega)).mono ?_;rintro e w2 ⟨c2,n2,rfl,(sc:Hd _),cJ⟩;have ax:=ae (Ac.o.trans cJ);clear cJ;obtain⟨_,rfl,rfl,y1,y2⟩:=(rR sc.o).1 nK;clear nK;go_wp2_with fail;refine(HN.o (a+1) _ _ (HW.o.trans ax.o) (by omega)).mono ?_;rintro e w9 ⟨v,rfl,(HF:Hd _),h2⟩;have HT:=ae (cS (ax.o.trans h2));have H2:=ae h2;have b9:w.heap.size<w2.heap.size:=by have:=ax.o.size;simp at this;omega
      obtain⟨t0,t1,t2,t3,g0,g1,g2,g3⟩:=HT.o;clear h2;go_wp2_with fail;refine bodyPost_ret (by simp[results,Tryz.results98,go_sem,t0,t1,t2,t3];try rfl) rfl ?_;rw[hf.out];exact og (HW.o.trans ax.o) HF.o H2.o (by omega) HM.o w.heap.size lr b9 _ _ _ _
    · have hda:eN s a=a:=by rcases gK with h|h;exact h;exact absurd h.1 hz
      have Kh:Hd (eC (nx s a)=false):=by
       unfold Hd
       cases hx:eC (nx s a) with
       | false=>rfl
       | true=>have:=nX hx;have:=im s (a+1);omega
      have z1:=iN Ow.o 48 (by omega) (by omega) hz
      have HM:Hd (¬mid s a):=fun h=>by
       rcases Z00.out with g|g
       · have q:=g.2;rw[←g.1,Kh.o] at q;cases q
       · have:=h.2.2;rw[g.1,Nat.add_sub_cancel,g.2] at this;cases this
      clear hz gK hr hda;go_wp2_with fail;refine(Tt.o a _ _ _ (HW.o.trans Ac.o) (by omega) Ow.o).mono ?_;rintro e w2 ⟨cJ,s7⟩;obtain⟨_,v,rfl,(HF:Hd _)⟩:=s7.resolve_left (fun h=>by rw[Kh.o] at h;cases h.1);have h2:=cJ;clear cJ s7;have HT:=ae (cS (Ac.o.trans h2));have H2:=ae h2;have b9:w.heap.size<wc.heap.size:=by have:=Ac.o.size;simp at this;omega
      obtain⟨t0,t1,t2,t3,g0,g1,g2,g3⟩:=HT.o;clear h2;go_wp2_with fail;refine bodyPost_ret (by simp[results,Tryz.results98,go_sem,t0,t1,t2,t3];try rfl) rfl ?_;rw[hf.out];exact og (HW.o.trans Ac.o) HF.o H2.o (by omega) HM.o w.heap.size lr b9 _ _ _ _
  · obtain⟨t,et⟩:∃t,eN s a=t:=⟨_,rfl⟩;have lt:=im s a;have mt:=kl s a;have hB:Hd (eX s p=numDot s t):=by unfold Hd;rw[hr.out];unfold r7;rw[if_neg gK,et]
    have htl:t≤s.size∧p<t∧0<t:=by omega
    have Z21:Hd (nx s (t-1)≠13):=by unfold Hd;have:=N2 s a t et (by omega);intro e;rw[e] at this;cases this
    go_upto_if 40 with fail
    go_cut [12,10,3] from 22 (fun u c n wx=>ru s t w u c n wx)
    case first=>
     by_cases hz:nx s a=48
     · have z1:=lK Ow.o 48 (by omega) (by omega) hz;obtain⟨rfl,UY⟩:=(uP Ow.o 48 (by omega) (by omega)).2 hz;have e1:eN s a=eN s (a+1):=nX (by rw[hz];decide);have l1:=im s (a+1);obtain rfl:t=a+1:=by omega
       have nK:eC (nx s (a+1))=false:=by
        cases hx:eC (nx s (a+1)) with
        | false=>rfl
        | true=>have:=nX hx;have:=im s (a+1+1);omega
       clear hz gK hr hB et lt mt e1 l1;go_wp2_with fail;refine(HR.o (a+1) _ (HW.o.trans Ac.o) (by omega)).mono ?_;rintro e w2 ⟨c2,n2,rfl,(sc:Hd _),cJ⟩;have ax:=ae (Ac.o.trans cJ);clear cJ;have hnd:=(rR sc.o).2 nK;by_cases h48:48≤c2
       · have y1:¬(c2≤57):=by omega
         clear hnd nK;go_wp2_with fail;go_meet;unfold ru;exact⟨by go_num,_,_,rfl,rfl,sc.o,ax.o⟩
       · have y1:¬(c2≥48):=by omega
         clear hnd nK;go_wp2_with fail;go_meet;unfold ru;exact⟨by go_num,_,_,rfl,rfl,sc.o,ax.o⟩
     · have z1:=iN Ow.o 48 (by omega) (by omega) hz
       have Kh:Hd (eC (nx s a)=true):=by
        unfold Hd
        cases hx:eC (nx s a) with
        | true=>rfl
        | false=>have:=vh hx;omega
       clear hz gK hr hB lt mt;go_wp2_with fail;refine(Tt.o a _ _ _ (HW.o.trans Ac.o) (by omega) Ow.o).mono ?_;rintro e w2 ⟨cJ,s7⟩;obtain⟨_,rfl⟩:=s7.resolve_right (fun h=>by rw[Kh.o] at h;cases h.1);have ax:=ae (Ac.o.trans cJ);clear cJ;rw[et];go_wp2_with fail;refine(HR.o t _ (HW.o.trans ax.o) (by omega)).mono ?_;rintro e w3 ⟨c3,n3,rfl,(OW:Hd _),cJ⟩;have aO:=ae (ax.o.trans cJ);clear cJ;go_wp2_with fail;go_meet;unfold ru;exact⟨rfl,_,_,rfl,rfl,OW.o,aO.o⟩
    case rest=>
     unfold ru at hcut;obtain⟨rfl,c,n,rfl,rfl,OX,(K6:Hd _)⟩:=hcut;clear gK hr et lt mt Ac Ow ZY;by_cases Ra:nx s t=46∧eN s (t+1)=t+1
     · have hf:Hd (wk s p=.err (s.size+1)):=by
        have e:(eX s p).1=0:=by rw[hB.out];unfold numDot;rw[if_pos Ra]
        unfold Hd wk;rw[if_pos e]
       have z1:=lK OX.o 46 (by omega) (by omega) Ra.1;obtain⟨rfl,Z0G⟩:=(uP OX.o 46 (by omega) (by omega)).2 Ra.1
       have Kh:Hd (eC (nx s (t+1))=false):=by
        unfold Hd
        cases hx:eC (nx s (t+1)) with
        | false=>rfl
        | true=>have:=nX hx;have:=im s (t+1+1);omega
       have HM:Hd (¬mid s (t+1)):=fun h=>by have:=h.2.2;rw[Nat.add_sub_cancel,Ra.1] at this;cases this
       clear Ra hB;go_wp2_with fail;refine(HR.o (t+1) _ (HW.o.trans K6.o) (by omega)).mono ?_;rintro e w2 ⟨c2,n2,rfl,(sc:Hd _),cJ⟩;have ax:=ae (K6.o.trans cJ);clear cJ;go_wp2_with fail;refine(Tt.o (t+1) _ _ _ (HW.o.trans ax.o) (by omega) sc.o).mono ?_;rintro e w3 ⟨cJ,s7⟩;obtain⟨_,v,rfl,(HF:Hd _)⟩:=s7.resolve_left (fun h=>by rw[Kh.o] at h;cases h.1);have h2:=cJ;clear cJ s7;have HT:=ae (cS (ax.o.trans h2));have H2:=ae h2;have b9:w.heap.size<w2.heap.size:=by have:=ax.o.size;simp at this;omega
       obtain⟨t0,t1,t2,t3,g0,g1,g2,g3⟩:=HT.o;clear h2;go_wp2_with fail;refine bodyPost_ret (by simp[results,Tryz.results98,go_sem,t0,t1,t2,t3];try rfl) rfl ?_;rw[hf.out];exact og (HW.o.trans ax.o) HF.o H2.o (by omega) HM.o w.heap.size lr b9 _ _ _ _
     · obtain⟨k,ek⟩:∃k,(if nx s t=46 then 17 else 16)=k:=⟨_,rfl⟩;obtain⟨m,em⟩:∃m,(if nx s t=46 then eN s (t+1) else t)=m:=⟨_,rfl⟩;have hC:Hd (eX s p=lW s k m):=by unfold Hd;rw[hB.out];unfold numDot;rw[if_neg Ra,ek,em]
       have WW:m≤s.size∧t≤m:=by
        have l1:=im s (t+1);have l2:=kl s (t+1);rw[←em];by_cases h:nx s t=46
        · rw[if_pos h];have:=((uP OX.o 46 (by omega) (by omega)).2 h).2;omega
        · rw[if_neg h];omega
       clear hB;go_upto_if 82 with fail
       go_cut [12,10,3,13] from 22 (fun u c n f wx=>ru s m w u c n wx∧f=.bool (decide (k=17)))
       case first=>
        by_cases h:nx s t=46
        · rw[if_pos h] at ek em;subst ek;have z1:=lK OX.o 46 (by omega) (by omega) h;obtain⟨rfl,Z0G⟩:=(uP OX.o 46 (by omega) (by omega)).2 h
          have Kh:Hd (eC (nx s (t+1))=true):=by
           unfold Hd
           cases hx:eC (nx s (t+1)) with
           | true=>rfl
           | false=>exact absurd ⟨h,vh hx⟩ Ra
          clear h Ra hC;go_wp2_with fail;refine(HR.o (t+1) _ (HW.o.trans K6.o) (by omega)).mono ?_;rintro e w2 ⟨c2,n2,rfl,(sc:Hd _),cJ⟩;have ax:=ae (K6.o.trans cJ);clear cJ;go_wp2_with fail;refine(Tt.o (t+1) _ _ _ (HW.o.trans ax.o) (by omega) sc.o).mono ?_;rintro e w3 ⟨cJ,s7⟩;obtain⟨_,rfl⟩:=s7.resolve_right (fun h=>by rw[Kh.o] at h;cases h.1);have aO:=ae (ax.o.trans cJ);clear cJ;rw[em];go_wp2_with fail;refine(HR.o m _ (HW.o.trans aO.o) (by omega)).mono ?_;rintro e w4 ⟨c4,n4,rfl,(ZI:Hd _),cJ⟩;have cy:=ae (aO.o.trans cJ);clear cJ;go_wp2_with fail;go_meet;unfold ru;exact⟨⟨rfl,_,_,rfl,rfl,ZI.o,cy.o⟩,rfl⟩
        · rw[if_neg h] at ek em;subst ek em;have z1:=iN OX.o 46 (by omega) (by omega) h;clear h Ra hC;go_wp2_with fail;go_meet;unfold ru;exact⟨⟨rfl,_,_,rfl,rfl,OX.o,K6.o⟩,rfl⟩
       case rest=>
        unfold ru at hcut;obtain⟨⟨rfl,c,n,rfl,rfl,RA,(I1:Hd _)⟩,rfl⟩:=hcut;have hk:Hd (k=16∨k=17):=by unfold Hd;rw[←ek];split<;>simp
        clear Ra em ek K6 OX;by_cases he:nx s m=101∨nx s m=69
        · obtain⟨b,eb⟩:∃b,(if nx s (m+1)=43∨nx s (m+1)=45 then m+1+1 else m+1)=b:=⟨_,rfl⟩;have Z5:m<s.size:=sO (by omega)
          have gP:m<b∧b≤s.size:=by
           rw[←eb];by_cases h:nx s (m+1)=43∨nx s (m+1)=45
           · rw[if_pos h];have:m+1<s.size:=sO (by omega);omega
           · rw[if_neg h];omega
          have Vp:Hd (nx s (b-1)≠13):=by
           unfold Hd;rw[←eb];by_cases h:nx s (m+1)=43∨nx s (m+1)=45
           · rw[if_pos h,Nat.add_sub_cancel];omega
           · rw[if_neg h,Nat.add_sub_cancel];omega
          have hE:Hd (eX s p=if eN s b=b then(0,0) else(17,eN s b)):=by unfold Hd;rw[hC.out];unfold lW;rw[if_pos he,eb]
          obtain⟨rfl,_⟩:n=1∧m<s.size:=by
           rcases he with h|h
           · exact(uP RA.o 101 (by omega) (by omega)).2 h
           · exact(uP RA.o 69 (by omega) (by omega)).2 h
          clear hC;go_upto_region 28 with fail
          go_cut [116] from 22 (fun x wx=>x=.bool true∧wx=wc)
          case first=>
           have hz:(c==69)=true∨((c==69)=false∧(c==101)=true):=by
            by_cases h:nx s m=69
            · exact .inl (lK RA.o 69 (by omega) (by omega) h)
            · exact .inr ⟨iN RA.o 69 (by omega) (by omega) h,lK RA.o 101 (by omega) (by omega) (he.resolve_right h)⟩
           clear he;rcases hz with z1|⟨z1,z2⟩
           all_goals go_wp2_with fail;go_meet;exact⟨rfl,rfl⟩
          case rest=>
          obtain⟨rfl,yx⟩:=hcut;subst yx;go_upto_if 116 with fail
          go_cut [12,13] from 22 (fun u f wx=>LV s b w u f wx)
          case first=>
           clear he
           focus
            go_wp2_with fail;refine(HR.o (m+1) _ (HW.o.trans I1.o) (by omega)).mono ?_;rintro e w2 ⟨c2,n2,rfl,(sc:Hd _),cJ⟩;have ax:=ae (I1.o.trans cJ);clear cJ
            have Re:((c2==43)=true∧b=m+1+1∧n2=1)∨((c2==43)=false∧(c2==45)=true∧b=m+1+1∧n2=1)∨((c2==43)=false∧(c2==45)=false∧b=m+1):=by
             by_cases h1:nx s (m+1)=43
             · rw[if_pos (.inl h1)] at eb;exact .inl ⟨lK sc.o 43 (by omega) (by omega) h1,eb.symm,((uP sc.o 43 (by omega) (by omega)).2 h1).1⟩
             · by_cases h2:nx s (m+1)=45
               · rw[if_pos (.inr h2)] at eb;exact .inr (.inl ⟨iN sc.o 43 (by omega) (by omega) h1,lK sc.o 45 (by omega) (by omega) h2,eb.symm,((uP sc.o 45 (by omega) (by omega)).2 h2).1⟩)
               · rw[if_neg (fun h=>h.elim h1 h2)] at eb;exact .inr (.inr ⟨iN sc.o 43 (by omega) (by omega) h1,iN sc.o 45 (by omega) (by omega) h2,eb.symm⟩)
            clear eb;have HM:Hd (¬mid s b):=fun h=>Vp.out h.2.2;by_cases XQ:eC (nx s b)=true
            · have Kh:Hd (eC (nx s b)=true):=XQ;have YZ:b<eN s b:=by have:=nX XQ;have:=im s (b+1);omega
              obtain⟨v,ev⟩:∃v,eN s b=v:=⟨_,rfl⟩;clear XQ hE;rw[ev] at YZ;rcases Re with⟨y1,rfl,rfl⟩|⟨y1,y2,rfl,rfl⟩|⟨y1,y2,rfl⟩
              iterate 2
               · go_wp2_with fail;refine(HR.o (m+1+1) _ (HW.o.trans ax.o) (by omega)).mono ?_;rintro e w3 ⟨c3,n3,rfl,(OW:Hd _),cJ⟩;have aO:=ae (ax.o.trans cJ);clear cJ;go_wp2_with fail;refine(Tt.o (m+1+1) _ _ _ (HW.o.trans aO.o) (by omega) OW.o).mono ?_;rintro e w4 ⟨cJ,s7⟩;obtain⟨_,rfl⟩:=s7.resolve_right (fun h=>by rw[Kh.o] at h;cases h.1);have cy:=ae (aO.o.trans cJ);clear cJ;rw[ev];go_wp2_with fail;go_meet;unfold LV;exact⟨v,ev,YZ,rfl,rfl,cy.o⟩
              · go_wp2_with fail;refine(Tt.o (m+1) _ _ _ (HW.o.trans ax.o) (by omega) sc.o).mono ?_;rintro e w4 ⟨cJ,s7⟩;obtain⟨_,rfl⟩:=s7.resolve_right (fun h=>by rw[Kh.o] at h;cases h.1);have cy:=ae (ax.o.trans cJ);clear cJ;rw[ev];go_wp2_with fail;go_meet;unfold LV;exact⟨v,ev,YZ,rfl,rfl,cy.o⟩
            · have Kh:Hd (eC (nx s b)=false):=by unfold Hd;simpa using XQ
              have hf:Hd (wk s p=.err (s.size+1)):=by
               have e:(eX s p).1=0:=by rw[hE.out,if_pos (vh Kh.o)]
               unfold Hd wk;rw[if_pos e]
              clear XQ hE;rcases Re with⟨y1,rfl,rfl⟩|⟨y1,y2,rfl,rfl⟩|⟨y1,y2,rfl⟩
              iterate 2
               · go_wp2_with fail;refine(HR.o (m+1+1) _ (HW.o.trans ax.o) (by omega)).mono ?_;rintro e w3 ⟨c3,n3,rfl,(OW:Hd _),cJ⟩;have aO:=ae (ax.o.trans cJ);clear cJ;go_wp2_with fail;refine(Tt.o (m+1+1) _ _ _ (HW.o.trans aO.o) (by omega) OW.o).mono ?_;rintro e w4 ⟨cJ,s7⟩;obtain⟨_,v,rfl,(HF:Hd _)⟩:=s7.resolve_left (fun h=>by rw[Kh.o] at h;cases h.1);have h2:=cJ;clear cJ s7;have HT:=ae (cS (aO.o.trans h2));have H2:=ae h2;have b9:w.heap.size<w3.heap.size:=by have:=aO.o.size;simp at this;omega
                 obtain⟨t0,t1,t2,t3,g0,g1,g2,g3⟩:=HT.o;clear h2;go_wp2_with fail;refine bodyPost_ret (by simp[results,Tryz.results98,go_sem,t0,t1,t2,t3];try rfl) rfl ?_;rw[hf.out];exact og (HW.o.trans aO.o) HF.o H2.o (by omega) HM.o w.heap.size lr b9 _ _ _ _
              · go_wp2_with fail;refine(Tt.o (m+1) _ _ _ (HW.o.trans ax.o) (by omega) sc.o).mono ?_;rintro e w4 ⟨cJ,s7⟩;obtain⟨_,v,rfl,(HF:Hd _)⟩:=s7.resolve_left (fun h=>by rw[Kh.o] at h;cases h.1);have h2:=cJ;clear cJ s7;have HT:=ae (cS (ax.o.trans h2));have H2:=ae h2;have b9:w.heap.size<w2.heap.size:=by have:=ax.o.size;simp at this;omega
                obtain⟨t0,t1,t2,t3,g0,g1,g2,g3⟩:=HT.o;clear h2;go_wp2_with fail;refine bodyPost_ret (by simp[results,Tryz.results98,go_sem,t0,t1,t2,t3];try rfl) rfl ?_;rw[hf.out];exact og (HW.o.trans ax.o) HF.o H2.o (by omega) HM.o w.heap.size lr b9 _ _ _ _
          case rest=>
           unfold LV at hcut;obtain⟨v,ev,YZ,rfl,rfl,iI⟩:=hcut;have ZK:=ae iI;have hvs:v≤s.size:=by have:=kl s b;omega
           have hf:Hd (wk s p=.tok ⟨17,s.extract p v,p,v⟩):=by
            have e:eX s p=(17,v):=by rw[hE.out,ev,if_neg (by omega)]
            unfold Hd wk L7;rw[e];rfl
           clear iI hE ev he eb I1 RA;have IV:=jg s bb p v (cap-p) wc (vW.o.bytes.sm (HW.o.trans ZK.o) (by simp)) (by omega) (by omega);have q1:(0:Int)≤(p:Int):=by omega
           have q2:(p:Int)≤(v:Int):=by omega
           have q3:(v:Int)≤(cap:Int):=by omega
           go_wp2_with fail;refine(bh _ _ _ _ _).mono ?_;rintro e w9 ⟨rfl,cT⟩;have kc:=ae (cS (ZK.o.trans cT));have ql:=ae ((HW.o.trans ZK.o).trans cT);obtain⟨t0,t1,t2,t3,g0,g1,g2,g3⟩:=kc.o;clear cT IV;go_wp2_with fail;refine bodyPost_ret (by simp[results,Tryz.results98,go_sem,t0,t1,t2,t3];try rfl) rfl ?_;rw[hf.out];exact⟨ei ql.o lr _ _ _ _,rfl⟩
        · have z1:(c==69)=false:=iN RA.o 69 (by omega) (by omega) (fun h=>he (.inr h));have z2:(c==101)=false:=iN RA.o 101 (by omega) (by omega) (fun h=>he (.inl h));have hE:Hd (eX s p=(k,m)):=by unfold Hd;rw[hC.out];unfold lW;rw[if_neg he]
          clear hC he RA;rcases hk.out with rfl|rfl
          all_goals
           have hf:Hd (wk s p=.tok ⟨((eX s p).1:Int),s.extract p m,p,m⟩):=by unfold Hd wk L7;rw[hE.out];rfl
           rw[hE.out] at hf;simp only[Nat.reduceEqDiff,decide_false,decide_true];clear hE;have IV:=jg s bb p m (cap-p) wc (vW.o.bytes.sm (HW.o.trans I1.o) (by simp)) (by omega) (by omega);have q1:(0:Int)≤(p:Int):=by omega
           have q2:(p:Int)≤(m:Int):=by omega
           have q3:(m:Int)≤(cap:Int):=by omega
           go_wp2_with fail;refine(bh _ _ _ _ _).mono ?_;rintro e w9 ⟨rfl,cT⟩;have kc:=ae (cS (I1.o.trans cT));have ql:=ae ((HW.o.trans I1.o).trans cT);obtain⟨t0,t1,t2,t3,g0,g1,g2,g3⟩:=kc.o;clear cT IV;go_wp2_with fail;refine bodyPost_ret (by simp[results,Tryz.results98,go_sem,t0,t1,t2,t3];try rfl) rfl ?_;rw[hf.out];exact⟨ei ql.o lr _ _ _ _,rfl⟩
end Go.Proofs.YtnpjmhodfdgloaaGreatDoor
