/- Part of the proof. -/
import Derived.Test.YtnpjmhodfdgloaaGreatDoorQ19
import Derived.Test.YtnpjmhodfdgloaaGreatDoorQ43
set_option linter.unusedVariables false
set_option linter.unusedSimpArgs false
namespace Go.Proofs.YtnpjmhodfdgloaaGreatDoor
set_option maxRecDepth 100000
set_option maxHeartbeats 32000000
open Go.RowKit
attribute [local go_sem ↓] Go.wp_at_zero Go.wp_at_succ
def Ends(x:Lx):Prop:=x.out≠[]∨x.bad=true
theorem rz(x:Lx)(k:Int)(n:Nat)(v:ByteArray):Ends (x.add k n v):=.inl (by unfold Lx.add;simp)
theorem kN(x:Lx):Ends x.fail:=.inr rfl
theorem Ni(s:ByteArray)(n:Nat):∀(x:Lx) (k:Nat) (v:ByteArray),s.size-k≤n→Ends (aR s x k v):=by
 induction n with
 | zero=>
  intro x k v h
  rw[aR.eq_def s x,dif_neg (by omega)];exact kN _
 | succ n ih=>
  intro x k v h;rw[aR.eq_def s x];by_cases h1:k<s.size
  · rw[dif_pos h1];by_cases h2:nx s k=34
    · rw[if_pos h2];exact rz _ _ _ _
    rw[if_neg h2];by_cases h3:nx s k=10∨nx s k=13
    · rw[if_pos h3];exact kN _
    rw[if_neg h3];by_cases h4:nx s k=92
    · rw[if_pos h4];by_cases h5:(iU s k x.unsure).2.1=0
      · rw[dif_pos h5];exact .inr rfl
      · rw[dif_neg h5];exact ih _ _ _ (by omega)
    rw[if_neg h4];by_cases h5:(pt s k).2=0
    · rw[dif_pos h5];exact .inr rfl
    rw[dif_neg h5];by_cases h6:oy (pt s k).1=false
    · rw[if_pos h6];exact kN _
    rw[if_neg h6];exact ih _ _ _ (by omega)
  · rw[dif_neg h1];exact kN _
theorem KD(s:ByteArray)(n:Nat):∀(x:Lx) (k:Nat) (v:ByteArray),s.size-k≤n→Ends (aZ s x k v):=by
 induction n with
 | zero=>
  intro x k v h
  rw[aZ.eq_def s x,dif_neg (by omega)];exact kN _
 | succ n ih=>
  intro x k v h;rw[aZ.eq_def s x];by_cases h1:k<s.size
  · rw[dif_pos h1];by_cases h2:st s k q3=true
    · rw[if_pos h2];exact rz _ _ _ _
    rw[if_neg h2];by_cases h4:st s k q4=true
    · rw[if_pos h4];exact ih _ _ _ (by omega)
    rw[if_neg h4];by_cases h5:(pt s k).2=0
    · rw[dif_pos h5];exact .inr rfl
    rw[dif_neg h5];by_cases h6:oy (pt s k).1=false
    · rw[if_pos h6];exact kN _
    rw[if_neg h6];exact ih _ _ _ (by omega)
  · rw[dif_neg h1];exact kN _
theorem qG{s:ByteArray}{q:Nat}{y:Lx}(hq:q<s.size)(h:bU s (gw q)=y)(he:Ends y):rd s q=kE s y:=by unfold rd xy;show kE s (lU s (s.size+1+1) (gw q))=_;rw[show lU s (s.size+1+1) (gw q)=lU s (s.size+1) y by rw[lU,if_pos ⟨rfl,rfl,hq⟩,h]];rw[gf (by rintro⟨h1,h2,_⟩;rcases he with e|e;exact e h2;rw[h1] at e;cases e)]
theorem Jt{s:ByteArray}{y:Lx}(h:kE s y≠.eo):y.unsure=false:=by
 cases hu:y.unsure with
 | false=>rfl
 | true=>exact absurd (by unfold kE;rw[hu];rfl) h
section
variable{s:ByteArray}{q:Nat}
theorem nw(hg:tv s q)(hq:q<s.size):bU s (gw q) =
 if st s q ⟨#[46,46,46]⟩=true then(gw q).add 6 (q+3) ByteArray.empty else
 if 0<wC (nx s q) then(gw q).add (wC (nx s q)) (q+1) ByteArray.empty else
 if gN (nx s q)=true then(gw q).add 15 (cw s q) (s.extract q (cw s q)) else
 if nx s q=45∨eC (nx s q)=true then gg s (gw q) else
 if st s q q3=true then aZ s (gw q) (q+3) ByteArray.empty else
 if nx s q=34 then aR s (gw q) (q+1) ByteArray.empty else(gw q).fail:=by
 obtain⟨h1,h2,h3⟩:=hg hq;have ZV:¬st s q ⟨#[239,187,191]⟩=true:=by intro e;rw[show st s q Ks=true from e] at h3;cases h3
 unfold bU;dsimp only;rw[if_neg (show ¬(nx s (gw q).pos=32∨nx s (gw q).pos=9∨nx s (gw q).pos=10∨nx s (gw q).pos=13∨nx s (gw q).pos=44) from h1),if_neg (show ¬st s (gw q).pos ⟨#[239,187,191]⟩=true from ZV),if_neg (show ¬nx s (gw q).pos=35 from h2)]
 rfl
theorem T0(hg:tv s q)(hq:q<s.size)(h:st s q ⟨#[46,46,46]⟩=true):rd s q=.tok ⟨6,ByteArray.empty,q,q+3⟩:=
 (qG hq ((nw hg hq).trans (if_pos h)) (rz _ _ _ _)).trans rfl
theorem sZ(h:st s q ⟨#[46,46,46]⟩=true):nx s q=46:=(Dc s ⟨#[46,46,46]⟩ q (by decide) (by decide)).1 h 0 (by decide)
theorem kV(hg:tv s q)(hq:q<s.size)(h:0<wC (nx s q)):rd s q=.tok ⟨wC (nx s q),ByteArray.empty,q,q+1⟩:=by
 have hd:¬st s q ⟨#[46,46,46]⟩=true:=fun e=>by rw[sZ e] at h;exact absurd h (by decide)
 exact(qG hq ((nw hg hq).trans (by rw[if_neg hd,if_pos h])) (rz _ _ _ _)).trans rfl
theorem Bn{c:Nat}(h:0<wC c):c=33∨c=36∨c=40∨c=41∨c=58∨c=61∨c=64∨c=91∨c=93∨c=123∨c=124∨c=125∨c=38:=by apply Classical.byContradiction;intro hn;unfold wC at h;rw[if_neg (by omega),if_neg (by omega),if_neg (by omega),if_neg (by omega),if_neg (by omega),if_neg (by omega),if_neg (by omega),if_neg (by omega),if_neg (by omega),if_neg (by omega),if_neg (by omega),if_neg (by omega),if_neg (by omega)] at h;omega
theorem UM{c:Nat}(h:gN c=true):¬0<wC c∧c≠46∧c≠34∧c≠45∧eC c=false:=by unfold gN at h;unfold eC;simp at h;refine⟨fun e=>by have:=Bn e;omega,by omega,by omega,by omega,?_⟩;simp;omega
theorem ME(hg:tv s q)(hq:q<s.size)(h:gN (nx s q)=true):rd s q=.tok ⟨15,s.extract q (cw s q),q,cw s q⟩:=by obtain⟨a,b,_⟩:=UM h;have hd:¬st s q ⟨#[46,46,46]⟩=true:=fun e=>b (sZ e);exact(qG hq ((nw hg hq).trans (by rw[if_neg hd,if_neg a,if_pos h])) (rz _ _ _ _)).trans rfl
theorem US{c:Nat}(h:c=45∨eC c=true):¬0<wC c∧c≠46∧c≠34∧gN c=false:=by unfold eC at h;unfold gN;simp at h;refine⟨fun e=>by have:=Bn e;omega,by omega,by omega,?_⟩;simp;omega
theorem Wa(hg:tv s q)(hq:q<s.size)(h:nx s q=45∨eC (nx s q)=true)(ho:rd s q≠.eo):rd s q=wk s q:=by
 obtain⟨a,b,_,d⟩:=US h;have hd:¬st s q ⟨#[46,46,46]⟩=true:=fun e=>b (sZ e);have hl:bU s (gw q)=gg s (gw q):=(nw hg hq).trans (by rw[if_neg hd,if_neg a,if_neg (by rw[d];decide),if_pos h]);unfold wk;by_cases h0:(eX s q).1=0
 · rw[if_pos h0];exact(qG hq (hl.trans (by unfold gg;rw[if_pos (show(eX s (gw q).pos).1=0 from h0)])) (kN _)).trans rfl
 · rw[if_neg h0];by_cases h1:nx s (eX s q).2=46∨gN (nx s (eX s q).2)=true
   · exact absurd (zU hq (show(bU s (gw q)).unsure=true by
      rw[hl];unfold gg
      rw[if_neg (show ¬(eX s (gw q).pos).1=0 from h0),if_pos (show nx s (eX s (gw q).pos).2=46∨gN (nx s (eX s (gw q).pos).2)=true from h1)])) ho
   · exact(qG hq (hl.trans (by unfold gg;rw[if_neg (show ¬(eX s (gw q).pos).1=0 from h0),if_neg (show ¬(nx s (eX s (gw q).pos).2=46∨gN (nx s (eX s (gw q).pos).2)=true) from h1)])) (rz _ _ _ _)).trans rfl
theorem Qq(hg:tv s q)(hq:q<s.size)(h:nx s q=34∧nx s (q+1)=34∧nx s (q+2)=34)(ho:rd s q≠.eo):rd s q=kE s (xn s q)∧(xn s q).unsure=false∧q+3≤s.size:=by
 have hd:¬st s q ⟨#[46,46,46]⟩=true:=fun e=>by have:=sZ e;omega
 have hz:¬0<wC (nx s q):=by rw[h.1];decide
 have hb:¬gN (nx s q)=true:=by rw[h.1];decide
 have hn:¬(nx s q=45∨eC (nx s q)=true):=by rw[h.1];decide
 have e:=qG hq ((nw hg hq).trans (by rw[if_neg hd,if_neg hz,if_neg hb,if_neg hn,if_pos ((uZ s q).2 h)])) (KD s _ _ _ _ lr);have h3:=mZ (s:=s) (k:=q+2) (by omega);exact⟨e,Jt (by rw[show kE s (xn s q)=rd s q from e.symm];exact ho),by omega⟩
theorem Wb(hg:tv s q)(hq:q<s.size)(h:nx s q=34)(h3:¬(nx s (q+1)=34∧nx s (q+2)=34))(ho:rd s q≠.eo):rd s q=kE s (tf s q)∧(tf s q).unsure=false:=by
 have hd:¬st s q ⟨#[46,46,46]⟩=true:=fun e=>by have:=sZ e;omega
 have hz:¬0<wC (nx s q):=by rw[h];decide
 have hb:¬gN (nx s q)=true:=by rw[h];decide
 have hn:¬(nx s q=45∨eC (nx s q)=true):=by rw[h];decide
 have e:=qG hq ((nw hg hq).trans (by rw[if_neg hd,if_neg hz,if_neg hb,if_neg hn,if_neg (fun e=>h3 ((uZ s q).1 e).2),if_pos h])) (Ni s _ _ _ _ lr);exact⟨e,Jt (by rw[show kE s (tf s q)=rd s q from e.symm];exact ho)⟩
theorem GZ(hg:tv s q)(hq:q<s.size)(hd:¬st s q ⟨#[46,46,46]⟩=true)(hz:¬0<wC (nx s q))(hb:¬gN (nx s q)=true)(hn:¬(nx s q=45∨eC (nx s q)=true))(h:nx s q≠34):rd s q=.err (s.size+1):=
 (qG hq ((nw hg hq).trans (by rw[if_neg hd,if_neg hz,if_neg hb,if_neg hn,if_neg (fun e=>h ((uZ s q).1 e).1),if_neg h])) (kN _)).trans rfl
end
theorem ij.one{s:ByteArray}{r:LR}{w w':World}{e:Ending}(h:ij s r w e w')(hr:r≠.eo):∃(u:Tok) (ev:Value),e=.returned (.tuple #[.agg #[.int .i64 u.kind,.int .i64 (u.start:Int),.int .i64 (u.stop:Int),.string u.val],ev]):=by
 obtain⟨h1,h2⟩:=h
 cases r with
 | tok t=>exact⟨t,_,h2⟩
 | err p=>obtain⟨v,pl,h3,h4,h5,h6⟩:=h2;exact⟨⟨0,⟨#[]⟩,0,0⟩,_,h3⟩
 | eo=>exact absurd rfl hr
theorem ij.Mx{s:ByteArray}{r:LR}{X:List Nat}{w wa w9 w':World}{e:Ending}(h:ij s r wa e w9)(h0:Sm [] w wa)(hs:Sm X w9 w')(hx:∀k,k∈X→w.heap.size≤k∧k<wa.heap.size):ij s r w e w':=by
 refine⟨hs.forget (h0.trans h.1) (fun k hk=>.inr (hx k hk).1),?_⟩;have h2:=h.2
 cases r with
 | tok t=>exact h2
 | err p=>
  obtain⟨v,pl,h3,h4,h5⟩:=h2
  exact⟨v,pl,h3,(lh s).wide (au.sm h4 hs lr (fun k hk=>(hx k hk).2)) h0.size hs.size,h5⟩
 | eo=>trivial
theorem rZ{w:World}{k:Nat}(o:Obj)(a b c d:Value):Sm [k] w (((((w.alloc o).setCell ⟨k,0,none⟩ a).setCell ⟨k,1,none⟩ b).setCell ⟨k,2,none⟩ c).setCell ⟨k,3,none⟩ d):=
 (((((Sm.refl [k] w).alloc o).setCell (p:=⟨k,0,none⟩) (.inr (by simp)) _).setCell (p:=⟨k,1,none⟩) (.inr (by simp)) _).setCell (p:=⟨k,2,none⟩) (.inr (by simp)) _).setCell (p:=⟨k,3,none⟩) (.inr (by simp)) _
theorem JD{w:World}{k j:Nat}(a b c d a' b' c' d':Value):Sm [k,j] w ((((((((w.setCell ⟨k,0,none⟩ a).setCell ⟨k,1,none⟩ b).setCell ⟨k,2,none⟩ c).setCell ⟨k,3,none⟩ d).setCell ⟨j,0,none⟩ a').setCell ⟨j,1,none⟩ b').setCell ⟨j,2,none⟩ c').setCell ⟨j,3,none⟩ d'):=
 ((((((((Sm.refl [k,j] w).setCell (p:=⟨k,0,none⟩) (.inr (by simp)) _).setCell (p:=⟨k,1,none⟩) (.inr (by simp)) _).setCell (p:=⟨k,2,none⟩) (.inr (by simp)) _).setCell (p:=⟨k,3,none⟩) (.inr (by simp)) _).setCell (p:=⟨j,0,none⟩) (.inr (by simp)) _).setCell (p:=⟨j,1,none⟩) (.inr (by simp)) _).setCell (p:=⟨j,2,none⟩) (.inr (by simp)) _).setCell (p:=⟨j,3,none⟩) (.inr (by simp)) _
theorem ij.cases{s:ByteArray}{r:LR}{w w':World}{e:Ending}(h:ij s r w e w')(hr:r≠.eo) :
 (∃t,r=.tok t∧e=.returned (.tuple #[kg t,.nilIface])) ∨
 (∃p v pl,r=.err p∧e=.returned (.tuple #[Ez,.iface 51 v])∧(lh s).rd w.heap.size w'.heap.size w' v pl∧pl≤s.size∧(xV s→¬mid s pl)):=by
 obtain⟨h1,h2⟩:=h
 cases r with
 | tok t=>exact .inl ⟨t,rfl,h2⟩
 | err p=>obtain⟨v,pl,h3,h4,h5,h6⟩:=h2;exact .inr ⟨p,v,pl,rfl,h3,h4,h5,h6⟩
 | eo=>exact absurd rfl hr
def XE(c:Int):Bool:=decide (65≤c∧c≤90)
def XC(c:Int):Bool:=decide (c=95∨97≤c∧c≤122)
def XD(c:Int):Bool:=decide (c=45∨48≤c∧c≤57)
theorem XP{c:Int}(h:XE c=true):Hd (65≤c∧c≤90):=ae (of_decide_eq_true h)
theorem V8{c:Int}(h:XE c=false):Hd (¬(65≤c∧c≤90)):=ae (of_decide_eq_false h)
theorem XN{c:Int}(h:XC c=true):Hd (c=95∨97≤c∧c≤122):=ae (of_decide_eq_true h)
theorem V6{c:Int}(h:XC c=false):Hd (¬(c=95∨97≤c∧c≤122)):=ae (of_decide_eq_false h)
theorem XO{c:Int}(h:XD c=true):Hd (c=45∨48≤c∧c≤57):=ae (of_decide_eq_true h)
theorem V7{c:Int}(h:XD c=false):Hd (¬(c=45∨48≤c∧c≤57)):=ae (of_decide_eq_false h)
theorem P8{k:Nat}(h:(65≤(k:Int)∧(k:Int)≤90)∨((k:Int)=95∨97≤(k:Int)∧(k:Int)≤122)):gN k=true:=by unfold gN;simp;omega
theorem UT{k:Nat}(h:(k:Int)=45∨48≤(k:Int)∧(k:Int)≤57):k=45∨eC k=true:=by unfold eC;simp;omega
theorem Ek(hD:iR)(s:ByteArray)(sb bb cap p:Nat)(w:World)(dA:kj w sb bb cap s)(ht:qW w)(hp:p≤s.size)(ho:rd s p≠.eo) :
 Calls Tryz.prog 72 #[.pointer (some ⟨sb,0,none⟩),.int .i64 p] w (ij s (rd s p) w):=by
 have HR:Hd (∀i W,Sm [] w W→i≤s.size+5→Calls Tryz.prog 96 #[.slice (some ⟨bb,0,none⟩) s.size cap,.int .i64 (i:Nat)] W (nV s i W)):=
  fun i W h hi=>lX hD s bb cap i W (dA.bytes.sm h (by simp)) dA.le (ht.sm h (by simp)) dA.small (by have:=dA.small;omega)
 have HG:Hd (∀W,Sm [] w W→Calls Tryz.prog 94 #[.slice (some ⟨bb,0,none⟩) s.size cap,.int .i64 p] W (LW s p W)):=
  fun W h=>S2 hD s bb cap p W (dA.bytes.sm h (by simp)) dA.le (ht.sm h (by simp)) dA.small hp ho
 have HN:Hd (∀(i:Nat) d W,Sm [] w W→i≤s.size→Calls Tryz.prog 84 #[.pointer (some ⟨sb,0,none⟩),.int .i64 i,.string d] W (kL s i W)):=fun i d W h hi=>dD s sb bb cap i d W (dA.cI h) (by have:=dA.small;omega);have vW:=ae dA;have RF:=ae ht;have HO:=ae ho;have HW:Hd (Sm [] w (w.alloc dm)):=(Sm.refl [] w).alloc _;have c0:∀o,(w.alloc o).cell? ⟨sb,0,none⟩=some (.slice (some ⟨bb,0,none⟩) s.size cap):=fun o=>((Sm.refl [] w).alloc o).keeps dA.c0 (by simp);have om:=dA.small;clear dA ht ho;go_enter Tryz.func72,Tryz.ntmps72;go_wp2_with fail;refine(HG.o _ HW.o).mono ?_;rintro e w0 ⟨q,rfl,hq0,IZ,(qk:Hd _),vm,xr⟩;have ya:Hd (Sm [] (w.alloc dm) w0):=xr;clear xr;by_cases b9:q<s.size
 · have z0:¬((q:Int)≥(s.size:Int)):=by omega
   go_wp2_with fail;refine(HR.o q _ (HW.o.trans ya.o) (by omega)).mono ?_;rintro e w1 ⟨c,n,rfl,l8,cJ⟩;have av:=ae (ya.o.trans cJ);clear cJ;obtain⟨Nt,EV,hg3⟩:=vm b9;by_cases Oz:nx s q<32
   · have HM:Hd (xV s→¬mid s q):=fun _ h=>Nt (.inr (.inr (.inl h.1)))
     have hf:Hd (rd s p=.err (s.size+1)):=by
      unfold Hd;rw[←qk.o];refine GZ vm b9 (fun e=>by have:=sZ e;omega) (fun e=>by have:=Bn e;omega) (fun e=>?_) (fun e=>?_) (by omega)
      · unfold gN at e;simp at e;omega
      · unfold eC at e;simp at e;omega
     obtain⟨rfl,rfl⟩:=l8.s6 b9 (by omega);have y1:(nx s q:Int)<32:=by omega
     have y2:((nx s q:Int) !=9)=true:=by simp;omega
     have y3:((nx s q:Int) !=10)=true:=by simp;omega
     have y4:((nx s q:Int) !=13)=true:=by simp;omega
     clear l8 vm Oz Nt EV hg3;go_wp2_with fail;refine(HN.o q _ _ (HW.o.trans av.o) (by omega)).mono ?_;rintro e w9 ⟨v,rfl,(HF:Hd _),h2⟩;have HT:=ae (cS (av.o.trans h2));have H2:=ae h2;have uy:w.heap.size<w1.heap.size:=by have h5:=av.o.size;have e5:(w.alloc dm).heap.size=w.heap.size+1:=(by simp);omega
     obtain⟨t0,t1,t2,t3,g0,g1,g2,g3⟩:=HT.o;clear h2;go_wp2_with fail;refine bodyPost_ret (by simp[results,Tryz.results72,go_sem,t0,t1,t2,t3];try rfl) rfl ?_;rw[hf.out];exact fB (HW.o.trans av.o) HF.o H2.o (by omega) HM.o w.heap.size lr uy _ _ _ _
   · have z1:Hd (¬nx s q<32):=Oz;by_cases Dz:nx s q=33
     · have hf:Hd (rd s p=.tok ⟨2,ByteArray.empty,q,q+1⟩):=by
        unfold Hd;rw[←qk.o,kV vm b9 (by rw[Dz];decide),Dz];rfl
       obtain⟨rfl,rfl⟩:=l8.s6 b9 (by omega);rw[Dz];clear l8 vm  Dz;go_wp2_with fail;refine(bh _ _ _ _ _).mono ?_;rintro e w9 ⟨rfl,cT⟩;have kc:=ae (cS (av.o.trans cT));have ql:=ae ((HW.o.trans av.o).trans cT);obtain⟨t0,t1,t2,t3,g0,g1,g2,g3⟩:=kc.o;clear cT;go_wp2_with fail;refine bodyPost_ret (by simp[results,Tryz.results72,go_sem,t0,t1,t2,t3];try rfl) rfl ?_;rw[hf.out];exact⟨ei ql.o lr _ _ _ _,rfl⟩
     by_cases DZ:nx s q=36
     · have hf:Hd (rd s p=.tok ⟨3,ByteArray.empty,q,q+1⟩):=by
        unfold Hd;rw[←qk.o,kV vm b9 (by rw[DZ];decide),DZ];rfl
       obtain⟨rfl,rfl⟩:=l8.s6 b9 (by omega);rw[DZ];clear l8 vm Dz DZ;go_wp2_with fail;refine(bh _ _ _ _ _).mono ?_;rintro e w9 ⟨rfl,cT⟩;have kc:=ae (cS (av.o.trans cT));have ql:=ae ((HW.o.trans av.o).trans cT);obtain⟨t0,t1,t2,t3,g0,g1,g2,g3⟩:=kc.o;clear cT;go_wp2_with fail;refine bodyPost_ret (by simp[results,Tryz.results72,go_sem,t0,t1,t2,t3];try rfl) rfl ?_;rw[hf.out];exact⟨ei ql.o lr _ _ _ _,rfl⟩
     by_cases EU:nx s q=38
     · have hf:Hd (rd s p=.tok ⟨20,ByteArray.empty,q,q+1⟩):=by
        unfold Hd;rw[←qk.o,kV vm b9 (by rw[EU];decide),EU];rfl
       obtain⟨rfl,rfl⟩:=l8.s6 b9 (by omega);rw[EU];clear l8 vm Dz DZ EU;go_wp2_with fail;refine(bh _ _ _ _ _).mono ?_;rintro e w9 ⟨rfl,cT⟩;have kc:=ae (cS (av.o.trans cT));have ql:=ae ((HW.o.trans av.o).trans cT);obtain⟨t0,t1,t2,t3,g0,g1,g2,g3⟩:=kc.o;clear cT;go_wp2_with fail;refine bodyPost_ret (by simp[results,Tryz.results72,go_sem,t0,t1,t2,t3];try rfl) rfl ?_;rw[hf.out];exact⟨ei ql.o lr _ _ _ _,rfl⟩
     by_cases Gb:nx s q=40
     · have hf:Hd (rd s p=.tok ⟨4,ByteArray.empty,q,q+1⟩):=by
        unfold Hd;rw[←qk.o,kV vm b9 (by rw[Gb];decide),Gb];rfl
       obtain⟨rfl,rfl⟩:=l8.s6 b9 (by omega);rw[Gb];clear l8 vm Dz DZ EU Gb;go_wp2_with fail;refine(bh _ _ _ _ _).mono ?_;rintro e w9 ⟨rfl,cT⟩;have kc:=ae (cS (av.o.trans cT));have ql:=ae ((HW.o.trans av.o).trans cT);obtain⟨t0,t1,t2,t3,g0,g1,g2,g3⟩:=kc.o;clear cT;go_wp2_with fail;refine bodyPost_ret (by simp[results,Tryz.results72,go_sem,t0,t1,t2,t3];try rfl) rfl ?_;rw[hf.out];exact⟨ei ql.o lr _ _ _ _,rfl⟩
     by_cases I3:nx s q=41
     · have hf:Hd (rd s p=.tok ⟨5,ByteArray.empty,q,q+1⟩):=by
        unfold Hd;rw[←qk.o,kV vm b9 (by rw[I3];decide),I3];rfl
       obtain⟨rfl,rfl⟩:=l8.s6 b9 (by omega);rw[I3];clear l8 vm Dz DZ EU Gb I3;go_wp2_with fail;refine(bh _ _ _ _ _).mono ?_;rintro e w9 ⟨rfl,cT⟩;have kc:=ae (cS (av.o.trans cT));have ql:=ae ((HW.o.trans av.o).trans cT);obtain⟨t0,t1,t2,t3,g0,g1,g2,g3⟩:=kc.o;clear cT;go_wp2_with fail;refine bodyPost_ret (by simp[results,Tryz.results72,go_sem,t0,t1,t2,t3];try rfl) rfl ?_;rw[hf.out];exact⟨ei ql.o lr _ _ _ _,rfl⟩
     by_cases IQ:nx s q=58
     · have hf:Hd (rd s p=.tok ⟨7,ByteArray.empty,q,q+1⟩):=by
        unfold Hd;rw[←qk.o,kV vm b9 (by rw[IQ];decide),IQ];rfl
       obtain⟨rfl,rfl⟩:=l8.s6 b9 (by omega);rw[IQ];clear l8 vm Dz DZ EU Gb I3 IQ;go_wp2_with fail;refine(bh _ _ _ _ _).mono ?_;rintro e w9 ⟨rfl,cT⟩;have kc:=ae (cS (av.o.trans cT));have ql:=ae ((HW.o.trans av.o).trans cT);obtain⟨t0,t1,t2,t3,g0,g1,g2,g3⟩:=kc.o;clear cT;go_wp2_with fail;refine bodyPost_ret (by simp[results,Tryz.results72,go_sem,t0,t1,t2,t3];try rfl) rfl ?_;rw[hf.out];exact⟨ei ql.o lr _ _ _ _,rfl⟩
     by_cases K8:nx s q=61
     · have hf:Hd (rd s p=.tok ⟨8,ByteArray.empty,q,q+1⟩):=by
        unfold Hd;rw[←qk.o,kV vm b9 (by rw[K8];decide),K8];rfl
       obtain⟨rfl,rfl⟩:=l8.s6 b9 (by omega);rw[K8];clear l8 vm Dz DZ EU Gb I3 IQ K8;go_wp2_with fail;refine(bh _ _ _ _ _).mono ?_;rintro e w9 ⟨rfl,cT⟩;have kc:=ae (cS (av.o.trans cT));have ql:=ae ((HW.o.trans av.o).trans cT);obtain⟨t0,t1,t2,t3,g0,g1,g2,g3⟩:=kc.o;clear cT;go_wp2_with fail;refine bodyPost_ret (by simp[results,Tryz.results72,go_sem,t0,t1,t2,t3];try rfl) rfl ?_;rw[hf.out];exact⟨ei ql.o lr _ _ _ _,rfl⟩
     by_cases KK:nx s q=64
     · have hf:Hd (rd s p=.tok ⟨9,ByteArray.empty,q,q+1⟩):=by
        unfold Hd;rw[←qk.o,kV vm b9 (by rw[KK];decide),KK];rfl
       obtain⟨rfl,rfl⟩:=l8.s6 b9 (by omega);rw[KK];clear l8 vm Dz DZ EU Gb I3 IQ K8 KK;go_wp2_with fail;refine(bh _ _ _ _ _).mono ?_;rintro e w9 ⟨rfl,cT⟩;have kc:=ae (cS (av.o.trans cT));have ql:=ae ((HW.o.trans av.o).trans cT);obtain⟨t0,t1,t2,t3,g0,g1,g2,g3⟩:=kc.o;clear cT;go_wp2_with fail;refine bodyPost_ret (by simp[results,Tryz.results72,go_sem,t0,t1,t2,t3];try rfl) rfl ?_;rw[hf.out];exact⟨ei ql.o lr _ _ _ _,rfl⟩
     by_cases Mc:nx s q=91
     · have hf:Hd (rd s p=.tok ⟨10,ByteArray.empty,q,q+1⟩):=by
        unfold Hd;rw[←qk.o,kV vm b9 (by rw[Mc];decide),Mc];rfl
       obtain⟨rfl,rfl⟩:=l8.s6 b9 (by omega);rw[Mc];clear l8 vm Dz DZ EU Gb I3 IQ K8 KK Mc;go_wp2_with fail;refine(bh _ _ _ _ _).mono ?_;rintro e w9 ⟨rfl,cT⟩;have kc:=ae (cS (av.o.trans cT));have ql:=ae ((HW.o.trans av.o).trans cT);obtain⟨t0,t1,t2,t3,g0,g1,g2,g3⟩:=kc.o;clear cT;go_wp2_with fail;refine bodyPost_ret (by simp[results,Tryz.results72,go_sem,t0,t1,t2,t3];try rfl) rfl ?_;rw[hf.out];exact⟨ei ql.o lr _ _ _ _,rfl⟩
     by_cases Nq:nx s q=93
     · have hf:Hd (rd s p=.tok ⟨11,ByteArray.empty,q,q+1⟩):=by
        unfold Hd;rw[←qk.o,kV vm b9 (by rw[Nq];decide),Nq];rfl
       obtain⟨rfl,rfl⟩:=l8.s6 b9 (by omega);rw[Nq];clear l8 vm Dz DZ EU Gb I3 IQ K8 KK Mc Nq;go_wp2_with fail;refine(bh _ _ _ _ _).mono ?_;rintro e w9 ⟨rfl,cT⟩;have kc:=ae (cS (av.o.trans cT));have ql:=ae ((HW.o.trans av.o).trans cT);obtain⟨t0,t1,t2,t3,g0,g1,g2,g3⟩:=kc.o;clear cT;go_wp2_with fail;refine bodyPost_ret (by simp[results,Tryz.results72,go_sem,t0,t1,t2,t3];try rfl) rfl ?_;rw[hf.out];exact⟨ei ql.o lr _ _ _ _,rfl⟩
     by_cases AJ:nx s q=123
     · have hf:Hd (rd s p=.tok ⟨12,ByteArray.empty,q,q+1⟩):=by
        unfold Hd;rw[←qk.o,kV vm b9 (by rw[AJ];decide),AJ];rfl
       obtain⟨rfl,rfl⟩:=l8.s6 b9 (by omega);rw[AJ];clear l8 vm Dz DZ EU Gb I3 IQ K8 KK Mc Nq AJ;go_wp2_with fail;refine(bh _ _ _ _ _).mono ?_;rintro e w9 ⟨rfl,cT⟩;have kc:=ae (cS (av.o.trans cT));have ql:=ae ((HW.o.trans av.o).trans cT);obtain⟨t0,t1,t2,t3,g0,g1,g2,g3⟩:=kc.o;clear cT;go_wp2_with fail;refine bodyPost_ret (by simp[results,Tryz.results72,go_sem,t0,t1,t2,t3];try rfl) rfl ?_;rw[hf.out];exact⟨ei ql.o lr _ _ _ _,rfl⟩
     by_cases Cc:nx s q=124
     · have hf:Hd (rd s p=.tok ⟨13,ByteArray.empty,q,q+1⟩):=by
        unfold Hd;rw[←qk.o,kV vm b9 (by rw[Cc];decide),Cc];rfl
       obtain⟨rfl,rfl⟩:=l8.s6 b9 (by omega);rw[Cc];clear l8 vm Dz DZ EU Gb I3 IQ K8 KK Mc Nq AJ Cc;go_wp2_with fail;refine(bh _ _ _ _ _).mono ?_;rintro e w9 ⟨rfl,cT⟩;have kc:=ae (cS (av.o.trans cT));have ql:=ae ((HW.o.trans av.o).trans cT);obtain⟨t0,t1,t2,t3,g0,g1,g2,g3⟩:=kc.o;clear cT;go_wp2_with fail;refine bodyPost_ret (by simp[results,Tryz.results72,go_sem,t0,t1,t2,t3];try rfl) rfl ?_;rw[hf.out];exact⟨ei ql.o lr _ _ _ _,rfl⟩
     by_cases DY:nx s q=125
     · have hf:Hd (rd s p=.tok ⟨14,ByteArray.empty,q,q+1⟩):=by
        unfold Hd;rw[←qk.o,kV vm b9 (by rw[DY];decide),DY];rfl
       obtain⟨rfl,rfl⟩:=l8.s6 b9 (by omega);rw[DY];clear l8 vm Dz DZ EU Gb I3 IQ K8 KK Mc Nq AJ Cc DY;go_wp2_with fail;refine(bh _ _ _ _ _).mono ?_;rintro e w9 ⟨rfl,cT⟩;have kc:=ae (cS (av.o.trans cT));have ql:=ae ((HW.o.trans av.o).trans cT);obtain⟨t0,t1,t2,t3,g0,g1,g2,g3⟩:=kc.o;clear cT;go_wp2_with fail;refine bodyPost_ret (by simp[results,Tryz.results72,go_sem,t0,t1,t2,t3];try rfl) rfl ?_;rw[hf.out];exact⟨ei ql.o lr _ _ _ _,rfl⟩
     by_cases XH:nx s q=46
     · have HM:Hd (xV s→¬mid s q):=fun _ h=>Nt (.inr (.inr (.inl h.1)));obtain⟨rfl,rfl⟩:=l8.s6 b9 (by omega);have HC:=ae XH;have Rz:=ae vm;rw[XH];clear l8 vm Dz DZ EU Gb I3 IQ K8 KK Mc Nq AJ Cc DY XH Nt EV hg3;go_wp2_with fail;refine(HR.o (q+1) _ (HW.o.trans av.o) (by omega)).mono ?_;rintro e w2 ⟨c2,n2,rfl,mq,cT⟩;have ax:=ae (av.o.trans cT);clear cT;go_wp2_with fail;refine(HR.o (q+2) _ (HW.o.trans ax.o) (by omega)).mono ?_;rintro e w3 ⟨c3,n3,rfl,I4,s9⟩;have aO:=ae (ax.o.trans s9);clear s9;by_cases h3:nx s (q+1)=46∧nx s (q+2)=46
       · have y1:(c2==46)=true:=lK mq 46 (by omega) (by omega) h3.1;have y2:(c3==46)=true:=lK I4 46 (by omega) (by omega) h3.2
         have hf:Hd (rd s p=.tok ⟨6,ByteArray.empty,q,q+3⟩):=by
          unfold Hd;rw[←qk.o];refine T0 Rz.o b9 ((Dc s ⟨#[46,46,46]⟩ q (by decide) (by decide)).2 fun j hj=>?_);have:j=0∨j=1∨j=2:=by have:(⟨#[46,46,46]⟩:ByteArray).size=3:=rfl;omega
          rcases this with rfl|rfl|rfl
          · exact HC.o
          · exact h3.1
          · exact h3.2
         clear mq I4 h3;go_wp2_with fail;refine(bh _ _ _ _ _).mono ?_;rintro e w9 ⟨rfl,cT⟩;have kc:=ae (cS (aO.o.trans cT));have ql:=ae ((HW.o.trans aO.o).trans cT);obtain⟨t0,t1,t2,t3,g0,g1,g2,g3⟩:=kc.o;clear cT;go_wp2_with fail;refine bodyPost_ret (by simp[results,Tryz.results72,go_sem,t0,t1,t2,t3];try rfl) rfl ?_;rw[hf.out];exact⟨ei ql.o lr _ _ _ _,rfl⟩
       · have hy:Hd ((c2==46)=false∨((c2==46)=true∧(c3==46)=false)):=by
          unfold Hd;by_cases e:nx s (q+1)=46
          · exact .inr ⟨lK mq 46 (by omega) (by omega) e,iN I4 46 (by omega) (by omega) (fun e2=>h3 ⟨e,e2⟩)⟩
          · exact .inl (iN mq 46 (by omega) (by omega) e)
         have hf:Hd (rd s p=.err (s.size+1)):=by unfold Hd;rw[←qk.o];have hc:=HC.o;refine GZ Rz.o b9 (fun e=>h3 ?_) (by rw[hc];decide) (by rw[hc];decide) (by rw[hc];decide) (by omega);have hh:=(Dc s ⟨#[46,46,46]⟩ q (by decide) (by decide)).1 e;exact⟨hh 1 (by decide),hh 2 (by decide)⟩
         clear mq I4 h3;rcases hy.out with y1|⟨y1,y2⟩
         all_goals
          go_wp2_with fail;refine(HN.o q _ _ (HW.o.trans aO.o) (by omega)).mono ?_;rintro e w9 ⟨v,rfl,(HF:Hd _),h2⟩;have HT:=ae (cS (aO.o.trans h2));have H2:=ae h2;have uy:w.heap.size<w3.heap.size:=by have h5:=aO.o.size;have e5:(w.alloc dm).heap.size=w.heap.size+1:=(by simp);omega
          obtain⟨t0,t1,t2,t3,g0,g1,g2,g3⟩:=HT.o;clear h2;go_wp2_with fail;refine bodyPost_ret (by simp[results,Tryz.results72,go_sem,t0,t1,t2,t3];try rfl) rfl ?_;rw[hf.out];exact fB (HW.o.trans aO.o) HF.o H2.o (by omega) HM.o w.heap.size lr uy _ _ _ _
     have Rz:=ae vm
     have hcc:(nx s q<128∧c=(nx s q:Int)∧n=1)∨(128≤nx s q∧128≤c):=by
      by_cases h:nx s q<128
      · obtain⟨a,b⟩:=l8.s6 b9 h;exact .inl ⟨h,a,b⟩
      · exact .inr ⟨by omega,(l8.UN (by omega)).1⟩
     have Us:=ae hcc;have HM:Hd (xV s→¬mid s q):=fun _ h=>Nt (.inr (.inr (.inl h.1)));have y0:¬(c<32):=by have:=z1.out;omega
     have R3:Hd (¬0<wC (nx s q)∧nx s q≠46):=⟨fun h=>by have:=Bn h;omega,XH⟩;have y33:(c==33)=false:=by simp;omega
     have y36:(c==36)=false:=by simp;omega
     have y38:(c==38)=false:=by simp;omega
     have y40:(c==40)=false:=by simp;omega
     have y41:(c==41)=false:=by simp;omega
     have y58:(c==58)=false:=by simp;omega
     have y61:(c==61)=false:=by simp;omega
     have y64:(c==64)=false:=by simp;omega
     have y91:(c==91)=false:=by simp;omega
     have y93:(c==93)=false:=by simp;omega
     have Z19:(c==123)=false:=by simp;omega
     have Z1a:(c==124)=false:=by simp;omega
     have Z1b:(c==125)=false:=by simp;omega
     have y46:(c==46)=false:=by simp;omega
     clear hcc l8 vm Nt EV hg3 Dz DZ EU Gb I3 IQ K8 KK Mc Nq AJ Cc DY XH;go_upto_if 173 with fail
     clear y33 y36 y38 y40 y41 y58 y61 y64 y91 y93 Z19 Z1a Z1b y46
     go_cut [173] from 173 to 199 (fun v wr=>v=.bool (XE c)∧wr=w1)
     case first=>
      go_wp2_with fail
      all_goals (go_meet;refine⟨congrArg Value.bool ?_,rfl⟩;unfold XE;rw[Bool.eq_iff_iff];simp only[beq_iff_eq,beq_eq_false_iff_ne,ne_eq,decide_eq_true_eq,Bool.false_eq_true,true_iff,false_iff] at *;omega)
     case rest=>
      obtain⟨rfl,yx⟩:=hcut;rw[yx];clear yx wc
      cases hup:XE c with
      | true=>
       have ZO:=XP hup;have HB:Hd (gN (nx s q)=true):=by have h1:=ZO.o;have h2:=Us.o;exact P8 (by omega)
       have hf:Hd (rd s p=.tok ⟨15,s.extract q (cw s q),q,cw s q⟩):=by unfold Hd;rw[←qk.o];exact ME Rz.o b9 HB.o
       have OV:Hd (∀W,Sm [] w W→Calls Tryz.prog 97 #[.pointer (some ⟨sb,0,none⟩),.int .i64 q,.int .i64 q] W (FG 15 q (cw s q:Nat) (s.extract q (cw s q)) W)):=fun W h=>yV hD s sb bb cap q W (vW.o.cI h) (RF.o.sm h (by simp)) b9 HB.o;clear HR HN HG;go_wp2_with fail;refine(OV.o _ (HW.o.trans av.o)).mono ?_;rintro e w9 ⟨rfl,cT⟩;have kc:=ae (cS (av.o.trans cT));have ql:=ae ((HW.o.trans av.o).trans cT);obtain⟨t0,t1,t2,t3,g0,g1,g2,g3⟩:=kc.o;clear cT;go_wp2_with fail;refine bodyPost_ret (by simp[results,Tryz.results72,go_sem,t0,t1,t2,t3];try rfl) rfl ?_;rw[hf.out]
       exact⟨ei ql.o lr _ _ _ _,rfl⟩
      | false=>
       have ZO:=V8 hup;clear hup;go_upto_if 204 with fail
       go_cut [204] from 204 to 231 (fun v wr=>v=.bool (XC c)∧wr=w1)
       case first=>
        go_wp2_with fail
        all_goals (go_meet;refine⟨congrArg Value.bool ?_,rfl⟩;unfold XC;rw[Bool.eq_iff_iff];simp only[beq_iff_eq,beq_eq_false_iff_ne,ne_eq,decide_eq_true_eq,Bool.false_eq_true,true_iff,false_iff] at *;omega)
       case rest=>
        obtain⟨rfl,yx⟩:=hcut;rw[yx];clear yx wc
        cases vl:XC c with
        | true=>
         have A9:=XN vl;have HB:Hd (gN (nx s q)=true):=by have h1:=A9.o;have h2:=Us.o;exact P8 (by omega)
         have hf:Hd (rd s p=.tok ⟨15,s.extract q (cw s q),q,cw s q⟩):=by unfold Hd;rw[←qk.o];exact ME Rz.o b9 HB.o
         have OV:Hd (∀W,Sm [] w W→Calls Tryz.prog 97 #[.pointer (some ⟨sb,0,none⟩),.int .i64 q,.int .i64 q] W (FG 15 q (cw s q:Nat) (s.extract q (cw s q)) W)):=fun W h=>yV hD s sb bb cap q W (vW.o.cI h) (RF.o.sm h (by simp)) b9 HB.o;clear HR HN HG;go_wp2_with fail;refine(OV.o _ (HW.o.trans av.o)).mono ?_;rintro e w9 ⟨rfl,cT⟩;have kc:=ae (cS (av.o.trans cT));have ql:=ae ((HW.o.trans av.o).trans cT);obtain⟨t0,t1,t2,t3,g0,g1,g2,g3⟩:=kc.o;clear cT;go_wp2_with fail;refine bodyPost_ret (by simp[results,Tryz.results72,go_sem,t0,t1,t2,t3];try rfl) rfl ?_;rw[hf.out]
         exact⟨ei ql.o lr _ _ _ _,rfl⟩
        | false=>
         have A9:=V6 vl;clear vl;go_upto_if 236 with fail
         go_cut [236] from 236 to 247 (fun v wr=>v=.bool (XD c)∧wr=w1)
         case first=>
          go_wp2_with fail
          all_goals (go_meet;refine⟨congrArg Value.bool ?_,rfl⟩;unfold XD;rw[Bool.eq_iff_iff];simp only[beq_iff_eq,beq_eq_false_iff_ne,ne_eq,decide_eq_true_eq,Bool.false_eq_true,true_iff,false_iff] at *;omega)
         case rest=>
          obtain⟨rfl,yx⟩:=hcut;rw[yx];clear yx wc
          cases zC:XD c with
          | true=>
           have Ay:=XO zC;have hd:nx s q=45∨eC (nx s q)=true:=by have h1:=Ay.o;have h2:=Us.o;exact UT (by omega)
           obtain⟨rfl,rfl⟩:c=(nx s q:Int)∧n=1:=by have h1:=Ay.o;have h2:=Us.o;omega
           have YM:Hd (rd s q≠.eo):=by unfold Hd;rw[qk.o];exact HO.o
           have hf:Hd (rd s p=wk s q):=by unfold Hd;rw[←qk.o];exact Wa Rz.o b9 hd YM.o
           have OV:Hd (∀W,Sm [] w W→Calls Tryz.prog 98 #[.pointer (some ⟨sb,0,none⟩),.int .i64 q,.int .i32 (nx s q:Int),.int .i64 1] W (ij s (wk s q) W)):=fun W h=>CU hD s sb bb cap q W (vW.o.cI h) (RF.o.sm h (by simp)) b9 hd;clear HR HN HG hd;have oB:Hd (wk s q≠.eo):=by unfold Hd;rw[←hf.out];exact HO.o
           have uy:Hd (w.heap.size<w1.heap.size):=by have h5:=av.o.size;have e5:(w.alloc dm).heap.size=w.heap.size+1:=(by simp);unfold Hd;omega
           go_wp2_with fail;refine(OV.o _ (HW.o.trans av.o)).mono ?_;intro e w9 h9;rcases h9.cases oB.o with⟨tk,hr,rfl⟩|⟨pp,v,pl,hr,rfl,Nr,V9,Va⟩
           · skip
             have kc:=ae (cS (av.o.trans h9.1));obtain⟨t0,t1,t2,t3,g0,g1,g2,g3⟩:=kc.o;have e0:∀o,(w9.alloc o).cell? ⟨w.heap.size,0,none⟩=some (.int .i64 0):=fun o=>((Sm.refl [] w9).alloc o).keeps t0 (by simp);have e1:∀o,(w9.alloc o).cell? ⟨w.heap.size,1,none⟩=some (.int .i64 0):=fun o=>((Sm.refl [] w9).alloc o).keeps t1 (by simp);have e2:∀o,(w9.alloc o).cell? ⟨w.heap.size,2,none⟩=some (.int .i64 0):=fun o=>((Sm.refl [] w9).alloc o).keeps t2 (by simp);have e3:∀o,(w9.alloc o).cell? ⟨w.heap.size,3,none⟩=some (.string ⟨#[]⟩):=fun o=>((Sm.refl [] w9).alloc o).keeps t3 (by simp);have k0:∀o,(w9.alloc o).frozen? ⟨w.heap.size,0,none⟩=false:=fun o=>(((Sm.refl [] w9).alloc o).sn (World.block_lt_of_cell? _ _ t0) (by simp)).trans g0;have k1:∀o,(w9.alloc o).frozen? ⟨w.heap.size,1,none⟩=false:=fun o=>(((Sm.refl [] w9).alloc o).sn (World.block_lt_of_cell? _ _ t1) (by simp)).trans g1;have k2:∀o,(w9.alloc o).frozen? ⟨w.heap.size,2,none⟩=false:=fun o=>(((Sm.refl [] w9).alloc o).sn (World.block_lt_of_cell? _ _ t2) (by simp)).trans g2;have k3:∀o,(w9.alloc o).frozen? ⟨w.heap.size,3,none⟩=false:=fun o=>(((Sm.refl [] w9).alloc o).sn (World.block_lt_of_cell? _ _ t3) (by simp)).trans g3;have Nw:=World.new_ne _ _ t0;have H9:=ae h9;clear hr h9 kc oB;unfold kg at H9 ⊢;go_wp2_with fail;refine bodyPost_ret (by simp[results,Tryz.results72,go_sem,e0,e1,e2,e3];try rfl) rfl ?_;rw[hf.out];exact H9.o.Mx (HW.o.trans av.o) (rZ _ _ _ _ _) (fun k hk=>by simp at hk;subst hk;exact⟨lr,uy.out⟩)
           · clear Nr V9 Va;have kc:=ae (cS (av.o.trans h9.1));obtain⟨t0,t1,t2,t3,g0,g1,g2,g3⟩:=kc.o;have e0:∀o,(w9.alloc o).cell? ⟨w.heap.size,0,none⟩=some (.int .i64 0):=fun o=>((Sm.refl [] w9).alloc o).keeps t0 (by simp);have e1:∀o,(w9.alloc o).cell? ⟨w.heap.size,1,none⟩=some (.int .i64 0):=fun o=>((Sm.refl [] w9).alloc o).keeps t1 (by simp);have e2:∀o,(w9.alloc o).cell? ⟨w.heap.size,2,none⟩=some (.int .i64 0):=fun o=>((Sm.refl [] w9).alloc o).keeps t2 (by simp);have e3:∀o,(w9.alloc o).cell? ⟨w.heap.size,3,none⟩=some (.string ⟨#[]⟩):=fun o=>((Sm.refl [] w9).alloc o).keeps t3 (by simp);have k0:∀o,(w9.alloc o).frozen? ⟨w.heap.size,0,none⟩=false:=fun o=>(((Sm.refl [] w9).alloc o).sn (World.block_lt_of_cell? _ _ t0) (by simp)).trans g0;have k1:∀o,(w9.alloc o).frozen? ⟨w.heap.size,1,none⟩=false:=fun o=>(((Sm.refl [] w9).alloc o).sn (World.block_lt_of_cell? _ _ t1) (by simp)).trans g1;have k2:∀o,(w9.alloc o).frozen? ⟨w.heap.size,2,none⟩=false:=fun o=>(((Sm.refl [] w9).alloc o).sn (World.block_lt_of_cell? _ _ t2) (by simp)).trans g2;have k3:∀o,(w9.alloc o).frozen? ⟨w.heap.size,3,none⟩=false:=fun o=>(((Sm.refl [] w9).alloc o).sn (World.block_lt_of_cell? _ _ t3) (by simp)).trans g3;have Nw:=World.new_ne _ _ t0;have H9:=ae h9;clear hr h9 kc oB;unfold Ez at H9 ⊢;go_wp2_with fail;refine bodyPost_ret (by simp[results,Tryz.results72,go_sem,e0,e1,e2,e3];try rfl) rfl ?_;rw[hf.out]
             exact H9.o.Mx (HW.o.trans av.o) (rZ _ _ _ _ _) (fun k hk=>by simp at hk;subst hk;exact⟨lr,uy.out⟩)
          | false=>
           have Ay:=V7 zC;clear zC;by_cases o3:nx s q=34
           · skip
             have k34:(c==34)=true:=by have h4:=Us.o;simp;omega
             have WL:=ae o3;have YM:Hd (rd s q≠.eo):=by unfold Hd;rw[qk.o];exact HO.o
             have uy:Hd (w.heap.size<w1.heap.size):=by have h5:=av.o.size;have e5:(w.alloc dm).heap.size=w.heap.size+1:=(by simp);unfold Hd;omega
             clear o3;go_wp2_with fail;refine(HR.o (q+1) _ ((HW.o.trans av.o).alloc _) (by omega)).mono ?_;rintro e w2 ⟨c2,n2,rfl,mq,cT⟩;have ax:=ae ((av.o.alloc _).trans cT);have WR:Hd (w2.heap[w1.heap.size]?=some dm):=cT.obj (ai _ _) (by simp);clear cT;go_wp2_with fail;refine(HR.o (q+2) _ (HW.o.trans ax.o) (by omega)).mono ?_;rintro e w3 ⟨c3,n3,rfl,I4,s9⟩;have aO:=ae (ax.o.trans s9);have HZ:Hd (w3.heap[w1.heap.size]?=some dm):=s9.obj WR.o (by simp);have HW3:Hd (w1.heap.size<w3.heap.size):=lt_of_block HZ.o;clear s9;by_cases h3:nx s (q+1)=34∧nx s (q+2)=34
             · have y1:(c2==34)=true:=lK mq 34 (by omega) (by omega) h3.1;have y2:(c3==34)=true:=lK I4 34 (by omega) (by omega) h3.2;obtain⟨f1,f2,f3⟩:=Qq Rz.o b9 ⟨WL.o,h3.1,h3.2⟩ YM.o;have hf:Hd (rd s p=kE s (xn s q)):=by unfold Hd;rw[←qk.o];exact f1
               have oB:Hd (kE s (xn s q)≠.eo):=by unfold Hd;rw[←hf.out];exact HO.o
               have OV:Hd (∀W,Sm [] w W→Calls Tryz.prog 99 #[.pointer (some ⟨sb,0,none⟩),.int .i64 q] W (ij s (kE s (xn s q)) W)):=fun W h=>Ej hD s sb bb cap q W (vW.o.cI h) (RF.o.sm h (by simp)) f3 f2;clear mq I4 h3 f1 f2 f3 HR HN HG;go_wp2_with fail;refine(OV.o _ (HW.o.trans aO.o)).mono ?_;intro e w9 h9;obtain⟨u,ev,rfl⟩:=h9.one oB.o;have Vr:=h9.1;have hz:w9.heap[w1.heap.size]?=some dm:=Vr.obj (HZ.o) (by simp);have z0:w9.cell? ⟨w1.heap.size,0,none⟩=some (.int .i64 0):=cell_of hz rfl;have z1:w9.cell? ⟨w1.heap.size,1,none⟩=some (.int .i64 0):=cell_of hz rfl;have z2:w9.cell? ⟨w1.heap.size,2,none⟩=some (.int .i64 0):=cell_of hz rfl;have z3:w9.cell? ⟨w1.heap.size,3,none⟩=some (.string ⟨#[]⟩):=cell_of hz rfl;have r0:=aF hz 0;have r1:=aF hz 1;have r2:=aF hz 2;have r3:=aF hz 3;have kc:=ae (cS (aO.o.trans Vr));obtain⟨t0,t1,t2,t3,g0,g1,g2,g3⟩:=kc.o;have KQ:w.heap.size≠w1.heap.size:=Nat.ne_of_lt uy.out;have Vn:w1.heap.size≠w.heap.size:=fun e=>KQ e.symm;have H9:=ae h9;clear h9 Vr hz kc oB;go_wp2_with fail;refine bodyPost_ret (by simp[results,Tryz.results72,go_sem,t0,t1,t2,t3,KQ,Vn];try rfl) rfl ?_;rw[hf.out];exact H9.o.Mx (HW.o.trans aO.o) (JD _ _ _ _ _ _ _ _) (fun k hk=>by have h6:=uy.out;have h7:=HW3.o;simp at hk;omega)
             · have hy:Hd ((c2==34)=false∨((c2==34)=true∧(c3==34)=false)):=by
                unfold Hd;by_cases e:nx s (q+1)=34
                · exact .inr ⟨lK mq 34 (by omega) (by omega) e,iN I4 34 (by omega) (by omega) (fun e2=>h3 ⟨e,e2⟩)⟩
                · exact .inl (iN mq 34 (by omega) (by omega) e)
               obtain⟨f1,f2⟩:=Wb Rz.o b9 WL.o h3 YM.o;have hf:Hd (rd s p=kE s (tf s q)):=by unfold Hd;rw[←qk.o];exact f1
               have oB:Hd (kE s (tf s q)≠.eo):=by unfold Hd;rw[←hf.out];exact HO.o
               have OV:Hd (∀W,Sm [] w W→Calls Tryz.prog 100 #[.pointer (some ⟨sb,0,none⟩),.int .i64 q] W (ij s (kE s (tf s q)) W)):=fun W h=>CV hD s sb bb cap q W (vW.o.cI h) (RF.o.sm h (by simp)) b9 WL.o f2;clear mq I4 h3 f1 f2 HR HN HG;rcases hy.out with y1|⟨y1,y2⟩
               all_goals go_wp2_with fail;refine(OV.o _ (HW.o.trans aO.o)).mono ?_;intro e w9 h9;obtain⟨u,ev,rfl⟩:=h9.one oB.o;have Vr:=h9.1;have hz:w9.heap[w1.heap.size]?=some dm:=Vr.obj (HZ.o) (by simp);have z0:w9.cell? ⟨w1.heap.size,0,none⟩=some (.int .i64 0):=cell_of hz rfl;have z1:w9.cell? ⟨w1.heap.size,1,none⟩=some (.int .i64 0):=cell_of hz rfl;have z2:w9.cell? ⟨w1.heap.size,2,none⟩=some (.int .i64 0):=cell_of hz rfl;have z3:w9.cell? ⟨w1.heap.size,3,none⟩=some (.string ⟨#[]⟩):=cell_of hz rfl;have r0:=aF hz 0;have r1:=aF hz 1;have r2:=aF hz 2;have r3:=aF hz 3;have kc:=ae (cS (aO.o.trans Vr));obtain⟨t0,t1,t2,t3,g0,g1,g2,g3⟩:=kc.o;have KQ:w.heap.size≠w1.heap.size:=Nat.ne_of_lt uy.out;have Vn:w1.heap.size≠w.heap.size:=fun e=>KQ e.symm;have H9:=ae h9;clear h9 Vr hz kc oB;go_wp2_with fail;refine bodyPost_ret (by simp[results,Tryz.results72,go_sem,t0,t1,t2,t3,KQ,Vn];try rfl) rfl ?_;rw[hf.out];exact H9.o.Mx (HW.o.trans aO.o) (JD _ _ _ _ _ _ _ _) (fun k hk=>by have h6:=uy.out;have h7:=HW3.o;simp at hk;omega)
           · skip
             have hf:Hd (rd s p=.err (s.size+1)):=by
              unfold Hd;rw[←qk.o];have h1:=ZO.o;have h2:=A9.o;have h3:=Ay.o;have h4:=Us.o;have h5:=R3.o;refine GZ Rz.o b9 (fun e=>h5.2 (sZ e)) (by have:=h5.1;omega) (fun e=>?_) (fun e=>?_) o3
              · unfold gN at e;simp at e;omega
              · unfold eC at e;simp at e;omega
             have k34:(c==34)=false:=by have h4:=Us.o;simp;omega
             clear o3;go_wp2_with fail;refine(HN.o q _ _ (HW.o.trans av.o) (by omega)).mono ?_;rintro e w9 ⟨v,rfl,(HF:Hd _),h2⟩;have HT:=ae (cS (av.o.trans h2));have H2:=ae h2;have uy:w.heap.size<w1.heap.size:=by have h5:=av.o.size;have e5:(w.alloc dm).heap.size=w.heap.size+1:=(by simp);omega
             obtain⟨t0,t1,t2,t3,g0,g1,g2,g3⟩:=HT.o;clear h2;go_wp2_with fail;refine bodyPost_ret (by simp[results,Tryz.results72,go_sem,t0,t1,t2,t3];try rfl) rfl ?_;rw[hf.out];exact fB (HW.o.trans av.o) HF.o H2.o (by omega) HM.o w.heap.size lr uy _ _ _ _
 · obtain rfl:q=s.size:=by omega
   have z0:(s.size:Int)≥(s.size:Int):=by omega
   have hf:Hd (rd s p=.tok (nY s)):=by unfold Hd;rw[←qk.o];exact Lh s _ lr
   have av:=ya;clear vm b9;go_wp2_with fail;refine(bh _ _ _ _ _).mono ?_;rintro e w9 ⟨rfl,cT⟩;have kc:=ae (cS (av.o.trans cT));have ql:=ae ((HW.o.trans av.o).trans cT);obtain⟨t0,t1,t2,t3,g0,g1,g2,g3⟩:=kc.o;clear cT;go_wp2_with fail;refine bodyPost_ret (by simp[results,Tryz.results72,go_sem,t0,t1,t2,t3];try rfl) rfl ?_;rw[hf.out];exact⟨ei ql.o lr _ _ _ _,rfl⟩
end Go.Proofs.YtnpjmhodfdgloaaGreatDoor
