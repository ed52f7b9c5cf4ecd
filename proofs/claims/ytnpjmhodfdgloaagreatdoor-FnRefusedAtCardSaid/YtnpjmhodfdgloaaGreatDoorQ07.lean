/- Part of the proof. -/
import Derived.WalkKit
import Derived.ProofKit
import Derived.KernelRfl
import Derived.WalkLawsBesides
import Derived.WalkSpells
import Derived.Handy
import Derived.Deep.RegionHeld3
import Derived.Deep.DrawnRows
import Derived.Deep.AppendLies
import Derived.Deep.LoopGhost
import Derived.Deep.QuietTactic
import Derived.BigQuiet
import Derived.Test.YtnpjmhodfdgloaaGreatDoorProg
import Derived.Test.YtnpjmhodfdgloaaGreatDoorQ06
set_option linter.unusedVariables false
set_option linter.unusedSimpArgs false
namespace Go.Proofs.YtnpjmhodfdgloaaGreatDoor
set_option maxRecDepth 100000
set_option maxHeartbeats 32000000
open Go.RowKit
def Up{α:Type}(x:SM α):Prop:=∀p,bd p≤bd (x p).2∧(1≤bd (x p).2∨p.pos≤(x p).2.pos)
def Mv{α:Type}(x:SM α):Prop:=∀p,bd p≤bd (x p).2∧(1≤bd (x p).2∨p.pos+1≤(x p).2.pos)
section
variable{α:Type}{l:List Tok}{p:Ps}
theorem Mv.up{x:SM α}(h:Mv x):Up x:=fun p=>by obtain⟨a,b⟩:=h p;exact⟨a,by omega⟩
theorem mV{x:SM α}{Q:α→Ps→Prop}(t:Up x)(h:∀v q,bd p≤bd q→(1≤bd q∨p.pos≤q.pos)→Q v q):Wp x p Q:=h _ _ (t p).1 (t p).2
theorem xa{E e D d:Nat}{x:SM (List Nd)}(h:Tm 0 E e D d x):Up x:=fun p=>by
 obtain⟨a,b,_,_⟩:=h p;refine⟨a,?_⟩;have h1:=dG p;have h2:=dG (x p).2;by_cases hq:1≤bd (x p).2
 · exact .inl hq
 · have e1:bd (x p).2=0:=by omega
   have e2:bd p=0:=by omega
   rw[e1,e2] at b;exact .inr (by omega)
theorem Um{x:SM α}(h:∀p,Wp x p (fun v q=>bd p≤bd q∧(1≤bd q∨p.pos≤q.pos))):Up x:=h
theorem Jf{x:SM α}(h:∀p,Wp x p (fun v q=>bd p≤bd q∧(1≤bd q∨p.pos+1≤q.pos))):Mv x:=h
theorem K0{k:Int}{item:SM (List Nd)}(h:Up item):∀(m:Nat) (acc:List (List Nd)),Up (dE l k item m acc)
 | 0,acc=>fun p=>⟨lr,.inr lr⟩
 | m+1,acc=>fun p=>by
  unfold dE;rcases ia l p k with⟨e1,e2,e3⟩|⟨e1,e2⟩
  · rw[if_pos e1,e2];have tU:bd p=0:=iM e3;have hi:=h {p with pos:=p.pos+1};have gP:bd {p with pos:=p.pos+1}=0:=tU;have ih:=K0 (k:=k) h m (acc++[(item {p with pos:=p.pos+1}).1]) (item {p with pos:=p.pos+1}).2;generalize dE l k item m (acc++[(item {p with pos:=p.pos+1}).1]) (item {p with pos:=p.pos+1}).2=r at *;simp only at hi;omega
  · rw[if_neg (by rw[e1];decide)];exact⟨lr,.inr lr⟩
theorem JZ{en:Int}{item:SM (List Nd)}(h:Up item):∀(m:Nat) (acc:List (List Nd)),Up (dk l en item m acc)
 | 0,acc=>fun p=>⟨lr,.inr lr⟩
 | m+1,acc=>fun p=>by
  unfold dk;by_cases hb:p.bad=true
  · rw[if_pos hb];exact⟨lr,.inr lr⟩
  · rw[if_neg hb];rcases ia l p en with⟨e1,e2,e3⟩|⟨e1,e2⟩
    · rw[if_pos e1,e2];exact⟨lr,.inr (Nat.le_succ _)⟩
    · rw[if_neg (by rw[e1];decide)];have hi:=h p;have ih:=JZ (en:=en) h m (acc++[(item p).1]) (item p).2;have b2:=dG (item p).2;have b3:=dG (dk l en item m (acc++[(item p).1]) (item p).2).2;generalize dk l en item m (acc++[(item p).1]) (item p).2=r at *;omega
theorem JY{en:Int}{item:SM (List Nd)}(h:Up item)(m:Nat)(acc:List (List Nd)):Up (cV l en item m acc):=fun p=>by
 unfold cV;by_cases hb:p.bad=true
 · rw[if_pos hb];exact⟨lr,.inr lr⟩
 · rw[if_neg hb];have hi:=h p;have ih:=JZ (l:=l) (en:=en) h m (acc++[(item p).1]) (item p).2;have b1:=dG p;have b2:=dG (item p).2;have b3:=dG (dk l en item m (acc++[(item p).1]) (item p).2).2;generalize dk l en item m (acc++[(item p).1]) (item p).2=r at *;omega
variable(l)
theorem Dt:∀(m:Nat) (first:Bool) (acc:List (List Nd)),Up (cF l m first acc)
 | 0,first,acc=>fun p=>⟨lr,.inr lr⟩
 | m+1,first,acc=>fun p=>by
  unfold cF;by_cases hb:p.bad=true
  · simp only[if_pos hb];exact⟨lr,.inr lr⟩
  · simp only[if_neg hb];by_cases hf:first=false∧(ay l 14 p).1=true
    · simp only[if_pos hf];rcases ia l p 14 with⟨e1,e2,e3⟩|⟨e1,e2⟩
      · rw[e2];exact⟨lr,.inr (Nat.le_succ _)⟩
      · rw[e1] at hf;exact absurd hf.2 (by decide)
    · simp only[if_neg hf]
      have hp:(if first=true then p else(ay l 14 p).2)=p:=by
       cases first with
       | true=>rfl
       | false=>
        rcases ia l p 14 with⟨e1,e2,e3⟩|⟨e1,e2⟩
        · exact absurd ⟨rfl,e1⟩ hf
        · simp[e2]
      rw[hp];obtain⟨a1,a2,a3,a4⟩:=r6 l p;generalize aw l p=r1 at *;by_cases hw:aN r1.1=true
      · simp only[if_pos hw];obtain⟨b1,b2,b3,b4⟩:=zO l r1.2 7;generalize cr l 7 r1.2=r2 at *;obtain⟨c1,c2,c3,c4⟩:=r6 l r2.2;generalize aw l r2.2=r3 at *;have ih:=Dt m false (acc++[made {kind:=25,text:=r1.1,name:=r3.1} []]) r3.2;generalize cF l m false (acc++[made {kind:=25,text:=r1.1,name:=r3.1} []]) r3.2=r at *;omega
      · simp only[if_neg hw];have e1:=jL {r1.2 with pos:=r1.2.pos-1};have tU:=dG p;exact⟨by show bd p≤bd (db {r1.2 with pos:=r1.2.pos-1});rw[e1];exact tU,.inl (Nat.le_of_eq e1.symm)⟩
theorem ups(text:List Nd):Up (dx l)∧Up (iQ l text)∧Up (do let n ←aw l;let d ←ao l true;pure (made {kind:=26,name:=n} [text,d]):SM (List Nd))∧Up (fY l text) ∧
 Up (do let n ←aw l;let imp ←cR l 0 cN;aL imp;let d ←ao l true;let f ←hZ l;pure (made {kind:=31,name:=n} [text,d,f]):SM (List Nd))∧Up (lY l text)∧Up (hJ l text) ∧
 Up (do let n ←aw l;let d ←ao l true;let i ←fX l 12 14;pure (made {kind:=36,name:=n} [text,d,i]):SM (List Nd))∧Up (ir l text)∧Mv (eF l)∧Mv (do let x ←aI l 62;pure (made {kind:=2,text:=hO,flag:=1} [x]):SM (List Nd)):=by
 have u1:=xa (az l true);have u2:=xa (az l false);have u3:=xa (dI l 62);have u4:=xa (pr l);have u5:=xa (kW l 12 14);have u6:=xa (kW l 4 5);have u7:=xa (oZ l);have u8:=xa (pY l 28);have u9:=xa (pY l 33);have u10:=xa (qL l)
 have u11:Up (do
  let about ←bB l
  let s ←aw l
  aL (decide (s=qR)||decide (s=mS)||decide (s=qP))
  let d ←ao l true
  pure (made {kind:=35,name:=s} [about,d]):SM (List Nd)):=by
  refine Um fun p=>?_;refine wp_bind (zo fun v q a1 a2 a3=>?_);refine wp_bind (tu fun s q2 b1 b2 b3 b4=>?_);refine wp_bind (pw fun q3 c1 c2 c3=>?_);refine wp_bind (mV u1 fun v q4 d1 d2=>?_);refine wp_pure ?_;omega
 have u12:Mv (aI l 62):=by
  have ih:=oY l (dI l 61)
  have h1:=JY (l:=l) (en:=14) (item:=cG l (aI l 61)) (fun p=>by
   obtain⟨a,b,_,_⟩:=ih p;refine⟨a,?_⟩;have h1:=dG p;have h2:=dG (cG l (aI l 61) p).2;by_cases hq:1≤bd (cG l (aI l 61) p).2
   · exact .inl hq
   · have e1:bd (cG l (aI l 61) p).2=0:=by omega
     have e2:bd p=0:=by omega
     rw[e1,e2] at b
     exact .inr (by omega)) (many l) []
  unfold aI;refine Jf fun p=>?_;have b0:=dG p;refine wp_bind (Dx (fun q a1 a2 a3 a4=>?_) (fun q a1 a2 a3=>?_))
  · refine gr (fun _=>?_) (fun h=>absurd rfl h);refine wp_bind (Bp fun q2 b1 b2 b3 b4=>?_);refine wp_bind (Bq fun q3 c1 c2 c3=>?_);refine wp_bind (mV h1 fun v q4 d1 d2=>?_);refine wp_bind (K2 fun q5 e1 e2 e3=>?_);refine wp_pure ?_;have b5:=dG q5;have b3:=dG q3;omega
  · refine gr (fun h=>absurd h (by decide)) (fun _=>?_);refine wp_pure ?_;omega
 refine⟨?_,?_,?_,?_,?_,?_,?_,?_,?_,?_,?_⟩
 case refine_11=>refine Jf fun p=>?_;refine wp_bind ?_;obtain⟨a,b⟩:=u12 p;refine wp_mono (Q:=fun _ q=>bd p≤bd q∧(1≤bd q∨p.pos+1≤q.pos)) ⟨a,b⟩ fun v q h=>wp_pure h
 case refine_10=>
  unfold eF;refine Jf fun p=>?_;have b0:=dG p;refine wp_bind (tu fun s q2 b1 b2 b3 b4=>?_);refine wp_bind (vP fun k=>?_);refine wp_bind ?_;have b5:=dG q2;refine gr (fun _=>tu fun s q3 c1 c2 c3 c4=>?_) (fun _=>wp_pure ?_)
  all_goals refine wp_bind (mV u7 fun v q4 d1 d2=>?_);refine wp_bind (mV u2 fun v q5 e1 e2=>?_);refine wp_bind (mV u3 fun v q6 f1 f2=>?_);refine wp_pure ?_;have b6:=dG q4;have b7:=dG q5;have b8:=dG q6;omega
 all_goals
  first| unfold dx|unfold iQ|unfold fY|unfold lY|unfold hJ|unfold ir|skip
  refine Um fun p=>?_;have b0:=dG p
  repeat' first
   | with_reducible refine wp_bind ?_
   | with_reducible refine tu fun _ q _ _ _ _=>?_
   | with_reducible refine Bp fun q _ _ _ _=>?_
   | with_reducible refine Bq fun q _ _ _=>?_
   | with_reducible refine K3 (fun _ _ _ _ _=>?_) ?_
   | with_reducible refine pw fun _ _ _ _=>?_
   | with_reducible refine MK fun _ _ _ _=>?_
   | with_reducible refine vP fun _=>?_
   | with_reducible refine Hy fun _=>?_
   | with_reducible refine QU fun _=>?_
   | with_reducible refine wp_move fun _ _ _ _=>?_
   | with_reducible refine qT fun _ _ _ _ _=>?_
   | with_reducible refine Hx (fun _ _ _ _ _=>?_) (fun _ _ _ _ _=>?_)
   | with_reducible refine mV ‹Up _› fun _ _ _ _=>?_
   | with_reducible refine mV (K0 ‹Up _› _ _) fun _ _ _ _=>?_
   | with_reducible refine mV (JY ‹Up _› _ _) fun _ _ _ _=>?_
   | with_reducible refine wp_pure ?_
   | with_reducible refine gr (fun h=>?_) (fun h=>?_)
   | (refine mV (Dt l _ _ _) fun o _ _ _=>?_;cases o)
 all_goals omega
theorem SH(text:List Nd)(w:ByteArray):Mv (CX l text w):=by
 obtain⟨h2,h3,h4,h5,h6,h7,h8,h9,jq,h1,_⟩:=ups l text;have AH:=(ups l []).2.2.2.1;unfold CX;refine Jf fun p=>?_;refine wp_bind (pw fun q1 a1 a2 a3=>?_);refine wp_bind (tu fun w q2 c1 c2 c3 c4=>?_);refine gr (fun _=>wp_bind (Bo fun q3 d1 d2 d3=>?_)) (fun _=>?_)
 · obtain⟨g1,g2⟩:=h1 q3;refine wp_mono (Q:=fun _ q=>bd q3≤bd q∧(1≤bd q∨q3.pos+1≤q.pos)) ⟨g1,g2⟩ fun v q h=>?_;omega
 refine gr (fun _=>mV h2 fun v q f1 f2=>by omega) (fun _=>?_);refine gr (fun _=>mV h3 fun v q f1 f2=>by omega) (fun _=>?_);refine gr (fun _=>mV h4 fun v q f1 f2=>by omega) (fun _=>?_);refine gr (fun _=>mV h5 fun v q f1 f2=>by omega) (fun _=>?_);refine gr (fun _=>mV h6 fun v q f1 f2=>by omega) (fun _=>?_);refine gr (fun _=>mV h7 fun v q f1 f2=>by omega) (fun _=>?_);refine gr (fun _=>mV h8 fun v q f1 f2=>by omega) (fun _=>?_);refine gr (fun _=>mV h9 fun v q f1 f2=>by omega) (fun _=>?_);refine gr (fun _=>mV jq fun v q f1 f2=>by omega) (fun _=>?_);refine gr (fun _=>?_) (fun _=>?_)
 · refine wp_bind (Hy fun b=>?_);refine wp_bind (pw fun q3 d1 d2 d3=>?_);refine gr (fun _=>qT fun q f1 f2 f3 f4=>by omega) (fun _=>?_);refine wp_bind (wp_move fun q4 e1 e2 e3=>?_);refine wp_bind (mV AH fun v q f1 f2=>?_);refine wp_pure ?_;omega
 · refine wp_bind (Bo fun q3 d1 d2 d3=>qT fun q f1 f2 f3 f4=>?_);omega
theorem Ed:Mv (dX l):=by
 obtain⟨_,_,_,_,_,_,_,_,_,_,h1⟩:=ups l [];rw[pO];refine Jf fun p=>?_;refine wp_bind (vP fun q=>?_);refine gr (fun _=>h1 p) (fun _=>?_)
 have TT:∀text p0,p.pos+text.length≤p0.pos→bd p0=bd p→Wp (oa l text) p0 (fun _ q=>bd p≤bd q∧(1≤bd q∨p.pos+1≤q.pos)):=fun text p0 hp hb=>by
  unfold oa;refine wp_bind (vP fun q=>?_);have b0:=dG p;refine gr (fun _=>qT fun q f1 f2 f3 f4=>by omega) (fun _=>?_);unfold wX Wp;by_cases hc:((aN (aX l p0.pos)||decide (aX l p0.pos=dV)||decide (aX l p0.pos=fZ))&&!text.isEmpty)=true
  · simp only[if_pos hc];have e1:=jL {p0 with pos:=p0.pos-1};exact⟨by show bd p≤bd (db {p0 with pos:=p0.pos-1});omega,.inl (by show 1≤bd (db {p0 with pos:=p0.pos-1});omega)⟩
  · simp only[if_neg hc];obtain⟨g1,g2⟩:=SH l text (aX l p0.pos) p0;omega
 refine wp_bind ?_;refine gr (fun _=>vc l fun v q f1 f2 f3=>?_) (fun _=>wp_pure ?_)
 · exact TT v q (by omega) f3
 · exact TT [] p (by simp) rfl
end
structure wH(l:List Tok)(R:List (List Nd)×Ps)(d0 m:Nat)(acc:List (List Nd))(q:Ps):Prop where
 eq:eg l m acc q=R
 fuel:q.bad=true∨l.length+1≤m+q.pos
 hi:q.bad=false→q.deep=d0
 lo:d0≤q.deep
 hu:q.deep≤d0+30
 sz:q.bad=false→acc.flatten.length≤2*q.pos
 zu:acc.flatten.length≤2*l.length+q.pos+50
 len:acc.length+m≤l.length+2
section
variable{l:List Tok}{R:List (List Nd)×Ps}{d0 m:Nat}{acc:List (List Nd)}{q q':Ps}{x:List Nd}
theorem wH.start:wH l (eg l (many l) [] q) q.deep (many l) [] q:=⟨rfl,.inr (by unfold many;omega),fun _=>rfl,lr,by omega,fun _=>by simp,by simp,by unfold many;simp⟩
theorem wH.end_(h:wH l R d0 m acc q)(hc:¬(q.bad=false∧q.pos<l.length)):R=(acc,q):=by
 rw[←h.eq]
 cases m with
 | zero=>rfl
 | succ m=>unfold eg;rw[if_neg hc]
theorem wH.next(h:wH l R d0 m acc q)(hb:q.bad=false)(hp:q.pos<l.length)(hi:dX l q=(x,q')):∃m',m=m'+1∧wH l R d0 m' (acc++[x]) q':=by
 obtain⟨i,rfl⟩:∃i,m=i+1:=by
  rcases h.fuel with h1|h1
  · rw[hb] at h1;cases h1
  · exact⟨m-1,by omega⟩
 obtain⟨t1,t2,t3,t4⟩:=Ex l q;obtain⟨g1,g2⟩:=Ed l q;rw[hi] at t1 t2 t3 t4 g1 g2;have b0:bd q=0:=iM hb;have bq:=dG q';have h1:=h.sz hb;have h2:=h.lo;have h3:=h.hi hb;have h5:=h.len
 have h4:l.length+1≤i+1+q.pos:=by
  rcases h.fuel with h1|h1
  · rw[hb] at h1;cases h1
  · exact h1
 rw[b0] at t1 t2 t4 g1;simp only at t1 t2 t3 t4 g1 g2;refine⟨i,rfl,?_,?_,fun hq=>?_,by omega,by omega,fun hq=>?_,?_,by simp;omega⟩
 · rw[←h.eq]
   conv=>rhs;unfold eg
   rw[if_pos ⟨hb,hp⟩,hi]
 · cases hq:q'.bad with
   | true=>exact .inl rfl
   | false=>have:=iM hq;exact .inr (by omega)
 · have:=iM hq;omega
 · rw[List.flatten_append,List.length_append,List.flatten_singleton];have:=iM hq;omega
 · rw[List.flatten_append,List.length_append,List.flatten_singleton];omega
end
structure Sm(X:List Nat)(w w':World):Prop where
 os:w'.os=w.os
 tape:w'.tape=w.tape
 output:w'.output=w.output
 size:w.heap.size≤w'.heap.size
 block:∀k,k<w.heap.size→k∉X→w'.heap[k]?=w.heap[k]?
variable{X Y:List Nat}{w a b c w1 w2 w3:World}
theorem Sm.refl(X:List Nat)(w:World):Sm X w w:=⟨rfl,rfl,rfl,Nat.le_refl _,fun _ _ _=>rfl⟩
theorem sr{X:List Nat}{w:World}:Sm X w w:=Sm.refl X w
theorem Sm.trans(h:Sm X a b)(k:Sm X b c):Sm X a c:=
 ⟨k.os.trans h.os,k.tape.trans h.tape,k.output.trans h.output,Nat.le_trans h.size k.size,fun i hi hx=>(k.block i (Nat.lt_of_lt_of_le hi h.size) hx).trans (h.block i hi hx)⟩
theorem Sm.mono(h:Sm X a b)(hx:∀k,k∈X→k∈Y):Sm Y a b:=⟨h.os,h.tape,h.output,h.size,fun i hi hy=>h.block i hi fun e=>hy (hx i e)⟩
theorem Sm.of_nil(h:Sm [] a b):Sm X a b:=h.mono (fun k e=>by cases e)
theorem Sm.forget(h:Sm Y b c)(k:Sm X a b)(hy:∀p,p∈Y→p∈X∨a.heap.size≤p):Sm X a c:=
 ⟨h.os.trans k.os,h.tape.trans k.tape,h.output.trans k.output,Nat.le_trans k.size h.size,fun i hi hx=>
  (h.block i (Nat.lt_of_lt_of_le hi k.size) fun e=>(hy i e).elim hx (by omega)).trans (k.block i hi hx)⟩
theorem Sm.drew(h:Sm X a b):Sm X a b.drew:=⟨h.os,h.tape,h.output,h.size,h.block⟩
theorem Sm.drewN(h:Sm X a b)(n:Nat):Sm X a (b.drewN n):=⟨h.os,h.tape,h.output,h.size,h.block⟩
theorem Sm.Zj(h:Sm X a.drew b):Sm X a b:=⟨h.os,h.tape,h.output,h.size,h.block⟩
theorem Sm.alloc(h:Sm X a b)(o:Obj):Sm X a (b.alloc o):=
 h.trans ⟨rfl,rfl,rfl,by simp,fun k hk _=>Below.heap_alloc _ _ _ hk⟩
theorem Sm.setCell(h:Sm X a b){p:Addr}(hp:a.heap.size≤p.block∨p.block∈X)(u:Value):Sm X a (b.setCell p u):=
 ⟨h.os,h.tape,h.output,by simpa using h.size,fun k hk hx=>(Below.heap_setCell _ _ _ _ (fun e=>by rcases hp with hp|hp;omega;exact hx (e ▸ hp))).trans (h.block k hk hx)⟩
theorem Sm.Jm(h:Below a.heap.size a b):Sm X a b:=⟨h.os,h.tape,h.output,h.size,fun k hk _=>h.block k hk⟩
theorem Sm.below(h:Sm [] a b):Below a.heap.size a b:=⟨h.os,h.tape,h.output,h.size,fun k hk=>h.block k hk (by simp)⟩
theorem Sm.grown{row:Option Nat}(h:Sm X a b)(hg:b.grownBy c row)(hr:∀k,row=some k→a.heap.size≤k∨k∈X):Sm X a c:=
 ⟨hg.os.trans h.os,hg.tape.trans h.tape,hg.output.trans h.output,Nat.le_trans h.size hg.size,fun k hk hx=>
  (hg.block k (Nat.lt_of_lt_of_le hk h.size) (fun e=>by rcases hr k e.symm with h'|h';omega;exact hx h')).trans (h.block k hk hx)⟩
theorem zc{w:World}{p:Addr}{u:Value}(h:w.cell? p=some u)(k:Nat):(w.setCell p u).heap[k]?=w.heap[k]?:=by
 simp only[World.setCell,Array.getElem?_modify];split
 · rename_i hk;subst hk;unfold World.cell? at h
   cases hb:w.heap[p.block]? with
   | none=>rfl
   | some o=>
    simp only[hb] at h
    cases o with
    | cells cs e f=>
     simp only[Option.map_some];congr 2
     cases hs:p.spot.isSome with
     | true=>simp
     | false=>
      simp only[hs] at h;have h':cs[p.off]?=some u:=by simpa using h
      obtain⟨b9,he⟩:=Array.getElem?_eq_some_iff.1 h';simp only[Bool.false_eq_true,if_false]
      rw[Array.setIfInBounds_def,dif_pos b9,←he,Array.set_getElem_self]
    | _=>rfl
 · rfl
theorem Sm.zc(h:Sm X a b){p:Addr}{u:Value}(hc:b.cell? p=some u):Sm X a (b.setCell p u):=
 ⟨h.os,h.tape,h.output,by simpa using h.size,fun k hk hx=>(Go.Proofs.YtnpjmhodfdgloaaGreatDoor.zc hc k).trans (h.block k hk hx)⟩
theorem Sm.cell(h:Sm X a b){p:Addr}(hp:p.block<a.heap.size)(hx:p.block∉X):b.cell? p=a.cell? p:=World.cell?_of_block (w:=a) (h.block _ hp hx)
theorem Sm.sn(h:Sm X a b){p:Addr}(hp:p.block<a.heap.size)(hx:p.block∉X):b.frozen? p=a.frozen? p:=World.frozen?_of_block (w:=a) (h.block _ hp hx)
theorem Sm.keeps(h:Sm X a b){p:Addr}{v:Value}(hc:a.cell? p=some v)(hx:p.block∉X):b.cell? p=some v:=(h.cell (World.block_lt_of_cell? a _ hc) hx).trans hc
theorem Sm.obj(h:Sm X a b){k:Nat}{o:Obj}(hc:a.heap[k]?=some o)(hx:k∉X):b.heap[k]?=some o:=(h.block k (lt_of_block hc) hx).trans hc
theorem cell_of{w:World}{k:Nat}{cs:Array Value}{t:TypeId}{i:Nat}{v:Value}(h:w.heap[k]?=some (.cells cs t (0,0)))(hi:cs[i]?=some v):w.cell? ⟨k,i,none⟩=some v:=by simp[World.cell?,h,hi]
theorem aF{w:World}{k:Nat}{cs:Array Value}{t:TypeId}(h:w.heap[k]?=some (.cells cs t (0,0)))(i:Nat):w.frozen? ⟨k,i,none⟩=false:=by simp[World.frozen?,h]
theorem ai(w:World)(o:Obj):(w.alloc o).heap[w.heap.size]?=some o:=heap_alloc_new w o
theorem wW{w:World}{k:Nat}{o':Obj}(h:w.heap[k]?=some o')(o:Obj):(w.alloc o).heap[k]?=some o':=by rw[Below.heap_alloc _ _ _ (lt_of_block h)];exact h
theorem dw{w:World}{k:Nat}{cs:Array Value}{t:TypeId}{f:Nat×Nat}(h:w.heap[k]?=some (.cells cs t f))(i:Nat)(v:Value) :
 (w.setCell ⟨k,i,none⟩ v).heap[k]?=some (.cells (cs.setIfInBounds i v) t f):=by
 simp[World.setCell,Array.getElem?_modify,h]
theorem aP{w:World}{k:Nat}{o:Obj}(h:w.heap[k]?=some o){p:Addr}(hp:k≠p.block)(v:Value):(w.setCell p v).heap[k]?=some o:=by rw[Below.heap_setCell _ _ _ _ hp];exact h
theorem zt(a b:ByteArray):(a.toList==b.toList)=decide (a=b):=by rw[Bool.eq_iff_iff,beq_iff_eq,decide_eq_true_iff,ByteArray.toList_eq,ByteArray.toList_eq];exact⟨fun h=>Go.WideShapes.bytes_inj h,fun h=>by rw[h]⟩
section
variable{P:Program}{ops:Array Oper}{rest:List Oper}{o:Oper}{ac:Act}{Q:Exit→Act→World→Prop}{W:World}
theorem fe{row:Option Nat}{ob:Obj}{w':World}(h:(W.alloc ob).grownBy w' row):W.grownBy w' row:=
 World.grownBy.trans (World.grownBy_alloc W _ _) h
theorem gH(base:Nat)(ux:o.guard=none)(s x:Operand)(t:TypeId)
 (ho:o.op=.call {callee:=.builtin .append,args:=#[s,x],argTypes:=#[t,t]})
 (e:TypeId) (z:Value) (size bytes:Nat) (ht:P.underlying t=some (.slice e)) (rD:(P.info? e).map (fun i=>(i.zero,i.size,i.bytes))=some (some z,size,bytes))
 (hz:z.cells.size=size) (om:0<size) (V3:0<bytes) (v:Value) (n:Nat) (xs:List Value) (hs:ac.eval s=v) (aJ:W.ownsRow base e size v n xs)
 (cs:Array Value) (hx:ac.eval x=.slice (some ⟨W.heap.size,0,none⟩) 1 1) (hcs:cs.size=size) (h1:∀u∈cs.toList,u.oneCell'=true)
 (lj:(n+1)*bytes≤140737488355328) (cv:base≤W.heap.size)
 (h:∀g cap w',w'.ownsRow base e size (.slice (some ⟨g,0,none⟩) (n+1) cap) (n+1) (xs++cs.toList)→W.grownBy w' v.ownBlock→(v.ownBlock=some g∨g=W.heap.size+1)→g<w'.heap.size →
  wpList P ops Q rest (ac.put o.dst (.slice (some ⟨g,0,none⟩) (n+1) cap)) w') :
 wpList P ops Q (o :: rest) ac (W.alloc (.cells cs e)):=by
 obtain⟨i0,hi,PT⟩:=Option.map_eq_some_iff.1 rD;simp only[Prod.mk.injEq] at PT;obtain⟨Vu,Vv,Rh⟩:=PT;have hn:n+1≤140737488355328:=Nat.le_trans (Nat.le_mul_of_pos_right _ V3) lj
 refine wpList_append_lies (W.alloc (.cells cs e)) ux s x t ho base e i0 z size bytes ht hi Vu Vv Rh hz om v n xs hs (aJ.alloc _) ⟨W.heap.size,0,none⟩ 1 1 cs.toList hx (by simpa using hcs)
  (World.news_of_block (heap_alloc_new W _)) h1 (by omega) (by simp only[maxLen];omega) lj (by simp;omega) (W.heap.size+1) (by simp) ?_
 intro g cap w' h2 h3 h4 h5;exact h g cap w' h2 (fe h3) h4 h5
end
theorem ae{p:Prop}(h:p):Hd p:=h
def mz(lo hi:Nat)(w w':World):Prop:=∀k,lo≤k→k<hi→w'.heap[k]?=w.heap[k]?
theorem mz.refl(lo hi:Nat)(w:World):mz lo hi w w:=fun _ _ _=>rfl
theorem mz.sub{lo hi Bk rC:Nat}{w w':World}(h:mz lo hi w w')(h1:lo≤Bk)(h2:rC≤hi):mz Bk rC w w':=fun k a b=>h k (Nat.le_trans h1 a) (Nat.lt_of_lt_of_le b h2)
theorem mz.Qi{X:List Nat}{w w':World}(h:Sm X w w'){lo hi:Nat}(hh:hi≤w.heap.size)(hx:∀k,k∈X→k<lo):mz lo hi w w':=fun k a b=>h.block k (Nat.lt_of_lt_of_le b hh) (fun e=>by have:=hx k e;omega)
theorem mz.cell{lo hi b o:Nat}{w w':World}(h:mz lo hi w w')(h1:lo≤b)(h2:b<hi):w'.cell? ⟨b,o,none⟩=w.cell? ⟨b,o,none⟩:=World.cell?_of_block (w:=w) (h b h1 h2)
structure au(α:Type) where
 rd:Nat→Nat→World→Value→α→Prop
 keep:∀{lo hi:Nat} {w w':World} {v:Value} {x:α},rd lo hi w v x→mz lo hi w w'→rd lo hi w' v x
 wide:∀{lo hi Bk rC:Nat} {w:World} {v:Value} {x:α},rd lo hi w v x→Bk≤lo→hi≤rC→rd Bk rC w v x
section
variable{α:Type}(R:au α)
def Bs(base:Nat)(w:World)(own:Option Nat)(v:Value)(x:α):Prop:=
 ∃lo hi,base≤lo∧hi≤w.heap.size∧(∀g,own=some g→¬(lo≤g∧g<hi))∧R.rd lo hi w v x
inductive bP(base:Nat)(w:World)(own:Option Nat):List Value→List α→Prop
 | nil:bP base w own [] []
 | snoc {vs:List Value} {xs:List α} {v:Value} {x:α}:bP base w own vs xs→Bs R base w own v x→bP base w own (vs++[v]) (xs++[x])
variable{R}
theorem bP.len{base:Nat}{w:World}{own:Option Nat}{vs:List Value}{xs:List α}(h:bP R base w own vs xs):vs.length=xs.length:=by
 induction h with
 | nil=>rfl
 | snoc _ _ ih=>simp[ih]
theorem Bs.grown{base:Nat}{w w':World}{own own':Option Nat}{v:Value}{x:α}(h:Bs R base w own v x)(hs:w.heap.size≤w'.heap.size)(hb:∀k,base≤k→k<w.heap.size→some k≠own→w'.heap[k]?=w.heap[k]?)
 (ho:∀g,own'=some g→own=some g∨w.heap.size≤g):Bs R base w' own' v x:=by
 obtain⟨lo,hi,h1,h2,h3,h4⟩:=h;refine⟨lo,hi,h1,by omega,fun g hg Be=>?_,R.keep h4 (fun k a b=>hb k (by omega) (by omega) (fun e=>h3 k e.symm ⟨a,b⟩))⟩;rcases ho g hg with e|e
 · exact h3 g e Be
 · omega
theorem bP.grown{base:Nat}{w w':World}{own own':Option Nat}{vs:List Value}{xs:List α}(h:bP R base w own vs xs)(hs:w.heap.size≤w'.heap.size)(hb:∀k,base≤k→k<w.heap.size→some k≠own→w'.heap[k]?=w.heap[k]?)
 (ho:∀g,own'=some g→own=some g∨w.heap.size≤g):bP R base w' own' vs xs:=by
 induction h with
 | nil=>exact .nil
 | snoc _ h ih=>exact .snoc ih (h.grown hs hb ho)
theorem bP.push{base n g:Nat}{e:TypeId}{w W w':World}{v u:Value}{x:α}{vs:List Value}{xs:List α}(h:bP R base w v.ownBlock vs xs)(hs:w.heap.size≤W.heap.size)(hW:∀k,base≤k→k<w.heap.size→W.heap[k]?=w.heap[k]?)
 (aJ:w.ownsRow base e 1 v n vs) (hg:W.grownBy w' v.ownBlock) (bV:v.ownBlock=some g∨W.heap.size≤g) {lo hi:Nat} (hb:base≤w.heap.size) (vl:w.heap.size≤lo) (hhi:hi≤W.heap.size) (hu:R.rd lo hi W u x) :
 bP R base w' (some g) (vs++[u]) (xs++[x]):=by
 have b9:∀b,v.ownBlock=some b→b<w.heap.size:=fun b mW=>(aJ.lt b mW).2;refine .snoc (h.grown (by have:=hg.size;omega) (fun k k0 k1 k2=>(hg.block k (by omega) (fun e=>k2 e)).trans (hW k k0 k1)) (fun g' e=>?_)) ?_
 · cases e
   rcases bV with h1|h1
   · exact .inl h1
   · exact .inr (by omega)
 · refine⟨lo,hi,by omega,by have:=hg.size;omega,fun g' e Be=>?_,R.keep hu (fun k k1 k2=>hg.block k (by omega) (fun e=>?_))⟩
   · cases e
     rcases bV with h1|h1
     · have:=b9 g h1;omega
     · omega
   · have:=b9 k e.symm;omega
theorem bP.sm{X:List Nat}{base:Nat}{w w':World}{own:Option Nat}{vs:List Value}{xs:List α}(h:bP R base w own vs xs)(s:Sm X w w')(hx:∀k,k∈X→k<base):bP R base w' own vs xs:=by
 induction h with
 | nil=>exact .nil
 | snoc _ h ih=>refine .snoc ih ?_;obtain⟨lo,hi,h1,h2,h3,h4⟩:=h;exact⟨lo,hi,h1,Nat.le_trans h2 s.size,h3,R.keep h4 (mz.Qi s h2 (fun k e=>by have:=hx k e;omega))⟩
theorem bP.get{base:Nat}{w:World}{own:Option Nat}{vs:List Value}{xs:List α}(h:bP R base w own vs xs):∀i (hi:i<xs.length),∃v,vs[i]?=some v∧Bs R base w own v xs[i]:=by
 induction h with
 | nil=>intro i hi;simp at hi
 | snoc h0 h ih=>
  intro i hi;have hl:=h0.len;rename_i vs xs v x;by_cases e:i<xs.length
  · obtain⟨u,h1,h2⟩:=ih i e;refine⟨u,?_,?_⟩
    · rw[List.getElem?_append_left (by omega)];exact h1
    · rw[List.getElem_append_left e];exact h2
  · have:i=xs.length:=by simp at hi;omega
    subst this;refine⟨v,by rw[←hl];simp,?_⟩;simpa using h
def au.list(R:au α):au (List α) where
 rd lo hi w v xs:=∃a cap,v=.slice a xs.length cap∧xs.length≤cap∧cap≤maxLen ∧
  ∀i (h:i<xs.length),∃b o u,a=some ⟨b,o,none⟩∧lo≤b∧b<hi∧w.cell? ⟨b,o+i,none⟩=some u∧R.rd lo hi w u xs[i]
 keep:=by rintro lo hi w w' v xs ⟨a,cap,rfl,h1,h2,h3⟩ hs;refine⟨a,cap,rfl,h1,h2,fun i h=>?_⟩;obtain⟨b,o,u,h4,h5,h6,h7,h8⟩:=h3 i h;exact⟨b,o,u,h4,h5,h6,(hs.cell h5 h6).trans h7,R.keep h8 hs⟩
 wide:=by rintro lo hi Bk rC w v xs ⟨a,cap,rfl,h1,h2,h3⟩ l1 l2;refine⟨a,cap,rfl,h1,h2,fun i h=>?_⟩;obtain⟨b,o,u,h4,h5,h6,h7,h8⟩:=h3 i h;exact⟨b,o,u,h4,by omega,by omega,h7,R.wide h8 l1 l2⟩
theorem zs(g i:Nat):(⟨g,0,none⟩:Addr).add i=⟨g,i,none⟩:=by unfold Addr.add;split<;>simp_all
theorem cW{base n:Nat}{w:World}{e:TypeId}{v:Value}{vs:List Value}{xs:List α}(h:w.ownsRow base e 1 v n vs)(he:bP R base w v.ownBlock vs xs):(au.list R).rd base w.heap.size w v xs:=by
 have hl:=he.len;have hn:n=xs.length:=by have:=h.1;omega
 subst hn;have h':=h;rcases h.2 with⟨rfl,h0⟩|⟨g,cap,cur,rfl,hb,hh,h1,h2,h3,h4⟩
 · exact⟨none,0,by rw[h0],by omega,by simp[maxLen],fun i hi=>by omega⟩
 · refine⟨_,cap,rfl,h1,h2,fun i hi=>?_⟩;obtain⟨u,hu,lo,rC,l1,l2,_,l4⟩:=he.get i hi;have:=h'.cells (g:=g) rfl i u hu;rw[zs] at this;exact⟨g,0,u,rfl,hb,lt_of_block hh,by simpa using this,R.wide l4 l1 l2⟩
theorem au.sm{X:List Nat}{lo hi:Nat}{w w':World}{v:Value}{x:α}(h:R.rd lo hi w v x)(s:Sm X w w')(hh:hi≤w.heap.size)(hx:∀k,k∈X→k<lo):R.rd lo hi w' v x:=R.keep h (mz.Qi s hh hx)
end
section
variable{P:Program}{ops:Array Oper}{rest:List Oper}{o:Oper}{ac:Act}{Q:Exit→Act→World→Prop}{W:World}
theorem Is(base:Nat)(ux:o.guard=none)(s x:Operand)(t:TypeId)
 (ho:o.op=.call {callee:=.builtin .append,args:=#[s,x],argTypes:=#[t,t]})
 (e:TypeId) (z:Value) (size bytes:Nat) (ht:P.underlying t=some (.slice e)) (rD:(P.info? e).map (fun i=>(i.zero,i.size,i.bytes))=some (some z,size,bytes))
 (hz:z.cells.size=size) (om:0<size) (V3:0<bytes) (v:Value) (n:Nat) (xs:List Value) (hs:ac.eval s=v) (aJ:W.ownsRow base e size v n xs)
 (cs:Array Value) (nb:Nat) (hx:ac.eval x=.slice (some ⟨nb,0,none⟩) 1 1) (fH:nb=W.heap.size) (hcs:cs.size=size) (h1:∀u∈cs.toList,u.oneCell'=true)
 (lj:(n+1)*bytes≤140737488355328) (cv:base≤W.heap.size)
 (h:∀g cap w',w'.ownsRow base e size (.slice (some ⟨g,0,none⟩) (n+1) cap) (n+1) (xs++cs.toList)→W.grownBy w' v.ownBlock→(v.ownBlock=some g∨g=W.heap.size+1)→g<w'.heap.size →
  wpList P ops Q rest (ac.put o.dst (.slice (some ⟨g,0,none⟩) (n+1) cap)) w') :
 wpList P ops Q (o :: rest) ac (W.alloc (.cells cs e)):=by
 subst fH;exact gH base ux s x t ho e z size bytes ht rD hz om V3 v n xs hs aJ cs hx hcs h1 lj cv h
end
section
def sz(l:List Nd)(i:Nat):Nat:=((l[i]?.map Nd.size).getD 0).toNat
def kd(l:List Nd)(i:Nat):Int:=(l[i]?.map Nd.kind).getD 0
def nm(l:List Nd)(i:Nat):ByteArray:=(l[i]?.map Nd.name).getD ByteArray.empty
def tx(l:List Nd)(i:Nat):ByteArray:=(l[i]?.map Nd.text).getD ByteArray.empty
theorem Z2r{l:List Nd}{i:Nat}(h:i<l.length):sz l i=l[i].size.toNat:=by simp[sz,h]
theorem Z2b{l:List Nd}{i:Nat}(h:i<l.length):kd l i=l[i].kind:=by simp[kd,h]
theorem Z2f{l:List Nd}{i:Nat}(h:i<l.length):nm l i=l[i].name:=by simp[nm,h]
theorem Z2t{l:List Nd}{i:Nat}(h:i<l.length):tx l i=l[i].text:=by simp[tx,h]
def Ch(l:List Nd)(k e:Nat):List Nat→Prop
 | []=>k=e
 | a :: ks=>a=k∧1≤sz l k∧k+sz l k≤e∧Ch l (k+sz l k) e ks
theorem Ch.le{l:List Nd}{e:Nat}{ks:List Nat}:∀{k:Nat},Ch l k e ks→k+ks.length≤e:=by
 induction ks with
 | nil=>intro k h;simp only[Ch] at h;simp;omega
 | cons a ks ih=>intro k h;obtain⟨_,h1,h2,h3⟩:=h;have:=ih h3;simp;omega
theorem Ch.append{l:List Nd}{m e:Nat}{xs ys:List Nat}:∀{k:Nat},Ch l k m xs→Ch l m e ys→Ch l k e (xs++ys):=by
 induction xs with
 | nil=>intro k h g;simp only[Ch] at h;subst h;exact g
 | cons a xs ih=>intro k h g;obtain⟨h0,h1,h2,h3⟩:=h;have:=g.le;exact⟨h0,h1,by omega,ih h3 g⟩
theorem Ch.one{l:List Nd}{k:Nat}(h:1≤sz l k):Ch l k (k+sz l k) [k]:=⟨rfl,h,lr,rfl⟩
theorem Ch.uniq{l:List Nd}{e:Nat}{xs:List Nat}:∀{k:Nat} {ys:List Nat},Ch l k e xs→Ch l k e ys→xs=ys:=by
 induction xs with
 | nil=>
  intro k ys h g;simp only[Ch] at h
  cases ys with
  | nil=>rfl
  | cons b ys=>obtain⟨_,g1,g2,g3⟩:=g;omega
 | cons a xs ih=>
  intro k ys h g;obtain⟨h0,h1,h2,h3⟩:=h
  cases ys with
  | nil=>simp only[Ch] at g;omega
  | cons b ys=>obtain⟨g0,_,_,g3⟩:=g;rw[h0,g0,ih h3 g3]
theorem Ch.mem{l:List Nd}{e:Nat}{ks:List Nat}:∀{k:Nat},Ch l k e ks→∀a,a∈ks→k≤a∧a<e∧1≤sz l a∧a+sz l a≤e:=by
 induction ks with
 | nil=>intro k h a ha;cases ha
 | cons b ks ih=>
  intro k h a ha;obtain⟨h0,h1,h2,h3⟩:=h
  cases ha with
  | head=>subst h0;omega
  | tail _ ha=>have:=ih h3 a ha;omega
def UH(l:List Nd)(a b:Nat):Prop:=∀i,a≤i→i<b→1≤sz l i∧i+sz l i≤b∧∃ks,Ch l (i+1) (i+sz l i) ks
open Classical in
noncomputable def kids (l:List Nd) (i:Nat):List Nat:=if h:∃ks,Ch l (i+1) (i+sz l i) ks then h.choose else[]
theorem Mp{l:List Nd}{i:Nat}(h:∃ks,Ch l (i+1) (i+sz l i) ks):Ch l (i+1) (i+sz l i) (kids l i):=by unfold kids;rw[dif_pos h];exact h.choose_spec
theorem Zg{l:List Nd}{i:Nat}{ks:List Nat}(h:Ch l (i+1) (i+sz l i) ks):kids l i=ks:=(Mp ⟨ks,h⟩).uniq h
structure Tree(l:List Nd):Prop where
 len:1≤l.length
 most:l.length≤400
 all:UH l 0 l.length
 root:sz l 0=l.length
theorem Tree.ch{l:List Nd}(h:Tree l){i:Nat}(hi:i<l.length):Ch l (i+1) (i+sz l i) (kids l i):=Mp (h.all i (Nat.zero_le _) hi).2.2
theorem Tree.Z11{l:List Nd}(h:Tree l){i:Nat}(hi:i<l.length):1≤sz l i:=(h.all i (Nat.zero_le _) hi).1
theorem Tree.Ul{l:List Nd}(h:Tree l){i:Nat}(hi:i<l.length):i+sz l i≤l.length:=(h.all i (Nat.zero_le _) hi).2.1
theorem Tree.kid{l:List Nd}(h:Tree l){i a:Nat}(hi:i<l.length)(ha:a∈kids l i):i<a∧a<l.length∧a+sz l a≤i+sz l i∧1≤sz l a:=by have h1:=(h.ch hi).mem a ha;have h2:=h.Ul hi;omega
theorem Tree.Yf{l:List Nd}(h:Tree l){i:Nat}(hi:i<l.length):(kids l i).length≤400:=by have h1:=(h.ch hi).le;have h2:=h.Ul hi;have h3:=h.most;omega
def isT(c:Int):Prop:=20≤c∧c≤22
def isV(c:Int):Prop:=11≤c∧c≤18
structure Shp(l:List Nd)(i:Nat):Prop where
 sel:kd l i=2∨kd l i=3∨kd l i=8→∃a,a∈kids l i∧kd l a=5
 var:kd l i=4→∃a,isT (kd l a)∧(kids l i=[a]∨∃b,isV (kd l b)∧kids l i=[a,b])
 Z4c:kd l i=5→∀a,a∈kids l i→kd l a=6∨kd l a=7∨kd l a=8
 arg:kd l i=9∨kd l i=19→∃a,isV (kd l a)∧kids l i=[a]
 list:kd l i=17→∀a,a∈kids l i→isV (kd l a)
 obj:kd l i=18→∀a,a∈kids l i→kd l a=19
 Z2s:kd l i=21→∃a,isT (kd l a)∧kids l i=[a]
 Z4d:kd l i=22→∃a,isT (kd l a)∧kd l a≠22∧kids l i=[a]
structure Frm(l:List Nd)(i:Nat):Prop where
 op:kd l i=2→tx l i=hO∨tx l i=l7∨tx l i=ga
 Z3m:kd l i=3→nm l i≠ByteArray.empty∧tx l i≠ByteArray.empty
 name:kd l i=4∨kd l i=6∨kd l i=7∨kd l i=9∨kd l i=10∨kd l i=11∨kd l i=19∨kd l i=20→nm l i≠ByteArray.empty
structure Z1x(l:List Nd):Prop where
 tree:Tree l
 shp:∀i,i<l.length→Shp l i
 frm:∀i,i<l.length→Frm l i
 doc:kd l 0=1
 defs:∀a,a∈kids l 0→kd l a=2∨kd l a=3
end
def xi(w:World)(v:Value)(ks:List Nat):Prop:=
 ∃(a:Option Addr) (cap:Nat),v=.slice a ks.length cap∧ks.length≤cap∧cap≤maxLen ∧
  ∀i,i<ks.length→∃b o,a=some ⟨b,o,none⟩∧b<w.heap.size∧w.cell? ⟨b,o+i,none⟩=some (.int .i64 ((ks.getD i 0:Nat):Int))
def Gl(ks:List Nat):List Value:=ks.map fun(k:Nat)=>Value.int .i64 (k:Int)
theorem TW(a b:List Nat):Gl (a++b)=Gl a++Gl b:=by simp[Gl]
theorem Yc(a:List Nat):(Gl a).length=a.length:=by simp[Gl]
theorem Vw{w:World}{base n:Nat}{v:Value}{ks:List Nat}(h:w.ownsRow base 3 1 v n (Gl ks)):xi w v ks:=by
 have hn:n=ks.length:=by have:=h.1;simp[Gl] at this;omega
 subst hn;have h':=h;rcases h.2 with⟨rfl,h0⟩|⟨g,cap,cur,rfl,hb,hh,h1,h2,h3,h4⟩
 · refine⟨none,0,by rw[h0],by omega,by simp[maxLen],fun i hi=>by omega⟩
 · refine⟨_,cap,rfl,h1,h2,fun i hi=>⟨g,0,rfl,lt_of_block hh,?_⟩⟩;have:=h'.cells (g:=g) rfl i (.int .i64 ((ks.getD i 0:Nat):Int)) (by simp[Gl,List.getElem?_eq_getElem hi,List.getD_eq_getElem?_getD]);have ha:(⟨g,0,none⟩:Addr).add i=⟨g,0+i,none⟩:=by unfold Addr.add;split<;>simp_all
   rwa [ha] at this
theorem xi.sm{X:List Nat}{w w':World}{v:Value}{ks:List Nat}(h:xi w v ks)(s:Sm X w w')(hx:∀b o n c,v=.slice (some ⟨b,o,none⟩) n c→b∉X):xi w' v ks:=by obtain⟨a,cap,rfl,h1,h2,h3⟩:=h;refine⟨a,cap,rfl,h1,h2,fun i hi=>?_⟩;obtain⟨b,o,rfl,hb,hc⟩:=h3 i hi;exact⟨b,o,rfl,Nat.lt_of_lt_of_le hb s.size,s.keeps hc (hx b o _ _ rfl)⟩
theorem xi.cI{w w':World}{v:Value}{ks:List Nat}(h:xi w v ks)(s:Sm [] w w'):xi w' v ks:=h.sm s (by simp)
structure FH(w:World)(b o:Nat)(n:Nd):Prop where
 c0:w.cell? ⟨b,o,none⟩=some (.int .i64 n.kind)
 c1:w.cell? ⟨b,o+1,none⟩=some (.string n.name)
 c2:w.cell? ⟨b,o+2,none⟩=some (.string n.alias)
 c3:w.cell? ⟨b,o+3,none⟩=some (.string n.text)
 c4:w.cell? ⟨b,o+4,none⟩=some (.int .i64 n.flag)
 c5:w.cell? ⟨b,o+5,none⟩=some (.int .i64 n.size)
def A8(w:World)(b o:Nat)(l:List Nd):Prop:=∀i (h:i<l.length),FH w b (o+i*6) l[i]
theorem FH.sm{X:List Nat}{w w':World}{b o:Nat}{n:Nd}(h:FH w b o n)(s:Sm X w w')(hx:b∉X):FH w' b o n:=
 ⟨s.keeps h.c0 hx,s.keeps h.c1 hx,s.keeps h.c2 hx,s.keeps h.c3 hx,s.keeps h.c4 hx,s.keeps h.c5 hx⟩
theorem A8.sm{X:List Nat}{w w':World}{b o:Nat}{l:List Nd}(h:A8 w b o l)(s:Sm X w w')(hx:b∉X):A8 w' b o l:=fun i hi=>(h i hi).sm s hx
theorem A8.cI{w w':World}{b o:Nat}{l:List Nd}(h:A8 w b o l)(s:Sm [] w w'):A8 w' b o l:=h.sm s (by simp)
theorem A8.lt{w:World}{b o:Nat}{l:List Nd}(h:A8 w b o l)(hl:0<l.length):b<w.heap.size:=World.block_lt_of_cell? w _ (h 0 hl).c0
structure Fits(l:List Nd):Prop where
 len:l.length≤2147483647
 name:∀i (h:i<l.length),l[i].name.size≤2147483647
 alias:∀i (h:i<l.length),l[i].alias.size≤2147483647
 text:∀i (h:i<l.length),l[i].text.size≤2147483647
def Wf(l:List Nd):Prop:=∀i (h:i<l.length),-9223372036854775808≤l[i].kind∧l[i].kind≤9223372036854775807∧-9223372036854775808≤l[i].size∧l[i].size≤9223372036854775807∧-9223372036854775808≤l[i].flag∧l[i].flag≤9223372036854775807
end Go.Proofs.YtnpjmhodfdgloaaGreatDoor
