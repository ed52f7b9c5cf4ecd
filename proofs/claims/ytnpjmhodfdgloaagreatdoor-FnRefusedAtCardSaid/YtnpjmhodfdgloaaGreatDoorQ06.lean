/- Part of the proof. -/
import Derived.Test.YtnpjmhodfdgloaaGreatDoorQ05
set_option linter.unusedVariables false
set_option linter.unusedSimpArgs false
namespace Go.Proofs.YtnpjmhodfdgloaaGreatDoor
set_option maxRecDepth 100000
set_option maxHeartbeats 32000000
section
variable{l:List Tok}{p:Ps}
theorem Hx{b e:Int}{Q:Bool→Ps→Prop}(h:∀q,q.pos=p.pos+1→q.deep=p.deep→bd q=0→bd p=0→Q true q)(h2:∀q,q.pos=p.pos→q.deep=p.deep→bd q=1→bd p≤1→Q false q):Wp (fR l b e) p Q:=by
 unfold Wp fR;by_cases hb:p.bad=true
 · rw[if_pos hb];exact h2 _ rfl rfl (BG hb) (dG p)
 · rw[if_neg hb];have tU:p.bad=false:=by simpa using hb
   by_cases hc:ag l p.pos≠b∨ag l (p.pos+1)=e
   · rw[if_pos hc];exact h2 _ (kP _) (gY _) (jL _) (dG p)
   · rw[if_neg hc];exact h _ rfl rfl (iM tU) (iM tU)
theorem Hq{k E e D d:Nat}{x:SM (List Nd)}(h:Tm k E e D d x):Tm (k+1) E e D d x:=fun p=>by obtain⟨a,b,c,f⟩:=h p;exact⟨a,by omega,c,f⟩
end
theorem zo{l:List Tok}{p:Ps}{Q:List Nd→Ps→Prop}(h:∀v q,v.length+p.pos≤q.pos→q.deep=p.deep→bd q=bd p→Q v q):Wp (bB l) p Q:=by
 unfold Wp bB;by_cases hc:ag l p.pos≠18∧ag l p.pos≠19
 · simp only[if_pos hc];exact h _ _ (by simp) rfl rfl
 · simp only[if_neg hc];exact h _ _ (by unfold cj;simp[made];omega) rfl rfl
section
variable(l:List Tok)
theorem Di:Tm 0 10 0 1 0 (cj l):=fun p=>⟨lr,by show 1+p.pos+10*bd p≤p.pos+1+0+10*bd p+0*bd p;omega,lr,by show p.deep+1*bd p≤p.deep+1*bd p+0*bd p;omega⟩
theorem Ho:Tm 0 10 0 1 0 (bB l):=fun p=>by
 unfold bB;by_cases hc:ag l p.pos≠18∧ag l p.pos≠19
 · simp only[if_pos hc];exact⟨lr,by show 0+p.pos+10*bd p≤p.pos+0+10*bd p+0*bd p;omega,lr,by show p.deep+1*bd p≤p.deep+1*bd p+0*bd p;omega⟩
 · simp only[if_neg hc];exact Di l p
theorem oY{sub:SM (List Nd)}(hs:Tm 0 10 0 2 1 sub):Tm 0 10 10 2 10 (cG l sub):=by
 have ha:=iy l false;have hd:=az l false
 have hx:Tm 0 10 0 2 0 ((fun p=>if p.bad=false∧ag l p.pos=12 then sub p else([],p):SM (List Nd))):=fun p=>by
  by_cases hc:p.bad=false∧ag l p.pos=12
  · simp only[if_pos hc];obtain⟨a,b,c,d⟩:=hs p;have h0:=iM hc.1;exact⟨a,b,c,by rw[h0] at d ⊢;omega⟩
  · simp only[if_neg hc];exact⟨lr,by show 0+p.pos+10*bd p≤p.pos+0+10*bd p+0*bd p;omega,lr,by show p.deep+2*bd p≤p.deep+2*bd p+0*bd p;omega⟩
 unfold cG
 (refine Dl fun p=>?_;have b0:=dG p;repeat' with_reducible first| refine wp_bind ?_|refine tu fun _ _ _ _ _ _=>?_|refine K3 (fun _ _ _ _ _=>?_) ?_|refine MK fun _ _ _ _=>?_|refine vP fun _=>?_|refine Hy fun _=>?_|refine wp_move fun _ _ _ _=>?_|refine oh ‹Tm _ _ _ _ _ _› fun _ _ _ _ _ _=>?_|refine wp_pure ?_|(refine gr (fun h=>?_) (fun h=>?_)<;>first| exact absurd h (by decide)|exact absurd rfl h|clear h))
 all_goals first
  | (refine⟨?_,?_,?_,?_⟩<;>(try simp only[gl] at *)<;>omega)
  | (refine wp_bind (oh hx fun _ _ _ _ _ _=>?_);refine wp_pure ?_;(refine⟨?_,?_,?_,?_⟩<;>(try simp only[gl] at *)<;>omega))
theorem dI:∀n,Tm 0 10 0 2 1 (aI l n)
 | 0=>fun p=>⟨lr,by show 0+p.pos+10*bd p≤p.pos+0+10*bd p+0*bd p;omega,lr,by show p.deep+2*bd p≤p.deep+2*bd p+1*bd p;omega⟩
 | n+1=>by
  have ih:=oY l (dI n);unfold aI
  (refine Dl fun p=>?_;have b0:=dG p;repeat' with_reducible first| refine wp_bind ?_|refine Bp fun _ _ _ _ _=>?_|refine Bq fun _ _ _ _=>?_|refine Dx (fun _ _ _ _ _=>?_) (fun _ _ _ _=>?_)|refine K2 fun _ _ _ _=>?_|refine QV ‹Tm _ _ _ _ _ _› fun _ _ _ _ _ _=>?_|refine wp_pure ?_|(refine gr (fun h=>?_) (fun h=>?_)<;>first| exact absurd h (by decide)|exact absurd rfl h|clear h))
  all_goals (refine⟨?_,?_,?_,?_⟩<;>(try simp only[gl] at *)<;>omega)
theorem oZ:Tm 0 10 0 2 0 (fA l):=by
 have ht:=lM l 62;have hv:=iz l true 62
 have hf:Tm 0 10 10 2 10 (do
  cr l 3
  let s ←aw l
  cr l 7
  let k ←eK l 62
  let v ←(do if(←ay l 8 )=true then cQ l 62 true else pure []:SM (List Nd))
  let q ←fc l 0
  aL (decide (q=9))
  pure (made {kind:=4,name:=s} [k,v])):=by
  (refine Dl fun p=>?_;have b0:=dG p;repeat' with_reducible first| refine wp_bind ?_|refine tu fun _ _ _ _ _ _=>?_|refine Bp fun _ _ _ _ _=>?_|refine K3 (fun _ _ _ _ _=>?_) ?_|refine pw fun _ _ _ _=>?_|refine vP fun _=>?_|refine oh ‹Tm _ _ _ _ _ _› fun _ _ _ _ _ _=>?_|refine wp_pure ?_|(refine gr (fun h=>?_) (fun h=>?_)<;>first| exact absurd h (by decide)|exact absurd rfl h|clear h))
  all_goals (refine⟨?_,?_,?_,?_⟩<;>(try simp only[gl] at *)<;>omega)
 unfold fA
 (refine Dl fun p=>?_;have b0:=dG p;repeat' with_reducible first| refine wp_bind ?_|refine Bq fun _ _ _ _=>?_|refine K3 (fun _ _ _ _ _=>?_) ?_|refine QV ‹Tm _ _ _ _ _ _› fun _ _ _ _ _ _=>?_|refine wp_pure ?_|(refine gr (fun h=>?_) (fun h=>?_)<;>first| exact absurd h (by decide)|exact absurd rfl h|clear h))
 all_goals (refine⟨?_,?_,?_,?_⟩<;>(try simp only[gl] at *)<;>omega)
theorem kW(b e:Int):Tm 0 10 0 3 0 (fX l b e):=by
 have ht:=lM l 62;have hv:=iz l true 62;have hd:=az l true
 have hf:Tm 0 10 10 3 10 (do
  let text ←bB l
  let s ←aw l
  cr l 7
  let k ←eK l 62
  let v ←(do if(←ay l 8)=true then cQ l 62 true else pure []:SM (List Nd))
  let d ←ao l true
  pure (made {kind:=30,name:=s} [text,k,v,d])):=by
  (refine Dl fun p=>?_;have b0:=dG p;repeat' with_reducible first| refine zo fun _ _ _ _ _=>?_|refine wp_bind ?_|refine tu fun _ _ _ _ _ _=>?_|refine Bp fun _ _ _ _ _=>?_|refine K3 (fun _ _ _ _ _=>?_) ?_|refine oh ‹Tm _ _ _ _ _ _› fun _ _ _ _ _ _=>?_|refine wp_pure ?_|(refine gr (fun h=>?_) (fun h=>?_)<;>first| exact absurd h (by decide)|exact absurd rfl h|clear h))
  all_goals (refine⟨?_,?_,?_,?_⟩<;>(try simp only[gl] at *)<;>omega)
 unfold fX
 (refine Dl fun p=>?_;have b0:=dG p;repeat' with_reducible first| refine wp_bind ?_|refine QV ‹Tm _ _ _ _ _ _› fun _ _ _ _ _ _=>?_|refine wp_pure ?_|(refine gr (fun h=>?_) (fun h=>?_)<;>first| exact absurd h (by decide)|exact absurd rfl h|clear h)|refine Hx (fun _ _ _ _ _=>?_) (fun _ _ _ _ _=>?_))
 all_goals (refine⟨?_,?_,?_,?_⟩<;>(try simp only[gl] at *)<;>omega)
theorem pr:Tm 0 10 0 5 0 (hZ l):=by
 have ht:=lM l 62;have hv:=kW l 4 5;have hd:=az l true
 have hf:Tm 0 10 10 5 10 (do
  let text ←bB l
  let s ←aw l
  let q ←fc l 0
  let args ←(if q=4 then fX l 4 5 else pure []:SM (List Nd))
  cr l 7
  let k ←eK l 62
  let d ←ao l true
  pure (made {kind:=29,name:=s} [text,args,k,d])):=by
  (refine Dl fun p=>?_;have b0:=dG p;repeat' with_reducible first| refine zo fun _ _ _ _ _=>?_|refine wp_bind ?_|refine tu fun _ _ _ _ _ _=>?_|refine Bp fun _ _ _ _ _=>?_|refine vP fun _=>?_|refine oh ‹Tm _ _ _ _ _ _› fun _ _ _ _ _ _=>?_|refine wp_pure ?_|(refine gr (fun h=>?_) (fun h=>?_)<;>first| exact absurd h (by decide)|exact absurd rfl h|clear h))
  all_goals (refine⟨?_,?_,?_,?_⟩<;>(try simp only[gl] at *)<;>omega)
 unfold hZ
 (refine Dl fun p=>?_;have b0:=dG p;repeat' with_reducible first| refine wp_bind ?_|refine QV ‹Tm _ _ _ _ _ _› fun _ _ _ _ _ _=>?_|refine wp_pure ?_|(refine gr (fun h=>?_) (fun h=>?_)<;>first| exact absurd h (by decide)|exact absurd rfl h|clear h)|refine Hx (fun _ _ _ _ _=>?_) (fun _ _ _ _ _=>?_))
 all_goals (refine⟨?_,?_,?_,?_⟩<;>(try simp only[gl] at *)<;>omega)
theorem pY(k:Int):Tm 0 10 1 1 0 (fq l k):=by
 unfold fq
 (refine Dl fun p=>?_;have b0:=dG p;repeat' with_reducible first| refine wp_bind ?_|refine tu fun _ _ _ _ _ _=>?_|refine wp_pure ?_)
 all_goals (refine⟨?_,?_,?_,?_⟩<;>(try simp only[gl] at *)<;>omega)
theorem vI(text:List Nd):Tm text.length 20 20 6 10 (fY l text):=by
 have h1:=Hq (pY l 28);have h0:=pY l 28;have hd:=az l true;have hf:=pr l;unfold fY
 (refine Dl fun p=>?_;have b0:=dG p;repeat' with_reducible first| refine wp_bind ?_|refine tu fun _ _ _ _ _ _=>?_|refine K3 (fun _ _ _ _ _=>?_) ?_|refine MK fun _ _ _ _=>?_|refine Hy fun _=>?_|refine wp_move fun _ _ _ _=>?_|refine QZ ‹Tm _ _ _ _ _ _› fun _ _ _ _ _ _=>?_|refine oh ‹Tm _ _ _ _ _ _› fun _ _ _ _ _ _=>?_|refine wp_pure ?_|(refine gr (fun h=>?_) (fun h=>?_)<;>first| exact absurd h (by decide)|exact absurd rfl h|clear h))
 all_goals (refine⟨?_,?_,?_,?_⟩<;>(try simp only[gl] at *)<;>omega)
theorem QJ(text:List Nd):Tm text.length 20 20 6 10 (lY l text):=by
 have h1:=Hq (pY l 33);have h0:=pY l 33;have hd:=az l true;unfold lY
 (refine Dl fun p=>?_;have b0:=dG p;repeat' with_reducible first| refine wp_bind ?_|refine tu fun _ _ _ _ _ _=>?_|refine Bp fun _ _ _ _ _=>?_|refine K3 (fun _ _ _ _ _=>?_) ?_|refine pw fun _ _ _ _=>?_|refine vP fun _=>?_|refine QU fun _=>?_|refine qT fun _ _ _ _ _=>?_|refine QZ ‹Tm _ _ _ _ _ _› fun _ _ _ _ _ _=>?_|refine oh ‹Tm _ _ _ _ _ _› fun _ _ _ _ _ _=>?_|refine wp_pure ?_|(refine gr (fun h=>?_) (fun h=>?_)<;>first| exact absurd h (by decide)|exact absurd rfl h|clear h))
 all_goals (refine⟨?_,?_,?_,?_⟩<;>(try simp only[gl] at *)<;>omega)
theorem Tf(text:List Nd):Tm text.length 20 20 6 10 (hJ l text):=by
 have hd:=az l true
 have hf:Tm 0 10 10 1 10 (do
  let about ←bB l
  let s ←aw l
  aL (decide (s=qR)||decide (s=mS)||decide (s=qP))
  let d ←ao l true
  pure (made {kind:=35,name:=s} [about,d])):=by
  (refine Dl fun p=>?_;have b0:=dG p;repeat' with_reducible first| refine zo fun _ _ _ _ _=>?_|refine wp_bind ?_|refine tu fun _ _ _ _ _ _=>?_|refine pw fun _ _ _ _=>?_|refine oh ‹Tm _ _ _ _ _ _› fun _ _ _ _ _ _=>?_|refine wp_pure ?_)
  all_goals (refine⟨?_,?_,?_,?_⟩<;>(try simp only[gl] at *)<;>omega)
 unfold hJ
 (refine Dl fun p=>?_;have b0:=dG p;repeat' with_reducible first| refine wp_bind ?_|refine tu fun _ _ _ _ _ _=>?_|refine QV ‹Tm _ _ _ _ _ _› fun _ _ _ _ _ _=>?_|refine oh ‹Tm _ _ _ _ _ _› fun _ _ _ _ _ _=>?_|refine wp_pure ?_|(refine gr (fun h=>?_) (fun h=>?_)<;>first| exact absurd h (by decide)|exact absurd rfl h|clear h)|refine Hx (fun _ _ _ _ _=>?_) (fun _ _ _ _ _=>?_))
 all_goals (refine⟨?_,?_,?_,?_⟩<;>(try simp only[gl] at *)<;>omega)
theorem qL:Tm 0 10 1 1 0 (dU l):=by
 unfold dU
 (refine Dl fun p=>?_;have b0:=dG p;repeat' with_reducible first| refine wp_bind ?_|refine tu fun _ _ _ _ _ _=>?_|refine pw fun _ _ _ _=>?_|refine wp_pure ?_)
 all_goals (refine⟨?_,?_,?_,?_⟩<;>(try simp only[gl] at *)<;>omega)
theorem LH(text:List Nd):Tm text.length 20 20 6 10 (ir l text):=by
 have h1:=Hq (qL l);have h0:=qL l;have hi:=kW l 4 5;unfold ir
 (refine Dl fun p=>?_;have b0:=dG p;repeat' with_reducible first| refine wp_bind ?_|refine tu fun _ _ _ _ _ _=>?_|refine Bp fun _ _ _ _ _=>?_|refine K3 (fun _ _ _ _ _=>?_) ?_|refine pw fun _ _ _ _=>?_|refine MK fun _ _ _ _=>?_|refine vP fun _=>?_|refine Hy fun _=>?_|refine wp_move fun _ _ _ _=>?_|refine qT fun _ _ _ _ _=>?_|refine QZ ‹Tm _ _ _ _ _ _› fun _ _ _ _ _ _=>?_|refine oh ‹Tm _ _ _ _ _ _› fun _ _ _ _ _ _=>?_|refine wp_pure ?_|(refine gr (fun h=>?_) (fun h=>?_)<;>first| exact absurd h (by decide)|exact absurd rfl h|clear h))
 all_goals (refine⟨?_,?_,?_,?_⟩<;>(try simp only[gl] at *)<;>omega)
theorem Hr:Tm 0 20 20 6 10 (eF l):=by
 have hv:=oZ l;have hd:=az l false;have hs:=dI l 62;unfold eF
 (refine Dl fun p=>?_;have b0:=dG p;repeat' with_reducible first| refine wp_bind ?_|refine tu fun _ _ _ _ _ _=>?_|refine vP fun _=>?_|refine oh ‹Tm _ _ _ _ _ _› fun _ _ _ _ _ _=>?_|refine wp_pure ?_|(refine gr (fun h=>?_) (fun h=>?_)<;>first| exact absurd h (by decide)|exact absurd rfl h|clear h))
 all_goals (refine⟨?_,?_,?_,?_⟩<;>(try simp only[gl] at *)<;>omega)
theorem JN:Tm 0 20 20 6 10 (dx l):=by
 have hd:=az l false;have hs:=dI l 62;unfold dx
 (refine Dl fun p=>?_;have b0:=dG p;repeat' with_reducible first| refine wp_bind ?_|refine tu fun _ _ _ _ _ _=>?_|refine pw fun _ _ _ _=>?_|refine MK fun _ _ _ _=>?_|refine vP fun _=>?_|refine Hy fun _=>?_|refine wp_move fun _ _ _ _=>?_|refine qT fun _ _ _ _ _=>?_|refine oh ‹Tm _ _ _ _ _ _› fun _ _ _ _ _ _=>?_|refine wp_pure ?_|(refine gr (fun h=>?_) (fun h=>?_)<;>first| exact absurd h (by decide)|exact absurd rfl h|clear h))
 all_goals (refine⟨?_,?_,?_,?_⟩<;>(try simp only[gl] at *)<;>omega)
end
def SN(o:Option (List (List Nd))):Nat:=(o.map fun v=>v.flatten.length).getD 0
section
variable(l:List Tok)
theorem rQ:∀(m:Nat) (first:Bool) (acc:List (List Nd)) (p:Ps),Ik (SN (cF l m first acc p).1) acc.flatten.length 10 0 1 0 p (cF l m first acc p).2
 | 0,first,acc,p=>⟨lr,by show acc.flatten.length+p.pos+10*bd p≤p.pos+acc.flatten.length+10*bd p+0*bd p;omega,lr,by show p.deep+1*bd p≤p.deep+1*bd p+0*bd p;omega⟩
 | m+1,first,acc,p=>by
  unfold cF;by_cases hb:p.bad=true
  · simp only[if_pos hb];exact⟨lr,by show acc.flatten.length+p.pos+10*bd p≤p.pos+acc.flatten.length+10*bd p+0*bd p;omega,lr,by show p.deep+1*bd p≤p.deep+1*bd p+0*bd p;omega⟩
  · have tU:bd p=0:=iM (by simpa using hb);simp only[if_neg hb];by_cases hf:first=false∧(ay l 14 p).1=true
    · simp only[if_pos hf];rcases ia l p 14 with⟨e1,e2,e3⟩|⟨e1,e2⟩
      · rw[e2];have h1:bd {p with pos:=p.pos+1}=bd p:=rfl;exact⟨lr,by show acc.flatten.length+p.pos+10*bd p≤p.pos+1+acc.flatten.length+10*bd p+0*bd p;omega,lr,by show p.deep+1*bd p≤p.deep+1*bd p+0*bd p;omega⟩
      · rw[e1] at hf;exact absurd hf.2 (by decide)
    · simp only[if_neg hf]
      have hp:(if first=true then p else(ay l 14 p).2)=p:=by
       cases first with
       | true=>rfl
       | false=>
        rcases ia l p 14 with⟨e1,e2,e3⟩|⟨e1,e2⟩
        · exact absurd ⟨rfl,e1⟩ hf
        · simp[e2]
      rw[hp];obtain⟨a1,a2,a3,a4⟩:=r6 l p;generalize aw l p=r1 at *;by_cases hw:aN r1.1=true
      · simp only[if_pos hw];obtain⟨b1,b2,b3,b4⟩:=zO l r1.2 7;generalize cr l 7 r1.2=r2 at *;obtain⟨c1,c2,c3,c4⟩:=r6 l r2.2;generalize aw l r2.2=r3 at *;have ih:=rQ m false (acc++[made {kind:=25,text:=r1.1,name:=r3.1} []]) r3.2;generalize cF l m false (acc++[made {kind:=25,text:=r1.1,name:=r3.1} []]) r3.2=r at *;obtain⟨d1,d2,d3,d4⟩:=ih;simp only[List.flatten_append,List.flatten_singleton,List.length_append,Yh] at d2;exact⟨by omega,by omega,by omega,by omega⟩
      · simp only[if_neg hw];have e1:=jL {r1.2 with pos:=r1.2.pos-1};have e2:=kP {r1.2 with pos:=r1.2.pos-1};have e3:=gY {r1.2 with pos:=r1.2.pos-1};generalize db {r1.2 with pos:=r1.2.pos-1}=r2 at *;simp only at e2 e3;exact⟨by omega,by show 0+p.pos+10*bd p≤r2.pos+acc.flatten.length+10*bd r2+0*bd p;omega,by show p.deep≤r2.deep;omega,by show r2.deep+1*bd p≤p.deep+1*bd r2+0*bd p;omega⟩
theorem LQ{m:Nat}{f:Bool}{acc:List (List Nd)}{p:Ps}{Q:Option (List (List Nd))→Ps→Prop}(h:∀v q,bd p≤bd q→SN v+p.pos+10*bd p≤q.pos+acc.flatten.length+10*bd q+0*bd p→p.deep≤q.deep→q.deep+1*bd p≤p.deep+1*bd q+0*bd p→Q v q):Wp (cF l m f acc) p Q:=
 h _ _ (rQ l m f acc p).up (rQ l m f acc p).sz (rQ l m f acc p).dl (rQ l m f acc p).dh
theorem Ob(text:List Nd):Tm text.length 20 20 6 10 (iQ l text):=by
 have hd:=az l true;unfold iQ;refine Dl fun p=>?_;have b0:=dG p;refine wp_bind (oh hd fun d q1 a1 a2 a3 a4=>?_);refine wp_bind (Bp fun q2 b1 b2 b3 b4=>?_);refine wp_bind (Bq fun q3 c1 c2 c3=>?_);refine wp_bind (LQ l fun o q d1 d2 d3 d4=>?_)
 cases o with
 | some kids=>
  refine wp_pure ?_;simp only[SN,Option.map_some,Option.getD_some] at d2
  (refine⟨?_,?_,?_,?_⟩<;>(try simp only[gl] at *)<;>omega)
 | none=>
  refine wp_pure ?_;simp only[SN,Option.map_none,Option.getD_none] at d2
  (refine⟨?_,?_,?_,?_⟩<;>(try simp only[gl] at *)<;>omega)
theorem Oa(text:List Nd):Tm text.length 20 20 6 10 (do let n ←aw l;let d ←ao l true;pure (made {kind:=26,name:=n} [text,d])):=by
 have hd:=az l true
 (refine Dl fun p=>?_;have b0:=dG p;repeat' with_reducible first| refine wp_bind ?_|refine tu fun _ _ _ _ _ _=>?_|refine oh ‹Tm _ _ _ _ _ _› fun _ _ _ _ _ _=>?_|refine wp_pure ?_)
 all_goals (refine⟨?_,?_,?_,?_⟩<;>(try simp only[gl] at *)<;>omega)
theorem Hp(text:List Nd):Tm text.length 20 20 6 10 (do
 let n ←aw l
 let imp ←cR l 0 cN
 aL imp
 let d ←ao l true
 let f ←hZ l
 pure (made {kind:=31,name:=n} [text,d,f])):=by
 have hd:=az l true;have hf:=pr l
 (refine Dl fun p=>?_;have b0:=dG p;repeat' with_reducible first| refine wp_bind ?_|refine tu fun _ _ _ _ _ _=>?_|refine pw fun _ _ _ _=>?_|refine Hy fun _=>?_|refine oh ‹Tm _ _ _ _ _ _› fun _ _ _ _ _ _=>?_|refine wp_pure ?_)
 all_goals (refine⟨?_,?_,?_,?_⟩<;>(try simp only[gl] at *)<;>omega)
theorem QF(text:List Nd):Tm text.length 20 20 6 10 (do let n ←aw l;let d ←ao l true;let i ←fX l 12 14;pure (made {kind:=36,name:=n} [text,d,i])):=by
 have hd:=az l true;have hi:=kW l 12 14
 (refine Dl fun p=>?_;have b0:=dG p;repeat' with_reducible first| refine wp_bind ?_|refine tu fun _ _ _ _ _ _=>?_|refine oh ‹Tm _ _ _ _ _ _› fun _ _ _ _ _ _=>?_|refine wp_pure ?_)
 all_goals (refine⟨?_,?_,?_,?_⟩<;>(try simp only[gl] at *)<;>omega)
theorem O9:Tm 0 20 20 6 10 (do
 let t ←cR l 0 iC
 aL (!t)
 if t=false then dn else
 dY
 let o ←fY l []
 pure (made {kind:=39} [o])):=by
 have ho:=vI l []
 (refine Dl fun p=>?_;have b0:=dG p;repeat' with_reducible first| refine wp_bind ?_|refine pw fun _ _ _ _=>?_|refine Hy fun _=>?_|refine wp_move fun _ _ _ _=>?_|refine qT fun _ _ _ _ _=>?_|refine oh ‹Tm _ _ _ _ _ _› fun _ _ _ _ _ _=>?_|refine wp_pure ?_|(refine gr (fun h=>?_) (fun h=>?_)<;>first| exact absurd h (by decide)|exact absurd rfl h|clear h))
 all_goals (refine⟨?_,?_,?_,?_⟩<;>(try simp only[gl] at *)<;>omega)
theorem QH:Tm 1 20 20 6 10 (do let x ←aI l 62;pure (made {kind:=2,text:=hO,flag:=1} [x])):=by
 have hs:=dI l 62
 (refine Dl fun p=>?_;have b0:=dG p;repeat' with_reducible first| refine wp_bind ?_|refine oh ‹Tm _ _ _ _ _ _› fun _ _ _ _ _ _=>?_|refine wp_pure ?_)
 all_goals (refine⟨?_,?_,?_,?_⟩<;>(try simp only[gl] at *)<;>omega)
end
section
variable(l:List Tok)
def CX(text:List Nd)(w:ByteArray):SM (List Nd):=do
 aL (decide (w=fp)&&!text.isEmpty)
 let w ←aw l
 if aN w then(do qH;eF l) else
 if w=dV then dx l else
 if w=fp then iQ l text else
 if w=ka then(do let n ←aw l;let d ←ao l true;pure (made {kind:=26,name:=n} [text,d])) else
 if w=iC then fY l text else
 if w=fE then(do
  let n ←aw l
  let imp ←cR l 0 cN
  aL imp
  let d ←ao l true
  let f ←hZ l
  pure (made {kind:=31,name:=n} [text,d,f])) else
 if w=mU then lY l text else
 if w=qO then hJ l text else
 if w=mT then(do let n ←aw l;let d ←ao l true;let i ←fX l 12 14;pure (made {kind:=36,name:=n} [text,d,i])) else
 if w=fD then ir l text else
 if w=fZ then(do
  let t ←cR l 0 iC
  aL (!t)
  if t=false then dn else
  dY
  let o ←fY l []
  pure (made {kind:=39} [o])) else
 (do qH;dn)
def wX(text:List Nd):SM (List Nd):=fun p=>
 if(aN (aX l p.pos)||decide (aX l p.pos=dV)||decide (aX l p.pos=fZ))&&!text.isEmpty then dn {p with pos:=p.pos-1} else CX l text (aX l p.pos) p
def oa(text:List Nd):SM (List Nd):=do
 let q ←fc l 0
 if q≠15 then dn else wX l text
theorem pO:dX l=(do
 let q ←fc l 0
 if q=12 then(do let x ←aI l 62;pure (made {kind:=2,text:=hO,flag:=1} [x])) else
 let text ←(if q=18∨q=19 then cj l else pure []:SM (List Nd))
 oa l text):=rfl
theorem Bo{p:Ps}{Q:Unit→Ps→Prop}(h:∀q,q.pos=p.pos-1→q.deep=p.deep→bd q=bd p→Q () q):Wp qH p Q:=h _ rfl rfl rfl
theorem vc{p:Ps}{Q:List Nd→Ps→Prop}(h:∀v q,v.length+p.pos≤q.pos→q.deep=p.deep→bd q=bd p→Q v q):Wp (cj l) p Q:=h _ _ (by unfold cj;simp[made];omega) rfl rfl
theorem Te(text:List Nd)(w:ByteArray):Tm text.length 40 40 20 20 (CX l text w):=by
 have h1:=Hr l;have h2:=JN l;have h3:=Ob l text;have h4:=Oa l text;have h5:=vI l text;have h6:=Hp l text;have h7:=QJ l text;have h8:=Tf l text;have h9:=QF l text;have jq:=LH l text;have AH:=O9 l;unfold CX;refine Dl fun p=>?_;have b0:=dG p;refine wp_bind (pw fun q1 a1 a2 a3=>?_);refine wp_bind (tu fun w q2 c1 c2 c3 c4=>?_);refine gr (fun _=>wp_bind (Bo fun q3 d1 d2 d3=>oh h1 fun v q f1 f2 f3 f4=>?_)) (fun _=>?_)
 · clear h1 h2 h3 h4 h5 h6 h7 h8 h9 jq AH;(refine⟨?_,?_,?_,?_⟩<;>(try simp only[gl] at *)<;>omega)
 refine gr (fun _=>oh h2 fun v q f1 f2 f3 f4=>?_) (fun _=>?_)
 · clear h1 h2 h3 h4 h5 h6 h7 h8 h9 jq AH;(refine⟨?_,?_,?_,?_⟩<;>(try simp only[gl] at *)<;>omega)
 refine gr (fun _=>oh h3 fun v q f1 f2 f3 f4=>?_) (fun _=>?_)
 · clear h1 h2 h3 h4 h5 h6 h7 h8 h9 jq AH;(refine⟨?_,?_,?_,?_⟩<;>(try simp only[gl] at *)<;>omega)
 refine gr (fun _=>oh h4 fun v q f1 f2 f3 f4=>?_) (fun _=>?_)
 · clear h1 h2 h3 h4 h5 h6 h7 h8 h9 jq AH;(refine⟨?_,?_,?_,?_⟩<;>(try simp only[gl] at *)<;>omega)
 refine gr (fun _=>oh h5 fun v q f1 f2 f3 f4=>?_) (fun _=>?_)
 · clear h1 h2 h3 h4 h5 h6 h7 h8 h9 jq AH;(refine⟨?_,?_,?_,?_⟩<;>(try simp only[gl] at *)<;>omega)
 refine gr (fun _=>oh h6 fun v q f1 f2 f3 f4=>?_) (fun _=>?_)
 · clear h1 h2 h3 h4 h5 h6 h7 h8 h9 jq AH;(refine⟨?_,?_,?_,?_⟩<;>(try simp only[gl] at *)<;>omega)
 refine gr (fun _=>oh h7 fun v q f1 f2 f3 f4=>?_) (fun _=>?_)
 · clear h1 h2 h3 h4 h5 h6 h7 h8 h9 jq AH;(refine⟨?_,?_,?_,?_⟩<;>(try simp only[gl] at *)<;>omega)
 refine gr (fun _=>oh h8 fun v q f1 f2 f3 f4=>?_) (fun _=>?_)
 · clear h1 h2 h3 h4 h5 h6 h7 h8 h9 jq AH;(refine⟨?_,?_,?_,?_⟩<;>(try simp only[gl] at *)<;>omega)
 refine gr (fun _=>oh h9 fun v q f1 f2 f3 f4=>?_) (fun _=>?_)
 · clear h1 h2 h3 h4 h5 h6 h7 h8 h9 jq AH;(refine⟨?_,?_,?_,?_⟩<;>(try simp only[gl] at *)<;>omega)
 refine gr (fun _=>oh jq fun v q f1 f2 f3 f4=>?_) (fun _=>?_)
 · clear h1 h2 h3 h4 h5 h6 h7 h8 h9 jq AH;(refine⟨?_,?_,?_,?_⟩<;>(try simp only[gl] at *)<;>omega)
 refine gr (fun _=>oh AH fun v q f1 f2 f3 f4=>?_) (fun _=>?_)
 · clear h1 h2 h3 h4 h5 h6 h7 h8 h9 jq AH;(refine⟨?_,?_,?_,?_⟩<;>(try simp only[gl] at *)<;>omega)
 refine wp_bind (Bo fun q3 d1 d2 d3=>qT fun q f1 f2 f3 f4=>?_);clear h1 h2 h3 h4 h5 h6 h7 h8 h9 jq AH;(refine⟨?_,?_,?_,?_⟩<;>(try simp only[gl] at *)<;>omega)
theorem Th(text:List Nd):Tm text.length 40 40 20 20 (wX l text):=fun p=>by
 have b0:=dG p;unfold wX;by_cases hc:((aN (aX l p.pos)||decide (aX l p.pos=dV)||decide (aX l p.pos=fZ))&&!text.isEmpty)=true
 · simp only[if_pos hc]
   have ht:1≤text.length:=by
    cases text with
    | nil=>simp at hc
    | cons a b=>simp
   have e1:=jL {p with pos:=p.pos-1};have e2:=kP {p with pos:=p.pos-1};have e3:=gY {p with pos:=p.pos-1};show Ik 0 _ _ _ _ _ p (db {p with pos:=p.pos-1});generalize db {p with pos:=p.pos-1}=r2 at *;simp only at e2 e3;clear hc
   (refine⟨?_,?_,?_,?_⟩<;>(try simp only[gl] at *)<;>omega)
 · simp only[if_neg hc];exact Te l text _ p
theorem Dh(text:List Nd):Tm text.length 40 40 20 20 (oa l text):=by
 have h1:=Th l text;unfold oa
 (refine Dl fun p=>?_;have b0:=dG p;repeat' with_reducible first| refine wp_bind ?_|refine vP fun _=>?_|refine qT fun _ _ _ _ _=>?_|refine oh ‹Tm _ _ _ _ _ _› fun _ _ _ _ _ _=>?_|(refine gr (fun h=>?_) (fun h=>?_)<;>first| exact absurd h (by decide)|exact absurd rfl h|clear h))
 all_goals (refine⟨?_,?_,?_,?_⟩<;>(try simp only[gl] at *)<;>omega)
theorem Ex:Tm 1 40 60 20 30 (dX l):=by
 rw[pO];have h1:=QH l;refine Dl fun p=>?_;have b0:=dG p;refine wp_bind (vP fun q=>?_);refine gr (fun _=>oh h1 fun v q f1 f2 f3 f4=>?_) (fun _=>?_)
 · (refine⟨?_,?_,?_,?_⟩<;>(try simp only[gl] at *)<;>omega)
 refine wp_bind ?_;refine gr (fun _=>vc l fun v q f1 f2 f3=>?_) (fun _=>wp_pure ?_)
 · refine oh (Dh l v) fun v2 q2 g1 g2 g3 g4=>?_
   (refine⟨?_,?_,?_,?_⟩<;>(try simp only[gl] at *)<;>omega)
 · refine oh (Dh l []) fun v2 q2 g1 g2 g3 g4=>?_
   (refine⟨?_,?_,?_,?_⟩<;>(try simp only[gl] at *)<;>omega)
end
section
variable(l:List Tok)
def sf(fixed:Bool):SM (List Nd):=do let s ←aw l;cr l 7;let v ←cQ l 62 fixed;pure (made {kind:=9,name:=s} [v])
def vi(fixed:Bool):SM (List Nd):=do
 let s ←aw l
 let a ←nf l
 aL (fixed&&a)
 let v ←cE l false
 pure (made {kind:=10,name:=s} [v])
def tj:SM (List Nd):=do
 cr l 3
 let s ←aw l
 cr l 7
 let k ←eK l 62
 let v ←(do if(←ay l 8 )=true then cQ l 62 true else pure []:SM (List Nd))
 let q ←fc l 0
 aL (decide (q=9))
 pure (made {kind:=4,name:=s} [k,v])
def sE:SM (List Nd):=do
 let text ←bB l
 let s ←aw l
 cr l 7
 let k ←eK l 62
 let v ←(do if(←ay l 8)=true then cQ l 62 true else pure []:SM (List Nd))
 let d ←ao l true
 pure (made {kind:=30,name:=s} [text,k,v,d])
def sl:SM (List Nd):=do
 let text ←bB l
 let s ←aw l
 let q ←fc l 0
 let args ←(if q=4 then fX l 4 5 else pure []:SM (List Nd))
 cr l 7
 let k ←eK l 62
 let d ←ao l true
 pure (made {kind:=29,name:=s} [text,args,k,d])
def sj:SM (List Nd):=do
 let about ←bB l
 let s ←aw l
 aL (decide (s=qR)||decide (s=mS)||decide (s=qP))
 let d ←ao l true
 pure (made {kind:=35,name:=s} [about,d])
def pL(n:Nat)(fixed:Bool):SM (List Nd):=do let s ←aw l;cr l 7;let v ←cQ l n fixed;pure (made {kind:=19,name:=s} [v])
theorem Em(fixed:Bool):cE l fixed=(do if(←ay l 4)=true then(do eT l 5;let out ←cV l 5 (sf l fixed) (many l) [];pure out.flatten) else pure []):=rfl
theorem CY(fixed:Bool):ao l fixed=(do let out ←dE l 9 (vi l fixed) (many l) [];pure out.flatten):=rfl
theorem En:fA l=(do if(←ay l 4)=true then(do eT l 5;let out ←cV l 5 (tj l) (many l) [];pure out.flatten) else pure []):=rfl
theorem Lk(b e:Int):fX l b e=(do if(←fR l b e)=true then(do let out ←cV l e (sE l) (many l) [];pure out.flatten) else pure []):=rfl
theorem Lj:hZ l=(do if(←fR l 12 14)=true then(do let out ←cV l 14 (sl l) (many l) [];pure out.flatten) else pure []):=rfl
theorem Ju(text:List Nd):hJ l text=(do
 let n ←aw l
 let d ←ao l true
 if(←fR l 12 14)=true then(do
  let kids ←cV l 14 (sj l) (many l) [text,d]
  pure (made {kind:=34,name:=n} kids))
 else pure []):=rfl
theorem pX:(∀f,Tm 0 10 10 1 1 (sf l f))∧(∀f,Tm 1 10 10 1 1 (vi l f))∧Tm 0 10 10 2 10 (tj l)∧Tm 0 10 10 3 10 (sE l)∧Tm 0 10 10 5 10 (sl l)∧Tm 0 10 10 1 10 (sj l)∧(∀n f,Tm 0 10 10 1 1 (pL l n f)):=by
 have h1:=lM l 62;have h2:=iz l true 62;have h3:=iz l false 62;have h4:=iy l false;have h5:=az l true;have h6:=kW l 4 5;refine⟨fun f=>?_,fun f=>?_,?_,?_,?_,?_,fun n f=>?_⟩
 · cases f<;>unfold sf<;>(refine Dl fun p=>?_;have b0:=dG p;repeat' with_reducible first| refine wp_bind ?_|refine tu fun _ _ _ _ _ _=>?_|refine Bp fun _ _ _ _ _=>?_|refine oh ‹Tm _ _ _ _ _ _› fun _ _ _ _ _ _=>?_|refine wp_pure ?_)<;>(refine⟨?_,?_,?_,?_⟩<;>(try simp only[gl] at *)<;>omega)
 · unfold vi;(refine Dl fun p=>?_;have b0:=dG p;repeat' with_reducible first| refine wp_bind ?_|refine tu fun _ _ _ _ _ _=>?_|refine pw fun _ _ _ _=>?_|refine To fun _=>?_|refine oh ‹Tm _ _ _ _ _ _› fun _ _ _ _ _ _=>?_|refine wp_pure ?_);all_goals (refine⟨?_,?_,?_,?_⟩<;>(try simp only[gl] at *)<;>omega)
 · unfold tj;(refine Dl fun p=>?_;have b0:=dG p;repeat' with_reducible first| refine wp_bind ?_|refine tu fun _ _ _ _ _ _=>?_|refine Bp fun _ _ _ _ _=>?_|refine K3 (fun _ _ _ _ _=>?_) ?_|refine pw fun _ _ _ _=>?_|refine vP fun _=>?_|refine oh ‹Tm _ _ _ _ _ _› fun _ _ _ _ _ _=>?_|refine wp_pure ?_|(refine gr (fun h=>?_) (fun h=>?_)<;>first| exact absurd h (by decide)|exact absurd rfl h|clear h));all_goals (refine⟨?_,?_,?_,?_⟩<;>(try simp only[gl] at *)<;>omega)
 · unfold sE;(refine Dl fun p=>?_;have b0:=dG p;repeat' with_reducible first| refine zo fun _ _ _ _ _=>?_|refine wp_bind ?_|refine tu fun _ _ _ _ _ _=>?_|refine Bp fun _ _ _ _ _=>?_|refine K3 (fun _ _ _ _ _=>?_) ?_|refine oh ‹Tm _ _ _ _ _ _› fun _ _ _ _ _ _=>?_|refine wp_pure ?_|(refine gr (fun h=>?_) (fun h=>?_)<;>first| exact absurd h (by decide)|exact absurd rfl h|clear h));all_goals (refine⟨?_,?_,?_,?_⟩<;>(try simp only[gl] at *)<;>omega)
 · unfold sl;(refine Dl fun p=>?_;have b0:=dG p;repeat' with_reducible first| refine zo fun _ _ _ _ _=>?_|refine wp_bind ?_|refine tu fun _ _ _ _ _ _=>?_|refine Bp fun _ _ _ _ _=>?_|refine vP fun _=>?_|refine oh ‹Tm _ _ _ _ _ _› fun _ _ _ _ _ _=>?_|refine wp_pure ?_|(refine gr (fun h=>?_) (fun h=>?_)<;>first| exact absurd h (by decide)|exact absurd rfl h|clear h));all_goals (refine⟨?_,?_,?_,?_⟩<;>(try simp only[gl] at *)<;>omega)
 · unfold sj;(refine Dl fun p=>?_;have b0:=dG p;repeat' with_reducible first| refine zo fun _ _ _ _ _=>?_|refine wp_bind ?_|refine tu fun _ _ _ _ _ _=>?_|refine pw fun _ _ _ _=>?_|refine oh ‹Tm _ _ _ _ _ _› fun _ _ _ _ _ _=>?_|refine wp_pure ?_);all_goals (refine⟨?_,?_,?_,?_⟩<;>(try simp only[gl] at *)<;>omega)
 · have h7:=iz l f n;unfold pL;(refine Dl fun p=>?_;have b0:=dG p;repeat' with_reducible first| refine wp_bind ?_|refine tu fun _ _ _ _ _ _=>?_|refine Bp fun _ _ _ _ _=>?_|refine oh ‹Tm _ _ _ _ _ _› fun _ _ _ _ _ _=>?_|refine wp_pure ?_);all_goals (refine⟨?_,?_,?_,?_⟩<;>(try simp only[gl] at *)<;>omega)
theorem LG(f:Bool):Tm 0 10 10 1 1 (sf l f):=(pX l).1 f
theorem xP(f:Bool):Tm 1 10 10 1 1 (vi l f):=(pX l).2.1 f
theorem th:Tm 0 10 10 2 10 (tj l):=(pX l).2.2.1
theorem Dk:Tm 0 10 10 3 10 (sE l):=(pX l).2.2.2.1
theorem Dj:Tm 0 10 10 5 10 (sl l):=(pX l).2.2.2.2.1
theorem pW:Tm 0 10 10 1 10 (sj l):=(pX l).2.2.2.2.2.1
theorem Ax(n:Nat)(f:Bool):Tm 0 10 10 1 1 (pL l n f):=(pX l).2.2.2.2.2.2 n f
end
structure jT(l:List Tok)(e:Int)(item:SM (List Nd))(R:List (List Nd)×Ps)(d0:Nat)(u:Bool)(j m:Nat)(acc:List (List Nd))(q:Ps):Prop where
 eq:(if u=true∧j=0 then cV l e item m acc q else dk l e item m acc q)=R
 fuel:q.bad=true∨l.length+1≤m+q.pos
 lo:d0≤q.deep
 hi:q.bad=false→q.deep=d0
 hu:q.deep≤d0+10
 sz:acc.flatten.length≤q.pos+1000200+10*bd q
 jm:j+m≤1000004∧(j=0→m≤1000002)
section
variable{l:List Tok}{e:Int}{item:SM (List Nd)}{R:List (List Nd)×Ps}{d0 D d k:Nat}{j m:Nat}{acc:List (List Nd)}{x:List Nd}{q q':Ps}{u:Bool}
theorem jT.start(u:Bool)(hl:l.length≤1000000)(ha:acc.flatten.length≤q.pos+1000200):jT l e item (if u=true then cV l e item (many l) acc q else dk l e item (many l) acc q) q.deep u 0 (many l) acc q:=
 ⟨by simp,.inr (by unfold many;omega),lr,fun _=>rfl,by omega,by omega,by unfold many;omega⟩
theorem Om(hb:q.bad=true):dk l e item m acc q=(acc,q):=by
 cases m with
 | zero=>rfl
 | succ m=>unfold dk;rw[if_pos hb]
theorem jT.bad(h:jT l e item R d0 u j m acc q)(hb:q.bad=true):R=(acc,q):=by
 rw[←h.eq];split
 · unfold cV;rw[if_pos hb]
 · exact Om hb
theorem jT.more(h:jT l e item R d0 u j m acc q)(hb:q.bad=false)(hp:q.pos≤l.length):∃i,m=i+1:=by
 rcases h.fuel with h1|h1
 · rw[hb] at h1;cases h1
 · exact⟨m-1,by omega⟩
theorem jT.end_(h:jT l e item R d0 u j m acc q)(hj:¬(u=true∧j=0))(hb:q.bad=false)(hp:q.pos≤l.length)(ht:ay l e q=(true,q')):R=(acc,q'):=by obtain⟨i,rfl⟩:=h.more hb hp;rw[←h.eq,if_neg hj];unfold dk;rw[if_neg (by rw[hb];decide),if_pos (by rw[ht]),ht]
theorem jT.next(h:jT l e item R d0 u j m acc q)(hb:q.bad=false)(hp:q.pos≤l.length)(hj:(u=true∧j=0)∨(ay l e q).1=false)(hi:item q=(x,q'))(tm:Tm 0 10 10 D d item)(hD:D≤10)(hx:q'.bad=true∨1≤x.length) :
 ∃m',jT l e item R d0 u (j+1) m' (acc++[x]) q':=by
 obtain⟨i,rfl⟩:=h.more hb hp;obtain⟨t1,t2,t3,t4⟩:=tm q;rw[hi] at t1 t2 t3 t4;have b0:bd q=0:=iM hb;have h1:=h.sz;have h2:=h.lo;have h3:=h.hi hb;have h5:=h.jm
 have h4:l.length+1≤i+1+q.pos:=by
  rcases h.fuel with h1|h1
  · rw[hb] at h1;cases h1
  · exact h1
 rw[b0] at t1 t2 t4 h1;simp only at t1 t2 t3 t4
 have hf:∀a,l.length+1≤a+1+q.pos→q'.bad=true∨l.length+1≤a+q'.pos:=fun a ha=>by
  rcases hx with h6|h6
  · exact .inl h6
  · cases hq:q'.bad with
    | true=>exact .inl rfl
    | false=>have:=iM hq;rw[this] at t2;exact .inr (by omega)
 have hh:q'.bad=false→q'.deep=d0:=fun hq=>by rw[iM hq] at t4;omega
 have bq:=dG q';have hDb:D*bd q'≤D*1:=Nat.mul_le_mul_left _ bq;have hu:q'.deep≤d0+10:=by omega
 have hs:(acc++[x]).flatten.length≤q'.pos+1000200+10*bd q':=by rw[List.flatten_append,List.length_append,List.flatten_singleton];omega
 by_cases hc:u=true∧j=0
 · refine⟨i+1,?_,?_,by omega,hh,hu,hs,by omega,by omega⟩
   · have h6:=h.eq;rw[if_pos hc] at h6;rw[if_neg (by omega),←h6];unfold cV;rw[if_neg (by rw[hb];decide),hi]
   · rcases hf i h4 with h6|h6
     · exact .inl h6
     · exact .inr (by omega)
 · have ht:(ay l e q).1=false:=by rcases hj with hj|hj;exact absurd hj hc;exact hj
   refine⟨i,?_,hf i h4,by omega,hh,hu,hs,by omega,by omega⟩;have h6:=h.eq;rw[if_neg hc] at h6;rw[if_neg (by omega),←h6]
   conv=>rhs;unfold dk
   rw[if_neg (by rw[hb];decide),if_neg (by rw[ht];decide),hi]
end
structure jn(l:List Tok)(k:Int)(item:SM (List Nd))(R:List (List Nd)×Ps)(d0 z0:Nat)(m:Nat)(acc:List (List Nd))(q:Ps):Prop where
 eq:dE l k item m acc q=R
 fuel:q.bad=true∨l.length+1≤m+q.pos
 lo:d0≤q.deep
 hi:q.deep≤d0+10*bd q+z0
 sz:acc.flatten.length≤q.pos+1000200+10*bd q
 jm:m≤1000002
section
variable{l:List Tok}{e:Int}{item:SM (List Nd)}{R:List (List Nd)×Ps}{d0 z0 D d k:Nat}{j m:Nat}{acc:List (List Nd)}{x:List Nd}{q q1 q':Ps}
theorem jn.start(hl:l.length≤1000000)(z0:Nat)(ha:acc.flatten.length≤q.pos+1000200):jn l e item (dE l e item (many l) acc q) q.deep z0 (many l) acc q:=
 ⟨rfl,.inr (by unfold many;omega),lr,by omega,by omega,by unfold many;omega⟩
theorem jn.end_(h:jn l e item R d0 z0 m acc q)(ht:(ay l e q).1=false):R=(acc,q):=by
 rw[←h.eq]
 cases m with
 | zero=>rfl
 | succ m=>unfold dE;rw[if_neg (by rw[ht];decide)]
theorem jn.next(h:jn l e item R d0 z0 m acc q)(hp:q.pos≤l.length)(ht:ay l e q=(true,q1))(hi:item q1=(x,q'))(tm:Tm 1 10 10 D d item)(hD:D≤10)(hx:q'.bad=true∨1≤x.length) :
 ∃m',m=m'+1∧jn l e item R d0 z0 m' (acc++[x]) q':=by
 obtain⟨e1,e2,e3⟩:(ay l e q).1=true∧(ay l e q).2={q with pos:=q.pos+1}∧q.bad=false:=by
  rcases ia l q e with h1|⟨h1,_⟩
  · exact h1
  · rw[ht] at h1;cases h1
 have IZ:q1={q with pos:=q.pos+1}:=by rw[ht] at e2;exact e2
 obtain⟨i,rfl⟩:∃i,m=i+1:=by
  rcases h.fuel with h1|h1
  · rw[e3] at h1;cases h1
  · exact⟨m-1,by omega⟩
 obtain⟨t1,t2,t3,t4⟩:=tm q1;rw[hi] at t1 t2 t3 t4;have b0:bd q=0:=iM e3;have b1:bd q1=0:=by rw[IZ];exact b0
 have p1:q1.pos=q.pos+1:=by rw[IZ]
 have d1:q1.deep=q.deep:=by rw[IZ]
 have h1:=h.sz;have h2:=h.lo;have h3:=h.hi;have h5:=h.jm
 have h4:l.length+1≤i+1+q.pos:=by
  rcases h.fuel with h1|h1
  · rw[e3] at h1;cases h1
  · exact h1
 rw[b1] at t1 t2 t4;rw[b0] at h1 h3;simp only at t1 t2 t3 t4;have bq:=dG q';have hDb:D*bd q'≤10*bd q':=Nat.mul_le_mul_right _ hD;refine⟨i,rfl,?_,?_,by omega,by omega,?_,by omega⟩
 · rw[←h.eq]
   conv=>rhs;unfold dE
   rw[if_pos (by rw[ht]),ht];simp only;rw[hi]
 · rcases hx with h6|h6
   · exact .inl h6
   · cases hq:q'.bad with
     | true=>exact .inl rfl
     | false=>have:=iM hq;rw[this] at t2;exact .inr (by omega)
 · rw[List.flatten_append,List.length_append,List.flatten_singleton];omega
end
end Go.Proofs.YtnpjmhodfdgloaaGreatDoor
