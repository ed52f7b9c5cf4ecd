/- Part of the proof. -/
import Derived.Test.YtnpjmhodfdgloaaGreatDoorQ04
set_option linter.unusedVariables false
set_option linter.unusedSimpArgs false
namespace Go.Proofs.YtnpjmhodfdgloaaGreatDoor
set_option maxRecDepth 100000
set_option maxHeartbeats 32000000
inductive jj(L:Nat→LR)(sz:Nat)(Pl:Nat→Prop):Tok→Prop
 | err {t:Tok} {p:Nat}:t.kind≠1→t.stop≤sz→Pl t.start→L t.stop=.err p→Pl p→jj L sz Pl t
 | step {t u:Tok}:t.kind≠1→t.stop≤sz→Pl t.start→L t.stop=.tok u→t.stop<u.stop→jj L sz Pl u→jj L sz Pl t
section
variable{L:Nat→LR}{sz:Nat}{Pl:Nat→Prop}
theorem jj.kind{t:Tok}(h:jj L sz Pl t):t.kind≠1:=by cases h<;>assumption
theorem jj.le{t:Tok}(h:jj L sz Pl t):t.stop≤sz:=by cases h<;>assumption
theorem jj.pl{t:Tok}(h:jj L sz Pl t):Pl t.start:=by cases h<;>assumption
def AD(L:Nat→LR)(sz:Nat)(Pl:Nat→Prop){α}(V:α→Prop)(k:Nat)(r:PR α):Prop:=match r with
 | .err p=>Pl p
 | .ok a u=>V a∧jj L sz Pl u∧k≤u.stop
 | .eo=>False
def Dm(L:Nat→LR)(sz:Nat)(Pl:Nat→Prop){α}(V:α→Prop)(n d:Nat)(I:PM α):Prop:=∀t,jj L sz Pl t→sz-t.stop<n→AD L sz Pl V (t.stop+d) (I t)
def Any{α}:α→Prop:=fun _=>True
theorem Dm.zero{α}{V:α→Prop}{d:Nat}{I:PM α}:Dm L sz Pl V 0 d I:=fun t _ h=>absurd h (Nat.not_lt_zero _)
theorem Dm.pure{α}{V:α→Prop}{n:Nat}{a:α}(h:V a):Dm L sz Pl V n 0 (Pure.pure a):=fun t ht _=>⟨h,ht,lr⟩
theorem Dm.le{α}{V:α→Prop}{n m d:Nat}{I:PM α}(h:Dm L sz Pl V n d I)(hm:m≤n):Dm L sz Pl V m d I:=fun t ht hn=>h t ht (by omega)
theorem Dm.any{α}{V:α→Prop}{n d:Nat}{I:PM α}(h:Dm L sz Pl V n d I):Dm L sz Pl V n 0 I:=fun t ht hn=>by
 have:=h t ht hn;unfold AD at *
 cases hi:I t with
 | err p=>rw[hi] at this;exact this
 | ok a u=>rw[hi] at this;exact⟨this.1,this.2.1,by have:=this.2.2;omega⟩
 | eo=>rw[hi] at this;exact this
theorem Dm.b0{α β}{V:α→Prop}{W:β→Prop}{n d:Nat}{x:PM α}{f:α→PM β}(h:Dm L sz Pl V n 0 x)(k:∀a,V a→Dm L sz Pl W n d (f a)):Dm L sz Pl W n d (x>>=f):=fun t ht hn=>by
 have h1:=h t ht hn;rw[aj];unfold AD at *
 cases hi:x t with
 | err p=>rw[hi] at h1;exact h1
 | eo=>rw[hi] at h1;exact h1
 | ok a u=>
  rw[hi] at h1;obtain⟨h2,h3,h4⟩:=h1;have h5:=k a h2 u h3 (by omega);rw[bD];unfold AD at h5
  cases hj:f a u with
  | err p=>rw[hj] at h5;exact h5
  | eo=>rw[hj] at h5;exact h5
  | ok b v=>rw[hj] at h5;exact⟨h5.1,h5.2.1,by have:=h5.2.2;omega⟩
theorem Dm.YS{α β}{V:α→Prop}{W:β→Prop}{n:Nat}{x:PM α}{f:α→PM β}(h:Dm L sz Pl V (n+1) 1 x)(k:∀a,V a→Dm L sz Pl W n 0 (f a)):Dm L sz Pl W (n+1) 1 (x>>=f):=fun t ht hn=>by
 have h1:=h t ht hn;rw[aj];unfold AD at *
 cases hi:x t with
 | err p=>rw[hi] at h1;exact h1
 | eo=>rw[hi] at h1;exact h1
 | ok a u=>
  rw[hi] at h1;obtain⟨h2,h3,h4⟩:=h1;have:=h3.le;have h5:=k a h2 u h3 (by omega);rw[bD];unfold AD at h5
  cases hj:f a u with
  | err p=>rw[hj] at h5;exact h5
  | eo=>rw[hj] at h5;exact h5
  | ok b v=>rw[hj] at h5;exact⟨h5.1,h5.2.1,by have:=h5.2.2;omega⟩
theorem Dm.b1{α β}{V:α→Prop}{W:β→Prop}{n:Nat}{x:PM α}{f:α→PM β}(h:Dm L sz Pl V n 1 x)(k:∀a,V a→Dm L sz Pl W n 0 (f a)):Dm L sz Pl W n 1 (x>>=f):=by
 cases n with
 | zero=>exact Dm.zero
 | succ n=>exact Dm.YS h (fun a ha=>(k a ha).le (Nat.le_succ n))
theorem Dm.ite{α}{V:α→Prop}{n d:Nat}{c:Prop}[Decidable c]{x y:PM α}(hx:Dm L sz Pl V n d x)(hy:Dm L sz Pl V n d y):Dm L sz Pl V n d (if c then x else y):=by split<;>assumption
theorem Dm.map{α β}{V:α→Prop}{n d:Nat}{x:PM α}{f:α→β}(h:Dm L sz Pl V n d x):Dm L sz Pl Any n d (do let a ←x;Pure.pure (f a)):=fun t ht hn=>by
 have h1:=h t ht hn;rw[aj];unfold AD at *
 cases hi:x t with
 | err p=>rw[hi] at h1;exact h1
 | eo=>rw[hi] at h1;exact h1
 | ok a u=>rw[hi] at h1;exact⟨trivial,h1.2⟩
theorem ET{t:Tok}(ht:jj L sz Pl t):AD L sz Pl (fun _:Unit=>True) (t.stop+1) (L t.stop).go:=by
 cases ht with
 | err a b c d e=>rw[d];exact e
 | step a b c d e f=>rw[d];exact⟨trivial,f,e⟩
theorem nh{n:Nat}:Dm L sz Pl (fun t:Tok=>Pl t.start) n 0 eU:=fun t ht _=>⟨ht.pl,ht,lr⟩
theorem G0{α}{V:α→Prop}{n d:Nat}:Dm L sz Pl V n d (Mm:PM α):=fun t ht _=>ht.pl
theorem EO{α}{V:α→Prop}{n d p:Nat}(h:Pl p):Dm L sz Pl V n d (qz p:PM α):=fun t ht _=>h
theorem si{n:Nat}:Dm L sz Pl Any n 1 (bm L):=fun t ht _=>ET ht
theorem G9{α}{t:Tok}{a:α}{V:α→Prop}(ht:jj L sz Pl t)(h:V a):AD L sz Pl V (t.stop+1) ((L t.stop).go.bind fun _=>Pure.pure a):=by
 have h1:=ET ht;unfold AD at *
 cases hi:(L t.stop).go with
 | err p=>rw[hi] at h1;exact h1
 | eo=>rw[hi] at h1;exact h1
 | ok b u=>rw[hi] at h1;exact⟨h,h1.2⟩
theorem fF{n:Nat}(k:Int):Dm L sz Pl (fun t:Tok=>Pl t.start) n 1 (bE L k):=fun t ht _=>by
 unfold bE;split
 · exact G9 ht ht.pl
 · exact ht.pl
theorem jP{n:Nat}(k:ByteArray):Dm L sz Pl (fun t:Tok=>Pl t.start) n 1 (dt L k):=fun t ht _=>by
 unfold dt;split
 · exact G9 ht ht.pl
 · exact ht.pl
theorem yp{n:Nat}(k:Int):Dm L sz Pl Any n 0 (ft L k):=fun t ht _=>by
 unfold ft;split
 · have:=G9 (V:=Any) (a:=true) ht trivial;unfold AD at *
   cases hi:((L t.stop).go.bind fun _=>Pure.pure true:PR Bool) with
   | err p=>rw[hi] at this;exact this
   | eo=>rw[hi] at this;exact this
   | ok a u=>rw[hi] at this;exact⟨trivial,this.2.1,by have:=this.2.2;omega⟩
 · exact⟨trivial,ht,lr⟩
theorem fw{n:Nat}:Dm L sz Pl Any n 1 (dQ L):=Dm.map (fF 15)
theorem IE{n:Nat}{item:PM (List Nd)}{e:Int}(hi:Dm L sz Pl Any n 1 item):∀m acc t,jj L sz Pl t→sz-t.stop<n→sz-t.stop<m→AD L sz Pl Any t.stop (bj L item e m acc t)
 | 0,acc,t=>fun ht h1 h2=>absurd h2 (Nat.not_lt_zero _)
 | m+1,acc,t=>fun ht h1 h2=>by
  unfold bj;have hs:=yp (L:=L) (Pl:=Pl) (n:=n) e t ht h1;rw[aj];unfold AD at *;by_cases hk:t.kind=e
  · cases hx:ft L e t with
    | err p=>rw[hx] at hs;exact hs
    | eo=>rw[hx] at hs;exact hs
    | ok b u=>
     rw[hx] at hs
     have hb:b=true:=by
      unfold ft at hx;rw[if_pos hk] at hx
      cases hg:(L t.stop).go with
      | ok a v=>
       rw[hg] at hx;have:(PR.ok true v:PR Bool)=.ok b u:=hx
       cases this;rfl
      | err p=>rw[hg] at hx;cases hx
      | eo=>rw[hg] at hx;cases hx
     subst hb;exact⟨trivial,hs.2.1,hs.2.2⟩
  · have hx:ft L e t=.ok false t:=by unfold ft;rw[if_neg hk]
    rw[hx,bD];simp only[Bool.false_eq_true,if_false];have h3:=hi t ht h1;rw[aj];unfold AD at h3
    cases hy:item t with
    | err p=>rw[hy] at h3;exact h3
    | eo=>rw[hy] at h3;exact h3
    | ok a u=>
     rw[hy] at h3;rw[bD];have hle:=h3.2.1.le;have h4:=IE (e:=e) hi m (acc++[a]) u h3.2.1 (by have:=h3.2.2;omega) (by have:=h3.2.2;omega);unfold AD at h4
     cases hz:bj L item e m (acc++[a]) u with
     | err p=>rw[hz] at h4;exact h4
     | eo=>rw[hz] at h4;exact h4
     | ok b v=>rw[hz] at h4;exact⟨trivial,h4.2.1,by have:=h4.2.2;have:=h3.2.2;omega⟩
theorem EP{n:Nat}{item:PM (List Nd)}{e:Int}(hi:Dm L sz Pl Any n 1 item)(acc:List (List Nd)):Dm L sz Pl Any n 0 (bj L item e n acc):=fun t ht hn=>IE hi n acc t ht hn hn
theorem xp{n:Nat}{item:PM (List Nd)}{k e:Int}{some:Bool}(hi:Dm L sz Pl Any n 1 item):Dm L sz Pl Any (n+1) 1 (bW L n k item e some):=by unfold bW;exact Dm.YS (fF k) (fun a ha=>Dm.b0 (EP hi []) (fun l _=>Dm.ite (EO ha) (Dm.pure trivial)))
theorem jh{n:Nat}{item:PM (List Nd)}{k e:Int}{some:Bool}(hi:Dm L sz Pl Any n 1 item):Dm L sz Pl Any n 1 (bW L n k item e some):=(xp hi).le (Nat.le_succ n)
theorem II{n:Nat}:Dm L sz Pl Any n 1 (pf L):=Dm.b1 (fF 3) (fun _ _=>(Dm.map fw).any)
theorem N6{n:Nat}{item:PM (List Nd)}(hi:Dm L sz Pl Any n 1 item):Dm L sz Pl Any n 1 (fx L item):=Dm.b1 fw (fun _ _=>Dm.b0 (fF 7).any (fun _ _=>(Dm.map hi).any))
theorem sh{n:Nat}(x:List Nd):Dm L sz Pl Any n 1 (do bm L;Pure.pure x):=Dm.map si
theorem yq:∀n c,Dm L sz Pl Any n 1 (bo L n c)
 | 0,c=>Dm.zero
 | n+1,c=>by unfold bo;refine Dm.b0 nh (fun t _=>?_);refine Dm.ite (Dm.map (xp (yq n c))) ?_;refine Dm.ite (Dm.YS (fF 12) (fun _ _=>(Dm.map (EP (N6 (yq n c)) [])).any)) ?_;refine Dm.ite (sh _) (Dm.ite (sh _) (Dm.ite (sh _) (Dm.ite (Dm.ite (sh _) (Dm.ite (sh _) (Dm.ite G0 (sh _)))) (Dm.ite II G0))))
theorem IF{n:Nat}(k:Int):Dm L sz Pl Any n 1 (nk L k):=Dm.map fw
theorem Nb{n:Nat}{sub:PM (List Nd)}(hs:Dm L sz Pl Any n 0 sub):Dm L sz Pl Any (n+1) 0 (sC L sub):=by unfold sC;refine Dm.b0 nh (fun t _=>Dm.ite ?_ (Dm.ite (sh _).any (Dm.ite (IF 20).any (Dm.pure trivial))));exact(Dm.YS si (fun _ _=>Dm.b0 hs (fun _ _=>(sh _).any))).any
theorem Bb:∀n,Dm L sz Pl Any n 0 (pB L n)
 | 0=>Dm.zero
 | n+1=>by unfold pB;exact Dm.b0 (Nb (Bb n)) (fun _ _=>Dm.b0 (yp 2) (fun _ _=>Dm.ite (Dm.pure trivial) (Dm.pure trivial)))
theorem ID{n:Nat}:Dm L sz Pl Any n 1 (kQ L n):=Dm.b1 fw (fun _ _=>Dm.b0 (fF 7).any (fun _ _=>(Dm.map (yq n false)).any))
theorem yj{n:Nat}:Dm L sz Pl Any n 0 (iJ L n):=Dm.b0 nh (fun _ _=>Dm.ite (Dm.map (jh ID)).any (Dm.pure trivial))
theorem FY{n:Nat}:Dm L sz Pl Any n 1 (ko L n):=Dm.b1 (fF 9) (fun _ _=>Dm.b0 fw.any (fun _ _=>Dm.map yj))
theorem M6{n:Nat}:∀m acc t,jj L sz Pl t→sz-t.stop<n→sz-t.stop<m→AD L sz Pl Any t.stop (rF L n m acc t)
 | 0,acc,t=>fun ht h1 h2=>absurd h2 (Nat.not_lt_zero _)
 | m+1,acc,t=>fun ht h1 h2=>by
  unfold rF;rw[aj];show AD L sz Pl Any t.stop ((if t.kind=9 then(do let d ←ko L n;rF L n m (acc++[d])) else Pure.pure acc:PM (List (List Nd))) t);split
  · have h3:=FY (n:=n) t ht h1;rw[aj];unfold AD at *
    cases hy:ko L n t with
    | err p=>rw[hy] at h3;exact h3
    | eo=>rw[hy] at h3;exact h3
    | ok a u=>
     rw[hy] at h3;rw[bD];have hle:=h3.2.1.le;have h4:=M6 (n:=n) m (acc++[a]) u h3.2.1 (by have:=h3.2.2;omega) (by have:=h3.2.2;omega);unfold AD at h4
     cases hz:rF L n m (acc++[a]) u with
     | err p=>rw[hz] at h4;exact h4
     | eo=>rw[hz] at h4;exact h4
     | ok b v=>rw[hz] at h4;exact⟨trivial,h4.2.1,by have:=h4.2.2;have:=h3.2.2;omega⟩
  · exact⟨trivial,ht,lr⟩
theorem dB{n:Nat}:Dm L sz Pl Any n 0 (bN L n):=Dm.map (fun t ht hn=>M6 n [] t ht hn hn:Dm L sz Pl Any n 0 _)
theorem tC{n:Nat}:Dm L sz Pl Any n 1 (dH L):=Dm.b0 nh (fun _ _=>Dm.ite G0 fw)
theorem Na{n:Nat}{sub:PM (List Nd)}(hs:Dm L sz Pl Any n 1 sub):Dm L sz Pl Any n 0 (sB L n sub):=by unfold sB;refine Dm.b0 nh (fun t _=>Dm.ite (Dm.b1 tC (fun _ _=>Dm.map dB)).any ?_);exact Dm.b0 (V:=Any) (Dm.ite (Dm.b1 si (fun _ _=>fw.any)).any (Dm.pure trivial)) (fun _ _=>Dm.b0 dB (fun _ _=>(Dm.map hs).any))
theorem Pp{n:Nat}{sub:PM (List Nd)}(hs:Dm L sz Pl Any n 1 sub):Dm L sz Pl Any n 1 (uA L n sub):=by
 unfold uA;refine Dm.b1 fw (fun _ _=>Dm.b0 (V:=Any) ?_ (fun a _=>?_))
 · exact Dm.b0 (yp 7) (fun _ _=>Dm.ite (Dm.map fw).any (Dm.pure trivial))
 · exact Dm.b0 yj (fun _ _=>Dm.b0 dB (fun _ _=>Dm.b0 (V:=Any) (Dm.b0 nh (fun _ _=>Dm.ite hs.any (Dm.pure trivial))) (fun _ _=>Dm.pure trivial)))
theorem G2{n:Nat}{sub:PM (List Nd)}(hs:Dm L sz Pl Any n 1 sub):Dm L sz Pl Any n 1 (iK L n sub):=by unfold iK;refine Dm.b0 nh (fun t _=>Dm.ite ?_ (Pp hs));exact Dm.b1 (fF 6) (fun _ _=>Na hs)
theorem nI:∀n,Dm L sz Pl Any n 1 (cC L n)
 | 0=>Dm.zero
 | n+1=>by unfold cC;exact Dm.map (xp (G2 (nI n)))
theorem BN{n:Nat}:Dm L sz Pl Any n 0 (py L n):=Dm.b0 (yp 8) (fun _ _=>Dm.ite (yq n true).any (Dm.pure trivial))
theorem BP{n:Nat}:Dm L sz Pl Any n 1 (gM L n):=
 Dm.b1 (fF 3) (fun _ _=>Dm.b0 fw.any (fun _ _=>Dm.b0 (fF 7).any (fun _ _=>Dm.b0 (Bb n) (fun _ _=>Dm.map BN))))
theorem G3{n:Nat}:Dm L sz Pl Any n 0 (ku L n):=Dm.b0 nh (fun _ _=>Dm.ite (Dm.map (jh BP)).any (Dm.pure trivial))
theorem ES{n:Nat}:Dm L sz Pl Any n 1 (kR L):=Dm.b1 (fF 15) (fun _ h=>Dm.ite (Dm.pure trivial) (EO h))
theorem ym{n:Nat}:Dm L sz Pl Any n 1 (dL L n):=by unfold dL;refine Dm.b0 nh (fun t _=>Dm.ite (Dm.map (nI n)) ?_);exact Dm.b1 ES (fun _ _=>Dm.b0 nh (fun _ _=>Dm.b0 (V:=Any) (Dm.ite fw.any (Dm.pure trivial)) (fun _ _=>Dm.b0 G3 (fun _ _=>Dm.b0 dB (fun _ _=>(Dm.map (nI n)).any)))))
theorem BO{n:Nat}:Dm L sz Pl Any n 1 (gL L n):=
 Dm.b1 (jP _) (fun _ _=>Dm.b0 tC.any (fun _ _=>Dm.b0 (jP _).any (fun _ _=>Dm.b0 fw.any (fun _ _=>Dm.b0 dB (fun _ _=>(Dm.map (nI n)).any)))))
theorem mC{n:Nat}:Dm L sz Pl Any n 0 (ec L):=Dm.b0 nh (fun _ _=>Dm.ite (sh _).any (Dm.pure trivial))
theorem km{n:Nat}{w:ByteArray}{B:List Nd→PM (List Nd)}(h:∀x,Dm L sz Pl Any n 0 (B x)):Dm L sz Pl Any n 1 (bZ L w B):=Dm.b0 mC (fun x _=>Dm.b1 (jP w) (fun _ _=>h x))
theorem G1{n:Nat}:Dm L sz Pl Any n 1 (cU L):=Dm.b1 ES (fun _ _=>Dm.b0 (fF 7).any (fun _ _=>(Dm.map fw).any))
theorem N9{n:Nat}:Dm L sz Pl Any n 1 (sA L n):=Dm.b1 (jP _) (fun _ _=>Dm.b0 dB (fun _ _=>(Dm.map (jh G1)).any))
theorem N8{n:Nat}(x:List Nd):Dm L sz Pl Any n 0 (pA L n x):=Dm.b0 fw.any (fun _ _=>Dm.map dB)
theorem IH{n:Nat}(k:Int):Dm L sz Pl Any n 0 (gv L k):=fun t ht _=>by
 unfold gv;split
 · cases ht with
   | err a b c d e=>rw[d];exact⟨trivial,.err a b c d e,lr⟩
   | step a b c d e f=>rw[d];exact⟨trivial,f,by omega⟩
 · exact⟨trivial,ht,lr⟩
theorem IG{n:Nat}{k sign:Int}:∀m acc t,jj L sz Pl t→sz-t.stop<n→sz-t.stop<m→AD L sz Pl Any t.stop (gC L k sign m acc t)
 | 0,acc,t=>fun ht h1 h2=>absurd h2 (Nat.not_lt_zero _)
 | m+1,acc,t=>fun ht h1 h2=>by
  unfold gC;have h3:=IF (n:=n) k t ht h1;rw[aj];unfold AD at *
  cases hy:nk L k t with
  | err p=>rw[hy] at h3;exact h3
  | eo=>rw[hy] at h3;exact h3
  | ok a u=>
   rw[hy] at h3;rw[bD];have hle:=h3.2.1.le;have h4:=yp (n:=n) sign u h3.2.1 (by have:=h3.2.2;omega);rw[aj];unfold AD at h4
   cases hz:ft L sign u with
   | err p=>rw[hz] at h4;exact h4
   | eo=>rw[hz] at h4;exact h4
   | ok b v=>
    rw[hz] at h4;rw[bD];have Z3H:=h4.2.1.le
    cases b with
    | true=>
     simp only[if_true];have h5:=IG (n:=n) (k:=k) (sign:=sign) m (acc++[a]) v h4.2.1 (by have:=h4.2.2;have:=h3.2.2;omega) (by have:=h4.2.2;have:=h3.2.2;omega);unfold AD at h5
     cases hw:gC L k sign m (acc++[a]) v with
     | err p=>rw[hw] at h5;exact h5
     | eo=>rw[hw] at h5;exact h5
     | ok c x=>rw[hw] at h5;exact⟨trivial,h5.2.1,by have:=h5.2.2;have:=h4.2.2;have:=h3.2.2;omega⟩
    | false=>exact⟨trivial,h4.2.1,by have:=h4.2.2;have:=h3.2.2;omega⟩
theorem zy{n:Nat}{k sign:Int}(acc:List (List Nd)):Dm L sz Pl Any n 0 (gC L k sign n acc):=fun t ht hn=>IG n acc t ht hn hn
theorem DS{n:Nat}:Dm L sz Pl Any n 0 (kr L n):=Dm.b0 nh (fun _ _=>Dm.ite (Dm.b1 si (fun _ _=>Dm.b0 (IH 20) (fun _ _=>zy []))).any (Dm.pure trivial))
theorem Ak{n:Nat}:Dm L sz Pl Any n 1 (jR L n):=
 Dm.b0 mC (fun _ _=>Dm.b1 fw (fun _ _=>Dm.b0 (fF 7).any (fun _ _=>Dm.b0 (Bb n) (fun _ _=>Dm.b0 BN (fun _ _=>Dm.map dB)))))
theorem tB{n:Nat}:Dm L sz Pl Any n 0 (fu L n):=Dm.b0 nh (fun _ _=>Dm.ite (Dm.map (jh Ak)).any (Dm.pure trivial))
theorem Aj{n:Nat}:Dm L sz Pl Any n 1 (jQ L n):=
 Dm.b0 mC (fun _ _=>Dm.b1 fw (fun _ _=>Dm.b0 tB (fun _ _=>Dm.b0 (fF 7).any (fun _ _=>Dm.b0 (Bb n) (fun _ _=>Dm.map dB)))))
theorem KB{n:Nat}(x:List Nd):Dm L sz Pl Any n 0 (pz L n x):=
 Dm.b0 fw.any (fun _ _=>Dm.b0 DS (fun _ _=>Dm.b0 dB (fun _ _=>(Dm.map (jh Aj)).any)))
theorem ER{n:Nat}:Dm L sz Pl Any n 1 (qA L n):=km KB
theorem DT{n:Nat}(x:List Nd):Dm L sz Pl Any n 0 (kt L n x):=
 Dm.b0 fw.any (fun _ _=>Dm.b0 dB (fun _ _=>(Dm.map (jh Aj)).any))
theorem Nc{n:Nat}(x:List Nd):Dm L sz Pl Any n 0 (sD L n x):=
 Dm.b0 fw.any (fun _ _=>Dm.b0 dB (fun _ _=>Dm.b0 (fF 8).any (fun _ _=>Dm.map (zy []))))
theorem FZ{n:Nat}:Dm L sz Pl Any n 1 (kq L n):=Dm.b0 mC (fun _ _=>Dm.b1 fw (fun _ _=>Dm.map dB))
theorem Po{n:Nat}(x:List Nd):Dm L sz Pl Any n 0 (xt L n x):=
 Dm.b0 fw.any (fun _ _=>Dm.b0 dB (fun _ _=>(Dm.map (jh FZ)).any))
theorem N7{n:Nat}(x:List Nd):Dm L sz Pl Any n 0 (sy L n x):=
 Dm.b0 fw.any (fun _ _=>Dm.b0 dB (fun _ _=>(Dm.map (jh Ak)).any))
theorem N5{n:Nat}:Dm L sz Pl Any n 1 (oN L n):=Dm.b1 (jP _) (fun _ _=>(Dm.map ER).any)
theorem zx{n:Nat}(x:List Nd):Dm L sz Pl Any n 0 (gZ L n x):=
 Dm.b0 (fF 9).any (fun _ _=>Dm.b0 fw.any (fun _ _=>Dm.b0 tB (fun _ _=>Dm.b0 (jP _).any (fun _ _=>Dm.map (zy [])))))
theorem N4{n:Nat}{w:ByteArray}{f:PM (List Nd)}(h:bG L n w=some f):Dm L sz Pl Any n 1 f:=by
 unfold bG at h
 repeat' (split at h)
 all_goals first
  | (cases h;first| exact BO|exact ym|exact N9|exact ER|exact N5|exact km N8|exact km DT|exact km Nc|exact km Po|exact km N7|exact km zx)
  | cases h
theorem DU{n:Nat}:Dm L sz Pl Any n 1 (fh L n):=fun t ht hn=>by
 unfold fh
 have hu:∀u:Tok,Pl u.start→AD L sz Pl Any (t.stop+1) (if u.kind≠15 then PR.err u.start else match bG L n u.val with
  | some f=>f t
  | none=>.err u.start):=by
  intro u hp;split
  · exact hp
  · split
    · rename_i f hf;exact N4 hf t ht hn
    · exact hp
 dsimp only;by_cases hk:t.kind=18∨t.kind=19
 · rw[if_pos hk];have ht':=ht
   cases ht' with
   | err a b c d e=>rw[d];exact e
   | step a b c d e f=>rw[d];exact hu _ f.pl
 · rw[if_neg hk];exact hu t ht.pl
theorem DR{n:Nat}:Dm L sz Pl Any n 1 (bC L n):=fun t ht hn=>by
 unfold bC;split
 · exact ym t ht hn
 · split
   · exact DU t ht hn
   · exact ht.pl
theorem yB{n:Nat}{item:PM (List Nd)}(hi:Dm L sz Pl Any n 1 item):∀m acc t,jj L sz Pl t→sz-t.stop<n→sz-t.stop<m→∃p,bj L item 1 m acc t=.err p∧Pl p
 | 0,acc,t=>fun ht h1 h2=>absurd h2 (Nat.not_lt_zero _)
 | m+1,acc,t=>fun ht h1 h2=>by
  unfold bj;have hx:ft L 1 t=.ok false t:=by unfold ft;rw[if_neg ht.kind]
  rw[aj,hx,bD];simp only[Bool.false_eq_true,if_false];have h3:=hi t ht h1;rw[aj];unfold AD at h3
  cases hy:item t with
  | err p=>rw[hy] at h3;exact⟨p,rfl,h3⟩
  | eo=>rw[hy] at h3;exact h3.elim
  | ok a u=>rw[hy] at h3;rw[bD];have hle:=h3.2.1.le;exact yB hi m (acc++[a]) u h3.2.1 (by have:=h3.2.2;omega) (by have:=h3.2.2;omega)
theorem AE{n:Nat}{t:Tok}(ht:jj L sz Pl t)(hn:sz-t.stop<n):∃p,iX L n t=.err p∧Pl p:=by obtain⟨p,h1,h2⟩:=yB (DR (n:=n)) n [] t ht hn hn;refine⟨p,?_,h2⟩;unfold iX;rw[aj,h1];rfl
end
def bd(p:Ps):Nat:=if p.bad then 1 else 0
theorem dG(p:Ps):bd p≤1:=by unfold bd;split<;>omega
theorem BG{p:Ps}(h:p.bad=true):bd p=1:=by unfold bd;rw[if_pos h]
theorem iM{p:Ps}(h:p.bad=false):bd p=0:=by unfold bd;rw[if_neg (by rw[h];decide)]
structure Ik(n k E e D d:Nat)(p q:Ps):Prop where
 up:bd p≤bd q
 sz:n+p.pos+E*bd p≤q.pos+k+E*bd q+e*bd p
 dl:p.deep≤q.deep
 dh:q.deep+D*bd p≤p.deep+D*bd q+d*bd p
def Tm(k E e D d:Nat)(x:SM (List Nd)):Prop:=∀p,Ik (x p).1.length k E e D d p (x p).2
section
variable(l:List Tok)(p:Ps)
theorem jL:bd (db p)=1:=by
 cases h:p.bad with
 | true=>unfold db;rw[if_pos h];exact BG h
 | false=>unfold db;rw[if_neg (by rw[h];decide)];exact BG rfl
theorem kP:(db p).pos=p.pos:=by unfold db;split<;>rfl
theorem gY:(db p).deep=p.deep:=by unfold db;split<;>rfl
theorem r6:bd p≤bd (aw l p).2∧p.pos+1≤(aw l p).2.pos+bd (aw l p).2∧p.pos≤(aw l p).2.pos∧(aw l p).2.deep=p.deep:=by
 have h1:=dG p;unfold aw;by_cases hc:p.bad=true∨ag l p.pos≠15
 · rw[if_pos hc];have:=jL p;have:=kP p;have:=gY p;simp only;omega
 · rw[if_neg hc];have hb:p.bad=false:=by cases h:p.bad;rfl;exact absurd (.inl h) hc
   have kh:bd p=0:=iM hb;have h3:bd {p with pos:=p.pos+1}=bd p:=rfl;exact⟨Nat.le_of_eq h3.symm,by show p.pos+1≤p.pos+1+bd _;omega,by show p.pos≤p.pos+1;omega,rfl⟩
theorem ia(k:Int):((ay l k p).1=true∧(ay l k p).2={p with pos:=p.pos+1}∧p.bad=false)∨((ay l k p).1=false∧(ay l k p).2=p):=by
 unfold ay;by_cases hc:p.bad=true∨ag l p.pos≠k
 · rw[if_pos hc];exact .inr ⟨rfl,rfl⟩
 · rw[if_neg hc];exact .inl ⟨rfl,rfl,by cases h:p.bad;rfl;exact absurd (.inl h) hc⟩
theorem O8(k:Int)(h:p.bad=true):ay l k p=(false,p):=by unfold ay;rw[if_pos (.inl h)]
theorem zO(k:Int):bd p≤bd (cr l k p).2∧p.pos+1≤(cr l k p).2.pos+bd (cr l k p).2∧p.pos≤(cr l k p).2.pos∧(cr l k p).2.deep=p.deep:=by
 have h1:=dG p;unfold cr;rcases ia l p k with⟨e1,e2,e3⟩|⟨e1,e2⟩
 · rw[if_pos e1,e2];have kh:bd p=0:=iM e3;have h3:bd {p with pos:=p.pos+1}=bd p:=rfl;exact⟨Nat.le_of_eq h3.symm,by show p.pos+1≤p.pos+1+bd _;omega,by show p.pos≤p.pos+1;omega,rfl⟩
 · rw[if_neg (by rw[e1];decide)];have:=jL p;have:=kP p;have:=gY p;simp only;omega
theorem LB(e:Int):bd p≤bd (eT l e p).2∧p.pos+bd p≤(eT l e p).2.pos+bd (eT l e p).2∧(eT l e p).2.deep=p.deep:=by
 have h1:=dG p;unfold eT;by_cases hc:p.bad=false∧ag l p.pos=e
 · rw[if_pos hc];have:=jL {p with pos:=p.pos-1};have:=kP {p with pos:=p.pos-1};have:=gY {p with pos:=p.pos-1};have kh:bd p=0:=iM hc.1;simp at *;omega
 · rw[if_neg hc];exact⟨lr,lr,rfl⟩
theorem G6:(ew p).2.pos=p.pos∧(ew p).2.deep=p.deep+1∧bd p≤bd (ew p).2∧(((ew p).1=true∧bd p=0∧bd (ew p).2=0∧p.deep+1≤60)∨((ew p).1=false∧bd (ew p).2=1)):=by
 have h1:=dG p;unfold ew;by_cases hc:p.deep+1>60
 · rw[if_pos hc];have:=jL {p with deep:=p.deep+1,unsure:=true};have:=kP {p with deep:=p.deep+1,unsure:=true};have:=gY {p with deep:=p.deep+1,unsure:=true};simp at *;omega
 · rw[if_neg hc];have h3:bd {p with deep:=p.deep+1}=bd p:=rfl;simp only[h3]
   cases h:p.bad with
   | true=>
    have h2:=BG h
    exact⟨trivial,trivial,lr,.inr ⟨rfl,h2⟩⟩
   | false=>have h2:=iM h;exact⟨trivial,trivial,lr,.inl ⟨rfl,h2,h2,by omega⟩⟩
variable{l p}
theorem vO{en:Int}{item:SM (List Nd)}{E e D d:Nat}(h:Tm 0 E e D d item):∀(m:Nat) (acc:List (List Nd)) (p:Ps),
 Ik ((dk l en item m acc p).1.flatten.length) acc.flatten.length E 0 D 0 p (dk l en item m acc p).2
 | 0,acc,p=>⟨lr,by show acc.flatten.length+p.pos+E*bd p≤p.pos+acc.flatten.length+E*bd p+0*bd p;omega,lr,by show p.deep+D*bd p≤p.deep+D*bd p+0*bd p;omega⟩
 | m+1,acc,p=>by
  unfold dk;by_cases hb:p.bad=true
  · rw[if_pos hb];exact⟨lr,by simp;omega,lr,by simp⟩
  · rw[if_neg hb];have tU:bd p=0:=iM (by simpa using hb);rcases ia l p en with⟨e1,e2,e3⟩|⟨e1,e2⟩
    · rw[if_pos e1,e2];have:bd {p with pos:=p.pos+1}=bd p:=rfl;exact⟨lr,by simp[this,tU];omega,lr,by simp[this,tU]⟩
    · rw[if_neg (by rw[e1];decide)];have hi:=h p;have ih:=vO h m (acc++[(item p).1]) (item p).2 (en:=en);generalize dk l en item m (acc++[(item p).1]) (item p).2=r at *;obtain⟨i1,i2,i3,i4⟩:=hi;obtain⟨j1,j2,j3,j4⟩:=ih;simp only[List.flatten_append,List.flatten_singleton,List.length_append,tU,Nat.mul_zero,Nat.add_zero,Nat.zero_mul] at i1 i2 i3 i4 j1 j2 j3 j4;exact⟨by omega,by rw[tU];omega,by omega,by rw[tU];omega⟩
theorem Bd{en:Int}{item:SM (List Nd)}{E e D d:Nat}(h:Tm 0 E e D d item)(m:Nat)(acc:List (List Nd))(p:Ps) :
 Ik ((cV l en item m acc p).1.flatten.length) acc.flatten.length E 0 D 0 p (cV l en item m acc p).2:=by
 unfold cV;by_cases hb:p.bad=true
 · rw[if_pos hb];exact⟨lr,by simp;omega,lr,by simp⟩
 · rw[if_neg hb];have tU:bd p=0:=iM (by simpa using hb);have hi:=h p;have ih:=vO h m (acc++[(item p).1]) (item p).2 (en:=en) (l:=l);generalize dk l en item m (acc++[(item p).1]) (item p).2=r at *;obtain⟨i1,i2,i3,i4⟩:=hi;obtain⟨j1,j2,j3,j4⟩:=ih;simp only[List.flatten_append,List.flatten_singleton,List.length_append,tU,Nat.mul_zero,Nat.add_zero,Nat.zero_mul] at i1 i2 i3 i4 j1 j2 j3 j4;exact⟨by omega,by rw[tU];omega,by omega,by rw[tU];omega⟩
theorem zm{k:Int}{item:SM (List Nd)}{E e D d:Nat}(h:Tm 1 E e D d item):∀(m:Nat) (acc:List (List Nd)) (p:Ps),
 Ik ((dE l k item m acc p).1.flatten.length) acc.flatten.length E 0 D 0 p (dE l k item m acc p).2
 | 0,acc,p=>⟨lr,by show acc.flatten.length+p.pos+E*bd p≤p.pos+acc.flatten.length+E*bd p+0*bd p;omega,lr,by show p.deep+D*bd p≤p.deep+D*bd p+0*bd p;omega⟩
 | m+1,acc,p=>by
  unfold dE;rcases ia l p k with⟨e1,e2,e3⟩|⟨e1,e2⟩
  · rw[if_pos e1,e2];have tU:bd p=0:=iM e3;have gP:bd {p with pos:=p.pos+1}=0:=tU;have hi:=h {p with pos:=p.pos+1};have ih:=zm h m (acc++[(item {p with pos:=p.pos+1}).1]) (item {p with pos:=p.pos+1}).2 (k:=k);generalize dE l k item m (acc++[(item {p with pos:=p.pos+1}).1]) (item {p with pos:=p.pos+1}).2=r at *;obtain⟨i1,i2,i3,i4⟩:=hi;obtain⟨j1,j2,j3,j4⟩:=ih;simp only[List.flatten_append,List.flatten_singleton,List.length_append,tU,gP,Nat.mul_zero,Nat.add_zero,Nat.zero_mul] at i1 i2 i3 i4 j1 j2 j3 j4;exact⟨by omega,by rw[tU];omega,by omega,by rw[tU];omega⟩
  · rw[if_neg (by rw[e1];decide)];exact⟨lr,by simp;omega,lr,by simp⟩
end
def Wp{α:Type}(x:SM α)(p:Ps)(Q:α→Ps→Prop):Prop:=Q (x p).1 (x p).2
section
variable{α β:Type}{l:List Tok}{p:Ps}
theorem wp_bind{x:SM α}{f:α→SM β}{Q:β→Ps→Prop}(h:Wp x p (fun a q=>Wp (f a) q Q)):Wp (x>>=f) p Q:=h
theorem wp_pure{a:α}{Q:α→Ps→Prop}(h:Q a p):Wp (pure a:SM α) p Q:=h
theorem tu{Q:ByteArray→Ps→Prop}(h:∀s q,bd p≤bd q→p.pos+1≤q.pos+bd q→p.pos≤q.pos→q.deep=p.deep→Q s q):Wp (aw l) p Q:=by obtain⟨a,b,c,d⟩:=r6 l p;exact h _ _ a b c d
theorem Bp{k:Int}{Q:Unit→Ps→Prop}(h:∀q,bd p≤bd q→p.pos+1≤q.pos+bd q→p.pos≤q.pos→q.deep=p.deep→Q () q):Wp (cr l k) p Q:=by obtain⟨a,b,c,d⟩:=zO l p k;exact h _ a b c d
theorem Bq{k:Int}{Q:Unit→Ps→Prop}(h:∀q,bd p≤bd q→p.pos+bd p≤q.pos+bd q→q.deep=p.deep→Q () q):Wp (eT l k) p Q:=by obtain⟨a,b,c⟩:=LB l p k;exact h _ a b c
theorem K3{k:Int}{Q:Bool→Ps→Prop}(h:∀q,q.pos=p.pos+1→q.deep=p.deep→bd q=0→bd p=0→Q true q)(h2:Q false p):Wp (ay l k) p Q:=by
 unfold Wp;rcases ia l p k with⟨a,b,c⟩|⟨a,b⟩
 · rw[a,b];have hb:=iM c;exact h _ rfl rfl hb hb
 · rw[a,b];exact h2
theorem Dx{Q:Bool→Ps→Prop}(h:∀q,q.pos=p.pos→q.deep=p.deep+1→bd q=0→bd p=0→Q true q)(h2:∀q,q.pos=p.pos→q.deep=p.deep+1→bd q=1→Q false q):Wp ew p Q:=by
 unfold Wp;obtain⟨a,b,c,⟨d,e,f,g⟩|⟨d,e⟩⟩:=G6 p
 · rw[d];exact h _ a b f e
 · rw[d];exact h2 _ a b e
theorem K2{Q:Unit→Ps→Prop}(h:∀q,q.pos=p.pos→q.deep=p.deep-1→bd q=bd p→Q () q):Wp jx p Q:=h _ rfl rfl rfl
theorem pw{b:Bool}{Q:Unit→Ps→Prop}(h:∀q,q.pos=p.pos→q.deep=p.deep→bd q=bd p→Q () q):Wp (aL b) p Q:=h _ rfl rfl rfl
theorem MK{Q:Unit→Ps→Prop}(h:∀q,q.pos=p.pos→q.deep=p.deep→bd q=bd p→Q () q):Wp (gp l) p Q:=h _ rfl rfl rfl
theorem vP{n:Nat}{Q:Int→Ps→Prop}(h:∀k,Q k p):Wp (fc l n) p Q:=h _
theorem Hy{n:Nat}{s:ByteArray}{Q:Bool→Ps→Prop}(h:∀b,Q b p):Wp (cR l n s) p Q:=h _
theorem To{Q:Bool→Ps→Prop}(h:∀b,Q b p):Wp (nf l) p Q:=h _
theorem QU{Q:Bool→Ps→Prop}(h:∀b,Q b p):Wp NX p Q:=h _
theorem wp_move{Q:Unit→Ps→Prop}(h:∀q,q.pos=p.pos+1→q.deep=p.deep→bd q=bd p→Q () q):Wp dY p Q:=h _ rfl rfl rfl
theorem qT{Q:List Nd→Ps→Prop}(h:∀q,q.pos=p.pos→q.deep=p.deep→bd q=1→bd p≤1→Q [] q):Wp dn p Q:=h _ (kP p) (gY p) (jL p) (dG p)
theorem oh{k E e D d:Nat}{x:SM (List Nd)}{Q:List Nd→Ps→Prop}(t:Tm k E e D d x)(h:∀v q,bd p≤bd q→v.length+p.pos+E*bd p≤q.pos+k+E*bd q+e*bd p→p.deep≤q.deep→q.deep+D*bd p≤p.deep+D*bd q+d*bd p→Q v q):Wp x p Q:=h _ _ (t p).up (t p).sz (t p).dl (t p).dh
theorem wp_mono{x:SM α}{Q R:α→Ps→Prop}(h:Wp x p Q)(hr:∀a q,Q a q→R a q):Wp x p R:=hr _ _ h
theorem Dl{k E e D d:Nat}{x:SM (List Nd)}(h:∀p,Wp x p (fun v q=>Ik v.length k E e D d p q)):Tm k E e D d x:=h
theorem QY{en:Int}{item:SM (List Nd)}{E e D d m:Nat}{acc:List (List Nd)}{Q:List (List Nd)→Ps→Prop}(t:Tm 0 E e D d item)(h:∀v q,bd p≤bd q→v.flatten.length+p.pos+E*bd p≤q.pos+acc.flatten.length+E*bd q+0*bd p→p.deep≤q.deep→q.deep+D*bd p≤p.deep+D*bd q+0*bd p→Q v q):Wp (dk l en item m acc) p Q:=h _ _ (vO t m acc p).up (vO t m acc p).sz (vO t m acc p).dl (vO t m acc p).dh
theorem QV{en:Int}{item:SM (List Nd)}{E e D d m:Nat}{acc:List (List Nd)}{Q:List (List Nd)→Ps→Prop}(t:Tm 0 E e D d item)(h:∀v q,bd p≤bd q→v.flatten.length+p.pos+E*bd p≤q.pos+acc.flatten.length+E*bd q+0*bd p→p.deep≤q.deep→q.deep+D*bd p≤p.deep+D*bd q+0*bd p→Q v q):Wp (cV l en item m acc) p Q:=h _ _ (Bd t m acc p).up (Bd t m acc p).sz (Bd t m acc p).dl (Bd t m acc p).dh
theorem QZ{k:Int}{item:SM (List Nd)}{E e D d m:Nat}{acc:List (List Nd)}{Q:List (List Nd)→Ps→Prop}(t:Tm 1 E e D d item)(h:∀v q,bd p≤bd q→v.flatten.length+p.pos+E*bd p≤q.pos+acc.flatten.length+E*bd q+0*bd p→p.deep≤q.deep→q.deep+D*bd p≤p.deep+D*bd q+0*bd p→Q v q):Wp (dE l k item m acc) p Q:=h _ _ (zm t m acc p).up (zm t m acc p).sz (zm t m acc p).dl (zm t m acc p).dh
theorem Z18{b:Bool}{x y:SM α}{Q:α→Ps→Prop}(h1:b=true→Wp x p Q)(h2:b=false→Wp y p Q):Wp (if b=true then x else y) p Q:=by
 cases b
 · exact h2 rfl
 · exact h1 rfl
theorem gr{c:Prop}[Decidable c]{x y:SM α}{Q:α→Ps→Prop}(h1:c→Wp x p Q)(h2:¬c→Wp y p Q):Wp (if c then x else y) p Q:=by
 by_cases h:c
 · rw[if_pos h];exact h1 h
 · rw[if_neg h];exact h2 h
theorem QW{c:Ps→Prop}[i:∀q,Decidable (c q)]{x y:SM α}{Q:α→Ps→Prop}(h1:c p→Wp x p Q)(h2:¬c p→Wp y p Q):Wp (fun q=>if c q then x q else y q) p Q:=by
 unfold Wp;by_cases h:c p
 · simp only[if_pos h];exact h1 h
 · simp only[if_neg h];exact h2 h
theorem QX{f:Ps→α}{Q:α→Ps→Prop}(h:∀q,q.pos=p.pos+1→q.deep=p.deep→bd q=bd p→Q (f p) q):Wp (fun q=>(f q,{q with pos:=q.pos+1})) p Q:=h _ rfl rfl rfl
theorem K1{Q:List Nd→Ps→Prop}(h:∀q,q.pos=p.pos+1→q.deep=p.deep→bd q=1→Q [] q):Wp (fun q=>dn {q with pos:=q.pos+1,unsure:=true}) p Q:=h _ (kP _) (gY _) (jL _)
theorem Zo{f:Ps→SM α}{Q:α→Ps→Prop}(h:Wp (f p) p Q):Wp (fun q=>f q q) p Q:=h
end
theorem Z2d(n:Nd)(a:List Nd):(made n [a]).length=a.length+1:=by simp[made]
theorem Yh(n:Nd):(made n []).length=1:=by simp[made]
theorem Z2e(n:Nd)(ks:List (List Nd)):(made n ks).length=ks.flatten.length+1:=eE n ks
theorem QG:Tm 0 10 0 1 1 (pure []:SM (List Nd)):=fun p=>⟨lr,by show 0+p.pos+10*bd p≤p.pos+0+10*bd p+0*bd p;omega,lr,by show p.deep+1*bd p≤p.deep+1*bd p+1*bd p;omega⟩
theorem Zn{k E e D d D' d':Nat}{x:SM (List Nd)}(h:Tm k E e D d x)(h1:D+d≤D' )(h2:d≤d'):Tm k E e D' d' x:=fun p=>by
 obtain⟨a,b,c,f⟩:=h p;refine⟨a,b,c,?_⟩;have b1:=dG p;have b2:=dG (x p).2;rcases Nat.eq_zero_or_pos (bd p) with hp|hp<;>rcases Nat.eq_zero_or_pos (bd (x p).2) with hq|hq
 · rw[hp,hq] at f ⊢;omega
 · have:bd (x p).2=1:=by omega
   rw[hp,this] at f ⊢;omega
 · omega
 · have e1:bd p=1:=by omega
   have e2:bd (x p).2=1:=by omega
   rw[e1,e2] at f ⊢;omega
theorem gl:(∀(n:Nd) (ks:List (List Nd)),(made n ks).length=ks.flatten.length+1)∧(∀a b:List (List Nd),(a++b).flatten=a.flatten++b.flatten)∧(∀(a:List Nd) (b:List (List Nd)),(a :: b).flatten=a++b.flatten)∧(([]:List (List Nd)).flatten=[])∧(∀a:List Nd,a++[]=a)∧(∀a:List Nd,[]++a=a)∧(∀a b:List Nd,(a++b).length=a.length+b.length)∧(([]:List Nd).length=0):=⟨eE,fun _ _=>List.flatten_append,fun _ _=>List.flatten_cons,rfl,List.append_nil,List.nil_append,fun _ _=>List.length_append,rfl⟩
section
variable(l:List Tok)
theorem lM:∀n,Tm 0 10 0 1 1 (eK l n)
 | 0=>QG
 | n+1=>by
  have ih:=lM n;unfold eK
  (refine Dl fun p=>?_;have b0:=dG p;repeat' with_reducible first| refine wp_bind ?_|refine tu fun _ _ _ _ _ _=>?_|refine Bp fun _ _ _ _ _=>?_|refine K3 (fun _ _ _ _ _=>?_) ?_|refine Dx (fun _ _ _ _ _=>?_) (fun _ _ _ _=>?_)|refine K2 fun _ _ _ _=>?_|refine pw fun _ _ _ _=>?_|refine vP fun _=>?_|refine oh ‹Tm _ _ _ _ _ _› fun _ _ _ _ _ _=>?_|refine wp_pure ?_|(refine gr (fun h=>?_) (fun h=>?_)<;>first| exact absurd h (by decide)|exact absurd rfl h|clear h))
  all_goals (refine⟨?_,?_,?_,?_⟩<;>(try simp only[gl] at *)<;>omega)
theorem iz(fixed:Bool):∀n,Tm 0 10 0 1 1 (cQ l n fixed)
 | 0=>QG
 | n+1=>by
  have ih:=iz fixed n
  have hf:Tm 0 10 10 1 1 (do let s ←aw l;cr l 7;let v ←cQ l n fixed;pure (made {kind:=19,name:=s} [v])):=by
   (refine Dl fun p=>?_;have b0:=dG p;repeat' with_reducible first| refine wp_bind ?_|refine tu fun _ _ _ _ _ _=>?_|refine Bp fun _ _ _ _ _=>?_|refine oh ‹Tm _ _ _ _ _ _› fun _ _ _ _ _ _=>?_|refine wp_pure ?_)
   all_goals (refine⟨?_,?_,?_,?_⟩<;>(try simp only[gl] at *)<;>omega)
  unfold cQ;refine Dl fun p=>?_;have b0:=dG p;refine wp_bind (Dx (fun q a1 a2 a3 a4=>?_) (fun q a1 a2 a3=>?_))
  · refine gr (fun _=>?_) (fun h=>absurd rfl h);refine wp_bind (wp_mono (Q:=fun v r=>Ik v.length 0 10 0 1 1 q r) ?_ ?_)
    · repeat' first
       | with_reducible first| refine wp_bind ?_|refine tu fun _ _ _ _ _ _=>?_|refine wp_move fun _ _ _ _=>?_|refine qT fun _ _ _ _ _=>?_|refine QY ‹Tm _ _ _ _ _ _› fun _ _ _ _ _ _=>?_|refine wp_pure ?_|(refine gr (fun h=>?_) (fun h=>?_)<;>first| exact absurd h (by decide)|exact absurd rfl h|clear h) 
       | (refine QW (fun h=>?_) (fun h=>?_)<;>clear h)
       | (refine qT fun _ _ _ _ _=>?_)
       | (refine K1 fun _ _ _ _=>?_)
       | (refine QX fun _ _ _ _=>?_)
       | (refine wp_bind ?_)
      all_goals (refine⟨?_,?_,?_,?_⟩<;>(try simp only[gl] at *)<;>omega)
    · rintro v r ⟨c1,c2,c3,c4⟩
      (repeat' with_reducible first| refine wp_bind ?_|refine K2 fun _ _ _ _=>?_|refine wp_pure ?_)
      all_goals (refine⟨?_,?_,?_,?_⟩<;>(try simp only[gl] at *)<;>omega)
  · refine gr (fun h=>absurd h (by decide)) (fun _=>?_)
    (repeat' with_reducible first| refine wp_pure ?_)
    all_goals (refine⟨?_,?_,?_,?_⟩<;>(try simp only[gl] at *)<;>omega)
theorem iy(fixed:Bool):Tm 0 10 0 1 0 (cE l fixed):=by
 have hv:=iz l fixed 62
 have hf:Tm 0 10 10 1 1 (do let s ←aw l;cr l 7;let v ←cQ l 62 fixed;pure (made {kind:=9,name:=s} [v])):=by
  (refine Dl fun p=>?_;have b0:=dG p;repeat' with_reducible first| refine wp_bind ?_|refine tu fun _ _ _ _ _ _=>?_|refine Bp fun _ _ _ _ _=>?_|refine oh ‹Tm _ _ _ _ _ _› fun _ _ _ _ _ _=>?_|refine wp_pure ?_)
  all_goals (refine⟨?_,?_,?_,?_⟩<;>(try simp only[gl] at *)<;>omega)
 unfold cE
 (refine Dl fun p=>?_;have b0:=dG p;repeat' with_reducible first| refine wp_bind ?_|refine Bq fun _ _ _ _=>?_|refine K3 (fun _ _ _ _ _=>?_) ?_|refine QV ‹Tm _ _ _ _ _ _› fun _ _ _ _ _ _=>?_|refine wp_pure ?_|(refine gr (fun h=>?_) (fun h=>?_)<;>first| exact absurd h (by decide)|exact absurd rfl h|clear h))
 all_goals (refine⟨?_,?_,?_,?_⟩<;>(try simp only[gl] at *)<;>omega)
theorem az(fixed:Bool):Tm 0 10 0 1 0 (ao l fixed):=by
 have hv:=iy l false
 have hf:Tm 1 10 10 1 1 (do
  let s ←aw l
  let a ←nf l
  aL (fixed&&a)
  let v ←cE l false
  pure (made {kind:=10,name:=s} [v])):=by
  (refine Dl fun p=>?_;have b0:=dG p;repeat' with_reducible first| refine wp_bind ?_|refine tu fun _ _ _ _ _ _=>?_|refine pw fun _ _ _ _=>?_|refine To fun _=>?_|refine oh ‹Tm _ _ _ _ _ _› fun _ _ _ _ _ _=>?_|refine wp_pure ?_)
  all_goals (refine⟨?_,?_,?_,?_⟩<;>(try simp only[gl] at *)<;>omega)
 unfold ao
 (refine Dl fun p=>?_;have b0:=dG p;repeat' with_reducible first| refine wp_bind ?_|refine QZ ‹Tm _ _ _ _ _ _› fun _ _ _ _ _ _=>?_|refine wp_pure ?_)
 all_goals (refine⟨?_,?_,?_,?_⟩<;>(try simp only[gl] at *)<;>omega)
end
end Go.Proofs.YtnpjmhodfdgloaaGreatDoor
