/- Part of the proof. -/
import Derived.Test.YtnpjmhodfdgloaaGreatDoorQ13
set_option linter.unusedVariables false
set_option linter.unusedSimpArgs false
namespace Go.Proofs.YtnpjmhodfdgloaaGreatDoor
set_option maxRecDepth 100000
set_option maxHeartbeats 32000000
open Go.RowKit
attribute [local go_sem ↓] Go.wp_at_zero Go.wp_at_succ
def lU(s:ByteArray):Nat→Lx→Lx
 | 0,x=>x
 | m+1,x=>if x.bad=false∧x.out=[]∧x.pos<s.size then lU s m (bU s x) else x
def nY(s:ByteArray):Tok:=⟨1,ByteArray.empty,s.size,s.size⟩
def xy(s:ByteArray)(p:Nat):Lx:=lU s (s.size+2) ⟨p,[],false,false⟩
def kE(s:ByteArray)(y:Lx):LR:=
 if y.unsure=true then .eo else if y.bad=true then .err (s.size+1) else match y.out with
 | []=>.tok (nY s)
 | t :: _=>.tok t
def rd(s:ByteArray)(p:Nat):LR:=kE s (xy s p)
def mid(s:ByteArray)(p:Nat):Prop:=nx s p=10∧0<p∧nx s (p-1)=13
def Qj(s:ByteArray)(p:Nat):Prop:=s.size<p∨(p≤s.size∧¬mid s p)
def Lx.pre(o:List Tok)(x:Lx):Lx:={x with out:=o++x.out}
theorem vA(o:List Tok)(x:Lx)(k:Int)(tp:Nat)(v:ByteArray):(x.pre o).add k tp v=(x.add k tp v).pre o:=by unfold Lx.pre Lx.add;simp
theorem NK(s:ByteArray)(o:List Tok)(n:Nat):∀x:Lx,s.size-x.pos≤n→dW s (x.pre o)=(dW s x).pre o:=by
 induction n with
 | zero=>
  intro x h
  rw[dW.eq_def s (x.pre o),dW.eq_def s x,dif_neg (by show ¬(x.pos<s.size∧_);omega),dif_neg (by omega)]
 | succ n ih=>
  intro x h;rw[dW.eq_def s (x.pre o),dW.eq_def s x];have hp:(x.pre o).pos=x.pos:=rfl;by_cases h1:x.pos<s.size∧nx s x.pos≠10∧nx s x.pos≠13
  · rw[dif_pos (show(x.pre o).pos<s.size∧nx s (x.pre o).pos≠10∧nx s (x.pre o).pos≠13 from h1),dif_pos h1];by_cases h2:(pt s x.pos).2=0
    · rw[dif_pos (show(pt s (x.pre o).pos).2=0 from h2),dif_pos h2];rfl
    · rw[dif_neg (show ¬(pt s (x.pre o).pos).2=0 from h2),dif_neg h2];exact ih {x with pos:=x.pos+(pt s x.pos).2,unsure:=x.unsure||!Qz (pt s x.pos).1||!oy (pt s x.pos).1||decide (128≤(pt s x.pos).1)} (by show s.size-(x.pos+(pt s x.pos).2)≤n;omega)
  · rw[dif_neg (show ¬((x.pre o).pos<s.size∧nx s (x.pre o).pos≠10∧nx s (x.pre o).pos≠13) from h1),dif_neg h1]
theorem L0(s:ByteArray)(o:List Tok)(n:Nat):∀(x:Lx) (k:Nat) (v:ByteArray),s.size-k≤n→aR s (x.pre o) k v=(aR s x k v).pre o:=by
 induction n with
 | zero=>
  intro x k v h
  rw[aR.eq_def s (x.pre o),aR.eq_def s x,dif_neg (by omega),dif_neg (by omega)];rfl
 | succ n ih=>
  intro x k v h;rw[aR.eq_def s (x.pre o),aR.eq_def s x];by_cases h1:k<s.size
  · rw[dif_pos h1,dif_pos h1];by_cases h2:nx s k=34
    · rw[if_pos h2,if_pos h2];exact vA _ _ _ _ _
    rw[if_neg h2,if_neg h2];by_cases h3:nx s k=10∨nx s k=13
    · rw[if_pos h3,if_pos h3];rfl
    rw[if_neg h3,if_neg h3];by_cases h4:nx s k=92
    · rw[if_pos h4,if_pos h4];by_cases h5:(iU s k x.unsure).2.1=0
      · rw[dif_pos (show(iU s k (x.pre o).unsure).2.1=0 from h5),dif_pos h5];rfl
      · rw[dif_neg (show ¬(iU s k (x.pre o).unsure).2.1=0 from h5),dif_neg h5];exact ih {x with unsure:=(iU s k x.unsure).2.2} _ _ (by show s.size-(k+(iU s k x.unsure).2.1)≤n;omega)
    rw[if_neg h4,if_neg h4];by_cases h5:(pt s k).2=0
    · rw[dif_pos h5,dif_pos h5];rfl
    rw[dif_neg h5,dif_neg h5];by_cases h6:oy (pt s k).1=false
    · rw[if_pos h6,if_pos h6];rfl
    rw[if_neg h6,if_neg h6];exact ih {x with unsure:=x.unsure||!Qz (pt s k).1} _ _ (by omega)
  · rw[dif_neg h1,dif_neg h1];rfl
theorem J9(s:ByteArray)(o:List Tok)(n:Nat):∀(x:Lx) (k:Nat) (v:ByteArray),s.size-k≤n→aZ s (x.pre o) k v=(aZ s x k v).pre o:=by
 induction n with
 | zero=>
  intro x k v h
  rw[aZ.eq_def s (x.pre o),aZ.eq_def s x,dif_neg (by omega),dif_neg (by omega)];rfl
 | succ n ih=>
  intro x k v h;rw[aZ.eq_def s (x.pre o),aZ.eq_def s x];by_cases h1:k<s.size
  · rw[dif_pos h1,dif_pos h1];by_cases h2:st s k q3=true
    · rw[if_pos h2,if_pos h2];exact vA _ {x with unsure:=x.unsure||!mL v} _ _ _
    rw[if_neg h2,if_neg h2];by_cases h4:st s k q4=true
    · rw[if_pos h4,if_pos h4];exact ih {x with unsure:=true} _ _ (by omega)
    rw[if_neg h4,if_neg h4];by_cases h5:(pt s k).2=0
    · rw[dif_pos h5,dif_pos h5];rfl
    rw[dif_neg h5,dif_neg h5];by_cases h6:oy (pt s k).1=false
    · rw[if_pos h6,if_pos h6];rfl
    rw[if_neg h6,if_neg h6];exact ih {x with unsure:=x.unsure||!Qz (pt s k).1} _ _ (by omega)
  · rw[dif_neg h1,dif_neg h1];rfl
theorem Gv(s:ByteArray)(o:List Tok)(x:Lx):gg s (x.pre o)=(gg s x).pre o:=by
 unfold gg;by_cases h1:(eX s x.pos).1=0
 · rw[if_pos (show(eX s (x.pre o).pos).1=0 from h1),if_pos h1];rfl
 · rw[if_neg (show ¬(eX s (x.pre o).pos).1=0 from h1),if_neg h1];by_cases h2:nx s (eX s x.pos).2=46∨gN (nx s (eX s x.pos).2)=true
   · rw[if_pos (show nx s (eX s (x.pre o).pos).2=46∨gN (nx s (eX s (x.pre o).pos).2)=true from h2),if_pos h2];rfl
   · rw[if_neg (show ¬(nx s (eX s (x.pre o).pos).2=46∨gN (nx s (eX s (x.pre o).pos).2)=true) from h2),if_neg h2];exact vA _ _ _ _ _
theorem Jd(s:ByteArray)(o:List Tok)(x:Lx):bU s (x.pre o)=(bU s x).pre o:=by
 unfold bU;dsimp only;have hp:(x.pre o).pos=x.pos:=rfl;rw[hp];by_cases h1:nx s x.pos=32∨nx s x.pos=9∨nx s x.pos=10∨nx s x.pos=13∨nx s x.pos=44
 · rw[if_pos h1,if_pos h1];rfl
 rw[if_neg h1,if_neg h1];by_cases h2:st s x.pos ⟨#[239,187,191]⟩=true
 · rw[if_pos h2,if_pos h2];rfl
 rw[if_neg h2,if_neg h2];by_cases h3:nx s x.pos=35
 · rw[if_pos h3,if_pos h3];exact NK s o _ x lr
 rw[if_neg h3,if_neg h3];by_cases h4:st s x.pos ⟨#[46,46,46]⟩=true
 · rw[if_pos h4,if_pos h4];exact vA _ _ _ _ _
 rw[if_neg h4,if_neg h4];by_cases h5:0<wC (nx s x.pos)
 · rw[if_pos h5,if_pos h5];exact vA _ _ _ _ _
 rw[if_neg h5,if_neg h5];by_cases h6:gN (nx s x.pos)=true
 · rw[if_pos h6,if_pos h6];exact vA _ _ _ _ _
 rw[if_neg h6,if_neg h6];by_cases h7:nx s x.pos=45∨eC (nx s x.pos)=true
 · rw[if_pos h7,if_pos h7];exact Gv s o x
 rw[if_neg h7,if_neg h7];by_cases h8:st s x.pos q3=true
 · rw[if_pos h8,if_pos h8];exact J9 s o _ x _ _ lr
 rw[if_neg h8,if_neg h8];by_cases h9:nx s x.pos=34
 · rw[if_pos h9,if_pos h9];exact L0 s o _ x _ _ lr
 rw[if_neg h9,if_neg h9];rfl
theorem yF(s:ByteArray)(n:Nat):∀x:Lx,s.size-x.pos≤n→x.unsure=true→(dW s x).unsure=true:=by
 induction n with
 | zero=>
  intro x h hu
  rw[dW,dif_neg (by omega)];exact hu
 | succ n ih=>
  intro x h hu;rw[dW];split
  · split
    · rfl
    · exact ih {x with pos:=x.pos+(pt s x.pos).2,unsure:=x.unsure||!Qz (pt s x.pos).1||!oy (pt s x.pos).1||decide (128≤(pt s x.pos).1)} (by show s.size-(x.pos+(pt s x.pos).2)≤n;omega) (by simp[hu])
  · exact hu
theorem BT(s:ByteArray)(k:Nat):(iU s k true).2.2=true:=by
 unfold iU;split
 · rfl
 · split
   · rfl
   · split
     · rfl
     · split<;>rfl
theorem r5(s:ByteArray)(n:Nat):∀(x:Lx) (k:Nat) (v:ByteArray),s.size-k≤n→x.unsure=true→(aR s x k v).unsure=true:=by
 induction n with
 | zero=>
  intro x k v h hu
  rw[aR,dif_neg (by omega)];exact hu
 | succ n ih=>
  intro x k v h hu;rw[aR];split
  · split
    · exact hu
    split
    · exact hu
    split
    · split
      · show(iU s k x.unsure).2.2=true;rw[hu];exact BT s k
      · exact ih {x with unsure:=(iU s k x.unsure).2.2} _ _ (by omega) (by show(iU s k x.unsure).2.2=true;rw[hu];exact BT s k)
    split
    · rfl
    split
    · exact hu
    · exact ih {x with unsure:=x.unsure||!Qz (pt s k).1} _ _ (by omega) (by simp[hu])
  · exact hu
theorem pD(s:ByteArray)(n:Nat):∀(x:Lx) (k:Nat) (v:ByteArray),s.size-k≤n→x.unsure=true→(aZ s x k v).unsure=true:=by
 induction n with
 | zero=>
  intro x k v h hu
  rw[aZ,dif_neg (by omega)];exact hu
 | succ n ih=>
  intro x k v h hu;rw[aZ];split
  · split
    · show(x.unsure||!mL v)=true;simp[hu]
    split
    · exact ih {x with unsure:=true} _ _ (by omega) rfl
    split
    · rfl
    split
    · exact hu
    · exact ih {x with unsure:=x.unsure||!Qz (pt s k).1} _ _ (by omega) (by simp[hu])
  · exact hu
theorem uF(s:ByteArray)(x:Lx)(hu:x.unsure=true):(bU s x).unsure=true:=by
 unfold bU;dsimp only;split
 · exact hu
 split
 · rfl
 split
 · exact yF s _ x lr hu
 split
 · exact hu
 split
 · exact hu
 split
 · exact hu
 split
 · unfold gg;split
   · exact hu
   · split
     · rfl
     · exact hu
 split
 · exact pD s _ x _ _ lr hu
 split
 · exact r5 s _ x _ _ lr hu
 · exact hu
theorem yG(s:ByteArray):∀m x,x.unsure=true→(oC s m x).unsure=true
 | 0,x,hu=>hu
 | m+1,x,hu=>by
  show(if x.bad=false∧x.pos<s.size then oC s m (bU s x) else x).unsure=true;split
  · exact yG s m _ (uF s x hu)
  · exact hu
def Il(k:Int)(v:ByteArray):Prop:=k≠1∧(v=ly∨v=cN→k=15∨k=18∨k=19)
def Rt(x y:Lx):Prop:=y.out=x.out∨(y.bad=x.bad∧∃k v,y.out=x.out++[⟨k,v,x.pos,y.pos⟩]∧Il k v)
theorem ry{x y:Lx}{k:Int}{tp:Nat}{v:ByteArray}(hy:y.pos=x.pos)(ho:y.out=x.out)(hb:y.bad=x.bad)(h:Il k v):Rt x (y.add k tp v):=
 .inr ⟨hb,k,v,by unfold Lx.add;dsimp only;rw[ho,hy],h⟩
theorem Jc(s:ByteArray)(n:Nat):∀(x y:Lx) (k:Nat) (o:ByteArray),s.size-k≤n→y.pos=x.pos→y.out=x.out→y.bad=x.bad→Rt x (aR s y k o):=by
 have hk:∀v,Il 18 v:=fun v=>⟨by decide,fun _=>.inr (.inl rfl)⟩
 induction n with
 | zero=>
  intro x y k o h h1 h2 h3
  rw[aR,dif_neg (by omega)];exact .inl h2
 | succ n ih=>
  intro x y k o h h1 h2 h3;rw[aR];split
  · split
    · exact ry h1 h2 h3 (hk _)
    split
    · exact .inl h2
    split
    · split
      · exact .inl h2
      · exact ih x {y with unsure:=(iU s k y.unsure).2.2} _ _ (by omega) h1 h2 h3
    split
    · exact .inl h2
    split
    · exact .inl h2
    · exact ih x {y with unsure:=y.unsure||!Qz (pt s k).1} _ _ (by omega) h1 h2 h3
  · exact .inl h2
theorem Gu(s:ByteArray)(n:Nat):∀(x y:Lx) (k:Nat) (o:ByteArray),s.size-k≤n→y.pos=x.pos→y.out=x.out→y.bad=x.bad→Rt x (aZ s y k o):=by
 have hk:∀v,Il 19 v:=fun v=>⟨by decide,fun _=>.inr (.inr rfl)⟩
 induction n with
 | zero=>
  intro x y k o h h1 h2 h3
  rw[aZ,dif_neg (by omega)];exact .inl h2
 | succ n ih=>
  intro x y k o h h1 h2 h3;rw[aZ];split
  · split
    · exact ry (y:={y with unsure:=y.unsure||!mL o}) h1 h2 h3 (hk _)
    split
    · exact ih x {y with unsure:=true} _ _ (by omega) h1 h2 h3
    split
    · exact .inl h2
    split
    · exact .inl h2
    · exact ih x {y with unsure:=y.unsure||!Qz (pt s k).1} _ _ (by omega) h1 h2 h3
  · exact .inl h2
theorem NJ(s:ByteArray)(n:Nat):∀x:Lx,s.size-x.pos≤n→(dW s x).out=x.out:=by
 induction n with
 | zero=>
  intro x h
  rw[dW,dif_neg (by omega)]
 | succ n ih=>
  intro x h;rw[dW];split
  · split
    · rfl
    · exact ih {x with pos:=x.pos+(pt s x.pos).2,unsure:=x.unsure||!Qz (pt s x.pos).1||!oy (pt s x.pos).1||decide (128≤(pt s x.pos).1)} (by show s.size-(x.pos+(pt s x.pos).2)≤n;omega)
  · rfl
theorem qZ{s w:ByteArray}{a b:Nat}(h:s.extract a b=w)(hw:0<w.size):nx w 0=nx s a:=by
 have h1:(s.extract a b).size=w.size:=by rw[h]
 rw[ByteArray.size_extract] at h1;have ha:a<s.size:=by omega
 subst h;unfold nx;rw[dif_pos hw,dif_pos ha];congr 1;simp[ByteArray.getElem_extract]
theorem Jk(s:ByteArray)(k t:Nat):(lW s k t).1=0∨(lW s k t).1=k∨(lW s k t).1=17:=by
 unfold lW
 repeat' split
 all_goals simp
theorem NR(s:ByteArray)(i:Nat):(eX s i).1=0∨(eX s i).1=16∨(eX s i).1=17:=by
 unfold eX;generalize (if nx s i=45 then i+1 else i)=a;unfold r7;split
 · exact .inl rfl
 · unfold numDot;split
   · exact .inl rfl
   · have:=Jk s (if nx s (eN s a)=46 then 17 else 16) (if nx s (eN s a)=46 then eN s (eN s a+1) else eN s a);rcases this with h|h|h
     · exact .inl h
     · right;rw[h];split
       · exact .inr rfl
       · exact .inl rfl
     · exact .inr (.inr h)
theorem yH(s:ByteArray)(x:Lx):Rt x (bU s x):=by
 unfold bU;dsimp only;split
 · exact .inl rfl
 split
 · exact .inl rfl
 split
 · exact .inl (NJ s _ x lr)
 split
 · exact ry rfl rfl rfl ⟨by decide,fun h=>by rcases h with h|h<;>exact absurd (congrArg ByteArray.size h) (by decide)⟩
 split
 · refine ry rfl rfl rfl ⟨fun h=>?_,fun h=>by rcases h with h|h<;>exact absurd (congrArg ByteArray.size h) (by decide)⟩
   have:∀c,c<256→wC c≠1:=by decide +kernel
   exact this _ (fb s x.pos) h
 split
 · exact ry rfl rfl rfl ⟨by decide,fun _=>.inl rfl⟩
 split
 · rename_i hc;unfold gg;split
   · exact .inl rfl
   · split
     · exact .inl rfl
     · rename_i h0 _;refine ry rfl rfl rfl ⟨?_,fun h=>?_⟩
       · rcases NR s x.pos with h|h|h
         · exact absurd h h0
         · rw[h];decide
         · rw[h];decide
       · exfalso
         have h1:nx s x.pos=111∨nx s x.pos=105:=by
          rcases h with h|h
          · left;rw[←qZ h (by decide)];decide
          · right;rw[←qZ h (by decide)];decide
         rcases hc with hc|hc
         · omega
         · unfold eC at hc;simp at hc;omega
 split
 · exact Gu s _ x x _ _ lr rfl rfl rfl
 split
 · exact Jc s _ x x _ _ lr rfl rfl rfl
 · exact .inl rfl
theorem Ea(s:ByteArray)(x:Lx)(h:(bU s x).out≠x.out):nx s x.pos≠10:=fun e=>h (by unfold bU;dsimp only;rw[if_pos (by simp[e])])
theorem gf{s:ByteArray}{x:Lx}(h:¬(x.bad=false∧x.out=[]∧x.pos<s.size))(m:Nat):lU s m x=x:=by
 cases m with
 | zero=>rfl
 | succ m=>exact if_neg h
theorem ky{s:ByteArray}{x:Lx}(h:x.bad=false∧x.out=[]∧x.pos<s.size)(m:Nat):lU s (m+1) x=lU s m (bU s x):=if_pos h
theorem An(s:ByteArray):∀m m' (x:Lx),x.pos≤s.size→s.size-x.pos<m→s.size-x.pos<m'→lU s m x=lU s m' x
 | 0,_,x,_,h,_=>absurd h (Nat.not_lt_zero _)
 | _+1,0,x,_,_,h=>absurd h (Nat.not_lt_zero _)
 | m+1,m'+1,x,hp,h1,h2=>by
  by_cases hc:x.bad=false∧x.out=[]∧x.pos<s.size
  · rw[ky hc,ky hc];obtain⟨a,b,c,d⟩:=lG s x hc.2.2;rcases d with d|d
    · rw[gf (by rw[d];rintro⟨h,_⟩;cases h),gf (by rw[d];rintro⟨h,_⟩;cases h)]
    · exact An s m m' _ b (by omega) (by omega)
  · rw[gf hc,gf hc]
theorem Lh(s:ByteArray)(p:Nat)(h:s.size≤p):rd s p=.tok (nY s):=by
 unfold rd xy;rw[gf (by show ¬(_∧_∧p<s.size);omega)]
 rfl
theorem H5{s:ByteArray}{p q:Nat}(hp:p<s.size)(h:bU s ⟨p,[],false,false⟩=⟨q,[],false,false⟩):rd s p=rd s q:=by
 unfold rd xy;have hm:=lG s ⟨p,[],false,false⟩ hp;rw[h] at hm;obtain⟨a,b,c,d⟩:=hm;have d':p<q:=by rcases d with d|d;cases d;exact d
 have b':q≤s.size:=b;rw[ky ⟨rfl,rfl,hp⟩,h];exact congrArg _ (An s _ _ ⟨q,[],false,false⟩ b (by show s.size-q<_;omega) (by show s.size-q<_;omega))
theorem T1{s:ByteArray}{p q:Nat}{t:Tok}(hp:p<s.size)(h:bU s ⟨p,[],false,false⟩=⟨q,[t],false,false⟩):rd s p=.tok t:=by
 unfold rd xy;rw[ky ⟨rfl,rfl,hp⟩,h,gf (by rintro⟨_,h,_⟩;cases h)]
 rfl
theorem W9{s:ByteArray}{p:Nat}(hp:p<s.size)(h:(bU s ⟨p,[],false,false⟩).bad=true)(hu:(bU s ⟨p,[],false,false⟩).unsure=false):rd s p=.err (s.size+1):=by unfold rd xy;rw[ky ⟨rfl,rfl,hp⟩,gf (by rw[h];rintro⟨h,_⟩;cases h)];unfold kE;rw[hu,h];rfl
def OK(s:ByteArray):Nat→List Tok→Prop
 | p,[]=>rd s p=.tok (nY s)
 | p,t :: ts=>rd s p=.tok t∧p≤t.start∧t.start<t.stop∧t.stop≤s.size∧nx s t.start≠10∧Il t.kind t.val∧OK s t.stop ts
def I6(s:ByteArray)(p:Nat):Prop:=rd s p=.err (s.size+1)∨∃t,rd s p=.tok t∧p<t.stop∧jj (rd s) s.size (Qj s) t
theorem F7(s:ByteArray):∀m p o,p≤s.size→s.size-p<m→(oC s m ⟨p,o,false,false⟩).unsure=false →
 ((oC s m ⟨p,o,false,false⟩).bad=false→∃ts,(oC s m ⟨p,o,false,false⟩).out=o++ts∧OK s p ts) ∧
 ((oC s m ⟨p,o,false,false⟩).bad=true→I6 s p):=by
 intro m
 induction m with
 | zero=>intro p o _ h;omega
 | succ m ih=>
  intro p o hp hm hu;by_cases b9:p<s.size
  · rw[Cz (y:=⟨p,o,false,false⟩) rfl b9] at hu ⊢;have Y0:bU s ⟨p,o,false,false⟩=(bU s ⟨p,[],false,false⟩).pre o:=by rw[←Jd];unfold Lx.pre;simp
    have hmv:=lG s ⟨p,[],false,false⟩ b9;have had:=yH s ⟨p,[],false,false⟩;have XZ:=Ea s ⟨p,[],false,false⟩
    have hux:(bU s ⟨p,[],false,false⟩).unsure=false:=by
     cases hq:(bU s ⟨p,[],false,false⟩).unsure with
     | false=>rfl
     | true=>have:=yG s m _ (show(bU s ⟨p,o,false,false⟩).unsure=true by rw[Y0];exact hq);rw[this] at hu;cases hu
    have gK:=W9 (s:=s) (p:=p) b9;have Y5:=fun q t=>T1 (s:=s) (p:=p) (q:=q) (t:=t) b9;have PK:=fun q=>H5 (s:=s) (p:=p) (q:=q) b9;rw[Y0] at hu ⊢;generalize bU s ⟨p,[],false,false⟩=y at *;obtain⟨q,yo,yb,yu⟩:=y;obtain⟨a,b,c,d⟩:=hmv;dsimp only at a b c d hux gK;subst hux
    cases yb with
    | true=>
     have e1:oC s m (Lx.pre o ⟨q,yo,true,false⟩)=Lx.pre o ⟨q,yo,true,false⟩:=sH (.inl rfl) m;rw[e1]
     exact⟨fun h=>(by cases h),fun _=>.inl (gK rfl rfl)⟩
    | false=>
     have hpq:p<q:=by rcases d with d|d;cases d;exact d
     rcases had with h0|⟨_,k,v,h0,hk⟩
     · dsimp only at h0;subst h0;have hs:=PK q rfl;have e1:Lx.pre o ⟨q,[],false,false⟩=⟨q,o,false,false⟩:=by unfold Lx.pre;simp
       rw[e1] at hu ⊢;obtain⟨i1,i2⟩:=ih q o b (by omega) hu;refine⟨fun hb=>?_,fun hb=>?_⟩
       · obtain⟨ts,h1,h2⟩:=i1 hb;refine⟨ts,h1,?_⟩
         cases ts with
         | nil=>exact hs.trans h2
         | cons t ts=>exact⟨hs.trans h2.1,by have:=h2.2.1;omega,h2.2.2⟩
       · rcases i2 hb with h|⟨t,h1,h3,h2⟩
         · exact .inl (hs.trans h)
         · exact .inr ⟨t,hs.trans h1,by omega,h2⟩
     · dsimp only[List.nil_append] at h0;subst h0;have ht:=Y5 q _ rfl;have hnp:nx s p≠10:=XZ (by simp);have e1:Lx.pre o ⟨q,[⟨k,v,p,q⟩],false,false⟩=⟨q,o++[⟨k,v,p,q⟩],false,false⟩:=rfl;rw[e1] at hu ⊢;obtain⟨i1,i2⟩:=ih q (o++[⟨k,v,p,q⟩]) b (by omega) hu;refine⟨fun hb=>?_,fun hb=>?_⟩
       · obtain⟨ts,h1,h2⟩:=i1 hb;exact⟨⟨k,v,p,q⟩ :: ts,by rw[h1];simp,ht,lr,hpq,b,hnp,hk,h2⟩
       · refine .inr ⟨_,ht,hpq,?_⟩;rcases i2 hb with h|⟨t,h1,h3,h2⟩
         · exact .err hk.1 b (.inr ⟨hp,fun h=>hnp h.1⟩) h (.inl (Nat.lt_succ_self _))
         · exact .step hk.1 b (.inr ⟨hp,fun h=>hnp h.1⟩) h1 h3 h2
  · have e1:oC s (m+1) ⟨p,o,false,false⟩=⟨p,o,false,false⟩:=sH (.inr (by show s.size≤p;omega)) _;rw[e1];exact⟨fun _=>⟨[],by simp,Lh s p (by omega)⟩,fun h=>by cases h⟩
theorem yg{s:ByteArray}:∀{l:List Tok} {p:Nat},OK s p l→(∀t∈l,t.kind≠1)∧(∀t∈l,t.val=ly∨t.val=cN→t.kind=15∨t.kind=18∨t.kind=19) ∧
 rd s p=.tok (aB l (nY s) 0)∧(∀i,rd s (aB l (nY s) i).stop=.tok (aB l (nY s) (i+1)))∧(∀i,nx s (aB l (nY s) i).start≠10∧(aB l (nY s) i).start≤s.size)
 | [],p,h=>by
  have he:∀i,aB [] (nY s) i=nY s:=fun i=>by unfold aB;simp
  refine⟨by simp,by simp,by rw[he];exact h,fun i=>by rw[he,he];exact Lh s _ lr,fun i=>?_⟩;rw[he]
  exact⟨by rw[show(nY s).start=s.size from rfl,pK lr];decide,lr⟩
 | t :: ts,p,h=>by
  obtain⟨h1,h2,h3,h4,h5,h6,h7⟩:=h;obtain⟨i1,i2,i3,i4,i5⟩:=yg h7;have hs:∀i,aB (t :: ts) (nY s) (i+1)=aB ts (nY s) i:=fun i=>by unfold aB;simp
  have h0:aB (t :: ts) (nY s) 0=t:=by unfold aB;simp
  refine⟨?_,?_,by rw[h0];exact h1,?_,?_⟩
  · intro u hu;rcases List.mem_cons.1 hu with hu|hu
    · rw[hu];exact h6.1
    · exact i1 u hu
  · intro u hu;rcases List.mem_cons.1 hu with hu|hu
    · rw[hu];exact h6.2
    · exact i2 u hu
  · intro i
    cases i with
    | zero=>rw[h0,hs];exact i3
    | succ i=>rw[hs,hs];exact i4 i
  · intro i
    cases i with
    | zero=>rw[h0];exact⟨h5,by omega⟩
    | succ i=>rw[hs];exact i5 i
theorem xx{s:ByteArray}(hb:(cm s).bad=false)(hu:(cm s).unsure=false):Stream (cm s).out (nY s) (rd s)∧rd s 0=.tok (aB (cm s).out (nY s) 0)∧(∀i,nx s (aB (cm s).out (nY s) i).start≠10∧(aB (cm s).out (nY s) i).start≤s.size):=by obtain⟨ts,h1,h2⟩:=(F7 s (s.size+2) 0 [] (Nat.zero_le _) (by omega) hu).1 hb;have h1':(cm s).out=ts:=h1;rw[h1'];obtain⟨i1,i2,i3,i4,i5⟩:=yg h2;exact⟨⟨⟨rfl,rfl⟩,i1,i2,i4⟩,i3,i5⟩
theorem KY{s:ByteArray}(hb:(cm s).bad=true)(hu:(cm s).unsure=false):I6 s 0:=(F7 s (s.size+2) 0 [] (Nat.zero_le _) (by omega) hu).2 hb
def uh(s:ByteArray)(t:Tok):Prop:=t.start≤s.size∧t.stop≤s.size∧(t.stop=0→s.size=0)∧(t.kind=0→t.stop≠0)
theorem My(s:ByteArray):∀(m:Nat) (x:Lx),x.out=[]→x.bad=false→∀t ts,(lU s m x).out=t :: ts→uh s t∧0<t.stop
 | 0,x,h0,_,t,ts,h=>by
  have:(lU s 0 x).out=x.out:=rfl
  rw[this,h0] at h;cases h
 | m+1,x,h0,hb,t,ts,h=>by
  by_cases hc:x.bad=false∧x.out=[]∧x.pos<s.size
  · rw[ky hc] at h;obtain⟨a,b,c,d⟩:=lG s x hc.2.2;rcases yH s x with h1|⟨h1,k,v,h2,h3⟩
    · cases hq:(bU s x).bad with
      | true=>
       rw[gf (by rw[hq];rintro⟨h,_⟩;cases h),h1,h0] at h
       cases h
      | false=>exact My s m (bU s x) (h1.trans h0) hq t ts h
    · rw[h0] at h2;rw[gf (by rw[h2];rintro⟨_,h,_⟩;cases h),h2] at h;simp only[List.nil_append,List.cons.injEq] at h;obtain⟨rfl,_⟩:=h
      have hd:x.pos<(bU s x).pos:=by
       rcases d with d|d
       · rw[h1,hb] at d;cases d
       · exact d
      exact⟨⟨Nat.le_of_lt hc.2.2,b,fun e=>by simp only at e;omega,fun _=>by simp only;omega⟩,by simp only;omega⟩
  · rw[gf hc,h0] at h;cases h
theorem Ue{s:ByteArray}{p:Nat}{t:Tok}(h:rd s p=.tok t):uh s t:=by
 unfold rd kE at h;split at h
 · cases h
 split at h
 · cases h
 split at h
 · cases h
   exact⟨lr,lr,fun e=>e,fun e=>by cases e⟩
 · rename_i t' ts he
   cases h
   exact(My s _ _ rfl rfl t ts he).1
def da(p:Nat)(T:TypeId)(rest:List Value)(w:World)(e:Ending)(w':World):Prop:=
 ∃(nb:Nat) (s:ByteArray),e=.returned (.pointer (some ⟨nb,0,none⟩))∧w'.heap[nb]?=some (.cells (Value.string s :: rest).toArray T (0,0))∧Sm [p] w w'∧(nb=p∨nb=w.heap.size)
def R6(v:Value):Prop:=v=.nilIface∨∃t u,v=.iface t u
theorem kC{p:Nat}{T:TypeId}{f0:ByteArray}{rest:List Value}{w:World}{s:ByteArray}{cs:Array Value}(h:w.heap[p]?=some (.cells cs T (0,0)))(hc:cs=(Value.string f0 :: rest).toArray) :
 da p T rest w (.returned (.pointer (some ⟨p,0,none⟩))) (w.setCell ⟨p,0,none⟩ (.string s)):=by
 subst hc;exact⟨p,s,rfl,by rw[dw h];rfl,(Sm.refl [p] w).setCell (.inr (by simp)) _,.inl rfl⟩
theorem aT{p:Nat}{T:TypeId}{rest:List Value}(w:World)(s:ByteArray):da p T rest w (.returned (.pointer (some ⟨w.heap.size,0,none⟩))) (w.drew.alloc (.cells (Value.string s :: rest).toArray T (0,0))):=
 ⟨_,s,rfl,ai _ _,((Sm.refl [p] w).drew.alloc _),.inr rfl⟩
theorem AR(p:Nat)(f0:ByteArray)(f1:Option Addr)(f2:Option Addr)(f3:Value)(w:World)(h:w.heap[p]?=some (.cells #[.string f0,.pointer f1,.pointer f2,f3] 373 (0,0)))(i3:R6 f3) :
 Calls Tryz.prog 207 #[.pointer (some ⟨p,0,none⟩)] w (da p 373 [.pointer f1,.pointer f2,f3] w):=by
 have HO:=ae h;have c0:w.cell? ⟨p,0,none⟩=some (.string f0):=cell_of h rfl;have g0:=aF h 0;clear h;go_enter Tryz.func207,Tryz.ntmps207;go_wp2_with fail;go_ret;exact kC HO.o rfl
theorem pI(p:Nat)(f0:ByteArray)(f1:Option Addr)(f2:ByteArray)(f3:Option Addr)(f4:Option Addr)(n4:Nat)(c4:Nat)(f5:Option Addr)(n5:Nat)(c5:Nat)(f6:Option Addr)(w:World)(h:w.heap[p]?=some (.cells #[.string f0,.pointer f1,.string f2,.pointer f3,.slice f4 n4 c4,.slice f5 n5 c5,.pointer f6] 129 (0,0))) :
 Calls Tryz.prog 76 #[.pointer (some ⟨p,0,none⟩)] w (da p 129 [.pointer f1,.string f2,.pointer f3,.slice f4 n4 c4,.slice f5 n5 c5,.pointer f6] w):=by
 have HO:=ae h;have c0:w.cell? ⟨p,0,none⟩=some (.string f0):=cell_of h rfl;have g0:=aF h 0;clear h;go_enter Tryz.func76,Tryz.ntmps76;go_wp2_with fail;go_ret;exact kC HO.o rfl
theorem qs(p:Nat)(f0:ByteArray)(f1:Option Addr)(f2:Option Addr)(f3:Value)(f4:Value)(w:World)(h:w.heap[p]?=some (.cells #[.string f0,.pointer f1,.pointer f2,f3,f4] 209 (0,0)))(i3:R6 f3)(i4:R6 f4) :
 Calls Tryz.prog 137 #[.pointer (some ⟨p,0,none⟩)] w (da p 209 [.pointer f1,.pointer f2,f3,f4] w):=by
 have HO:=ae h;have c0:w.cell? ⟨p,0,none⟩=some (.string f0):=cell_of h rfl;have g0:=aF h 0;clear h;go_enter Tryz.func137,Tryz.ntmps137;go_wp2_with fail;go_ret;exact kC HO.o rfl
theorem Ji(p:Nat)(f0:ByteArray)(f1:Option Addr)(f2:ByteArray)(w:World)(h:w.heap[p]?=some (.cells #[.string f0,.pointer f1,.string f2] 170 (0,0))) :
 Calls Tryz.prog 105 #[.pointer (some ⟨p,0,none⟩)] w (da p 170 [.pointer f1,.string f2] w):=by
 have HO:=ae h;have c0:w.cell? ⟨p,0,none⟩=some (.string f0):=cell_of h rfl;have g0:=aF h 0;clear h;go_enter Tryz.func105,Tryz.ntmps105;go_wp2_with fail;go_ret;exact kC HO.o rfl
theorem GG(p:Nat)(f0:ByteArray)(f1:Option Addr)(f2:Option Addr)(f3:Option Addr)(f4:Option Addr)(n4:Nat)(c4:Nat)(f5:Option Addr)(n5:Nat)(c5:Nat)(f6:Option Addr)(w:World)(h:w.heap[p]?=some (.cells #[.string f0,.pointer f1,.pointer f2,.pointer f3,.slice f4 n4 c4,.slice f5 n5 c5,.pointer f6] 299 (0,0))) :
 Calls Tryz.prog 175 #[.pointer (some ⟨p,0,none⟩)] w (da p 299 [.pointer f1,.pointer f2,.pointer f3,.slice f4 n4 c4,.slice f5 n5 c5,.pointer f6] w):=by
 have HO:=ae h;have c0:w.cell? ⟨p,0,none⟩=some (.string f0):=cell_of h rfl;have g0:=aF h 0;clear h;go_enter Tryz.func175,Tryz.ntmps175;go_wp2_with fail;go_ret;exact kC HO.o rfl
theorem wj(p:Nat)(f0:ByteArray)(f1:Option Addr)(f2:Option Addr)(n2:Nat)(c2:Nat)(w:World)(h:w.heap[p]?=some (.cells #[.string f0,.pointer f1,.slice f2 n2 c2] 166 (0,0))) :
 Calls Tryz.prog 103 #[.pointer (some ⟨p,0,none⟩)] w (da p 166 [.pointer f1,.slice f2 n2 c2] w):=by
 have HO:=ae h;have c0:w.cell? ⟨p,0,none⟩=some (.string f0):=cell_of h rfl;have g0:=aF h 0;clear h;go_enter Tryz.func103,Tryz.ntmps103;go_wp2_with fail;go_ret;exact kC HO.o rfl
theorem GH(p:Nat)(f0:ByteArray)(f1:Option Addr)(f2:Option Addr)(w:World)(h:w.heap[p]?=some (.cells #[.string f0,.pointer f1,.pointer f2] 331 (0,0))) :
 Calls Tryz.prog 187 #[.pointer (some ⟨p,0,none⟩)] w (da p 331 [.pointer f1,.pointer f2] w):=by
 have HO:=ae h;have c0:w.cell? ⟨p,0,none⟩=some (.string f0):=cell_of h rfl;have g0:=aF h 0;clear h;go_enter Tryz.func187,Tryz.ntmps187;go_wp2_with fail;go_ret;exact kC HO.o rfl
theorem tG(p:Nat)(f0:ByteArray)(f1:Option Addr)(f2:Option Addr)(w:World)(h:w.heap[p]?=some (.cells #[.string f0,.pointer f1,.pointer f2] 302 (0,0))) :
 Calls Tryz.prog 176 #[.pointer (some ⟨p,0,none⟩)] w (da p 302 [.pointer f1,.pointer f2] w):=by
 have HO:=ae h;have c0:w.cell? ⟨p,0,none⟩=some (.string f0):=cell_of h rfl;have g0:=aF h 0;clear h;go_enter Tryz.func176,Tryz.ntmps176;go_wp2_with fail;go_ret;exact kC HO.o rfl
theorem zQ(p:Nat)(f0:ByteArray)(f1:Option Addr)(f2:Option Addr)(f3:Option Addr)(n3:Nat)(c3:Nat)(w:World)(h:w.heap[p]?=some (.cells #[.string f0,.pointer f1,.pointer f2,.slice f3 n3 c3] 215 (0,0))) :
 Calls Tryz.prog 139 #[.pointer (some ⟨p,0,none⟩)] w (da p 215 [.pointer f1,.pointer f2,.slice f3 n3 c3] w):=by
 have h1:w.cell? ⟨p,1,none⟩=some (.pointer f1):=cell_of h rfl;have h2:w.cell? ⟨p,2,none⟩=some (.pointer f2):=cell_of h rfl;have h3:w.cell? ⟨p,3,none⟩=some (.slice f3 n3 c3):=cell_of h rfl;clear h;go_enter Tryz.func139,Tryz.ntmps139;go_wp2_with fail;go_region_held3 (fun W=>W.cell? ⟨p,1,none⟩=some (.pointer f1)∧W.cell? ⟨p,2,none⟩=some (.pointer f2)∧W.cell? ⟨p,3,none⟩=some (.slice f3 n3 c3)) (go_keep) (fail)
 all_goals go_wp2_with fail;go_ret;exact aT _ _
theorem Jh(p:Nat)(f0:ByteArray)(f1:Option Addr)(f2:Value)(w:World)(h:w.heap[p]?=some (.cells #[.string f0,.pointer f1,f2] 306 (0,0)))(i2:R6 f2) :
 Calls Tryz.prog 177 #[.pointer (some ⟨p,0,none⟩)] w (da p 306 [.pointer f1,f2] w):=by
 rcases i2 with rfl|⟨t2,u2,rfl⟩
 · have h1:w.cell? ⟨p,1,none⟩=some (.pointer f1):=cell_of h rfl;have h2:w.cell? ⟨p,2,none⟩=some (.nilIface):=cell_of h rfl;clear h;go_enter Tryz.func177,Tryz.ntmps177;go_wp2_with fail;go_region_held3 (fun W=>W.cell? ⟨p,1,none⟩=some (.pointer f1)∧W.cell? ⟨p,2,none⟩=some (.nilIface)) (go_keep) (fail)
   all_goals go_wp2_with fail;go_ret;exact aT _ _
 · have h1:w.cell? ⟨p,1,none⟩=some (.pointer f1):=cell_of h rfl;have h2:w.cell? ⟨p,2,none⟩=some (.iface t2 u2):=cell_of h rfl;clear h;go_enter Tryz.func177,Tryz.ntmps177;go_wp2_with fail;go_region_held3 (fun W=>W.cell? ⟨p,1,none⟩=some (.pointer f1)∧W.cell? ⟨p,2,none⟩=some (.iface t2 u2)) (go_keep) (fail)
   all_goals go_wp2_with fail;go_ret;exact aT _ _
theorem CH(p:Nat)(f0:ByteArray)(f1:Option Addr)(f2:Value)(w:World)(h:w.heap[p]?=some (.cells #[.string f0,.pointer f1,f2] 309 (0,0)))(i2:R6 f2) :
 Calls Tryz.prog 178 #[.pointer (some ⟨p,0,none⟩)] w (da p 309 [.pointer f1,f2] w):=by
 rcases i2 with rfl|⟨t2,u2,rfl⟩
 · have h1:w.cell? ⟨p,1,none⟩=some (.pointer f1):=cell_of h rfl;have h2:w.cell? ⟨p,2,none⟩=some (.nilIface):=cell_of h rfl;clear h;go_enter Tryz.func178,Tryz.ntmps178;go_wp2_with fail;go_region_held3 (fun W=>W.cell? ⟨p,1,none⟩=some (.pointer f1)∧W.cell? ⟨p,2,none⟩=some (.nilIface)) (go_keep) (fail)
   all_goals go_wp2_with fail;go_ret;exact aT _ _
 · have h1:w.cell? ⟨p,1,none⟩=some (.pointer f1):=cell_of h rfl;have h2:w.cell? ⟨p,2,none⟩=some (.iface t2 u2):=cell_of h rfl;clear h;go_enter Tryz.func178,Tryz.ntmps178;go_wp2_with fail;go_region_held3 (fun W=>W.cell? ⟨p,1,none⟩=some (.pointer f1)∧W.cell? ⟨p,2,none⟩=some (.iface t2 u2)) (go_keep) (fail)
   all_goals go_wp2_with fail;go_ret;exact aT _ _
theorem AV(p:Nat)(f0:ByteArray)(f1:Option Addr)(f2:ByteArray)(w:World)(h:w.heap[p]?=some (.cells #[.string f0,.pointer f1,.string f2] 318 (0,0))) :
 Calls Tryz.prog 181 #[.pointer (some ⟨p,0,none⟩)] w (da p 318 [.pointer f1,.string f2] w):=by
 have h1:w.cell? ⟨p,1,none⟩=some (.pointer f1):=cell_of h rfl;have h2:w.cell? ⟨p,2,none⟩=some (.string f2):=cell_of h rfl;clear h;go_enter Tryz.func181,Tryz.ntmps181;go_wp2_with fail;go_region_held3 (fun W=>W.cell? ⟨p,1,none⟩=some (.pointer f1)∧W.cell? ⟨p,2,none⟩=some (.string f2)) (go_keep) (fail)
 all_goals go_wp2_with fail;go_ret;exact aT _ _
theorem yL(p:Nat)(f0:ByteArray)(f1:Option Addr)(f2:ByteArray)(w:World)(h:w.heap[p]?=some (.cells #[.string f0,.pointer f1,.string f2] 321 (0,0))) :
 Calls Tryz.prog 182 #[.pointer (some ⟨p,0,none⟩)] w (da p 321 [.pointer f1,.string f2] w):=by
 have h1:w.cell? ⟨p,1,none⟩=some (.pointer f1):=cell_of h rfl;have h2:w.cell? ⟨p,2,none⟩=some (.string f2):=cell_of h rfl;clear h;go_enter Tryz.func182,Tryz.ntmps182;go_wp2_with fail;go_region_held3 (fun W=>W.cell? ⟨p,1,none⟩=some (.pointer f1)∧W.cell? ⟨p,2,none⟩=some (.string f2)) (go_keep) (fail)
 all_goals go_wp2_with fail;go_ret;exact aT _ _
theorem xA(p:Nat)(f0:ByteArray)(f1:Option Addr)(f2:ByteArray)(w:World)(h:w.heap[p]?=some (.cells #[.string f0,.pointer f1,.string f2] 370 (0,0))) :
 Calls Tryz.prog 206 #[.pointer (some ⟨p,0,none⟩)] w (da p 370 [.pointer f1,.string f2] w):=by
 have h1:w.cell? ⟨p,1,none⟩=some (.pointer f1):=cell_of h rfl;have h2:w.cell? ⟨p,2,none⟩=some (.string f2):=cell_of h rfl;clear h;go_enter Tryz.func206,Tryz.ntmps206;go_wp2_with fail;go_region_held3 (fun W=>W.cell? ⟨p,1,none⟩=some (.pointer f1)∧W.cell? ⟨p,2,none⟩=some (.string f2)) (go_keep) (fail)
 all_goals go_wp2_with fail;go_ret;exact aT _ _
theorem zR(p:Nat)(f0:ByteArray)(f1:Option Addr)(f2:ByteArray)(w:World)(h:w.heap[p]?=some (.cells #[.string f0,.pointer f1,.string f2] 328 (0,0))) :
 Calls Tryz.prog 185 #[.pointer (some ⟨p,0,none⟩)] w (da p 328 [.pointer f1,.string f2] w):=by
 have h1:w.cell? ⟨p,1,none⟩=some (.pointer f1):=cell_of h rfl;have h2:w.cell? ⟨p,2,none⟩=some (.string f2):=cell_of h rfl;clear h;go_enter Tryz.func185,Tryz.ntmps185;go_wp2_with fail;go_region_held3 (fun W=>W.cell? ⟨p,1,none⟩=some (.pointer f1)∧W.cell? ⟨p,2,none⟩=some (.string f2)) (go_keep) (fail)
 all_goals go_wp2_with fail;go_ret;exact aT _ _
theorem wi(p:Nat)(f0:ByteArray)(f1:Option Addr)(f2:Bool)(w:World)(h:w.heap[p]?=some (.cells #[.string f0,.pointer f1,.bool f2] 325 (0,0))) :
 Calls Tryz.prog 184 #[.pointer (some ⟨p,0,none⟩)] w (da p 325 [.pointer f1,.bool f2] w):=by
 have h1:w.cell? ⟨p,1,none⟩=some (.pointer f1):=cell_of h rfl;have h2:w.cell? ⟨p,2,none⟩=some (.bool f2):=cell_of h rfl;clear h;go_enter Tryz.func184,Tryz.ntmps184;go_wp2_with fail;go_region_held3 (fun W=>W.cell? ⟨p,1,none⟩=some (.pointer f1)∧W.cell? ⟨p,2,none⟩=some (.bool f2)) (go_keep) (fail)
 all_goals go_wp2_with fail;go_ret;exact aT _ _
theorem rM(p:Nat)(f0:ByteArray)(f1:Option Addr)(f2:Option Addr)(n2:Nat)(c2:Nat)(w:World)(h:w.heap[p]?=some (.cells #[.string f0,.pointer f1,.slice f2 n2 c2] 361 (0,0))) :
 Calls Tryz.prog 203 #[.pointer (some ⟨p,0,none⟩)] w (da p 361 [.pointer f1,.slice f2 n2 c2] w):=by
 have h1:w.cell? ⟨p,1,none⟩=some (.pointer f1):=cell_of h rfl;have h2:w.cell? ⟨p,2,none⟩=some (.slice f2 n2 c2):=cell_of h rfl;clear h;go_enter Tryz.func203,Tryz.ntmps203;go_wp2_with fail;go_region_held3 (fun W=>W.cell? ⟨p,1,none⟩=some (.pointer f1)∧W.cell? ⟨p,2,none⟩=some (.slice f2 n2 c2)) (go_keep) (fail)
 all_goals go_wp2_with fail;go_ret;exact aT _ _
theorem xz(p:Nat)(f0:ByteArray)(f1:Option Addr)(f2:Option Addr)(f3:Value)(w:World)(h:w.heap[p]?=some (.cells #[.string f0,.pointer f1,.pointer f2,f3] 379 (0,0)))(i3:R6 f3) :
 Calls Tryz.prog 212 #[.pointer (some ⟨p,0,none⟩)] w (da p 379 [.pointer f1,.pointer f2,f3] w):=by
 rcases i3 with rfl|⟨t3,u3,rfl⟩
 · have h1:w.cell? ⟨p,1,none⟩=some (.pointer f1):=cell_of h rfl;have h2:w.cell? ⟨p,2,none⟩=some (.pointer f2):=cell_of h rfl;have h3:w.cell? ⟨p,3,none⟩=some (.nilIface):=cell_of h rfl;clear h;go_enter Tryz.func212,Tryz.ntmps212;go_wp2_with fail;go_region_held3 (fun W=>W.cell? ⟨p,1,none⟩=some (.pointer f1)∧W.cell? ⟨p,2,none⟩=some (.pointer f2)∧W.cell? ⟨p,3,none⟩=some (.nilIface)) (go_keep) (fail)
   all_goals go_wp2_with fail;go_ret;exact aT _ _
 · have h1:w.cell? ⟨p,1,none⟩=some (.pointer f1):=cell_of h rfl;have h2:w.cell? ⟨p,2,none⟩=some (.pointer f2):=cell_of h rfl;have h3:w.cell? ⟨p,3,none⟩=some (.iface t3 u3):=cell_of h rfl;clear h;go_enter Tryz.func212,Tryz.ntmps212;go_wp2_with fail;go_region_held3 (fun W=>W.cell? ⟨p,1,none⟩=some (.pointer f1)∧W.cell? ⟨p,2,none⟩=some (.pointer f2)∧W.cell? ⟨p,3,none⟩=some (.iface t3 u3)) (go_keep) (fail)
   all_goals go_wp2_with fail;go_ret;exact aT _ _
theorem pH(p:Nat)(f0:ByteArray)(f1:Option Addr)(f2:Option Addr)(n2:Nat)(c2:Nat)(w:World)(h:w.heap[p]?=some (.cells #[.string f0,.pointer f1,.slice f2 n2 c2] 368 (0,0))) :
 Calls Tryz.prog 205 #[.pointer (some ⟨p,0,none⟩)] w (da p 368 [.pointer f1,.slice f2 n2 c2] w):=by
 have h1:w.cell? ⟨p,1,none⟩=some (.pointer f1):=cell_of h rfl;have h2:w.cell? ⟨p,2,none⟩=some (.slice f2 n2 c2):=cell_of h rfl;clear h;go_enter Tryz.func205,Tryz.ntmps205;go_wp2_with fail;go_region_held3 (fun W=>W.cell? ⟨p,1,none⟩=some (.pointer f1)∧W.cell? ⟨p,2,none⟩=some (.slice f2 n2 c2)) (go_keep) (fail)
 all_goals go_wp2_with fail;go_ret;exact aT _ _
theorem tZ(p:Nat)(f0:ByteArray)(f1:Option Addr)(f2:Option Addr)(f3:Option Addr)(n3:Nat)(c3:Nat)(w:World)(h:w.heap[p]?=some (.cells #[.string f0,.pointer f1,.pointer f2,.slice f3 n3 c3] 292 (0,0))) :
 Calls Tryz.prog 173 #[.pointer (some ⟨p,0,none⟩)] w (da p 292 [.pointer f1,.pointer f2,.slice f3 n3 c3] w):=by
 have h1:w.cell? ⟨p,1,none⟩=some (.pointer f1):=cell_of h rfl;have h2:w.cell? ⟨p,2,none⟩=some (.pointer f2):=cell_of h rfl;have h3:w.cell? ⟨p,3,none⟩=some (.slice f3 n3 c3):=cell_of h rfl;clear h;go_enter Tryz.func173,Tryz.ntmps173;go_wp2_with fail;go_region_held3 (fun W=>W.cell? ⟨p,1,none⟩=some (.pointer f1)∧W.cell? ⟨p,2,none⟩=some (.pointer f2)∧W.cell? ⟨p,3,none⟩=some (.slice f3 n3 c3)) (go_keep) (fail)
 all_goals go_wp2_with fail;go_ret;exact aT _ _
theorem u0(p:Nat)(f0:ByteArray)(f1:Option Addr)(f2:Option Addr)(f3:Option Addr)(n3:Nat)(c3:Nat)(f4:Option Addr)(w:World)(h:w.heap[p]?=some (.cells #[.string f0,.pointer f1,.pointer f2,.slice f3 n3 c3,.pointer f4] 296 (0,0))) :
 Calls Tryz.prog 174 #[.pointer (some ⟨p,0,none⟩)] w (da p 296 [.pointer f1,.pointer f2,.slice f3 n3 c3,.pointer f4] w):=by
 have h1:w.cell? ⟨p,1,none⟩=some (.pointer f1):=cell_of h rfl;have h2:w.cell? ⟨p,2,none⟩=some (.pointer f2):=cell_of h rfl;have h3:w.cell? ⟨p,3,none⟩=some (.slice f3 n3 c3):=cell_of h rfl;have h4:w.cell? ⟨p,4,none⟩=some (.pointer f4):=cell_of h rfl;clear h;go_enter Tryz.func174,Tryz.ntmps174;go_wp2_with fail;go_region_held3 (fun W=>W.cell? ⟨p,1,none⟩=some (.pointer f1)∧W.cell? ⟨p,2,none⟩=some (.pointer f2)∧W.cell? ⟨p,3,none⟩=some (.slice f3 n3 c3)∧W.cell? ⟨p,4,none⟩=some (.pointer f4)) (go_keep) (fail)
 all_goals go_wp2_with fail;go_ret;exact aT _ _
theorem qq(p:Nat)(f0:ByteArray)(f1:Option Addr)(f2:ByteArray)(f3:Option Addr)(f4:Option Addr)(n4:Nat)(c4:Nat)(f5:Option Addr)(f6:Option Addr)(n6:Nat)(c6:Nat)(f7:Option Addr)(w:World)(h:w.heap[p]?=some (.cells #[.string f0,.pointer f1,.string f2,.pointer f3,.slice f4 n4 c4,.pointer f5,.slice f6 n6 c6,.pointer f7] 223 (0,0))) :
 Calls Tryz.prog 143 #[.pointer (some ⟨p,0,none⟩)] w (da p 223 [.pointer f1,.string f2,.pointer f3,.slice f4 n4 c4,.pointer f5,.slice f6 n6 c6,.pointer f7] w):=by
 have h1:w.cell? ⟨p,1,none⟩=some (.pointer f1):=cell_of h rfl;have h2:w.cell? ⟨p,2,none⟩=some (.string f2):=cell_of h rfl;have h3:w.cell? ⟨p,3,none⟩=some (.pointer f3):=cell_of h rfl;have h4:w.cell? ⟨p,4,none⟩=some (.slice f4 n4 c4):=cell_of h rfl;have h5:w.cell? ⟨p,5,none⟩=some (.pointer f5):=cell_of h rfl;have h6:w.cell? ⟨p,6,none⟩=some (.slice f6 n6 c6):=cell_of h rfl;have h7:w.cell? ⟨p,7,none⟩=some (.pointer f7):=cell_of h rfl;clear h;go_enter Tryz.func143,Tryz.ntmps143;go_wp2_with fail;go_region_held3 (fun W=>W.cell? ⟨p,1,none⟩=some (.pointer f1)∧W.cell? ⟨p,2,none⟩=some (.string f2)∧W.cell? ⟨p,3,none⟩=some (.pointer f3)∧W.cell? ⟨p,4,none⟩=some (.slice f4 n4 c4)∧W.cell? ⟨p,5,none⟩=some (.pointer f5)∧W.cell? ⟨p,6,none⟩=some (.slice f6 n6 c6)∧W.cell? ⟨p,7,none⟩=some (.pointer f7)) (go_keep) (fail)
 all_goals go_wp2_with fail;go_ret;exact aT _ _
theorem AU(p:Nat)(f0:ByteArray)(f1:Option Addr)(f2:Option Addr)(n2:Nat)(c2:Nat)(w:World)(h:w.heap[p]?=some (.cells #[.string f0,.pointer f1,.slice f2 n2 c2] 107 (0,0))) :
 Calls Tryz.prog 43 #[.pointer (some ⟨p,0,none⟩)] w (da p 107 [.pointer f1,.slice f2 n2 c2] w):=by
 have h1:w.cell? ⟨p,1,none⟩=some (.pointer f1):=cell_of h rfl;have h2:w.cell? ⟨p,2,none⟩=some (.slice f2 n2 c2):=cell_of h rfl;clear h;go_enter Tryz.func43,Tryz.ntmps43;go_wp2_with fail;go_region_held3 (fun W=>W.cell? ⟨p,1,none⟩=some (.pointer f1)∧W.cell? ⟨p,2,none⟩=some (.slice f2 n2 c2)) (go_keep) (fail)
 all_goals go_wp2_with fail;go_ret;exact aT _ _
end Go.Proofs.YtnpjmhodfdgloaaGreatDoor
