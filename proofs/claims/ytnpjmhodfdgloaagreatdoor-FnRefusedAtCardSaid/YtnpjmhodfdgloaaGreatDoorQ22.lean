/- Part of the proof. -/
import Derived.Test.YtnpjmhodfdgloaaGreatDoorQ15
set_option linter.unusedVariables false
set_option linter.unusedSimpArgs false
namespace Go.Proofs.YtnpjmhodfdgloaaGreatDoor
set_option maxRecDepth 100000
set_option maxHeartbeats 32000000
open Go.RowKit
attribute [local go_sem ↓] Go.wp_at_zero Go.wp_at_succ
structure Sx where
 l:List Tok
 la:Option Addr
 cap:Nat
 tb:Nat
 o:Nat
 sp:Nat
structure FK(c:Sx)(w:World):Prop where
 at_:∀i (h:i<c.l.length),c.la=some ⟨c.tb,c.o,none⟩∧w.cell? ⟨c.tb,c.o+i*4,none⟩=some (.int .i64 c.l[i].kind)∧w.cell? ⟨c.tb,c.o+i*4+1,none⟩=some (.string c.l[i].val)∧w.cell? ⟨c.tb,c.o+i*4+2,none⟩=some (.int .i64 (c.l[i].start:Int))∧w.cell? ⟨c.tb,c.o+i*4+3,none⟩=some (.int .i64 (c.l[i].stop:Int))
 ne:c.tb≠c.sp
 small:c.l.length≤1000000
def JE(c:Sx)(p:Ps):Array Value:=#[.slice c.la c.l.length c.cap,.int .i64 (p.pos:Int),.int .i64 (p.deep:Int),.int .i64 (p.wrong:Int),.bool p.bad,.bool p.unsure]
structure fV(c:Sx)(p:Ps)(w:World):Prop where
 obj:w.heap[c.sp]?=some (.cells (JE c p) 39 (0,0))
 jC:FK c w
 pos:p.pos≤c.l.length
 deep:p.deep≤1000
theorem FK.sm{X:List Nat}{c:Sx}{w w':World}(h:FK c w)(hs:Sm X w w')(hx:c.tb∉X):FK c w':=
 ⟨fun i hi=>by obtain⟨a,b,d,e,f⟩:=h.at_ i hi;exact⟨a,hs.keeps b hx,hs.keeps d hx,hs.keeps e hx,hs.keeps f hx⟩,h.ne,h.small⟩
theorem fV.cI{c:Sx}{p:Ps}{w w':World}(h:fV c p w)(hs:Sm [] w w'):fV c p w':=⟨hs.obj h.obj (by simp),h.jC.sm hs (by simp),h.pos,h.deep⟩
theorem fV.put{c:Sx}{p q:Ps}{w w':World}(h:fV c p w)(hs:Sm [c.sp] w w')(ho:w'.heap[c.sp]?=some (.cells (JE c q) 39 (0,0)))(h1:q.pos≤c.l.length)(h2:q.deep≤1000):fV c q w':=
 ⟨ho,h.jC.sm hs (by have:=h.jC.ne;simpa using this),h1,h2⟩
section
variable{c:Sx}{p:Ps}{w:World}
theorem fV.c0(h:fV c p w):w.cell? ⟨c.sp,0,none⟩=some (.slice c.la c.l.length c.cap):=cell_of h.obj rfl
theorem fV.c1(h:fV c p w):w.cell? ⟨c.sp,1,none⟩=some (.int .i64 (p.pos:Int)):=cell_of h.obj rfl
theorem fV.c2(h:fV c p w):w.cell? ⟨c.sp,2,none⟩=some (.int .i64 (p.deep:Int)):=cell_of h.obj rfl
theorem fV.c3(h:fV c p w):w.cell? ⟨c.sp,3,none⟩=some (.int .i64 (p.wrong:Int)):=cell_of h.obj rfl
theorem fV.c4(h:fV c p w):w.cell? ⟨c.sp,4,none⟩=some (.bool p.bad):=cell_of h.obj rfl
theorem fV.c5(h:fV c p w):w.cell? ⟨c.sp,5,none⟩=some (.bool p.unsure):=cell_of h.obj rfl
theorem fV.free(h:fV c p w)(i:Nat):w.frozen? ⟨c.sp,i,none⟩=false:=aF h.obj i
end
theorem fS{c:Sx}{w w':World}(h:Sm [c.sp] w w')(i:Nat)(v:Value):Sm [c.sp] w (w'.setCell ⟨c.sp,i,none⟩ v):=h.setCell (.inr (by simp)) _
theorem lF{l:List Tok}{i:Nat}(h:l.length≤i):ag l i=1:=by unfold ag;rw[List.getElem?_eq_none h];rfl
theorem Gn{l:List Tok}{i:Nat}(h:i<l.length):ag l i=l[i].kind:=by unfold ag;rw[List.getElem?_eq_getElem h];rfl
theorem Du{l:List Tok}{i:Nat}(h:i<l.length):aX l i=l[i].val:=by unfold aX;rw[List.getElem?_eq_getElem h];rfl
def jW(k:Int)(w:World)(e:Ending)(w':World):Prop:=e=.returned (.int .i64 k)∧Sm [] w w'
theorem j7(c:Sx)(p:Ps)(k:Nat)(w:World)(h:fV c p w)(hk:k≤1000000):Calls Tryz.prog 23 #[.pointer (some ⟨c.sp,0,none⟩),.int .i64 (k:Int)] w (jW (ag c.l (p.pos+k)) w):=by
 have c0:=h.c0;have c1:=h.c1;have hp:=h.pos;have hl:=h.jC.small;by_cases hi:p.pos+k<c.l.length
 · obtain⟨Cf,t0,_⟩:=h.jC.at_ _ hi;have HK:=ae (Gn hi);rw[Cf] at c0;have z1:¬((p.pos:Int)+(k:Int)≥(c.l.length:Int)):=by omega
   have z2:(p.pos:Int)+(k:Int)<(c.l.length:Int):=by omega
   have z3:(0:Int)≤(p.pos:Int)+(k:Int):=by omega
   clear h Cf;go_enter Tryz.func23,Tryz.ntmps23;go_wp2_with fail;go_quiet (fail);go_wp2_with fail;go_quiet (fail);go_wp2_with fail;go_ret;exact⟨by rw[HK.o];rfl,(((Sm.refl [] w).drewN _).drewN _)⟩
 · have HK:=ae (lF (by omega:c.l.length≤p.pos+k));have z1:(p.pos:Int)+(k:Int)≥(c.l.length:Int):=by omega
   clear h hi;go_enter Tryz.func23,Tryz.ntmps23;go_wp2_with fail;go_quiet (fail);go_wp2_with fail;go_ret;exact⟨by rw[HK.o];rfl,((Sm.refl [] w).drewN _)⟩
theorem pT{c:Sx}{p:Ps}{w:World}(h:w.heap[c.sp]?=some (.cells (JE c p) 39 (0,0)))(i:Nat)(v:Value)(q:Ps)(hq:(JE c p).setIfInBounds i v=JE c q):(w.setCell ⟨c.sp,i,none⟩ v).heap[c.sp]?=some (.cells (JE c q) 39 (0,0)):=by rw[dw h i v,hq]
def vX(c:Sx)(q:Ps)(v:Value)(w:World)(e:Ending)(w':World):Prop:=e=.returned v∧fV c q w'∧Sm [c.sp] w w'
theorem nF(c:Sx)(p:Ps)(w:World)(h:fV c p w):Calls Tryz.prog 17 #[.pointer (some ⟨c.sp,0,none⟩)] w (vX c (db p) (.slice none 0 0) w):=by
 have c1:=h.c1;have c3:=h.c3;have c4:=h.c4;have f3:=h.free 3;have f4:=h.free 4;have HH:=ae h;clear h
 cases hb:p.bad with
 | true=>
  have HB:=ae hb;rw[hb] at c4;clear hb;go_enter Tryz.func17,Tryz.ntmps17;go_wp2_with fail;go_ret
  exact⟨rfl,by unfold db;rw[if_pos HB.o];exact HH.o,sr⟩
 | false=>
  have HB:=ae hb;rw[hb] at c4;clear hb;go_enter Tryz.func17,Tryz.ntmps17;go_wp2_with fail;go_ret;have hq:db p={p with bad:=true,wrong:=p.pos}:=by unfold db;rw[if_neg (by rw[HB.o];decide)]
  rw[hq];refine⟨rfl,HH.o.put (fS (fS sr _ _) _ _) ?_ HH.o.pos HH.o.deep,fS (fS sr _ _) _ _⟩;exact pT (pT HH.o.obj 4 (.bool true) {p with bad:=true} rfl) 3 _ _ rfl
theorem lZ(c:Sx)(p:Ps)(k:Int)(w:World)(h:fV c p w)(K9:k≠1):Calls Tryz.prog 59 #[.pointer (some ⟨c.sp,0,none⟩),.int .i64 k] w (vX c (ay c.l k p).2 (.bool (ay c.l k p).1) w):=by
 have HK:Hd (∀W,Sm [] w W→Calls Tryz.prog 23 #[.pointer (some ⟨c.sp,0,none⟩),.int .i64 0] W (jW (ag c.l p.pos) W)):=fun W hw=>by have:=j7 c p 0 W (h.cI hw) (by omega);simpa using this
 have c1:=h.c1;have c4:=h.c4;have f1:=h.free 1;have HH:=ae h;have hp:=h.pos;have hl:=h.jC.small;clear h
 cases hb:p.bad with
 | true=>
  have HB:=ae hb;rw[hb] at c4;have HQ:Hd (ay c.l k p=(false,p)):=by unfold Hd ay;rw[if_pos (.inl hb)]
  rw[HQ.o];clear hb;go_enter Tryz.func59,Tryz.ntmps59;go_wp2_with fail;go_ret
  exact⟨rfl,HH.o,sr⟩
 | false=>
  rw[hb] at c4;by_cases hk:ag c.l p.pos=k
  · have HQ:Hd (ay c.l k p=(true,{p with pos:=p.pos+1})):=by unfold Hd ay;rw[if_neg (by rw[hb];rintro(e|e);cases e;exact e hk)]
    rw[HQ.o];have y:(ag c.l p.pos !=k)=false:=by simpa using hk
    have b9:p.pos<c.l.length:=by
     by_cases h1:p.pos<c.l.length
     · exact h1
     · rw[lF (by omega)] at hk;exact absurd hk.symm K9
    clear hb hk;go_enter Tryz.func59,Tryz.ntmps59;go_wp2_with fail;refine(HK.o _ sr).mono ?_;rintro e w1 ⟨rfl,cJ⟩;have av:=ae cJ;have d1:=cJ.keeps c1 (by simp);have g1:w1.frozen? ⟨c.sp,1,none⟩=false:=(HH.o.cI cJ).free 1;have I9:=ae (HH.o.cI cJ);clear cJ c1 c4 f1;go_wp2_with fail;go_ret;refine⟨rfl,I9.o.put (fS sr _ _) ?_ b9 I9.o.deep,fS av.o.of_nil _ _⟩;exact pT I9.o.obj 1 _ _ (by unfold JE;simp)
  · have HQ:Hd (ay c.l k p=(false,p)):=by unfold Hd ay;rw[if_pos (.inr hk)]
    rw[HQ.o];have y:(ag c.l p.pos !=k)=true:=by simpa using hk
    clear hb hk;go_enter Tryz.func59,Tryz.ntmps59;go_wp2_with fail;refine(HK.o _ sr).mono ?_;rintro e w1 ⟨rfl,cJ⟩;have I9:=ae (HH.o.cI cJ);have av:=ae cJ;clear cJ c1 c4 f1;go_wp2_with fail;go_ret;exact⟨rfl,I9.o,av.o.of_nil⟩
theorem Fb(c:Sx)(p:Ps)(k:Int)(w:World)(h:fV c p w)(K9:k≠1):Calls Tryz.prog 57 #[.pointer (some ⟨c.sp,0,none⟩),.int .i64 k] w (vX c (cr c.l k p).2 (.tuple #[]) w):=by
 have HT:Hd (Calls Tryz.prog 59 #[.pointer (some ⟨c.sp,0,none⟩),.int .i64 k] w (vX c (ay c.l k p).2 (.bool (ay c.l k p).1) w)):=lZ c p k w h K9;have HF:=ae (nF c);have HQ:Hd (cr c.l k p=if(ay c.l k p).1 then((),(ay c.l k p).2) else((),db p)):=rfl
 have HP:Hd ((ay c.l k p).1=false→(ay c.l k p).2=p):=fun e=>by
  unfold ay at e ⊢;by_cases hc:p.bad=true∨ag c.l p.pos≠k
  · rw[if_pos hc]
  · rw[if_neg hc] at e;cases e
 clear h K9;generalize ay c.l k p=tk at *;obtain⟨b,q⟩:=tk;go_enter Tryz.func57,Tryz.ntmps57;go_wp2_with fail;refine HT.o.mono ?_;rintro e w1 ⟨rfl,(Rv:Hd _),(HS:Hd _)⟩
 cases b with
 | true=>
  go_wp2_with fail;go_end0
  exact⟨rfl,by rw[HQ.o];exact Rv.o,HS.o⟩
 | false=>have hq:q=p:=HP.o rfl;subst hq;clear HP;go_wp2_with fail;refine(HF.o q w1 Rv.o).mono ?_;rintro e w2 ⟨rfl,(I7:Hd _),(ax:Hd _)⟩;go_wp2_with fail;go_end0;exact⟨rfl,by rw[HQ.o];exact I7.o,HS.o.trans ax.o⟩
theorem Lz(c:Sx)(p:Ps)(w:World)(h:fV c p w)(h1:1≤p.deep):Calls Tryz.prog 61 #[.pointer (some ⟨c.sp,0,none⟩)] w (vX c (jx p).2 (.tuple #[]) w):=by have c2:=h.c2;have f2:=h.free 2;have HH:=ae h;have hd:=h.deep;clear h;go_enter Tryz.func61,Tryz.ntmps61;go_wp2_with fail;go_end0;refine⟨rfl,HH.o.put (fS sr _ _) ?_ HH.o.pos (by show p.deep-1≤1000;omega),fS sr _ _⟩;exact pT HH.o.obj 2 _ _ (by unfold JE jx;simp;omega)
theorem Lp(c:Sx)(p:Ps)(w:World)(h:fV c p w)(h1:p.deep≤999):Calls Tryz.prog 56 #[.pointer (some ⟨c.sp,0,none⟩)] w (vX c (ew p).2 (.bool (ew p).1) w):=by
 have HF:=ae (nF c);have c2:=h.c2;have c4:=h.c4;have c5:=h.c5;have f2:=h.free 2;have f5:=h.free 5;have HH:=ae h;clear h;by_cases hd:p.deep+1>60
 · have HQ:Hd (ew p=(false,db {p with deep:=p.deep+1,unsure:=true})):=by unfold Hd ew;rw[if_pos hd]
   rw[HQ.o];have y:(p.deep:Int)+1>60:=by omega
   have ho2:Hd (((w.setCell ⟨c.sp,2,none⟩ (.int .i64 ((p.deep:Int)+1))).setCell ⟨c.sp,5,none⟩ (.bool true)).heap[c.sp]?=some (.cells (JE c {p with deep:=p.deep+1,unsure:=true}) 39 (0,0))):=
    pT (pT HH.o.obj 2 (.int .i64 ((p.deep:Int)+1)) {p with deep:=p.deep+1} (by unfold JE;simp)) 5 _ _ rfl
   have wI:Hd (fV c {p with deep:=p.deep+1,unsure:=true} ((w.setCell ⟨c.sp,2,none⟩ (.int .i64 ((p.deep:Int)+1))).setCell ⟨c.sp,5,none⟩ (.bool true))):=
    HH.o.put (fS (fS sr _ _) _ _) ho2.out HH.o.pos (by show p.deep+1≤1000;omega)
   have av:Hd (Sm [c.sp] w ((w.setCell ⟨c.sp,2,none⟩ (.int .i64 ((p.deep:Int)+1))).setCell ⟨c.sp,5,none⟩ (.bool true))):=fS (fS sr _ _) _ _;clear hd;go_enter Tryz.func56,Tryz.ntmps56;go_wp2_with fail;refine(HF.o _ _ wI.o).mono ?_;rintro e w1 ⟨rfl,bV,(HS:Hd _)⟩;have d4:=bV.c4;have hb:(db {p with deep:=p.deep+1,unsure:=true}).bad=true:=by unfold db;split<;>simp_all
   rw[hb] at d4;have HA:=ae bV;clear bV hb y c2 c4 c5 f2 f5;go_wp2_with fail;go_ret;exact⟨rfl,HA.o,av.o.trans HS.o⟩
 · have HQ:Hd (ew p=(!p.bad,{p with deep:=p.deep+1})):=by unfold Hd ew;rw[if_neg hd]
   rw[HQ.o];have y:¬((p.deep:Int)+1>60):=by omega
   have ho2:Hd ((w.setCell ⟨c.sp,2,none⟩ (.int .i64 ((p.deep:Int)+1))).heap[c.sp]?=some (.cells (JE c {p with deep:=p.deep+1}) 39 (0,0))):=
    pT HH.o.obj 2 (.int .i64 ((p.deep:Int)+1)) {p with deep:=p.deep+1} (by unfold JE;simp)
   clear hd;go_enter Tryz.func56,Tryz.ntmps56;go_wp2_with fail;go_ret;exact⟨rfl,HH.o.put (fS sr _ _) ho2.out HH.o.pos (by show p.deep+1≤1000;omega),fS sr _ _⟩
theorem Fc(c:Sx)(p:Ps)(k:Int)(w:World)(h:fV c p w)(h1:p.bad=false→1≤p.pos):Calls Tryz.prog 58 #[.pointer (some ⟨c.sp,0,none⟩),.int .i64 k] w (vX c (eT c.l k p).2 (.tuple #[]) w):=by
 have HK:Hd (∀W,Sm [] w W→Calls Tryz.prog 23 #[.pointer (some ⟨c.sp,0,none⟩),.int .i64 0] W (jW (ag c.l p.pos) W)):=fun W hw=>by have:=j7 c p 0 W (h.cI hw) (by omega);simpa using this
 have HF:=ae (nF c);have c1:=h.c1;have c4:=h.c4;have f1:=h.free 1;have HH:=ae h;have hp:=h.pos;have hl:=h.jC.small;clear h
 cases hb:p.bad with
 | true=>
  have HB:=ae hb;rw[hb] at c4;have HQ:Hd ((eT c.l k p).2=p):=by unfold Hd eT;rw[if_neg (by rw[hb];rintro⟨e,_⟩;cases e)]
  rw[HQ.o];clear hb h1;go_enter Tryz.func58,Tryz.ntmps58;go_wp2_with fail;go_end0
  exact⟨rfl,HH.o,sr⟩
 | false=>
  rw[hb] at c4;have PI:=h1 hb;by_cases hk:ag c.l p.pos=k
  · have HQ:Hd ((eT c.l k p).2=db {p with pos:=p.pos-1}):=by unfold Hd eT;rw[if_pos ⟨hb,hk⟩]
    rw[HQ.o];have y:(ag c.l p.pos==k)=true:=by simpa using hk
    clear hb hk h1;go_enter Tryz.func58,Tryz.ntmps58;go_wp2_with fail;refine(HK.o _ sr).mono ?_;rintro e w1 ⟨rfl,cJ⟩;have av:=ae cJ;have d1:=cJ.keeps c1 (by simp);have g1:w1.frozen? ⟨c.sp,1,none⟩=false:=(HH.o.cI cJ).free 1;have I9:=ae (HH.o.cI cJ);have wI:Hd (fV c {p with pos:=p.pos-1} (w1.setCell ⟨c.sp,1,none⟩ (.int .i64 ((p.pos:Int)-1)))):=I9.o.put (fS sr _ _) (pT I9.o.obj 1 _ _ (by unfold JE;simp;omega)) (by show p.pos-1≤_;omega) I9.o.deep;clear cJ c1 c4 f1;go_wp2_with fail;refine(HF.o _ _ wI.o).mono ?_;rintro e w2 ⟨rfl,(HA:Hd _),(HS:Hd _)⟩;go_wp2_with fail;go_end0;exact⟨rfl,HA.o,(fS av.o.of_nil _ _).trans HS.o⟩
  · have HQ:Hd ((eT c.l k p).2=p):=by unfold Hd eT;rw[if_neg (fun e=>hk e.2)]
    rw[HQ.o];have y:(ag c.l p.pos==k)=false:=by simpa using hk
    clear hb hk h1;go_enter Tryz.func58,Tryz.ntmps58;go_wp2_with fail;refine(HK.o _ sr).mono ?_;rintro e w1 ⟨rfl,cJ⟩;have I9:=ae (HH.o.cI cJ);have av:=ae cJ;clear cJ c1 c4 f1;go_wp2_with fail;go_end0;exact⟨rfl,I9.o,av.o.of_nil⟩
theorem zZ(c:Sx)(p:Ps)(w:World)(h:fV c p w):Calls Tryz.prog 26 #[.pointer (some ⟨c.sp,0,none⟩)] w (vX c (aw c.l p).2 (.string (aw c.l p).1) w):=by
 have HK:Hd (∀W,Sm [] w W→Calls Tryz.prog 23 #[.pointer (some ⟨c.sp,0,none⟩),.int .i64 0] W (jW (ag c.l p.pos) W)):=fun W hw=>by have:=j7 c p 0 W (h.cI hw) (by omega);simpa using this
 have HF:=ae (nF c);have c1:=h.c1;have c4:=h.c4;have c0:=h.c0;have f1:=h.free 1;have HH:=ae h;have hp:=h.pos;have hl:=h.jC.small;have HT:=ae h.jC;clear h
 cases hb:p.bad with
 | true=>
  have HB:=ae hb;rw[hb] at c4;have HQ:Hd (aw c.l p=(ByteArray.empty,db p)):=by unfold Hd aw;rw[if_pos (.inl hb)]
  rw[HQ.o];clear hb;go_enter Tryz.func26,Tryz.ntmps26;go_wp2_with fail;refine(HF.o p w HH.o).mono ?_;rintro e w1 ⟨rfl,(HA:Hd _),(HS:Hd _)⟩;go_wp2_with fail;go_ret
  exact⟨rfl,HA.o,HS.o⟩
 | false=>
  rw[hb] at c4;by_cases hk:ag c.l p.pos=15
  · have b9:p.pos<c.l.length:=by
     by_cases h1:p.pos<c.l.length
     · exact h1
     · rw[lF (by omega)] at hk;cases hk
    have HQ:Hd (aw c.l p=(c.l[p.pos].val,{p with pos:=p.pos+1})):=by unfold Hd aw;rw[if_neg (by rw[hb];rintro(e|e);cases e;exact e hk),Du b9]
    rw[HQ.o];have y:(ag c.l p.pos !=15)=false:=by simpa using hk
    obtain⟨Cf,_,t1,_⟩:=HT.o.at_ _ b9;rw[Cf] at c0;have z1:((p.pos:Int)+1)-1=(p.pos:Int):=by omega
    have tX:c.tb≠c.sp:=HT.o.ne;clear hb hk;go_enter Tryz.func26,Tryz.ntmps26;go_wp2_with fail;refine(HK.o _ sr).mono ?_;rintro e w1 ⟨rfl,cJ⟩;have av:=ae cJ;have d0:=cJ.keeps c0 (by simp);have d1:=cJ.keeps c1 (by simp);have u1:=cJ.keeps t1 (by simp);have g1:w1.frozen? ⟨c.sp,1,none⟩=false:=(HH.o.cI cJ).free 1;have I9:=ae (HH.o.cI cJ);have z2:(0:Int)≤(p.pos:Int):=by omega
    have z3:(p.pos:Int)<(c.l.length:Int):=by omega
    clear cJ c0 c1 c4 f1 t1;go_wp2_with fail;go_quiet (fail);go_wp2_with fail;go_ret;refine⟨rfl,fV.cI (I9.o.put (q:={p with pos:=p.pos+1}) (fS sr _ _) ?_ b9 I9.o.deep) ((Sm.refl [] _).drewN _),(fS av.o.of_nil _ _).drewN _⟩;exact pT I9.o.obj 1 _ _ (by unfold JE;simp)
  · have HQ:Hd (aw c.l p=(ByteArray.empty,db p)):=by unfold Hd aw;rw[if_pos (.inr hk)]
    rw[HQ.o];have y:(ag c.l p.pos !=15)=true:=by simpa using hk
    clear hb hk;go_enter Tryz.func26,Tryz.ntmps26;go_wp2_with fail;refine(HK.o _ sr).mono ?_;rintro e w1 ⟨rfl,cJ⟩;have I9:=ae (HH.o.cI cJ);have av:=ae cJ;clear cJ c1 c4 f1;go_wp2_with fail;refine(HF.o p _ I9.o).mono ?_;rintro e w2 ⟨rfl,(HA:Hd _),(HS:Hd _)⟩;go_wp2_with fail;go_ret;exact⟨rfl,HA.o,av.o.of_nil.trans HS.o⟩
end Go.Proofs.YtnpjmhodfdgloaaGreatDoor
