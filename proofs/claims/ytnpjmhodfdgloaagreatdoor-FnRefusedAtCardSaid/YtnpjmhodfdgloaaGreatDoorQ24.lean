/- Part of the proof. -/
import Derived.Maps.AppendAt
import Derived.Laws.OwnMore
import Derived.Test.YtnpjmhodfdgloaaGreatDoorQ22
import Derived.Test.YtnpjmhodfdgloaaGreatDoorQ23
set_option linter.unusedVariables false
set_option linter.unusedSimpArgs false
namespace Go.Proofs.YtnpjmhodfdgloaaGreatDoor
set_option maxRecDepth 100000
set_option maxHeartbeats 32000000
open Go.RowKit
attribute [local go_sem ↓] Go.wp_at_zero Go.wp_at_succ
def VX(n:Nd):List Value:=[.int .i64 n.kind,.string n.name,.string n.alias,.string n.text,.int .i64 n.flag,.int .i64 n.size]
def gF(l:List Nd):List Value:=l.flatMap VX
theorem Aq(a b:List Nd):gF (a++b)=gF a++gF b:=by simp[gF]
theorem Qg(l:List Nd):(gF l).length=l.length*6:=by
 induction l with
 | nil=>rfl
 | cons a l ih=>simp[gF,VX] at ih ⊢;omega
theorem j0(l:List Nd):∀u∈gF l,u.oneCell'=true:=by intro u hu;simp only[gF,List.mem_flatMap] at hu;obtain⟨n,_,h⟩:=hu;simp only[VX,List.mem_cons,List.mem_nil_iff,or_false] at h;rcases h with rfl|rfl|rfl|rfl|rfl|rfl<;>rfl
theorem ra{w w':World}{base size n:Nat}{e:TypeId}{v:Value}{xs:List Value}(h:w.ownsRow base e size v n xs)(hb:∀g,v.ownBlock=some g→w'.heap[g]?=w.heap[g]?):w'.ownsRow base e size v n xs:=by
 refine⟨h.1,?_⟩;rcases h.2 with h0|⟨g,cap,cur,rfl,h1,h2,h3⟩
 · exact .inl h0
 · exact .inr ⟨g,cap,cur,rfl,h1,(hb g rfl).trans h2,h3⟩
theorem Ar{w:World}{base TC size n:Nat}{e:TypeId}{v:Value}{xs:List Value}(h:w.ownsRow base e size v n xs)(hb:TC≤base):w.ownsRow TC e size v n xs:=by
 refine⟨h.1,?_⟩;rcases h.2 with h0|⟨g,cap,cur,rfl,h1,h2⟩
 · exact .inl h0
 · exact .inr ⟨g,cap,cur,rfl,Nat.le_trans hb h1,h2⟩
def ke:au (List Nd) where
 rd lo hi w v l:=w.ownsRow lo 67 6 v l.length (gF l)∧∀g,v.ownBlock=some g→g<hi
 keep:=by rintro lo hi w w' v l ⟨h1,h2⟩ hs;exact⟨ra h1 (fun g hg=>hs g (h1.lt g hg).1 (h2 g hg)),h2⟩
 wide:=by rintro lo hi Bk rC w v l ⟨h1,h2⟩ l1 l2;exact⟨Ar h1 l1,fun g hg=>Nat.lt_of_lt_of_le (h2 g hg) l2⟩
theorem yK(lo hi:Nat)(w:World):ke.rd lo hi w (.slice none 0 0) []:=⟨World.ownsRow_nil _ _ _ _,fun g h=>by cases h⟩
theorem Qh{w:World}{base n:Nat}{v:Value}{l:List Nd}(h:w.ownsRow base 67 6 v n (gF l)):ke.rd base w.heap.size w v l:=by
 have hn:n=l.length:=by have h1:=h.1;rw[Qg] at h1;omega
 subst hn;exact⟨h,fun g hg=>(h.lt g hg).2⟩
theorem pj{lo hi:Nat}{w:World}{v:Value}{l:List Nd}(h:ke.rd lo hi w v l):∃a cap,v=.slice a l.length cap:=by
 rcases h.1.2 with⟨rfl,h0⟩|⟨g,cap,cur,rfl,_⟩
 · exact⟨none,0,by rw[h0]⟩
 · exact⟨_,_,rfl⟩
theorem np:(Tryz.prog.info? 67).map (fun i=>(i.zero,i.size,i.bytes))=some (some (.agg #[.int .i64 0,.string ByteArray.empty,.string ByteArray.empty,.string ByteArray.empty,.int .i64 0,.int .i64 0]),6,72):=by kernel_rfl
theorem fm:(Tryz.prog.info? 23).map (fun i=>(i.zero,i.size,i.bytes))=some (some (.slice none 0 0),1,24):=by kernel_rfl
section
variable{P:Program}{ops:Array Oper}{o:Oper}{a:Act}{K:Act→World→Prop}{Q:Exit→Act→World→Prop}{E:Prop}{w:World}
theorem As(t ty:TypeId)(base lo:Nat)(e:TypeId)(z:Value)(size bytes:Nat)(ht:P.underlying t=some (.slice e))(rD:(P.info? e).map (fun i=>(i.zero,i.size,i.bytes))=some (some z,size,bytes))
 (hz:z.cells.size=size) (om:0<size) (v u:Value) (n m:Nat) (xs ys:List Value) (hv:w.ownsRow base e size v n xs) (hu:w.ownsRow lo e size u m ys) (h1:∀x∈ys,x.oneCell'=true)
 (XI:n+m≤maxLen) (lj:(n+m)*bytes≤140737488355328) (cv:base≤w.heap.size) :
 ∃v' w',(Builtin.append_ #[t,t] ty #[v,u]).run P w=.ok v' w'∧w'.ownsRow base e size v' (n+m) (xs++ys)∧w.grownBy w' v.ownBlock∧(v'.ownBlock=v.ownBlock∨v'.ownBlock=some w.heap.size):=by
 obtain⟨i0,hi,PT⟩:=Option.map_eq_some_iff.1 rD;simp only[Prod.mk.injEq] at PT;obtain⟨Vu,Vv,Rh⟩:=PT;have wQ:=hu;rcases hu.2 with⟨rfl,rfl⟩|⟨g,cap,cur,rfl,hg⟩
 · have hy:ys=[]:=List.eq_nil_of_length_eq_zero (by simpa using hu.1);subst hy;refine⟨v,w,?_,by simpa using hv,World.grownBy.refl w _,.inl rfl⟩;rcases hv.2 with⟨rfl,rfl⟩|⟨g,cap,cur,rfl,_,_,hnc,_⟩
   · simp[Builtin.append_,run_underlying ht,sizeOf,typeInfo,hi,Builtin.lenOf,Builtin.firstCells]
   · simp[Builtin.append_,run_underlying ht,sizeOf,typeInfo,hi,Builtin.lenOf,Builtin.firstCells,hnc,storeCells]
 · obtain⟨v',w',KS,h2,h3,_,h5⟩:=run_append_own_at (P:=P) w base t ty e i0 z size bytes ht hi Vu Vv Rh hz om v n xs hv ⟨g,0,none⟩ m cap ys hu.1 (wQ.cells (g:=g) rfl) h1 XI lj cv;exact⟨v',w',KS,h2,h3,h5⟩
theorem kK{rest:List Oper}(base lo:Nat)(ux:o.guard=none)(s x:Operand)(t:TypeId)(ho:o.op=.call {callee:=.builtin .append,args:=#[s,x],argTypes:=#[t,t]})
 (e:TypeId) (z:Value) (size bytes:Nat) (ht:P.underlying t=some (.slice e)) (rD:(P.info? e).map (fun i=>(i.zero,i.size,i.bytes))=some (some z,size,bytes))
 (hz:z.cells.size=size) (om:0<size) (v u:Value) (n m:Nat) (xs ys:List Value) (hs:a.eval s=v) (hx:a.eval x=u) (hv:w.ownsRow base e size v n xs) (hu:w.ownsRow lo e size u m ys) (h1:∀x∈ys,x.oneCell'=true)
 (XI:n+m≤maxLen) (lj:(n+m)*bytes≤140737488355328) (cv:base≤w.heap.size)
 (h:∀v' w',w'.ownsRow base e size v' (n+m) (xs++ys)→w.grownBy w' v.ownBlock→(v'.ownBlock=v.ownBlock∨v'.ownBlock=some w.heap.size)→wpList P ops Q rest (a.put o.dst v') w') :
 wpList P ops Q (o :: rest) a w:=by
 refine wpList_plain ux fun _ hK=>?_;obtain⟨v',w',KS,h2,h3,h4⟩:=As (P:=P) (w:=w) t o.type base lo e z size bytes ht rD hz om v u n m xs ys hv hu h1 XI lj cv;unfold Oper.wp execOp;simp only[ho,resolve,invoke,builtin,Sem.run_bind,Sem.run_pure,Result.andThen_ok,List.map_toArray,List.map_cons,List.map_nil,hs,hx,KS];exact hK _ _ (h v' w' h2 h3 h4)
theorem iv(base lo:Nat)(ux:o.guard=none)(s x:Operand)(t:TypeId)(ho:o.op=.call {callee:=.builtin .append,args:=#[s,x],argTypes:=#[t,t]})
 (e:TypeId) (z:Value) (size bytes:Nat) (ht:P.underlying t=some (.slice e)) (rD:(P.info? e).map (fun i=>(i.zero,i.size,i.bytes))=some (some z,size,bytes))
 (hz:z.cells.size=size) (om:0<size) (v u:Value) (n m:Nat) (xs ys:List Value) (hs:a.eval s=v) (hx:a.eval x=u) (hv:w.ownsRow base e size v n xs) (hu:w.ownsRow lo e size u m ys) (h1:∀x∈ys,x.oneCell'=true)
 (XI:n+m≤maxLen) (lj:(n+m)*bytes≤140737488355328) (cv:base≤w.heap.size)
 (h:∀v' w',w'.ownsRow base e size v' (n+m) (xs++ys)→w.grownBy w' v.ownBlock→(v'.ownBlock=v.ownBlock∨v'.ownBlock=some w.heap.size)→K (a.put o.dst v') w') :
 if Region.wanted o (yielded ops a.tmps)=true then Oper.wp P o a w K Q else E:=by
 have hw:Region.wanted o (yielded ops a.tmps)=true:=by simp[Region.wanted,ux]
 rw[if_pos hw];obtain⟨v',w',KS,h2,h3,h4⟩:=As (P:=P) (w:=w) t o.type base lo e z size bytes ht rD hz om v u n m xs ys hv hu h1 XI lj cv;unfold Oper.wp execOp;simp only[ho,resolve,invoke,builtin,Sem.run_bind,Sem.run_pure,Result.andThen_ok,List.map_toArray,List.map_cons,List.map_nil,hs,hx,KS];exact h v' w' h2 h3 h4
end
def B9(n:Nd)(ks:List (List Nd))(w:World)(v ii:Value)(wr:World):Prop:=
 ∃j,j≤ks.length∧ii=.int .i64 (j:Int)∧Hd (wr.ownsRow w.heap.size 67 6 v ((ks.take j).flatten.length+1) (gF (n :: (ks.take j).flatten)))∧Hd (Sm [] w wr)
def ve(l:List Nd)(w:World)(e:Ending)(w':World):Prop:=∃v,e=.returned v∧ke.rd w.heap.size w'.heap.size w' v l∧Sm [] w w'
theorem yI(n:Nd)(ks:List (List Nd))(a:Option Addr)(m cap lo hi:Nat)(w:World)(h:(au.list ke).rd lo hi w (.slice a m cap) ks)(hh:hi≤w.heap.size)(hb:ks.flatten.length≤1000000000)(hk:ks.length≤1000000000) :
 Calls Tryz.prog 18 #[.agg #[.int .i64 n.kind,.string n.name,.string n.alias,.string n.text,.int .i64 n.flag,.int .i64 n.size],.slice a m cap] w (ve (made n ks) w):=by
 have HH:=ae h;have hm:=Q8 h;subst hm;clear h;go_enter Tryz.func18,Tryz.ntmps18;go_wp2_with fail
 go_loopw [5,6] (fun v ii wr=>B9 n ks w v ii wr) (fun _ ii _=>ks.length-(intOf ii).toNat)
 case atStart=>unfold B9;refine⟨0,by omega,rfl,?_,(((Sm.refl [] w).alloc _).alloc _)⟩;unfold Hd;have:=World.ownsRow_lit (base:=w.heap.size) (size:=6) (e:=67) (w.alloc (.cells (VX n).toArray 67)) (VX n).toArray 1 (by simp) (by simp[maxLen]) rfl;simpa[VX,gF] using this
 case round=>
  unfold B9 at hrel;obtain⟨j,hj,rfl,HO,HS⟩:=hrel;have cv:w.heap.size≤wr.heap.size:=HS.o.size;by_cases b9:j<ks.length
  · obtain⟨_,XT⟩:=iY HH.o;obtain⟨b,o,u,rfl,q1,q2,hc,hu⟩:=XT j b9;have Cd:=HS.o.keeps hc (by simp);have wQ:ke.rd lo hi wr u ks[j]:=ke.sm hu HS.o hh (by simp);have z1:(j:Int)<(ks.length:Int):=by omega
    have z0:(0:Int)≤(j:Int):=by omega
    have hfl:(ks.take j).flatten.length+ks[j].length≤ks.flatten.length:=by
     have e:ks.flatten=(ks.take (j+1)).flatten++(ks.drop (j+1)).flatten:=by rw[←List.flatten_append,List.take_append_drop]
     rw[e,gA b9,List.length_append,List.flatten_append,List.length_append,List.flatten_singleton];omega
    have aJ:=HO.o;have HL:Hd ((ks.take j).flatten.length+1+ks[j].length=(ks.take (j+1)).flatten.length+1):=by unfold Hd;rw[gA b9,List.flatten_append,List.flatten_singleton,List.length_append];omega
    generalize (ks.take j).flatten.length=L at aJ hfl HL;generalize hL2:ks[j].length=L2 at hfl HL;have hu1:=wQ.1;rw[hL2] at hu1;clear HH XT hc hu q1 q2 hL2;go_wp2_with (at_builtin;refine kK w.heap.size lo rfl _ _ _ rfl 67 _ 6 72 Tryz.underlying23 np rfl (by omega) u5 u _ _ _ _ rfl rfl aJ hu1 (j0 _) (by simp only[maxLen];omega) (by omega) cv ?_);intro v' w' aQ hg bV
    have DH:Hd (w'.ownsRow w.heap.size 67 6 v' ((ks.take (j+1)).flatten.length+1) (gF (n :: (ks.take (j+1)).flatten))):=by
     unfold Hd;have e1:gF (n :: (ks.take (j+1)).flatten)=gF (n :: (ks.take j).flatten)++gF ks[j]:=by rw[gA b9,List.flatten_append,List.flatten_singleton,←Aq];rfl
     rw[e1,←HL.o];exact aQ
    have ax:Hd (Sm [] w w'):=HS.o.grown hg (fun b hb=>.inl (aJ.lt b hb).1);clear aQ hg bV aJ wQ hu1 Cd hfl HO HS HL;go_wp2_with fail;go_roundw
    case rel=>(first| refine⟨_,_,?_,rfl,rfl⟩|skip);unfold B9;exact⟨j+1,by omega,by go_num,DH.o,ax.o⟩
    case measure=>simp[intOf];omega
  · have hjl:j=ks.length:=by omega
    subst hjl;have z1:¬((ks.length:Int)<(ks.length:Int)):=by omega
    rw[List.take_length] at HO;obtain⟨g,Z3i,rfl,Nt,EV⟩:=World.ownsRow.form HO.o (by omega);have c5:wr.cell? ⟨g,5,none⟩=some (.int .i64 n.size):=HO.o.cellAt 5 (by omega);have f5:=HO.o.frozenAt 5;have HM:Hd (gF (made n ks)=(gF (n :: ks.flatten)).set 5 (.int .i64 (((ks.flatten.length+1:Nat):Int)))):=by simp[Hd,made,gF,VX]
    have HN:Hd ((made n ks).length=ks.flatten.length+1):=by simp[Hd,made]
    generalize ks.flatten.length=L at *;clear b9 HH;go_wp2_with fail;go_ret;refine⟨_,rfl,Qh (n:=L+1) ?_,HS.o.setCell (.inl Nt) _⟩;rw[HM.o];have:=(HO.o.stored 5 (.int .i64 ((L+1:Nat):Int))).1;simpa using this
def Ii(k:Int)(w:World)(e:Ending)(w':World):Prop:=e=.returned (.int .i64 k)∧∃m,w'=w.drewN m
theorem Ly(c:Sx)(p:Ps)(k:Nat)(w:World)(h:fV c p w)(hk:k≤1000000):Calls Tryz.prog 23 #[.pointer (some ⟨c.sp,0,none⟩),.int .i64 (k:Int)] w (Ii (ag c.l (p.pos+k)) w):=by
 have c0:=h.c0;have c1:=h.c1;have hp:=h.pos;have hl:=h.jC.small;by_cases hi:p.pos+k<c.l.length
 · obtain⟨Cf,t0,_⟩:=h.jC.at_ _ hi;have HK:=ae (Gn hi);rw[Cf] at c0;have z1:¬((p.pos:Int)+(k:Int)≥(c.l.length:Int)):=by omega
   have z2:(p.pos:Int)+(k:Int)<(c.l.length:Int):=by omega
   have z3:(0:Int)≤(p.pos:Int)+(k:Int):=by omega
   clear h Cf;go_enter Tryz.func23,Tryz.ntmps23;go_wp2_with fail;go_quiet (fail);go_wp2_with fail;go_quiet (fail);go_wp2_with fail;go_ret;exact⟨by rw[HK.o];rfl,_,World.drewN_drewN _ _ _⟩
 · have HK:=ae (lF (by omega:c.l.length≤p.pos+k));have z1:(p.pos:Int)+(k:Int)≥(c.l.length:Int):=by omega
   clear h hi;go_enter Tryz.func23,Tryz.ntmps23;go_wp2_with fail;go_quiet (fail);go_wp2_with fail;go_ret;exact⟨by rw[HK.o];rfl,_,rfl⟩
theorem fV.drewN{c:Sx}{p:Ps}{w:World}(h:fV c p w)(n:Nat):fV c p (w.drewN n):=h.cI ((Sm.refl [] w).drewN n)
def xW(b:Bool)(w:World)(e:Ending)(w':World):Prop:=e=.returned (.bool b)∧Sm [] w w'
theorem O6(c:Sx)(p:Ps)(s:ByteArray)(w:World)(h:fV c p w):Calls Tryz.prog 32 #[.pointer (some ⟨c.sp,0,none⟩),.int .i64 0,.string s] w (xW (cR c.l 0 s p).1 w):=by
 have HK:Hd (∀n,Calls Tryz.prog 23 #[.pointer (some ⟨c.sp,0,none⟩),.int .i64 0] (w.drewN n) (Ii (ag c.l p.pos) (w.drewN n))):=fun n=>by have:=Ly c p 0 _ (h.drewN n) (by omega);simpa using this
 have c0:=h.c0;have c1:=h.c1;have hp:=h.pos;have hl:=h.jC.small;by_cases hk:ag c.l p.pos=15
 · have hi:p.pos<c.l.length:=by
    by_cases h1:p.pos<c.l.length
    · exact h1
    · rw[lF (by omega)] at hk;exact absurd hk (by decide)
   obtain⟨Cf,_,t1,_⟩:=h.jC.at_ _ hi;rw[Cf] at c0;have HV:Hd (aX c.l p.pos=c.l[p.pos].val):=Du hi;have HQ:Hd ((cR c.l 0 s p).1=decide (c.l[p.pos].val=s)):=by unfold Hd cR;simp only[Nat.add_zero];rw[←HV.o];simp[hk]
   have z2:(p.pos:Int)<(c.l.length:Int):=by omega
   have z3:(0:Int)≤(p.pos:Int):=by omega
   have z1:(ag c.l p.pos==15)=true:=by simpa using hk
   have hkk:ag c.l p.pos=15:=hk;generalize c.l[p.pos].val=x at *;clear h Cf hk;go_enter Tryz.func32,Tryz.ntmps32;go_wp2_with fail;go_quiet ((go_at_call 23;exact Calls.quiet_of (HK.o _)));go_wp2_with fail;go_ret;refine⟨?_,(Sm.refl [] w).drewN _⟩;rw[HQ.o];show Ending.returned (Value.bool (x.toList==s.toList))=_;congr 2;rw[Bool.eq_iff_iff];simp;exact⟨fun e=>Go.WideShapes.bytes_inj (by rw[←ByteArray.toList_eq,←ByteArray.toList_eq,e]),fun e=>by rw[e]⟩
 · have HQ:Hd ((cR c.l 0 s p).1=false):=by unfold Hd cR;simp[hk]
   have z1:(ag c.l p.pos==15)=false:=by simpa using hk
   clear h;go_enter Tryz.func32,Tryz.ntmps32;go_wp2_with fail;go_quiet ((go_at_call 23;exact Calls.quiet_of (HK.o _)));go_wp2_with fail;go_ret;refine⟨?_,(Sm.refl [] w).drewN _⟩;rw[HQ.o]
   rfl
def aM(c:Sx)(q:Ps)(l:List Nd)(w:World)(e:Ending)(w':World):Prop:=∃v,e=.returned v∧ke.rd w.heap.size w'.heap.size w' v l∧fV c q w'∧Sm [c.sp] w w'
theorem fV.Jw{c:Sx}{p:Ps}{w:World}(h:fV c p w)(n:Nat)(v:Int)(hv:v=(n:Int))(hn:n≤c.l.length):fV c {p with pos:=n} (w.setCell ⟨c.sp,1,none⟩ (.int .i64 v)):=
 h.put (fS sr _ _) (pT h.obj 1 _ _ (by unfold JE;simp[hv])) hn h.deep
theorem fV.D4{c:Sx}{p:Ps}{w:World}(h:fV c p w)(b:Bool):fV c {p with unsure:=b} (w.setCell ⟨c.sp,5,none⟩ (.bool b)):=
 h.put (fS sr _ _) (pT h.obj 5 _ _ (by unfold JE;simp)) h.pos h.deep
theorem Wh(c:Sx)(p:Ps)(w:World)(h:fV c p w):Calls Tryz.prog 17 #[.pointer (some ⟨c.sp,0,none⟩)] w (aM c (db p) [] w):=
 (nF c p w h).mono (by rintro e w1 ⟨rfl,h1,h2⟩;exact⟨_,rfl,yK _ _ _,h1,h2⟩)
theorem O5(c:Sx)(p:Ps)(w:World)(h:fV c p w):Calls Tryz.prog 63 #[.pointer (some ⟨c.sp,0,none⟩)] w (vX c (gp c.l p).2 (.tuple #[]) w):=by
 have HK:Hd (∀W,fV c p W→Calls Tryz.prog 23 #[.pointer (some ⟨c.sp,0,none⟩),.int .i64 0] W (jW (ag c.l p.pos) W)):=fun W hw=>by have:=j7 c p 0 W hw (by omega);simpa using this
 have c5:=h.c5;have f5:=h.free 5;have HH:=ae h;clear h
 cases hb:p.unsure with
 | true=>
  have HQ:Hd ((gp c.l p).2={p with unsure:=true}):=by unfold Hd gp;rw[hb];rfl
  rw[hb] at c5;rw[HQ.o];clear hb;go_enter Tryz.func63,Tryz.ntmps63;go_wp2_with fail;go_end0
  exact⟨rfl,HH.o.D4 _,fS sr _ _⟩
 | false=>
  have HB:=ae hb;rw[hb] at c5;by_cases h1:ag c.l p.pos=18
  · have HQ:Hd ((gp c.l p).2={p with unsure:=true}):=by unfold Hd gp;rw[hb,h1];rfl
    rw[HQ.o];have y:(ag c.l p.pos==18)=true:=by simpa using h1
    clear hb h1;go_enter Tryz.func63,Tryz.ntmps63;go_wp2_with fail;refine(HK.o _ HH.o).mono ?_;rintro e w1 ⟨rfl,cJ⟩;have wI:=ae (HH.o.cI cJ);have av:=ae cJ;have d1:=wI.o.c5;have g1:=wI.o.free 5;clear cJ;clear c5 f5;rw[HB.o] at d1;go_wp2_with fail;go_end0;exact⟨rfl,wI.o.D4 _,fS av.o.of_nil _ _⟩
  · have y:(ag c.l p.pos==18)=false:=by simpa using h1
    by_cases h2:ag c.l p.pos=19
    · have HQ:Hd ((gp c.l p).2={p with unsure:=true}):=by unfold Hd gp;rw[hb,h2];rfl
      rw[HQ.o];have y2:(ag c.l p.pos==19)=true:=by simpa using h2
      clear hb h1 h2;go_enter Tryz.func63,Tryz.ntmps63;go_wp2_with fail;refine(HK.o _ HH.o).mono ?_;rintro e w1 ⟨rfl,cJ⟩;have wI:=ae (HH.o.cI cJ);have av:=ae cJ;have d1:=wI.o.c5;have g1:=wI.o.free 5;clear cJ;clear c5 f5;rw[HB.o] at d1;go_wp2_with fail;refine(HK.o _ wI.o).mono ?_;rintro e w2 ⟨rfl,cT⟩;have I7:=ae (wI.o.cI cT);have ax:=ae cT;have d2:=I7.o.c5;have g2:=I7.o.free 5;clear cT;clear d1 g1;rw[HB.o] at d2;go_wp2_with fail;go_end0;exact⟨rfl,I7.o.D4 _,fS (av.o.trans ax.o).of_nil _ _⟩
    · have HQ:Hd ((gp c.l p).2={p with unsure:=false}):=by unfold Hd gp;rw[hb];simp[h1,h2]
      rw[HQ.o];have y2:(ag c.l p.pos==19)=false:=by simpa using h2
      clear hb h1 h2;go_enter Tryz.func63,Tryz.ntmps63;go_wp2_with fail;refine(HK.o _ HH.o).mono ?_;rintro e w1 ⟨rfl,cJ⟩;have wI:=ae (HH.o.cI cJ);have av:=ae cJ;have d1:=wI.o.c5;have g1:=wI.o.free 5;clear cJ;clear c5 f5;rw[HB.o] at d1;go_wp2_with fail;refine(HK.o _ wI.o).mono ?_;rintro e w2 ⟨rfl,cT⟩;have I7:=ae (wI.o.cI cT);have ax:=ae cT;have d2:=I7.o.c5;have g2:=I7.o.free 5;clear cT;clear d1 g1;rw[HB.o] at d2;go_wp2_with fail;go_end0;exact⟨rfl,I7.o.D4 _,fS (av.o.trans ax.o).of_nil _ _⟩
theorem F3(R:au (List Nd))(w:World):(au.list R).rd 0 0 w (.slice none 0 0) []:=⟨none,0,rfl,lr,by simp[maxLen],fun i hi=>by cases hi⟩
theorem aM.of{c:Sx}{q:Ps}{l:List Nd}{w W w':World}{v:Value}(hs:Sm [c.sp] w W)(hq:fV c q W)(hv:ke.rd W.heap.size w'.heap.size w' v l)(cT:Sm [] W w'):aM c q l w (.returned v) w':=
 ⟨v,rfl,ke.wide hv hs.size lr,hq.cI cT,hs.trans cT.of_nil⟩
theorem rY(c:Sx)(p:Ps)(w:World)(h:fV c p w)(hk:ag c.l p.pos=18∨ag c.l p.pos=19):Calls Tryz.prog 25 #[.pointer (some ⟨c.sp,0,none⟩)] w (aM c (cj c.l p).2 (cj c.l p).1 w):=by
 have HK:Hd (∀W,fV c p W→Calls Tryz.prog 23 #[.pointer (some ⟨c.sp,0,none⟩),.int .i64 0] W (jW (ag c.l p.pos) W)):=fun W hw=>by have:=j7 c p 0 W hw (by omega);simpa using this
 have HM:=ae (fun n W=>yI n [] none 0 0 0 0 W (F3 _ _) (Nat.zero_le _) (by simp) (by simp))
 have hi:p.pos<c.l.length:=by
  by_cases h1:p.pos<c.l.length
  · exact h1
  · rw[lF (by omega)] at hk;omega
 have c0:=h.c0;have c1:=h.c1;have hl:=h.jC.small;have Cf:=(h.jC.at_ _ hi).1;have t1:=(h.jC.at_ _ hi).2.2.1;rw[Cf] at c0;have HV:Hd (aX c.l p.pos=c.l[p.pos].val):=Du hi;have z2:(p.pos:Int)<(c.l.length:Int):=by omega
 have z3:(0:Int)≤(p.pos:Int):=by omega
 have tX:c.sp≠w.heap.size:=by have:=lt_of_block h.obj;omega
 have Z0r:w.heap.size≠c.sp:=fun e=>tX e.symm;have HH:=ae h;have HI:=ae hi;have Ic:=ae hk;generalize c.l[p.pos].val=x at *;clear h Cf hk hi;have HX:Hd (∀W o,W.heap.size=w.heap.size→(World.alloc W o).heap[w.heap.size]?=some o):=fun W o e=>SL e;go_enter Tryz.func25,Tryz.ntmps25;go_wp2_with fail;go_region_held3 (fun W=>W.cell? ⟨c.sp,0,none⟩=some (.slice (some ⟨c.tb,c.o,none⟩) c.l.length c.cap)∧W.cell? ⟨c.sp,1,none⟩=some (.int .i64 (p.pos:Int))∧W.cell? ⟨c.tb,c.o+p.pos*4+1,none⟩=some (.string x)) (go_keep) (fail)
 all_goals
  go_wp2_with fail;refine(HK.o _ (HH.o.cI (by(repeat(first| exact sr|refine Sm.alloc ?_ _|refine Sm.drew ?_|refine Sm.drewN ?_ _))))).mono ?_;rintro e w1 ⟨rfl,cJ⟩;have hx:=cJ.obj (HX.o _ _ rfl) (by simp);have e0:=cell_of hx (i:=0) rfl;have e1:=cell_of hx (i:=1) rfl;have e2:=cell_of hx (i:=2) rfl;have e3:=cell_of hx (i:=3) rfl;have e4:=cell_of hx (i:=4) rfl;have e5:=cell_of hx (i:=5) rfl;have f4:=aF hx 4;have av:Hd (Sm [] w w1):=(show Sm [] w _ from(by(repeat(first| exact sr|refine Sm.alloc ?_ _|refine Sm.drew ?_|refine Sm.drewN ?_ _)))).trans cJ;have wI:=ae (HH.o.cI av.o);have d1:=wI.o.c1;have g1:=wI.o.free 1;clear cJ hx c0 c1 t1;by_cases mn:ag c.l p.pos=19
  · have y:(ag c.l p.pos==19)=true:=by simpa using mn
    have HQ:Hd (cj c.l p=(made {kind:=23,text:=x,flag:=1} [],{p with pos:=p.pos+1})):=by unfold Hd cj;rw[HV.o];simp[mn]
    clear mn;go_wp2_with fail;refine(HM.o {kind:=23,text:=x,flag:=1} _).mono ?_;rintro e w2 ⟨v,rfl,(HR:Hd _),(ax:Hd _)⟩;clear e0 e1 e2 e3 e4 e5 d1 g1 f4;go_wp2_with fail;go_returns;rw[HQ.o];have om:=fS (c:=c) (av.o.setCell (p:=⟨w.heap.size,4,none⟩) (.inl lr) (.int .i64 1)).of_nil 1 (.int .i64 ((p.pos:Int)+1));exact⟨v,rfl,ke.wide HR.o om.size lr,(fV.Jw (HH.o.cI (av.o.setCell (p:=⟨w.heap.size,4,none⟩) (.inl lr) _)) (p.pos+1) _ (by simp) HI.o).cI ax.o,om.trans ax.o.of_nil⟩
  · have y:(ag c.l p.pos==19)=false:=by simpa using mn
    have HQ:Hd (cj c.l p=(made {kind:=23,text:=x,flag:=0} [],{p with pos:=p.pos+1})):=by unfold Hd cj;rw[HV.o];simp[mn]
    clear mn;go_wp2_with fail;refine(HM.o {kind:=23,text:=x,flag:=0} _).mono ?_;rintro e w2 ⟨v,rfl,(HR:Hd _),(ax:Hd _)⟩;clear e0 e1 e2 e3 e4 e5 d1 g1 f4;go_wp2_with fail;go_returns;rw[HQ.o];have om:=fS (c:=c) (av.o).of_nil 1 (.int .i64 ((p.pos:Int)+1));exact⟨v,rfl,ke.wide HR.o om.size lr,(fV.Jw (HH.o.cI (av.o)) (p.pos+1) _ (by simp) HI.o).cI ax.o,om.trans ax.o.of_nil⟩
theorem D3(c:Sx)(p:Ps)(w:World)(h:fV c p w):Calls Tryz.prog 67 #[.pointer (some ⟨c.sp,0,none⟩)] w (aM c (bB c.l p).2 (bB c.l p).1 w):=by
 have HK:Hd (∀W,fV c p W→Calls Tryz.prog 23 #[.pointer (some ⟨c.sp,0,none⟩),.int .i64 0] W (jW (ag c.l p.pos) W)):=fun W hw=>by have:=j7 c p 0 W hw (by omega);simpa using this
 have HD:=ae (fun W hW hk=>rY c p W hW hk);have HH:=ae h;clear h;by_cases mf:ag c.l p.pos=18
 · have HQ:Hd (bB c.l p=cj c.l p):=by unfold Hd bB;rw[if_neg (by simp[mf])]
   have HE:=ae mf;rw[HQ.o];have y:(ag c.l p.pos !=18)=false:=by simpa using mf
   clear mf;go_enter Tryz.func67,Tryz.ntmps67;go_wp2_with fail;refine(HK.o _ HH.o).mono ?_;rintro e w1 ⟨rfl,(av:Hd _)⟩;go_wp2_with fail;refine(HD.o _ (HH.o.cI av.o) (.inl HE.o)).mono ?_;rintro e w2 ⟨v,rfl,(HR:Hd _),(HA:Hd _),(ax:Hd _)⟩;go_wp2_with fail;go_returns;exact⟨v,rfl,ke.wide HR.o av.o.size lr,HA.o,av.o.of_nil.trans ax.o⟩
 · have y:(ag c.l p.pos !=18)=true:=by simpa using mf
   by_cases mn:ag c.l p.pos=19
   · have HQ:Hd (bB c.l p=cj c.l p):=by unfold Hd bB;rw[if_neg (by simp[mn])]
     have HE:=ae mn;rw[HQ.o];have y2:(ag c.l p.pos !=19)=false:=by simpa using mn
     clear mf mn;go_enter Tryz.func67,Tryz.ntmps67;go_wp2_with fail;refine(HK.o _ HH.o).mono ?_;rintro e w1 ⟨rfl,(av:Hd _)⟩;go_wp2_with fail;refine(HD.o _ (HH.o.cI av.o) (.inr HE.o)).mono ?_;rintro e w2 ⟨v,rfl,(HR:Hd _),(HA:Hd _),(ax:Hd _)⟩;go_wp2_with fail;go_returns;exact⟨v,rfl,ke.wide HR.o av.o.size lr,HA.o,av.o.of_nil.trans ax.o⟩
   · have HQ:Hd (bB c.l p=([],p)):=by unfold Hd bB;rw[if_pos ⟨mf,mn⟩]
     rw[HQ.o];have y2:(ag c.l p.pos !=19)=true:=by simpa using mn
     clear mf mn;go_enter Tryz.func67,Tryz.ntmps67;go_wp2_with fail;refine(HK.o _ HH.o).mono ?_;rintro e w1 ⟨rfl,(av:Hd _)⟩;go_wp2_with fail;go_returns;exact⟨_,rfl,yK _ _ _,HH.o.cI av.o,av.o.of_nil⟩
theorem O1(c:Sx)(p:Ps)(b en:Int)(w:World)(h:fV c p w)(gP:b≠1):Calls Tryz.prog 66 #[.pointer (some ⟨c.sp,0,none⟩),.int .i64 b,.int .i64 en] w (vX c (fR c.l b en p).2 (.bool (fR c.l b en p).1) w):=by
 have HK:Hd (∀W,fV c p W→Calls Tryz.prog 23 #[.pointer (some ⟨c.sp,0,none⟩),.int .i64 0] W (jW (ag c.l p.pos) W)):=fun W hw=>by have:=j7 c p 0 W hw (by omega);simpa using this
 have HK1:Hd (∀W,fV c p W→Calls Tryz.prog 23 #[.pointer (some ⟨c.sp,0,none⟩),.int .i64 1] W (jW (ag c.l (p.pos+1)) W)):=fun W hw=>by have:=j7 c p 1 W hw (by omega);simpa using this
 have HF:=ae (nF c);have c4:=h.c4;have HH:=ae h;clear h
 cases hb:p.bad with
 | true=>
  have HQ:Hd (fR c.l b en p=(false,p)):=by unfold Hd fR;rw[if_pos hb]
  rw[HQ.o];rw[hb] at c4;clear hb;go_enter Tryz.func66,Tryz.ntmps66;go_wp2_with fail;go_ret
  exact⟨rfl,HH.o,sr⟩
 | false=>
  have HB:Hd (fR c.l b en p=if ag c.l p.pos≠b∨ag c.l (p.pos+1)=en then(false,db {p with unsure:=true}) else(true,{p with pos:=p.pos+1})):=by unfold Hd fR;rw[if_neg (by rw[hb];decide)]
  rw[hb] at c4;clear hb;by_cases h1:ag c.l p.pos=b
  · have y:(ag c.l p.pos !=b)=false:=by simpa using h1
    have hi:p.pos<c.l.length:=by
     by_cases h2:p.pos<c.l.length
     · exact h2
     · rw[lF (by omega)] at h1;exact absurd h1.symm gP
    have HI:=ae hi;clear hi;by_cases h2:ag c.l (p.pos+1)=en
    · have HQ:Hd (fR c.l b en p=(false,db {p with unsure:=true})):=by unfold Hd;rw[HB.o,if_pos (.inr h2)]
      rw[HQ.o];have y2:(ag c.l (p.pos+1)==en)=true:=by simpa using h2
      clear h1 h2 HB;go_enter Tryz.func66,Tryz.ntmps66;go_wp2_with fail;refine(HK.o _ HH.o).mono ?_;rintro e w1 ⟨rfl,cJ⟩;have wI:=ae (HH.o.cI cJ);have av:=ae cJ;clear cJ c4;go_wp2_with fail;refine(HK1.o _ wI.o).mono ?_;rintro e w2 ⟨rfl,cT⟩;have I7:=ae (wI.o.cI cT);have ax:=ae cT;have d5:=I7.o.c5;have g5:=I7.o.free 5;clear cT;go_wp2_with fail;refine(HF.o _ _ (I7.o.D4 _)).mono ?_;rintro e w3 ⟨rfl,(Zr:Hd _),(aO:Hd _)⟩;go_wp2_with fail;go_ret;exact⟨rfl,Zr.o,(fS (av.o.trans ax.o).of_nil _ _).trans aO.o⟩
    · have HQ:Hd (fR c.l b en p=(true,{p with pos:=p.pos+1})):=by unfold Hd;rw[HB.o,if_neg (by rintro(e|e);exact e h1;exact h2 e)]
      rw[HQ.o];have y2:(ag c.l (p.pos+1)==en)=false:=by simpa using h2
      clear h1 h2 HB;have hp:=HI.o;have hl:=HH.o.jC.small;go_enter Tryz.func66,Tryz.ntmps66;go_wp2_with fail;refine(HK.o _ HH.o).mono ?_;rintro e w1 ⟨rfl,cJ⟩;have wI:=ae (HH.o.cI cJ);have av:=ae cJ;clear cJ c4;go_wp2_with fail;refine(HK1.o _ wI.o).mono ?_;rintro e w2 ⟨rfl,cT⟩;have I7:=ae (wI.o.cI cT);have ax:=ae cT;have d1:=I7.o.c1;have g1:=I7.o.free 1;clear cT;go_wp2_with fail;go_ret;exact⟨rfl,I7.o.Jw (p.pos+1) _ (by simp) HI.o,fS (av.o.trans ax.o).of_nil _ _⟩
  · have y:(ag c.l p.pos !=b)=true:=by simpa using h1
    have HQ:Hd (fR c.l b en p=(false,db {p with unsure:=true})):=by unfold Hd;rw[HB.o,if_pos (.inl h1)]
    rw[HQ.o];clear h1 HB;go_enter Tryz.func66,Tryz.ntmps66;go_wp2_with fail;refine(HK.o _ HH.o).mono ?_;rintro e w1 ⟨rfl,cJ⟩;have wI:=ae (HH.o.cI cJ);have av:=ae cJ;have d5:=wI.o.c5;have g5:=wI.o.free 5;clear cJ c4;go_wp2_with fail;refine(HF.o _ _ (wI.o.D4 _)).mono ?_;rintro e w3 ⟨rfl,(Zr:Hd _),(aO:Hd _)⟩;go_wp2_with fail;go_ret;exact⟨rfl,Zr.o,(fS av.o.of_nil _ _).trans aO.o⟩
def Fu(c:Sx)(p:Ps)(w:World)(ii:Value)(wr:World):Prop:=
 ∃(j m:Nat),ii=.int .i64 (j:Int)∧p.pos+j≤c.l.length∧j+m=c.l.length+2∧Hd (oi c.l (many c.l) p.pos=oi c.l m (p.pos+j))∧Hd (Sm [] w wr)
theorem Iu{l:List Tok}{m i:Nat}(h:ag l i=1∨ag l i=5):oi l (m+1) i=false:=by rw[oi,if_pos h]
theorem P7{l:List Tok}{m i:Nat}(h:¬(ag l i=1∨ag l i=5))(h3:ag l i=3):oi l (m+1) i=true:=by rw[oi,if_neg h,if_pos h3]
theorem RP{l:List Tok}{m i:Nat}(h:¬(ag l i=1∨ag l i=5))(h3:ag l i≠3):oi l (m+1) i=oi l m (i+1):=by rw[oi,if_neg h,if_neg h3]
theorem O0(c:Sx)(p:Ps)(w:World)(h:fV c p w):Calls Tryz.prog 64 #[.pointer (some ⟨c.sp,0,none⟩)] w (xW (nf c.l p).1 w):=by
 have HK:Hd (∀(W:World) (j:Nat),j≤1000000→fV c p W→Calls Tryz.prog 23 #[.pointer (some ⟨c.sp,0,none⟩),.int .i64 (j:Nat)] W (jW (ag c.l (p.pos+j)) W)):=fun W j hj hw=>j7 c p j W hw hj;have HK0:Hd (∀W,fV c p W→Calls Tryz.prog 23 #[.pointer (some ⟨c.sp,0,none⟩),.int .i64 0] W (jW (ag c.l p.pos) W)):=fun W hw=>by have:=j7 c p 0 W hw (by omega);simpa using this
 have HH:=ae h;have hl:=h.jC.small;have hp:=h.pos;clear h;by_cases h4:ag c.l p.pos=4
 · have HQ:Hd ((nf c.l p).1=oi c.l (many c.l) p.pos):=by unfold Hd nf;simp[h4]
   have y:(ag c.l p.pos !=4)=false:=by simpa using h4
   rw[HQ.o];clear h4;go_enter Tryz.func64,Tryz.ntmps64;go_wp2_with fail;refine(HK0.o _ HH.o).mono ?_;rintro e w1 ⟨rfl,(av:Hd _)⟩;go_wp2_with fail
   go_loopw [3] (fun ii wr=>Fu c p w ii wr) (fun ii _=>c.l.length+1-(p.pos+(intOf ii).toNat))
   case atStart=>unfold Fu;exact⟨0,c.l.length+2,rfl,by omega,by omega,rfl,av.o⟩
   case round=>
    unfold Fu at hrel;obtain⟨j,m,rfl,hj,hm,HE,HS⟩:=hrel;obtain⟨m,rfl⟩:∃k,m=k+1:=⟨m-1,by omega⟩;clear y;have IW:j≤1000000:=by omega
    by_cases k1:ag c.l (p.pos+j)=1
    · have y1:(ag c.l (p.pos+j) !=1)=false:=by simpa using k1
      have HF:=ae (HE.o.trans (Iu (.inl k1)));clear k1;go_wp2_with fail;refine(HK.o _ j IW (HH.o.cI HS.o)).mono ?_;rintro e w2 ⟨rfl,cT⟩;have ax:=ae (HS.o.trans cT);clear cT;go_wp2_with fail;go_returns;exact⟨by rw[HF.o];rfl,ax.o⟩
    · have y1:(ag c.l (p.pos+j) !=1)=true:=by simpa using k1
      have b9:p.pos+j<c.l.length:=by
       by_cases h2:p.pos+j<c.l.length
       · exact h2
       · exact absurd (lF (by omega)) k1
      by_cases k5:ag c.l (p.pos+j)=5
      · have y5:(ag c.l (p.pos+j) !=5)=false:=by simpa using k5
        have HF:=ae (HE.o.trans (Iu (.inr k5)));clear k1 k5;go_wp2_with fail;refine(HK.o _ j IW (HH.o.cI HS.o)).mono ?_;rintro e w2 ⟨rfl,cT⟩;have ax:=ae (HS.o.trans cT);clear cT;go_wp2_with fail;refine(HK.o _ j IW (HH.o.cI ax.o)).mono ?_;rintro e w3 ⟨rfl,s9⟩;have aO:=ae (ax.o.trans s9);clear s9;go_wp2_with fail;go_returns;exact⟨by rw[HF.o];rfl,aO.o⟩
      · have y5:(ag c.l (p.pos+j) !=5)=true:=by simpa using k5
        by_cases k3:ag c.l (p.pos+j)=3
        · have y3:(ag c.l (p.pos+j)==3)=true:=by simpa using k3
          have HF:=ae (HE.o.trans (P7 (fun e=>e.elim k1 k5) k3));clear k1 k5 k3;go_wp2_with fail;refine(HK.o _ j IW (HH.o.cI HS.o)).mono ?_;rintro e w2 ⟨rfl,cT⟩;have ax:=ae (HS.o.trans cT);clear cT;go_wp2_with fail;refine(HK.o _ j IW (HH.o.cI ax.o)).mono ?_;rintro e w3 ⟨rfl,s9⟩;have aO:=ae (ax.o.trans s9);clear s9;go_wp2_with fail;refine(HK.o _ j IW (HH.o.cI aO.o)).mono ?_;rintro e w4 ⟨rfl,vZ⟩;have cy:=ae (aO.o.trans vZ);clear vZ;go_wp2_with fail;go_returns;exact⟨by rw[HF.o];rfl,cy.o⟩
        · have y3:(ag c.l (p.pos+j)==3)=false:=by simpa using k3
          have HF:=ae (HE.o.trans (RP (fun e=>e.elim k1 k5) k3));clear k1 k5 k3;go_wp2_with fail;refine(HK.o _ j IW (HH.o.cI HS.o)).mono ?_;rintro e w2 ⟨rfl,cT⟩;have ax:=ae (HS.o.trans cT);clear cT;go_wp2_with fail;refine(HK.o _ j IW (HH.o.cI ax.o)).mono ?_;rintro e w3 ⟨rfl,s9⟩;have aO:=ae (ax.o.trans s9);clear s9;go_wp2_with fail;refine(HK.o _ j IW (HH.o.cI aO.o)).mono ?_;rintro e w4 ⟨rfl,vZ⟩;have cy:=ae (aO.o.trans vZ);clear vZ;go_wp2_with fail;go_roundw
          case rel=>(first| refine⟨_,?_,rfl,rfl⟩|refine⟨_,_,?_,rfl,rfl⟩|skip);unfold Fu;exact⟨j+1,m,by go_num,by omega,by omega,HF.o,cy.o⟩
          case measure=>simp[intOf];omega
 · have HQ:Hd ((nf c.l p).1=false):=by unfold Hd nf;simp[h4]
   have y:(ag c.l p.pos !=4)=true:=by simpa using h4
   rw[HQ.o];clear h4;go_enter Tryz.func64,Tryz.ntmps64;go_wp2_with fail;refine(HK0.o _ HH.o).mono ?_;rintro e w1 ⟨rfl,(av:Hd _)⟩;go_wp2_with fail;go_returns;exact⟨rfl,av.o⟩
def FF(c:Sx)(q:Ps)(s:ByteArray)(b:Nat)(w:World)(ii:Value)(wr:World):Prop:=
 ∃(j:Nat),ii=.int .i64 (j:Int)∧j≤19∧Hd (∀k,k<j→places.getD k ByteArray.empty≠s)∧Hd (∀k,k<19→wr.cell? ⟨b,k,none⟩=some (.string (places.getD k ByteArray.empty)))∧Hd (fV c q wr)∧Hd (Sm [c.sp] w wr)
theorem CQ:places.length=19:=rfl
theorem UK{s:ByteArray}(h:∀k,k<19→places.getD k ByteArray.empty≠s):(places.any fun x=>decide (x=s))=false:=by rw[List.any_eq_false];intro x hx;obtain⟨k,hk,rfl⟩:=List.getElem_of_mem hx;have:=h k (by rw[CQ] at hk;exact hk);rw[List.getD_eq_getElem?_getD,List.getElem?_eq_getElem hk] at this;simpa using this
theorem RN{s:ByteArray}{k:Nat}(hk:k<19)(h:places.getD k ByteArray.empty=s):(places.any fun x=>decide (x=s))=true:=by
 rw[List.any_eq_true];have hk':k<places.length:=by rw[CQ];exact hk
 refine⟨places[k],List.getElem_mem hk',?_⟩;rw[List.getD_eq_getElem?_getD,List.getElem?_eq_getElem hk'] at h;simpa using h
def Q9(s:ByteArray)(q:Ps):Ps:={q with unsure:=q.unsure||!places.any fun x=>decide (x=s)}
theorem H7(l:List Tok)(p:Ps):dU l p=(made {kind:=38,name:=(aw l p).1} [],Q9 (aw l p).1 (aw l p).2):=rfl
theorem Qa{s:ByteArray}{q:Ps}(h:(places.any fun x=>decide (x=s))=true):Q9 s q=q:=by unfold Q9;rw[h];simp
theorem Ss{s:ByteArray}{q:Ps}(h:(places.any fun x=>decide (x=s))=false):Q9 s q={q with unsure:=true}:=by unfold Q9;rw[h];simp
theorem Ev(c:Sx)(p:Ps)(w:World)(h:fV c p w):Calls Tryz.prog 70 #[.pointer (some ⟨c.sp,0,none⟩)] w (vX c (dU c.l p).2 (.string (aw c.l p).1) w):=by
 have HN:=ae (zZ c p w h);rw[H7];generalize aw c.l p=nm at *;obtain⟨s,q⟩:=nm;clear h;go_enter Tryz.func70,Tryz.ntmps70;go_wp2_with fail;refine HN.o.mono ?_;rintro e w1 ⟨rfl,ha1,(av:Hd _)⟩;have wI:=ae ha1;clear ha1;go_wp2_with fail
 go_loopw [5] (fun ii wr=>FF c q s w1.heap.size w ii wr) (fun ii _=>19-(intOf ii).toNat)
 case atStart=>
  unfold FF;refine⟨0,rfl,by omega,fun k hk=>by omega,fun k hk=>?_,wI.o.cI ((Sm.refl [] w1).alloc _),av.o.trans ((Sm.refl [] w1).alloc _).of_nil⟩;refine cell_of (ai w1 _) ?_;have Z0j:k=0∨k=1∨k=2∨k=3∨k=4∨k=5∨k=6∨k=7∨k=8∨k=9∨k=10∨k=11∨k=12∨k=13∨k=14∨k=15∨k=16∨k=17∨k=18:=by omega
  rcases Z0j with rfl|rfl|rfl|rfl|rfl|rfl|rfl|rfl|rfl|rfl|rfl|rfl|rfl|rfl|rfl|rfl|rfl|rfl|rfl<;>rfl
 case round=>
  unfold FF at hrel;obtain⟨j,rfl,hj,oB,HC,HA,HS⟩:=hrel;by_cases b9:j<19
  · have hc:=HC.o j b9;have z1:(j:Int)<19:=by omega
    have z0:(0:Int)≤(j:Int):=by omega
    obtain⟨x,hx⟩:∃x,places.getD j ByteArray.empty=x:=⟨_,rfl⟩;rw[hx] at hc;by_cases X0:x=s
    · have HF:=ae (Qa (q:=q) (RN b9 (hx.trans X0)));have y:(x.toList==s.toList)=true:=by rw[X0];simp
      clear hx X0;go_wp2_with fail;go_returns;rw[HF.o];exact⟨rfl,HA.o,HS.o⟩
    · have Kj:Hd (∀k,k<j+1→places.getD k ByteArray.empty≠s):=fun k hk=>by
       by_cases e:k=j
       · subst e;rw[hx];exact X0
       · exact oB.o k (by omega)
      have y:(x.toList==s.toList)=false:=by rw[beq_eq_false_iff_ne];exact fun e=>X0 (Go.WideShapes.bytes_inj (by rw[←ByteArray.toList_eq,←ByteArray.toList_eq,e]))
      clear hx X0;go_wp2_with fail;go_roundw
      case rel=>(first| refine⟨_,?_,rfl,rfl⟩|refine⟨_,_,?_,rfl,rfl⟩|skip);unfold FF;exact⟨j+1,by go_num,by omega,Kj.o,HC.o,HA.o,HS.o⟩
      case measure=>simp[intOf];omega
  · have Z0f:j=19:=by omega
    subst Z0f;have z1:¬((19:Int)<19):=by omega
    have HF:=ae (Ss (q:=q) (UK oB.o));have c5:=HA.o.c5;have f5:=HA.o.free 5;go_wp2_with fail;go_returns;rw[HF.o];exact⟨rfl,HA.o.D4 _,fS HS.o _ _⟩
theorem E7{R:au (List Nd)}{w:World}{b lo hi:Nat}{vs:Array Value}{t:TypeId}{xs:List (List Nd)}(ho:w.heap[b]?=some (.cells vs t (0,0)))(hl:lo≤b)(hh:b<hi)(hm:xs.length≤1000)
 (h:∀i (rC:i<xs.length),∃u,vs[i]?=some u∧R.rd lo hi w u xs[i]):(au.list R).rd lo hi w (.slice (some ⟨b,0,none⟩) xs.length xs.length) xs:=by
 refine⟨_,_,rfl,lr,by simp only[maxLen];omega,fun i rC=>?_⟩;obtain⟨u,hu,hr⟩:=h i rC;exact⟨b,0,u,rfl,hl,hh,by rw[Nat.zero_add];exact cell_of ho hu,hr⟩
inductive vR(R:au (List Nd))(lo hi:Nat)(w:World):List Value→List (List Nd)→Prop
 | nil:vR R lo hi w [] []
 | cons {v:Value} {x:List Nd} {vs:List Value} {xs:List (List Nd)}:R.rd lo hi w v x→vR R lo hi w vs xs→vR R lo hi w (v :: vs) (x :: xs)
theorem vR.get{R:au (List Nd)}{lo hi:Nat}{w:World}{vs:List Value}{xs:List (List Nd)}(h:vR R lo hi w vs xs):∀i (rC:i<xs.length),∃u,vs[i]?=some u∧R.rd lo hi w u xs[i]:=by
 induction h with
 | nil=>intro i rC;cases rC
 | @cons v x vs xs hr _ ih=>
  intro i rC
  cases i with
  | zero=>exact⟨v,rfl,hr⟩
  | succ i=>obtain⟨u,h1,h2⟩:=ih i (by simpa using rC);exact⟨u,by simpa using h1,by simpa using h2⟩
theorem vR.len{R:au (List Nd)}{lo hi:Nat}{w:World}{vs:List Value}{xs:List (List Nd)}(h:vR R lo hi w vs xs):vs.length=xs.length:=by
 induction h with
 | nil=>rfl
 | cons _ _ ih=>simp[ih]
theorem vR.keep{R:au (List Nd)}{lo hi:Nat}{w w':World}{vs:List Value}{xs:List (List Nd)}(h:vR R lo hi w vs xs)(hs:mz lo hi w w'):vR R lo hi w' vs xs:=by
 induction h with
 | nil=>exact .nil
 | cons h1 _ ih=>exact .cons (R.keep h1 hs) ih
theorem vR.wide{R:au (List Nd)}{lo hi Bk rC:Nat}{w:World}{vs:List Value}{xs:List (List Nd)}(h:vR R lo hi w vs xs)(h1:Bk≤lo)(h2:hi≤rC):vR R Bk rC w vs xs:=by
 induction h with
 | nil=>exact .nil
 | cons a _ ih=>exact .cons (R.wide a h1 h2) ih
theorem NL(n:Nd)(xs:List (List Nd))(vs:Array Value)(t:TypeId)(w:World)(h:vR ke 0 w.heap.size w vs.toList xs)(hb:xs.flatten.length≤1000000000)(hk:xs.length≤1000) :
 Calls Tryz.prog 18 #[.agg #[.int .i64 n.kind,.string n.name,.string n.alias,.string n.text,.int .i64 n.flag,.int .i64 n.size],.slice (some ⟨w.heap.size,0,none⟩) xs.length xs.length] (w.alloc (.cells vs t (0,0))) (ve (made n xs) (w.alloc (.cells vs t (0,0)))):=by
 have hs:mz 0 w.heap.size w (w.alloc (.cells vs t (0,0))):=mz.Qi ((Sm.refl [] w).alloc _) lr (by simp);have h1:=(h.keep hs).wide lr (Nat.le_succ w.heap.size);refine yI n xs _ _ _ 0 (w.heap.size+1) _ (E7 (ai w _) (Nat.zero_le _) (Nat.lt_succ_self _) hk (fun i rC=>?_)) (by simp) hb (by omega);obtain⟨u,hu,hr⟩:=h1.get i rC;exact⟨u,by simpa using hu,hr⟩
end Go.Proofs.YtnpjmhodfdgloaaGreatDoor
