/- Part of the proof. -/
import Derived.Test.YtnpjmhodfdgloaaGreatDoorQ15
import Derived.Test.YtnpjmhodfdgloaaGreatDoorQ18
set_option linter.unusedVariables false
set_option linter.unusedSimpArgs false
namespace Go.Proofs.YtnpjmhodfdgloaaGreatDoor
set_option maxRecDepth 100000
set_option maxHeartbeats 32000000
open Go.RowKit
attribute [local go_sem ↓] Go.wp_at_zero Go.wp_at_succ
structure Cx where
 s:ByteArray
 sb:Nat
 bb:Nat
 cap:Nat
 pb:Nat
 vb:Nat
 bx:Nat
def Yg(c:Cx):Value:=.func (.func 71) #[] #[.pointer (some ⟨c.vb,0,none⟩),.pointer (some ⟨c.bx,0,none⟩)]
structure Ctx(c:Cx)(w:World):Prop where
 src:kj w c.sb c.bb c.cap c.s
 box:w.cell? ⟨c.bx,0,none⟩=some (.pointer (some ⟨c.sb,0,none⟩))
 Wv:qW w
 ne:c.sb∉[c.pb,c.vb]∧c.bb∉[c.pb,c.vb]∧c.bx∉[c.pb,c.vb]∧c.pb≠c.vb∧2≤c.pb∧2≤c.vb
theorem Ctx.sm{c:Cx}{w w':World}(h:Ctx c w)(hs:Sm [c.pb,c.vb] w w'):Ctx c w':=
 ⟨h.src.sm hs h.ne.1 h.ne.2.1,hs.keeps h.box h.ne.2.2.1,h.Wv.sm hs (fun k hk=>by have:=h.ne;simp at hk;omega),h.ne⟩
theorem Ctx.cI{c:Cx}{w w':World}(h:Ctx c w)(hs:Sm [] w w'):Ctx c w':=h.sm hs.of_nil
def Lf(c:Cx)(pe:Int)(t:Tok):Array Value:=#[Yg c,.pointer (some ⟨c.sb,0,none⟩),.bool false,.bool false,.int .i64 pe,.int .i64 t.kind,.int .i64 (t.start:Int),.int .i64 (t.stop:Int),.string t.val]
structure gb(c:Cx)(t:Tok)(w:World):Prop where
 ctx:Ctx c w
 obj:∃pe:Int,w.heap[c.pb]?=some (.cells (Lf c pe t) 94 (0,0))
 prev:∃pv:Nat,w.heap[c.vb]?=some (.cells #[.int .i64 (pv:Int)] 3 (0,0))∧pv≤c.s.size
 tok:uh c.s t
theorem gb.cI{c:Cx}{t:Tok}{w w':World}(h:gb c t w)(hs:Sm [] w w'):gb c t w':=
 ⟨h.ctx.cI hs,h.obj.elim fun pe ho=>⟨pe,hs.obj ho (by simp)⟩,h.prev.elim fun pv ho=>⟨pv,hs.obj ho.1 (by simp),ho.2⟩,h.tok⟩
section
variable{c:Cx}{t:Tok}{w:World}
theorem gb.c0(h:gb c t w):w.cell? ⟨c.pb,0,none⟩=some (Yg c):=h.obj.elim fun _ ho=>cell_of ho rfl
theorem gb.c1(h:gb c t w):w.cell? ⟨c.pb,1,none⟩=some (.pointer (some ⟨c.sb,0,none⟩)):=h.obj.elim fun _ ho=>cell_of ho rfl
theorem gb.c2(h:gb c t w):w.cell? ⟨c.pb,2,none⟩=some (.bool false):=h.obj.elim fun _ ho=>cell_of ho rfl
theorem gb.c3(h:gb c t w):w.cell? ⟨c.pb,3,none⟩=some (.bool false):=h.obj.elim fun _ ho=>cell_of ho rfl
theorem gb.c4(h:gb c t w):∃pe:Int,w.cell? ⟨c.pb,4,none⟩=some (.int .i64 pe):=h.obj.elim fun pe ho=>⟨pe,cell_of ho rfl⟩
theorem gb.c5(h:gb c t w):w.cell? ⟨c.pb,5,none⟩=some (.int .i64 t.kind):=h.obj.elim fun _ ho=>cell_of ho rfl
theorem gb.c6(h:gb c t w):w.cell? ⟨c.pb,6,none⟩=some (.int .i64 (t.start:Int)):=h.obj.elim fun _ ho=>cell_of ho rfl
theorem gb.c7(h:gb c t w):w.cell? ⟨c.pb,7,none⟩=some (.int .i64 (t.stop:Int)):=h.obj.elim fun _ ho=>cell_of ho rfl
theorem gb.c8(h:gb c t w):w.cell? ⟨c.pb,8,none⟩=some (.string t.val):=h.obj.elim fun _ ho=>cell_of ho rfl
theorem gb.free(h:gb c t w)(i:Nat):w.frozen? ⟨c.pb,i,none⟩=false:=h.obj.elim fun _ ho=>aF ho i
theorem gb.lt(h:gb c t w):c.pb<w.heap.size:=h.obj.elim fun _ ho=>lt_of_block ho
theorem gb.wh(h:gb c t w):c.vb<w.heap.size:=h.prev.elim fun _ ho=>lt_of_block ho.1
end
def Ko(s:ByteArray)(p pl:Nat):Prop:=pl≤s.size∧(p≤s.size→pl=p)∧(s.size<p→xV s→¬mid s pl)
def rj(c:Cx)(p:Nat)(w w':World)(u:Value):Prop:=∃pl,(lh c.s).rd w.heap.size w'.heap.size w' u pl∧Ko c.s p pl
def wN{α:Type}(c:Cx)(R:au α)(r:PR α)(w:World)(e:Ending)(w':World):Prop:=Sm [c.pb,c.vb] w w'∧match r with
 | .ok x t=>∃v,e=.returned (.tuple #[v,.nilIface])∧R.rd w.heap.size w'.heap.size w' v x∧gb c t w'
 | .err p=>∃v u,e=.returned (.tuple #[v,.iface 51 u])∧rj c p w w' u
 | .eo=>True
theorem wN.cases{α:Type}{c:Cx}{R:au α}{r:PR α}{w w':World}{e:Ending}(h:wN c R r w e w')(hr:r≠.eo) :
 (∃x t v,r=.ok x t∧e=.returned (.tuple #[v,.nilIface])∧Hd (R.rd w.heap.size w'.heap.size w' v x)∧Hd (gb c t w')∧Hd (Sm [c.pb,c.vb] w w')) ∨
 (∃p v u,r=.err p∧e=.returned (.tuple #[v,.iface 51 u])∧Hd (rj c p w w' u)∧Hd (Sm [c.pb,c.vb] w w')):=by
 obtain⟨h1,h2⟩:=h
 cases r with
 | ok x t=>obtain⟨v,h3,h4,h5⟩:=h2;exact .inl ⟨x,t,v,rfl,h3,h4,h5,h1⟩
 | err p=>obtain⟨v,u,h3,h4⟩:=h2;exact .inr ⟨p,v,u,rfl,h3,h4,h1⟩
 | eo=>exact absurd rfl hr
section
variable{α β:Type}{c:Cx}{x:PM α}{f:α→PM β}{t t1:Tok}{a:α}{r:PR β}{p:Nat}
theorem bK(h:Hd ((x>>=f) t=r))(hx:x t=.ok a t1):Hd (f a t1=r):=by have h:=h.out;rw[aj,hx] at h;exact h
theorem bc(h:Hd ((x>>=f) t=r))(hx:x t=.err p):r=.err p:=by have h:=h.out;rw[aj,hx] at h;exact h.symm
theorem aH(h:Hd ((x>>=f) t=r))(hr:Hd (r≠.eo)):x t≠.eo:=by intro e;have h:=h.out;rw[aj,e] at h;exact hr.out h.symm
end
section
variable{α β γ:Type}
theorem dd{f:Tok→PM α}{t:Tok}:(eU>>=f) t=f t t:=rfl
theorem bJ{a:α}{f:α→PM β}:((pure a:PM α)>>=f)=f a:=rfl
theorem cD{x:PM α}{g:α→PM β}{f:β→PM γ}:((x>>=g)>>=f)=(x>>=fun a=>g a>>=f):=by
 funext t
 rw[aj,aj,aj]
 cases x t<;>rfl
end
section
variable{α:Type}{c:Cx}{R:au α}{w w1 w':World}{p:Nat}{v u:Value}
theorem aA{r:PR α}(hr:r=.err p)(hs:Sm [c.pb,c.vb] w w1)(he:rj c p w1 w' u)(cT:Sm [c.pb,c.vb] w1 w'):wN c R r w (.returned (.tuple #[v,.iface 51 u])) w':=by subst hr;obtain⟨pl,h1,h2⟩:=he;exact⟨hs.trans cT,v,u,rfl,pl,(lh c.s).wide h1 hs.size lr,h2⟩
theorem aG{r:PR α}{x:α}{t:Tok}(hr:r=.ok x t)(hs:Sm [c.pb,c.vb] w w')(h:R.rd w.heap.size w'.heap.size w' v x)(bV:gb c t w'):wN c R r w (.returned (.tuple #[v,.nilIface])) w':=by subst hr;exact⟨hs,v,rfl,h,bV⟩
theorem kept{x:α}(h:R.rd w.heap.size w1.heap.size w1 v x)(hs:Sm [c.pb,c.vb] w1 w')(h1:c.pb<w.heap.size)(h2:c.vb<w.heap.size){lo:Nat}(vl:lo≤w.heap.size):R.rd lo w'.heap.size w' v x:=
 R.wide (au.sm h hs lr (fun k hk=>by simp at hk;omega)) vl hs.size
theorem Z2c{x:α}(h:R.rd w.heap.size w1.heap.size w1 v x)(hs:Sm [] w1 w'){lo:Nat}(vl:lo≤w.heap.size):R.rd lo w'.heap.size w' v x:=
 R.wide (au.sm h hs lr (fun k hk=>by simp at hk)) vl hs.size
end
theorem Z0O{p nb:Nat}{w2 w3:World}{o:Obj}(h:Sm [p] (w2.alloc o) w3)(hp:p=w2.heap.size)(hn:nb=p∨nb=(w2.alloc o).heap.size):Sm [] w2 w3∧w2.heap.size≤nb:=by
 subst hp;refine⟨h.forget ((Sm.refl [] w2).alloc o) (fun q hq=>by simp at hq;subst hq;exact .inr lr),?_⟩;rcases hn with rfl|rfl
 · exact lr
 · simp
theorem SL{W:World}{o:Obj}{k:Nat}(h:W.heap.size=k):(W.alloc o).heap[k]?=some o:=by subst h;exact ai _ _
def yc(w:World)(e:Ending)(w':World):Prop:=∃lb i j sp,e=.returned (.pointer (some ⟨lb,0,none⟩))∧Sm [] w w'∧w.heap.size≤lb∧w'.heap[lb]?=some (.cells #[.int .i64 i,.int .i64 j,.pointer sp] 145 (0,0))
theorem bY{lo hi:Nat}{w w':World}{lb:Nat}{i j:Int}{sp:Option Addr}{T:TypeId}(h:w.heap[lb]?=some (.cells #[.int .i64 i,.int .i64 j,.pointer sp] T (0,0)))(hs:Sm [] w w')(h1:lo≤lb)(h2:w'.heap.size≤hi):dR.rd lo hi w' (.pointer (some ⟨lb,0,none⟩)) ():=
 have h3:=hs.obj h (by simp)
 ⟨lb,i,j,rfl,h1,Nat.lt_of_lt_of_le (lt_of_block h3) h2,cell_of h3 rfl,cell_of h3 rfl⟩
theorem AW(p:Nat)(i j:Int)(sp:Option Addr)(w:World)(h:w.heap[p]?=some (.cells #[.int .i64 i,.int .i64 j,.pointer sp] 145 (0,0))) :
 Calls Tryz.prog 85 #[.pointer (some ⟨p,0,none⟩)] w (yc w):=by
 have h0:w.cell? ⟨p,0,none⟩=some (.int .i64 i):=cell_of h rfl;have h1:w.cell? ⟨p,1,none⟩=some (.int .i64 j):=cell_of h rfl;have h2:w.cell? ⟨p,2,none⟩=some (.pointer sp):=cell_of h rfl;clear h;go_enter Tryz.func85,Tryz.ntmps85;go_wp2_with fail;go_region_held3 (fun W=>W.cell? ⟨p,0,none⟩=some (.int .i64 i)∧W.cell? ⟨p,1,none⟩=some (.int .i64 j)∧W.cell? ⟨p,2,none⟩=some (.pointer sp)) (go_keep) (fail)
 all_goals go_wp2_with fail;go_ret;exact⟨_,_,_,_,rfl,(Sm.refl [] w).drew.alloc _,lr,ai _ _⟩
theorem Qn(c:Cx)(t:Tok)(st:Int)(w:World)(h:gb c t w) :
 Calls Tryz.prog 44 #[.pointer (some ⟨c.pb,0,none⟩),.int .i64 st] w (yc w):=by
 have h1:=h.c1;have h2:=h.c2;have h3:=h.c3;obtain⟨pe,h4⟩:=h.c4;have HL:Hd (∀p i j sp W,W.heap[p]?=some (.cells #[.int .i64 i,.int .i64 j,.pointer sp] 145 (0,0))→Calls Tryz.prog 85 #[.pointer (some ⟨p,0,none⟩)] W (yc W)):=AW;clear h;go_enter Tryz.func44,Tryz.ntmps44;go_wp2_with fail;go_region_held3 (fun W=>W.cell? ⟨c.pb,1,none⟩=some (.pointer (some ⟨c.sb,0,none⟩))∧W.cell? ⟨c.pb,4,none⟩=some (.int .i64 pe)) (go_keep) (first| (go_at_call 85;refine(HL.o _ st pe (some ⟨c.sb,0,none⟩) _ ?_).mono ?_;exact ai _ _;rintro e w1 ⟨lb,i,j,sp,rfl,cJ,lC,dC⟩;have hq:=(((Sm.refl [] w).alloc (.cells #[.int .i64 st,.int .i64 pe,.pointer (some ⟨c.sb,0,none⟩)] 145 (0,0))).drew).trans cJ;have g1:=hq.keeps h1 (by simp);have g4:=hq.keeps h4 (by simp)))
 all_goals go_wp2_with fail;go_ret;exact⟨lb,i,j,sp,rfl,hq,Nat.le_trans (by simp) lC,dC⟩
theorem vk(c:Cx):∀(t:Tok) (W:World) (st:Int),gb c t W→Calls Tryz.prog 44 #[.pointer (some ⟨c.pb,0,none⟩),.int .i64 st] W (yc W):=fun t W st h=>Qn c t st W h
theorem kp{α:Type}{c:Cx}{R:au α}{w w1 w':World}{v:Value}{x:α}{t:Tok}(h:Hd (R.rd w.heap.size w1.heap.size w1 v x))(ha:Hd (gb c t w))(hs:Sm [c.pb,c.vb] w1 w'){lo:Nat}(vl:lo≤w.heap.size):R.rd lo w'.heap.size w' v x:=kept h.out hs ha.out.lt ha.out.wh vl
def sd(c:Cx)(p pv:Nat)(w:World)(e:Ending)(w':World):Prop:=Sm [c.vb] w w'∧match rd c.s p with
 | .tok u=>e=.returned (.tuple #[kg u,.nilIface])∧w'.heap[c.vb]?=some (.cells #[.int .i64 (u.stop:Int)] 3 (0,0))∧uh c.s u
 | .err q=>∃v,e=.returned (.tuple #[Ez,.iface 51 v])∧rj c q w w' v∧w'.heap[c.vb]?=some (.cells #[.int .i64 (pv:Int)] 3 (0,0))
 | .eo=>True
def dg(c:Cx):Prop:=∀(p pv:Nat) (w:World),Ctx c w→w.heap[c.vb]?=some (.cells #[.int .i64 (pv:Int)] 3 (0,0))→p≤c.s.size→(p=0→pv=0)→rd c.s p≠.eo →
 Calls Tryz.prog 71 #[.int .i64 (p:Int),.pointer (some ⟨c.vb,0,none⟩),.pointer (some ⟨c.bx,0,none⟩)] w (sd c p pv w)
def my(c:Cx)(p pv:Nat)(u:Tok)(ev:Value)(w w':World):Prop:=match rd c.s p with
 | .tok t=>u=t∧ev=.nilIface∧w'.heap[c.vb]?=some (.cells #[.int .i64 (t.stop:Int)] 3 (0,0))∧uh c.s t
 | .err q=>∃v,ev=.iface 51 v∧rj c q w w' v∧w'.heap[c.vb]?=some (.cells #[.int .i64 (pv:Int)] 3 (0,0))
 | .eo=>True
theorem sd.one{c:Cx}{p pv:Nat}{w w':World}{e:Ending}(h:sd c p pv w e w')(ho:rd c.s p≠.eo) :
 ∃u ev,e=.returned (.tuple #[.agg #[.int .i64 u.kind,.int .i64 (u.start:Int),.int .i64 (u.stop:Int),.string u.val],ev])∧Hd (my c p pv u ev w w')∧Sm [c.vb] w w':=by
 obtain⟨h1,h2⟩:=h;unfold my Hd
 cases hr:rd c.s p with
 | tok u=>rw[hr] at h2;exact⟨u,.nilIface,h2.1,⟨rfl,rfl,h2.2.1,h2.2.2⟩,h1⟩
 | err q=>rw[hr] at h2;obtain⟨v,h3,h4,h5⟩:=h2;exact⟨⟨0,⟨#[]⟩,0,0⟩,_,h3,⟨v,rfl,h4,h5⟩,h1⟩
 | eo=>exact absurd hr ho
theorem rj.sm{c:Cx}{q:Nat}{X:List Nat}{w w1 w2 w':World}{v:Value}(h:rj c q w1 w2 v)(hs:Sm X w2 w')(hx:∀k,k∈X→k<w1.heap.size)(hw:w.heap.size≤w1.heap.size):rj c q w w' v:=by obtain⟨pl,h1,h2⟩:=h;exact⟨pl,(lh c.s).wide (au.sm h1 hs lr hx) hw hs.size,h2⟩
theorem my.sm{c:Cx}{p pv:Nat}{u:Tok}{ev:Value}{X:List Nat}{w w1 w2 w':World}(h:my c p pv u ev w1 w2)(hs:Sm X w2 w')(hx:∀k,k∈X→k<w1.heap.size)(hv:c.vb∉X)(hw:w.heap.size≤w1.heap.size):my c p pv u ev w w':=by
 unfold my at h ⊢
 cases hr:rd c.s p with
 | tok t=>rw[hr] at h;exact⟨h.1,h.2.1,hs.obj h.2.2.1 hv,h.2.2.2⟩
 | err q=>rw[hr] at h;obtain⟨v,h3,h4,h5⟩:=h;exact⟨v,h3,h4.sm hs hx hw,hs.obj h5 hv⟩
 | eo=>trivial
def YH(u:Tok):Array Value:=#[.int .i64 u.kind,.int .i64 (u.start:Int),.int .i64 (u.stop:Int),.string u.val]
def Fs(c:Cx)(p pv:Nat)(w:World)(a ev:Value)(wx:World):Prop:=∃k u,a=.pointer (some ⟨k,0,none⟩)∧wx.heap[k]?=some (.cells (YH u) 91 (0,0))∧Sm [c.vb] w wx∧w.heap.size≤k∧my c p pv u ev w wx
theorem C8{w:World}{k:Nat}{a0 a1 a2 a3:Value}(h:w.heap[k]?=some (.cells #[a0,a1,a2,a3] 91 (0,0)))(u:Tok) :
 ((((w.setCell ⟨k,0,none⟩ (.int .i64 u.kind)).setCell ⟨k,1,none⟩ (.int .i64 (u.start:Int))).setCell ⟨k,2,none⟩ (.int .i64 (u.stop:Int))).setCell ⟨k,3,none⟩ (.string u.val)).heap[k]?=some (.cells (YH u) 91 (0,0)):=
 dw (dw (dw (dw h 0 _) 1 _) 2 _) 3 _
theorem P4{c:Cx}{p pv:Nat}{w w1 w2:World}{u:Tok}{ev:Value}(cJ:Sm [c.vb] w w1)(hs:Sm [c.vb] w1 w2)(hr:my c p pv u ev w1 w2)(hv:c.vb<w.heap.size) :
 Fs c p pv w (.pointer (some ⟨w2.heap.size,0,none⟩)) ev (w2.alloc (.cells #[.int .i64 u.kind,.int .i64 (u.start:Int),.int .i64 (u.stop:Int),.string u.val] 91 (0,0))):=by
 have hz:=hs.size;exact⟨_,u,rfl,ai _ _,(cJ.trans hs).alloc _,by have:=cJ.size;omega,hr.sm ((Sm.refl [] w2).alloc _) (fun k hk=>by simp at hk) (by simp) cJ.size⟩
theorem P5{c:Cx}{p pv k:Nat}{w w1 w2:World}{u:Tok}{ev:Value}{a0 a1 a2 a3:Value}(cJ:Sm [c.vb] w w1)(hs:Sm [c.vb] w1 w2)(hr:my c p pv u ev w1 w2)(hv:c.vb<w.heap.size)
 (hk:w2.heap[k]?=some (.cells #[a0,a1,a2,a3] 91 (0,0))) (OA:w.heap.size≤k) (K9:k<w1.heap.size) :
 Fs c p pv w (.pointer (some ⟨k,0,none⟩)) ev ((((w2.setCell ⟨k,0,none⟩ (.int .i64 u.kind)).setCell ⟨k,1,none⟩ (.int .i64 (u.start:Int))).setCell ⟨k,2,none⟩ (.int .i64 (u.stop:Int))).setCell ⟨k,3,none⟩ (.string u.val)):=by
 have s:∀(X:World) (i:Nat) (v:Value),Sm [k] X (X.setCell ⟨k,i,none⟩ v):=fun X i v=>sr.setCell (.inr (by simp)) _;have ss:=(((s w2 0 (.int .i64 u.kind)).trans (s _ 1 (.int .i64 (u.start:Int)))).trans (s _ 2 (.int .i64 (u.stop:Int)))).trans (s _ 3 (.string u.val));exact⟨k,u,rfl,C8 hk u,ss.forget (cJ.trans hs) (fun q hq=>by simp at hq;subst hq;exact .inr OA),OA,hr.sm ss (fun q hq=>by simp at hq;omega) (by simp;omega) cJ.size⟩
theorem gb.Uj{c:Cx}{t:Tok}{w:World}(h:gb c t w){pv:Nat}(hv:pv≤c.s.size):t.stop=0→pv=0:=fun e=>by have:=h.tok.2.2.1 e;omega
def oF(c:Cx)(t:Tok)(w:World)(e:Ending)(w':World):Prop:=Sm [c.pb,c.vb] w w'∧match rd c.s t.stop with
 | .tok u=>e=.returned .nilIface∧gb c u w'
 | .err p=>∃u,e=.returned (.iface 51 u)∧rj c p w w' u∧gb c t w'
 | .eo=>True
theorem RM{c:Cx}{t u:Tok}{w w':World}(hr:rd c.s t.stop=.tok u)(hs:Sm [c.pb,c.vb] w w')(ha:gb c u w'):oF c t w (.returned .nilIface) w':=⟨hs,by rw[hr];exact⟨rfl,ha⟩⟩
theorem RL{c:Cx}{t:Tok}{p:Nat}{w w1 w':World}{u:Value}(hr:rd c.s t.stop=.err p)(cJ:Sm [c.pb,c.vb] w w1)(hs:Sm [c.pb,c.vb] w w')(he:rj c p w1 w' u)(ha:gb c t w'):oF c t w (.returned (.iface 51 u)) w':=
 ⟨hs,by rw[hr];obtain⟨pl,h1,h2⟩:=he;exact⟨u,rfl,⟨pl,(lh c.s).wide h1 cJ.size lr,h2⟩,ha⟩⟩
theorem oF.cases{c:Cx}{t:Tok}{w w':World}{e:Ending}(h:oF c t w e w')(ho:rd c.s t.stop≠.eo) :
 (∃u,rd c.s t.stop=.tok u∧e=.returned .nilIface∧Hd (gb c u w')∧Hd (Sm [c.pb,c.vb] w w')) ∨
 (∃p u,rd c.s t.stop=.err p∧e=.returned (.iface 51 u)∧Hd (rj c p w w' u)∧Hd (gb c t w')∧Hd (Sm [c.pb,c.vb] w w')):=by
 obtain⟨h1,h2⟩:=h
 cases hr:rd c.s t.stop with
 | tok u=>rw[hr] at h2;exact .inl ⟨u,rfl,h2.1,h2.2,h1⟩
 | err p=>rw[hr] at h2;obtain⟨u,h3,h4,h5⟩:=h2;exact .inr ⟨p,u,rfl,h3,h4,h5,h1⟩
 | eo=>exact absurd hr ho
theorem VZ{c:Cx}{pe:Int}{t:Tok}{w:World}(h:w.heap[c.pb]?=some (.cells (Lf c pe t) 94 (0,0)))(i:Int):(w.setCell ⟨c.pb,4,none⟩ (.int .i64 i)).heap[c.pb]?=some (.cells (Lf c i t) 94 (0,0)):=dw h 4 _
theorem SP{c:Cx}{pe:Int}{t:Tok}{w:World}(h:w.heap[c.pb]?=some (.cells (Lf c pe t) 94 (0,0)))(u:Tok) :
 ((((w.setCell ⟨c.pb,5,none⟩ (.int .i64 u.kind)).setCell ⟨c.pb,6,none⟩ (.int .i64 (u.start:Int))).setCell ⟨c.pb,7,none⟩ (.int .i64 (u.stop:Int))).setCell ⟨c.pb,8,none⟩ (.string u.val)).heap[c.pb]?=some (.cells (Lf c pe u) 94 (0,0)):=
 dw (dw (dw (dw h 5 _) 6 _) 7 _) 8 _
theorem sY{c:Cx}{w w':World}(h:Sm [c.pb,c.vb] w w')(i:Nat)(v:Value):Sm [c.pb,c.vb] w (w'.setCell ⟨c.pb,i,none⟩ v):=h.setCell (.inr (by simp)) _
theorem MG{c:Cx}{w w':World}(h:Sm [c.vb] w w'):Sm [c.pb,c.vb] w w':=h.mono (fun k hk=>by simp at hk ⊢;exact .inr hk)
theorem jf(c:Cx)(hL:dg c)(t:Tok)(w:World)(h:gb c t w)(ho:rd c.s t.stop≠.eo) :
 Calls Tryz.prog 73 #[.pointer (some ⟨c.pb,0,none⟩)] w (oF c t w):=by
 obtain⟨pe,XW⟩:=h.obj;obtain⟨pv,WX,hle⟩:=h.prev;have tX:=h.ctx.ne
 have HL:Hd (∀W,Ctx c W→W.heap[c.vb]?=some (.cells #[.int .i64 (pv:Int)] 3 (0,0))→Calls Tryz.prog 71 #[.int .i64 (t.stop:Int),.pointer (some ⟨c.vb,0,none⟩),.pointer (some ⟨c.bx,0,none⟩)] W (sd c t.stop pv W)):=
  fun W h1 h2=>hL t.stop pv W h1 h2 h.tok.2.1 (h.Uj hle) ho
 obtain⟨W1,AK⟩:∃W1,W1=w.setCell ⟨c.pb,4,none⟩ (.int .i64 (t.stop:Int)):=⟨_,rfl⟩;have zE:Sm [c.pb,c.vb] w W1:=by rw[AK];exact sY sr _ _
 have Tx:=ae zE;have HC1:Hd (Ctx c W1):=h.ctx.sm zE;have HV1:Hd (W1.heap[c.vb]?=some (.cells #[.int .i64 (pv:Int)] 3 (0,0))):=by rw[AK];exact aP WX (fun e=>tX.2.2.2.1 e.symm) _
 have WO:Hd (W1.heap[c.pb]?=some (.cells (Lf c (t.stop:Int) t) 94 (0,0))):=by rw[AK];exact VZ XW _
 have HH:=ae h;have HO:=ae ho;have wL:=ae hle;have c7:=h.c7;obtain⟨pe',c4⟩:=h.c4;have f4:=h.free 4;have ud:=ae tX;have UQ:W1.cell? ⟨c.pb,0,none⟩=some (.func (.func 71) #[] #[.pointer (some ⟨c.vb,0,none⟩),.pointer (some ⟨c.bx,0,none⟩)]):=cell_of WO.o rfl;have YT:W1.cell? ⟨c.pb,4,none⟩=some (.int .i64 (t.stop:Int)):=cell_of WO.o rfl;have HWE:=ae AK;clear h ho XW WX hle zE tX hL;go_enter Tryz.func73,Tryz.ntmps73;go_upto_region 2 with fail
 rw[←AK];clear AK;have HP:Hd (c.vb<W1.heap.size):=lt_of_block HV1.o;have HX:Hd (∀W,Sm [] W1 W→Calls Tryz.prog 71 #[.int .i64 (t.stop:Int),.pointer (some ⟨c.vb,0,none⟩),.pointer (some ⟨c.bx,0,none⟩)] W (sd c t.stop pv W)):=fun W h=>HL.o W (HC1.o.cI h) (h.obj HV1.o (by simp));have hn0:=World.new_ne _ _ UQ
 go_cut [3,4] from 5 to 24 (fun a ev wx=>Fs c t.stop pv W1 a ev wx)
 case first=>
  go_region_held3 (fun W=>W.cell? ⟨c.pb,0,none⟩=some (.func (.func 71) #[] #[.pointer (some ⟨c.vb,0,none⟩),.pointer (some ⟨c.bx,0,none⟩)])∧W.cell? ⟨c.pb,4,none⟩=some (.int .i64 (t.stop:Int))) (go_keep)
   (first
    | (go_at_call 71;refine(HX.o _ ?_).mono ?_;(repeat(first| exact sr|refine Sm.alloc ?_ _|refine Sm.drew ?_|refine Sm.drewN ?_ _));intro e w2 h2;obtain⟨u,ev,rfl,hr,hs⟩:=h2.one HO.o;clear h2;have hq:=Sm.keeps ((Sm.of_nil (X:=[c.vb]) (a:=W1) (by(repeat(first| exact sr|refine Sm.alloc ?_ _|refine Sm.drew ?_|refine Sm.drewN ?_ _)))).trans hs) UQ (by have:=ud.o.2.2.2.1;simp;exact this);have Vq:=Sm.keeps ((Sm.of_nil (X:=[c.vb]) (a:=W1) (by(repeat(first| exact sr|refine Sm.alloc ?_ _|refine Sm.drew ?_|refine Sm.drewN ?_ _)))).trans hs) YT (by have:=ud.o.2.2.2.1;simp;exact this);have hz:=hs.obj (ai _ _) (by have:=HP.o;simp;omega);have q0:=cell_of hz (i:=0) rfl;have q1:=cell_of hz (i:=1) rfl;have q2:=cell_of hz (i:=2) rfl;have q3:=cell_of hz (i:=3) rfl;have r0:=aF hz 0;have r1:=aF hz 1;have r2:=aF hz 2;have r3:=aF hz 3)
    | (go_at_call 71;refine(HX.o _ ?_).mono ?_;(repeat(first| exact sr|refine Sm.alloc ?_ _|refine Sm.drew ?_|refine Sm.drewN ?_ _));intro e w2 h2;obtain⟨u,ev,rfl,hr,hs⟩:=h2.one HO.o;clear h2;have hq:=Sm.keeps ((Sm.of_nil (X:=[c.vb]) (a:=W1) (by(repeat(first| exact sr|refine Sm.alloc ?_ _|refine Sm.drew ?_|refine Sm.drewN ?_ _)))).trans hs) UQ (by have:=ud.o.2.2.2.1;simp;exact this);have Vq:=Sm.keeps ((Sm.of_nil (X:=[c.vb]) (a:=W1) (by(repeat(first| exact sr|refine Sm.alloc ?_ _|refine Sm.drew ?_|refine Sm.drewN ?_ _)))).trans hs) YT (by have:=ud.o.2.2.2.1;simp;exact this)))
  all_goals
   go_wp2_with fail;go_meet
   first
   | exact P4 (by(repeat(first| exact sr|refine Sm.alloc ?_ _|refine Sm.drew ?_|refine Sm.drewN ?_ _))) hs hr.out HP.o
   | exact P5 (by(repeat(first| exact sr|refine Sm.alloc ?_ _|refine Sm.drew ?_|refine Sm.drewN ?_ _))) hs hr.out HP.o hz lr (by simp)
 case rest=>
  unfold Fs at hcut;obtain⟨k,u,rfl,hk,hs,hkk,AP⟩:=hcut;have HS:=ae (Tx.o.trans (MG hs));have hpb:c.pb<W1.heap.size:=lt_of_block WO.o;have HC:Hd (wc.heap[c.pb]?=some (.cells (Lf c (t.stop:Int) t) 94 (0,0))):=hs.obj WO.o (by have:=ud.o.2.2.2.1;simp;exact this);have tO:=ae (HC1.o.sm (MG hs));have Ae:=ae hs;unfold my at AP
  cases Al:rd c.s t.stop with
  | tok u'=>
   rw[Al] at AP;obtain⟨rfl,rfl,(HV:Hd _),(ML:Hd _)⟩:=AP;have k0:wc.cell? ⟨k,0,none⟩=some (.int .i64 u.kind):=cell_of hk rfl;have k1:wc.cell? ⟨k,1,none⟩=some (.int .i64 (u.start:Int)):=cell_of hk rfl;have k2:wc.cell? ⟨k,2,none⟩=some (.int .i64 (u.stop:Int)):=cell_of hk rfl;have k3:wc.cell? ⟨k,3,none⟩=some (.string u.val):=cell_of hk rfl;have p5:wc.cell? ⟨c.pb,5,none⟩=some (.int .i64 t.kind):=cell_of HC.o rfl;have p6:wc.cell? ⟨c.pb,6,none⟩=some (.int .i64 (t.start:Int)):=cell_of HC.o rfl;have p7:wc.cell? ⟨c.pb,7,none⟩=some (.int .i64 (t.stop:Int)):=cell_of HC.o rfl;have p8:wc.cell? ⟨c.pb,8,none⟩=some (.string t.val):=cell_of HC.o rfl;have f5:=aF HC.o 5;have f6:=aF HC.o 6;have f7:=aF HC.o 7;have f8:=aF HC.o 8;have qk:=ae Al;have HT:=ae (SP HC.o u);have hkb:k≠c.pb:=by omega
   clear hk hs hkk Al UQ YT f4 c4 c7 hn0;go_wp2_with fail;go_ret;refine RM qk.o (sY (sY (sY (sY HS.o _ _) _ _) _ _) _ _) ⟨tO.o.sm (sY (sY (sY (sY sr _ _) _ _) _ _) _ _),⟨_,HT.o⟩,⟨u.stop,?_,ML.o.2.1⟩,ML.o⟩;have Za:c.vb≠c.pb:=fun e=>ud.o.2.2.2.1 e.symm
   exact aP (aP (aP (aP HV.o Za _) Za _) Za _) Za _
  | err q=>
   rw[Al] at AP;obtain⟨v,rfl,(HV:Hd _),(DJ:Hd _)⟩:=AP;have qk:=ae Al;clear hk hs hkk Al UQ YT f4 c4 c7 hn0;go_wp2_with fail;go_ret
   exact RL qk.o Tx.o HS.o HV.o ⟨tO.o,⟨_,HC.o⟩,⟨pv,DJ.o,wL.o⟩,HH.o.tok⟩
  | eo=>exact absurd Al HO.o
def jJ(b:Bool)(w:World)(e:Ending)(w':World):Prop:=e=.returned (.bool b)∧Sm [] w w'
theorem lH(c:Cx)(k:Int)(t:Tok)(w:World)(h:gb c t w):Calls Tryz.prog 74 #[.pointer (some ⟨c.pb,0,none⟩),.int .i64 k] w (jJ (decide (t.kind=k)) w):=by have c5:=h.c5;clear h;go_enter Tryz.func74,Tryz.ntmps74;go_wp2_with fail;go_ret;exact⟨rfl,sr⟩
def rv(c:Cx)(k:Int)(t:Tok)(w:World)(e:Ending)(w':World):Prop:=Sm [c.pb,c.vb] w w' ∧
 (t.kind≠k→e=.returned (.tuple #[.bool false,.nilIface])∧gb c t w') ∧
 (t.kind=k→match rd c.s t.stop with
  | .tok u=>e=.returned (.tuple #[.bool true,.nilIface])∧gb c u w'
  | .err p=>∃u,e=.returned (.tuple #[.bool true,.iface 51 u])∧rj c p w w' u∧gb c t w'
  | .eo=>True)
theorem uY(c:Cx)(hL:dg c)(k:Int)(t:Tok)(w:World)(h:gb c t w)(ho:t.kind=k→rd c.s t.stop≠.eo) :
 Calls Tryz.prog 39 #[.pointer (some ⟨c.pb,0,none⟩),.int .i64 k] w (rv c k t w):=by
 have c5:=h.c5;have HH:=ae h;by_cases hk:t.kind=k
 · subst hk;have HO:=ae (ho rfl);have HA:=ae (jf c hL t);clear h ho hL;go_enter Tryz.func39,Tryz.ntmps39;go_wp2_with fail;refine(HA.o _ HH.o HO.o).mono ?_;intro e w1 h1;rcases h1.cases HO.o with⟨u,hr,rfl,ha,hs⟩|⟨p,u,hr,rfl,he,ha,hs⟩
   · have HR:=ae hr;clear hr h1;go_wp2_with fail;go_returns;exact⟨hs.out,fun e=>absurd rfl e,fun _=>by rw[HR.o];exact⟨rfl,ha.out⟩⟩
   · have HR:=ae hr;clear hr h1;go_wp2_with fail;go_returns;exact⟨hs.out,fun e=>absurd rfl e,fun _=>by rw[HR.o];exact⟨u,rfl,he.out,ha.out⟩⟩
 · have HK:=ae hk;have y:(t.kind==k)=false:=by simpa using hk
   clear h ho hL hk;go_enter Tryz.func39,Tryz.ntmps39;go_wp2_with fail;go_returns;exact⟨sr,fun _=>⟨rfl,HH.o⟩,fun e=>absurd e HK.o⟩
theorem O4{c:Cx}{k:Int}{t:Tok}{w w':World}{e:Ending}(h:rv c k t w e w'):wN c M5 (ft (rd c.s) k t) w e w':=by
 obtain⟨h1,h2,h3⟩:=h;refine⟨h1,?_⟩;unfold ft;by_cases hk:t.kind=k
 · rw[if_pos hk];have h3:=h3 hk
   cases hr:rd c.s t.stop with
   | tok u=>rw[hr] at h3;exact⟨_,h3.1,rfl,h3.2⟩
   | err p=>rw[hr] at h3;obtain⟨u,h4,h5,_⟩:=h3;exact⟨_,u,h4,h5⟩
   | eo=>trivial
 · rw[if_neg hk];exact⟨_,(h2 hk).1,rfl,(h2 hk).2⟩
def aS{α:Type}(c:Cx)(F:Nat)(args:Array Value)(M:PM α)(R:au α):Prop:=∀t W,gb c t W→M t≠.eo→Calls Tryz.prog F args W (wN c R (M t) W)
theorem od(c:Cx)(hL:dg c)(k:Int):aS c 39 #[.pointer (some ⟨c.pb,0,none⟩),.int .i64 k] (ft (rd c.s) k) M5:=fun t w h ho=>
 (uY c hL k t w h (fun e hr=>ho (by unfold ft;rw[if_pos e,hr];rfl))).mono (fun e w' h=>O4 h)
def Ba(c:Cx)(p:Nat)(w:World)(e:Ending)(w':World):Prop:=∃u,e=.returned (.iface 51 u)∧rj c p w w' u∧Sm [] w w'
theorem Jn{c:Cx}{p:Nat}(hp:p≤c.s.size):Ko c.s p p:=⟨hp,fun _=>rfl,fun h=>by omega⟩
theorem wF(c:Cx)(p:Nat)(o k:Int)(t:Tok)(w:World)(h:gb c t w)(hp:p≤c.s.size) :
 Calls Tryz.prog 131 #[.pointer (some ⟨c.pb,0,none⟩),.int .i64 (p:Int),.int .i64 o,.int .i64 k] w (Ba c p w):=by
 have HN:Hd (∀d W,kj W c.sb c.bb c.cap c.s→Calls Tryz.prog 84 #[.pointer (some ⟨c.sb,0,none⟩),.int .i64 (p:Int),.string d] W (kL c.s p W)):=fun d W hs=>dD c.s c.sb c.bb c.cap p d W hs (by have:=hs.small;omega);have HS:Hd (kj w c.sb c.bb c.cap c.s):=h.ctx.src;have HP:=ae hp;have c1:=h.c1;clear h hp;go_enter Tryz.func131,Tryz.ntmps131;go_wp2_with fail;refine(HN.o _ _ HS.o).mono ?_;rintro e w1 ⟨v,rfl,(H1:Hd _),(H2:Hd _)⟩;go_wp2_with fail;go_ret;exact⟨v,rfl,⟨p,H1.o,Jn HP.o⟩,H2.o⟩
theorem Ctx.new{c:Cx}{X:List Nat}{w0 w1 w':World}(h:Ctx c w1)(h0:Ctx c w0)(hp:c.pb<w0.heap.size)(hs:Sm X w1 w')(hx:∀k,k∈X→w0.heap.size≤k):Ctx c w':=by
 have lt:∀{a:Nat} {o:Nat} {v:Value},w0.cell? ⟨a,o,none⟩=some v→a∉X:=fun hc hk=>by have h1:=World.block_lt_of_cell? w0 _ hc;have h2:=hx _ hk;simp only at h1;omega
 have h2:=h.ne.2.2.2.2.1;exact⟨⟨hs.keeps h.src.c0 (lt h0.src.c0),h.src.le,fun i hi=>hs.keeps (h.src.bytes i hi) (lt (h0.src.bytes i hi)),h.src.small⟩,hs.keeps h.box (lt h0.box),h.Wv.sm hs (fun k hk=>by have:=hx k hk;omega),h.ne⟩
theorem gb.new{c:Cx}{t u:Tok}{X:List Nat}{w0 w1 w':World}(h:gb c t w1)(h0:gb c u w0)(hs:Sm X w1 w')(hx:∀k,k∈X→w0.heap.size≤k):gb c t w':=
 ⟨h.ctx.new h0.ctx h0.lt hs hx,h.obj.elim fun pe ho=>⟨pe,hs.obj ho (fun hk=>by have:=hx _ hk;have:=h0.lt;omega)⟩,
  h.prev.elim fun pv ho=>⟨pv,hs.obj ho.1 (fun hk=>by have:=hx _ hk;have:=h0.wh;omega),ho.2⟩,h.tok⟩
def Ft(c:Cx)(t:Tok)(ev:Value)(w w':World):Prop:=match rd c.s t.stop with
 | .tok u=>ev=.nilIface∧gb c u w'
 | .err p=>∃u,ev=.iface 51 u∧rj c p w w' u∧gb c t w'
 | .eo=>True
theorem oF.one{c:Cx}{t:Tok}{w w':World}{e:Ending}(h:oF c t w e w')(ho:rd c.s t.stop≠.eo):∃ev,e=.returned ev∧Hd (Ft c t ev w w')∧Sm [c.pb,c.vb] w w':=by
 obtain⟨h1,h2⟩:=h;unfold Ft Hd
 cases hr:rd c.s t.stop with
 | tok u=>rw[hr] at h2;exact⟨_,h2.1,⟨rfl,h2.2⟩,h1⟩
 | err p=>rw[hr] at h2;obtain⟨u,h3,h4⟩:=h2;exact⟨_,h3,⟨u,rfl,h4⟩,h1⟩
 | eo=>exact absurd hr ho
def Ij(c:Cx)(r:PR Tok)(w:World)(e:Ending)(w':World):Prop:=Sm [c.pb,c.vb] w w'∧∃(u:Tok) (ev:Value),e=.returned (.tuple #[kg u,ev])∧match r with
 | .ok x t=>u=x∧ev=.nilIface∧gb c t w'
 | .err p=>∃v,ev=.iface 51 v∧rj c p w w' v
 | .eo=>True
theorem Ij.cases{c:Cx}{r:PR Tok}{w w':World}{e:Ending}(h:Ij c r w e w')(hr:r≠.eo) :
 (∃x t,r=.ok x t∧e=.returned (.tuple #[kg x,.nilIface])∧Hd (gb c t w')∧Hd (Sm [c.pb,c.vb] w w')) ∨
 (∃p u v,r=.err p∧e=.returned (.tuple #[kg u,.iface 51 v])∧Hd (rj c p w w' v)∧Hd (Sm [c.pb,c.vb] w w')):=by
 obtain⟨h1,u,ev,rfl,h2⟩:=h
 cases r with
 | ok x t=>obtain⟨rfl,rfl,h3⟩:=h2;exact .inl ⟨u,t,rfl,rfl,h3,h1⟩
 | err p=>obtain⟨v,rfl,h3⟩:=h2;exact .inr ⟨p,u,v,rfl,rfl,h3,h1⟩
 | eo=>exact absurd rfl hr
def P2(c:Cx)(F:Nat)(args:Array Value)(M:PM Tok):Prop:=∀t W,gb c t W→M t≠.eo→Calls Tryz.prog F args W (Ij c (M t) W)
theorem Iq{c:Cx}{t:Tok}{ev:Value}{X:List Nat}{w w1 w2 w':World}(h:Ft c t ev w1 w2)(cJ:Sm [] w w1)(cT:Sm [c.pb,c.vb] w1 w2)(h0:gb c t w)(hs:Sm X w2 w')(hx:∀k,k∈X→w.heap.size≤k)(o6:∀k,k∈X→k<w1.heap.size) :
 Ij c ((rd c.s t.stop).go.bind fun _=>(pure t:PM Tok)) w (.returned (.tuple #[kg t,ev])) w':=by
 refine⟨hs.forget (cJ.of_nil.trans cT) (fun k hk=>.inr (hx k hk)),t,ev,rfl,?_⟩;unfold Ft at h
 cases hr:rd c.s t.stop with
 | tok u=>
  rw[hr] at h;obtain⟨rfl,h2⟩:=h
  exact⟨rfl,rfl,h2.new h0 hs hx⟩
 | err p=>
  rw[hr] at h;obtain⟨u,rfl,⟨pl,h3,h4⟩,h2⟩:=h
  exact⟨u,rfl,pl,(lh c.s).wide (au.sm h3 hs lr (fun k hk=>by have:=o6 k hk;omega)) cJ.size hs.size,h4⟩
 | eo=>trivial
def aU(t:Tok):Obj:=.cells #[.int .i64 t.kind,.int .i64 (t.start:Int),.int .i64 (t.stop:Int),.string t.val] 91 (0,0)
theorem pS{w:World}{k:Nat}(a b c d:Value):Sm [k] w ((((w.setCell ⟨k,0,none⟩ a).setCell ⟨k,1,none⟩ b).setCell ⟨k,2,none⟩ c).setCell ⟨k,3,none⟩ d):=
 ((((Sm.refl [k] w).setCell (p:=⟨k,0,none⟩) (.inr (by simp)) _).setCell (p:=⟨k,1,none⟩) (.inr (by simp)) _).setCell (p:=⟨k,2,none⟩) (.inr (by simp)) _).setCell (p:=⟨k,3,none⟩) (.inr (by simp)) _
theorem MF{c:Cx}{t:Tok}{k:Nat}{w w1 wc w2 w':World}{u:Value}(h:(lh c.s).rd wc.heap.size w2.heap.size w2 u t.start)(cT:Sm [] w1 w2)(cJ:Sm [] w w1)(ht:t.start≤c.s.size)(yx:w1.heap.size≤wc.heap.size)(hs:Sm [k] w2 w')(hk:w.heap.size≤k)(ri:k<w1.heap.size) :
 Ij c (.err t.start) w (.returned (.tuple #[kg t,.iface 51 u])) w':=by
 refine⟨(hs.forget (cJ.trans cT) (fun q hq=>by simp at hq;subst hq;exact .inr hk)).of_nil,t,_,rfl,u,rfl,t.start,?_,Jn ht⟩;exact(lh c.s).wide (au.sm h hs lr (fun q hq=>by simp at hq;omega)) (by have:=cJ.size;omega) hs.size
theorem eB(c:Cx)(hL:dg c)(k:Int):P2 c 104 #[.pointer (some ⟨c.pb,0,none⟩),.int .i64 k] (bE (rd c.s) k):=by
 intro t w h ho;have c5:=h.c5;have c6:=h.c6;have c7:=h.c7;have c8:=h.c8;have e5:∀o,(w.alloc o).cell? ⟨c.pb,5,none⟩=some (.int .i64 t.kind):=fun o=>((Sm.refl [] w).alloc o).keeps c5 (by simp);have e6:∀o,(w.alloc o).cell? ⟨c.pb,6,none⟩=some (.int .i64 (t.start:Int)):=fun o=>((Sm.refl [] w).alloc o).keeps c6 (by simp);have e7:∀o,(w.alloc o).cell? ⟨c.pb,7,none⟩=some (.int .i64 (t.stop:Int)):=fun o=>((Sm.refl [] w).alloc o).keeps c7 (by simp);have e8:∀o,(w.alloc o).cell? ⟨c.pb,8,none⟩=some (.string t.val):=fun o=>((Sm.refl [] w).alloc o).keeps c8 (by simp);have HH:=ae h;by_cases hk:t.kind=k
 · have HE:Hd (bE (rd c.s) k t=(rd c.s t.stop).go.bind fun _=>(pure t:PM Tok)):=by unfold Hd bE;rw[if_pos hk]
   have HO:Hd (rd c.s t.stop≠.eo):=fun e=>ho (by rw[HE.o,e];rfl);have HA:Hd (∀W,Sm [] w W→Calls Tryz.prog 73 #[.pointer (some ⟨c.pb,0,none⟩)] W (oF c t W)):=fun W hw=>jf c hL t W (h.cI hw) HO.o;have y:(t.kind==k)=true:=by simpa using hk
   clear h ho hL hk c5 c6 c7 c8;go_enter Tryz.func104,Tryz.ntmps104;go_upto_region 3 with fail
   clear e5 e6 e7 e8 y;obtain⟨W2,ni⟩:∃W2,W2=(w.alloc dm).alloc (aU t):=⟨_,rfl⟩;have ax:Hd (Sm [] w W2):=by rw[ni];exact(sr.alloc _).alloc _
   have wM:Hd (W2.heap.size=w.heap.size+2):=by unfold Hd;rw[ni];simp
   have Uq:Hd (W2.heap[w.heap.size]?=some dm):=ae (by rw[ni];exact((Sm.refl [] _).alloc _).obj (ai w dm) (by simp));have hB:W2.heap[w.heap.size+1]?=some (aU t):=by rw[ni];have:=ai (w.alloc dm) (aU t);simpa using this
   have HN:Hd (c.pb<w.heap.size∧c.vb<w.heap.size):=⟨HH.o.lt,HH.o.wh⟩;unfold aU dm at ni;rw[←ni];clear ni;have b0:W2.cell? ⟨w.heap.size+1,0,none⟩=some (.int .i64 t.kind):=cell_of hB rfl;have b1:W2.cell? ⟨w.heap.size+1,1,none⟩=some (.int .i64 (t.start:Int)):=cell_of hB rfl;have b2:W2.cell? ⟨w.heap.size+1,2,none⟩=some (.int .i64 (t.stop:Int)):=cell_of hB rfl;have b3:W2.cell? ⟨w.heap.size+1,3,none⟩=some (.string t.val):=cell_of hB rfl;have HB:=ae hB;clear hB
   go_region_held3 (fun W=>W.cell? ⟨w.heap.size+1,0,none⟩=some (.int .i64 t.kind)∧W.cell? ⟨w.heap.size+1,1,none⟩=some (.int .i64 (t.start:Int))∧W.cell? ⟨w.heap.size+1,2,none⟩=some (.int .i64 (t.stop:Int))∧W.cell? ⟨w.heap.size+1,3,none⟩=some (.string t.val)) (go_keep)
    (first
     | (
      go_at_call 73;refine(HA.o _ ?_).mono ?_;refine ax.o.trans ?_;(repeat(first| exact sr|refine Sm.alloc ?_ _|refine Sm.drew ?_|refine Sm.drewN ?_ _));intro e w2 h2;obtain⟨ev,rfl,hr,hs⟩:=h2.one HO.o;clear h2
      have hq:=(Sm.of_nil (X:=[c.pb,c.vb]) (a:=W2) (by(repeat(first| exact sr|refine Sm.alloc ?_ _|refine Sm.drew ?_|refine Sm.drewN ?_ _)))).trans hs;have hn:∀j,w.heap.size≤j→j∉[c.pb,c.vb]:=(fun j hj hm=>by have:=HN.o;simp at hm;omega);have q0:=hq.keeps b0 (hn _ (by simp));have q1:=hq.keeps b1 (hn _ (by simp));have q2:=hq.keeps b2 (hn _ (by simp));have q3:=hq.keeps b3 (hn _ (by simp));have hz:=hq.obj Uq.o (hn _ lr);have z0:=cell_of hz (i:=0) rfl;have z1:=cell_of hz (i:=1) rfl;have z2:=cell_of hz (i:=2) rfl;have z3:=cell_of hz (i:=3) rfl
      have r0:=aF hz 0;have r1:=aF hz 1;have r2:=aF hz 2;have r3:=aF hz 3))
   all_goals go_wp2_with fail;refine bodyPost_ret (by simp[results,Tryz.results104,go_sem,z0,z1,z2,z3];try rfl) rfl ?_;rw[HE.o];exact Iq hr.out (ax.o.trans (by(repeat(first| exact sr|refine Sm.alloc ?_ _|refine Sm.drew ?_|refine Sm.drewN ?_ _)))) hs HH.o (pS _ _ _ _) (fun j hj=>by simp at hj;omega) (fun j hj=>by have:=wM.o;simp at hj ⊢;omega)
 · have HE:Hd (bE (rd c.s) k t=.err t.start):=by unfold Hd bE;rw[if_neg hk]
   have R3:Hd (∀d W,Sm [] w W→Calls Tryz.prog 84 #[.pointer (some ⟨c.sb,0,none⟩),.int .i64 (t.start:Int),.string d] W (kL c.s t.start W)):=fun d W hw=>dD c.s c.sb c.bb c.cap t.start d W (h.ctx.src.cI hw) (by have:=h.ctx.src.small;have:=h.tok.1;omega);have R5:=ae h.tok.1;have y:(t.kind==k)=false:=by simpa using hk
   have c1:=h.c1;clear h ho hL hk c5 c6 c7 c8;go_enter Tryz.func104,Tryz.ntmps104;go_upto_region 5 with fail
   clear e5 e6 e7 e8 y;obtain⟨W2,ni⟩:∃W2,W2=(w.alloc dm).alloc (aU t):=⟨_,rfl⟩;have ax:Hd (Sm [] w W2):=by rw[ni];exact(sr.alloc _).alloc _
   have wM:Hd (W2.heap.size=w.heap.size+2):=by unfold Hd;rw[ni];simp
   have Uq:Hd (W2.heap[w.heap.size]?=some dm):=ae (by rw[ni];exact((Sm.refl [] _).alloc _).obj (ai w dm) (by simp));have hB:W2.heap[w.heap.size+1]?=some (aU t):=by rw[ni];have:=ai (w.alloc dm) (aU t);simpa using this
   have d1:W2.cell? ⟨c.pb,1,none⟩=some (.pointer (some ⟨c.sb,0,none⟩)):=ax.o.keeps c1 (by simp);have Nw:=World.new_ne _ _ c1;unfold aU dm at ni;rw[←ni];clear ni c1;have b0:W2.cell? ⟨w.heap.size+1,0,none⟩=some (.int .i64 t.kind):=cell_of hB rfl;have b1:W2.cell? ⟨w.heap.size+1,1,none⟩=some (.int .i64 (t.start:Int)):=cell_of hB rfl;have b2:W2.cell? ⟨w.heap.size+1,2,none⟩=some (.int .i64 (t.stop:Int)):=cell_of hB rfl;have b3:W2.cell? ⟨w.heap.size+1,3,none⟩=some (.string t.val):=cell_of hB rfl;clear hB
   go_region_held3 (fun W=>W.cell? ⟨w.heap.size+1,0,none⟩=some (.int .i64 t.kind)∧W.cell? ⟨w.heap.size+1,1,none⟩=some (.int .i64 (t.start:Int))∧W.cell? ⟨w.heap.size+1,2,none⟩=some (.int .i64 (t.stop:Int))∧W.cell? ⟨w.heap.size+1,3,none⟩=some (.string t.val)∧W.cell? ⟨c.pb,1,none⟩=some (.pointer (some ⟨c.sb,0,none⟩))) (go_keep)
    (first
     | (
      go_at_call 84;refine(R3.o _ _ ?_).mono ?_;refine ax.o.trans ?_;(repeat(first| exact sr|refine Sm.alloc ?_ _|refine Sm.drew ?_|refine Sm.drewN ?_ _));rintro e w2 ⟨u,rfl,hr,hs⟩
      have hq:=(show Sm [] W2 _ from(by(repeat(first| exact sr|refine Sm.alloc ?_ _|refine Sm.drew ?_|refine Sm.drewN ?_ _)))).trans hs;have q0:=hq.keeps b0 (by simp);have q1:=hq.keeps b1 (by simp);have q2:=hq.keeps b2 (by simp);have q3:=hq.keeps b3 (by simp);have q4:=hq.keeps d1 (by simp);have hz:=hq.obj Uq.o (by simp);have z0:=cell_of hz (i:=0) rfl;have z1:=cell_of hz (i:=1) rfl;have z2:=cell_of hz (i:=2) rfl;have z3:=cell_of hz (i:=3) rfl
      have r0:=aF hz 0;have r1:=aF hz 1;have r2:=aF hz 2;have r3:=aF hz 3))
   all_goals go_wp2_with fail;refine bodyPost_ret (by simp[results,Tryz.results104,go_sem,z0,z1,z2,z3];try rfl) rfl ?_;rw[HE.o];exact MF hr hq ax.o R5.o (by simp) (pS _ _ _ _) lr (by have:=wM.o;omega)
section
variable{α β:Type}{c:Cx}{F:Nat}{args:Array Value}{x:PM α}{R:au α}{f:α→PM β}{r:PR β}{t:Tok}{w W:World}{Q:Ending→World→Prop}
theorem fj{M:PM α}(H:∀(t:Tok) (w:World) (r:PR α),M t=r→r≠.eo→gb c t w→Calls Tryz.prog F args w (wN c R r w)):aS c F args M R:=fun t w h ho=>H t w _ rfl ho h
theorem dj(H:aS c F args x R)(ha:Hd (gb c t W))(hr:Hd ((x>>=f) t=r))(ho:Hd (r≠.eo))(hs:Sm [c.pb,c.vb] w W)
 (k2:∀(v:Value) (W':World) (u:Value),Hd (∀(S:au β) (v':Value),wN c S r w (.returned (.tuple #[v',.iface 51 u])) W')→Q (.returned (.tuple #[v,.iface 51 u])) W')
 (k1:∀(a:α) (t':Tok) (W':World) (v:Value),Hd (f a t'=r)→Hd (R.rd W.heap.size W'.heap.size W' v a)→Hd (gb c t' W')→Hd (Sm [c.pb,c.vb] W W')→Q (.returned (.tuple #[v,.nilIface])) W'):Calls Tryz.prog F args W Q:=by
 refine(H t W ha.out (aH hr ho)).mono ?_;intro e W' h1;rcases h1.cases (aH hr ho) with⟨a,t',v,hx,rfl,hd,bV,cJ⟩|⟨p,v,u,hx,rfl,hu,cJ⟩
 · exact k1 a t' W' v (bK hr hx) hd bV cJ
 · exact k2 v W' u (fun S v'=>aA (bc hr hx) hs hu.out cJ.out)
theorem Z03(H:aS c F args x R)(ha:gb c t W)(hr:Hd ((x>>=f) t=r))(ho:Hd (r≠.eo))(hs:Sm [c.pb,c.vb] w W)
 (k2:∀(v:Value) (W':World) (u:Value),Hd (∀(S:au β) (v':Value),wN c S r w (.returned (.tuple #[v',.iface 51 u])) W')→Q (.returned (.tuple #[v,.iface 51 u])) W')
 (k1:∀(a:α) (t':Tok) (W':World) (v:Value),x t=.ok a t'→Hd (f a t'=r)→Hd (R.rd W.heap.size W'.heap.size W' v a)→Hd (gb c t' W')→Hd (Sm [c.pb,c.vb] W W')→Q (.returned (.tuple #[v,.nilIface])) W'):Calls Tryz.prog F args W Q:=by
 refine(H t W ha (aH hr ho)).mono ?_;intro e W' h1;rcases h1.cases (aH hr ho) with⟨a,t',v,hx,rfl,hd,bV,cJ⟩|⟨p,v,u,hx,rfl,hu,cJ⟩
 · exact k1 a t' W' v hx (bK hr hx) hd bV cJ
 · exact k2 v W' u (fun S v'=>aA (bc hr hx) hs hu.out cJ.out)
theorem lN{x:PM Tok}{f:Tok→PM β}(H:P2 c F args x)(ha:Hd (gb c t W))(hr:Hd ((x>>=f) t=r))(ho:Hd (r≠.eo))(hs:Sm [c.pb,c.vb] w W)
 (k2:∀(y:Tok) (W':World) (u:Value),Hd (∀(S:au β) (v':Value),wN c S r w (.returned (.tuple #[v',.iface 51 u])) W')→Q (.returned (.tuple #[.agg #[.int .i64 y.kind,.int .i64 (y.start:Int),.int .i64 (y.stop:Int),.string y.val],.iface 51 u])) W')
 (k1:∀(a t':Tok) (W':World),Hd (f a t'=r)→Hd (gb c t' W')→Hd (Sm [c.pb,c.vb] W W')→Q (.returned (.tuple #[.agg #[.int .i64 a.kind,.int .i64 (a.start:Int),.int .i64 (a.stop:Int),.string a.val],.nilIface])) W'):Calls Tryz.prog F args W Q:=by
 refine(H t W ha.out (aH hr ho)).mono ?_;intro e W' h1;rcases h1.cases (aH hr ho) with⟨a,t',hx,rfl,bV,cJ⟩|⟨p,y,u,hx,rfl,hu,cJ⟩
 · exact k1 a t' W' (bK hr hx) bV cJ
 · exact k2 y W' u (fun S v'=>aA (bc hr hx) hs hu.out cJ.out)
end
end Go.Proofs.YtnpjmhodfdgloaaGreatDoor
