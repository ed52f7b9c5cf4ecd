/- Part of the proof. -/
import Derived.Laws.Cover4
import Derived.Deep.Cut
import Derived.BigRegion
import Derived.Deep.RegionLaw
import Derived.Test.YtnpjmhodfdgloaaGreatDoorQ07
set_option linter.unusedVariables false
set_option linter.unusedSimpArgs false
namespace Go.Proofs.YtnpjmhodfdgloaaGreatDoor
set_option maxRecDepth 100000
set_option maxHeartbeats 32000000
open Go.RowKit
attribute [local go_sem ↓] Go.wp_at_zero Go.wp_at_succ
def nx(s:ByteArray)(i:Nat):Nat:=if h:i<s.size then s[i].toNat else 0
theorem fb(s:ByteArray)(i:Nat):nx s i<256:=by
 unfold nx;split
 · exact UInt8.toNat_lt _
 · omega
theorem fi{s:ByteArray}{i:Nat}(h:i<s.size):s[i].toNat=nx s i:=by simp[nx,h]
theorem pK{s:ByteArray}{i:Nat}(h:s.size≤i):nx s i=0:=by unfold nx;rw[dif_neg (by omega)]
theorem sO{s:ByteArray}{i:Nat}(h:0<nx s i):i<s.size:=by
 rcases Nat.lt_or_ge i s.size with h'|h'
 · exact h'
 · rw[pK h'] at h;omega
def gN(c:Nat):Bool:=decide ((97≤c∧c≤122)∨(65≤c∧c≤90)∨c=95)
def eC(c:Nat):Bool:=decide (48≤c∧c≤57)
def wC(c:Nat):Int:=
 if c=33 then 2 else if c=36 then 3 else if c=40 then 4 else if c=41 then 5 else if c=58 then 7 else if c=61 then 8 else if c=64 then 9 else
 if c=91 then 10 else if c=93 then 11 else if c=123 then 12 else if c=124 then 13 else if c=125 then 14 else if c=38 then 20 else 0
def eO(c:Nat):Int:=if 48≤c∧c≤57 then(c:Int)-48 else if 97≤c∧c≤102 then(c:Int)-87 else if 65≤c∧c≤70 then(c:Int)-55 else -1
def st(s:ByteArray)(at':Nat)(t:ByteArray):Bool:=decide (at'+t.size≤s.size∧s.extract at' (at'+t.size)=t)
def eN(s:ByteArray)(at':Nat):Nat:=if h:eC (nx s at')=true then eN s (at'+1) else at'
termination_by s.size-at'
decreasing_by
 have:at'<s.size:=sO (by unfold eC at h;simp at h;omega);omega
def cw(s:ByteArray)(at':Nat):Nat:=if h:(gN (nx s at')||eC (nx s at'))=true then cw s (at'+1) else at'
termination_by s.size-at'
decreasing_by
 have:at'<s.size:=sO (by unfold gN eC at h;simp at h;omega);omega
def mM(f:Nat):Int×Nat×Int:=
 if 194≤f∧f<224 then((f:Int)-192,2,128) else
 if 224≤f∧f<240 then((f:Int)-224,3,2048) else
 if 240≤f∧f<245 then((f:Int)-240,4,65536) else(0,0,0)
def gO(s:ByteArray)(tO:Nat)(i:Nat)(c:Int):Option Int:=
 if h:i<tO then(if nx s i<128∨191<nx s i then none else gO s tO (i+1) (c*64+(nx s i:Int)-128)) else some c
termination_by tO-i
def pt(s:ByteArray)(at':Nat):Int×Nat:=
 if nx s at'<128 then((nx s at':Int),1) else
 let (c,many,least):=mM (nx s at')
 if many=0∨s.size<at'+many then(0,0) else
 match gO s (at'+many) (at'+1) c with
 | none=>(0,0)
 | some c=>if c<least∨1114111<c∨(55296≤c∧c<57344) then(0,0) else(c,many)
theorem lJ{a b:Bool}(h:a=b):Ending.returned (.bool a)=.returned (.bool b):=by rw[h]
theorem oV{k:IntKind}{a b:Int}(h:a=b):Ending.returned (.int k a)=.returned (.int k b):=by rw[h]
theorem sX{a b:ByteArray}(h:a=b):Ending.returned (.string a)=.returned (.string b):=by rw[h]
theorem uC(c:Nat)(hc:c<256)(w:World):Calls Tryz.prog 49 #[.int .u8 (c:Int)] w fun e w'=>e=.returned (.bool (gN c))∧w'=w:=by
 go_enter Tryz.func49,Tryz.ntmps49;go_wp2
 all_goals go_ret
 all_goals (refine⟨lJ ?_,rfl⟩;rw[Bool.eq_iff_iff];simp[gN];omega)
theorem uD(c:Nat)(hc:c<256)(w:World):Calls Tryz.prog 51 #[.int .u8 (c:Int)] w fun e w'=>e=.returned (.bool (eC c))∧w'=w:=by
 go_enter Tryz.func51,Tryz.ntmps51;go_wp2
 all_goals go_ret
 all_goals (refine⟨lJ ?_,rfl⟩;rw[Bool.eq_iff_iff];simp[eC];omega)
theorem Jx(c:Nat)(hc:c<256)(w:World):Calls Tryz.prog 48 #[.int .u8 (c:Int)] w fun e w'=>e=.returned (.int .i64 (wC c))∧w'=w:=by
 by_cases Dz:c=33
 · subst Dz;go_enter Tryz.func48,Tryz.ntmps48;go_wp2;go_ret;exact⟨rfl,rfl⟩
 by_cases DZ:c=36
 · subst DZ;go_enter Tryz.func48,Tryz.ntmps48;go_wp2;go_ret;exact⟨rfl,rfl⟩
 by_cases Gb:c=40
 · subst Gb;go_enter Tryz.func48,Tryz.ntmps48;go_wp2;go_ret;exact⟨rfl,rfl⟩
 by_cases I3:c=41
 · subst I3;go_enter Tryz.func48,Tryz.ntmps48;go_wp2;go_ret;exact⟨rfl,rfl⟩
 by_cases IQ:c=58
 · subst IQ;go_enter Tryz.func48,Tryz.ntmps48;go_wp2;go_ret;exact⟨rfl,rfl⟩
 by_cases K8:c=61
 · subst K8;go_enter Tryz.func48,Tryz.ntmps48;go_wp2;go_ret;exact⟨rfl,rfl⟩
 by_cases KK:c=64
 · subst KK;go_enter Tryz.func48,Tryz.ntmps48;go_wp2;go_ret;exact⟨rfl,rfl⟩
 by_cases Mc:c=91
 · subst Mc;go_enter Tryz.func48,Tryz.ntmps48;go_wp2;go_ret;exact⟨rfl,rfl⟩
 by_cases Nq:c=93
 · subst Nq;go_enter Tryz.func48,Tryz.ntmps48;go_wp2;go_ret;exact⟨rfl,rfl⟩
 by_cases AJ:c=123
 · subst AJ;go_enter Tryz.func48,Tryz.ntmps48;go_wp2;go_ret;exact⟨rfl,rfl⟩
 by_cases Cc:c=124
 · subst Cc;go_enter Tryz.func48,Tryz.ntmps48;go_wp2;go_ret;exact⟨rfl,rfl⟩
 by_cases DY:c=125
 · subst DY;go_enter Tryz.func48,Tryz.ntmps48;go_wp2;go_ret;exact⟨rfl,rfl⟩
 by_cases EU:c=38
 · subst EU;go_enter Tryz.func48,Tryz.ntmps48;go_wp2;go_ret;exact⟨rfl,rfl⟩
 have e33:((c:Int)==33)=false:=by simp;omega
 have e36:((c:Int)==36)=false:=by simp;omega
 have e40:((c:Int)==40)=false:=by simp;omega
 have e41:((c:Int)==41)=false:=by simp;omega
 have e58:((c:Int)==58)=false:=by simp;omega
 have e61:((c:Int)==61)=false:=by simp;omega
 have e64:((c:Int)==64)=false:=by simp;omega
 have e91:((c:Int)==91)=false:=by simp;omega
 have e93:((c:Int)==93)=false:=by simp;omega
 have Z3j:((c:Int)==123)=false:=by simp;omega
 have Z3k:((c:Int)==124)=false:=by simp;omega
 have Z3l:((c:Int)==125)=false:=by simp;omega
 have e38:((c:Int)==38)=false:=by simp;omega
 have hs:wC c=0:=by unfold wC;simp only[Dz,DZ,Gb,I3,IQ,K8,KK,Mc,Nq,AJ,Cc,DY,EU,if_false]
 rw[hs];clear Dz DZ Gb I3 IQ K8 KK Mc Nq AJ Cc DY EU;go_enter Tryz.func48,Tryz.ntmps48;go_wp2;go_ret;exact⟨rfl,rfl⟩
theorem oj(c:Nat)(hc:c<256)(w:World):Calls Tryz.prog 122 #[.int .u8 (c:Int)] w fun e w'=>e=.returned (.int .i64 (eO c))∧w'=w:=by
 go_enter Tryz.func122,Tryz.ntmps122;by_cases h1:48≤c<;>by_cases h2:c≤57<;>by_cases h3:97≤c<;>by_cases h4:c≤102<;>by_cases h5:65≤c<;>by_cases h6:c≤70<;>try omega
 all_goals go_wp2
 all_goals go_ret
 all_goals (refine⟨oV ?_,rfl⟩;unfold eO;(repeat' split)<;>omega)
theorem jM(xb:Nat)(s:ByteArray)(i:Nat)(w:World)(hx:w.cell? ⟨xb,0,none⟩=some (.string s))(hi:i≤4611686018427387904) :
 Calls Tryz.prog 50 #[.pointer (some ⟨xb,0,none⟩),.int .i64 (i:Int)] w fun e w'=>e=.returned (.int .u8 (nx s i:Int))∧w'=w:=by
 by_cases h:i<s.size
 · have h1:(0:Int)≤(i:Int):=by omega
   have h2:(i:Int)<(s.size:Int):=by omega
   go_enter Tryz.func50,Tryz.ntmps50;go_wp2;go_ret;exact⟨oV (by rw[←fi h]),rfl⟩
 · have h2:(s.size:Int)≤(i:Int):=by omega
   go_enter Tryz.func50,Tryz.ntmps50;go_wp2;go_ret;exact⟨oV (by rw[pK (by omega)];rfl),rfl⟩
theorem Pu(xb:Nat)(b:Value)(w:World)(hx:w.cell? ⟨xb,3,none⟩=some b)(hf:w.frozen? ⟨xb,3,none⟩=false) :
 Calls Tryz.prog 55 #[.pointer (some ⟨xb,0,none⟩)] w fun e w'=>e=.returned (.tuple #[])∧w'=w.setCell ⟨xb,3,none⟩ (.bool true):=by
 go_enter Tryz.func55,Tryz.ntmps55;go_wp2;go_end0;exact⟨rfl,rfl⟩
theorem J3{s:ByteArray}{k:Nat}(h:eC (nx s k)=true):k<s.size:=sO (by unfold eC at h;simp at h;omega)
theorem nX{s:ByteArray}{k:Nat}(h:eC (nx s k)=true):eN s k=eN s (k+1):=by rw[eN,dif_pos h]
theorem vh{s:ByteArray}{k:Nat}(h:eC (nx s k)=false):eN s k=k:=by rw[eN,dif_neg (by simp[h])]
theorem Kz(xb:Nat)(s:ByteArray)(i:Nat)(w:World)(hx:w.cell? ⟨xb,0,none⟩=some (.string s))(hs:s.size≤1099511627776)(hi:i≤1099511627900) :
 Calls Tryz.prog 119 #[.pointer (some ⟨xb,0,none⟩),.int .i64 (i:Int)] w fun e w'=>e=.returned (.int .i64 (eN s i:Int))∧w'=w:=by
 go_enter Tryz.func119,Tryz.ntmps119;go_wp2_with fail
 go_loop [1] (fun v=>∃k:Nat,k≤1099511627900∧v=.int .i64 k∧Hd (eN s i=eN s k)) (fun v=>s.size-(intOf v).toNat)
 case atStart=>exact⟨i,hi,rfl,rfl⟩
 case round=>
  obtain⟨k,hk,rfl,hd⟩:=hrel;have hc:=fb s k
  cases hq:eC (nx s k) with
  | true=>
   have b9:=J3 hq;have eL:Hd (eN s i=eN s (k+1)):=hd.out.trans (nX hq);go_wp2_with (first| (go_at_call 50;refine(jM _ _ _ _ hx (by omega)).mono ?_;rintro e w' ⟨rfl,rfl⟩)|(go_at_call 51;refine(uD _ hc _).mono ?_;rintro e w' ⟨rfl,rfl⟩))
   go_round
   case rel=>exact⟨k+1,by omega,by go_num,eL⟩
   case measure=>simp[intOf];omega
  | false=>
   have eL:Hd (eN s i=k):=hd.out.trans (vh hq);go_wp2_with (first| (go_at_call 50;refine(jM _ _ _ _ hx (by omega)).mono ?_;rintro e w' ⟨rfl,rfl⟩)|(go_at_call 51;refine(uD _ hc _).mono ?_;rintro e w' ⟨rfl,rfl⟩))
   go_ret;exact⟨oV (by rw[eL.out]),rfl⟩
theorem T2{a b c d:Value}(h:a=c)(k:b=d):Ending.returned (.tuple #[a,b])=.returned (.tuple #[c,d]):=by rw[h,k]
def oy(c:Int):Bool:=decide (c=9∨c=10∨c=13∨32≤c)
def Qz(c:Int):Bool:=decide (c≤65535)
theorem ff(c:Int)(w:World):Calls Tryz.prog 87 #[.int .i64 c] w fun e w'=>e=.returned (.tuple #[.bool (oy c),.bool (Qz c)])∧w'=w:=by
 by_cases h1:c=9
 · subst h1;go_enter Tryz.func87,Tryz.ntmps87;go_wp2;go_ret2;exact⟨rfl,rfl⟩
 by_cases h2:c=10
 · subst h2;go_enter Tryz.func87,Tryz.ntmps87;go_wp2;go_ret2;exact⟨rfl,rfl⟩
 by_cases h3:c=13
 · subst h3;go_enter Tryz.func87,Tryz.ntmps87;go_wp2;go_ret2;exact⟨rfl,rfl⟩
 have e1:(c==9)=false:=by simpa using h1
 have e2:(c==10)=false:=by simpa using h2
 have e3:(c==13)=false:=by simpa using h3
 go_enter Tryz.func87,Tryz.ntmps87;go_wp2;go_ret2;refine⟨T2 ?_ ?_,rfl⟩
 · simp[oy,h1,h2,h3]
 · simp[Qz]
theorem Pm(n:Int)(w:World):(convert 281 9 (.slice (some ⟨w.heap.size,0,none⟩) 1 1)).run Tryz.prog (w.alloc (.cells #[.int .i32 n] 21))=.ok (.string (Utf8.encode n)) (w.alloc (.cells #[.int .i32 n] 21)):=by
 rw[run_convert_runes (w.alloc (.cells #[.int .i32 n] 21)) 281 9 21 ⟨w.heap.size,0,none⟩ 1 1 [n] (by simp) Tryz.underlying281 Tryz.underlying21 Tryz.underlying9]
 · simp[runesBytes]
 · intro j hj;have Z0:j=0:=by simpa using hj
   subst Z0;exact cell_of (ai w _) rfl
theorem qv(c:Int)(w:World)(h0:0≤c)(h1:c≤1114111):Calls Tryz.prog 123 #[.int .i64 c] w fun e w'=>e=.returned (.string (Utf8.encode c))∧Sm [] w w':=by have hc:=fun n=>Pm n w;go_enter Tryz.func123,Tryz.ntmps123;go_wp2;go_ret;exact⟨rfl,sr.alloc _⟩
def lW(s:ByteArray)(k:Nat)(t:Nat):Nat×Nat:=
 if nx s t=101∨nx s t=69 then
  (if eN s (if nx s (t+1)=43∨nx s (t+1)=45 then t+1+1 else t+1)=(if nx s (t+1)=43∨nx s (t+1)=45 then t+1+1 else t+1) then(0,0) else
   (17,eN s (if nx s (t+1)=43∨nx s (t+1)=45 then t+1+1 else t+1)))
 else(k,t)
def numDot(s:ByteArray)(t:Nat):Nat×Nat:=
 if nx s t=46∧eN s (t+1)=t+1 then(0,0) else lW s (if nx s t=46 then 17 else 16) (if nx s t=46 then eN s (t+1) else t)
def r7(s:ByteArray)(a:Nat):Nat×Nat:=
 if eN s a=a∨(nx s a=48∧a+1<eN s a) then(0,0) else numDot s (eN s a)
def eX(s:ByteArray)(at':Nat):Nat×Nat:=r7 s (if nx s at'=45 then at'+1 else at')
theorem im(s:ByteArray)(i:Nat):i≤eN s i:=by
 fun_induction eN s i with
 | case1 i h ih=>omega
 | case2 i h=>exact lr
theorem kl(s:ByteArray)(i:Nat):eN s i≤max i s.size:=by
 fun_induction eN s i with
 | case1 i h ih=>
  have:i<s.size:=sO (by unfold eC at h;simp at h;omega)
  omega
 | case2 i h=>omega
theorem yi{s:ByteArray}{i:Nat}(h:eN s i≠i):i<s.size:=by have:=im s i;have:=kl s i;omega
theorem GI(k:Nat):(k:Int)=((k:Nat):Int):=rfl
theorem GJ(k:Nat):(k:Int)+1=((k+1:Nat):Int):=rfl
theorem GK(k:Nat):(k:Int)+2=((k+2:Nat):Int):=rfl
theorem GM(k:Nat):(k:Int)+3=((k+3:Nat):Int):=rfl
theorem GN(k:Nat):(k:Int)+4=((k+4:Nat):Int):=rfl
theorem GO(k:Nat):(k:Int)+6=((k+6:Nat):Int):=rfl
theorem sP(k:Nat):(k:Int)+1+1=((k+1+1:Nat):Int):=rfl
theorem GP(a b:Nat):(a:Int)+(b:Int)=((a+b:Nat):Int):=rfl
theorem pJ(xb:Nat)(s:ByteArray)(z:Int)(w:World){i:Nat}(hz:z=(i:Int))(hx:w.cell? ⟨xb,0,none⟩=some (.string s))(hi:i≤4611686018427387904) :
 Calls Tryz.prog 50 #[.pointer (some ⟨xb,0,none⟩),.int .i64 z] w fun e w'=>e=.returned (.int .u8 (nx s i:Int))∧w'=w:=by rw[hz];exact jM xb s i w hx hi
theorem mB(xb:Nat)(s:ByteArray)(z:Int)(w:World){i:Nat}(hz:z=(i:Int))(hx:w.cell? ⟨xb,0,none⟩=some (.string s))(hs:s.size≤1099511627776)(hi:i≤1099511627900) :
 Calls Tryz.prog 119 #[.pointer (some ⟨xb,0,none⟩),.int .i64 z] w fun e w'=>e=.returned (.int .i64 (eN s i:Int))∧w'=w:=by rw[hz];exact Kz xb s i w hx hs hi
theorem Jl(xb:Nat)(s:ByteArray)(i:Nat)(w:World)(hx:w.cell? ⟨xb,0,none⟩=some (.string s))(hs:s.size≤1099511627776)(hi:i≤1099511627800) :
 Calls Tryz.prog 88 #[.pointer (some ⟨xb,0,none⟩),.int .i64 (i:Int)] w fun e w'=>e=.returned (.tuple #[.int .i64 ((eX s i).1:Int),.int .i64 ((eX s i).2:Int)])∧w'=w:=by
 obtain⟨a,ha⟩:∃a,(if nx s i=45 then i+1 else i)=a:=⟨_,rfl⟩;have hr:Hd (eX s i=r7 s a):=by unfold Hd eX;rw[ha]
 have ZY:i≤a∧a≤i+1:=by rw[←ha];split<;>omega
 go_enter Tryz.func88,Tryz.ntmps88;go_upto_if 11 with(first| (go_at_call 50;refine(@pJ _ _ _ _ ?_ ?_ hx ?_).mono ?_;rotate_left 1;(first| with_reducible exact GI _|with_reducible exact GJ _|with_reducible exact GK _|with_reducible exact GM _|with_reducible exact GN _|with_reducible exact GO _|with_reducible exact sP _|with_reducible exact GP _ _);omega;rintro e w' ⟨rfl,aY⟩;rw[aY];clear aY w'))
 go_cut [1] from 2 (fun s1 wx=>s1=.int .i64 (a:Int)∧wx=w)
 case first=>
  by_cases h:nx s i=45
  · rw[if_pos h] at ha;subst ha;go_wp2;go_meet;exact⟨rfl,rfl⟩
  · rw[if_neg h] at ha;subst ha;go_wp2;go_meet;exact⟨rfl,rfl⟩
 case rest=>
  obtain⟨rfl,yx⟩:=hcut;rw[yx];clear yx wc;clear ha;have ha:a≤1099511627801:=by omega
  clear ZY;obtain⟨t,et⟩:∃q,eN s a=q:=⟨_,rfl⟩;have lt:=im s a;have mt:=kl s a;rw[et] at lt mt;go_upto_region 4 with((first| (go_at_call 50;refine(@pJ _ _ _ _ ?_ ?_ hx ?_).mono ?_;rotate_left 1;(first| with_reducible exact GI _|with_reducible exact GJ _|with_reducible exact GK _|with_reducible exact GM _|with_reducible exact GN _|with_reducible exact GO _|with_reducible exact sP _|with_reducible exact GP _ _);omega;rintro e w' ⟨rfl,aY⟩;rw[aY];clear aY w')|(go_at_call 119;refine(@mB _ _ _ _ ?_ ?_ hx hs ?_).mono ?_;rotate_left 1;(first| with_reducible exact GI _|with_reducible exact GJ _|with_reducible exact GK _|with_reducible exact GM _|with_reducible exact GN _|with_reducible exact GO _|with_reducible exact sP _|with_reducible exact GP _ _);omega;rintro e w' ⟨rfl,aY⟩;rw[aY];clear aY w')))
  have hA:Hd (r7 s a=if t=a∨(nx s a=48∧a+1<t) then(0,0) else numDot s t):=by unfold Hd r7;rw[et]
  obtain⟨bb,tE⟩:∃bb,decide (t=a∨(nx s a=48∧a+1<t))=bb:=⟨_,rfl⟩;have tE:Hd (decide (t=a∨(nx s a=48∧a+1<t))=bb):=tE
  go_cut [34] from 6 (fun c wx=>c=.bool bb∧wx=w)
  case first=>
   by_cases ht:t=a
   · subst ht;go_wp2;go_meet;exact⟨congrArg Value.bool (by rw[←tE.out];simp),rfl⟩
   · have g1:a<s.size:=by omega
     have gt:(t==a)=false:=by simpa using ht
     have g2:(0:Int)≤(a:Int):=by omega
     have g3:(a:Int)<(s.size:Int):=by omega
     have g4:s[a].toNat=nx s a:=fi g1;by_cases hz:nx s a=48
     · by_cases Rh:a+1<t
       · have hz3:(a:Int)+1<(t:Int):=by omega
         go_wp2;go_meet;exact⟨congrArg Value.bool (by rw[←tE.out];simp[hz,Rh]<;>omega),rfl⟩
       · have hz3:¬((a:Int)+1<(t:Int)):=by omega
         go_wp2;go_meet;exact⟨congrArg Value.bool (by rw[←tE.out];simp[hz,Rh,ht]<;>omega),rfl⟩
     · go_wp2;go_meet;exact⟨congrArg Value.bool (by rw[←tE.out];simp[hz,ht]<;>omega),rfl⟩
  case rest=>
   obtain⟨rfl,yx⟩:=hcut;rw[yx];clear yx wc
   cases bb with
   | true=>
    have gK:=of_decide_eq_true tE.out;have hf:Hd (eX s i=(0,0)):=by unfold Hd;rw[hr.out,hA.out,if_pos gK]
    clear gK tE;go_wp2;go_ret2
    rw[hf.out];exact⟨rfl,rfl⟩
   | false=>
   have gK:=of_decide_eq_false tE.out;have hB:Hd (eX s i=numDot s t):=by unfold Hd;rw[hr.out,hA.out,if_neg gK]
   clear gK tE hA hr;have htl:t≤1099511627801:=by omega
   clear lt mt et ha;obtain⟨v,ev⟩:∃q,eN s (t+1)=q:=⟨_,rfl⟩;have lv:=im s (t+1);have mv:=kl s (t+1);rw[ev] at lv mv;have hvl:v≤1099511627802:=by omega
   clear mv;go_upto_if 38 with((first| (go_at_call 50;refine(@pJ _ _ _ _ ?_ ?_ hx ?_).mono ?_;rotate_left 1;(first| with_reducible exact GI _|with_reducible exact GJ _|with_reducible exact GK _|with_reducible exact GM _|with_reducible exact GN _|with_reducible exact GO _|with_reducible exact sP _|with_reducible exact GP _ _);omega;rintro e w' ⟨rfl,aY⟩;rw[aY];clear aY w')|(go_at_call 119;refine(@mB _ _ _ _ ?_ ?_ hx hs ?_).mono ?_;rotate_left 1;(first| with_reducible exact GI _|with_reducible exact GJ _|with_reducible exact GK _|with_reducible exact GM _|with_reducible exact GN _|with_reducible exact GO _|with_reducible exact sP _|with_reducible exact GP _ _);omega;rintro e w' ⟨rfl,aY⟩;rw[aY];clear aY w')))
   by_cases gK:nx s t=46∧v=t+1
   · obtain⟨q1,rfl⟩:=gK;have hf:Hd (eX s i=(0,0)):=by unfold Hd;rw[hB.out];unfold numDot;rw[if_pos ⟨q1,ev⟩]
     go_wp2_with ((first| (go_at_call 50;refine(@pJ _ _ _ _ ?_ ?_ hx ?_).mono ?_;rotate_left 1;(first| with_reducible exact GI _|with_reducible exact GJ _|with_reducible exact GK _|with_reducible exact GM _|with_reducible exact GN _|with_reducible exact GO _|with_reducible exact sP _|with_reducible exact GP _ _);omega;rintro e w' ⟨rfl,aY⟩;rw[aY];clear aY w')|(go_at_call 119;refine(@mB _ _ _ _ ?_ ?_ hx hs ?_).mono ?_;rotate_left 1;(first| with_reducible exact GI _|with_reducible exact GJ _|with_reducible exact GK _|with_reducible exact GM _|with_reducible exact GN _|with_reducible exact GO _|with_reducible exact sP _|with_reducible exact GP _ _);omega;rintro e w' ⟨rfl,aY⟩;rw[aY];clear aY w')))
     go_ret2;rw[hf.out];exact⟨rfl,rfl⟩
   obtain⟨k,ek⟩:∃k,(if nx s t=46 then 17 else 16)=k:=⟨_,rfl⟩;obtain⟨m,em⟩:∃m,(if nx s t=46 then v else t)=m:=⟨_,rfl⟩;have hC:Hd (eX s i=lW s k m):=by unfold Hd;rw[hB.out];unfold numDot;rw[ev,if_neg gK,ek,em]
   clear hB;have WW:m≤1099511627802:=by rw[←em];split<;>omega
   go_cut [4,5] from 6 (fun c d wx=>c=.int .i64 (k:Int)∧d=.int .i64 (m:Int)∧wx=w)
   case first=>
    by_cases h:nx s t=46
    · rw[if_pos h] at ek em;subst ek em;have hv:¬((v:Int)=(t:Int)+1):=by omega
      clear gK;go_wp2_with ((first| (go_at_call 50;refine(@pJ _ _ _ _ ?_ ?_ hx ?_).mono ?_;rotate_left 1;(first| with_reducible exact GI _|with_reducible exact GJ _|with_reducible exact GK _|with_reducible exact GM _|with_reducible exact GN _|with_reducible exact GO _|with_reducible exact sP _|with_reducible exact GP _ _);omega;rintro e w' ⟨rfl,aY⟩;rw[aY];clear aY w')|(go_at_call 119;refine(@mB _ _ _ _ ?_ ?_ hx hs ?_).mono ?_;rotate_left 1;(first| with_reducible exact GI _|with_reducible exact GJ _|with_reducible exact GK _|with_reducible exact GM _|with_reducible exact GN _|with_reducible exact GO _|with_reducible exact sP _|with_reducible exact GP _ _);omega;rintro e w' ⟨rfl,aY⟩;rw[aY];clear aY w')))
      go_meet;exact⟨rfl,rfl,rfl⟩
    · rw[if_neg h] at ek em;subst ek em;clear gK;go_wp2_with ((first| (go_at_call 50;refine(@pJ _ _ _ _ ?_ ?_ hx ?_).mono ?_;rotate_left 1;(first| with_reducible exact GI _|with_reducible exact GJ _|with_reducible exact GK _|with_reducible exact GM _|with_reducible exact GN _|with_reducible exact GO _|with_reducible exact sP _|with_reducible exact GP _ _);omega;rintro e w' ⟨rfl,aY⟩;rw[aY];clear aY w')|(go_at_call 119;refine(@mB _ _ _ _ ?_ ?_ hx hs ?_).mono ?_;rotate_left 1;(first| with_reducible exact GI _|with_reducible exact GJ _|with_reducible exact GK _|with_reducible exact GM _|with_reducible exact GN _|with_reducible exact GO _|with_reducible exact sP _|with_reducible exact GP _ _);omega;rintro e w' ⟨rfl,aY⟩;rw[aY];clear aY w')))
      go_meet;exact⟨rfl,rfl,rfl⟩
   case rest=>
    obtain⟨rfl,rfl,yx⟩:=hcut;rw[yx];clear yx wc;clear gK ev ek em lv hvl htl;go_upto_region 13 with((first| (go_at_call 50;refine(@pJ _ _ _ _ ?_ ?_ hx ?_).mono ?_;rotate_left 1;(first| with_reducible exact GI _|with_reducible exact GJ _|with_reducible exact GK _|with_reducible exact GM _|with_reducible exact GN _|with_reducible exact GO _|with_reducible exact sP _|with_reducible exact GP _ _);omega;rintro e w' ⟨rfl,aY⟩;rw[aY];clear aY w')|(go_at_call 119;refine(@mB _ _ _ _ ?_ ?_ hx hs ?_).mono ?_;rotate_left 1;(first| with_reducible exact GI _|with_reducible exact GJ _|with_reducible exact GK _|with_reducible exact GM _|with_reducible exact GN _|with_reducible exact GO _|with_reducible exact sP _|with_reducible exact GP _ _);omega;rintro e w' ⟨rfl,aY⟩;rw[aY];clear aY w')));obtain⟨bb,tE⟩:∃bb,decide (nx s m=101∨nx s m=69)=bb:=⟨_,rfl⟩;have tE:Hd (decide (nx s m=101∨nx s m=69)=bb):=tE
    go_cut [56] from 6 (fun c wx=>c=.bool bb∧wx=w)
    case first=>
     by_cases h1:nx s m=101
     · go_wp2;go_meet;exact⟨congrArg Value.bool (by rw[←tE.out];simp[h1]),rfl⟩
     · by_cases h2:nx s m=69
       · go_wp2;go_meet;exact⟨congrArg Value.bool (by rw[←tE.out];simp[h2]),rfl⟩
       · go_wp2;go_meet;exact⟨congrArg Value.bool (by rw[←tE.out];simp[h1,h2]<;>omega),rfl⟩
    case rest=>
    obtain⟨rfl,yx⟩:=hcut;rw[yx];clear yx wc
    cases bb with
    | false=>
     have gK:=of_decide_eq_false tE.out;have hf:Hd (eX s i=(k,m)):=by unfold Hd;rw[hC.out];unfold lW;rw[if_neg gK]
     clear gK tE;go_wp2;go_ret2
     rw[hf.out];exact⟨rfl,rfl⟩
    | true=>
    have gK:=of_decide_eq_true tE.out;obtain⟨b,eb⟩:∃b,(if nx s (m+1)=43∨nx s (m+1)=45 then m+1+1 else m+1)=b:=⟨_,rfl⟩;have hD:Hd (eX s i=if eN s b=b then(0,0) else(17,eN s b)):=by unfold Hd;rw[hC.out];unfold lW;rw[if_pos gK,eb]
    clear hC gK tE;have tV:b≤1099511627804:=by rw[←eb];split<;>omega
    have Heb:Hd ((if nx s (m+1)=43∨nx s (m+1)=45 then m+1+1 else m+1)=b):=eb;clear eb;go_upto_region 17 with((first| (go_at_call 50;refine(@pJ _ _ _ _ ?_ ?_ hx ?_).mono ?_;rotate_left 1;(first| with_reducible exact GI _|with_reducible exact GJ _|with_reducible exact GK _|with_reducible exact GM _|with_reducible exact GN _|with_reducible exact GO _|with_reducible exact sP _|with_reducible exact GP _ _);omega;rintro e w' ⟨rfl,aY⟩;rw[aY];clear aY w')|(go_at_call 119;refine(@mB _ _ _ _ ?_ ?_ hx hs ?_).mono ?_;rotate_left 1;(first| with_reducible exact GI _|with_reducible exact GJ _|with_reducible exact GK _|with_reducible exact GM _|with_reducible exact GN _|with_reducible exact GO _|with_reducible exact sP _|with_reducible exact GP _ _);omega;rintro e w' ⟨rfl,aY⟩;rw[aY];clear aY w')))
    obtain⟨bb,tE⟩:∃bb,decide (nx s (m+1)=43∨nx s (m+1)=45)=bb:=⟨_,rfl⟩;have tE:Hd (decide (nx s (m+1)=43∨nx s (m+1)=45)=bb):=tE
    go_cut [67] from 8 (fun c wx=>c=.bool bb∧wx=w)
    case first=>
     by_cases h1:nx s (m+1)=43
     · go_wp2;go_meet;exact⟨congrArg Value.bool (by rw[←tE.out];simp[h1]),rfl⟩
     · by_cases h2:nx s (m+1)=45
       · go_wp2;go_meet;exact⟨congrArg Value.bool (by rw[←tE.out];simp[h2]),rfl⟩
       · go_wp2;go_meet;exact⟨congrArg Value.bool (by rw[←tE.out];simp[h1,h2]<;>omega),rfl⟩
    case rest=>
    obtain⟨rfl,yx⟩:=hcut;rw[yx];clear yx wc;go_upto_if 67 with fail
    go_cut [1] from 8 (fun c wx=>c=.int .i64 (b:Int)∧wx=w)
    case first=>
     have eb:=Heb.out
     cases bb with
     | true=>
      rw[if_pos (of_decide_eq_true tE.out)] at eb;subst eb;go_wp2;go_meet
      exact⟨rfl,rfl⟩
     | false=>rw[if_neg (of_decide_eq_false tE.out)] at eb;subst eb;go_wp2;go_meet;exact⟨rfl,rfl⟩
    case rest=>
    obtain⟨rfl,yx⟩:=hcut;rw[yx];clear yx wc Heb tE;obtain⟨u,eu⟩:∃q,eN s b=q:=⟨_,rfl⟩;have lu:=im s b;rw[eu] at lu;by_cases nu:u=b
    · subst nu;have hf:Hd (eX s i=(0,0)):=by unfold Hd;rw[hD.out,if_pos eu]
      go_wp2_with ((first| (go_at_call 50;refine(@pJ _ _ _ _ ?_ ?_ hx ?_).mono ?_;rotate_left 1;(first| with_reducible exact GI _|with_reducible exact GJ _|with_reducible exact GK _|with_reducible exact GM _|with_reducible exact GN _|with_reducible exact GO _|with_reducible exact sP _|with_reducible exact GP _ _);omega;rintro e w' ⟨rfl,aY⟩;rw[aY];clear aY w')|(go_at_call 119;refine(@mB _ _ _ _ ?_ ?_ hx hs ?_).mono ?_;rotate_left 1;(first| with_reducible exact GI _|with_reducible exact GJ _|with_reducible exact GK _|with_reducible exact GM _|with_reducible exact GN _|with_reducible exact GO _|with_reducible exact sP _|with_reducible exact GP _ _);omega;rintro e w' ⟨rfl,aY⟩;rw[aY];clear aY w')))
      go_ret2;rw[hf.out];exact⟨rfl,rfl⟩
    · have iu:((u:Int)==(b:Int))=false:=by simp;omega
      have gu:(u==b)=false:=by simpa using nu
      have hf:Hd (eX s i=(17,u)):=by unfold Hd;rw[hD.out,eu,if_neg nu]
      go_wp2_with ((first| (go_at_call 50;refine(@pJ _ _ _ _ ?_ ?_ hx ?_).mono ?_;rotate_left 1;(first| with_reducible exact GI _|with_reducible exact GJ _|with_reducible exact GK _|with_reducible exact GM _|with_reducible exact GN _|with_reducible exact GO _|with_reducible exact sP _|with_reducible exact GP _ _);omega;rintro e w' ⟨rfl,aY⟩;rw[aY];clear aY w')|(go_at_call 119;refine(@mB _ _ _ _ ?_ ?_ hx hs ?_).mono ?_;rotate_left 1;(first| with_reducible exact GI _|with_reducible exact GJ _|with_reducible exact GK _|with_reducible exact GM _|with_reducible exact GN _|with_reducible exact GO _|with_reducible exact sP _|with_reducible exact GP _ _);omega;rintro e w' ⟨rfl,aY⟩;rw[aY];clear aY w')))
      go_ret2;rw[hf.out];exact⟨rfl,rfl⟩
structure Lx where
 pos:Nat
 out:List Tok
 bad:Bool
 unsure:Bool
def Ti(t:Tok):List Value:=[.int .i64 t.kind,.string t.val,.int .i64 (t.start:Int),.int .i64 (t.stop:Int)]
def j9(l:List Tok):List Value:=l.flatMap Ti
def mG(s:ByteArray)(x:Lx)(ov:Value):Array Value:=#[.string s,.int .i64 (x.pos:Int),ov,.bool x.bad,.bool x.unsure]
def bM(w:World)(xb:Nat)(s:ByteArray)(x:Lx):Prop:=
 ∃ov,w.heap[xb]?=some (.cells (mG s x ov) 79 (0,0))∧w.ownsRow (xb+1) 63 4 ov x.out.length (j9 x.out)
theorem Ht(a b:List Tok):j9 (a++b)=j9 a++j9 b:=by simp[j9]
theorem Xc(l:List Tok):(j9 l).length=4*l.length:=by
 induction l with
 | nil=>rfl
 | cons t l ih=>simp[j9,Ti] at *;omega
def Lx.fail(x:Lx):Lx:={x with bad:=true}
def Lx.add(x:Lx)(k:Int)(tO:Nat)(v:ByteArray):Lx:={x with pos:=tO,out:=x.out++[⟨k,v,x.pos,tO⟩]}
theorem bM.sU{w:World}{xb:Nat}{s:ByteArray}{x y:Lx}{ov:Value}(h:w.heap[xb]?=some (.cells (mG s x ov) 79 (0,0)))(hr:w.ownsRow (xb+1) 63 4 ov x.out.length (j9 x.out))
 (i:Nat) (u:Value) (hy:(mG s x ov).setIfInBounds i u=mG s y ov) (ho:y.out=x.out):bM (w.setCell ⟨xb,i,none⟩ u) xb s y:=by
 refine⟨ov,?_,?_⟩
 · rw[dw h,hy]
 · rw[ho];exact ownsRow_setCell_below hr (by show xb<xb+1;omega) u
theorem eD(xb:Nat)(s:ByteArray)(x:Lx)(w:World)(hx:bM w xb s x) :
 Calls Tryz.prog 55 #[.pointer (some ⟨xb,0,none⟩)] w fun e w'=>e=.returned (.tuple #[])∧bM w' xb s x.fail∧Below xb w w':=by
 obtain⟨ov,h1,h2⟩:=hx;refine(Pu xb (.bool x.bad) w (cell_of h1 rfl) (aF h1 _)).mono ?_;rintro e w' ⟨rfl,rfl⟩;refine⟨rfl,bM.sU h1 h2 3 _ rfl rfl,?_⟩;exact(Below.refl xb w).setCell (p:=⟨xb,3,none⟩) lr _
theorem Sl:(Tryz.prog.info? 63).map (fun i=>(i.zero,i.size,i.bytes))=some (some (.agg #[.int .i64 0,.string ByteArray.empty,.int .i64 0,.int .i64 0]),4,40):=by kernel_rfl
theorem Qs{w w':World}{b base size n:Nat}{e:TypeId}{ov:Value}{xs:List Value}{o:Obj}(h1:w.heap[b]?=some o)(h2:w.ownsRow base e size ov n xs)(hb:b<base)(h:w.drew.grownBy w' ov.ownBlock):w'.heap[b]?=some o:=by refine(h.block b (lt_of_block h1) ?_).trans h1;intro e;have:=(h2.lt b e.symm).1;omega
section
variable{P:Program}{ops:Array Oper}{o:Oper}{ac:Act}{K:Act→World→Prop}{Q:Exit→Act→World→Prop}{E:Prop}{W:World}
theorem BD(base:Nat)(ux:o.guard=none)(s x:Operand)(t:TypeId)
 (ho:o.op=.call {callee:=.builtin .append,args:=#[s,x],argTypes:=#[t,t]})
 (e:TypeId) (z:Value) (size bytes:Nat) (ht:P.underlying t=some (.slice e)) (rD:(P.info? e).map (fun i=>(i.zero,i.size,i.bytes))=some (some z,size,bytes))
 (hz:z.cells.size=size) (om:0<size) (V3:0<bytes) (v:Value) (n:Nat) (xs:List Value) (hs:ac.eval s=v) (aJ:W.ownsRow base e size v n xs)
 (cs:Array Value) (hx:ac.eval x=.slice (some ⟨W.heap.size,0,none⟩) 1 1) (hcs:cs.size=size) (h1:∀u∈cs.toList,u.oneCell'=true)
 (lj:(n+1)*bytes≤140737488355328) (cv:base≤W.heap.size)
 (h:∀g cap w',w'.ownsRow base e size (.slice (some ⟨g,0,none⟩) (n+1) cap) (n+1) (xs++cs.toList)→W.grownBy w' v.ownBlock→(v.ownBlock=some g∨g=W.heap.size+1)→g<w'.heap.size →
  K (ac.put o.dst (.slice (some ⟨g,0,none⟩) (n+1) cap)) w') :
 if Region.wanted o (yielded ops ac.tmps)=true then Oper.wp P o ac (W.alloc (.cells cs e)) K Q else E:=by
 obtain⟨i0,hi,PT⟩:=Option.map_eq_some_iff.1 rD;simp only[Prod.mk.injEq] at PT;obtain⟨Vu,Vv,Rh⟩:=PT;have hn:n+1≤140737488355328:=Nat.le_trans (Nat.le_mul_of_pos_right _ V3) lj
 refine step_append_lies (w:=W.alloc (.cells cs e)) ux s x t ho base e i0 z size bytes ht hi Vu Vv Rh hz om v n xs hs (aJ.alloc _) ⟨W.heap.size,0,none⟩ 1 1 cs.toList hx (by simpa using hcs)
  (World.news_of_block (heap_alloc_new W _)) h1 (by omega) (by simp only[maxLen];omega) lj (by simp;omega) (W.heap.size+1) (by simp) ?_
 intro g cap w' h2 h3 h4 h5;exact h g cap w' h2 (fe h3) h4 h5
end
theorem UJ{w w':World}{xb:Nat}{s:ByteArray}{x:Lx}{k:Int}{tO:Nat}{v:ByteArray}{ov nv:Value}(h1:w.heap[xb]?=some (.cells (mG s x ov) 79 (0,0)))
 (h2:w.ownsRow (xb+1) 63 4 ov x.out.length (j9 x.out))
 (b':w'.heap[xb]?=some (.cells (mG s x ov) 79 (0,0))) (q1:w'.ownsRow (xb+1) 63 4 nv (x.out.length+1) (j9 x.out++[.int .i64 k,.string v,.int .i64 (x.pos:Int),.int .i64 (tO:Int)]))
 (q2:w.drew.grownBy w' ov.ownBlock):bM ((w'.setCell ⟨xb,2,none⟩ nv).setCell ⟨xb,1,none⟩ (.int .i64 (tO:Int))) xb s (x.add k tO v)∧Below xb w ((w'.setCell ⟨xb,2,none⟩ nv).setCell ⟨xb,1,none⟩ (.int .i64 (tO:Int))):=by
 constructor
 · refine⟨nv,?_,?_⟩
   · rw[dw (dw b' 2 nv)];rfl
   · have:(x.add k tO v).out.length=x.out.length+1:=by simp[Lx.add]
     rw[this];have e:j9 (x.add k tO v).out=j9 x.out++[.int .i64 k,.string v,.int .i64 (x.pos:Int),.int .i64 (tO:Int)]:=by simp[Lx.add,Ht,j9,Ti]
     rw[e];exact ownsRow_setCell_below (ownsRow_setCell_below q1 (by show xb<xb+1;omega) _) (by show xb<xb+1;omega) _
 · have hl:=lt_of_block h1;refine Below.setCell (p:=⟨xb,1,none⟩) (Below.setCell (p:=⟨xb,2,none⟩) ?_ (Nat.le_refl xb) _) (Nat.le_refl xb) _;exact(Below.refl xb w).drew.grown q2 (Nat.le_of_lt hl) (fun b e=>by have:=(h2.lt b e).1;omega)
theorem se(xb:Nat)(s:ByteArray)(x:Lx)(k:Int)(tO:Nat)(v:ByteArray)(w:World)(hx:bM w xb s x)(hn:x.out.length≤1099511627776) :
 Calls Tryz.prog 47 #[.pointer (some ⟨xb,0,none⟩),.int .i64 k,.int .i64 (tO:Int),.string v] w fun e w'=>e=.returned (.tuple #[])∧bM w' xb s (x.add k tO v)∧Below xb w w':=by
 obtain⟨ov,h1,h2⟩:=hx;have c1:w.cell? ⟨xb,1,none⟩=some (.int .i64 (x.pos:Int)):=cell_of h1 rfl;have c2:w.cell? ⟨xb,2,none⟩=some ov:=cell_of h1 rfl;have f1:=aF h1 1;have f2:=aF h1 2;have b9:xb+1≤w.heap.size:=lt_of_block h1;have h2d:=h2.drew;have c2a:∀o:Obj,(w.alloc o).cell? ⟨xb,2,none⟩=some ov:=fun o=>cell_of (wW h1 o) rfl;have Z0o:xb+1≤w.drew.heap.size:=b9;have hn2:(x.out.length+1)*40≤140737488355328:=by omega
 go_enter Tryz.func47,Tryz.ntmps47;go_upto_region 0 with fail
 go_region_law (refine BD (xb+1) rfl _ _ _ rfl 63 _ 4 40 Tryz.underlying34 Sl rfl (show 0<4 by decide) (show 0<40 by decide) ov x.out.length (j9 x.out) rfl h2d _ rfl rfl (by simp[Value.oneCell']) hn2 Z0o ?_;intro g cap w' q1 q2 q3 q4;have b':=Qs h1 h2 (Nat.lt_succ_self xb) q2;have c2':w'.cell? ⟨xb,2,none⟩=some ov:=cell_of b' rfl;have f2':=aF b' 2;have XB:w'.cell? ⟨xb,1,none⟩=some (.int .i64 (x.pos:Int)):=cell_of b' rfl;have f1':=aF b' 1)
 go_wp2
 all_goals (go_end0;exact⟨rfl,UJ h1 h2 b' q1 q2⟩)
end Go.Proofs.YtnpjmhodfdgloaaGreatDoor
