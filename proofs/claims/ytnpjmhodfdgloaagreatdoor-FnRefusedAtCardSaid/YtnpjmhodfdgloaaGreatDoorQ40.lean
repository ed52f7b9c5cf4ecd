/- Part of the proof. -/
import Derived.Test.YtnpjmhodfdgloaaGreatDoorQ39
set_option linter.unusedVariables false
set_option linter.unusedSimpArgs false
namespace Go.Proofs.YtnpjmhodfdgloaaGreatDoor
set_option maxRecDepth 100000
set_option maxHeartbeats 32000000
open Go.RowKit
attribute [local go_sem ↓] Go.wp_at_zero Go.wp_at_succ
theorem qC:iC.toList=[116,121,112,101]:=by rw[ByteArray.toList_eq];rfl
theorem ju:fE.toList=[105,110,116,101,114,102,97,99,101]:=by rw[ByteArray.toList_eq];rfl
theorem rH:mU.toList=[117,110,105,111,110]:=by rw[ByteArray.toList_eq];rfl
theorem yD:qO.toList=[101,110,117,109]:=by rw[ByteArray.toList_eq];rfl
theorem yE:mT.toList=[105,110,112,117,116]:=by rw[ByteArray.toList_eq];rfl
theorem zH:fZ.toList=[101,120,116,101,110,100]:=by rw[ByteArray.toList_eq];rfl
theorem yC:fD.toList=[100,105,114,101,99,116,105,118,101]:=by rw[ByteArray.toList_eq];rfl
theorem aS.mono{α:Type}{c:Cx}{F:Nat}{args:Array Value}{M:PM α}{R S:au α}(h:aS c F args M R)(hs:∀{lo hi:Nat} {w:World} {v:Value} {x:α},R.rd lo hi w v x→S.rd lo hi w v x):aS c F args M S:=fun t W ha ho=>
 (h t W ha ho).mono (fun e w' hp=>by
  obtain⟨h1,h2⟩:=hp;refine⟨h1,?_⟩
  cases hr:M t with
  | ok x t1=>rw[hr] at h2;obtain⟨v,h3,h4,h5⟩:=h2;exact⟨v,h3,hs h4,h5⟩
  | err p=>rw[hr] at h2;exact h2
  | eo=>trivial)
def mw(F:Nat):Prop:=∀(args:Array Value) (W:World),Sem.run Tryz.prog (callFunc F args) W=.ok (.enter F args) W
def UI(c:Cx)(n:Nat)(s:ByteArray)(w:World)(e:Ending)(w':World):Prop:=Sm [] w w'∧match bG (rd c.s) n s with
 | some f=>∃F,e=.returned (.tuple #[.func (.func F) #[] #[],.bool true])∧aS c F #[.pointer (some ⟨c.pb,0,none⟩)] f (qX n)∧mw F
 | none=>∃v,e=.returned (.tuple #[v,.bool false])
theorem FQ:mw 108:=fun _ _=>by kernel_rfl
theorem Ph:mw 40:=fun _ _=>by kernel_rfl
theorem Kv:mw 109:=fun _ _=>by kernel_rfl
theorem Ku:mw 110:=fun _ _=>by kernel_rfl
theorem Pk:mw 111:=fun _ _=>by kernel_rfl
theorem DP:mw 112:=fun _ _=>by kernel_rfl
theorem N0:mw 113:=fun _ _=>by kernel_rfl
theorem Pj:mw 114:=fun _ _=>by kernel_rfl
theorem MZ:mw 115:=fun _ _=>by kernel_rfl
theorem Kt:mw 116:=fun _ _=>by kernel_rfl
theorem DO:mw 117:=fun _ _=>by kernel_rfl
theorem A7(c:Cx)(hL:dg c)(n:Nat)(hm:n≤1099511627776)(s:ByteArray)(w:World):Calls Tryz.prog 83 #[.string s] w (UI c n s w):=by
 by_cases aK:s=dV
 · skip
   have hb:Hd (bG (rd c.s) n s=some (gL (rd c.s) n)):=by unfold Hd bG;rw[if_pos aK]
   have HF:=ae ((oS c hL n hm).mono (S:=qX n) (fun h=>(.inr (.inl h))));have bO:=kJ eR aK;clear hL hm aK;go_enter Tryz.func83,Tryz.ntmps83;go_wp2_with fail;go_returns;exact⟨sr,by rw[hb.out];exact⟨_,rfl,HF.o,FQ⟩⟩
 by_cases ct:s=hO
 · skip
   have hb:Hd (bG (rd c.s) n s=some (dL (rd c.s) n)):=by unfold Hd bG;rw[if_neg aK];rw[if_pos (show aN s=true by rw[ct];rfl)]
   have HF:=ae ((eY c hL n hm).mono (S:=qX n) (fun h=>(.inl h)));have bO:=bg eR aK;have fK:=bn bO;have eh:=kJ hG ct;clear hL hm aK ct;go_enter Tryz.func83,Tryz.ntmps83;go_wp2_with fail;go_returns;exact⟨sr,by rw[hb.out];exact⟨_,rfl,HF.o,Ph⟩⟩
 by_cases aV:s=l7
 · skip
   have hb:Hd (bG (rd c.s) n s=some (dL (rd c.s) n)):=by unfold Hd bG;rw[if_neg aK];rw[if_pos (show aN s=true by rw[aV];rfl)]
   have HF:=ae ((eY c hL n hm).mono (S:=qX n) (fun h=>(.inl h)));have bO:=bg eR aK;have fK:=bn bO;have eh:=bg hG ct;have kD:=bn eh;have cM:=kJ eS aV;clear hL hm aK ct aV;go_enter Tryz.func83,Tryz.ntmps83;go_wp2_with fail;go_returns;exact⟨sr,by rw[hb.out];exact⟨_,rfl,HF.o,Ph⟩⟩
 by_cases aE:s=ga
 · skip
   have hb:Hd (bG (rd c.s) n s=some (dL (rd c.s) n)):=by unfold Hd bG;rw[if_neg aK];rw[if_pos (show aN s=true by rw[aE];rfl)]
   have HF:=ae ((eY c hL n hm).mono (S:=qX n) (fun h=>(.inl h)));have bO:=bg eR aK;have fK:=bn bO;have eh:=bg hG ct;have kD:=bn eh;have cM:=bg eS aV;have gQ:=bn cM;have br:=kJ dp aE;clear hL hm aK ct aV aE;go_enter Tryz.func83,Tryz.ntmps83;go_wp2_with fail;go_returns;exact⟨sr,by rw[hb.out];exact⟨_,rfl,HF.o,Ph⟩⟩
 by_cases cB:s=fp
 · skip
   have hb:Hd (bG (rd c.s) n s=some (sA (rd c.s) n)):=by unfold Hd bG;rw[if_neg aK];rw[if_neg (show ¬aN s=true by unfold aN;simp[ct,aV,aE])];rw[if_pos cB]
   have HF:=ae ((qt c hL n hm).mono (S:=qX n) (fun h=>(.inr (.inr (.inl h)))));have bO:=bg eR aK;have fK:=bn bO;have eh:=bg hG ct;have kD:=bn eh;have cM:=bg eS aV;have gQ:=bn cM;have br:=bg dp aE;have eZ:=bn br;have eV:=kJ jS cB;clear hL hm aK ct aV aE cB;go_enter Tryz.func83,Tryz.ntmps83;go_wp2_with fail;go_returns;exact⟨sr,by rw[hb.out];exact⟨_,rfl,HF.o,Kv⟩⟩
 by_cases cZ:s=ka
 · skip
   have hb:Hd (bG (rd c.s) n s=some (bZ (rd c.s) ka (pA (rd c.s) n))):=by unfold Hd bG;rw[if_neg aK];rw[if_neg (show ¬aN s=true by unfold aN;simp[ct,aV,aE])];rw[if_neg cB];rw[if_pos cZ]
   have HF:=ae ((AZ c hL n hm).mono (S:=qX n) (fun h=>(.inr (.inr (.inr (.inl h))))));have bO:=bg eR aK;have fK:=bn bO;have eh:=bg hG ct;have kD:=bn eh;have cM:=bg eS aV;have gQ:=bn cM;have br:=bg dp aE;have eZ:=bn br;have eV:=bg jS cB;have mj:=bn eV;have fG:=kJ kS cZ;clear hL hm aK ct aV aE cB cZ;go_enter Tryz.func83,Tryz.ntmps83;go_wp2_with fail;go_returns;exact⟨sr,by rw[hb.out];exact⟨_,rfl,HF.o,Ku⟩⟩
 by_cases fo:s=iC
 · skip
   have hb:Hd (bG (rd c.s) n s=some (qA (rd c.s) n)):=by unfold Hd bG;rw[if_neg aK];rw[if_neg (show ¬aN s=true by unfold aN;simp[ct,aV,aE])];rw[if_neg cB];rw[if_neg cZ];rw[if_pos fo]
   have HF:=ae ((pN c hL n hm).mono (S:=qX n) (fun h=>(.inr (.inr (.inr (.inr (.inl h)))))));have bO:=bg eR aK;have fK:=bn bO;have eh:=bg hG ct;have kD:=bn eh;have cM:=bg eS aV;have gQ:=bn cM;have br:=bg dp aE;have eZ:=bn br;have eV:=bg jS cB;have mj:=bn eV;have fG:=bg kS cZ;have nB:=bn fG;have jZ:=kJ qC fo;clear hL hm aK ct aV aE cB cZ fo;go_enter Tryz.func83,Tryz.ntmps83;go_wp2_with fail;go_returns;exact⟨sr,by rw[hb.out];exact⟨_,rfl,HF.o,Pk⟩⟩
 by_cases cz:s=fE
 · skip
   have hb:Hd (bG (rd c.s) n s=some (bZ (rd c.s) fE (kt (rd c.s) n))):=by unfold Hd bG;rw[if_neg aK];rw[if_neg (show ¬aN s=true by unfold aN;simp[ct,aV,aE])];rw[if_neg cB];rw[if_neg cZ];rw[if_neg fo];rw[if_pos cz]
   have HF:=ae ((xG c hL n hm).mono (S:=qX n) (fun h=>(.inr (.inr (.inr (.inr (.inr (.inl h))))))));have bO:=bg eR aK;have fK:=bn bO;have eh:=bg hG ct;have kD:=bn eh;have cM:=bg eS aV;have gQ:=bn cM;have br:=bg dp aE;have eZ:=bn br;have eV:=bg jS cB;have mj:=bn eV;have fG:=bg kS cZ;have nB:=bn fG;have jZ:=bg qC fo;have vB:=bn jZ;have fa:=kJ ju cz;clear hL hm aK ct aV aE cB cZ fo cz;go_enter Tryz.func83,Tryz.ntmps83;go_wp2_with fail;go_returns;exact⟨sr,by rw[hb.out];exact⟨_,rfl,HF.o,DP⟩⟩
 by_cases fN:s=mU
 · skip
   have hb:Hd (bG (rd c.s) n s=some (bZ (rd c.s) mU (sD (rd c.s) n))):=by unfold Hd bG;rw[if_neg aK];rw[if_neg (show ¬aN s=true by unfold aN;simp[ct,aV,aE])];rw[if_neg cB];rw[if_neg cZ];rw[if_neg fo];rw[if_neg cz];rw[if_pos fN]
   have HF:=ae ((CP c hL n hm).mono (S:=qX n) (fun h=>(.inr (.inr (.inr (.inr (.inr (.inr (.inl h)))))))));have bO:=bg eR aK;have fK:=bn bO;have eh:=bg hG ct;have kD:=bn eh;have cM:=bg eS aV;have gQ:=bn cM;have br:=bg dp aE;have eZ:=bn br;have eV:=bg jS cB;have mj:=bn eV;have fG:=bg kS cZ;have nB:=bn fG;have jZ:=bg qC fo;have vB:=bn jZ;have fa:=bg ju cz;have mN:=bn fa;have lL:=kJ rH fN;clear hL hm aK ct aV aE cB cZ fo cz fN;go_enter Tryz.func83,Tryz.ntmps83;go_wp2_with fail;go_returns;exact⟨sr,by rw[hb.out];exact⟨_,rfl,HF.o,N0⟩⟩
 by_cases jD:s=qO
 · skip
   have hb:Hd (bG (rd c.s) n s=some (bZ (rd c.s) qO (xt (rd c.s) n))):=by unfold Hd bG;rw[if_neg aK];rw[if_neg (show ¬aN s=true by unfold aN;simp[ct,aV,aE])];rw[if_neg cB];rw[if_neg cZ];rw[if_neg fo];rw[if_neg cz];rw[if_neg fN];rw[if_pos jD]
   have HF:=ae ((Eg c hL n hm).mono (S:=qX n) (fun h=>(.inr (.inr (.inr (.inr (.inr (.inr (.inr (.inl h))))))))));have bO:=bg eR aK;have fK:=bn bO;have eh:=bg hG ct;have kD:=bn eh;have cM:=bg eS aV;have gQ:=bn cM;have br:=bg dp aE;have eZ:=bn br;have eV:=bg jS cB;have mj:=bn eV;have fG:=bg kS cZ;have nB:=bn fG;have jZ:=bg qC fo;have vB:=bn jZ;have fa:=bg ju cz;have mN:=bn fa;have lL:=bg rH fN;have yU:=bn lL;have qJ:=kJ yD jD;clear hL hm aK ct aV aE cB cZ fo cz fN jD;go_enter Tryz.func83,Tryz.ntmps83;go_wp2_with fail;go_returns;exact⟨sr,by rw[hb.out];exact⟨_,rfl,HF.o,Pj⟩⟩
 by_cases jO:s=mT
 · skip
   have hb:Hd (bG (rd c.s) n s=some (bZ (rd c.s) mT (sy (rd c.s) n))):=by unfold Hd bG;rw[if_neg aK];rw[if_neg (show ¬aN s=true by unfold aN;simp[ct,aV,aE])];rw[if_neg cB];rw[if_neg cZ];rw[if_neg fo];rw[if_neg cz];rw[if_neg fN];rw[if_neg jD];rw[if_pos jO]
   have HF:=ae ((CM c hL n hm).mono (S:=qX n) (fun h=>(.inr (.inr (.inr (.inr (.inr (.inr (.inr (.inr (.inl h)))))))))));have bO:=bg eR aK;have fK:=bn bO;have eh:=bg hG ct;have kD:=bn eh;have cM:=bg eS aV;have gQ:=bn cM;have br:=bg dp aE;have eZ:=bn br;have eV:=bg jS cB;have mj:=bn eV;have fG:=bg kS cZ;have nB:=bn fG;have jZ:=bg qC fo;have vB:=bn jZ;have fa:=bg ju cz;have mN:=bn fa;have lL:=bg rH fN;have yU:=bn lL;have qJ:=bg yD jD;have GY:=bn qJ;have rX:=kJ yE jO;clear hL hm aK ct aV aE cB cZ fo cz fN jD jO;go_enter Tryz.func83,Tryz.ntmps83;go_wp2_with fail;go_returns;exact⟨sr,by rw[hb.out];exact⟨_,rfl,HF.o,MZ⟩⟩
 by_cases kY:s=fZ
 · skip
   have hb:Hd (bG (rd c.s) n s=some (oN (rd c.s) n)):=by unfold Hd bG;rw[if_neg aK];rw[if_neg (show ¬aN s=true by unfold aN;simp[ct,aV,aE])];rw[if_neg cB];rw[if_neg cZ];rw[if_neg fo];rw[if_neg cz];rw[if_neg fN];rw[if_neg jD];rw[if_neg jO];rw[if_pos kY]
   have HF:=ae ((xF c hL n hm).mono (S:=qX n) (fun h=>(.inr (.inr (.inr (.inr (.inr (.inr (.inr (.inr (.inr (.inl h))))))))))));have bO:=bg eR aK;have fK:=bn bO;have eh:=bg hG ct;have kD:=bn eh;have cM:=bg eS aV;have gQ:=bn cM;have br:=bg dp aE;have eZ:=bn br;have eV:=bg jS cB;have mj:=bn eV;have fG:=bg kS cZ;have nB:=bn fG;have jZ:=bg qC fo;have vB:=bn jZ;have fa:=bg ju cz;have mN:=bn fa;have lL:=bg rH fN;have yU:=bn lL;have qJ:=bg yD jD;have GY:=bn qJ;have rX:=bg yE jO;have Js:=bn rX;have vE:=kJ zH kY;clear hL hm aK ct aV aE cB cZ fo cz fN jD jO kY;go_enter Tryz.func83,Tryz.ntmps83;go_wp2_with fail;go_returns;exact⟨sr,by rw[hb.out];exact⟨_,rfl,HF.o,Kt⟩⟩
 by_cases kX:s=fD
 · skip
   have hb:Hd (bG (rd c.s) n s=some (bZ (rd c.s) fD (gZ (rd c.s) n))):=by unfold Hd bG;rw[if_neg aK];rw[if_neg (show ¬aN s=true by unfold aN;simp[ct,aV,aE])];rw[if_neg cB];rw[if_neg cZ];rw[if_neg fo];rw[if_neg cz];rw[if_neg fN];rw[if_neg jD];rw[if_neg jO];rw[if_neg kY];rw[if_pos kX]
   have HF:=ae ((ua c hL n hm).mono (S:=qX n) (fun h=>(.inr (.inr (.inr (.inr (.inr (.inr (.inr (.inr (.inr (.inr h))))))))))));have bO:=bg eR aK;have fK:=bn bO;have eh:=bg hG ct;have kD:=bn eh;have cM:=bg eS aV;have gQ:=bn cM;have br:=bg dp aE;have eZ:=bn br;have eV:=bg jS cB;have mj:=bn eV;have fG:=bg kS cZ;have nB:=bn fG;have jZ:=bg qC fo;have vB:=bn jZ;have fa:=bg ju cz;have mN:=bn fa;have lL:=bg rH fN;have yU:=bn lL;have qJ:=bg yD jD;have GY:=bn qJ;have rX:=bg yE jO;have Js:=bn rX;have vE:=bg zH kY;have NW:=bn vE;have yZ:=kJ yC kX;clear hL hm aK ct aV aE cB cZ fo cz fN jD jO kY kX;go_enter Tryz.func83,Tryz.ntmps83;go_wp2_with fail;go_returns;exact⟨sr,by rw[hb.out];exact⟨_,rfl,HF.o,DO⟩⟩
 have hb:Hd (bG (rd c.s) n s=none):=by unfold Hd bG;rw[if_neg aK,if_neg (show ¬aN s=true by unfold aN;simp[ct,aV,aE]),if_neg cB,if_neg cZ,if_neg fo,if_neg cz,if_neg fN,if_neg jD,if_neg jO,if_neg kY,if_neg kX]
 have bO:=bg eR aK;have fK:=bn bO;have eh:=bg hG ct;have kD:=bn eh;have cM:=bg eS aV;have gQ:=bn cM;have br:=bg dp aE;have eZ:=bn br;have eV:=bg jS cB;have mj:=bn eV;have fG:=bg kS cZ;have nB:=bn fG;have jZ:=bg qC fo;have vB:=bn jZ;have fa:=bg ju cz;have mN:=bn fa;have lL:=bg rH fN;have yU:=bn lL;have qJ:=bg yD jD;have GY:=bn qJ;have rX:=bg yE jO;have Js:=bn rX;have vE:=bg zH kY;have NW:=bn vE;have yZ:=bg yC kX;have SV:=bn yZ;clear hL hm aK ct aV aE cB cZ fo cz fN jD jO kY kX;go_enter Tryz.func83,Tryz.ntmps83;go_wp2_with fail;go_returns;exact⟨sr,by rw[hb.out];exact⟨_,rfl⟩⟩
def P1(c:Cx)(n:Nat)(t:Tok)(w:World)(r:PR (List Nd))(e:Value)(wx:World):Prop:=
 ∃u:Tok,Hd ((if u.kind≠(15:Int) then(.err u.start:PR (List Nd)) else match bG (rd c.s) n u.val with| some f=>f t|none=>.err u.start)=r)∧Hd (wx.heap[w.heap.size]?=some (aU u))∧Hd (gb c t wx)∧Hd (Sm [c.pb,c.vb] w wx)∧Hd (uh c.s u)
theorem Qx{X:List Nat}{w w':World}{k:Nat}(h:Sm X w w')(hk:w.heap.size≤k)(a b c d:Value):Sm X w ((((w'.setCell ⟨k,0,none⟩ a).setCell ⟨k,1,none⟩ b).setCell ⟨k,2,none⟩ c).setCell ⟨k,3,none⟩ d):=
 (((h.setCell (p:=⟨k,0,none⟩) (.inl hk) _).setCell (p:=⟨k,1,none⟩) (.inl hk) _).setCell (p:=⟨k,2,none⟩) (.inl hk) _).setCell (p:=⟨k,3,none⟩) (.inl hk) _
theorem ye.one{c:Cx}{t:Tok}{w w':World}{e:Ending}(h:ye c t w e w')(ho:rd c.s t.stop≠.eo) :
 (∃u,rd c.s t.stop=.tok u∧e=.returned (.tuple #[kg u,.nilIface])∧Hd (gb c t w')∧Hd (uh c.s u)∧Hd (Sm [c.pb,c.vb] w w')) ∨
 (∃p v u,rd c.s t.stop=.err p∧e=.returned (.tuple #[kg v,.iface 51 u])∧Hd (rj c p w w' u)∧Hd (Sm [c.pb,c.vb] w w')):=by
 obtain⟨h1,h2⟩:=h
 cases hr:rd c.s t.stop with
 | tok u=>rw[hr] at h2;exact .inl ⟨u,rfl,h2.1,h2.2.1,h2.2.2,h1⟩
 | err p=>rw[hr] at h2;obtain⟨v,u,h3,h4⟩:=h2;exact .inr ⟨p,v,u,rfl,h3,h4,h1⟩
 | eo=>exact absurd hr ho
theorem Qy{X:List Nat}{w w':World}{k:Nat}(h:Sm X w w')(hk:w.heap.size≤k∨k∈X)(a b c d:Value):Sm X w ((((w'.setCell ⟨k,0,none⟩ a).setCell ⟨k,1,none⟩ b).setCell ⟨k,2,none⟩ c).setCell ⟨k,3,none⟩ d):=
 (((h.setCell (p:=⟨k,0,none⟩) hk _).setCell (p:=⟨k,1,none⟩) hk _).setCell (p:=⟨k,2,none⟩) hk _).setCell (p:=⟨k,3,none⟩) hk _
theorem NV{α:Type}{c:Cx}{R:au α}{r:PR α}{w w':World}{p:Nat}{v u:Value}(hr:r=.err p)(hs:Sm [c.pb,c.vb] w w')(he:rj c p w w' u):wN c R r w (.returned (.tuple #[v,.iface 51 u])) w':=by subst hr;exact⟨hs,v,u,rfl,he⟩
theorem wu(c:Cx)(hL:dg c)(n:Nat)(hm:n≤1099511627776):aS c 41 #[.pointer (some ⟨c.pb,0,none⟩)] (fh (rd c.s) n) (qX n):=by
 have ZF:=ae (oE c);have ZC:=ae (E8 c hL);have M0:=ae (va c);have HZZ:=ae (A7 c hL n hm);clear hL hm;refine fj fun t w r hr (HO:Hd _) h=>?_;unfold fh at hr;have bH:=ae hr;have aD:=ae h;have c5:=h.c5;have c6:=h.c6;have c7:=h.c7;have c8:=h.c8;have Ay:Hd (c.pb<w.heap.size∧c.vb<w.heap.size):=⟨h.lt,h.wh⟩;clear h hr;go_enter Tryz.func41,Tryz.ntmps41;go_wp2_with fail;have ya:Hd (Sm [] w (w.alloc (aU t))):=(Sm.refl [] w).alloc _;have HB0:Hd ((w.alloc (aU t)).heap[w.heap.size]?=some (aU t)):=ai _ _;refine(ZF.o t _ (aD.o.cI ya.o)).mono ?_;rintro e w1 ⟨rfl,cJ⟩;have av:Hd (Sm [] w w1):=ya.o.trans cJ;have EC:Hd (w1.heap[w.heap.size]?=some (aU t)):=cJ.obj HB0.o (by simp);have ZM:Hd (w.heap.size<w1.heap.size):=lt_of_block EC.o;clear cJ c5 c6 c7 c8;by_cases hd:t.kind=18∨t.kind=19
 · have yd:decide (t.kind=18∨t.kind=19)=true:=by simpa using hd
   have hr:=bH.o;rw[if_pos hd] at hr;have dZ:=ae hr;have oB:Hd (rd c.s t.stop≠.eo):=fun e=>by have h1:=dZ.o;rw[e] at h1;exact HO.o h1.symm
   clear hr hd;rw[yd];go_upto_if 13 with fail
   go_cut [5] from 14 to 21 (fun e wx=>P1 c n t w r e wx)
   case first=>
    go_wp2_with fail;refine(ZC.o t _ (aD.o.cI av.o) oB.o).mono ?_;intro e w2 h1;rcases h1.one oB.o with⟨u,hx,rfl,aW,ML,ax⟩|⟨p,v,u,hx,rfl,HU,ax⟩
    · have dN:Hd ((if u.kind≠15 then(.err u.start:PR (List Nd)) else match bG (rd c.s) n u.val with| some f=>f t|none=>.err u.start)=r):=by
       have h2:=dZ.o;rw[hx] at h2;exact h2
      have hb:=ax.o.obj EC.o (by have:=Ay.o;simp;omega);have z0:w2.cell? ⟨w.heap.size,0,none⟩=some (.int .i64 t.kind):=cell_of hb rfl;have z1:w2.cell? ⟨w.heap.size,1,none⟩=some (.int .i64 (t.start:Int)):=cell_of hb rfl;have z2:w2.cell? ⟨w.heap.size,2,none⟩=some (.int .i64 (t.stop:Int)):=cell_of hb rfl;have z3:w2.cell? ⟨w.heap.size,3,none⟩=some (.string t.val):=cell_of hb rfl;have f0:=aF hb 0;have f1:=aF hb 1;have f2:=aF hb 2;have f3:=aF hb 3;have Tr:=ae hb;clear hx h1 hb;unfold kg;go_wp2_with fail;go_meet;unfold P1;exact⟨u,dN,C8 Tr.o u,aW.o.new aD.o (pS _ _ _ _) (fun q hq=>by simp at hq;omega),Qx (av.o.of_nil.trans ax.o) lr _ _ _ _,ML⟩
    · have fv:Hd (r=.err p):=by
       have h2:=dZ.o;rw[hx] at h2;exact h2.symm
      have hb:=ax.o.obj EC.o (by have:=Ay.o;simp;omega);have z0:w2.cell? ⟨w.heap.size,0,none⟩=some (.int .i64 t.kind):=cell_of hb rfl;have z1:w2.cell? ⟨w.heap.size,1,none⟩=some (.int .i64 (t.start:Int)):=cell_of hb rfl;have z2:w2.cell? ⟨w.heap.size,2,none⟩=some (.int .i64 (t.stop:Int)):=cell_of hb rfl;have z3:w2.cell? ⟨w.heap.size,3,none⟩=some (.string t.val):=cell_of hb rfl;have f0:=aF hb 0;have f1:=aF hb 1;have f2:=aF hb 2;have f3:=aF hb 3;clear hx h1 hb;unfold kg;go_wp2_with fail;go_returns;exact NV fv.o (Qy (av.o.of_nil.trans ax.o) (.inl lr) _ _ _ _) (HU.o.sm (pS _ _ _ _) (fun q hq=>by have:=ZM.o;simp at hq;omega) av.o.size)
   case rest=>
    unfold P1 at hcut;obtain⟨u,Kl,Ry,Kf,RD,ML⟩:=hcut;clear yd;have b0:wc.cell? ⟨w.heap.size,0,none⟩=some (.int .i64 u.kind):=cell_of Ry.o rfl;have b1:wc.cell? ⟨w.heap.size,1,none⟩=some (.int .i64 (u.start:Int)):=cell_of Ry.o rfl;have b2:wc.cell? ⟨w.heap.size,2,none⟩=some (.int .i64 (u.stop:Int)):=cell_of Ry.o rfl;have b3:wc.cell? ⟨w.heap.size,3,none⟩=some (.string u.val):=cell_of Ry.o rfl;by_cases hk:u.kind=15
    · have hr:=Kl.o;rw[if_neg (fun e=>e hk)] at hr;have dN:=ae hr;have yk:(u.kind !=15)=false:=by simpa using hk
      clear hr hk Kl;go_wp2_with fail;refine(HZZ.o u.val _).mono ?_;rintro e w4 ⟨vZ,h4⟩;have cy:=ae vZ;have RE:Hd (Sm [c.pb,c.vb] w w4):=RD.o.trans vZ.of_nil;have OO:Hd (gb c t w4):=Kf.o.cI vZ;have d0:=vZ.keeps b0 (by simp);have d1:=vZ.keeps b1 (by simp);have d2:=vZ.keeps b2 (by simp);have d3:=vZ.keeps b3 (by simp);clear vZ
      cases hw:bG (rd c.s) n u.val with
      | none=>
       rw[hw] at h4;obtain⟨v,rfl⟩:=h4;have fv:Hd (r=.err u.start):=by have h2:=dN.o;rw[hw] at h2;exact h2.symm
       clear hw dN b0 b1 b2 b3;go_wp2_with fail;refine(M0.o t u _ OO.o ML.o).mono ?_;rintro e w5 ⟨v2,rfl,(HU:Hd _),(dK:Hd _)⟩;go_wp2_with fail;go_returns
       exact aA fv.o RE.o HU.o dK.o.of_nil
      | some f=>
       rw[hw] at h4;obtain⟨F,rfl,hF,hC⟩:=h4;have HF:=ae hF;have Uw:Hd (f t=r):=by have h2:=dN.o;rw[hw] at h2;exact h2
       have Ig:Hd (f t≠.eo):=fun e=>HO.o (Uw.o.symm.trans e);unfold mw at hC;clear hw dN b0 b1 b2 b3 hF d0 d1 d2 d3;go_wp2_with fail;refine(HF.o t _ OO.o Ig.o).mono ?_;intro e w5 h1;rcases h1.cases Ig.o with⟨x5,t5,v5,hx,rfl,oG,bX,dK⟩|⟨p,v,u5,hx,rfl,HU,dK⟩
       · have HX:=ae (Uw.o.symm.trans hx);clear hx h1 hC;go_wp2_with fail;go_returns;exact aG HX.o (RE.o.trans dK.o) (au.wide _ oG.o RE.o.size lr) bX.o
       · have HX:=ae (Uw.o.symm.trans hx);clear hx h1 hC;go_wp2_with fail;go_returns;exact aA HX.o RE.o HU.o dK.o
    · have hr:=Kl.o;rw[if_pos hk] at hr;have fv:Hd (r=.err u.start):=hr.symm;have yk:(u.kind !=15)=true:=by simpa using hk
      clear hr hk Kl;go_wp2_with fail;refine(M0.o t u _ Kf.o ML.o).mono ?_;rintro e w5 ⟨v2,rfl,(HU:Hd _),(dK:Hd _)⟩;go_wp2_with fail;go_returns;exact aA fv.o RD.o HU.o dK.o.of_nil
 · have yd:decide (t.kind=18∨t.kind=19)=false:=by simpa using hd
   have hr:=bH.o;rw[if_neg hd] at hr;have Kl:Hd ((if t.kind≠15 then(.err t.start:PR (List Nd)) else match bG (rd c.s) n t.val with| some f=>f t|none=>.err t.start)=r):=hr
   clear hr hd;have Ry:=EC;have Kf:Hd (gb c t w1):=aD.o.cI av.o;have RD:Hd (Sm [c.pb,c.vb] w w1):=av.o.of_nil;have ML:Hd (uh c.s t):=aD.o.tok;rw[yd];have b0:w1.cell? ⟨w.heap.size,0,none⟩=some (.int .i64 t.kind):=cell_of Ry.o rfl;have b1:w1.cell? ⟨w.heap.size,1,none⟩=some (.int .i64 (t.start:Int)):=cell_of Ry.o rfl;have b2:w1.cell? ⟨w.heap.size,2,none⟩=some (.int .i64 (t.stop:Int)):=cell_of Ry.o rfl;have b3:w1.cell? ⟨w.heap.size,3,none⟩=some (.string t.val):=cell_of Ry.o rfl;by_cases hk:t.kind=15
   · have hr:=Kl.o;rw[if_neg (fun e=>e hk)] at hr;have dN:=ae hr;have yk:(t.kind !=15)=false:=by simpa using hk
     clear hr hk Kl;go_wp2_with fail;refine(HZZ.o t.val _).mono ?_;rintro e w4 ⟨vZ,h4⟩;have cy:=ae vZ;have RE:Hd (Sm [c.pb,c.vb] w w4):=RD.o.trans vZ.of_nil;have OO:Hd (gb c t w4):=Kf.o.cI vZ;have d0:=vZ.keeps b0 (by simp);have d1:=vZ.keeps b1 (by simp);have d2:=vZ.keeps b2 (by simp);have d3:=vZ.keeps b3 (by simp);clear vZ
     cases hw:bG (rd c.s) n t.val with
     | none=>
      rw[hw] at h4;obtain⟨v,rfl⟩:=h4;have fv:Hd (r=.err t.start):=by have h2:=dN.o;rw[hw] at h2;exact h2.symm
      clear hw dN b0 b1 b2 b3;go_wp2_with fail;refine(M0.o t t _ OO.o ML.o).mono ?_;rintro e w5 ⟨v2,rfl,(HU:Hd _),(dK:Hd _)⟩;go_wp2_with fail;go_returns
      exact aA fv.o RE.o HU.o dK.o.of_nil
     | some f=>
      rw[hw] at h4;obtain⟨F,rfl,hF,hC⟩:=h4;have HF:=ae hF;have Uw:Hd (f t=r):=by have h2:=dN.o;rw[hw] at h2;exact h2
      have Ig:Hd (f t≠.eo):=fun e=>HO.o (Uw.o.symm.trans e);unfold mw at hC;clear hw dN b0 b1 b2 b3 hF d0 d1 d2 d3;go_wp2_with fail;refine(HF.o t _ OO.o Ig.o).mono ?_;intro e w5 h1;rcases h1.cases Ig.o with⟨x5,t5,v5,hx,rfl,oG,bX,dK⟩|⟨p,v,u5,hx,rfl,HU,dK⟩
      · have HX:=ae (Uw.o.symm.trans hx);clear hx h1 hC;go_wp2_with fail;go_returns;exact aG HX.o (RE.o.trans dK.o) (au.wide _ oG.o RE.o.size lr) bX.o
      · have HX:=ae (Uw.o.symm.trans hx);clear hx h1 hC;go_wp2_with fail;go_returns;exact aA HX.o RE.o HU.o dK.o
   · have hr:=Kl.o;rw[if_pos hk] at hr;have fv:Hd (r=.err t.start):=hr.symm;have yk:(t.kind !=15)=true:=by simpa using hk
     clear hr hk Kl;go_wp2_with fail;refine(M0.o t t _ Kf.o ML.o).mono ?_;rintro e w5 ⟨v2,rfl,(HU:Hd _),(dK:Hd _)⟩;go_wp2_with fail;go_returns;exact aA fv.o RD.o HU.o dK.o.of_nil
theorem vo:(Tryz.prog.info? 96).map (fun i=>(i.zero,i.size,i.bytes))=some (some .nilIface,1,16):=by kernel_rfl
theorem yP(c:Cx)(hL:dg c)(n:Nat)(hm:n≤1099511627776):aS c 21 #[.pointer (some ⟨c.pb,0,none⟩)] (iX (rd c.s) n) (UU n):=by
 have Km:=ae (od c hL 1);have HFO:=ae ((eY c hL n hm).mono (S:=qX n) (fun h=>(.inl h)));have Zy:=ae (wu c hL n hm);have M0:=ae (oz c);have ic:=ae (vk c);have jk:=ae AU;have HM:=ae hm;clear hL hm;refine fj fun t w r hr (HO:Hd _) h=>?_;unfold iX at hr;have dZ:=ae hr;have aD:=ae h;have c6:=h.c6;have Bu:=ae (aH dZ HO);have HZ:Hd (c.pb<w.heap.size∧c.vb<w.heap.size):=⟨aD.o.lt,aD.o.wh⟩;obtain⟨r',nj⟩:∃r',bj (rd c.s) (bC (rd c.s) n) 1 n [] t=r':=⟨_,rfl⟩;have dN:=ae nj;have oB:Hd (r'≠.eo):=by have:=Bu.o;rw[nj] at this;exact this
 have HK:Hd (∀l t',r'=.ok l t'→r=.ok (made {kind:=1} l) t'):=fun l t' e=>(bK dZ (nj.trans e)).out.symm;have Ib:Hd (∀p,r'=.err p→r=.err p):=fun p e=>bc dZ (nj.trans e);clear hr nj Bu dZ h;go_enter Tryz.func21,Tryz.ntmps21;go_wp2_with fail
 go_loopg [4] n (fun g v wr=>jl c (qX n) 96 (bC (rd c.s) n) 1 n w r' g v wr)
 case atStart=>unfold jl;exact⟨[],t,[],none,0,by simp,rfl,dN,aD,MC _ _ _,.nil,sr⟩
 case round=>
  unfold jl at hrel;obtain⟨acc,t2,vs,a,k,hlen,rfl,HI,aW,mx,mX,ax⟩:=hrel
  obtain⟨m',rfl⟩:∃m',gk=m'+1:=by
   cases gk with
   | zero=>exact absurd HI.o.symm oB.o
   | succ m'=>exact⟨m',rfl⟩
  have px:Hd ((ft (rd c.s) 1>>=fun b=>if b=true then pure acc else(bC (rd c.s) n)>>=fun x=>bj (rd c.s) (bC (rd c.s) n) 1 m' (acc++[x])) t2=r'):=HI.o;clear HI c6;go_wp2_with fail;refine(Km.o t2 _ aW.o (aH px oB)).mono ?_;intro e w3 h1;rcases h1.cases (aH px oB) with⟨x3,t3,v3,hx,rfl,ib,bT,aO⟩|⟨p,v,u,hx,rfl,HU,aO⟩
  rotate_left
  · have fv:=ae (Ib.o _ (bc px hx));clear hx h1;go_wp2_with fail;go_returns;exact aA fv.o ax.o HU.o aO.o
  have hv:v3=.bool x3:=ib.o;subst hv;have FA:=bK px hx;clear hx h1 px;have tO:Hd (∀q,q∈[c.pb,c.vb]→q<w.heap.size):=fun q hq=>by have:=HZ.o;simp at hq;omega
  cases x3 with
  | true=>
   have Ab:Hd (r=.ok (made {kind:=1} acc) t3):=HK.o acc t3 FA.o.symm
   have Hz:Hd ((au.list (qX n)).rd w.heap.size w3.heap.size w3 (.slice a acc.length k) acc):=
    cW (er mx.o aO.o tO.o) (mX.o.sm aO.o tO.o)
   clear FA;go_wp2_with fail;refine(ic.o t3 _ _ bT.o).mono ?_;rintro e wl ⟨lb,i,j2,sp,rfl,cO,lC,fM⟩;go_wp2_with fail;refine(jk.o _ ⟨#[]⟩ (some ⟨lb,0,none⟩) a acc.length k _ (ai _ _)).mono ?_;rintro e wn ⟨nb,ks,rfl,dC,fO,fH⟩;have HQ:=dP fO;go_wp2_with fail;go_returns;have y1:=(ax.o.trans aO.o).size;have zl:=cO.size;have zn:=fH;simp at zn
   exact aG Ab.o ((ax.o.trans aO.o).trans (cO.trans HQ.o).of_nil) (RY n dC (by omega) (lt_of_block dC) (bY fM HQ.o (by omega) lr) ((au.list _).wide (au.sm Hz.o (cO.trans HQ.o) lr (fun q hq=>by cases hq)) lr (cO.trans HQ.o).size)) (bT.o.cI (cO.trans HQ.o))
  | false=>
   have wJ:Hd (((bC (rd c.s) n)>>=fun x=>bj (rd c.s) (bC (rd c.s) n) 1 m' (acc++[x])) t3=r'):=FA.o;have YL:=ae (aH wJ oB);have c5:=bT.o.c5;clear FA;by_cases lq:t3.kind=12
   · have Ie:Hd ((bC (rd c.s) n) t3=dL (rd c.s) n t3):=by
      unfold Hd bC;rw[if_pos lq]
     have Ig:Hd (dL (rd c.s) n t3≠.eo):=fun e=>YL.o (Ie.o.trans e);have Ke:(t3.kind==12)=true:=by simpa using lq
     clear lq;go_wp2_with fail;refine(HFO.o t3 _ bT.o Ig.o).mono ?_;intro e w4 h1;rcases h1.cases Ig.o with⟨x4,t4,v4,hx,rfl,jc,dJ,cy⟩|⟨p,v,u,hx,rfl,HU,cy⟩
     rotate_left
     · have fv:=ae (Ib.o _ (bc wJ (Ie.o.trans hx)));clear hx h1;go_wp2_with fail;go_returns;exact aA fv.o (ax.o.trans aO.o) HU.o cy.o
     have vV:=bK wJ (Ie.o.trans hx);obtain⟨ty,uu,hv⟩:=(Gi n).out jc.o;subst hv;have o6:=tO.o;have vl:w.heap.size≤w3.heap.size:=(ax.o.trans aO.o).size;have Gd:w3.heap.size≤w4.heap.size:=cy.o.size;have lT:=er mx.o aO.o o6;have how:=er lT cy.o o6;have xg:=ae (mX.o.sm aO.o o6);have xh:=ae lT;have HL:=ae vl;have MN:=ae Gd;have wL:=ae hlen;have de:(acc.length+1)*16≤140737488355328:=by have:=HM.o;omega
     clear hx h1 wJ lT o6;go_wp2_with (at_builtin;refine gH _ rfl _ _ _ rfl 96 _ 1 16 Tryz.underlying53 vo rfl (by omega) (by omega) _ acc.length vs rfl how _ rfl rfl (by simp[Value.oneCell']) de (by omega) ?_);intro g dM w' aQ (HG:Hd _) bV ea;have qU:Hd (w'.ownsRow w.heap.size 96 1 (.slice (some ⟨g,0,none⟩) (acc.length+1) dM) (acc.length+1) (vs++[.iface ty uu])):=by unfold Hd;simpa using aQ
     have bX:Hd (Value.ownBlock (.slice a acc.length k)=some g∨w4.heap.size≤g):=bV.imp id (fun e=>by omega);have iD:=ae how;clear aQ bV ea how de;go_wp2_with fail;go_roundg m'
     case measure=>omega
     case rel=>
      unfold jl;have iq:∀q,Value.ownBlock (.slice a acc.length k)=some q→w.heap.size≤q:=fun q hq=>(iD.o.lt q hq).1;refine⟨acc++[x4],t4,vs++[.iface ty uu],some ⟨g,0,none⟩,dM,by have:=wL.o;simp;omega,by simp,vV,?_,?_,?_,?_⟩
      · exact dJ.o.grown aD.o HG.o iq
      · have:=qU.out;unfold Hd;simpa using this
      · refine bP.push (W:=w4) xg.o MN.o (fun q q1 q2=>cy.o.block q q2 (fun hq=>by have:=tO.o q hq;omega)) xh.o HG.o bX.o HL.o lr lr jc.o
      · exact((ax.o.trans aO.o).trans cy.o).grown HG.o (fun q hq=>.inl (iq q hq))
   by_cases ml:t3.kind=15
   · have Ie:Hd ((bC (rd c.s) n) t3=fh (rd c.s) n t3):=by
      unfold Hd bC;rw[if_neg lq,if_pos (.inl ml)]
     have Ig:Hd (fh (rd c.s) n t3≠.eo):=fun e=>YL.o (Ie.o.trans e);have Ke:(t3.kind==12)=false:=by simpa using lq
     have OJ:(t3.kind==15)=true:=by simpa using ml
     clear lq ml;go_wp2_with fail;refine(Zy.o t3 _ bT.o Ig.o).mono ?_;intro e w4 h1;rcases h1.cases Ig.o with⟨x4,t4,v4,hx,rfl,jc,dJ,cy⟩|⟨p,v,u,hx,rfl,HU,cy⟩
     rotate_left
     · have fv:=ae (Ib.o _ (bc wJ (Ie.o.trans hx)));clear hx h1;go_wp2_with fail;go_returns;exact aA fv.o (ax.o.trans aO.o) HU.o cy.o
     have vV:=bK wJ (Ie.o.trans hx);obtain⟨ty,uu,hv⟩:=(Gi n).out jc.o;subst hv;have o6:=tO.o;have vl:w.heap.size≤w3.heap.size:=(ax.o.trans aO.o).size;have Gd:w3.heap.size≤w4.heap.size:=cy.o.size;have lT:=er mx.o aO.o o6;have how:=er lT cy.o o6;have xg:=ae (mX.o.sm aO.o o6);have xh:=ae lT;have HL:=ae vl;have MN:=ae Gd;have wL:=ae hlen;have de:(acc.length+1)*16≤140737488355328:=by have:=HM.o;omega
     clear hx h1 wJ lT o6;go_wp2_with (at_builtin;refine gH _ rfl _ _ _ rfl 96 _ 1 16 Tryz.underlying53 vo rfl (by omega) (by omega) _ acc.length vs rfl how _ rfl rfl (by simp[Value.oneCell']) de (by omega) ?_);intro g dM w' aQ (HG:Hd _) bV ea;have qU:Hd (w'.ownsRow w.heap.size 96 1 (.slice (some ⟨g,0,none⟩) (acc.length+1) dM) (acc.length+1) (vs++[.iface ty uu])):=by unfold Hd;simpa using aQ
     have bX:Hd (Value.ownBlock (.slice a acc.length k)=some g∨w4.heap.size≤g):=bV.imp id (fun e=>by omega);have iD:=ae how;clear aQ bV ea how de;go_wp2_with fail;go_roundg m'
     case measure=>omega
     case rel=>
      unfold jl;have iq:∀q,Value.ownBlock (.slice a acc.length k)=some q→w.heap.size≤q:=fun q hq=>(iD.o.lt q hq).1;refine⟨acc++[x4],t4,vs++[.iface ty uu],some ⟨g,0,none⟩,dM,by have:=wL.o;simp;omega,by simp,vV,?_,?_,?_,?_⟩
      · exact dJ.o.grown aD.o HG.o iq
      · have:=qU.out;unfold Hd;simpa using this
      · refine bP.push (W:=w4) xg.o MN.o (fun q q1 q2=>cy.o.block q q2 (fun hq=>by have:=tO.o q hq;omega)) xh.o HG.o bX.o HL.o lr lr jc.o
      · exact((ax.o.trans aO.o).trans cy.o).grown HG.o (fun q hq=>.inl (iq q hq))
   by_cases mf:t3.kind=18
   · have Ie:Hd ((bC (rd c.s) n) t3=fh (rd c.s) n t3):=by
      unfold Hd bC;rw[if_neg lq,if_pos (.inr (.inl mf))]
     have Ig:Hd (fh (rd c.s) n t3≠.eo):=fun e=>YL.o (Ie.o.trans e);have Ke:(t3.kind==12)=false:=by simpa using lq
     have OJ:(t3.kind==15)=false:=by simpa using ml
     have Rr:(t3.kind==18)=true:=by simpa using mf
     clear lq ml mf;go_wp2_with fail;refine(Zy.o t3 _ bT.o Ig.o).mono ?_;intro e w4 h1;rcases h1.cases Ig.o with⟨x4,t4,v4,hx,rfl,jc,dJ,cy⟩|⟨p,v,u,hx,rfl,HU,cy⟩
     rotate_left
     · have fv:=ae (Ib.o _ (bc wJ (Ie.o.trans hx)));clear hx h1;go_wp2_with fail;go_returns;exact aA fv.o (ax.o.trans aO.o) HU.o cy.o
     have vV:=bK wJ (Ie.o.trans hx);obtain⟨ty,uu,hv⟩:=(Gi n).out jc.o;subst hv;have o6:=tO.o;have vl:w.heap.size≤w3.heap.size:=(ax.o.trans aO.o).size;have Gd:w3.heap.size≤w4.heap.size:=cy.o.size;have lT:=er mx.o aO.o o6;have how:=er lT cy.o o6;have xg:=ae (mX.o.sm aO.o o6);have xh:=ae lT;have HL:=ae vl;have MN:=ae Gd;have wL:=ae hlen;have de:(acc.length+1)*16≤140737488355328:=by have:=HM.o;omega
     clear hx h1 wJ lT o6;go_wp2_with (at_builtin;refine gH _ rfl _ _ _ rfl 96 _ 1 16 Tryz.underlying53 vo rfl (by omega) (by omega) _ acc.length vs rfl how _ rfl rfl (by simp[Value.oneCell']) de (by omega) ?_);intro g dM w' aQ (HG:Hd _) bV ea;have qU:Hd (w'.ownsRow w.heap.size 96 1 (.slice (some ⟨g,0,none⟩) (acc.length+1) dM) (acc.length+1) (vs++[.iface ty uu])):=by unfold Hd;simpa using aQ
     have bX:Hd (Value.ownBlock (.slice a acc.length k)=some g∨w4.heap.size≤g):=bV.imp id (fun e=>by omega);have iD:=ae how;clear aQ bV ea how de;go_wp2_with fail;go_roundg m'
     case measure=>omega
     case rel=>
      unfold jl;have iq:∀q,Value.ownBlock (.slice a acc.length k)=some q→w.heap.size≤q:=fun q hq=>(iD.o.lt q hq).1;refine⟨acc++[x4],t4,vs++[.iface ty uu],some ⟨g,0,none⟩,dM,by have:=wL.o;simp;omega,by simp,vV,?_,?_,?_,?_⟩
      · exact dJ.o.grown aD.o HG.o iq
      · have:=qU.out;unfold Hd;simpa using this
      · refine bP.push (W:=w4) xg.o MN.o (fun q q1 q2=>cy.o.block q q2 (fun hq=>by have:=tO.o q hq;omega)) xh.o HG.o bX.o HL.o lr lr jc.o
      · exact((ax.o.trans aO.o).trans cy.o).grown HG.o (fun q hq=>.inl (iq q hq))
   by_cases mn:t3.kind=19
   · have Ie:Hd ((bC (rd c.s) n) t3=fh (rd c.s) n t3):=by
      unfold Hd bC;rw[if_neg lq,if_pos (.inr (.inr mn))]
     have Ig:Hd (fh (rd c.s) n t3≠.eo):=fun e=>YL.o (Ie.o.trans e);have Ke:(t3.kind==12)=false:=by simpa using lq
     have OJ:(t3.kind==15)=false:=by simpa using ml
     have Rr:(t3.kind==18)=false:=by simpa using mf
     have Rs:(t3.kind==19)=true:=by simpa using mn
     clear lq ml mf mn;go_wp2_with fail;refine(Zy.o t3 _ bT.o Ig.o).mono ?_;intro e w4 h1;rcases h1.cases Ig.o with⟨x4,t4,v4,hx,rfl,jc,dJ,cy⟩|⟨p,v,u,hx,rfl,HU,cy⟩
     rotate_left
     · have fv:=ae (Ib.o _ (bc wJ (Ie.o.trans hx)));clear hx h1;go_wp2_with fail;go_returns;exact aA fv.o (ax.o.trans aO.o) HU.o cy.o
     have vV:=bK wJ (Ie.o.trans hx);obtain⟨ty,uu,hv⟩:=(Gi n).out jc.o;subst hv;have o6:=tO.o;have vl:w.heap.size≤w3.heap.size:=(ax.o.trans aO.o).size;have Gd:w3.heap.size≤w4.heap.size:=cy.o.size;have lT:=er mx.o aO.o o6;have how:=er lT cy.o o6;have xg:=ae (mX.o.sm aO.o o6);have xh:=ae lT;have HL:=ae vl;have MN:=ae Gd;have wL:=ae hlen;have de:(acc.length+1)*16≤140737488355328:=by have:=HM.o;omega
     clear hx h1 wJ lT o6;go_wp2_with (at_builtin;refine gH _ rfl _ _ _ rfl 96 _ 1 16 Tryz.underlying53 vo rfl (by omega) (by omega) _ acc.length vs rfl how _ rfl rfl (by simp[Value.oneCell']) de (by omega) ?_);intro g dM w' aQ (HG:Hd _) bV ea;have qU:Hd (w'.ownsRow w.heap.size 96 1 (.slice (some ⟨g,0,none⟩) (acc.length+1) dM) (acc.length+1) (vs++[.iface ty uu])):=by unfold Hd;simpa using aQ
     have bX:Hd (Value.ownBlock (.slice a acc.length k)=some g∨w4.heap.size≤g):=bV.imp id (fun e=>by omega);have iD:=ae how;clear aQ bV ea how de;go_wp2_with fail;go_roundg m'
     case measure=>omega
     case rel=>
      unfold jl;have iq:∀q,Value.ownBlock (.slice a acc.length k)=some q→w.heap.size≤q:=fun q hq=>(iD.o.lt q hq).1;refine⟨acc++[x4],t4,vs++[.iface ty uu],some ⟨g,0,none⟩,dM,by have:=wL.o;simp;omega,by simp,vV,?_,?_,?_,?_⟩
      · exact dJ.o.grown aD.o HG.o iq
      · have:=qU.out;unfold Hd;simpa using this
      · refine bP.push (W:=w4) xg.o MN.o (fun q q1 q2=>cy.o.block q q2 (fun hq=>by have:=tO.o q hq;omega)) xh.o HG.o bX.o HL.o lr lr jc.o
      · exact((ax.o.trans aO.o).trans cy.o).grown HG.o (fun q hq=>.inl (iq q hq))
   · have Ie:Hd ((bC (rd c.s) n) t3=.err t3.start):=by
      unfold Hd bC;rw[if_neg lq,if_neg (fun e=>e.elim ml (fun e=>e.elim mf mn))]
     have fv:=ae (Ib.o _ (bc wJ Ie.o));have Ke:(t3.kind==12)=false:=by simpa using lq
     have OJ:(t3.kind==15)=false:=by simpa using ml
     have Rr:(t3.kind==18)=false:=by simpa using mf
     have Rs:(t3.kind==19)=false:=by simpa using mn
     clear lq ml mf mn;go_wp2_with fail;refine(M0.o t3 _ bT.o).mono ?_;rintro e w4 ⟨u,rfl,(HU:Hd _),(cy:Hd _)⟩;go_wp2_with fail;go_returns;exact aA fv.o (ax.o.trans aO.o) HU.o cy.o.of_nil
end Go.Proofs.YtnpjmhodfdgloaaGreatDoor
