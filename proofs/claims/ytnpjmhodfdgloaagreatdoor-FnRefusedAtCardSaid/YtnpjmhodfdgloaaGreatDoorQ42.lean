/- Part of the proof. -/
import Derived.Lib.BufferOld
import Derived.Lib.RuneBytes
import Derived.Lib.Join
import Derived.Test.YtnpjmhodfdgloaaGreatDoorQ15
import Derived.Test.YtnpjmhodfdgloaaGreatDoorQ18
import Derived.Test.YtnpjmhodfdgloaaGreatDoorQ41
set_option linter.unusedVariables false
set_option linter.unusedSimpArgs false
namespace Go.Proofs.YtnpjmhodfdgloaaGreatDoor
set_option maxRecDepth 100000
set_option maxHeartbeats 32000000
open Go.RowKit
attribute [local go_sem ↓] Go.wp_at_zero Go.wp_at_succ
theorem S1(r:Int)(h0:0≤r)(h1:r≤1114111)(h2:¬(55296≤r∧r<57344)):Utf8.encode r=⟨(Lib.encodeRune r).toArray⟩:=by
 have hv:Utf8.valid r=true:=by unfold Utf8.valid;simp;omega
 unfold Utf8.encode;rw[hv];simp only[if_true];unfold Lib.encodeRune Lib.encodeRuneZ;by_cases c1:r≤127
 · rw[if_pos (show r.toNat<128 by omega),if_pos ⟨h0,c1⟩]
   rfl
 rw[if_neg (show ¬r.toNat<128 by omega),if_neg (show ¬(0≤r∧r≤127) by omega)];by_cases c2:r≤2047
 · rw[if_pos (show r.toNat<2048 by omega),if_pos (show 128≤r∧r≤2047 by omega)];have e1:(192+r / 64).toNat=192+r.toNat / 64:=by omega
   have e2:(128+r % 64).toNat=128+r.toNat % 64:=by omega
   simp only[List.map_cons,List.map_nil,e1,e2]
 rw[if_neg (show ¬r.toNat<2048 by omega),if_neg (show ¬(128≤r∧r≤2047) by omega)];by_cases c3:r≤65535
 · rw[if_pos (show r.toNat<65536 by omega),if_pos (show(2048≤r∧r<55296)∨(57343<r∧r≤65535) by omega)];have e1:(224+r / 4096).toNat=224+r.toNat / 4096:=by omega
   have e2:(128+r / 64 % 64).toNat=128+r.toNat / 64 % 64:=by omega
   have e3:(128+r % 64).toNat=128+r.toNat % 64:=by omega
   simp only[List.map_cons,List.map_nil,e1,e2,e3]
 rw[if_neg (show ¬r.toNat<65536 by omega),if_neg (show ¬((2048≤r∧r<55296)∨(57343<r∧r≤65535)) by omega),if_pos (show 65536≤r∧r≤1114111 by omega)];have e1:(240+r / 262144).toNat=240+r.toNat / 262144:=by omega
 have e2:(128+r / 4096 % 64).toNat=128+r.toNat / 4096 % 64:=by omega
 have e3:(128+r / 64 % 64).toNat=128+r.toNat / 64 % 64:=by omega
 have e4:(128+r % 64).toNat=128+r.toNat % 64:=by omega
 simp only[List.map_cons,List.map_nil,e1,e2,e3,e4]
section
variable{s:ByteArray}{p k:Nat}{o:ByteArray}
def gw(p:Nat):Lx:=⟨p,[],false,false⟩
theorem WH(h:¬k<s.size):aR s (gw p) k o=(gw p).fail:=by rw[aR,dif_neg h]
theorem QO(h:k<s.size)(h1:nx s k=34):aR s (gw p) k o=(gw p).add 18 (k+1) o:=by rw[aR,dif_pos h,if_pos h1]
theorem WI(h:k<s.size)(h1:nx s k=10∨nx s k=13):aR s (gw p) k o=(gw p).fail:=by rw[aR,dif_pos h,if_neg (by omega),if_pos h1]
theorem QN(h:k<s.size)(h1:nx s k≠34)(h2:¬(nx s k=10∨nx s k=13))(h3:nx s k≠92)(hu:(aR s (gw p) k o).unsure=false) :
 (pt s k).2≠0∧(oy (pt s k).1=false→aR s (gw p) k o=(gw p).fail)∧(oy (pt s k).1=true→aR s (gw p) k o=aR s (gw p) (k+(pt s k).2) (o++s.extract k (k+(pt s k).2))):=by
 rw[aR,dif_pos h,if_neg h1,if_neg h2,if_neg h3] at hu ⊢;by_cases h4:(pt s k).2=0
 · rw[dif_pos h4] at hu;cases hu
 rw[dif_neg h4] at hu ⊢;refine⟨h4,fun h5=>by rw[if_pos h5],fun h5=>?_⟩;rw[if_neg (by rw[h5];decide)] at hu ⊢
 have e:((gw p).unsure||!Qz (pt s k).1)=false:=by
  cases hx:((gw p).unsure||!Qz (pt s k).1) with
  | false=>rfl
  | true=>rw[hx] at hu;have:=r5 s _ {gw p with unsure:=true} (k+(pt s k).2) (o++s.extract k (k+(pt s k).2)) lr rfl;rw[this] at hu;cases hu
 rw[e];rfl
theorem QM(h:k<s.size)(h3:nx s k=92)(hu:(aR s (gw p) k o).unsure=false) :
 ((iU s k false).2.1=0→aR s (gw p) k o=(gw p).fail)∧((iU s k false).2.1≠0→(iU s k false).2.2=false∧aR s (gw p) k o=aR s (gw p) (k+(iU s k false).2.1) (o++(iU s k false).1)):=by
 rw[aR,dif_pos h,if_neg (by omega),if_neg (by omega),if_pos h3] at hu ⊢;have e0:(gw p).unsure=false:=rfl;rw[e0] at hu ⊢;constructor
 · intro h4;rw[dif_pos h4] at hu ⊢;have:(iU s k false).2.2=false:=hu;rw[this];rfl
 · intro h4;rw[dif_neg h4] at hu ⊢
   have e:(iU s k false).2.2=false:=by
    cases hx:(iU s k false).2.2 with
    | false=>rfl
    | true=>rw[hx] at hu;have:=r5 s _ {gw p with unsure:=true} (k+(iU s k false).2.1) (o++(iU s k false).1) lr rfl;rw[this] at hu;cases hu
   rw[e];exact⟨rfl,rfl⟩
theorem iP{b:UInt8}(h:BS (nx s (k+1))=some b):iU s k false=(⟨#[b]⟩,2,false):=by unfold iU;rw[h]
theorem Pt(h:BS (nx s (k+1))=none)(h1:nx s (k+1)≠117):iU s k false=(ByteArray.empty,0,false):=by unfold iU;rw[h];simp[h1]
theorem Ns:uv s (k+2) (k+6) 0=(
 if eO (nx s (k+2))<0 then(none,k+2) else
 if eO (nx s (k+3))<0 then(none,k+3) else
 if eO (nx s (k+4))<0 then(none,k+4) else
 if eO (nx s (k+5))<0 then(none,k+5) else
 (some (eO (nx s (k+2))*4096+eO (nx s (k+3))*256+eO (nx s (k+4))*16+eO (nx s (k+5))),k+6)):=by
 rw[uv,dif_pos (by omega)];split
 · rfl
 rw[uv,dif_pos (by omega)];show(if eO (nx s (k+3))<0 then _ else _)=_;split
 · rfl
 rw[uv,dif_pos (by omega)];show(if eO (nx s (k+4))<0 then _ else _)=_;split
 · rfl
 rw[uv,dif_pos (by omega)];show(if eO (nx s (k+5))<0 then _ else _)=_;split
 · rfl
 rw[uv,dif_neg (by omega)];congr 2;show 16*(16*(16*(16*0+eO (nx s (k+2)))+eO (nx s (k+3)))+eO (nx s (k+4)))+eO (nx s (k+5))=_;omega
theorem Bc(h1:nx s (k+1)=117) :
 ((eO (nx s (k+2))<0∨eO (nx s (k+3))<0∨eO (nx s (k+4))<0∨eO (nx s (k+5))<0)→(iU s k false).2.1=0) ∧
 ((0≤eO (nx s (k+2))∧0≤eO (nx s (k+3))∧0≤eO (nx s (k+4))∧0≤eO (nx s (k+5)))→(iU s k false).2.1≠0→∃r:Int,r=eO (nx s (k+2))*4096+eO (nx s (k+3))*256+eO (nx s (k+4))*16+eO (nx s (k+5))∧¬(55296≤r∧r<57344)∧(iU s k false).1=Utf8.encode r∧(iU s k false).2.1=6) ∧
 ((iU s k false).2.1=0→(iU s k false).2.2=false→(eO (nx s (k+2))<0∨eO (nx s (k+3))<0∨eO (nx s (k+4))<0∨eO (nx s (k+5))<0)):=by
 have e0:BS (nx s (k+1))=none:=by rw[h1];rfl
 unfold iU;rw[e0];simp only[h1,ne_eq,not_true,if_false];rw[Ns];by_cases a1:eO (nx s (k+2))<0
 · rw[if_pos a1];exact⟨fun _=>rfl,fun h=>by omega,fun _ _=>.inl a1⟩
 rw[if_neg a1];by_cases a2:eO (nx s (k+3))<0
 · rw[if_pos a2];exact⟨fun _=>rfl,fun h=>by omega,fun _ _=>.inr (.inl a2)⟩
 rw[if_neg a2];by_cases a3:eO (nx s (k+4))<0
 · rw[if_pos a3];exact⟨fun _=>rfl,fun h=>by omega,fun _ _=>.inr (.inr (.inl a3))⟩
 rw[if_neg a3];by_cases a4:eO (nx s (k+5))<0
 · rw[if_pos a4];exact⟨fun _=>rfl,fun h=>by omega,fun _ _=>.inr (.inr (.inr a4))⟩
 rw[if_neg a4];dsimp only;refine⟨fun h=>by omega,fun _ h=>?_,fun h hu=>?_⟩
 · refine⟨_,rfl,?_⟩;split at h
   · exact absurd rfl h
   · rename_i hn;rw[if_neg hn];exact⟨hn,rfl,rfl⟩
 · exfalso;split at h
   · rename_i hn;rw[if_pos hn] at hu;cases hu
   · exact absurd h (show ¬(6:Nat)=0 by decide)
end
def jV(w:World)(B:Nat)(l:List UInt8):Prop:=Lib.IsBuffer 186 5 B B (Lib.byteCells l) w
theorem jV.sm{w w':World}{B:Nat}{l:List UInt8}(h:jV w B l)(s:Sm [] w w'):jV w' B l:=Lib.IsBuffer.old h s.below
theorem jV.lt{w:World}{B:Nat}{l:List UInt8}(h:jV w B l):B<w.heap.size:=Lib.IsBuffer.lt h
theorem gI{a b c:World}(h:Sm [] a b)(k:Below a.heap.size b c):Sm [] a c:=
 ⟨k.os.trans h.os,k.tape.trans h.tape,k.output.trans h.output,Nat.le_trans h.size k.size,fun i hi _=>(k.block i hi).trans (h.block i hi (by simp))⟩
theorem zv(l:List UInt8):∀v∈Lib.byteCells l,v.oneCell'=true:=by
 intro v hv;unfold Lib.byteCells at hv;obtain⟨b,_,rfl⟩:=List.mem_map.1 hv
 rfl
theorem Fq(s:ByteArray)(bb B cs k c:Nat)(l:List UInt8)(W:World)(h:jV W B l)(hb:ji W bb s)(h1:cs≤k)(h2:k≤s.size)(hn:bb≠B)(hs:s.size≤1099511627776)(hl:l.length≤1099511627776) :
 Calls Tryz.prog 126 #[.pointer (some ⟨B,0,none⟩),.slice (some ⟨bb,cs,none⟩) (k-cs) c] W fun e w'=>(∃m:Int,e=.returned (.tuple #[.int .i64 m,.nilIface]))∧jV w' B (l++(s.extract cs k).data.toList)∧Below B W w':=by
 have om:(s.extract cs k).data.toList.length=k-cs:=by show(s.extract cs k).size=k-cs;rw[ByteArray.size_extract];omega
 refine(Tryz.Buffer_Write_any B B (Lib.byteCells l) (Lib.byteCells (s.extract cs k).data.toList) ⟨bb,cs,none⟩ (k-cs) c W h (Nat.le_of_lt h.lt) (zv l) (by rw[Lib.byteCells_length,om]) hn (fun j v hj=>?_) (zv _) (by rw[Lib.byteCells_length];omega)).mono ?_
 · have Z0:j<k-cs:=by
    have:=(List.getElem?_eq_some_iff.1 hj).1;rw[Lib.byteCells_length,om] at this;exact this
   rw[Lib.addr_add];have e:=hb (cs+j) (by omega);rw[e];unfold Lib.byteCells at hj;rw[List.getElem?_map] at hj
   have hx:(s.extract cs k).data.toList[j]?=some (s[cs+j]'(by omega)):=by
    have h3:j<(s.extract cs k).size:=by rw[ByteArray.size_extract];omega
    have e2:(s.extract cs k).data.toList[j]?=some ((s.extract cs k)[j]'h3):=by rw[Array.getElem?_toList];exact Array.getElem?_eq_getElem h3
    rw[e2,ByteArray.getElem_extract]
   rw[hx] at hj;simp only[Option.map_some,Option.some.injEq] at hj;rw[←hj,fi (by omega:cs+j<s.size)]
 · rintro e w' ⟨rfl,g1,g2,_⟩;refine⟨⟨_,rfl⟩,?_,g2⟩;unfold jV;have:Lib.byteCells (l++(s.extract cs k).data.toList)=Lib.byteCells l++Lib.byteCells (s.extract cs k).data.toList:=by simp[Lib.byteCells]
   rw[this];exact g1
theorem mO(B:Nat)(r:Int)(l:List UInt8)(W:World)(h:jV W B l)(h0:0≤r)(h1:r≤1114111)(hl:l.length≤1099511627776) :
 Calls Tryz.prog 129 #[.pointer (some ⟨B,0,none⟩),.int .i32 r] W fun e w'=>(∃m:Int,e=.returned (.tuple #[.int .i64 m,.nilIface]))∧jV w' B (l++Lib.encodeRune r)∧Below B W w':=by
 refine(Tryz.Buffer_WriteRune_k B B (Lib.byteCells l) r (by omega) (by omega) W h (Nat.le_of_lt h.lt) (zv l) (by rw[Lib.byteCells_length];omega)).mono ?_;rintro e w' ⟨rfl,g1,g2,_⟩;refine⟨⟨_,rfl⟩,?_,g2⟩;unfold jV;have:Lib.byteCells (l++Lib.encodeRune r)=Lib.byteCells l++Lib.runeCells r:=by rw[←Lib.byteCells_encodeRune];simp[Lib.byteCells]
 rw[this];exact g1
def xk(s:ByteArray)(p:Nat)(w:World)(u v x:Value)(wr:World):Prop:=
 ∃(k rp cs:Nat) (l:List UInt8),u=.int .i64 (k:Int)∧v=.int .i64 (rp:Int)∧x=.int .i64 (cs:Int)∧p<cs∧cs≤k∧k≤s.size∧p<rp∧rp≤k∧Hd (xV s→rp=k)∧Hd (xV s→nx s (k-1)≠13)∧jV wr (w.heap.size+1) l∧l.length≤cs∧Sm [] (w.alloc dm) wr ∧
  Hd (aR s (gw p) (p+1) ByteArray.empty=aR s (gw p) k (⟨l.toArray⟩++s.extract cs k))
def tf(s:ByteArray)(p:Nat):Lx:=aR s (gw p) (p+1) ByteArray.empty
theorem po{s:ByteArray}{p:Nat}(h:tf s p=(gw p).fail):kE s (tf s p)=.err (s.size+1):=by rw[h];rfl
theorem QC{s:ByteArray}{p k:Nat}{o:ByteArray}(h:tf s p=(gw p).add 18 (k+1) o):kE s (tf s p)=.tok ⟨18,o,p,k+1⟩:=by rw[h];rfl
theorem Ag(s:ByteArray)(o:ByteArray){a b c:Nat}(h1:a≤b)(h2:b≤c):o++s.extract a b++s.extract b c=o++s.extract a c:=by rw[ByteArray.append_assoc];congr 1;exact BU s h1 h2
theorem FO(l m:List UInt8):(⟨(l++m).toArray⟩:ByteArray)=⟨l.toArray⟩++⟨m.toArray⟩:=by apply ByteArray.ext;simp
theorem M4(s:ByteArray)(a b:Nat):(⟨(s.extract a b).data.toList.toArray⟩:ByteArray)=s.extract a b:=rfl
theorem IP(s:ByteArray)(m:Nat):s.extract m m=ByteArray.empty:=by apply ByteArray.ext;simp
theorem iw{s:ByteArray}{p k cs j:Nat}{l:List UInt8}{r:Int}(b9:k<s.size)(rB:nx s k=92)(hu:(aR s (gw p) k (⟨l.toArray⟩++s.extract cs k)).unsure=false)
 (h1:(iU s k false).1=⟨(Lib.encodeRune r).toArray⟩) (h2:(iU s k false).2.1=j) (hj:j≠0) :
 aR s (gw p) k (⟨l.toArray⟩++s.extract cs k)=aR s (gw p) (k+j) (⟨(l++(s.extract cs k).data.toList++Lib.encodeRune r).toArray⟩++s.extract (k+j) (k+j)):=by
 have h:=((QM b9 rB hu).2 (by omega)).2;rw[h,h1,h2];congr 1;rw[IP,FO,FO,M4,ByteArray.append_empty]
theorem v8{s:ByteArray}{p k cs:Nat}{l:List UInt8}(b9:k<s.size)(rB:nx s k=92)(hu:(aR s (gw p) k (⟨l.toArray⟩++s.extract cs k)).unsure=false)(h2:(iU s k false).2.1=0) :
 aR s (gw p) k (⟨l.toArray⟩++s.extract cs k)=(gw p).fail:=(QM b9 rB hu).1 h2
theorem JG{s:ByteArray}{p k:Nat}{o:ByteArray}(b9:k<s.size)(rB:nx s k=92)(hu:(aR s (gw p) k o).unsure=false)(h4:(iU s k false).2.1=0):(iU s k false).2.2=false:=by rw[aR,dif_pos b9,if_neg (by omega),if_neg (by omega),if_pos rB] at hu;have e0:(gw p).unsure=false:=rfl;rw[e0,dif_pos h4] at hu;exact hu
theorem mZ{s:ByteArray}{k:Nat}(h:nx s k≠0):k<s.size:=by
 by_cases hq:k<s.size
 · exact hq
 · exact absurd (pK (by omega)) h
theorem K4{c:Nat}(h:c<256):wrap32 (c:Int)=c:=by unfold wrap32;omega
theorem RZ(r:Int):(Lib.encodeRune r).length≤4:=by
 unfold Lib.encodeRune Lib.encodeRuneZ
 repeat' split
 all_goals simp
theorem jB{s:ByteArray}{p k rp cs j:Nat}{l e:List UInt8}{w w':World}(hcs:p<cs)(Mf:cs≤k)(hk:k+j≤s.size)(hj:2≤j)(Cg:p<rp)(PJ:rp≤k)(has:xV s→rp=k)(Si:nx s (k+j-1)≠13)
 (hb:jV w' (w.heap.size+1) (l++(s.extract cs k).data.toList++e)) (Nu:l.length≤cs) (he:e.length≤j) (iI:Sm [] (w.alloc dm) w')
 (hd:aR s (gw p) (p+1) ByteArray.empty=aR s (gw p) (k+j) (⟨(l++(s.extract cs k).data.toList++e).toArray⟩++s.extract (k+j) (k+j))) {u v x:Value} (hu:u=.int .i64 ((k+j:Nat):Int)) (hv:v=.int .i64 ((rp+j:Nat):Int)) (hx:x=.int .i64 ((k+j:Nat):Int)) :
 xk s p w u v x w':=by
 refine⟨k+j,rp+j,k+j,_,hu,hv,hx,by omega,lr,hk,by omega,by omega,fun a=>by rw[has a],fun _=>Si,hb,?_,iI,hd⟩;have om:(s.extract cs k).data.toList.length=k-cs:=by show(s.extract cs k).size=k-cs;rw[ByteArray.size_extract];omega
 rw[List.length_append,List.length_append,om];omega
theorem CV(hD:iR)(s:ByteArray)(sb bb cap p:Nat)(w:World)(dA:kj w sb bb cap s)(ht:qW w)(hp:p<s.size)(hq:nx s p=34)(hu:(tf s p).unsure=false) :
 Calls Tryz.prog 100 #[.pointer (some ⟨sb,0,none⟩),.int .i64 p] w (ij s (kE s (tf s p)) w):=by
 have HR:Hd (∀i W,Sm [] w W→i≤s.size→Calls Tryz.prog 96 #[.slice (some ⟨bb,0,none⟩) s.size cap,.int .i64 (i:Nat)] W (nV s i W)):=
  fun i W h hi=>lX hD s bb cap i W (dA.bytes.sm h (by simp)) dA.le (ht.sm h (by simp)) dA.small (by have:=dA.small;omega)
 have HN:Hd (∀(i:Nat) d W,Sm [] w W→i≤s.size→Calls Tryz.prog 84 #[.pointer (some ⟨sb,0,none⟩),.int .i64 i,.string d] W (kL s i W)):=fun i d W h hi=>dD s sb bb cap i d W (dA.cI h) (by have:=dA.small;omega);have tE:bb<w.heap.size:=World.block_lt_of_cell? w _ (dA.bytes p hp)
 have YO:Hd (∀W cs k l,Sm [] w W→jV W (w.heap.size+1) l→cs≤k→k≤s.size→l.length≤s.size→Calls Tryz.prog 126 #[.pointer (some ⟨w.heap.size+1,0,none⟩),.slice (some ⟨bb,cs,none⟩) (k-cs) (cap-cs)] W fun e w'=>(∃m:Int,e=.returned (.tuple #[.int .i64 m,.nilIface]))∧jV w' (w.heap.size+1) (l++(s.extract cs k).data.toList)∧Below (w.heap.size+1) W w'):=
  fun W cs k l h h1 h2 h3 h4=>Fq s bb (w.heap.size+1) cs k (cap-cs) l W h1 (dA.bytes.sm h (by simp)) h2 h3 (by omega) dA.small (by have:=dA.small;omega)
 have vW:=ae dA;have HU:=ae hu;have HQ:Hd (nx s p≠13):=by unfold Hd;omega
 have HW:Hd (Sm [] w (w.alloc dm)):=(Sm.refl [] w).alloc _;have c0:∀o,(w.alloc o).cell? ⟨sb,0,none⟩=some (.slice (some ⟨bb,0,none⟩) s.size cap):=fun o=>((Sm.refl [] w).alloc o).keeps dA.c0 (by simp);have om:=dA.small;have Gc:=dA.le;clear dA ht hu hq;go_enter Tryz.func100,Tryz.ntmps100;go_wp2_with fail
 go_loopw [7,8,9] (fun u v x wr=>xk s p w u v x wr) (fun u _ _ _=>s.size-(intOf u).toNat)
 case atStart=>
  unfold xk;refine⟨p+1,p+1,p+1,[],by go_num,by go_num,by go_num,by omega,by omega,by omega,by omega,by omega,fun _=>rfl,fun _=>by rw[Nat.add_sub_cancel];exact HQ.o,?_,by simp,(Sm.refl [] _).alloc _,?_⟩
  · have:=Lib.fresh_isBuffer 186 5 (w.alloc dm);simpa[jV,Lib.byteCells,dm] using this
  · unfold Hd;have:(⟨([]:List UInt8).toArray⟩:ByteArray)++s.extract (p+1) (p+1)=ByteArray.empty:=by apply ByteArray.ext;simp
    rw[this]
 case round=>
  unfold xk at hrel;obtain⟨k,rp,cs,l,rfl,rfl,rfl,hcs,Mf,hk,Cg,PJ,has,Si,Z04,Nu,(HS:Hd _),hd⟩:=hrel;have HB:=ae Z04;have I2:Hd ((aR s (gw p) k (⟨l.toArray⟩++s.extract cs k)).unsure=false):=by unfold Hd;rw[←hd.out];exact HU.o
  clear Z04;go_wp2_with fail;refine(HR.o k _ (HW.o.trans HS.o) hk).mono ?_;rintro e w1 ⟨c,n,rfl,l8,cJ⟩;have av:=ae (HS.o.trans cJ);have EC:=ae (HB.o.sm cJ);clear cJ;by_cases b9:k<s.size
  · have z0:(k:Int)<(s.size:Int):=by omega
    by_cases o3:nx s k=34
    · obtain⟨lx,Rc,hf⟩:∃lx:List UInt8,Hd (∀W B,jV W B (l++(s.extract cs k).data.toList)→jV W B lx)∧Hd (kE s (tf s p)=.tok ⟨18,⟨lx.toArray⟩,p,k+1⟩):=
       ⟨_,fun _ _ h=>h,by unfold Hd;rw[FO,M4];exact QC (hd.out.trans (QO b9 o3))⟩
      obtain⟨rfl,rfl⟩:=l8.s6 b9 (by omega);have q1:(0:Int)≤(cs:Int):=by omega
      have q2:(cs:Int)≤(k:Int):=by omega
      have q3:(k:Int)≤(cap:Int):=by omega
      rw[o3];clear l8 hd o3;go_wp2_with fail;refine(YO.o _ cs k l (HW.o.trans av.o) EC.o Mf (by omega) (by omega)).mono ?_;rintro e w2 ⟨⟨m,rfl⟩,kh,tV⟩;have ax:Hd (Sm [] (w.alloc dm) w2):=gI av.o (by simpa using tV);have Rw:=ae (Rc.out _ _ kh);clear kh tV Rc;go_wp2_with fail;refine(Tryz.Buffer_String _ _ _ _ Rw.o).mono ?_;rintro e w3 ⟨rfl,q,rfl⟩;have aO:=ae (ax.o.drewN q);go_wp2_with fail;refine(bh _ _ _ _ _).mono ?_;rintro e w9 ⟨rfl,cT⟩;have kc:=ae (cS (aO.o.trans cT));have ql:=ae ((HW.o.trans aO.o).trans cT);obtain⟨t0,t1,t2,t3,g0,g1,g2,g3⟩:=kc.o;clear cT;go_wp2_with fail;refine bodyPost_ret (by simp[results,Tryz.results100,go_sem,t0,t1,t2,t3];try rfl) rfl ?_;rw[hf.out];exact⟨ei ql.o lr _ _ _ _,rfl⟩
    by_cases KM:nx s k=10∨nx s k=13
    · have hf:Hd (kE s (tf s p)=.err (s.size+1)):=po (hd.out.trans (WI b9 KM));have HM:Hd (xV s→¬mid s rp):=fun ha h=>by rw[has.out ha] at h;exact Si.out ha h.2.2
      rcases KM with h|h
      all_goals
       obtain⟨rfl,rfl⟩:=l8.s6 b9 (by omega);rw[h];clear l8 hd o3 h;go_wp2_with fail;refine(HN.o rp _ _ (HW.o.trans av.o) (by omega)).mono ?_;rintro e w9 ⟨v,rfl,(HF:Hd _),h2⟩;have HT:=ae (cS (av.o.trans h2));have H2:=ae h2;have b9:w.heap.size<w1.heap.size:=by have:=av.o.size;simp at this;omega
       obtain⟨t0,t1,t2,t3,g0,g1,g2,g3⟩:=HT.o;clear h2;go_wp2_with fail;refine bodyPost_ret (by simp[results,Tryz.results100,go_sem,t0,t1,t2,t3];try rfl) rfl ?_;rw[hf.out];exact fB (HW.o.trans av.o) HF.o H2.o (by omega) HM.o w.heap.size lr b9 _ _ _ _
    by_cases rB:nx s k=92
    · have Z3I:k+1≤s.size:=by omega
      obtain⟨rfl,rfl⟩:=l8.s6 b9 (by omega);have q1:(0:Int)≤(cs:Int):=by omega
      have q2:(cs:Int)≤(k:Int):=by omega
      have q3:(k:Int)≤(cap:Int):=by omega
      have HM:Hd (xV s→¬mid s (rp+1)):=fun ha h=>by have:=h.2.2;rw[has.out ha,Nat.add_sub_cancel,rB] at this;omega
      rw[rB];clear l8 o3 KM;have Xf:=ae hd;have HBS:=ae rB;clear hd rB;go_wp2_with fail;refine(YO.o _ cs k l (HW.o.trans av.o) EC.o Mf (by omega) (by omega)).mono ?_;rintro e w2 ⟨⟨m,rfl⟩,kh,tV⟩;have ax:Hd (Sm [] (w.alloc dm) w2):=gI av.o (by simpa using tV);have Rw:=ae kh;clear kh tV;go_wp2_with fail;refine(HR.o (k+1) _ (HW.o.trans ax.o) (by omega)).mono ?_;rintro e w3 ⟨c2,n2,rfl,mq,s9⟩;have aO:=ae (ax.o.trans s9);have LX:=ae (Rw.o.sm s9)
      have Dy:Hd ((l++(s.extract cs k).data.toList).length≤1099511627776):=by
       have om:(s.extract cs k).data.toList.length=k-cs:=by show(s.extract cs k).size=k-cs;rw[ByteArray.size_extract];omega
       unfold Hd;rw[List.length_append,om];omega
      clear s9;have hd:=Xf.o;have rB:=HBS.o;clear Xf HBS;by_cases o3:nx s (k+1)=34
      · obtain⟨rfl,rfl⟩:=mq.s6 (mZ (by omega)) (by omega);have iW:Hd (aR s (gw p) (p+1) ByteArray.empty=_):=hd.out.trans (iw (r:=34) (j:=2) b9 rB I2.o (by rw[iP (b:=34) (by rw[o3];rfl)];rfl) (by rw[iP (b:=34) (by rw[o3];rfl)]) (by omega));have qp:Hd (nx s (k+2-1)≠13):=by unfold Hd;rw[show k+2-1=k+1 by omega];omega
        have ri:k+2≤s.size:=mZ (s:=s) (k:=k+1) (by omega);rw[o3];clear mq hd  o3 rB;go_wp2_with fail;refine(mO (w.heap.size+1) 34 _ _ LX.o (by omega) (by omega) Dy.o).mono ?_;rintro e w4 ⟨⟨m4,rfl⟩,(DC:Hd _),o4⟩;have cy:Hd (Sm [] (w.alloc dm) w4):=gI aO.o (by simpa using o4);clear o4;go_wp2_with fail;go_roundw
        case rel=>(first| refine⟨_,_,_,?_,rfl,rfl,rfl⟩|skip);exact jB (j:=2) hcs Mf ri lr Cg PJ has.out qp.out DC.o Nu (by decide) cy.o iW.out (by go_num) (by go_num) (by go_num)
        case measure=>simp[intOf];omega
      by_cases K7:nx s (k+1)=47
      · obtain⟨rfl,rfl⟩:=mq.s6 (mZ (by omega)) (by omega);have iW:Hd (aR s (gw p) (p+1) ByteArray.empty=_):=hd.out.trans (iw (r:=47) (j:=2) b9 rB I2.o (by rw[iP (b:=47) (by rw[K7];rfl)];rfl) (by rw[iP (b:=47) (by rw[K7];rfl)]) (by omega));have qp:Hd (nx s (k+2-1)≠13):=by unfold Hd;rw[show k+2-1=k+1 by omega];omega
        have ri:k+2≤s.size:=mZ (s:=s) (k:=k+1) (by omega);rw[K7];clear mq hd o3 K7 rB;go_wp2_with fail;refine(mO (w.heap.size+1) 47 _ _ LX.o (by omega) (by omega) Dy.o).mono ?_;rintro e w4 ⟨⟨m4,rfl⟩,(DC:Hd _),o4⟩;have cy:Hd (Sm [] (w.alloc dm) w4):=gI aO.o (by simpa using o4);clear o4;go_wp2_with fail;go_roundw
        case rel=>(first| refine⟨_,_,_,?_,rfl,rfl,rfl⟩|skip);exact jB (j:=2) hcs Mf ri lr Cg PJ has.out qp.out DC.o Nu (by decide) cy.o iW.out (by go_num) (by go_num) (by go_num)
        case measure=>simp[intOf];omega
      by_cases E1:nx s (k+1)=92
      · obtain⟨rfl,rfl⟩:=mq.s6 (mZ (by omega)) (by omega);have iW:Hd (aR s (gw p) (p+1) ByteArray.empty=_):=hd.out.trans (iw (r:=92) (j:=2) b9 rB I2.o (by rw[iP (b:=92) (by rw[E1];rfl)];rfl) (by rw[iP (b:=92) (by rw[E1];rfl)]) (by omega));have qp:Hd (nx s (k+2-1)≠13):=by unfold Hd;rw[show k+2-1=k+1 by omega];omega
        have ri:k+2≤s.size:=mZ (s:=s) (k:=k+1) (by omega);rw[E1];clear mq hd o3 K7 E1 rB;go_wp2_with fail;refine(mO (w.heap.size+1) 92 _ _ LX.o (by omega) (by omega) Dy.o).mono ?_;rintro e w4 ⟨⟨m4,rfl⟩,(DC:Hd _),o4⟩;have cy:Hd (Sm [] (w.alloc dm) w4):=gI aO.o (by simpa using o4);clear o4;go_wp2_with fail;go_roundw
        case rel=>(first| refine⟨_,_,_,?_,rfl,rfl,rfl⟩|skip);exact jB (j:=2) hcs Mf ri lr Cg PJ has.out qp.out DC.o Nu (by decide) cy.o iW.out (by go_num) (by go_num) (by go_num)
        case measure=>simp[intOf];omega
      by_cases Md:nx s (k+1)=98
      · obtain⟨rfl,rfl⟩:=mq.s6 (mZ (by omega)) (by omega);have iW:Hd (aR s (gw p) (p+1) ByteArray.empty=_):=hd.out.trans (iw (r:=8) (j:=2) b9 rB I2.o (by rw[iP (b:=8) (by rw[Md];rfl)];rfl) (by rw[iP (b:=8) (by rw[Md];rfl)]) (by omega));have qp:Hd (nx s (k+2-1)≠13):=by unfold Hd;rw[show k+2-1=k+1 by omega];omega
        have ri:k+2≤s.size:=mZ (s:=s) (k:=k+1) (by omega);rw[Md];clear mq hd o3 K7 E1 Md rB;go_wp2_with fail;refine(mO (w.heap.size+1) 8 _ _ LX.o (by omega) (by omega) Dy.o).mono ?_;rintro e w4 ⟨⟨m4,rfl⟩,(DC:Hd _),o4⟩;have cy:Hd (Sm [] (w.alloc dm) w4):=gI aO.o (by simpa using o4);clear o4;go_wp2_with fail;go_roundw
        case rel=>(first| refine⟨_,_,_,?_,rfl,rfl,rfl⟩|skip);exact jB (j:=2) hcs Mf ri lr Cg PJ has.out qp.out DC.o Nu (by decide) cy.o iW.out (by go_num) (by go_num) (by go_num)
        case measure=>simp[intOf];omega
      by_cases zB:nx s (k+1)=102
      · obtain⟨rfl,rfl⟩:=mq.s6 (mZ (by omega)) (by omega);have iW:Hd (aR s (gw p) (p+1) ByteArray.empty=_):=hd.out.trans (iw (r:=12) (j:=2) b9 rB I2.o (by rw[iP (b:=12) (by rw[zB];rfl)];rfl) (by rw[iP (b:=12) (by rw[zB];rfl)]) (by omega));have qp:Hd (nx s (k+2-1)≠13):=by unfold Hd;rw[show k+2-1=k+1 by omega];omega
        have ri:k+2≤s.size:=mZ (s:=s) (k:=k+1) (by omega);rw[zB];clear mq hd o3 K7 E1 Md zB rB;go_wp2_with fail;refine(mO (w.heap.size+1) 12 _ _ LX.o (by omega) (by omega) Dy.o).mono ?_;rintro e w4 ⟨⟨m4,rfl⟩,(DC:Hd _),o4⟩;have cy:Hd (Sm [] (w.alloc dm) w4):=gI aO.o (by simpa using o4);clear o4;go_wp2_with fail;go_roundw
        case rel=>(first| refine⟨_,_,_,?_,rfl,rfl,rfl⟩|skip);exact jB (j:=2) hcs Mf ri lr Cg PJ has.out qp.out DC.o Nu (by decide) cy.o iW.out (by go_num) (by go_num) (by go_num)
        case measure=>simp[intOf];omega
      by_cases AI:nx s (k+1)=110
      · obtain⟨rfl,rfl⟩:=mq.s6 (mZ (by omega)) (by omega);have iW:Hd (aR s (gw p) (p+1) ByteArray.empty=_):=hd.out.trans (iw (r:=10) (j:=2) b9 rB I2.o (by rw[iP (b:=10) (by rw[AI];rfl)];rfl) (by rw[iP (b:=10) (by rw[AI];rfl)]) (by omega));have qp:Hd (nx s (k+2-1)≠13):=by unfold Hd;rw[show k+2-1=k+1 by omega];omega
        have ri:k+2≤s.size:=mZ (s:=s) (k:=k+1) (by omega);rw[AI];clear mq hd o3 K7 E1 Md zB AI rB;go_wp2_with fail;refine(mO (w.heap.size+1) 10 _ _ LX.o (by omega) (by omega) Dy.o).mono ?_;rintro e w4 ⟨⟨m4,rfl⟩,(DC:Hd _),o4⟩;have cy:Hd (Sm [] (w.alloc dm) w4):=gI aO.o (by simpa using o4);clear o4;go_wp2_with fail;go_roundw
        case rel=>(first| refine⟨_,_,_,?_,rfl,rfl,rfl⟩|skip);exact jB (j:=2) hcs Mf ri lr Cg PJ has.out qp.out DC.o Nu (by decide) cy.o iW.out (by go_num) (by go_num) (by go_num)
        case measure=>simp[intOf];omega
      by_cases Cb:nx s (k+1)=114
      · obtain⟨rfl,rfl⟩:=mq.s6 (mZ (by omega)) (by omega);have iW:Hd (aR s (gw p) (p+1) ByteArray.empty=_):=hd.out.trans (iw (r:=13) (j:=2) b9 rB I2.o (by rw[iP (b:=13) (by rw[Cb];rfl)];rfl) (by rw[iP (b:=13) (by rw[Cb];rfl)]) (by omega));have qp:Hd (nx s (k+2-1)≠13):=by unfold Hd;rw[show k+2-1=k+1 by omega];omega
        have ri:k+2≤s.size:=mZ (s:=s) (k:=k+1) (by omega);rw[Cb];clear mq hd o3 K7 E1 Md zB AI Cb rB;go_wp2_with fail;refine(mO (w.heap.size+1) 13 _ _ LX.o (by omega) (by omega) Dy.o).mono ?_;rintro e w4 ⟨⟨m4,rfl⟩,(DC:Hd _),o4⟩;have cy:Hd (Sm [] (w.alloc dm) w4):=gI aO.o (by simpa using o4);clear o4;go_wp2_with fail;go_roundw
        case rel=>(first| refine⟨_,_,_,?_,rfl,rfl,rfl⟩|skip);exact jB (j:=2) hcs Mf ri lr Cg PJ has.out qp.out DC.o Nu (by decide) cy.o iW.out (by go_num) (by go_num) (by go_num)
        case measure=>simp[intOf];omega
      by_cases DX:nx s (k+1)=116
      · obtain⟨rfl,rfl⟩:=mq.s6 (mZ (by omega)) (by omega);have iW:Hd (aR s (gw p) (p+1) ByteArray.empty=_):=hd.out.trans (iw (r:=9) (j:=2) b9 rB I2.o (by rw[iP (b:=9) (by rw[DX];rfl)];rfl) (by rw[iP (b:=9) (by rw[DX];rfl)]) (by omega));have qp:Hd (nx s (k+2-1)≠13):=by unfold Hd;rw[show k+2-1=k+1 by omega];omega
        have ri:k+2≤s.size:=mZ (s:=s) (k:=k+1) (by omega);rw[DX];clear mq hd o3 K7 E1 Md zB AI Cb DX rB;go_wp2_with fail;refine(mO (w.heap.size+1) 9 _ _ LX.o (by omega) (by omega) Dy.o).mono ?_;rintro e w4 ⟨⟨m4,rfl⟩,(DC:Hd _),o4⟩;have cy:Hd (Sm [] (w.alloc dm) w4):=gI aO.o (by simpa using o4);clear o4;go_wp2_with fail;go_roundw
        case rel=>(first| refine⟨_,_,_,?_,rfl,rfl,rfl⟩|skip);exact jB (j:=2) hcs Mf ri lr Cg PJ has.out qp.out DC.o Nu (by decide) cy.o iW.out (by go_num) (by go_num) (by go_num)
        case measure=>simp[intOf];omega
      by_cases tR:nx s (k+1)=117
      · obtain⟨rfl,rfl⟩:=mq.s6 (by
         by_cases hq:k+1<s.size;· exact hq
         · rw[pK (by omega)] at tR;cases tR) (by omega)
        by_cases h6:s.size≤k+5
        · have hf:Hd (kE s (tf s p)=.err (s.size+1)):=po (hd.out.trans (v8 b9 rB I2.o ((Bc tR).1 (.inr (.inr (.inr (by rw[pK h6];decide)))))));have z6:(s.size:Int)≤(k:Int)+1+4:=by omega
          rw[tR];clear mq hd rB o3 K7 E1 Md zB AI Cb DX tR;go_wp2_with fail;refine(HN.o (rp+1) _ _ (HW.o.trans aO.o) (by omega)).mono ?_;rintro e w9 ⟨v,rfl,(HF:Hd _),h2⟩;have HT:=ae (cS (aO.o.trans h2));have H2:=ae h2;have b9:w.heap.size<w3.heap.size:=by have:=aO.o.size;simp at this;omega
          obtain⟨t0,t1,t2,t3,g0,g1,g2,g3⟩:=HT.o;clear h2;go_wp2_with fail;refine bodyPost_ret (by simp[results,Tryz.results100,go_sem,t0,t1,t2,t3];try rfl) rfl ?_;rw[hf.out];exact fB (HW.o.trans aO.o) HF.o H2.o (by omega) HM.o w.heap.size lr b9 _ _ _ _
        have HC:Hd (∀j,k+2≤j→j<k+6→w3.cell? ⟨bb,j,none⟩=some (.int .u8 (nx s j))):=fun j _ _=>vW.o.bytes.sm (HW.o.trans aO.o) (by simp) j (by omega);have d2:=HC.o (k+2) (by omega) (by omega);have d3:=HC.o (k+3) (by omega) (by omega);have d4:=HC.o (k+4) (by omega) (by omega);have d5:=HC.o (k+5) (by omega) (by omega);have z6:¬((s.size:Int)≤(k:Int)+1+4):=by omega
        have z7:(k:Int)+1+1<(s.size:Int):=by omega
        have z8:(k:Int)+1+2<(s.size:Int):=by omega
        have z9:(k:Int)+1+3<(s.size:Int):=by omega
        have za:(k:Int)+1+4<(s.size:Int):=by omega
        have ZN:=ae (JX (nx s (k+2)) (nx s (k+3)) (nx s (k+4)) (nx s (k+5)) (fb _ _) (fb _ _) (fb _ _) (fb _ _));have l2:=oL (nx s (k+2));have l3:=oL (nx s (k+3));have l4:=oL (nx s (k+4));have l5:=oL (nx s (k+5));by_cases gK:eO (nx s (k+2))<0∨eO (nx s (k+3))<0∨eO (nx s (k+4))<0∨eO (nx s (k+5))<0
        · have hf:Hd (kE s (tf s p)=.err (s.size+1)):=po (hd.out.trans (v8 b9 rB I2.o ((Bc tR).1 gK)));have y1:=(QQ _ _ _ _ (by omega) (by omega) (by omega) (by omega) gK).1;generalize JW (eO (nx s (k+2))) (eO (nx s (k+3))) (eO (nx s (k+4))) (eO (nx s (k+5)))=u at *;rw[tR];clear mq hd rB o3 K7 E1 Md zB AI Cb DX tR gK l2 l3 l4 l5 h6;go_upto_region 38 with fail
          go_quiet ((go_at_call 130;rw[K4 (fb s (k+2)),K4 (fb s (k+3)),K4 (fb s (k+4)),K4 (fb s (k+5))];exact Calls.quiet_of_same (ZN.o _)));go_wp2_with fail;have dK:Hd (Sm [] (w.alloc dm) (w3.drewN nq)):=aO.o.drewN nq;have hz5:w.heap.size<(w3.drewN nq).heap.size:=by have h5:=dK.o.size;have e5:(w.alloc dm).heap.size=w.heap.size+1:=(by simp);omega
          refine(HN.o (rp+1) _ _ (HW.o.trans dK.o) (by omega)).mono ?_;rintro e w9 ⟨v,rfl,(HF:Hd _),h2⟩;have HT:=ae (cS (dK.o.trans h2));have H2:=ae h2;obtain⟨t0,t1,t2,t3,g0,g1,g2,g3⟩:=HT.o;clear h2;go_wp2_with fail;refine bodyPost_ret (by simp[results,Tryz.results100,go_sem,t0,t1,t2,t3];try rfl) rfl ?_;rw[hf.out];exact fB (HW.o.trans dK.o) HF.o H2.o (by omega) HM.o w.heap.size lr hz5 _ _ _ _
        obtain⟨r,hr,Y3,Nr,he6⟩:=(Bc tR).2.1 (by omega) (fun h0=>gK ((Bc tR).2.2 h0 (JG b9 rB I2.o h0)));have hur:JW (eO (nx s (k+2))) (eO (nx s (k+3))) (eO (nx s (k+4))) (eO (nx s (k+5)))=r:=by rw[Oj _ _ _ _ (by omega) (by omega) (by omega) (by omega),hr]
        have r0:0≤r:=by omega
        have r1:r≤1114111:=by omega
        have y1:¬(r<0):=by omega
        have iW:Hd (aR s (gw p) (p+1) ByteArray.empty=_):=hd.out.trans (iw (r:=r) (j:=6) b9 rB I2.o (Nr.trans (S1 r r0 r1 Y3)) he6 (by omega));have qp:Hd (nx s (k+6-1)≠13):=by unfold Hd;rw[show k+6-1=k+5 by omega];intro h;rw[h] at gK;exact gK (.inr (.inr (.inr (by decide))))
        have hk6:k+6≤s.size:=by omega
        rw[hur] at ZN;rw[tR];clear mq hd rB o3 K7 E1 Md zB AI Cb DX tR gK l2 l3 l4 l5 h6 hr Y3 Nr he6 hur;go_upto_region 38 with fail
        go_quiet ((go_at_call 130;rw[K4 (fb s (k+2)),K4 (fb s (k+3)),K4 (fb s (k+4)),K4 (fb s (k+5))];exact Calls.quiet_of_same (ZN.o _)));go_wp2_with fail;have dK:Hd (Sm [] (w.alloc dm) (w3.drewN nq)):=aO.o.drewN nq;have HB5:=ae (LX.o.sm ((Sm.refl [] w3).drewN nq));refine(mO (w.heap.size+1) r _ _ HB5.o r0 r1 Dy.o).mono ?_;rintro e w4 ⟨⟨m4,rfl⟩,(DC:Hd _),o4⟩;have cy:Hd (Sm [] (w.alloc dm) w4):=gI dK.o (by simpa using o4);clear o4;go_wp2_with fail;go_roundw
        case rel=>(first| refine⟨_,_,_,?_,rfl,rfl,rfl⟩|skip);exact jB (j:=6) hcs Mf hk6 (by omega) Cg PJ has.out qp.out DC.o Nu (by have:=RZ r;omega) cy.o iW.out (by go_num) (by go_num) (by go_num)
        case measure=>simp[intOf];omega
      · skip
        have y1:=iN mq 34 (by omega) (by omega) o3;have y2:=iN mq 47 (by omega) (by omega) K7;have y3:=iN mq 92 (by omega) (by omega) E1;have y4:=iN mq 98 (by omega) (by omega) Md;have y5:=iN mq 102 (by omega) (by omega) zB;have y6:=iN mq 110 (by omega) (by omega) AI;have y7:=iN mq 114 (by omega) (by omega) Cb;have y8:=iN mq 116 (by omega) (by omega) DX;have y9:=iN mq 117 (by omega) (by omega) tR
        have hf:Hd (kE s (tf s p)=.err (s.size+1)):=po (hd.out.trans (v8 b9 rB I2.o (by
         rw[Pt (by unfold BS;rw[if_neg o3,if_neg E1,if_neg K7,if_neg Md,if_neg zB,if_neg AI,if_neg Cb,if_neg DX]) tR])))
        clear mq hd rB o3 K7 E1 Md zB AI Cb DX tR;go_wp2_with fail;refine(HN.o (rp+1) _ _ (HW.o.trans aO.o) (by omega)).mono ?_;rintro e w9 ⟨v,rfl,(HF:Hd _),h2⟩;have HT:=ae (cS (aO.o.trans h2));have H2:=ae h2;have b9:w.heap.size<w3.heap.size:=by have:=aO.o.size;simp at this;omega
        obtain⟨t0,t1,t2,t3,g0,g1,g2,g3⟩:=HT.o;clear h2;go_wp2_with fail;refine bodyPost_ret (by simp[results,Tryz.results100,go_sem,t0,t1,t2,t3];try rfl) rfl ?_;rw[hf.out];exact fB (HW.o.trans aO.o) HF.o H2.o (by omega) HM.o w.heap.size lr b9 _ _ _ _
    obtain⟨Ka,vY,rE⟩:=QN b9 o3 KM rB I2.o;by_cases ha:nx s k<128
    · obtain⟨rfl,rfl⟩:=l8.s6 b9 ha;have ep:pt s k=((nx s k:Int),1):=GX ha;rw[ep] at vY rE;have y1:((nx s k:Int) !=10)=true:=by simp;omega
      have y2:((nx s k:Int) !=13)=true:=by simp;omega
      have y3:((nx s k:Int) !=34)=true:=by simp;omega
      by_cases Oz:nx s k<32∧nx s k≠9
      · have hf:Hd (kE s (tf s p)=.err (s.size+1)):=po (hd.out.trans (vY (by unfold oy;simp;omega)));have HM:Hd (xV s→¬mid s rp):=fun ha h=>by rw[has.out ha] at h;exact KM (.inl h.1)
        have y4:(nx s k:Int)<32:=by omega
        have y5:((nx s k:Int) !=9)=true:=by simp;omega
        clear l8 hd o3 KM rB vY rE Ka ep Oz ha;go_wp2_with fail;refine(HN.o rp _ _ (HW.o.trans av.o) (by omega)).mono ?_;rintro e w9 ⟨v,rfl,(HF:Hd _),h2⟩;have HT:=ae (cS (av.o.trans h2));have H2:=ae h2;have b9:w.heap.size<w1.heap.size:=by have:=av.o.size;simp at this;omega
        obtain⟨t0,t1,t2,t3,g0,g1,g2,g3⟩:=HT.o;clear h2;go_wp2_with fail;refine bodyPost_ret (by simp[results,Tryz.results100,go_sem,t0,t1,t2,t3];try rfl) rfl ?_;rw[hf.out];exact fB (HW.o.trans av.o) HF.o H2.o (by omega) HM.o w.heap.size lr b9 _ _ _ _
      · have iW:Hd (aR s (gw p) (p+1) ByteArray.empty=aR s (gw p) (k+1) (⟨l.toArray⟩++s.extract cs (k+1))):=by
         unfold Hd;rw[hd.out,rE (by unfold oy;simp;omega),Ag s _ Mf (by omega)]
        have Vl:nx s k≠13:=fun h=>KM (.inr h);have y6:((nx s k:Int)==92)=false:=by simp;omega
        have qp:Hd (xV s→nx s (k+1-1)≠13):=fun _=>by rw[Nat.add_sub_cancel];exact Vl
        have AL:Hd (xV s→rp+1=k+1):=fun ha=>by rw[has.out ha]
        by_cases h9:nx s k=9
        · rw[h9];clear l8 hd o3 KM rB vY rE Ka ep Oz ha y1 y2 y3 y6 h9 Vl;go_wp2_with fail;go_roundw
          case rel=>(first| refine⟨_,_,_,?_,rfl,rfl,rfl⟩|skip);unfold xk;exact⟨k+1,rp+1,cs,l,by go_num,by go_num,rfl,hcs,by omega,by omega,by omega,by omega,AL,qp,EC.o,Nu,av.o,iW⟩
          case measure=>simp[intOf];omega
        · have y4:¬((nx s k:Int)<32):=by omega
          clear l8 hd o3 KM rB vY rE Ka ep Oz ha h9 Vl;go_wp2_with fail;go_roundw
          case rel=>(first| refine⟨_,_,_,?_,rfl,rfl,rfl⟩|skip);unfold xk;exact⟨k+1,rp+1,cs,l,by go_num,by go_num,rfl,hcs,by omega,by omega,by omega,by omega,AL,qp,EC.o,Nu,av.o,iW⟩
          case measure=>simp[intOf];omega
    · obtain⟨b1,b2,b3,b4,b5,b6⟩:=l8.UN (by omega);obtain⟨rfl,rfl⟩:=b5 Ka;have hle:=Qo s k Ka b9;have iW:Hd (aR s (gw p) (p+1) ByteArray.empty=aR s (gw p) (k+(pt s k).2) (⟨l.toArray⟩++s.extract cs (k+(pt s k).2))):=by unfold Hd;rw[hd.out,rE (by unfold oy;simp;omega),Ag s _ Mf (by omega)]
      have EW:¬xV s:=fun h=>ha (h k b9);have qp:Hd (xV s→nx s (k+(pt s k).2-1)≠13):=fun h=>absurd h EW;have AL:Hd (xV s→rp+1=k+(pt s k).2):=fun h=>absurd h EW;generalize pt s k=pq at *;obtain⟨pc,pn⟩:=pq;dsimp only at *;have y1:(pc !=10)=true:=by simp;omega
      have y2:(pc !=13)=true:=by simp;omega
      have y3:(pc !=34)=true:=by simp;omega
      have y4:¬(pc<32):=by omega
      have y5:(pc==92)=false:=by simp;omega
      clear l8 hd o3 KM rB vY rE ha b5 b6 EW;go_wp2_with fail;go_roundw
      case rel=>(first| refine⟨_,_,_,?_,rfl,rfl,rfl⟩|skip);unfold xk;exact⟨k+pn,rp+1,cs,l,by go_num,by go_num,rfl,hcs,by omega,by omega,by omega,by omega,AL,qp,EC.o,Nu,av.o,iW⟩
      case measure=>simp[intOf];omega
  · have Mk:k=s.size:=by omega
    obtain⟨rfl,rfl⟩:=l8.out (by omega);have z0:¬((k:Int)<(s.size:Int)):=by omega
    have hf:Hd (kE s (tf s p)=.err (s.size+1)):=po (hd.out.trans (WH b9));have HM:Hd (xV s→¬mid s rp):=fun ha h=>by have q:=h.1;rw[has.out ha,Mk,pK lr] at q;cases q
    clear l8 hd;go_wp2_with fail;refine(HN.o rp _ _ (HW.o.trans av.o) (by omega)).mono ?_;rintro e w9 ⟨v,rfl,(HF:Hd _),h2⟩;have HT:=ae (cS (av.o.trans h2));have H2:=ae h2;have b9:w.heap.size<w1.heap.size:=by have:=av.o.size;simp at this;omega
    obtain⟨t0,t1,t2,t3,g0,g1,g2,g3⟩:=HT.o;clear h2;go_wp2_with fail;refine bodyPost_ret (by simp[results,Tryz.results100,go_sem,t0,t1,t2,t3];try rfl) rfl ?_;rw[hf.out];exact fB (HW.o.trans av.o) HF.o H2.o (by omega) HM.o w.heap.size lr b9 _ _ _ _
def mA(n:Nat)(x:ByteArray):ByteArray:=if x.size<n then x else x.extract n x.size
theorem EN(x:ByteArray):mA 0 x=x:=by unfold mA;rw[if_neg (by omega)];simp
theorem FT(x:ByteArray):cg 0 x=0:=by unfold cg;rw[if_neg];omega
theorem yh:∀l:List ByteArray,l.foldl cg 0=0
 | []=>rfl
 | x :: l=>by rw[List.foldl_cons,FT];exact yh l
theorem BJ{q:Int}{x:ByteArray}(h:-1≤q):-1≤cg q x:=by unfold cg;split<;>omega
theorem Iz{q:Int}{x:ByteArray}(h:0≤q):0≤cg q x∧cg q x≤q:=by unfold cg;split<;>omega
theorem Ai:∀(l:List ByteArray) (q:Int),0≤q→0≤l.foldl cg q∧l.foldl cg q≤q
 | [],q,h=>⟨h,Int.le_refl _⟩
 | x :: l,q,h=>by rw[List.foldl_cons];have h1:=Iz (x:=x) h;have h2:=Ai l _ h1.1;exact⟨h2.1,by omega⟩
theorem Ah:∀(l:List ByteArray) (q:Int),-1≤q→∀x∈l,bS x 0<x.size→0≤l.foldl cg q∧l.foldl cg q≤(bS x 0:Int)
 | y :: l,q,hq,x,hx,hl=>by
  rw[List.foldl_cons];rcases List.mem_cons.1 hx with rfl|hx
  · have h1:0≤cg q x∧cg q x≤(bS x 0:Int):=by unfold cg;split<;>omega
    have h2:=Ai l _ h1.1;exact⟨h2.1,by omega⟩
  · exact Ah l _ (BJ hq) x hx hl
theorem Kx{l:List ByteArray}{x:ByteArray}(hx:x∈l.drop 1)(hl:bS x 0<x.size):df l≤bS x 0:=by have:=Ah (l.drop 1) (-1) (by omega) x hx hl;unfold df tP;omega
theorem zI(x:ByteArray)(k:Nat)(hk:k≤x.size):bS x k=x.size↔∀i,k≤i→i<x.size→nx x i=32∨nx x i=9:=by
 by_cases h:k<x.size∧(nx x k=32∨nx x k=9)
 · rw[pg h.1 h.2,zI x (k+1) (by omega)];constructor
   · intro hh i h1 h2;by_cases e:i=k
     · rw[e];exact h.2
     · exact hh i (by omega) h2
   · intro hh i h1 h2;exact hh i (by omega) h2
 · rw[rI h];constructor
   · intro hh i h1 h2;omega
   · intro hh;by_cases e:k<x.size
     · exact absurd ⟨e,hh k lr e⟩ h
     · omega
termination_by x.size-k
theorem VY(x:ByteArray)(n i:Nat)(hi:n+i<x.size):nx (x.extract n x.size) i=nx x (n+i):=by
 have h1:i<(x.extract n x.size).size:=by rw[ByteArray.size_extract];omega
 rw[←fi h1,←fi hi,ByteArray.getElem_extract]
theorem MW{x:ByteArray}{n:Nat}(h:blank x=true):blank (mA n x)=true:=by
 unfold mA;split
 · exact h
 · have h1:=(zI x 0 (Nat.zero_le _)).1 (of_decide_eq_true h);refine decide_eq_true ((zI _ 0 (Nat.zero_le _)).2 fun i _ hi=>?_);have:n+i<x.size:=by rw[ByteArray.size_extract] at hi;omega
   rw[VY x n i this];exact h1 _ (Nat.zero_le _) this
theorem N1{l:List ByteArray}(h:GV l=true):gJ (l.map (mA (df l)))=gJ (iG (df l) l):=by
 cases l with
 | nil=>rfl
 | cons x r=>
  unfold GV at h;rw[Bool.and_eq_true] at h;obtain⟨h1,h2⟩:=h;rw[List.drop_one,List.tail_cons,List.all_eq_true] at h2
  have hr:r.map (mA (df (x :: r)))=r.map (jo (df (x :: r))):=by
   refine List.map_congr_left fun y hy=>?_;have hp:=of_decide_eq_true (h2 y hy);unfold mA jo;split
   · rename_i b9;have hle:=(mF y 0 (Nat.zero_le _)).2;by_cases h0:y.size=0
     · rw[Nat.min_eq_right (by omega)];apply ByteArray.ext;simp;exact Array.eq_empty_of_size_eq_zero h0
     · have hy':bS y 0<y.size:=by
        rcases Nat.lt_or_ge (bS y 0) y.size with q|q
        · exact q
        · exact absurd ⟨by omega,by omega,b9⟩ hp
       have:=Kx (l:=x :: r) (x:=y) (by simpa using hy) hy';omega
   · rw[Nat.min_eq_left (by omega)]
  show gJ (mA _ x :: r.map _)=gJ (x :: r.map _);rw[hr];by_cases hn:0<df (x :: r)
  · have hb:blank x=true:=by
     have h3:¬(0<df (x :: r)∧bS x 0<x.size):=by simp at h1;omega
     have hle:=(mF x 0 (Nat.zero_le _)).2;exact decide_eq_true (by omega)
    rw[s4 (MW hb),s4 hb]
  · have:df (x :: r)=0:=by omega
    rw[this,EN]
theorem J4:∀(l:List ByteArray) (o:ByteArray) (i:Nat),0<i→qB o i l=⟨(o.data.toList++(l.map fun x=>(10:UInt8) :: x.data.toList).flatten).toArray⟩
 | [],o,i,_=>by simp[qB]
 | x :: l,o,i,h=>by rw[qB,if_pos h,J4 l _ (i+1) (by omega)];simp
theorem KX(l:List ByteArray):qB ByteArray.empty 0 l=⟨(Lib.join (l.map (·.data.toList)) [10]).toArray⟩:=by
 cases l with
 | nil=>rfl
 | cons x l=>rw[qB,if_neg (by omega),J4 l _ 1 (by omega)];rw[List.map_cons,Lib.join_cons];simp[Lib.joinTail,Function.comp_def]
end Go.Proofs.YtnpjmhodfdgloaaGreatDoor
