/- Part of the proof. -/
import Derived.Shelf.Strings.Builder1
import Derived.Shelf.Strings.Builder2
import Derived.Shelf.Strings.OnBuilder
import Derived.Shelf.Strings.BuilderF
import Derived.Shelf.Strings.BuilderK
import Derived.Shelf.Utf8.AppendRunePlain
import Derived.Shelf.LaysM
import Derived.Shelf.Bytes.Len
import Derived.Shelf.Bytes.TryGrow
import Derived.Shelf.Bytes.GrowSliceCatch
import Derived.Shelf.Bytes.GrowSlice
import Derived.Shelf.Bytes.String
import Derived.Shelf.Bytes.GrowRow0Kept
import Derived.Shelf.Bytes.GrowRowKept
import Derived.Shelf.Bytes.GrowNilKept
import Derived.Shelf.Bytes.GrowKept
import Derived.Shelf.Bytes.WriteByteKept
import Derived.Shelf.Bytes.ResetKept
import Derived.Shelf.Bytes.WriteKept
import Derived.Shelf.Bytes.BufferK
import Derived.Shelf.Bytes.GrowRow0Own
import Derived.Shelf.Bytes.GrowRowOwn
import Derived.Shelf.Bytes.GrowNilOwn
import Derived.Shelf.Bytes.GrowOwn
import Derived.Shelf.Bytes.WriteAny
import Derived.Ground.MzProg
import Derived.Shelf.Wr.WriteRuneAscii
import Derived.Shelf.Wr.WriteRune
import Derived.Shelf.Lays7
import Derived.Shelf.Spec.DecodeRune
import Derived.Test.YtnpjmhodfdgloaaGreatDoorQ14
set_option linter.unusedVariables false
set_option linter.unusedSimpArgs false
namespace Go.Proofs.YtnpjmhodfdgloaaGreatDoor
set_option maxRecDepth 100000
set_option maxHeartbeats 32000000
open Go.RowKit
section
open Go.Shelf
def Tryz.Gr:Go.Shelf.Ren:=⟨fun| 182=>128|n=>n,fun| 130=>282|9=>9|4=>4|0=>0|93=>186|37=>70|3=>3|91=>184|5=>5|n=>n,fun| n=>n⟩
theorem Tryz.Q4:Go.Proofs.LaysM.n182 Tryz.prog Tryz.Gr:={
 mixed:=by kernel_rfl
 f182:=Tryz.func128.trans (congrArg some (by kernel_rfl))
 t0:=Tryz.underlying0
 a0:=Tryz.isAgg0
 z0:=Tryz.sizeOf0
 v0:=Tryz.zeroValue0
 t3:=Tryz.underlying3
 a3:=Tryz.isAgg3
 z3:=Tryz.sizeOf3
 v3:=Tryz.zeroValue3
 t4:=Tryz.underlying4
 a4:=Tryz.isAgg4
 z4:=Tryz.sizeOf4
 v4:=Tryz.zeroValue4
 t9:=Tryz.underlying9
 a9:=Tryz.isAgg9
 z9:=Tryz.sizeOf9
 v9:=Tryz.zeroValue9
 t37:=Tryz.underlying70
 a37:=Tryz.isAgg70
 z37:=Tryz.sizeOf70
 v37:=Tryz.zeroValue70
 t93:=Tryz.underlying186
 a93:=Tryz.isAgg186
 z93:=Tryz.sizeOf186
 v93:=Tryz.zeroValue186
 t130:=Tryz.underlying282
 a130:=Tryz.isAgg282
 z130:=Tryz.sizeOf282
 v130:=Tryz.zeroValue282
 t5:=Tryz.underlying5
 a5:=Tryz.isAgg5
 z5:=Tryz.sizeOf5
 v5:=Tryz.zeroValue5
 t91:=Tryz.underlying184
 a91:=Tryz.isAgg184
 z91:=Tryz.sizeOf184
 v91:=Tryz.zeroValue184
 i0:=by kernel_rfl
 i3:=by kernel_rfl
 i4:=by kernel_rfl
 i5:=by kernel_rfl
 i9:=by kernel_rfl
 i37:=by kernel_rfl
 i91:=by kernel_rfl
 i93:=by kernel_rfl
 i130:=by kernel_rfl}
open Go.RowKit in
theorem Tryz.Buffer_String(B b:Nat)(l:List UInt8)(w:World)(h:Lib.IsBuffer 186 5 B b (Lib.byteCells l) w) :
 Calls Tryz.prog 128 #[.pointer (some ⟨b,0,none⟩)] w fun e w'=>e=.returned (.string ⟨l.toArray⟩)∧∃n,w'=w.drewN n:=Any.Buffer_String Tryz.Q4 B b l w h
def Tryz.J6:Go.Shelf.Ren:=⟨fun| 5=>129|7=>170|8=>164|9=>165|10=>171|11=>195|12=>196|13=>197|14=>201|15=>209|n=>n,fun| 34=>282|21=>21|3=>3|28=>44|35=>285|4=>4|5=>5|0=>0|26=>186|24=>184|37=>30|22=>70|43=>176|20=>20|31=>81|9=>9|n=>n,fun| 0=>2|n=>n⟩
theorem Tryz.Sr:Go.Proofs.LaysWr.n5 Tryz.prog Tryz.J6:={
 mixed:=by kernel_rfl
 f5:=Tryz.func129.trans (congrArg some (by kernel_rfl))
 f7:=Tryz.func170.trans (congrArg some (by kernel_rfl))
 f8:=Tryz.func164.trans (congrArg some (by kernel_rfl))
 f9:=Tryz.func165.trans (congrArg some (by kernel_rfl))
 f10:=Tryz.func171.trans (congrArg some (by kernel_rfl))
 f11:=Tryz.func195.trans (congrArg some (by kernel_rfl))
 f12:=Tryz.func196.trans (congrArg some (by kernel_rfl))
 f13:=Tryz.func197.trans (congrArg some (by kernel_rfl))
 f14:=Tryz.func201.trans (congrArg some (by kernel_rfl))
 f15:=Tryz.func209.trans (congrArg some (by kernel_rfl))
 t0:=Tryz.underlying0
 a0:=Tryz.isAgg0
 z0:=Tryz.sizeOf0
 v0:=Tryz.zeroValue0
 i0:=by kernel_rfl
 t3:=Tryz.underlying3
 a3:=Tryz.isAgg3
 z3:=Tryz.sizeOf3
 v3:=Tryz.zeroValue3
 i3:=by kernel_rfl
 t4:=Tryz.underlying4
 a4:=Tryz.isAgg4
 z4:=Tryz.sizeOf4
 v4:=Tryz.zeroValue4
 i4:=by kernel_rfl
 t5:=Tryz.underlying5
 a5:=Tryz.isAgg5
 z5:=Tryz.sizeOf5
 v5:=Tryz.zeroValue5
 i5:=by kernel_rfl
 t9:=Tryz.underlying9
 a9:=Tryz.isAgg9
 z9:=Tryz.sizeOf9
 v9:=Tryz.zeroValue9
 i9:=by kernel_rfl
 t20:=Tryz.underlying20
 a20:=Tryz.isAgg20
 z20:=Tryz.sizeOf20
 v20:=Tryz.zeroValue20
 i20:=by kernel_rfl
 t21:=Tryz.underlying21
 a21:=Tryz.isAgg21
 z21:=Tryz.sizeOf21
 v21:=Tryz.zeroValue21
 i21:=by kernel_rfl
 t22:=Tryz.underlying70
 a22:=Tryz.isAgg70
 z22:=Tryz.sizeOf70
 v22:=Tryz.zeroValue70
 i22:=by kernel_rfl
 t24:=Tryz.underlying184
 a24:=Tryz.isAgg184
 z24:=Tryz.sizeOf184
 v24:=Tryz.zeroValue184
 i24:=by kernel_rfl
 t26:=Tryz.underlying186
 a26:=Tryz.isAgg186
 z26:=Tryz.sizeOf186
 v26:=Tryz.zeroValue186
 i26:=by kernel_rfl
 t28:=Tryz.underlying44
 a28:=Tryz.isAgg44
 z28:=Tryz.sizeOf44
 v28:=Tryz.zeroValue44
 i28:=by kernel_rfl
 t31:=Tryz.underlying81
 a31:=Tryz.isAgg81
 z31:=Tryz.sizeOf81
 v31:=Tryz.zeroValue81
 i31:=by kernel_rfl
 t34:=Tryz.underlying282
 a34:=Tryz.isAgg282
 z34:=Tryz.sizeOf282
 v34:=Tryz.zeroValue282
 i34:=by kernel_rfl
 t35:=Tryz.underlying285
 a35:=Tryz.isAgg285
 z35:=Tryz.sizeOf285
 v35:=Tryz.zeroValue285
 i35:=by kernel_rfl
 t37:=Tryz.underlying30
 a37:=Tryz.isAgg30
 z37:=Tryz.sizeOf30
 v37:=Tryz.zeroValue30
 i37:=by kernel_rfl
 t43:=Tryz.underlying176
 a43:=Tryz.isAgg176
 z43:=Tryz.sizeOf176
 v43:=Tryz.zeroValue176
 i43:=by kernel_rfl
 g0:=by kernel_rfl
 m0:=by kernel_rfl}
open Go.RowKit in
theorem Tryz.Buffer_WriteRune_k(B b:Nat)(bs:List Value)(r:Int)(hr0:-2147483648≤r)(Nx:r≤2147483647)(w:World)(h:Lib.IsBuffer 186 5 B b bs w)(ZW:B≤w.heap.size)(h1:∀v∈bs,v.oneCell'=true)(Vi:bs.length+4≤140737488355328) :
 Calls Tryz.prog 129 #[.pointer (some ⟨b,0,none⟩),.int .i32 r] w fun e w'=>e=.returned (.tuple #[.int .i64 (Lib.runeCells r).length,.nilIface])∧Lib.IsBuffer 186 5 B b (bs++Lib.runeCells r) w'∧Below B w w'∧Lib.OthersKept 5 (some b) w w':=Any.Buffer_WriteRune_k Tryz.Sr B b bs r hr0 Nx w h ZW h1 Vi
def Tryz.Gq:Go.Shelf.Ren:=⟨fun| 180=>126|251=>164|252=>165|181=>195|184=>196|290=>197|324=>209|n=>n,fun| 130=>282|37=>70|3=>3|75=>44|0=>0|93=>186|91=>184|131=>30|4=>4|20=>20|5=>5|80=>81|9=>9|n=>n,fun| 14=>2|n=>n⟩
theorem Tryz.Q3:Go.Proofs.LaysM.n180 Tryz.prog Tryz.Gq:={
 mixed:=by kernel_rfl
 f180:=Tryz.func126.trans (congrArg some (by kernel_rfl))
 f181:=Tryz.func195.trans (congrArg some (by kernel_rfl))
 f184:=Tryz.func196.trans (congrArg some (by kernel_rfl))
 f251:=Tryz.func164.trans (congrArg some (by kernel_rfl))
 f252:=Tryz.func165.trans (congrArg some (by kernel_rfl))
 f290:=Tryz.func197.trans (congrArg some (by kernel_rfl))
 f324:=Tryz.func209.trans (congrArg some (by kernel_rfl))
 t0:=Tryz.underlying0
 a0:=Tryz.isAgg0
 z0:=Tryz.sizeOf0
 v0:=Tryz.zeroValue0
 t3:=Tryz.underlying3
 a3:=Tryz.isAgg3
 z3:=Tryz.sizeOf3
 v3:=Tryz.zeroValue3
 t4:=Tryz.underlying4
 a4:=Tryz.isAgg4
 z4:=Tryz.sizeOf4
 v4:=Tryz.zeroValue4
 t20:=Tryz.underlying20
 a20:=Tryz.isAgg20
 z20:=Tryz.sizeOf20
 v20:=Tryz.zeroValue20
 t37:=Tryz.underlying70
 a37:=Tryz.isAgg70
 z37:=Tryz.sizeOf70
 v37:=Tryz.zeroValue70
 t75:=Tryz.underlying44
 a75:=Tryz.isAgg44
 z75:=Tryz.sizeOf44
 v75:=Tryz.zeroValue44
 t91:=Tryz.underlying184
 a91:=Tryz.isAgg184
 z91:=Tryz.sizeOf184
 v91:=Tryz.zeroValue184
 t93:=Tryz.underlying186
 a93:=Tryz.isAgg186
 z93:=Tryz.sizeOf186
 v93:=Tryz.zeroValue186
 t130:=Tryz.underlying282
 a130:=Tryz.isAgg282
 z130:=Tryz.sizeOf282
 v130:=Tryz.zeroValue282
 t131:=Tryz.underlying30
 a131:=Tryz.isAgg30
 z131:=Tryz.sizeOf30
 v131:=Tryz.zeroValue30
 g14:=by kernel_rfl
 t5:=Tryz.underlying5
 a5:=Tryz.isAgg5
 z5:=Tryz.sizeOf5
 v5:=Tryz.zeroValue5
 t9:=Tryz.underlying9
 a9:=Tryz.isAgg9
 z9:=Tryz.sizeOf9
 v9:=Tryz.zeroValue9
 t80:=Tryz.underlying81
 a80:=Tryz.isAgg81
 z80:=Tryz.sizeOf81
 v80:=Tryz.zeroValue81
 i0:=by kernel_rfl
 i3:=by kernel_rfl
 i4:=by kernel_rfl
 i5:=by kernel_rfl
 i9:=by kernel_rfl
 i20:=by kernel_rfl
 i37:=by kernel_rfl
 i75:=by kernel_rfl
 i80:=by kernel_rfl
 i91:=by kernel_rfl
 i93:=by kernel_rfl
 i130:=by kernel_rfl
 i131:=by kernel_rfl
 m14:=by kernel_rfl}
open Go.RowKit in
theorem Tryz.Buffer_Write_any(B b:Nat)(bs cs:List Value)(a:Addr)(n c:Nat)(w:World)(h:Lib.IsBuffer 186 5 B b bs w)(ZW:B≤w.heap.size)(h1:∀v∈bs,v.oneCell'=true)(hn:cs.length=n)(jd:a.block≠b)(dA:∀j v,cs[j]?=some v→w.cell? (a.add j)=some v)(h1c:∀v∈cs,v.oneCell'=true)(Vi:bs.length+n≤140737488355328) :
 Calls Tryz.prog 126 #[.pointer (some ⟨b,0,none⟩),.slice (some a) n c] w fun e w'=>e=.returned (.tuple #[.int .i64 n,.nilIface])∧Lib.IsBuffer 186 5 B b (bs++cs) w'∧Below B w w'∧Lib.OthersKept 5 (some b) w w':=Any.Buffer_Write_any Tryz.Q3 B b bs cs a n c w h ZW h1 hn jd dA h1c Vi
def Tryz.Am:Go.Shelf.Ren:=⟨fun| 156=>169|165=>198|166=>199|169=>200|240=>210|241=>211|276=>213|277=>214|n=>n,fun| 31=>28|9=>9|3=>3|4=>4|0=>0|20=>20|72=>356|76=>181|70=>354|37=>70|75=>44|127=>376|164=>380|5=>5|80=>81|n=>n,fun| n=>n⟩
theorem Tryz.Mr:Go.Proofs.Lays.n156 Tryz.prog Tryz.Am:={
 mixed:=by kernel_rfl
 f156:=Tryz.func169.trans (congrArg some (by kernel_rfl))
 f165:=Tryz.func198.trans (congrArg some (by kernel_rfl))
 f166:=Tryz.func199.trans (congrArg some (by kernel_rfl))
 f169:=Tryz.func200.trans (congrArg some (by kernel_rfl))
 f240:=Tryz.func210.trans (congrArg some (by kernel_rfl))
 f241:=Tryz.func211.trans (congrArg some (by kernel_rfl))
 f276:=Tryz.func213.trans (congrArg some (by kernel_rfl))
 f277:=Tryz.func214.trans (congrArg some (by kernel_rfl))
 t0:=Tryz.underlying0
 a0:=Tryz.isAgg0
 z0:=Tryz.sizeOf0
 v0:=Tryz.zeroValue0
 t3:=Tryz.underlying3
 a3:=Tryz.isAgg3
 z3:=Tryz.sizeOf3
 v3:=Tryz.zeroValue3
 t4:=Tryz.underlying4
 a4:=Tryz.isAgg4
 z4:=Tryz.sizeOf4
 v4:=Tryz.zeroValue4
 t9:=Tryz.underlying9
 a9:=Tryz.isAgg9
 z9:=Tryz.sizeOf9
 v9:=Tryz.zeroValue9
 t20:=Tryz.underlying20
 a20:=Tryz.isAgg20
 z20:=Tryz.sizeOf20
 v20:=Tryz.zeroValue20
 t31:=Tryz.underlying28
 a31:=Tryz.isAgg28
 z31:=Tryz.sizeOf28
 v31:=Tryz.zeroValue28
 t37:=Tryz.underlying70
 a37:=Tryz.isAgg70
 z37:=Tryz.sizeOf70
 v37:=Tryz.zeroValue70
 t70:=Tryz.underlying354
 a70:=Tryz.isAgg354
 z70:=Tryz.sizeOf354
 v70:=Tryz.zeroValue354
 t72:=Tryz.underlying356
 a72:=Tryz.isAgg356
 z72:=Tryz.sizeOf356
 v72:=Tryz.zeroValue356
 t75:=Tryz.underlying44
 a75:=Tryz.isAgg44
 z75:=Tryz.sizeOf44
 v75:=Tryz.zeroValue44
 t76:=Tryz.underlying181
 a76:=Tryz.isAgg181
 z76:=Tryz.sizeOf181
 v76:=Tryz.zeroValue181
 t127:=Tryz.underlying376
 a127:=Tryz.isAgg376
 z127:=Tryz.sizeOf376
 v127:=Tryz.zeroValue376
 t164:=Tryz.underlying380
 a164:=Tryz.isAgg380
 z164:=Tryz.sizeOf380
 v164:=Tryz.zeroValue380}
theorem Tryz.qu:Builder.Extra Tryz.prog Tryz.Am:={
 sizeBuilder:=by kernel_rfl
 liesBuilder:=by kernel_rfl
 t5:=Tryz.underlying5
 a5:=Tryz.isAgg5
 z5:=Tryz.sizeOf5
 v5:=Tryz.zeroValue5
 infoByte:=by kernel_rfl
 cellsByte:=by kernel_rfl
 sizeByte:=by kernel_rfl
 neB5:=by decide}
open Go.RowKit in
theorem Tryz.strings_Join(bk o c:Nat)(xs:List ByteArray)(sep:ByteArray)(w:World)(V5:∀(j:Nat) x,xs[j]?=some x→w.cell? ⟨bk,o+j,none⟩=some (.string x))(hbk:bk<w.heap.size)(hN:xs.length≤140737488355328)(Gc:xs.length≤c)(hlen:(Lib.join (xs.map (·.data.toList)) sep.data.toList).length≤140737488355328) :
 Calls Tryz.prog 169 #[.slice (some ⟨bk,o,none⟩) xs.length c,.string sep] w fun e w'=>e=.returned (.string ⟨(Lib.join (xs.map (·.data.toList)) sep.data.toList).toArray⟩)∧Below w.heap.size w w':=Any.strings_Join Tryz.Mr Tryz.qu bk o c xs sep w V5 hbk hN Gc hlen
open Go.RowKit in
theorem Tryz.strings_Join_none(a:Option Addr)(c:Nat)(sep:ByteArray)(w:World) :
 Calls Tryz.prog 169 #[.slice a 0 c,.string sep] w fun e w'=>e=.returned (.string ⟨#[]⟩)∧w'=w:=Any.strings_Join_none Tryz.Mr Tryz.qu a c sep w
def Tryz.Gp:Go.Shelf.Ren:=⟨fun| 32=>124|49=>163|n=>n,fun| 30=>70|21=>21|3=>3|0=>0|5=>5|4=>4|33=>154|66=>348|25=>176|69=>351|68=>350|n=>n,fun| 2=>0|3=>1|n=>n⟩
theorem Tryz.Q2:Go.Proofs.Lays7.n32 Tryz.prog Tryz.Gp:={
 mixed:=by kernel_rfl
 f32:=Tryz.func124.trans (congrArg some (by kernel_rfl))
 f49:=Tryz.func163.trans (congrArg some (by kernel_rfl))
 t0:=Tryz.underlying0
 a0:=Tryz.isAgg0
 z0:=Tryz.sizeOf0
 v0:=Tryz.zeroValue0
 i0:=by kernel_rfl
 t3:=Tryz.underlying3
 a3:=Tryz.isAgg3
 z3:=Tryz.sizeOf3
 v3:=Tryz.zeroValue3
 i3:=by kernel_rfl
 t4:=Tryz.underlying4
 a4:=Tryz.isAgg4
 z4:=Tryz.sizeOf4
 v4:=Tryz.zeroValue4
 i4:=by kernel_rfl
 t5:=Tryz.underlying5
 a5:=Tryz.isAgg5
 z5:=Tryz.sizeOf5
 v5:=Tryz.zeroValue5
 i5:=by kernel_rfl
 t21:=Tryz.underlying21
 a21:=Tryz.isAgg21
 z21:=Tryz.sizeOf21
 v21:=Tryz.zeroValue21
 i21:=by kernel_rfl
 t25:=Tryz.underlying176
 a25:=Tryz.isAgg176
 z25:=Tryz.sizeOf176
 v25:=Tryz.zeroValue176
 i25:=by kernel_rfl
 t30:=Tryz.underlying70
 a30:=Tryz.isAgg70
 z30:=Tryz.sizeOf70
 v30:=Tryz.zeroValue70
 i30:=by kernel_rfl
 t33:=Tryz.underlying154
 a33:=Tryz.isAgg154
 z33:=Tryz.sizeOf154
 v33:=Tryz.zeroValue154
 i33:=by kernel_rfl
 t66:=Tryz.underlying348
 a66:=Tryz.isAgg348
 z66:=Tryz.sizeOf348
 t68:=Tryz.underlying350
 a68:=Tryz.isAgg350
 z68:=Tryz.sizeOf350
 v68:=Tryz.zeroValue350
 i68:=by kernel_rfl
 t69:=Tryz.underlying351
 a69:=Tryz.isAgg351
 z69:=Tryz.sizeOf351
 v69:=Tryz.zeroValue351
 i69:=by kernel_rfl
 g2:=by kernel_rfl
 g3:=by kernel_rfl}
end
theorem BL:iR:=fun s b off cap w ht hp=>by have h:=Any7.utf8_DecodeRune Tryz.Q2 s b off cap w ht hp;exact h
end Go.Proofs.YtnpjmhodfdgloaaGreatDoor
