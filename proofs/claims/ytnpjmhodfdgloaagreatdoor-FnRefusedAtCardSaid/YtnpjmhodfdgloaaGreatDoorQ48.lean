/- For every text the law 'FnRefusedAt' returns true, and the text reads as it did, where the library's tables read as the program's text lays them: that tie is the card's own and is proved with it. -/
import Derived.Test.YtnpjmhodfdgloaaGreatDoorCards
import Derived.Test.YtnpjmhodfdgloaaGreatDoorTie
import Derived.ShutString
import Derived.ChangeOld
import Derived.Below
import Derived.LaidMore
import Derived.Lay
import Derived.Lib.LaidU8T
import Derived.SevenTiedAt
import GoSem.PinnedTables
import Derived.Test.YtnpjmhodfdgloaaGreatDoorQ46
import Derived.Test.YtnpjmhodfdgloaaGreatDoorQ47
set_option linter.unusedVariables false
set_option linter.unusedSimpArgs false
namespace Go.Proofs.YtnpjmhodfdgloaaGreatDoor
set_option maxRecDepth 100000
set_option maxHeartbeats 32000000
open Go.RowKit
section
open Go.ChangeShapes Go.WideShapes Go.ChangeAt Go.RowKit Go.Shelf
open Go.ChangeMaps (open_string shut_string)
theorem Yl:ownKnob Tryz.prog.godebug=none:=by kernel_rfl
def M7:Go.Shelf.Ren:=⟨fun n=>n,fun| 5=>5|119=>348|138=>350|139=>351|n=>n,fun| 3=>0|4=>1|n=>n⟩
theorem Pw:Go.Pinned.utf8First=Go.Lib.firstData:=by kernel_rfl
theorem MV:(Rows.laid_unicode_utf8_acceptRanges:DataW Unit)=Go.Lib.acceptData:=by kernel_rfl
theorem Ng:U8Types Tryz.prog M7:=⟨Tryz.underlying5,Tryz.underlying348,Tryz.underlying350,Tryz.underlying351⟩
theorem Nf:U8Extra Tryz.prog M7:=⟨by kernel_rfl,by kernel_rfl,by kernel_rfl,by kernel_rfl,by kernel_rfl,by kernel_rfl,by kernel_rfl⟩
theorem Td {W : World} (h : laidMetH Tryz.prog [("unicode/utf8.acceptRanges", Rows.laid_unicode_utf8_acceptRanges), ("bytes.ErrTooLarge", Rows.laid_bytes_ErrTooLarge), ("unicode/utf8.first", Rows.laid_unicode_utf8_first)] W) : qW W := by rw[MakeChecks.laidMetH_plain _ _ _ (by kernel_rfl)] at h;exact utf8Tabs_of_readsT Ng Nf (Pw ▸ Lib.laidMet.reads h (.tail _ (.tail _ (.head _)))) (MV ▸ Lib.laidMet.reads h (.head _))
theorem lifted(os:Os)(started:os.Started)(H:Type)(enc:TypeId×Value→H) :
 ReturnsInHanded {} Tryz.checked os 4 .any (fun w args=>(Rows.fnRefusedAtSpec.pre enc Tryz.prog Tryz.f4 Rows.fnRefusedAtRow.domain false w args∧laidMetH Tryz.prog Rows.fnRefusedAtRow.laid w)∧sizedMet enc Tryz.prog Tryz.f4 (OpenSpec.ofChange Rows.fnRefusedAtSpec) false w args)
  (Rows.fnRefusedAtSpec.post enc Tryz.prog Tryz.f4 false true false false):=by
 refine returnsInHanded_of_change_and (C:=Tryz.checked) (X:=fun w _=>laidMetH Tryz.prog Rows.fnRefusedAtRow.laid w) (fun _ _ _ hh h=>h.of_heap hh) Yl started (by kernel_rfl) Tryz.func4
  (ChangeSpec.witness_shaped (enc:=enc) (C:=Tryz.checked) (os:=os) (X:=fun w _=>laidMetH Tryz.prog Rows.fnRefusedAtRow.laid w) false (World.laidAll Tryz.prog os Rows.fnRefusedAtRow.laid) #[.string ByteArray.empty] 8 (World.laidAll_os _ _ _)
   (World.shaped_of_ZipB (by kernel_rfl) (by kernel_rfl)) (by kernel_rfl) (by kernel_rfl) (by kernel_rfl)
   (by rw[MakeChecks.laidMetH_plain _ _ _ (by kernel_rfl)];exact laidMet_laidAll _ (by kernel_rfl) (by kernel_rfl))) ?_
 intro W base args ds gs before TU hW _ _ hL _;have hval:∀(j:Nat) t v,Tryz.f4.params[j]?=some t→args[j]?=some v→Value.okWide Tryz.prog W .any base t v:=TU;have hW':=hW;obtain⟨p,q,hA0,hV,rfl,_,_⟩:=hW;have hA:DataW.TrodAll enc Tryz.prog W 0 (fun _=>true) true Tryz.f4.params.toList args.toList ds p:=hA0;rw[Tryz.params4] at hA hval;obtain⟨v0,d0,rfl,rfl,h0⟩:=trodAll_one hA;obtain⟨rfl,rfl⟩:=trodVars_none hV;obtain⟨a1,rfl,rfl,rfl,w1⟩:=open_string Tryz.underlying9 (hval 0 9 v0 rfl rfl) h0;clear hA0 TU;simp only[List.append_nil] at hW';refine(Ri a1 W (Td hL)).mono fun e W' ⟨he,bel⟩=>?_;subst he;exact⟨_,rfl,_,_,_,[],[],[],hW',trodAll_mk1 (shut_bool Tryz.underlying4 _),trodAll_mk1 (shut_string Tryz.underlying9 w1),rfl,bel.below.frame _,fun h=>by cases h⟩
theorem over:Rows.fnRefusedAtRow.holds Tryz.pinned (OpenSpec.ofChange Rows.fnRefusedAtSpec):=
 OpenClaim.holds_of_wide 4 Tryz.f4 rfl rfl rfl rfl rfl rfl rfl ⟨rfl,rfl,rfl,rfl,rfl⟩ rfl rfl rfl rfl rfl M8 Tryz.func4 KI
  Nn M9
  (fun os started H enc _=>lifted os started H enc)
theorem Z08:Rows.FnRefusedAtSaid:=over
theorem fnRefusedAt_holds:Rows.FnRefusedAtCardSaid:=
 Claim7.holds_tied_plain_at .later [] [.data, .sentinel, .pinned] true (true, "526e7c361b93d6cc5d21b051f26f9bbe58ecf2e3f7e1e28feec27f003259bb9d") true over (fun _ h => by cases h) (by kernel_rfl) (fun _ h => by cases h) fnRefusedAt_row_tie rfl ⟨rfl, rfl⟩ (by kernel_rfl) rfl
  (fun f fn hf hfn=>by
   obtain rfl:f=4:=Option.some.inj (M8.symm.trans hf)|>.symm;obtain rfl:fn=Tryz.f4:=(Option.some.inj (Tryz.func4.symm.trans hfn)).symm
   exact⟨by kernel_rfl,fun j t ht=>by
    rw[Tryz.params4] at ht;have hm:t∈[9]:=by simpa using Array.mem_of_getElem? ht
    have ZZ:([9].all fun u=>!Tryz.prog.wantsStandIn u)=true:=by kernel_rfl
    exact(show Tryz.prog.wantsStandIn t=false by simpa using List.all_eq_true.1 ZZ t hm)⟩)
  (by kernel_rfl)
#print axioms fnRefusedAt_holds
end
end Go.Proofs.YtnpjmhodfdgloaaGreatDoor
