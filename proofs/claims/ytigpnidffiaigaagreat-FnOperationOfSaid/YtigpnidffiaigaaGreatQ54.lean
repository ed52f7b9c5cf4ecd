/- For every list of nodes and every name the law 'FnOperationOf' returns true, and the list and the name read as they did. No condition of ours. -/
import Derived.Test.YtigpnidffiaigaaGreatRows
import Derived.WalkKit
import Derived.ProofKit
import Derived.OpenShut
import Derived.ShutString
import Derived.ChangeOld
import Derived.Below
import Derived.Test.YtigpnidffiaigaaGreatQ52
import Derived.Test.YtigpnidffiaigaaGreatQ53
set_option linter.unusedVariables false
namespace Go.Proofs.YtigpnidffiaigaaGreat

section
open Go.ChangeShapes Go.WideShapes Go.ChangeAt Go.RowKit
open Go.ChangeMaps (open_string shut_string)

theorem ownIt : ownKnob Tryz.prog.godebug = none := by kernel_rfl
theorem laidOut : laidOutB Tryz.prog = true := by kernel_rfl

theorem law_walk (v : Value) (op : ByteArray) (w : World) (h : (∃ a cap, v = .slice a 0 cap) ∨ ∃ (b o cap : Nat) (l : List Nd), v = .slice (some ⟨b, o, none⟩) l.length cap ∧ 0 < l.length ∧ DocAt w b o l ∧ Wf l) :
    Calls Tryz.prog 3 #[v, .string op] w fun e w' => e = .returned (.bool true) ∧ Below w.heap.size w w' := by
  rcases h with ⟨a, cap, rfl⟩ | ⟨b, o, cap, l, rfl, hl, hd, hw⟩
  · exact (law_nil a cap op w).mono fun e w' h => ⟨h.1, h.2.below⟩
  · exact (law_any l b o cap op w hd hw hl).mono fun e w' h => ⟨h.1, h.2.below⟩

set_option maxRecDepth 100000 in
theorem lifted (os : Os) (started : os.Started) (H : Type) (enc : TypeId × Value → H) :
    ReturnsInHanded {} Tryz.checked os 3 .any (Rows.fnOperationOfSpec.pre6 enc Tryz.prog Tryz.f3 Rows.fnOperationOfRow.domain false) (Rows.fnOperationOfSpec.post enc Tryz.prog Tryz.f3 false true false false) := by
  refine returnsInHanded_of_change (C := Tryz.checked) ownIt started (by kernel_rfl) Tryz.func3
    (ChangeSpec.witness6 (enc := enc) (C := Tryz.checked) false ⟨#[], #[.slice none 0 0, .string ByteArray.empty], []⟩ 8 (by kernel_rfl) (by kernel_rfl) (by kernel_rfl) (by kernel_rfl)) ?_
  intro W base args ds gs before hval0 hW hcnd _
  have hval : ∀ (j : Nat) t v, Tryz.f3.params[j]? = some t → args[j]? = some v → Value.okWide Tryz.prog W .any base t v := hval0
  have hW' := hW
  obtain ⟨p, q, hA0, hV, rfl, hfz, hnd⟩ := hW
  have hA : DataW.TrodAll enc Tryz.prog W 0 (fun _ => true) true Tryz.f3.params.toList args.toList ds p := hA0
  rw [Tryz.params3] at hA hval
  obtain ⟨v0, vs0, d0, ds0, p0, q0, hargs, rfl, rfl, h0, r0⟩ := trodAll_cons hA
  obtain ⟨v1, vs1, d1, ds1, p1, q1, rfl, rfl, rfl, h1, r1⟩ := trodAll_cons r0
  obtain ⟨rfl, rfl, rfl⟩ := trodAll_nil r1
  obtain rfl : args = #[v0, v1] := by cases args; simp_all
  obtain ⟨rfl, rfl⟩ := trodVars_none hV
  obtain ⟨a0, len0, cap0, rfl⟩ := okWide_slice Tryz.underlying22 (hval 0 22 v0 rfl rfl)
  have k0 := h0
  have lt0 : ∀ x ∈ p0, x.block < W.heap.size := by obtain ⟨m, hm⟩ := k0; exact DataW.trod_lt m _ _ _ hm
  have hin : (∃ a cap, (Value.slice a0 len0 cap0) = .slice a 0 cap) ∨ ∃ (b o cap : Nat) (l : List Nd), (Value.slice a0 len0 cap0) = .slice (some ⟨b, o, none⟩) l.length cap ∧ 0 < l.length ∧ DocAt W b o l ∧ Wf l := by
    obtain ⟨fuel, hf⟩ := h0
    rcases doc_in hf with ⟨a, cap, hcs⟩ | ⟨b, o, cap, l, hcs, hl, hd, hw⟩
    · simp [Value.cells] at hcs
      obtain ⟨rfl, rfl, rfl⟩ := hcs
      exact .inl ⟨_, _, rfl⟩
    · simp [Value.cells] at hcs
      obtain ⟨rfl, rfl, rfl⟩ := hcs
      exact .inr ⟨b, o, _, l, rfl, hl, hd, hw⟩
  obtain ⟨a1, rfl, rfl, rfl, w1⟩ := open_string Tryz.underlying9 (hval 1 9 v1 rfl rfl) h1
  clear hA0 hval0
  refine (law_walk _ a1 W hin).mono fun e W' ⟨he, bel⟩ => ?_
  subst he
  exact ⟨_, rfl, _, _, _, [], _, [], hW', trodAll_mk1 (shut_bool Tryz.underlying4 _), (trodAll_cons_mk (Below.trod laidOut (by kernel_rfl) (of_decide_eq_true (by kernel_rfl)) k0 bel lt0) (trodAll_cons_mk (shut_string Tryz.underlying9 w1) trodAll_mk0)), rfl, bel.frame _, fun h => by cases h⟩

theorem over : Rows.fnOperationOfRow.holds Tryz.pinned (OpenSpec.ofChange Rows.fnOperationOfSpec) :=
  OpenClaim.holds_of_wide 3 Tryz.f3 rfl rfl rfl rfl rfl rfl rfl ⟨rfl, rfl, rfl, rfl, rfl⟩ rfl rfl rfl rfl rfl fact_named Tryz.func3 fact_joined
    fact_inst fact_plain
    (fun os started H enc _ => lifted os started H enc)

/-- the statement -/
theorem fnOperationOf_holds : Rows.FnOperationOfSaid := over
#print axioms fnOperationOf_holds

end

end Go.Proofs.YtigpnidffiaigaaGreat
