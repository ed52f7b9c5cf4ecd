/- Walks: the constructors of nodes. -/
import Derived.Test.YtigpnidffiaigaaGreatProg
import Derived.BigRegion
import Derived.Deep.RegionHeld3
import Derived.Test.YtigpnidffiaigaaGreatQ01
set_option linter.unusedVariables false
set_option linter.unusedSimpArgs false
namespace Go.Proofs.YtigpnidffiaigaaGreat

section
open Go.RowKit
attribute [local go_sem ↓] Go.wp_at_zero Go.wp_at_succ

/-- written in place: its first cell alone -/
def InPlace (p : Nat) (w : World) (e : Ending) (w' : World) : Prop := e = .returned (.pointer (some ⟨p, 0, none⟩)) ∧ ∃ s : ByteArray, w' = w.setCell ⟨p, 0, none⟩ (.string s)
/-- a new block with these cells behind its first -/
def Copied (T : TypeId) (rest : List Value) (w : World) (e : Ending) (w' : World) : Prop := ∃ s : ByteArray, e = .returned (.pointer (some ⟨w.heap.size, 0, none⟩)) ∧ w' = w.drew.alloc (.cells (Value.string s :: rest).toArray T (0, 0))

theorem newVariable_any (p : Nat) (cs : Array Value) (s : ByteArray) (w : World) (h : w.heap[p]? = some (.cells cs 132 (0, 0))) (h0 : cs[0]? = some (.string s)) :
    Calls Tryz.prog 64 #[.pointer (some ⟨p, 0, none⟩)] w (InPlace p w) := by
  have c0 : w.cell? ⟨p, 0, none⟩ = some (.string s) := cell_of h h0
  have f0 := free_of h 0
  clear h h0
  go_enter Tryz.func64, Tryz.ntmps64
  go_wp2_with fail
  go_ret
  exact ⟨rfl, _, rfl⟩

theorem newVariableDefinition_any (p : Nat) (cs : Array Value) (s : ByteArray) (w : World) (h : w.heap[p]? = some (.cells cs 130 (0, 0))) (h0 : cs[0]? = some (.string s)) :
    Calls Tryz.prog 67 #[.pointer (some ⟨p, 0, none⟩)] w (InPlace p w) := by
  have c0 : w.cell? ⟨p, 0, none⟩ = some (.string s) := cell_of h h0
  have f0 := free_of h 0
  clear h h0
  go_enter Tryz.func67, Tryz.ntmps67
  go_wp2_with fail
  go_ret
  exact ⟨rfl, _, rfl⟩

theorem newArgument_any (p : Nat) (cs : Array Value) (s : ByteArray) (w : World) (h : w.heap[p]? = some (.cells cs 262 (0, 0))) (h0 : cs[0]? = some (.string s)) :
    Calls Tryz.prog 109 #[.pointer (some ⟨p, 0, none⟩)] w (InPlace p w) := by
  have c0 : w.cell? ⟨p, 0, none⟩ = some (.string s) := cell_of h h0
  have f0 := free_of h 0
  clear h h0
  go_enter Tryz.func109, Tryz.ntmps109
  go_wp2_with fail
  go_ret
  exact ⟨rfl, _, rfl⟩

theorem newField_any (p : Nat) (cs : Array Value) (s : ByteArray) (w : World) (h : w.heap[p]? = some (.cells cs 331 (0, 0))) (h0 : cs[0]? = some (.string s)) :
    Calls Tryz.prog 130 #[.pointer (some ⟨p, 0, none⟩)] w (InPlace p w) := by
  have c0 : w.cell? ⟨p, 0, none⟩ = some (.string s) := cell_of h h0
  have f0 := free_of h 0
  clear h h0
  go_enter Tryz.func130, Tryz.ntmps130
  go_wp2_with fail
  go_ret
  exact ⟨rfl, _, rfl⟩

theorem newSelectionSet_any (p : Nat) (cs : Array Value) (s : ByteArray) (w : World) (h : w.heap[p]? = some (.cells cs 342 (0, 0))) (h0 : cs[0]? = some (.string s)) :
    Calls Tryz.prog 133 #[.pointer (some ⟨p, 0, none⟩)] w (InPlace p w) := by
  have c0 : w.cell? ⟨p, 0, none⟩ = some (.string s) := cell_of h h0
  have f0 := free_of h 0
  clear h h0
  go_enter Tryz.func133, Tryz.ntmps133
  go_wp2_with fail
  go_ret
  exact ⟨rfl, _, rfl⟩

theorem newOperationDefinition_any (p : Nat) (cs : Array Value) (s : ByteArray) (w : World) (h : w.heap[p]? = some (.cells cs 52 (0, 0))) (h0 : cs[0]? = some (.string s)) :
    Calls Tryz.prog 43 #[.pointer (some ⟨p, 0, none⟩)] w (InPlace p w) := by
  have c0 : w.cell? ⟨p, 0, none⟩ = some (.string s) := cell_of h h0
  have f0 := free_of h 0
  clear h h0
  go_enter Tryz.func43, Tryz.ntmps43
  go_wp2_with fail
  go_ret
  exact ⟨rfl, _, rfl⟩

theorem newName_any (p : Nat) (cs : Array Value) (s : ByteArray) (w : World) (h : w.heap[p]? = some (.cells cs 96 (0, 0))) (h0 : cs[0]? = some (.string s)) :
    Calls Tryz.prog 85 #[.pointer (some ⟨p, 0, none⟩)] w (InPlace p w) := by
  have c0 : w.cell? ⟨p, 0, none⟩ = some (.string s) := cell_of h h0
  have f0 := free_of h 0
  clear h h0
  go_enter Tryz.func85, Tryz.ntmps85
  go_wp2_with fail
  go_ret
  exact ⟨rfl, _, rfl⟩

theorem newNamed_any (p : Nat) (cs : Array Value) (s : ByteArray) (w : World) (h : w.heap[p]? = some (.cells cs 158 (0, 0))) (h0 : cs[0]? = some (.string s)) :
    Calls Tryz.prog 99 #[.pointer (some ⟨p, 0, none⟩)] w (InPlace p w) := by
  have c0 : w.cell? ⟨p, 0, none⟩ = some (.string s) := cell_of h h0
  have f0 := free_of h 0
  clear h h0
  go_enter Tryz.func99, Tryz.ntmps99
  go_wp2_with fail
  go_ret
  exact ⟨rfl, _, rfl⟩

set_option maxHeartbeats 1000000 in
theorem newDirective_any (p : Nat) (f0 : ByteArray) (f1 : Option Addr) (f2 : Option Addr) (f3 : Option Addr) (n3 : Nat) (c3 : Nat) (w : World) (h : w.heap[p]? = some (.cells #[.string f0, .pointer f1, .pointer f2, .slice f3 n3 c3] 156 (0, 0))) :
    Calls Tryz.prog 68 #[.pointer (some ⟨p, 0, none⟩)] w (Copied 156 [.pointer f1, .pointer f2, .slice f3 n3 c3] w) := by
  have h1 : w.cell? ⟨p, 1, none⟩ = some (.pointer f1) := cell_of h rfl
  have h2 : w.cell? ⟨p, 2, none⟩ = some (.pointer f2) := cell_of h rfl
  have h3 : w.cell? ⟨p, 3, none⟩ = some (.slice f3 n3 c3) := cell_of h rfl
  clear h
  go_enter Tryz.func68, Tryz.ntmps68
  go_wp2_with fail
  go_region_held3 (fun W => W.cell? ⟨p, 1, none⟩ = some (.pointer f1) ∧ W.cell? ⟨p, 2, none⟩ = some (.pointer f2) ∧ W.cell? ⟨p, 3, none⟩ = some (.slice f3 n3 c3)) (go_keep) (fail)
  all_goals
    go_wp2_with fail
    go_ret
    exact ⟨_, rfl, rfl⟩

set_option maxHeartbeats 1000000 in
theorem newList_any (p : Nat) (f0 : ByteArray) (f1 : Option Addr) (f2 : TypeId) (v2 : Value) (w : World) (h : w.heap[p]? = some (.cells #[.string f0, .pointer f1, .iface f2 v2] 234 (0, 0))) :
    Calls Tryz.prog 100 #[.pointer (some ⟨p, 0, none⟩)] w (Copied 234 [.pointer f1, .iface f2 v2] w) := by
  have h1 : w.cell? ⟨p, 1, none⟩ = some (.pointer f1) := cell_of h rfl
  have h2 : w.cell? ⟨p, 2, none⟩ = some (.iface f2 v2) := cell_of h rfl
  clear h
  go_enter Tryz.func100, Tryz.ntmps100
  go_wp2_with fail
  go_region_held3 (fun W => W.cell? ⟨p, 1, none⟩ = some (.pointer f1) ∧ W.cell? ⟨p, 2, none⟩ = some (.iface f2 v2)) (go_keep) (fail)
  all_goals
    go_wp2_with fail
    go_ret
    exact ⟨_, rfl, rfl⟩

set_option maxHeartbeats 1000000 in
theorem newNonNull_any (p : Nat) (f0 : ByteArray) (f1 : Option Addr) (f2 : TypeId) (v2 : Value) (w : World) (h : w.heap[p]? = some (.cells #[.string f0, .pointer f1, .iface f2 v2] 237 (0, 0))) :
    Calls Tryz.prog 101 #[.pointer (some ⟨p, 0, none⟩)] w (Copied 237 [.pointer f1, .iface f2 v2] w) := by
  have h1 : w.cell? ⟨p, 1, none⟩ = some (.pointer f1) := cell_of h rfl
  have h2 : w.cell? ⟨p, 2, none⟩ = some (.iface f2 v2) := cell_of h rfl
  clear h
  go_enter Tryz.func101, Tryz.ntmps101
  go_wp2_with fail
  go_region_held3 (fun W => W.cell? ⟨p, 1, none⟩ = some (.pointer f1) ∧ W.cell? ⟨p, 2, none⟩ = some (.iface f2 v2)) (go_keep) (fail)
  all_goals
    go_wp2_with fail
    go_ret
    exact ⟨_, rfl, rfl⟩

set_option maxHeartbeats 1000000 in
theorem newIntValue_any (p : Nat) (f0 : ByteArray) (f1 : Option Addr) (f2 : ByteArray) (w : World) (h : w.heap[p]? = some (.cells #[.string f0, .pointer f1, .string f2] 240 (0, 0))) :
    Calls Tryz.prog 102 #[.pointer (some ⟨p, 0, none⟩)] w (Copied 240 [.pointer f1, .string f2] w) := by
  have h1 : w.cell? ⟨p, 1, none⟩ = some (.pointer f1) := cell_of h rfl
  have h2 : w.cell? ⟨p, 2, none⟩ = some (.string f2) := cell_of h rfl
  clear h
  go_enter Tryz.func102, Tryz.ntmps102
  go_wp2_with fail
  go_region_held3 (fun W => W.cell? ⟨p, 1, none⟩ = some (.pointer f1) ∧ W.cell? ⟨p, 2, none⟩ = some (.string f2)) (go_keep) (fail)
  all_goals
    go_wp2_with fail
    go_ret
    exact ⟨_, rfl, rfl⟩

set_option maxHeartbeats 1000000 in
theorem newFloatValue_any (p : Nat) (f0 : ByteArray) (f1 : Option Addr) (f2 : ByteArray) (w : World) (h : w.heap[p]? = some (.cells #[.string f0, .pointer f1, .string f2] 243 (0, 0))) :
    Calls Tryz.prog 103 #[.pointer (some ⟨p, 0, none⟩)] w (Copied 243 [.pointer f1, .string f2] w) := by
  have h1 : w.cell? ⟨p, 1, none⟩ = some (.pointer f1) := cell_of h rfl
  have h2 : w.cell? ⟨p, 2, none⟩ = some (.string f2) := cell_of h rfl
  clear h
  go_enter Tryz.func103, Tryz.ntmps103
  go_wp2_with fail
  go_region_held3 (fun W => W.cell? ⟨p, 1, none⟩ = some (.pointer f1) ∧ W.cell? ⟨p, 2, none⟩ = some (.string f2)) (go_keep) (fail)
  all_goals
    go_wp2_with fail
    go_ret
    exact ⟨_, rfl, rfl⟩

set_option maxHeartbeats 1000000 in
theorem newStringValue_any (p : Nat) (f0 : ByteArray) (f1 : Option Addr) (f2 : ByteArray) (w : World) (h : w.heap[p]? = some (.cells #[.string f0, .pointer f1, .string f2] 245 (0, 0))) :
    Calls Tryz.prog 104 #[.pointer (some ⟨p, 0, none⟩)] w (Copied 245 [.pointer f1, .string f2] w) := by
  have h1 : w.cell? ⟨p, 1, none⟩ = some (.pointer f1) := cell_of h rfl
  have h2 : w.cell? ⟨p, 2, none⟩ = some (.string f2) := cell_of h rfl
  clear h
  go_enter Tryz.func104, Tryz.ntmps104
  go_wp2_with fail
  go_region_held3 (fun W => W.cell? ⟨p, 1, none⟩ = some (.pointer f1) ∧ W.cell? ⟨p, 2, none⟩ = some (.string f2)) (go_keep) (fail)
  all_goals
    go_wp2_with fail
    go_ret
    exact ⟨_, rfl, rfl⟩

set_option maxHeartbeats 1000000 in
theorem newBooleanValue_any (p : Nat) (f0 : ByteArray) (f1 : Option Addr) (f2 : Bool) (w : World) (h : w.heap[p]? = some (.cells #[.string f0, .pointer f1, .bool f2] 249 (0, 0))) :
    Calls Tryz.prog 105 #[.pointer (some ⟨p, 0, none⟩)] w (Copied 249 [.pointer f1, .bool f2] w) := by
  have h1 : w.cell? ⟨p, 1, none⟩ = some (.pointer f1) := cell_of h rfl
  have h2 : w.cell? ⟨p, 2, none⟩ = some (.bool f2) := cell_of h rfl
  clear h
  go_enter Tryz.func105, Tryz.ntmps105
  go_wp2_with fail
  go_region_held3 (fun W => W.cell? ⟨p, 1, none⟩ = some (.pointer f1) ∧ W.cell? ⟨p, 2, none⟩ = some (.bool f2)) (go_keep) (fail)
  all_goals
    go_wp2_with fail
    go_ret
    exact ⟨_, rfl, rfl⟩

set_option maxHeartbeats 1000000 in
theorem newEnumValue_any (p : Nat) (f0 : ByteArray) (f1 : Option Addr) (f2 : ByteArray) (w : World) (h : w.heap[p]? = some (.cells #[.string f0, .pointer f1, .string f2] 252 (0, 0))) :
    Calls Tryz.prog 106 #[.pointer (some ⟨p, 0, none⟩)] w (Copied 252 [.pointer f1, .string f2] w) := by
  have h1 : w.cell? ⟨p, 1, none⟩ = some (.pointer f1) := cell_of h rfl
  have h2 : w.cell? ⟨p, 2, none⟩ = some (.string f2) := cell_of h rfl
  clear h
  go_enter Tryz.func106, Tryz.ntmps106
  go_wp2_with fail
  go_region_held3 (fun W => W.cell? ⟨p, 1, none⟩ = some (.pointer f1) ∧ W.cell? ⟨p, 2, none⟩ = some (.string f2)) (go_keep) (fail)
  all_goals
    go_wp2_with fail
    go_ret
    exact ⟨_, rfl, rfl⟩

set_option maxHeartbeats 1000000 in
theorem newListValue_any (p : Nat) (f0 : ByteArray) (f1 : Option Addr) (f2 : Option Addr) (n2 : Nat) (c2 : Nat) (w : World) (h : w.heap[p]? = some (.cells #[.string f0, .pointer f1, .slice f2 n2 c2] 257 (0, 0))) :
    Calls Tryz.prog 107 #[.pointer (some ⟨p, 0, none⟩)] w (Copied 257 [.pointer f1, .slice f2 n2 c2] w) := by
  have h1 : w.cell? ⟨p, 1, none⟩ = some (.pointer f1) := cell_of h rfl
  have h2 : w.cell? ⟨p, 2, none⟩ = some (.slice f2 n2 c2) := cell_of h rfl
  clear h
  go_enter Tryz.func107, Tryz.ntmps107
  go_wp2_with fail
  go_region_held3 (fun W => W.cell? ⟨p, 1, none⟩ = some (.pointer f1) ∧ W.cell? ⟨p, 2, none⟩ = some (.slice f2 n2 c2)) (go_keep) (fail)
  all_goals
    go_wp2_with fail
    go_ret
    exact ⟨_, rfl, rfl⟩

set_option maxHeartbeats 1000000 in
theorem newObjectField_any (p : Nat) (f0 : ByteArray) (f1 : Option Addr) (f2 : Option Addr) (f3 : TypeId) (v3 : Value) (w : World) (h : w.heap[p]? = some (.cells #[.string f0, .pointer f1, .pointer f2, .iface f3 v3] 319 (0, 0))) :
    Calls Tryz.prog 128 #[.pointer (some ⟨p, 0, none⟩)] w (Copied 319 [.pointer f1, .pointer f2, .iface f3 v3] w) := by
  have h1 : w.cell? ⟨p, 1, none⟩ = some (.pointer f1) := cell_of h rfl
  have h2 : w.cell? ⟨p, 2, none⟩ = some (.pointer f2) := cell_of h rfl
  have h3 : w.cell? ⟨p, 3, none⟩ = some (.iface f3 v3) := cell_of h rfl
  clear h
  go_enter Tryz.func128, Tryz.ntmps128
  go_wp2_with fail
  go_region_held3 (fun W => W.cell? ⟨p, 1, none⟩ = some (.pointer f1) ∧ W.cell? ⟨p, 2, none⟩ = some (.pointer f2) ∧ W.cell? ⟨p, 3, none⟩ = some (.iface f3 v3)) (go_keep) (fail)
  all_goals
    go_wp2_with fail
    go_ret
    exact ⟨_, rfl, rfl⟩

set_option maxHeartbeats 1000000 in
theorem newObjectValue_any (p : Nat) (f0 : ByteArray) (f1 : Option Addr) (f2 : Option Addr) (n2 : Nat) (c2 : Nat) (w : World) (h : w.heap[p]? = some (.cells #[.string f0, .pointer f1, .slice f2 n2 c2] 317 (0, 0))) :
    Calls Tryz.prog 129 #[.pointer (some ⟨p, 0, none⟩)] w (Copied 317 [.pointer f1, .slice f2 n2 c2] w) := by
  have h1 : w.cell? ⟨p, 1, none⟩ = some (.pointer f1) := cell_of h rfl
  have h2 : w.cell? ⟨p, 2, none⟩ = some (.slice f2 n2 c2) := cell_of h rfl
  clear h
  go_enter Tryz.func129, Tryz.ntmps129
  go_wp2_with fail
  go_region_held3 (fun W => W.cell? ⟨p, 1, none⟩ = some (.pointer f1) ∧ W.cell? ⟨p, 2, none⟩ = some (.slice f2 n2 c2)) (go_keep) (fail)
  all_goals
    go_wp2_with fail
    go_ret
    exact ⟨_, rfl, rfl⟩

set_option maxHeartbeats 1000000 in
theorem newFragmentSpread_any (p : Nat) (f0 : ByteArray) (f1 : Option Addr) (f2 : Option Addr) (f3 : Option Addr) (n3 : Nat) (c3 : Nat) (w : World) (h : w.heap[p]? = some (.cells #[.string f0, .pointer f1, .pointer f2, .slice f3 n3 c3] 335 (0, 0))) :
    Calls Tryz.prog 131 #[.pointer (some ⟨p, 0, none⟩)] w (Copied 335 [.pointer f1, .pointer f2, .slice f3 n3 c3] w) := by
  have h1 : w.cell? ⟨p, 1, none⟩ = some (.pointer f1) := cell_of h rfl
  have h2 : w.cell? ⟨p, 2, none⟩ = some (.pointer f2) := cell_of h rfl
  have h3 : w.cell? ⟨p, 3, none⟩ = some (.slice f3 n3 c3) := cell_of h rfl
  clear h
  go_enter Tryz.func131, Tryz.ntmps131
  go_wp2_with fail
  go_region_held3 (fun W => W.cell? ⟨p, 1, none⟩ = some (.pointer f1) ∧ W.cell? ⟨p, 2, none⟩ = some (.pointer f2) ∧ W.cell? ⟨p, 3, none⟩ = some (.slice f3 n3 c3)) (go_keep) (fail)
  all_goals
    go_wp2_with fail
    go_ret
    exact ⟨_, rfl, rfl⟩

set_option maxHeartbeats 1000000 in
theorem newInlineFragment_any (p : Nat) (f0 : ByteArray) (f1 : Option Addr) (f2 : Option Addr) (f3 : Option Addr) (n3 : Nat) (c3 : Nat) (f4 : Option Addr) (w : World) (h : w.heap[p]? = some (.cells #[.string f0, .pointer f1, .pointer f2, .slice f3 n3 c3, .pointer f4] 338 (0, 0))) :
    Calls Tryz.prog 132 #[.pointer (some ⟨p, 0, none⟩)] w (Copied 338 [.pointer f1, .pointer f2, .slice f3 n3 c3, .pointer f4] w) := by
  have h1 : w.cell? ⟨p, 1, none⟩ = some (.pointer f1) := cell_of h rfl
  have h2 : w.cell? ⟨p, 2, none⟩ = some (.pointer f2) := cell_of h rfl
  have h3 : w.cell? ⟨p, 3, none⟩ = some (.slice f3 n3 c3) := cell_of h rfl
  have h4 : w.cell? ⟨p, 4, none⟩ = some (.pointer f4) := cell_of h rfl
  clear h
  go_enter Tryz.func132, Tryz.ntmps132
  go_wp2_with fail
  go_region_held3 (fun W => W.cell? ⟨p, 1, none⟩ = some (.pointer f1) ∧ W.cell? ⟨p, 2, none⟩ = some (.pointer f2) ∧ W.cell? ⟨p, 3, none⟩ = some (.slice f3 n3 c3) ∧ W.cell? ⟨p, 4, none⟩ = some (.pointer f4)) (go_keep) (fail)
  all_goals
    go_wp2_with fail
    go_ret
    exact ⟨_, rfl, rfl⟩

set_option maxHeartbeats 1000000 in
theorem newFragmentDefinition_any (p : Nat) (f0 : ByteArray) (f1 : Option Addr) (f2 : ByteArray) (f3 : Option Addr) (f4 : Option Addr) (n4 : Nat) (c4 : Nat) (f5 : Option Addr) (f6 : Option Addr) (n6 : Nat) (c6 : Nat) (f7 : Option Addr) (w : World) (h : w.heap[p]? = some (.cells #[.string f0, .pointer f1, .string f2, .pointer f3, .slice f4 n4 c4, .pointer f5, .slice f6 n6 c6, .pointer f7] 119 (0, 0))) :
    Calls Tryz.prog 48 #[.pointer (some ⟨p, 0, none⟩)] w (Copied 119 [.pointer f1, .string f2, .pointer f3, .slice f4 n4 c4, .pointer f5, .slice f6 n6 c6, .pointer f7] w) := by
  have h1 : w.cell? ⟨p, 1, none⟩ = some (.pointer f1) := cell_of h rfl
  have h2 : w.cell? ⟨p, 2, none⟩ = some (.string f2) := cell_of h rfl
  have h3 : w.cell? ⟨p, 3, none⟩ = some (.pointer f3) := cell_of h rfl
  have h4 : w.cell? ⟨p, 4, none⟩ = some (.slice f4 n4 c4) := cell_of h rfl
  have h5 : w.cell? ⟨p, 5, none⟩ = some (.pointer f5) := cell_of h rfl
  have h6 : w.cell? ⟨p, 6, none⟩ = some (.slice f6 n6 c6) := cell_of h rfl
  have h7 : w.cell? ⟨p, 7, none⟩ = some (.pointer f7) := cell_of h rfl
  clear h
  go_enter Tryz.func48, Tryz.ntmps48
  go_wp2_with fail
  go_region_held3 (fun W => W.cell? ⟨p, 1, none⟩ = some (.pointer f1) ∧ W.cell? ⟨p, 2, none⟩ = some (.string f2) ∧ W.cell? ⟨p, 3, none⟩ = some (.pointer f3) ∧ W.cell? ⟨p, 4, none⟩ = some (.slice f4 n4 c4) ∧ W.cell? ⟨p, 5, none⟩ = some (.pointer f5) ∧ W.cell? ⟨p, 6, none⟩ = some (.slice f6 n6 c6) ∧ W.cell? ⟨p, 7, none⟩ = some (.pointer f7)) (go_keep) (fail)
  all_goals
    go_wp2_with fail
    go_ret
    exact ⟨_, rfl, rfl⟩

set_option maxHeartbeats 1000000 in
theorem newDocument_any (p : Nat) (f0 : ByteArray) (f1 : Option Addr) (f2 : Option Addr) (n2 : Nat) (c2 : Nat) (w : World) (h : w.heap[p]? = some (.cells #[.string f0, .pointer f1, .slice f2 n2 c2] 42 (0, 0))) :
    Calls Tryz.prog 22 #[.pointer (some ⟨p, 0, none⟩)] w (Copied 42 [.pointer f1, .slice f2 n2 c2] w) := by
  have h1 : w.cell? ⟨p, 1, none⟩ = some (.pointer f1) := cell_of h rfl
  have h2 : w.cell? ⟨p, 2, none⟩ = some (.slice f2 n2 c2) := cell_of h rfl
  clear h
  go_enter Tryz.func22, Tryz.ntmps22
  go_wp2_with fail
  go_region_held3 (fun W => W.cell? ⟨p, 1, none⟩ = some (.pointer f1) ∧ W.cell? ⟨p, 2, none⟩ = some (.slice f2 n2 c2)) (go_keep) (fail)
  all_goals
    go_wp2_with fail
    go_ret
    exact ⟨_, rfl, rfl⟩

end

end Go.Proofs.YtigpnidffiaigaaGreat
