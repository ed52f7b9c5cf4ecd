/- Walks: the fields of a node: words. Walks: the fields of a node: kinds (a). -/
import Derived.Test.YtigpnidffiaigaaGreatProg
import Derived.BigRegion
import Derived.Test.YtigpnidffiaigaaGreatQ44
set_option linter.unusedVariables false
set_option linter.unusedSimpArgs false
namespace Go.Proofs.YtigpnidffiaigaaGreat

section
open Go.RowKit

theorem isName_b (s : ByteArray) (w : World) (hs : s.size ≤ 2147483647) : Calls Tryz.prog 29 #[.string s] w fun e w' => ∃ b, e = .returned (.bool b) ∧ w' = w :=
  (isName_any s w (by omega)).mono fun e w' ⟨b, h1, h2, _⟩ => ⟨b, h1, h2⟩
theorem isName_e (w : World) : Calls Tryz.prog 29 #[.string ⟨#[]⟩] w fun e w' => e = .returned (.bool false) ∧ w' = w :=
  (isName_any ⟨#[]⟩ w (by show 0 ≤ 1099511627776; decide)).mono fun e w' ⟨b, h1, h2, h3⟩ => by
    cases b with
    | false => exact ⟨h1, h2⟩
    | true => exact absurd rfl (h3 rfl)
theorem isNumber_b (s : ByteArray) (c : Int) (w : World) (hs : s.size ≤ 2147483647) : Calls Tryz.prog 30 #[.string s, .int .i64 c] w (SomeB w) := isNumber_any s c w (by omega)
theorem textable_b (s : ByteArray) (w : World) (hs : s.size ≤ 2147483647) : Calls Tryz.prog 31 #[.string s] w (SameB w) := textable_any s w (by omega)
def FormedPost (P : Prop) (w : World) (e : Ending) (w' : World) : Prop := ∃ b, e = .returned (.bool b) ∧ Sm [] w w' ∧ (b = true → P)
theorem formed_ok {P : Prop} {w w' : World} {b : Bool} (hP : P) (h : Sm [] w w') : FormedPost P w (.returned (.bool b)) w' := ⟨b, rfl, h, fun _ => hP⟩
theorem formed_no {P : Prop} {w w' : World} (h : Sm [] w w') : FormedPost P w (.returned (.bool false)) w' := ⟨false, rfl, h, fun h => by cases h⟩

end

section
open Go.RowKit

set_option maxRecDepth 100000 in
set_option maxHeartbeats 8000000 in
theorem formed_alias (P : Prop) (name alias text : ByteArray) (kind flag size : Int) (w : World) (h1 : name.size ≤ 2147483647) (h2 : alias.size ≤ 2147483647) (h3 : text.size ≤ 2147483647) (hk : (kind != 6) = true) (ha : ¬ alias.toList = []) (ha2 : alias.toList.isEmpty = false) (ha3 : (!alias.toList.isEmpty) = true) (hk6 : (kind == 6) = false) :
    Calls Tryz.prog 18 #[.agg #[.int .i64 kind, .string name, .string alias, .string text, .int .i64 flag, .int .i64 size]] w (FormedPost P w) := by
  go_enter Tryz.func18, Tryz.ntmps18
  go_wp2_with fail
  all_goals go_ret
  all_goals (first | exact formed_no ((Sm.refl _ _).alloc _) | exact formed_no (((Sm.refl _ _).alloc _).trans hs2))

set_option maxRecDepth 100000 in
set_option maxHeartbeats 8000000 in
theorem formed_1 (P : Prop) (name alias text : ByteArray) (kind flag size : Int) (w : World) (h1 : name.size ≤ 2147483647) (h2 : alias.size ≤ 2147483647) (h3 : text.size ≤ 2147483647) (hP : Hid P) :
    Calls Tryz.prog 18 #[.agg #[.int .i64 1, .string name, .string ⟨#[]⟩, .string text, .int .i64 flag, .int .i64 size]] w (FormedPost P w) := by
  go_enter Tryz.func18, Tryz.ntmps18
  go_wp2_with fail
  all_goals go_ret
  all_goals (first | exact formed_ok hP.out ((Sm.refl _ _).alloc _) | exact formed_ok hP.out (((Sm.refl _ _).alloc _).trans hs2))

set_option maxRecDepth 100000 in
set_option maxHeartbeats 8000000 in
theorem formed_5 (P : Prop) (name alias text : ByteArray) (kind flag size : Int) (w : World) (h1 : name.size ≤ 2147483647) (h2 : alias.size ≤ 2147483647) (h3 : text.size ≤ 2147483647) (hP : Hid P) :
    Calls Tryz.prog 18 #[.agg #[.int .i64 5, .string name, .string ⟨#[]⟩, .string text, .int .i64 flag, .int .i64 size]] w (FormedPost P w) := by
  go_enter Tryz.func18, Tryz.ntmps18
  go_wp2_with fail
  all_goals go_ret
  all_goals (first | exact formed_ok hP.out ((Sm.refl _ _).alloc _) | exact formed_ok hP.out (((Sm.refl _ _).alloc _).trans hs2))

set_option maxRecDepth 100000 in
set_option maxHeartbeats 8000000 in
theorem formed_17 (P : Prop) (name alias text : ByteArray) (kind flag size : Int) (w : World) (h1 : name.size ≤ 2147483647) (h2 : alias.size ≤ 2147483647) (h3 : text.size ≤ 2147483647) (hP : Hid P) :
    Calls Tryz.prog 18 #[.agg #[.int .i64 17, .string name, .string ⟨#[]⟩, .string text, .int .i64 flag, .int .i64 size]] w (FormedPost P w) := by
  go_enter Tryz.func18, Tryz.ntmps18
  go_wp2_with fail
  all_goals go_ret
  all_goals (first | exact formed_ok hP.out ((Sm.refl _ _).alloc _) | exact formed_ok hP.out (((Sm.refl _ _).alloc _).trans hs2))

set_option maxRecDepth 100000 in
set_option maxHeartbeats 8000000 in
theorem formed_18 (P : Prop) (name alias text : ByteArray) (kind flag size : Int) (w : World) (h1 : name.size ≤ 2147483647) (h2 : alias.size ≤ 2147483647) (h3 : text.size ≤ 2147483647) (hP : Hid P) :
    Calls Tryz.prog 18 #[.agg #[.int .i64 18, .string name, .string ⟨#[]⟩, .string text, .int .i64 flag, .int .i64 size]] w (FormedPost P w) := by
  go_enter Tryz.func18, Tryz.ntmps18
  go_wp2_with fail
  all_goals go_ret
  all_goals (first | exact formed_ok hP.out ((Sm.refl _ _).alloc _) | exact formed_ok hP.out (((Sm.refl _ _).alloc _).trans hs2))

set_option maxRecDepth 100000 in
set_option maxHeartbeats 8000000 in
theorem formed_21 (P : Prop) (name alias text : ByteArray) (kind flag size : Int) (w : World) (h1 : name.size ≤ 2147483647) (h2 : alias.size ≤ 2147483647) (h3 : text.size ≤ 2147483647) (hP : Hid P) :
    Calls Tryz.prog 18 #[.agg #[.int .i64 21, .string name, .string ⟨#[]⟩, .string text, .int .i64 flag, .int .i64 size]] w (FormedPost P w) := by
  go_enter Tryz.func18, Tryz.ntmps18
  go_wp2_with fail
  all_goals go_ret
  all_goals (first | exact formed_ok hP.out ((Sm.refl _ _).alloc _) | exact formed_ok hP.out (((Sm.refl _ _).alloc _).trans hs2))

end

end Go.Proofs.YtigpnidffiaigaaGreat
