/- Walks: the fields of a node: kinds (b). Walks: the fields of a node: kinds (c). -/
import Derived.Test.YtigpnidffiaigaaGreatProg
import Derived.BigRegion
import Derived.Test.YtigpnidffiaigaaGreatQ45
set_option linter.unusedVariables false
set_option linter.unusedSimpArgs false
namespace Go.Proofs.YtigpnidffiaigaaGreat

section
open Go.RowKit

set_option maxRecDepth 100000 in
set_option maxHeartbeats 8000000 in
theorem formed_22 (P : Prop) (name alias text : ByteArray) (kind flag size : Int) (w : World) (h1 : name.size ≤ 2147483647) (h2 : alias.size ≤ 2147483647) (h3 : text.size ≤ 2147483647) (hP : Hid P) :
    Calls Tryz.prog 18 #[.agg #[.int .i64 22, .string name, .string ⟨#[]⟩, .string text, .int .i64 flag, .int .i64 size]] w (FormedPost P w) := by
  go_enter Tryz.func18, Tryz.ntmps18
  go_wp2_with fail
  all_goals go_ret
  all_goals (first | exact formed_ok hP.out ((Sm.refl _ _).alloc _) | exact formed_ok hP.out (((Sm.refl _ _).alloc _).trans hs2))

set_option maxRecDepth 100000 in
set_option maxHeartbeats 8000000 in
theorem formed_24 (P : Prop) (name alias text : ByteArray) (kind flag size : Int) (w : World) (h1 : name.size ≤ 2147483647) (h2 : alias.size ≤ 2147483647) (h3 : text.size ≤ 2147483647) (hP : Hid P) :
    Calls Tryz.prog 18 #[.agg #[.int .i64 24, .string name, .string ⟨#[]⟩, .string text, .int .i64 flag, .int .i64 size]] w (FormedPost P w) := by
  go_enter Tryz.func18, Tryz.ntmps18
  go_wp2_with fail
  all_goals go_ret
  all_goals (first | exact formed_ok hP.out ((Sm.refl _ _).alloc _) | exact formed_ok hP.out (((Sm.refl _ _).alloc _).trans hs2))

set_option maxRecDepth 100000 in
set_option maxHeartbeats 8000000 in
theorem formed_39 (P : Prop) (name alias text : ByteArray) (kind flag size : Int) (w : World) (h1 : name.size ≤ 2147483647) (h2 : alias.size ≤ 2147483647) (h3 : text.size ≤ 2147483647) (hP : Hid P) :
    Calls Tryz.prog 18 #[.agg #[.int .i64 39, .string name, .string ⟨#[]⟩, .string text, .int .i64 flag, .int .i64 size]] w (FormedPost P w) := by
  go_enter Tryz.func18, Tryz.ntmps18
  go_wp2_with fail
  all_goals go_ret
  all_goals (first | exact formed_ok hP.out ((Sm.refl _ _).alloc _) | exact formed_ok hP.out (((Sm.refl _ _).alloc _).trans hs2))

set_option maxRecDepth 100000 in
set_option maxHeartbeats 8000000 in
theorem formed_15 (P : Prop) (name alias text : ByteArray) (kind flag size : Int) (w : World) (h1 : name.size ≤ 2147483647) (h2 : alias.size ≤ 2147483647) (h3 : text.size ≤ 2147483647) (hP : Hid P) :
    Calls Tryz.prog 18 #[.agg #[.int .i64 15, .string name, .string ⟨#[]⟩, .string text, .int .i64 flag, .int .i64 size]] w (FormedPost P w) := by
  go_enter Tryz.func18, Tryz.ntmps18
  go_wp2_with fail
  all_goals go_ret
  all_goals (first | exact formed_ok hP.out ((Sm.refl _ _).alloc _) | exact formed_ok hP.out (((Sm.refl _ _).alloc _).trans hs2))

set_option maxRecDepth 100000 in
set_option maxHeartbeats 8000000 in
theorem formed_8 (P : Prop) (name alias text : ByteArray) (kind flag size : Int) (w : World) (h1 : name.size ≤ 2147483647) (h2 : alias.size ≤ 2147483647) (h3 : text.size ≤ 2147483647) (hP : Hid P) :
    Calls Tryz.prog 18 #[.agg #[.int .i64 8, .string name, .string ⟨#[]⟩, .string text, .int .i64 flag, .int .i64 size]] w (FormedPost P w) := by
  go_enter Tryz.func18, Tryz.ntmps18
  go_wp2_with (go_at_call 29; refine (isName_b _ _ ?_).mono ?_; assumption; rintro e w' ⟨b, rfl, hww⟩; rw [hww]; clear hww w')
  all_goals go_ret
  all_goals (first | exact formed_ok hP.out ((Sm.refl _ _).alloc _) | exact formed_ok hP.out (((Sm.refl _ _).alloc _).trans hs2))

set_option maxRecDepth 100000 in
set_option maxHeartbeats 8000000 in
theorem formed_12 (P : Prop) (name alias text : ByteArray) (kind flag size : Int) (w : World) (h1 : name.size ≤ 2147483647) (h2 : alias.size ≤ 2147483647) (h3 : text.size ≤ 2147483647) (hP : Hid P) :
    Calls Tryz.prog 18 #[.agg #[.int .i64 12, .string name, .string ⟨#[]⟩, .string text, .int .i64 flag, .int .i64 size]] w (FormedPost P w) := by
  go_enter Tryz.func18, Tryz.ntmps18
  go_wp2_with (go_at_call 30; refine (isNumber_b _ _ _ ?_).mono ?_; assumption; rintro e w2 ⟨b, rfl, hs2⟩)
  all_goals go_ret
  all_goals (first | exact formed_ok hP.out ((Sm.refl _ _).alloc _) | exact formed_ok hP.out (((Sm.refl _ _).alloc _).trans hs2))

set_option maxRecDepth 100000 in
set_option maxHeartbeats 8000000 in
theorem formed_13 (P : Prop) (name alias text : ByteArray) (kind flag size : Int) (w : World) (h1 : name.size ≤ 2147483647) (h2 : alias.size ≤ 2147483647) (h3 : text.size ≤ 2147483647) (hP : Hid P) :
    Calls Tryz.prog 18 #[.agg #[.int .i64 13, .string name, .string ⟨#[]⟩, .string text, .int .i64 flag, .int .i64 size]] w (FormedPost P w) := by
  go_enter Tryz.func18, Tryz.ntmps18
  go_wp2_with (go_at_call 30; refine (isNumber_b _ _ _ ?_).mono ?_; assumption; rintro e w2 ⟨b, rfl, hs2⟩)
  all_goals go_ret
  all_goals (first | exact formed_ok hP.out ((Sm.refl _ _).alloc _) | exact formed_ok hP.out (((Sm.refl _ _).alloc _).trans hs2))

end

section
open Go.RowKit

set_option maxRecDepth 100000 in
set_option maxHeartbeats 8000000 in
theorem formed_2q (P : Prop) (name alias text : ByteArray) (kind flag size : Int) (w : World) (h1 : name.size ≤ 2147483647) (h2 : alias.size ≤ 2147483647) (h3 : text.size ≤ 2147483647) (hP : Hid P) :
    Calls Tryz.prog 18 #[.agg #[.int .i64 2, .string name, .string ⟨#[]⟩, .string ⟨#[113, 117, 101, 114, 121]⟩, .int .i64 flag, .int .i64 size]] w (FormedPost P w) := by
  go_enter Tryz.func18, Tryz.ntmps18
  go_wp2_with (go_at_call 29; refine (isName_b _ _ ?_).mono ?_; assumption; rintro e w' ⟨b, rfl, hww⟩; rw [hww]; clear hww w')
  all_goals go_ret
  all_goals (first | exact formed_ok hP.out ((Sm.refl _ _).alloc _) | exact formed_ok hP.out (((Sm.refl _ _).alloc _).trans hs2))

set_option maxRecDepth 100000 in
set_option maxHeartbeats 8000000 in
theorem formed_2m (P : Prop) (name alias text : ByteArray) (kind flag size : Int) (w : World) (h1 : name.size ≤ 2147483647) (h2 : alias.size ≤ 2147483647) (h3 : text.size ≤ 2147483647) (hP : Hid P) :
    Calls Tryz.prog 18 #[.agg #[.int .i64 2, .string name, .string ⟨#[]⟩, .string ⟨#[109, 117, 116, 97, 116, 105, 111, 110]⟩, .int .i64 flag, .int .i64 size]] w (FormedPost P w) := by
  go_enter Tryz.func18, Tryz.ntmps18
  go_wp2_with (go_at_call 29; refine (isName_b _ _ ?_).mono ?_; assumption; rintro e w' ⟨b, rfl, hww⟩; rw [hww]; clear hww w')
  all_goals go_ret
  all_goals (first | exact formed_ok hP.out ((Sm.refl _ _).alloc _) | exact formed_ok hP.out (((Sm.refl _ _).alloc _).trans hs2))

set_option maxRecDepth 100000 in
set_option maxHeartbeats 8000000 in
theorem formed_2s (P : Prop) (name alias text : ByteArray) (kind flag size : Int) (w : World) (h1 : name.size ≤ 2147483647) (h2 : alias.size ≤ 2147483647) (h3 : text.size ≤ 2147483647) (hP : Hid P) :
    Calls Tryz.prog 18 #[.agg #[.int .i64 2, .string name, .string ⟨#[]⟩, .string ⟨#[115, 117, 98, 115, 99, 114, 105, 112, 116, 105, 111, 110]⟩, .int .i64 flag, .int .i64 size]] w (FormedPost P w) := by
  go_enter Tryz.func18, Tryz.ntmps18
  go_wp2_with (go_at_call 29; refine (isName_b _ _ ?_).mono ?_; assumption; rintro e w' ⟨b, rfl, hww⟩; rw [hww]; clear hww w')
  all_goals go_ret
  all_goals (first | exact formed_ok hP.out ((Sm.refl _ _).alloc _) | exact formed_ok hP.out (((Sm.refl _ _).alloc _).trans hs2))

set_option maxRecDepth 100000 in
set_option maxHeartbeats 8000000 in
theorem formed_2n (P : Prop) (name alias text : ByteArray) (kind flag size : Int) (w : World) (h1 : name.size ≤ 2147483647) (h2 : alias.size ≤ 2147483647) (h3 : text.size ≤ 2147483647) (t0 : (¬ text.toList = [113, 117, 101, 114, 121])) (t1 : (¬ text.toList = [109, 117, 116, 97, 116, 105, 111, 110])) (t2 : (¬ text.toList = [115, 117, 98, 115, 99, 114, 105, 112, 116, 105, 111, 110])) :
    Calls Tryz.prog 18 #[.agg #[.int .i64 2, .string name, .string ⟨#[]⟩, .string text, .int .i64 flag, .int .i64 size]] w (FormedPost P w) := by
  go_enter Tryz.func18, Tryz.ntmps18
  go_wp2_with fail
  all_goals go_ret
  all_goals (first | exact formed_no ((Sm.refl _ _).alloc _) | exact formed_no (((Sm.refl _ _).alloc _).trans hs2))

end

end Go.Proofs.YtigpnidffiaigaaGreat
