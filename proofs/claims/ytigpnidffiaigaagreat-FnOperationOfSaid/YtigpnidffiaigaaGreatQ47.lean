/- Walks: the fields of a node: kinds (d). Walks: the fields of a node: kinds (e). -/
import Derived.Test.YtigpnidffiaigaaGreatProg
import Derived.BigRegion
import Derived.Test.YtigpnidffiaigaaGreatQ45
set_option linter.unusedVariables false
set_option linter.unusedSimpArgs false
namespace Go.Proofs.YtigpnidffiaigaaGreat

section
open Go.RowKit

set_option maxRecDepth 100000 in
set_option maxHeartbeats 8000000 in
theorem formed_3e (P : Prop) (name alias text : ByteArray) (kind flag size : Int) (w : World) (h1 : name.size ≤ 2147483647) (h2 : alias.size ≤ 2147483647) (h3 : text.size ≤ 2147483647) :
    Calls Tryz.prog 18 #[.agg #[.int .i64 3, .string ⟨#[]⟩, .string ⟨#[]⟩, .string text, .int .i64 flag, .int .i64 size]] w (FormedPost P w) := by
  go_enter Tryz.func18, Tryz.ntmps18
  go_wp2_with (go_at_call 29; (with_reducible refine (isName_e _).mono ?_); rintro e w' ⟨rfl, hww⟩; rw [hww]; clear hww w')
  all_goals go_ret
  all_goals (first | exact formed_no ((Sm.refl _ _).alloc _) | exact formed_no (((Sm.refl _ _).alloc _).trans hs2))

set_option maxRecDepth 100000 in
set_option maxHeartbeats 8000000 in
theorem formed_3t (P : Prop) (name alias text : ByteArray) (kind flag size : Int) (w : World) (h1 : name.size ≤ 2147483647) (h2 : alias.size ≤ 2147483647) (h3 : text.size ≤ 2147483647) :
    Calls Tryz.prog 18 #[.agg #[.int .i64 3, .string name, .string ⟨#[]⟩, .string ⟨#[]⟩, .int .i64 flag, .int .i64 size]] w (FormedPost P w) := by
  go_enter Tryz.func18, Tryz.ntmps18
  go_wp2_with (first | (go_at_call 29; (with_reducible refine (isName_e _).mono ?_); rintro e w' ⟨rfl, hww⟩; rw [hww]; clear hww w') | (go_at_call 29; refine (isName_b _ _ ?_).mono ?_; assumption; rintro e w' ⟨b, rfl, hww⟩; rw [hww]; clear hww w'))
  all_goals go_ret
  all_goals (first | exact formed_no ((Sm.refl _ _).alloc _) | exact formed_no (((Sm.refl _ _).alloc _).trans hs2))

set_option maxRecDepth 100000 in
set_option maxHeartbeats 8000000 in
theorem formed_3 (P : Prop) (name alias text : ByteArray) (kind flag size : Int) (w : World) (h1 : name.size ≤ 2147483647) (h2 : alias.size ≤ 2147483647) (h3 : text.size ≤ 2147483647) (hP : Hid P) :
    Calls Tryz.prog 18 #[.agg #[.int .i64 3, .string name, .string ⟨#[]⟩, .string text, .int .i64 flag, .int .i64 size]] w (FormedPost P w) := by
  go_enter Tryz.func18, Tryz.ntmps18
  go_wp2_with (go_at_call 29; refine (isName_b _ _ ?_).mono ?_; assumption; rintro e w' ⟨b, rfl, hww⟩; rw [hww]; clear hww w')
  all_goals go_ret
  all_goals (first | exact formed_ok hP.out ((Sm.refl _ _).alloc _) | exact formed_ok hP.out (((Sm.refl _ _).alloc _).trans hs2))

set_option maxRecDepth 100000 in
set_option maxHeartbeats 8000000 in
theorem formed_7e (P : Prop) (name alias text : ByteArray) (kind flag size : Int) (w : World) (h1 : name.size ≤ 2147483647) (h2 : alias.size ≤ 2147483647) (h3 : text.size ≤ 2147483647) :
    Calls Tryz.prog 18 #[.agg #[.int .i64 7, .string ⟨#[]⟩, .string ⟨#[]⟩, .string text, .int .i64 flag, .int .i64 size]] w (FormedPost P w) := by
  go_enter Tryz.func18, Tryz.ntmps18
  go_wp2_with (go_at_call 29; (with_reducible refine (isName_e _).mono ?_); rintro e w' ⟨rfl, hww⟩; rw [hww]; clear hww w')
  all_goals go_ret
  all_goals (first | exact formed_no ((Sm.refl _ _).alloc _) | exact formed_no (((Sm.refl _ _).alloc _).trans hs2))

set_option maxRecDepth 100000 in
set_option maxHeartbeats 8000000 in
theorem formed_7 (P : Prop) (name alias text : ByteArray) (kind flag size : Int) (w : World) (h1 : name.size ≤ 2147483647) (h2 : alias.size ≤ 2147483647) (h3 : text.size ≤ 2147483647) (hP : Hid P) :
    Calls Tryz.prog 18 #[.agg #[.int .i64 7, .string name, .string ⟨#[]⟩, .string text, .int .i64 flag, .int .i64 size]] w (FormedPost P w) := by
  go_enter Tryz.func18, Tryz.ntmps18
  go_wp2_with (go_at_call 29; refine (isName_b _ _ ?_).mono ?_; assumption; rintro e w' ⟨b, rfl, hww⟩; rw [hww]; clear hww w')
  all_goals go_ret
  all_goals (first | exact formed_ok hP.out ((Sm.refl _ _).alloc _) | exact formed_ok hP.out (((Sm.refl _ _).alloc _).trans hs2))

set_option maxRecDepth 100000 in
set_option maxHeartbeats 8000000 in
theorem formed_14 (P : Prop) (name alias text : ByteArray) (kind flag size : Int) (w : World) (h1 : name.size ≤ 2147483647) (h2 : alias.size ≤ 2147483647) (h3 : text.size ≤ 2147483647) (hP : Hid P) :
    Calls Tryz.prog 18 #[.agg #[.int .i64 14, .string name, .string ⟨#[]⟩, .string text, .int .i64 flag, .int .i64 size]] w (FormedPost P w) := by
  go_enter Tryz.func18, Tryz.ntmps18
  go_wp2_with (first | (go_at_call 31; refine (textable_b _ _ ?_).mono ?_; assumption; rintro e w' ⟨b, rfl, hww⟩; rw [hww]; clear hww w') | (go_at_call 32; refine (blockable_any _ _ ?_).mono ?_; assumption; rintro e w2 ⟨b, rfl, hs2⟩))
  all_goals go_ret
  all_goals (first | exact formed_ok hP.out ((Sm.refl _ _).alloc _) | exact formed_ok hP.out (((Sm.refl _ _).alloc _).trans hs2))

set_option maxRecDepth 100000 in
set_option maxHeartbeats 8000000 in
theorem formed_23 (P : Prop) (name alias text : ByteArray) (kind flag size : Int) (w : World) (h1 : name.size ≤ 2147483647) (h2 : alias.size ≤ 2147483647) (h3 : text.size ≤ 2147483647) (hP : Hid P) :
    Calls Tryz.prog 18 #[.agg #[.int .i64 23, .string name, .string ⟨#[]⟩, .string text, .int .i64 flag, .int .i64 size]] w (FormedPost P w) := by
  go_enter Tryz.func18, Tryz.ntmps18
  go_wp2_with (first | (go_at_call 31; refine (textable_b _ _ ?_).mono ?_; assumption; rintro e w' ⟨b, rfl, hww⟩; rw [hww]; clear hww w') | (go_at_call 32; refine (blockable_any _ _ ?_).mono ?_; assumption; rintro e w2 ⟨b, rfl, hs2⟩))
  all_goals go_ret
  all_goals (first | exact formed_ok hP.out ((Sm.refl _ _).alloc _) | exact formed_ok hP.out (((Sm.refl _ _).alloc _).trans hs2))

end

section
open Go.RowKit

set_option maxRecDepth 100000 in
set_option maxHeartbeats 8000000 in
theorem formed_16 (P : Prop) (name alias text : ByteArray) (kind flag size : Int) (w : World) (h1 : name.size ≤ 2147483647) (h2 : alias.size ≤ 2147483647) (h3 : text.size ≤ 2147483647) (hP : Hid P) :
    Calls Tryz.prog 18 #[.agg #[.int .i64 16, .string name, .string ⟨#[]⟩, .string text, .int .i64 flag, .int .i64 size]] w (FormedPost P w) := by
  go_enter Tryz.func18, Tryz.ntmps18
  go_wp2_with (go_at_call 29; refine (isName_b _ _ ?_).mono ?_; assumption; rintro e w' ⟨b, rfl, hww⟩; rw [hww]; clear hww w')
  all_goals go_ret
  all_goals (first | exact formed_ok hP.out ((Sm.refl _ _).alloc _) | exact formed_ok hP.out (((Sm.refl _ _).alloc _).trans hs2))

set_option maxRecDepth 100000 in
set_option maxHeartbeats 8000000 in
theorem formed_35 (P : Prop) (name alias text : ByteArray) (kind flag size : Int) (w : World) (h1 : name.size ≤ 2147483647) (h2 : alias.size ≤ 2147483647) (h3 : text.size ≤ 2147483647) (hP : Hid P) :
    Calls Tryz.prog 18 #[.agg #[.int .i64 35, .string name, .string ⟨#[]⟩, .string text, .int .i64 flag, .int .i64 size]] w (FormedPost P w) := by
  go_enter Tryz.func18, Tryz.ntmps18
  go_wp2_with (go_at_call 29; refine (isName_b _ _ ?_).mono ?_; assumption; rintro e w' ⟨b, rfl, hww⟩; rw [hww]; clear hww w')
  all_goals go_ret
  all_goals (first | exact formed_ok hP.out ((Sm.refl _ _).alloc _) | exact formed_ok hP.out (((Sm.refl _ _).alloc _).trans hs2))

set_option maxRecDepth 100000 in
set_option maxHeartbeats 8000000 in
theorem formed_25q (P : Prop) (name alias text : ByteArray) (kind flag size : Int) (w : World) (h1 : name.size ≤ 2147483647) (h2 : alias.size ≤ 2147483647) (h3 : text.size ≤ 2147483647) (hP : Hid P) :
    Calls Tryz.prog 18 #[.agg #[.int .i64 25, .string name, .string ⟨#[]⟩, .string ⟨#[113, 117, 101, 114, 121]⟩, .int .i64 flag, .int .i64 size]] w (FormedPost P w) := by
  go_enter Tryz.func18, Tryz.ntmps18
  go_wp2_with (go_at_call 29; refine (isName_b _ _ ?_).mono ?_; assumption; rintro e w' ⟨b, rfl, hww⟩; rw [hww]; clear hww w')
  all_goals go_ret
  all_goals (first | exact formed_ok hP.out ((Sm.refl _ _).alloc _) | exact formed_ok hP.out (((Sm.refl _ _).alloc _).trans hs2))

set_option maxRecDepth 100000 in
set_option maxHeartbeats 8000000 in
theorem formed_25m (P : Prop) (name alias text : ByteArray) (kind flag size : Int) (w : World) (h1 : name.size ≤ 2147483647) (h2 : alias.size ≤ 2147483647) (h3 : text.size ≤ 2147483647) (hP : Hid P) :
    Calls Tryz.prog 18 #[.agg #[.int .i64 25, .string name, .string ⟨#[]⟩, .string ⟨#[109, 117, 116, 97, 116, 105, 111, 110]⟩, .int .i64 flag, .int .i64 size]] w (FormedPost P w) := by
  go_enter Tryz.func18, Tryz.ntmps18
  go_wp2_with (go_at_call 29; refine (isName_b _ _ ?_).mono ?_; assumption; rintro e w' ⟨b, rfl, hww⟩; rw [hww]; clear hww w')
  all_goals go_ret
  all_goals (first | exact formed_ok hP.out ((Sm.refl _ _).alloc _) | exact formed_ok hP.out (((Sm.refl _ _).alloc _).trans hs2))

set_option maxRecDepth 100000 in
set_option maxHeartbeats 8000000 in
theorem formed_25s (P : Prop) (name alias text : ByteArray) (kind flag size : Int) (w : World) (h1 : name.size ≤ 2147483647) (h2 : alias.size ≤ 2147483647) (h3 : text.size ≤ 2147483647) (hP : Hid P) :
    Calls Tryz.prog 18 #[.agg #[.int .i64 25, .string name, .string ⟨#[]⟩, .string ⟨#[115, 117, 98, 115, 99, 114, 105, 112, 116, 105, 111, 110]⟩, .int .i64 flag, .int .i64 size]] w (FormedPost P w) := by
  go_enter Tryz.func18, Tryz.ntmps18
  go_wp2_with (go_at_call 29; refine (isName_b _ _ ?_).mono ?_; assumption; rintro e w' ⟨b, rfl, hww⟩; rw [hww]; clear hww w')
  all_goals go_ret
  all_goals (first | exact formed_ok hP.out ((Sm.refl _ _).alloc _) | exact formed_ok hP.out (((Sm.refl _ _).alloc _).trans hs2))

set_option maxRecDepth 100000 in
set_option maxHeartbeats 8000000 in
theorem formed_25n (P : Prop) (name alias text : ByteArray) (kind flag size : Int) (w : World) (h1 : name.size ≤ 2147483647) (h2 : alias.size ≤ 2147483647) (h3 : text.size ≤ 2147483647) (t0 : (¬ text.toList = [113, 117, 101, 114, 121])) (t1 : (¬ text.toList = [109, 117, 116, 97, 116, 105, 111, 110])) (t2 : (¬ text.toList = [115, 117, 98, 115, 99, 114, 105, 112, 116, 105, 111, 110])) :
    Calls Tryz.prog 18 #[.agg #[.int .i64 25, .string name, .string ⟨#[]⟩, .string text, .int .i64 flag, .int .i64 size]] w (FormedPost P w) := by
  go_enter Tryz.func18, Tryz.ntmps18
  go_wp2_with fail
  all_goals go_ret
  all_goals (first | exact formed_no ((Sm.refl _ _).alloc _) | exact formed_no (((Sm.refl _ _).alloc _).trans hs2))

end

end Go.Proofs.YtigpnidffiaigaaGreat
