/- Walks: the shape of a node: types (b). -/
import Derived.Test.YtigpnidffiaigaaGreatProg
import Derived.BigRegion
import Derived.Test.YtigpnidffiaigaaGreatQ31
set_option linter.unusedVariables false
set_option linter.unusedSimpArgs false
namespace Go.Proofs.YtigpnidffiaigaaGreat

section
open Go.RowKit

set_option maxRecDepth 100000 in
set_option maxHeartbeats 8000000 in
theorem shapedType_31 (rb b o cap i : Nat) (l : List Nd) (lv0 : Value) (ks0 : List Nat) (m0 : Int) (w : World) (hrow : RowAt w rb b o cap l lv0 ks0 m0) (hk0 : ∀ k, k ∈ ks0 → k < l.length) (hti : TreeIn l 0 l.length) (hi : i < l.length) (hn : l.length ≤ 2147483647) (hl0 : ks0.length ≤ 2147483647) :
    Calls Tryz.prog 42 #[.pointer (some ⟨rb, 0, none⟩), .int .i64 31, .slice (some ⟨b, o, none⟩) l.length cap, .int .i64 (i : Int)] w (SomeR rb w) := by
  have HR0 : Hid (RowAt w rb b o cap l lv0 ks0 m0) := hrow
  have HK0 : Hid (∀ k, k ∈ ks0 → k < l.length) := hk0
  have HS0 : Hid (Sm [rb] w w) := Sm.refl _ _
  have ht : Hid (TreeIn l 0 l.length) := hti
  obtain ⟨hsz, hsl, _⟩ := hti i (Nat.zero_le _) hi
  clear hrow hk0 hti
  go_enter Tryz.func42, Tryz.ntmps42
  go_wp2_with fail
  refine (all_go rb b o cap _ _ l _ ks0 _ [23] _ rfl HR0.out HK0.out hn hl0 rfl (by decide)).mono ?_
  rintro e w1x ⟨lv1, dn1, ks1, rfl, q1, q2, q3, q4, q5⟩
  have HQ1 : Hid (ks0 = dn1 ++ ks1) := q1
  have HD1 : Hid (∀ k, k ∈ dn1 → kd l k ∈ ([23] : List Int)) := q2
  have HS1 : Hid (Sm [rb] w w1x) := HS0.out.trans q4
  have HR1 : Hid (RowAt w1x rb b o cap l lv1 ks1 (dn1.length : Int)) := q5
  have HK1 : Hid (∀ k, k ∈ ks1 → k < l.length) := fun k hk => HK0.out k (by rw [q1]; simp [hk])
  have hl1 : ks1.length ≤ 2147483647 := by rw [q1] at hl0; simp at hl0; omega
  have c21 : w1x.cell? ⟨rb, 2, none⟩ = some (.int .i64 (dn1.length : Int)) := cell_of q5.obj rfl
  clear q1 q2 q3 q4 q5
  go_wp2_with fail
  refine (most_is rb b o cap l _ _ _ _ HR1.out).mono ?_
  rintro e w' ⟨q, rfl, hww⟩
  rw [hww]
  clear hww w'
  cases q with
  | false =>
    go_wp2_with fail
    all_goals go_ret
    all_goals exact someR HS1.out
  | true =>
    go_wp2_with fail
    refine (fixedHere_any l i b o cap _ HR1.out.doc ht.out hi hn).mono ?_
    rintro e w2x ⟨q, rfl, g0⟩
    have HS2 : Hid (Sm [rb] w w2x) := HS1.out.trans g0.of_nil
    obtain ⟨ks2, hkn⟩ : ∃ k, k = ks1 := ⟨_, rfl⟩
    have HR2 : Hid (RowAt w2x rb b o cap l lv1 ks2 (dn1.length : Int)) := by rw [hkn]; exact HR1.out.sm (X := []) g0
    have HK2 : Hid (∀ k, k ∈ ks2 → k < l.length) := by rw [hkn]; exact HK1.out
    have hl2 : ks2.length ≤ 2147483647 := by rw [hkn]; exact hl1
    clear g0 hkn
    cases q with
    | false =>
      go_wp2_with fail
      all_goals go_ret
      all_goals exact someR HS2.out
    | true =>
      go_wp2_with fail
      refine (all_go rb b o cap _ _ l _ ks2 _ [10] _ rfl HR2.out HK2.out hn hl2 rfl (by decide)).mono ?_
      rintro e w3x ⟨lv3, dn3, ks3, rfl, q1, q2, q3, q4, q5⟩
      have HQ3 : Hid (ks2 = dn3 ++ ks3) := q1
      have HD3 : Hid (∀ k, k ∈ dn3 → kd l k ∈ ([10] : List Int)) := q2
      have HS3 : Hid (Sm [rb] w w3x) := HS2.out.trans q4
      have HR3 : Hid (RowAt w3x rb b o cap l lv3 ks3 (dn3.length : Int)) := q5
      have HK3 : Hid (∀ k, k ∈ ks3 → k < l.length) := fun k hk => HK2.out k (by rw [q1]; simp [hk])
      have hl3 : ks3.length ≤ 2147483647 := by rw [q1] at hl2; simp at hl2; omega
      have c23 : w3x.cell? ⟨rb, 2, none⟩ = some (.int .i64 (dn3.length : Int)) := cell_of q5.obj rfl
      clear q1 q2 q3 q4 q5
      go_wp2_with fail
      refine (all_go rb b o cap _ _ l _ ks3 _ [29] _ rfl HR3.out HK3.out hn hl3 rfl (by decide)).mono ?_
      rintro e w4x ⟨lv4, dn4, ks4, rfl, q1, q2, q3, q4, q5⟩
      have HQ4 : Hid (ks3 = dn4 ++ ks4) := q1
      have HD4 : Hid (∀ k, k ∈ dn4 → kd l k ∈ ([29] : List Int)) := q2
      have HS4 : Hid (Sm [rb] w w4x) := HS3.out.trans q4
      have HR4 : Hid (RowAt w4x rb b o cap l lv4 ks4 (dn4.length : Int)) := q5
      have HK4 : Hid (∀ k, k ∈ ks4 → k < l.length) := fun k hk => HK3.out k (by rw [q1]; simp [hk])
      have hl4 : ks4.length ≤ 2147483647 := by rw [q1] at hl3; simp at hl3; omega
      have c24 : w4x.cell? ⟨rb, 2, none⟩ = some (.int .i64 (dn4.length : Int)) := cell_of q5.obj rfl
      clear q1 q2 q3 q4 q5
      cases ks4 with
      | nil =>
        go_wp2_with (go_at_call 34; refine (end_nil rb b o cap l _ _ _ HR4.out).mono ?_; rintro e w' ⟨rfl, hww⟩; rw [hww]; clear hww w')
        all_goals go_ret
        all_goals exact someR HS4.out
      | cons a t =>
        go_wp2_with (go_at_call 34; refine (end_cons rb b o cap l _ a t _ _ HR4.out).mono ?_; rintro e w' ⟨rfl, hww⟩; rw [hww]; clear hww w')
        all_goals go_ret
        all_goals exact someR HS4.out

set_option maxRecDepth 100000 in
set_option maxHeartbeats 8000000 in
theorem shapedType_32 (rb b o cap i : Nat) (l : List Nd) (lv0 : Value) (ks0 : List Nat) (m0 : Int) (w : World) (hrow : RowAt w rb b o cap l lv0 ks0 m0) (hk0 : ∀ k, k ∈ ks0 → k < l.length) (hti : TreeIn l 0 l.length) (hi : i < l.length) (hn : l.length ≤ 2147483647) (hl0 : ks0.length ≤ 2147483647) :
    Calls Tryz.prog 42 #[.pointer (some ⟨rb, 0, none⟩), .int .i64 32, .slice (some ⟨b, o, none⟩) l.length cap, .int .i64 (i : Int)] w (SomeR rb w) := by
  have HR0 : Hid (RowAt w rb b o cap l lv0 ks0 m0) := hrow
  have HK0 : Hid (∀ k, k ∈ ks0 → k < l.length) := hk0
  have HS0 : Hid (Sm [rb] w w) := Sm.refl _ _
  have ht : Hid (TreeIn l 0 l.length) := hti
  obtain ⟨hsz, hsl, _⟩ := hti i (Nat.zero_le _) hi
  clear hrow hk0 hti
  go_enter Tryz.func42, Tryz.ntmps42
  go_wp2_with fail
  refine (all_go rb b o cap _ _ l _ ks0 _ [23] _ rfl HR0.out HK0.out hn hl0 rfl (by decide)).mono ?_
  rintro e w1x ⟨lv1, dn1, ks1, rfl, q1, q2, q3, q4, q5⟩
  have HQ1 : Hid (ks0 = dn1 ++ ks1) := q1
  have HD1 : Hid (∀ k, k ∈ dn1 → kd l k ∈ ([23] : List Int)) := q2
  have HS1 : Hid (Sm [rb] w w1x) := HS0.out.trans q4
  have HR1 : Hid (RowAt w1x rb b o cap l lv1 ks1 (dn1.length : Int)) := q5
  have HK1 : Hid (∀ k, k ∈ ks1 → k < l.length) := fun k hk => HK0.out k (by rw [q1]; simp [hk])
  have hl1 : ks1.length ≤ 2147483647 := by rw [q1] at hl0; simp at hl0; omega
  have c21 : w1x.cell? ⟨rb, 2, none⟩ = some (.int .i64 (dn1.length : Int)) := cell_of q5.obj rfl
  clear q1 q2 q3 q4 q5
  go_wp2_with fail
  refine (most_is rb b o cap l _ _ _ _ HR1.out).mono ?_
  rintro e w' ⟨q, rfl, hww⟩
  rw [hww]
  clear hww w'
  cases q with
  | false =>
    go_wp2_with fail
    all_goals go_ret
    all_goals exact someR HS1.out
  | true =>
    go_wp2_with fail
    refine (fixedAt_any l i b o cap _ HR1.out.doc hi hn hsz hsl).mono ?_
    rintro e w2x ⟨q, rfl, g0⟩
    have HS2 : Hid (Sm [rb] w w2x) := HS1.out.trans g0.of_nil
    obtain ⟨ks2, hkn⟩ : ∃ k, k = ks1 := ⟨_, rfl⟩
    have HR2 : Hid (RowAt w2x rb b o cap l lv1 ks2 (dn1.length : Int)) := by rw [hkn]; exact HR1.out.sm (X := []) g0
    have HK2 : Hid (∀ k, k ∈ ks2 → k < l.length) := by rw [hkn]; exact HK1.out
    have hl2 : ks2.length ≤ 2147483647 := by rw [hkn]; exact hl1
    clear g0 hkn
    cases q with
    | false =>
      go_wp2_with fail
      all_goals go_ret
      all_goals exact someR HS2.out
    | true =>
      go_wp2_with fail
      refine (all_go rb b o cap _ _ l _ ks2 _ [10] _ rfl HR2.out HK2.out hn hl2 rfl (by decide)).mono ?_
      rintro e w3x ⟨lv3, dn3, ks3, rfl, q1, q2, q3, q4, q5⟩
      have HQ3 : Hid (ks2 = dn3 ++ ks3) := q1
      have HD3 : Hid (∀ k, k ∈ dn3 → kd l k ∈ ([10] : List Int)) := q2
      have HS3 : Hid (Sm [rb] w w3x) := HS2.out.trans q4
      have HR3 : Hid (RowAt w3x rb b o cap l lv3 ks3 (dn3.length : Int)) := q5
      have HK3 : Hid (∀ k, k ∈ ks3 → k < l.length) := fun k hk => HK2.out k (by rw [q1]; simp [hk])
      have hl3 : ks3.length ≤ 2147483647 := by rw [q1] at hl2; simp at hl2; omega
      have c23 : w3x.cell? ⟨rb, 2, none⟩ = some (.int .i64 (dn3.length : Int)) := cell_of q5.obj rfl
      clear q1 q2 q3 q4 q5
      go_wp2_with fail
      refine (all_go rb b o cap _ _ l _ ks3 _ [33] _ rfl HR3.out HK3.out hn hl3 rfl (by decide)).mono ?_
      rintro e w4x ⟨lv4, dn4, ks4, rfl, q1, q2, q3, q4, q5⟩
      have HQ4 : Hid (ks3 = dn4 ++ ks4) := q1
      have HD4 : Hid (∀ k, k ∈ dn4 → kd l k ∈ ([33] : List Int)) := q2
      have HS4 : Hid (Sm [rb] w w4x) := HS3.out.trans q4
      have HR4 : Hid (RowAt w4x rb b o cap l lv4 ks4 (dn4.length : Int)) := q5
      have HK4 : Hid (∀ k, k ∈ ks4 → k < l.length) := fun k hk => HK3.out k (by rw [q1]; simp [hk])
      have hl4 : ks4.length ≤ 2147483647 := by rw [q1] at hl3; simp at hl3; omega
      have c24 : w4x.cell? ⟨rb, 2, none⟩ = some (.int .i64 (dn4.length : Int)) := cell_of q5.obj rfl
      clear q1 q2 q3 q4 q5
      cases ks4 with
      | nil =>
        go_wp2_with (go_at_call 34; refine (end_nil rb b o cap l _ _ _ HR4.out).mono ?_; rintro e w' ⟨rfl, hww⟩; rw [hww]; clear hww w')
        all_goals go_ret
        all_goals exact someR HS4.out
      | cons a t =>
        go_wp2_with (go_at_call 34; refine (end_cons rb b o cap l _ a t _ _ HR4.out).mono ?_; rintro e w' ⟨rfl, hww⟩; rw [hww]; clear hww w')
        all_goals go_ret
        all_goals exact someR HS4.out

set_option maxRecDepth 100000 in
set_option maxHeartbeats 8000000 in
theorem shapedType_34 (rb b o cap i : Nat) (l : List Nd) (lv0 : Value) (ks0 : List Nat) (m0 : Int) (w : World) (hrow : RowAt w rb b o cap l lv0 ks0 m0) (hk0 : ∀ k, k ∈ ks0 → k < l.length) (hti : TreeIn l 0 l.length) (hi : i < l.length) (hn : l.length ≤ 2147483647) (hl0 : ks0.length ≤ 2147483647) :
    Calls Tryz.prog 42 #[.pointer (some ⟨rb, 0, none⟩), .int .i64 34, .slice (some ⟨b, o, none⟩) l.length cap, .int .i64 (i : Int)] w (SomeR rb w) := by
  have HR0 : Hid (RowAt w rb b o cap l lv0 ks0 m0) := hrow
  have HK0 : Hid (∀ k, k ∈ ks0 → k < l.length) := hk0
  have HS0 : Hid (Sm [rb] w w) := Sm.refl _ _
  have ht : Hid (TreeIn l 0 l.length) := hti
  obtain ⟨hsz, hsl, _⟩ := hti i (Nat.zero_le _) hi
  clear hrow hk0 hti
  go_enter Tryz.func42, Tryz.ntmps42
  go_wp2_with fail
  refine (all_go rb b o cap _ _ l _ ks0 _ [23] _ rfl HR0.out HK0.out hn hl0 rfl (by decide)).mono ?_
  rintro e w1x ⟨lv1, dn1, ks1, rfl, q1, q2, q3, q4, q5⟩
  have HQ1 : Hid (ks0 = dn1 ++ ks1) := q1
  have HD1 : Hid (∀ k, k ∈ dn1 → kd l k ∈ ([23] : List Int)) := q2
  have HS1 : Hid (Sm [rb] w w1x) := HS0.out.trans q4
  have HR1 : Hid (RowAt w1x rb b o cap l lv1 ks1 (dn1.length : Int)) := q5
  have HK1 : Hid (∀ k, k ∈ ks1 → k < l.length) := fun k hk => HK0.out k (by rw [q1]; simp [hk])
  have hl1 : ks1.length ≤ 2147483647 := by rw [q1] at hl0; simp at hl0; omega
  have c21 : w1x.cell? ⟨rb, 2, none⟩ = some (.int .i64 (dn1.length : Int)) := cell_of q5.obj rfl
  clear q1 q2 q3 q4 q5
  go_wp2_with fail
  refine (most_is rb b o cap l _ _ _ _ HR1.out).mono ?_
  rintro e w' ⟨q, rfl, hww⟩
  rw [hww]
  clear hww w'
  cases q with
  | false =>
    go_wp2_with fail
    all_goals go_ret
    all_goals exact someR HS1.out
  | true =>
    go_wp2_with fail
    refine (fixedHere_any l i b o cap _ HR1.out.doc ht.out hi hn).mono ?_
    rintro e w2x ⟨q, rfl, g0⟩
    have HS2 : Hid (Sm [rb] w w2x) := HS1.out.trans g0.of_nil
    obtain ⟨ks2, hkn⟩ : ∃ k, k = ks1 := ⟨_, rfl⟩
    have HR2 : Hid (RowAt w2x rb b o cap l lv1 ks2 (dn1.length : Int)) := by rw [hkn]; exact HR1.out.sm (X := []) g0
    have HK2 : Hid (∀ k, k ∈ ks2 → k < l.length) := by rw [hkn]; exact HK1.out
    have hl2 : ks2.length ≤ 2147483647 := by rw [hkn]; exact hl1
    clear g0 hkn
    cases q with
    | false =>
      go_wp2_with fail
      all_goals go_ret
      all_goals exact someR HS2.out
    | true =>
      go_wp2_with fail
      refine (all_go rb b o cap _ _ l _ ks2 _ [10] _ rfl HR2.out HK2.out hn hl2 rfl (by decide)).mono ?_
      rintro e w3x ⟨lv3, dn3, ks3, rfl, q1, q2, q3, q4, q5⟩
      have HQ3 : Hid (ks2 = dn3 ++ ks3) := q1
      have HD3 : Hid (∀ k, k ∈ dn3 → kd l k ∈ ([10] : List Int)) := q2
      have HS3 : Hid (Sm [rb] w w3x) := HS2.out.trans q4
      have HR3 : Hid (RowAt w3x rb b o cap l lv3 ks3 (dn3.length : Int)) := q5
      have HK3 : Hid (∀ k, k ∈ ks3 → k < l.length) := fun k hk => HK2.out k (by rw [q1]; simp [hk])
      have hl3 : ks3.length ≤ 2147483647 := by rw [q1] at hl2; simp at hl2; omega
      have c23 : w3x.cell? ⟨rb, 2, none⟩ = some (.int .i64 (dn3.length : Int)) := cell_of q5.obj rfl
      clear q1 q2 q3 q4 q5
      go_wp2_with fail
      refine (all_go rb b o cap _ _ l _ ks3 _ [35] _ rfl HR3.out HK3.out hn hl3 rfl (by decide)).mono ?_
      rintro e w4x ⟨lv4, dn4, ks4, rfl, q1, q2, q3, q4, q5⟩
      have HQ4 : Hid (ks3 = dn4 ++ ks4) := q1
      have HD4 : Hid (∀ k, k ∈ dn4 → kd l k ∈ ([35] : List Int)) := q2
      have HS4 : Hid (Sm [rb] w w4x) := HS3.out.trans q4
      have HR4 : Hid (RowAt w4x rb b o cap l lv4 ks4 (dn4.length : Int)) := q5
      have HK4 : Hid (∀ k, k ∈ ks4 → k < l.length) := fun k hk => HK3.out k (by rw [q1]; simp [hk])
      have hl4 : ks4.length ≤ 2147483647 := by rw [q1] at hl3; simp at hl3; omega
      have c24 : w4x.cell? ⟨rb, 2, none⟩ = some (.int .i64 (dn4.length : Int)) := cell_of q5.obj rfl
      clear q1 q2 q3 q4 q5
      cases ks4 with
      | nil =>
        go_wp2_with (go_at_call 34; refine (end_nil rb b o cap l _ _ _ HR4.out).mono ?_; rintro e w' ⟨rfl, hww⟩; rw [hww]; clear hww w')
        all_goals go_ret
        all_goals exact someR HS4.out
      | cons a t =>
        go_wp2_with (go_at_call 34; refine (end_cons rb b o cap l _ a t _ _ HR4.out).mono ?_; rintro e w' ⟨rfl, hww⟩; rw [hww]; clear hww w')
        all_goals go_ret
        all_goals exact someR HS4.out

set_option maxRecDepth 100000 in
set_option maxHeartbeats 8000000 in
theorem shapedType_36 (rb b o cap i : Nat) (l : List Nd) (lv0 : Value) (ks0 : List Nat) (m0 : Int) (w : World) (hrow : RowAt w rb b o cap l lv0 ks0 m0) (hk0 : ∀ k, k ∈ ks0 → k < l.length) (hti : TreeIn l 0 l.length) (hi : i < l.length) (hn : l.length ≤ 2147483647) (hl0 : ks0.length ≤ 2147483647) :
    Calls Tryz.prog 42 #[.pointer (some ⟨rb, 0, none⟩), .int .i64 36, .slice (some ⟨b, o, none⟩) l.length cap, .int .i64 (i : Int)] w (SomeR rb w) := by
  have HR0 : Hid (RowAt w rb b o cap l lv0 ks0 m0) := hrow
  have HK0 : Hid (∀ k, k ∈ ks0 → k < l.length) := hk0
  have HS0 : Hid (Sm [rb] w w) := Sm.refl _ _
  have ht : Hid (TreeIn l 0 l.length) := hti
  obtain ⟨hsz, hsl, _⟩ := hti i (Nat.zero_le _) hi
  clear hrow hk0 hti
  go_enter Tryz.func42, Tryz.ntmps42
  go_wp2_with fail
  refine (all_go rb b o cap _ _ l _ ks0 _ [23] _ rfl HR0.out HK0.out hn hl0 rfl (by decide)).mono ?_
  rintro e w1x ⟨lv1, dn1, ks1, rfl, q1, q2, q3, q4, q5⟩
  have HQ1 : Hid (ks0 = dn1 ++ ks1) := q1
  have HD1 : Hid (∀ k, k ∈ dn1 → kd l k ∈ ([23] : List Int)) := q2
  have HS1 : Hid (Sm [rb] w w1x) := HS0.out.trans q4
  have HR1 : Hid (RowAt w1x rb b o cap l lv1 ks1 (dn1.length : Int)) := q5
  have HK1 : Hid (∀ k, k ∈ ks1 → k < l.length) := fun k hk => HK0.out k (by rw [q1]; simp [hk])
  have hl1 : ks1.length ≤ 2147483647 := by rw [q1] at hl0; simp at hl0; omega
  have c21 : w1x.cell? ⟨rb, 2, none⟩ = some (.int .i64 (dn1.length : Int)) := cell_of q5.obj rfl
  clear q1 q2 q3 q4 q5
  go_wp2_with fail
  refine (most_is rb b o cap l _ _ _ _ HR1.out).mono ?_
  rintro e w' ⟨q, rfl, hww⟩
  rw [hww]
  clear hww w'
  cases q with
  | false =>
    go_wp2_with fail
    all_goals go_ret
    all_goals exact someR HS1.out
  | true =>
    go_wp2_with fail
    refine (fixedHere_any l i b o cap _ HR1.out.doc ht.out hi hn).mono ?_
    rintro e w2x ⟨q, rfl, g0⟩
    have HS2 : Hid (Sm [rb] w w2x) := HS1.out.trans g0.of_nil
    obtain ⟨ks2, hkn⟩ : ∃ k, k = ks1 := ⟨_, rfl⟩
    have HR2 : Hid (RowAt w2x rb b o cap l lv1 ks2 (dn1.length : Int)) := by rw [hkn]; exact HR1.out.sm (X := []) g0
    have HK2 : Hid (∀ k, k ∈ ks2 → k < l.length) := by rw [hkn]; exact HK1.out
    have hl2 : ks2.length ≤ 2147483647 := by rw [hkn]; exact hl1
    clear g0 hkn
    cases q with
    | false =>
      go_wp2_with fail
      all_goals go_ret
      all_goals exact someR HS2.out
    | true =>
      go_wp2_with fail
      refine (all_go rb b o cap _ _ l _ ks2 _ [10] _ rfl HR2.out HK2.out hn hl2 rfl (by decide)).mono ?_
      rintro e w3x ⟨lv3, dn3, ks3, rfl, q1, q2, q3, q4, q5⟩
      have HQ3 : Hid (ks2 = dn3 ++ ks3) := q1
      have HD3 : Hid (∀ k, k ∈ dn3 → kd l k ∈ ([10] : List Int)) := q2
      have HS3 : Hid (Sm [rb] w w3x) := HS2.out.trans q4
      have HR3 : Hid (RowAt w3x rb b o cap l lv3 ks3 (dn3.length : Int)) := q5
      have HK3 : Hid (∀ k, k ∈ ks3 → k < l.length) := fun k hk => HK2.out k (by rw [q1]; simp [hk])
      have hl3 : ks3.length ≤ 2147483647 := by rw [q1] at hl2; simp at hl2; omega
      have c23 : w3x.cell? ⟨rb, 2, none⟩ = some (.int .i64 (dn3.length : Int)) := cell_of q5.obj rfl
      clear q1 q2 q3 q4 q5
      go_wp2_with fail
      refine (all_go rb b o cap _ _ l _ ks3 _ [30] _ rfl HR3.out HK3.out hn hl3 rfl (by decide)).mono ?_
      rintro e w4x ⟨lv4, dn4, ks4, rfl, q1, q2, q3, q4, q5⟩
      have HQ4 : Hid (ks3 = dn4 ++ ks4) := q1
      have HD4 : Hid (∀ k, k ∈ dn4 → kd l k ∈ ([30] : List Int)) := q2
      have HS4 : Hid (Sm [rb] w w4x) := HS3.out.trans q4
      have HR4 : Hid (RowAt w4x rb b o cap l lv4 ks4 (dn4.length : Int)) := q5
      have HK4 : Hid (∀ k, k ∈ ks4 → k < l.length) := fun k hk => HK3.out k (by rw [q1]; simp [hk])
      have hl4 : ks4.length ≤ 2147483647 := by rw [q1] at hl3; simp at hl3; omega
      have c24 : w4x.cell? ⟨rb, 2, none⟩ = some (.int .i64 (dn4.length : Int)) := cell_of q5.obj rfl
      clear q1 q2 q3 q4 q5
      cases ks4 with
      | nil =>
        go_wp2_with (go_at_call 34; refine (end_nil rb b o cap l _ _ _ HR4.out).mono ?_; rintro e w' ⟨rfl, hww⟩; rw [hww]; clear hww w')
        all_goals go_ret
        all_goals exact someR HS4.out
      | cons a t =>
        go_wp2_with (go_at_call 34; refine (end_cons rb b o cap l _ a t _ _ HR4.out).mono ?_; rintro e w' ⟨rfl, hww⟩; rw [hww]; clear hww w')
        all_goals go_ret
        all_goals exact someR HS4.out

end

end Go.Proofs.YtigpnidffiaigaaGreat
