/- Walks: the shape of a node: types (c). -/
import Derived.Test.YtigpnidffiaigaaGreatProg
import Derived.BigRegion
import Derived.Test.YtigpnidffiaigaaGreatQ31
set_option linter.unusedVariables false
set_option linter.unusedSimpArgs false
namespace Go.Proofs.YtigpnidffiaigaaGreat

section
open Go.RowKit

set_option maxRecDepth 100000 in
set_option maxHeartbeats 8000000 in
theorem shapedType_29 (rb b o cap i : Nat) (l : List Nd) (lv0 : Value) (ks0 : List Nat) (m0 : Int) (w : World) (hrow : RowAt w rb b o cap l lv0 ks0 m0) (hk0 : ∀ k, k ∈ ks0 → k < l.length) (hti : TreeIn l 0 l.length) (hi : i < l.length) (hn : l.length ≤ 2147483647) (hl0 : ks0.length ≤ 2147483647) :
    Calls Tryz.prog 42 #[.pointer (some ⟨rb, 0, none⟩), .int .i64 29, .slice (some ⟨b, o, none⟩) l.length cap, .int .i64 (i : Int)] w (SomeR rb w) := by
  have HR0 : Hid (RowAt w rb b o cap l lv0 ks0 m0) := hrow
  have HK0 : Hid (∀ k, k ∈ ks0 → k < l.length) := hk0
  have HS0 : Hid (Sm [rb] w w) := Sm.refl _ _
  have ht : Hid (TreeIn l 0 l.length) := hti
  obtain ⟨hsz, hsl, _⟩ := hti i (Nat.zero_le _) hi
  clear hrow hk0 hti
  go_enter Tryz.func42, Tryz.ntmps42
  go_wp2_with fail
  refine (all_go rb b o cap _ _ l _ ks0 _ [23] _ rfl HR0.out HK0.out hn hl0 rfl (by decide)).mono ?_
  rintro e w1x ⟨lv1, dn1, ks1, rfl, q1, q2, q3, q4, q5⟩
  have HQ1 : Hid (ks0 = dn1 ++ ks1) := q1
  have HD1 : Hid (∀ k, k ∈ dn1 → kd l k ∈ ([23] : List Int)) := q2
  have HS1 : Hid (Sm [rb] w w1x) := HS0.out.trans q4
  have HR1 : Hid (RowAt w1x rb b o cap l lv1 ks1 (dn1.length : Int)) := q5
  have HK1 : Hid (∀ k, k ∈ ks1 → k < l.length) := fun k hk => HK0.out k (by rw [q1]; simp [hk])
  have hl1 : ks1.length ≤ 2147483647 := by rw [q1] at hl0; simp at hl0; omega
  have c21 : w1x.cell? ⟨rb, 2, none⟩ = some (.int .i64 (dn1.length : Int)) := cell_of q5.obj rfl
  clear q1 q2 q3 q4 q5
  go_wp2_with fail
  refine (most_is rb b o cap l _ _ _ _ HR1.out).mono ?_
  rintro e w' ⟨q, rfl, hww⟩
  rw [hww]
  clear hww w'
  cases q with
  | false =>
    go_wp2_with fail
    all_goals go_ret
    all_goals exact someR HS1.out
  | true =>
    go_wp2_with fail
    refine (all_go rb b o cap _ _ l _ ks1 _ [30] _ rfl HR1.out HK1.out hn hl1 rfl (by decide)).mono ?_
    rintro e w2x ⟨lv2, dn2, ks2, rfl, q1, q2, q3, q4, q5⟩
    have HQ2 : Hid (ks1 = dn2 ++ ks2) := q1
    have HD2 : Hid (∀ k, k ∈ dn2 → kd l k ∈ ([30] : List Int)) := q2
    have HS2 : Hid (Sm [rb] w w2x) := HS1.out.trans q4
    have HR2 : Hid (RowAt w2x rb b o cap l lv2 ks2 (dn2.length : Int)) := q5
    have HK2 : Hid (∀ k, k ∈ ks2 → k < l.length) := fun k hk => HK1.out k (by rw [q1]; simp [hk])
    have hl2 : ks2.length ≤ 2147483647 := by rw [q1] at hl1; simp at hl1; omega
    have c22 : w2x.cell? ⟨rb, 2, none⟩ = some (.int .i64 (dn2.length : Int)) := cell_of q5.obj rfl
    clear q1 q2 q3 q4 q5
    go_wp2_with fail
    refine (fixedAt_any l i b o cap _ HR2.out.doc hi hn hsz hsl).mono ?_
    rintro e w3x ⟨q, rfl, g0⟩
    have HS3 : Hid (Sm [rb] w w3x) := HS2.out.trans g0.of_nil
    obtain ⟨ks3, hkn⟩ : ∃ k, k = ks2 := ⟨_, rfl⟩
    have HR3 : Hid (RowAt w3x rb b o cap l lv2 ks3 (dn2.length : Int)) := by rw [hkn]; exact HR2.out.sm (X := []) g0
    have HK3 : Hid (∀ k, k ∈ ks3 → k < l.length) := by rw [hkn]; exact HK2.out
    have hl3 : ks3.length ≤ 2147483647 := by rw [hkn]; exact hl2
    clear g0 hkn
    cases q with
    | false =>
      go_wp2_with fail
      all_goals go_ret
      all_goals exact someR HS3.out
    | true =>
      go_wp2_with fail
      refine (one_isType rb b o cap l _ ks3 _ _ HR3.out HK3.out hn).mono ?_
      rintro e w4x ⟨q, rfl, g0, g1⟩
      cases q with
      | false =>
        have HS4 : Hid (Sm [rb] w w4x) := HS3.out.trans (g0 rfl).of_nil
        clear g0 g1
        go_wp2_with fail
        all_goals go_ret
        all_goals exact someR HS4.out
      | true =>
        obtain ⟨k4, ks4, q1, q2, q3, lv4, q4⟩ := g1 rfl
        have HQ4 : Hid (ks3 = k4 :: ks4) := q1
        have HP4 : Hid (isTB (kd l k4) = true) := q2
        have HS4 : Hid (Sm [rb] w w4x) := HS3.out.trans q3
        have HR4 : Hid (RowAt w4x rb b o cap l lv4 ks4 (dn2.length : Int)) := q4
        have HK4 : Hid (∀ k, k ∈ ks4 → k < l.length) := fun k hk => HK3.out k (by rw [q1]; simp [hk])
        have hl4 : ks4.length ≤ 2147483647 := by rw [q1] at hl3; simp at hl3; omega
        clear g0 g1 q1 q2 q3 q4
        go_wp2_with fail
        refine (all_go rb b o cap _ _ l _ ks4 _ [10] _ rfl HR4.out HK4.out hn hl4 rfl (by decide)).mono ?_
        rintro e w5x ⟨lv5, dn5, ks5, rfl, q1, q2, q3, q4, q5⟩
        have HQ5 : Hid (ks4 = dn5 ++ ks5) := q1
        have HD5 : Hid (∀ k, k ∈ dn5 → kd l k ∈ ([10] : List Int)) := q2
        have HS5 : Hid (Sm [rb] w w5x) := HS4.out.trans q4
        have HR5 : Hid (RowAt w5x rb b o cap l lv5 ks5 (dn5.length : Int)) := q5
        have HK5 : Hid (∀ k, k ∈ ks5 → k < l.length) := fun k hk => HK4.out k (by rw [q1]; simp [hk])
        have hl5 : ks5.length ≤ 2147483647 := by rw [q1] at hl4; simp at hl4; omega
        have c25 : w5x.cell? ⟨rb, 2, none⟩ = some (.int .i64 (dn5.length : Int)) := cell_of q5.obj rfl
        clear q1 q2 q3 q4 q5
        cases ks5 with
        | nil =>
          go_wp2_with (go_at_call 34; refine (end_nil rb b o cap l _ _ _ HR5.out).mono ?_; rintro e w' ⟨rfl, hww⟩; rw [hww]; clear hww w')
          all_goals go_ret
          all_goals exact someR HS5.out
        | cons a t =>
          go_wp2_with (go_at_call 34; refine (end_cons rb b o cap l _ a t _ _ HR5.out).mono ?_; rintro e w' ⟨rfl, hww⟩; rw [hww]; clear hww w')
          all_goals go_ret
          all_goals exact someR HS5.out

set_option maxRecDepth 100000 in
set_option maxHeartbeats 8000000 in
theorem shapedType_30 (rb b o cap i : Nat) (l : List Nd) (lv0 : Value) (ks0 : List Nat) (m0 : Int) (w : World) (hrow : RowAt w rb b o cap l lv0 ks0 m0) (hk0 : ∀ k, k ∈ ks0 → k < l.length) (hti : TreeIn l 0 l.length) (hi : i < l.length) (hn : l.length ≤ 2147483647) (hl0 : ks0.length ≤ 2147483647) :
    Calls Tryz.prog 42 #[.pointer (some ⟨rb, 0, none⟩), .int .i64 30, .slice (some ⟨b, o, none⟩) l.length cap, .int .i64 (i : Int)] w (SomeR rb w) := by
  have HR0 : Hid (RowAt w rb b o cap l lv0 ks0 m0) := hrow
  have HK0 : Hid (∀ k, k ∈ ks0 → k < l.length) := hk0
  have HS0 : Hid (Sm [rb] w w) := Sm.refl _ _
  have ht : Hid (TreeIn l 0 l.length) := hti
  obtain ⟨hsz, hsl, _⟩ := hti i (Nat.zero_le _) hi
  clear hrow hk0 hti
  go_enter Tryz.func42, Tryz.ntmps42
  go_wp2_with fail
  refine (all_go rb b o cap _ _ l _ ks0 _ [23] _ rfl HR0.out HK0.out hn hl0 rfl (by decide)).mono ?_
  rintro e w1x ⟨lv1, dn1, ks1, rfl, q1, q2, q3, q4, q5⟩
  have HQ1 : Hid (ks0 = dn1 ++ ks1) := q1
  have HD1 : Hid (∀ k, k ∈ dn1 → kd l k ∈ ([23] : List Int)) := q2
  have HS1 : Hid (Sm [rb] w w1x) := HS0.out.trans q4
  have HR1 : Hid (RowAt w1x rb b o cap l lv1 ks1 (dn1.length : Int)) := q5
  have HK1 : Hid (∀ k, k ∈ ks1 → k < l.length) := fun k hk => HK0.out k (by rw [q1]; simp [hk])
  have hl1 : ks1.length ≤ 2147483647 := by rw [q1] at hl0; simp at hl0; omega
  have c21 : w1x.cell? ⟨rb, 2, none⟩ = some (.int .i64 (dn1.length : Int)) := cell_of q5.obj rfl
  clear q1 q2 q3 q4 q5
  go_wp2_with fail
  refine (most_is rb b o cap l _ _ _ _ HR1.out).mono ?_
  rintro e w' ⟨q, rfl, hww⟩
  rw [hww]
  clear hww w'
  cases q with
  | false =>
    go_wp2_with fail
    all_goals go_ret
    all_goals exact someR HS1.out
  | true =>
    go_wp2_with fail
    refine (fixedAt_any l i b o cap _ HR1.out.doc hi hn hsz hsl).mono ?_
    rintro e w2x ⟨q, rfl, g0⟩
    have HS2 : Hid (Sm [rb] w w2x) := HS1.out.trans g0.of_nil
    obtain ⟨ks2, hkn⟩ : ∃ k, k = ks1 := ⟨_, rfl⟩
    have HR2 : Hid (RowAt w2x rb b o cap l lv1 ks2 (dn1.length : Int)) := by rw [hkn]; exact HR1.out.sm (X := []) g0
    have HK2 : Hid (∀ k, k ∈ ks2 → k < l.length) := by rw [hkn]; exact HK1.out
    have hl2 : ks2.length ≤ 2147483647 := by rw [hkn]; exact hl1
    clear g0 hkn
    cases q with
    | false =>
      go_wp2_with fail
      all_goals go_ret
      all_goals exact someR HS2.out
    | true =>
      go_wp2_with fail
      refine (one_isType rb b o cap l _ ks2 _ _ HR2.out HK2.out hn).mono ?_
      rintro e w3x ⟨q, rfl, g0, g1⟩
      cases q with
      | false =>
        have HS3 : Hid (Sm [rb] w w3x) := HS2.out.trans (g0 rfl).of_nil
        clear g0 g1
        go_wp2_with fail
        all_goals go_ret
        all_goals exact someR HS3.out
      | true =>
        obtain ⟨k3, ks3, q1, q2, q3, lv3, q4⟩ := g1 rfl
        have HQ3 : Hid (ks2 = k3 :: ks3) := q1
        have HP3 : Hid (isTB (kd l k3) = true) := q2
        have HS3 : Hid (Sm [rb] w w3x) := HS2.out.trans q3
        have HR3 : Hid (RowAt w3x rb b o cap l lv3 ks3 (dn1.length : Int)) := q4
        have HK3 : Hid (∀ k, k ∈ ks3 → k < l.length) := fun k hk => HK2.out k (by rw [q1]; simp [hk])
        have hl3 : ks3.length ≤ 2147483647 := by rw [q1] at hl2; simp at hl2; omega
        clear g0 g1 q1 q2 q3 q4
        go_wp2_with fail
        refine (one_isValue rb b o cap l _ ks3 _ _ HR3.out HK3.out hn).mono ?_
        rintro e w4x ⟨q, rfl, g0, g1⟩
        cases q with
        | false =>
          have HS4 : Hid (Sm [rb] w w4x) := HS3.out.trans (g0 rfl).of_nil
          obtain ⟨ks4, hkn⟩ : ∃ k, k = ks3 := ⟨_, rfl⟩
          have HR4 : Hid (RowAt w4x rb b o cap l lv3 ks4 (dn1.length : Int)) := by rw [hkn]; exact HR3.out.sm (X := []) (g0 rfl)
          have HK4 : Hid (∀ k, k ∈ ks4 → k < l.length) := by rw [hkn]; exact HK3.out
          have hl4 : ks4.length ≤ 2147483647 := by rw [hkn]; exact hl3
          clear g0 g1 hkn
          go_wp2_with fail
          refine (all_go rb b o cap _ _ l _ ks4 _ [10] _ rfl HR4.out HK4.out hn hl4 rfl (by decide)).mono ?_
          rintro e w5x ⟨lv5, dn5, ks5, rfl, q1, q2, q3, q4, q5⟩
          have HQ5 : Hid (ks4 = dn5 ++ ks5) := q1
          have HD5 : Hid (∀ k, k ∈ dn5 → kd l k ∈ ([10] : List Int)) := q2
          have HS5 : Hid (Sm [rb] w w5x) := HS4.out.trans q4
          have HR5 : Hid (RowAt w5x rb b o cap l lv5 ks5 (dn5.length : Int)) := q5
          have HK5 : Hid (∀ k, k ∈ ks5 → k < l.length) := fun k hk => HK4.out k (by rw [q1]; simp [hk])
          have hl5 : ks5.length ≤ 2147483647 := by rw [q1] at hl4; simp at hl4; omega
          have c25 : w5x.cell? ⟨rb, 2, none⟩ = some (.int .i64 (dn5.length : Int)) := cell_of q5.obj rfl
          clear q1 q2 q3 q4 q5
          cases ks5 with
          | nil =>
            go_wp2_with (go_at_call 34; refine (end_nil rb b o cap l _ _ _ HR5.out).mono ?_; rintro e w' ⟨rfl, hww⟩; rw [hww]; clear hww w')
            all_goals go_ret
            all_goals exact someR HS5.out
          | cons a t =>
            go_wp2_with (go_at_call 34; refine (end_cons rb b o cap l _ a t _ _ HR5.out).mono ?_; rintro e w' ⟨rfl, hww⟩; rw [hww]; clear hww w')
            all_goals go_ret
            all_goals exact someR HS5.out
        | true =>
          obtain ⟨k4, ks4, q1, q2, q3, lv4, q4⟩ := g1 rfl
          have HQ4 : Hid (ks3 = k4 :: ks4) := q1
          have HP4 : Hid (isVB (kd l k4) = true) := q2
          have HS4 : Hid (Sm [rb] w w4x) := HS3.out.trans q3
          have HR4 : Hid (RowAt w4x rb b o cap l lv4 ks4 (dn1.length : Int)) := q4
          have HK4 : Hid (∀ k, k ∈ ks4 → k < l.length) := fun k hk => HK3.out k (by rw [q1]; simp [hk])
          have hl4 : ks4.length ≤ 2147483647 := by rw [q1] at hl3; simp at hl3; omega
          clear g0 g1 q1 q2 q3 q4
          go_wp2_with fail
          refine (all_go rb b o cap _ _ l _ ks4 _ [10] _ rfl HR4.out HK4.out hn hl4 rfl (by decide)).mono ?_
          rintro e w5x ⟨lv5, dn5, ks5, rfl, q1, q2, q3, q4, q5⟩
          have HQ5 : Hid (ks4 = dn5 ++ ks5) := q1
          have HD5 : Hid (∀ k, k ∈ dn5 → kd l k ∈ ([10] : List Int)) := q2
          have HS5 : Hid (Sm [rb] w w5x) := HS4.out.trans q4
          have HR5 : Hid (RowAt w5x rb b o cap l lv5 ks5 (dn5.length : Int)) := q5
          have HK5 : Hid (∀ k, k ∈ ks5 → k < l.length) := fun k hk => HK4.out k (by rw [q1]; simp [hk])
          have hl5 : ks5.length ≤ 2147483647 := by rw [q1] at hl4; simp at hl4; omega
          have c25 : w5x.cell? ⟨rb, 2, none⟩ = some (.int .i64 (dn5.length : Int)) := cell_of q5.obj rfl
          clear q1 q2 q3 q4 q5
          cases ks5 with
          | nil =>
            go_wp2_with (go_at_call 34; refine (end_nil rb b o cap l _ _ _ HR5.out).mono ?_; rintro e w' ⟨rfl, hww⟩; rw [hww]; clear hww w')
            all_goals go_ret
            all_goals exact someR HS5.out
          | cons a t =>
            go_wp2_with (go_at_call 34; refine (end_cons rb b o cap l _ a t _ _ HR5.out).mono ?_; rintro e w' ⟨rfl, hww⟩; rw [hww]; clear hww w')
            all_goals go_ret
            all_goals exact someR HS5.out

set_option maxRecDepth 100000 in
set_option maxHeartbeats 8000000 in
theorem shapedType_37 (rb b o cap i : Nat) (l : List Nd) (lv0 : Value) (ks0 : List Nat) (m0 : Int) (w : World) (hrow : RowAt w rb b o cap l lv0 ks0 m0) (hk0 : ∀ k, k ∈ ks0 → k < l.length) (hti : TreeIn l 0 l.length) (hi : i < l.length) (hn : l.length ≤ 2147483647) (hl0 : ks0.length ≤ 2147483647) :
    Calls Tryz.prog 42 #[.pointer (some ⟨rb, 0, none⟩), .int .i64 37, .slice (some ⟨b, o, none⟩) l.length cap, .int .i64 (i : Int)] w (SomeR rb w) := by
  have HR0 : Hid (RowAt w rb b o cap l lv0 ks0 m0) := hrow
  have HK0 : Hid (∀ k, k ∈ ks0 → k < l.length) := hk0
  have HS0 : Hid (Sm [rb] w w) := Sm.refl _ _
  have ht : Hid (TreeIn l 0 l.length) := hti
  obtain ⟨hsz, hsl, _⟩ := hti i (Nat.zero_le _) hi
  clear hrow hk0 hti
  go_enter Tryz.func42, Tryz.ntmps42
  go_wp2_with fail
  refine (all_go rb b o cap _ _ l _ ks0 _ [23] _ rfl HR0.out HK0.out hn hl0 rfl (by decide)).mono ?_
  rintro e w1x ⟨lv1, dn1, ks1, rfl, q1, q2, q3, q4, q5⟩
  have HQ1 : Hid (ks0 = dn1 ++ ks1) := q1
  have HD1 : Hid (∀ k, k ∈ dn1 → kd l k ∈ ([23] : List Int)) := q2
  have HS1 : Hid (Sm [rb] w w1x) := HS0.out.trans q4
  have HR1 : Hid (RowAt w1x rb b o cap l lv1 ks1 (dn1.length : Int)) := q5
  have HK1 : Hid (∀ k, k ∈ ks1 → k < l.length) := fun k hk => HK0.out k (by rw [q1]; simp [hk])
  have hl1 : ks1.length ≤ 2147483647 := by rw [q1] at hl0; simp at hl0; omega
  have c21 : w1x.cell? ⟨rb, 2, none⟩ = some (.int .i64 (dn1.length : Int)) := cell_of q5.obj rfl
  clear q1 q2 q3 q4 q5
  go_wp2_with fail
  refine (most_is rb b o cap l _ _ _ _ HR1.out).mono ?_
  rintro e w' ⟨q, rfl, hww⟩
  rw [hww]
  clear hww w'
  cases q with
  | false =>
    go_wp2_with fail
    all_goals go_ret
    all_goals exact someR HS1.out
  | true =>
    go_wp2_with fail
    refine (all_go rb b o cap _ _ l _ ks1 _ [30] _ rfl HR1.out HK1.out hn hl1 rfl (by decide)).mono ?_
    rintro e w2x ⟨lv2, dn2, ks2, rfl, q1, q2, q3, q4, q5⟩
    have HQ2 : Hid (ks1 = dn2 ++ ks2) := q1
    have HD2 : Hid (∀ k, k ∈ dn2 → kd l k ∈ ([30] : List Int)) := q2
    have HS2 : Hid (Sm [rb] w w2x) := HS1.out.trans q4
    have HR2 : Hid (RowAt w2x rb b o cap l lv2 ks2 (dn2.length : Int)) := q5
    have HK2 : Hid (∀ k, k ∈ ks2 → k < l.length) := fun k hk => HK1.out k (by rw [q1]; simp [hk])
    have hl2 : ks2.length ≤ 2147483647 := by rw [q1] at hl1; simp at hl1; omega
    have c22 : w2x.cell? ⟨rb, 2, none⟩ = some (.int .i64 (dn2.length : Int)) := cell_of q5.obj rfl
    clear q1 q2 q3 q4 q5
    go_wp2_with fail
    refine (all_go rb b o cap _ _ l _ ks2 _ [38] _ rfl HR2.out HK2.out hn hl2 rfl (by decide)).mono ?_
    rintro e w3x ⟨lv3, dn3, ks3, rfl, q1, q2, q3, q4, q5⟩
    have HQ3 : Hid (ks2 = dn3 ++ ks3) := q1
    have HD3 : Hid (∀ k, k ∈ dn3 → kd l k ∈ ([38] : List Int)) := q2
    have HS3 : Hid (Sm [rb] w w3x) := HS2.out.trans q4
    have HR3 : Hid (RowAt w3x rb b o cap l lv3 ks3 (dn3.length : Int)) := q5
    have HK3 : Hid (∀ k, k ∈ ks3 → k < l.length) := fun k hk => HK2.out k (by rw [q1]; simp [hk])
    have hl3 : ks3.length ≤ 2147483647 := by rw [q1] at hl2; simp at hl2; omega
    have c23 : w3x.cell? ⟨rb, 2, none⟩ = some (.int .i64 (dn3.length : Int)) := cell_of q5.obj rfl
    clear q1 q2 q3 q4 q5
    cases ks3 with
    | nil =>
      go_wp2_with (go_at_call 34; refine (end_nil rb b o cap l _ _ _ HR3.out).mono ?_; rintro e w' ⟨rfl, hww⟩; rw [hww]; clear hww w')
      all_goals go_ret
      all_goals exact someR HS3.out
    | cons a t =>
      go_wp2_with (go_at_call 34; refine (end_cons rb b o cap l _ a t _ _ HR3.out).mono ?_; rintro e w' ⟨rfl, hww⟩; rw [hww]; clear hww w')
      all_goals go_ret
      all_goals exact someR HS3.out

set_option maxRecDepth 100000 in
set_option maxHeartbeats 8000000 in
theorem shapedType_39 (rb b o cap i : Nat) (l : List Nd) (lv0 : Value) (ks0 : List Nat) (m0 : Int) (w : World) (hrow : RowAt w rb b o cap l lv0 ks0 m0) (hk0 : ∀ k, k ∈ ks0 → k < l.length) (hti : TreeIn l 0 l.length) (hi : i < l.length) (hn : l.length ≤ 2147483647) (hl0 : ks0.length ≤ 2147483647) (h39 : ∀ k, ks0 = [k] → k = i + 1) :
    Calls Tryz.prog 42 #[.pointer (some ⟨rb, 0, none⟩), .int .i64 39, .slice (some ⟨b, o, none⟩) l.length cap, .int .i64 (i : Int)] w (SomeR rb w) := by
  have HR0 : Hid (RowAt w rb b o cap l lv0 ks0 m0) := hrow
  have HK0 : Hid (∀ k, k ∈ ks0 → k < l.length) := hk0
  have HS0 : Hid (Sm [rb] w w) := Sm.refl _ _
  have ht : Hid (TreeIn l 0 l.length) := hti
  obtain ⟨hsz, hsl, _⟩ := hti i (Nat.zero_le _) hi
  clear hrow hk0 hti
  go_enter Tryz.func42, Tryz.ntmps42
  go_wp2_with fail
  refine (one_isObject rb b o cap l _ ks0 _ _ HR0.out HK0.out hn).mono ?_
  rintro e w1x ⟨q, rfl, g0, g1⟩
  cases q with
  | false =>
    have HS1 : Hid (Sm [rb] w w1x) := HS0.out.trans (g0 rfl).of_nil
    clear g0 g1
    go_wp2_with fail
    all_goals go_ret
    all_goals exact someR HS1.out
  | true =>
    obtain ⟨k1, ks1, q1, q2, q3, lv1, q4⟩ := g1 rfl
    have HQ1 : Hid (ks0 = k1 :: ks1) := q1
    have HP1 : Hid (isOB (kd l k1) = true) := q2
    have HS1 : Hid (Sm [rb] w w1x) := HS0.out.trans q3
    have HR1 : Hid (RowAt w1x rb b o cap l lv1 ks1 m0) := q4
    have HK1 : Hid (∀ k, k ∈ ks1 → k < l.length) := fun k hk => HK0.out k (by rw [q1]; simp [hk])
    have hl1 : ks1.length ≤ 2147483647 := by rw [q1] at hl0; simp at hl0; omega
    clear g0 g1 q1 q2 q3 q4
    cases ks1 with
    | nil =>
      go_wp2_with (go_at_call 34; refine (end_nil rb b o cap l _ _ _ HR1.out).mono ?_; rintro e w' ⟨rfl, hww⟩; rw [hww]; clear hww w')
      have hi1 : k1 = i + 1 := h39 k1 HQ1.out
      have hkl : k1 < l.length := HK0.out k1 (by rw [HQ1.out]; simp)
      obtain ⟨hs1, he1, kk, hc1⟩ := ht.out k1 (Nat.zero_le _) hkl
      subst hi1
      refine (kidOf_any l (i + 1) b o cap 23 kk _ HR1.out.doc hkl hn hc1 he1).mono ?_
      rintro e wk ⟨r, rfl, g0⟩
      have HSk : Hid (Sm [rb] w wk) := HS1.out.trans g0.of_nil
      clear g0
      go_wp2_with fail
      all_goals go_ret
      all_goals exact someR HSk.out
    | cons a t =>
      go_wp2_with (go_at_call 34; refine (end_cons rb b o cap l _ a t _ _ HR1.out).mono ?_; rintro e w' ⟨rfl, hww⟩; rw [hww]; clear hww w')
      all_goals go_ret
      all_goals exact someR HS1.out

end

end Go.Proofs.YtigpnidffiaigaaGreat
