/- Walks: the row: one kid (isNullable). -/
import Derived.Test.YtigpnidffiaigaaGreatProg
import Derived.BigRegion
import Derived.Test.YtigpnidffiaigaaGreatQ24
set_option linter.unusedVariables false
set_option linter.unusedSimpArgs false
namespace Go.Proofs.YtigpnidffiaigaaGreat

section
open Go.RowKit
attribute [local go_sem ↓] Go.wp_at_zero Go.wp_at_succ

set_option maxRecDepth 100000 in
set_option maxHeartbeats 2000000 in
theorem one_isNullable (rb b o cap : Nat) (l : List Nd) (lv : Value) (ks : List Nat) (m : Int) (w : World) (h : RowAt w rb b o cap l lv ks m) (hk : ∀ k, k ∈ ks → k < l.length) (hn : l.length ≤ 2147483647) :
    Calls Tryz.prog 35 #[.pointer (some ⟨rb, 0, none⟩), .func (.func 41) #[] #[]] w (OnePost rb b o cap l ks m isNB w) := by
  have c0 : w.cell? ⟨rb, 0, none⟩ = some (.slice (some ⟨b, o, none⟩) l.length cap) := cell_of h.obj rfl
  have c1 : w.cell? ⟨rb, 1, none⟩ = some lv := cell_of h.obj rfl
  have f1 := free_of h.obj 1
  cases ks with
  | nil =>
    obtain ⟨a, kc, rfl, hkc⟩ := ints_nil h.ints
    clear h
    go_enter Tryz.func35, Tryz.ntmps35
    go_wp2_with fail
    go_quiet (fail)
    go_wp2_with fail
    go_ret
    exact onePost_no ((Sm.refl _ _).drewN _)
  | cons k rest =>
    obtain ⟨kb, ko, kc, rfl, hk1, hk2, hkb, hkc⟩ := ints_head h.ints
    have hkl : k < l.length := hk k (by simp)
    have z1 : (0 : Int) ≤ (k : Int) := by omega
    have z2 : (k : Int) < (l.length : Int) := by omega
    have z3 : ((rest.length : Int) + 1 == 0) = false := by simp; omega
    have z4 : (0 : Int) < (rest.length : Int) + 1 := by omega
    obtain ⟨n0, n1, n2, n3, n4, n5⟩ := h.doc k hkl
    have hkd := kd_at hkl
    have hF := fun W => isNullable_any l[k] W
    have HR : Hid (RowAt w rb b o cap l (.slice (some ⟨kb, ko, none⟩) (rest.length + 1) kc) (k :: rest) m) := h
    have lb := h.lb _ _ _ _ rfl
    unfold ndV at hF
    generalize l[k] = x at *
    obtain ⟨x0, x1, x2, x3, x4, x5⟩ := x
    dsimp only at *
    clear h hk
    cases hp : isNB x0 with
    | false =>
      rw [hp] at hF
      clear hp
      clear hkd
      go_enter Tryz.func35, Tryz.ntmps35
      go_wp2_with fail
      go_region_held3 (fun W => W.cell? ⟨rb, 0, none⟩ = some (.slice (some ⟨b, o, none⟩) l.length cap) ∧ W.cell? ⟨rb, 1, none⟩ = some (.slice (some ⟨kb, ko, none⟩) (rest.length + 1) kc) ∧ W.cell? ⟨kb, ko, none⟩ = some (.int .i64 (k : Int)) ∧ W.cell? ⟨b, o + k * 6, none⟩ = some (.int .i64 x0) ∧ W.cell? ⟨b, o + k * 6 + 1, none⟩ = some (.string x1) ∧ W.cell? ⟨b, o + k * 6 + 2, none⟩ = some (.string x2) ∧ W.cell? ⟨b, o + k * 6 + 3, none⟩ = some (.string x3) ∧ W.cell? ⟨b, o + k * 6 + 4, none⟩ = some (.int .i64 x4) ∧ W.cell? ⟨b, o + k * 6 + 5, none⟩ = some (.int .i64 x5)) (go_keep)
        (first | (go_at_call 41; refine (hF _).mono ?_; rintro e w2 ⟨rfl, hs2⟩; have g0 := hs2.keeps c0 (by simp); have g1 := hs2.keeps c1 (by simp); have g2 := hs2.keeps hkc (by simp); have g3 := hs2.keeps n0 (by simp); have g4 := hs2.keeps n1 (by simp); have g5 := hs2.keeps n2 (by simp); have g6 := hs2.keeps n3 (by simp); have g7 := hs2.keeps n4 (by simp); have g8 := hs2.keeps n5 (by simp)))
      all_goals
        go_wp2_with fail
        go_ret
        exact onePost_no hs2.of_drew
    | true =>
      rw [hp] at hF
      have HP : Hid (isNB (kd l k) = true) := by rw [hkd]; exact hp
      clear hp hkd
      have hlt := lt_of_block HR.out.obj
      have k2 : (rest.length : Int) + 1 ≤ (kc : Int) := by omega
      by_cases hc1 : kc = 1
      · subst hc1
        obtain rfl : rest = [] := by cases rest with | nil => rfl | cons a t => simp at hk1
        simp only [List.length_nil, Nat.zero_add] at *
        go_enter Tryz.func35, Tryz.ntmps35
        go_wp2_with fail
        go_region_held3 (fun W => W.cell? ⟨rb, 0, none⟩ = some (.slice (some ⟨b, o, none⟩) l.length cap) ∧ W.cell? ⟨rb, 1, none⟩ = some (.slice (some ⟨kb, ko, none⟩) 1 1) ∧ W.cell? ⟨kb, ko, none⟩ = some (.int .i64 (k : Int)) ∧ W.cell? ⟨b, o + k * 6, none⟩ = some (.int .i64 x0) ∧ W.cell? ⟨b, o + k * 6 + 1, none⟩ = some (.string x1) ∧ W.cell? ⟨b, o + k * 6 + 2, none⟩ = some (.string x2) ∧ W.cell? ⟨b, o + k * 6 + 3, none⟩ = some (.string x3) ∧ W.cell? ⟨b, o + k * 6 + 4, none⟩ = some (.int .i64 x4) ∧ W.cell? ⟨b, o + k * 6 + 5, none⟩ = some (.int .i64 x5)) (go_keep)
          (first | (go_at_call 41; refine (hF _).mono ?_; rintro e w2 ⟨rfl, hs2⟩; have g0 := hs2.keeps c0 (by simp); have g1 := hs2.keeps c1 (by simp); have g2 := hs2.keeps hkc (by simp); have g3 := hs2.keeps n0 (by simp); have g4 := hs2.keeps n1 (by simp); have g5 := hs2.keeps n2 (by simp); have g6 := hs2.keeps n3 (by simp); have g7 := hs2.keeps n4 (by simp); have g8 := hs2.keeps n5 (by simp); have gf := (hs2.froz (p := ⟨rb, 1, none⟩) hlt (by simp)).trans f1))
        all_goals
          go_wp2_with fail
          go_ret
          refine onePost_yes HP.out (hs2.of_drew.of_nil.trans (sm_set _ _ _ _)) ((HR.out.sm (X := []) hs2.of_drew).set1 (ints_none (by omega)) (fun b' o' n c e => by simp at e; rw [← e.1.1]; exact lb))
      · have HC : Hid (kc ≠ 1) := hc1
        have k3 : (1 : Int) < (kc : Int) := by omega
        clear hc1
        go_enter Tryz.func35, Tryz.ntmps35
        go_wp2_with fail
        go_region_held3 (fun W => W.cell? ⟨rb, 0, none⟩ = some (.slice (some ⟨b, o, none⟩) l.length cap) ∧ W.cell? ⟨rb, 1, none⟩ = some (.slice (some ⟨kb, ko, none⟩) (rest.length + 1) kc) ∧ W.cell? ⟨kb, ko, none⟩ = some (.int .i64 (k : Int)) ∧ W.cell? ⟨b, o + k * 6, none⟩ = some (.int .i64 x0) ∧ W.cell? ⟨b, o + k * 6 + 1, none⟩ = some (.string x1) ∧ W.cell? ⟨b, o + k * 6 + 2, none⟩ = some (.string x2) ∧ W.cell? ⟨b, o + k * 6 + 3, none⟩ = some (.string x3) ∧ W.cell? ⟨b, o + k * 6 + 4, none⟩ = some (.int .i64 x4) ∧ W.cell? ⟨b, o + k * 6 + 5, none⟩ = some (.int .i64 x5)) (go_keep)
          (first | (go_at_call 41; refine (hF _).mono ?_; rintro e w2 ⟨rfl, hs2⟩; have g0 := hs2.keeps c0 (by simp); have g1 := hs2.keeps c1 (by simp); have g2 := hs2.keeps hkc (by simp); have g3 := hs2.keeps n0 (by simp); have g4 := hs2.keeps n1 (by simp); have g5 := hs2.keeps n2 (by simp); have g6 := hs2.keeps n3 (by simp); have g7 := hs2.keeps n4 (by simp); have g8 := hs2.keeps n5 (by simp); have gf := (hs2.froz (p := ⟨rb, 1, none⟩) hlt (by simp)).trans f1))
        all_goals
          go_wp2_with fail
          go_ret
          refine onePost_yes HP.out (hs2.of_drew.of_nil.trans (sm_set _ _ _ _)) ((HR.out.sm (X := []) hs2.of_drew).set1 (ints_tail ((HR.out.sm (X := []) hs2.of_drew).ints) HC.out) (fun b' o' n c e => by simp at e; rw [← e.1.1]; exact lb))

end

end Go.Proofs.YtigpnidffiaigaaGreat
