/- Walk: whether the value of a block string is sure. -/
import Derived.Test.YtigpnidffiaigaaGreatQ09
set_option linter.unusedVariables false
set_option linter.unusedSimpArgs false
namespace Go.Proofs.YtigpnidffiaigaaGreat

section
open Go.RowKit
attribute [local go_sem ↓] Go.wp_at_zero Go.wp_at_succ

theorem linesF_size (s : ByteArray) (i fr : Nat) : ∀ x ∈ linesF s i fr, x.size ≤ s.size := by
  by_cases h : i < s.size
  · by_cases h' : nx s i = 10 ∨ nx s i = 13
    · rw [linesF_eol h h']
      intro x hx
      rcases List.mem_cons.1 hx with rfl | hx
      · simp [ByteArray.size_extract]; omega
      · exact linesF_size s _ _ x hx
    · rw [linesF_on h h']; exact linesF_size s (i + 1) fr
  · rw [linesF_end h]; intro x hx; simp at hx; subst hx; simp [ByteArray.size_extract]
termination_by s.size - i
decreasing_by
  · have := eol_gt s i; omega
  · omega
theorem linesF_len (s : ByteArray) (i fr : Nat) : (linesF s i fr).length ≤ s.size - i + 1 := by
  by_cases h : i < s.size
  · by_cases h' : nx s i = 10 ∨ nx s i = 13
    · rw [linesF_eol h h']
      have := linesF_len s (eol s i) (eol s i)
      have := eol_gt s i
      simp; omega
    · rw [linesF_on h h']; have := linesF_len s (i + 1) fr; omega
  · rw [linesF_end h]; simp
termination_by s.size - i
decreasing_by
  · have := eol_gt s i; omega
  · omega

def plainLine (n : Nat) (x : ByteArray) : Bool := decide (¬ (leadF x 0 = x.size ∧ 0 < x.size ∧ x.size < n))
theorem plainLine_true {n : Nat} {x : ByteArray} (h : ¬ (leadF x 0 = x.size ∧ 0 < x.size ∧ x.size < n)) : plainLine n x = true := decide_eq_true h
def plainL (l : List ByteArray) : Bool := !decide (0 < common' l ∧ leadF (l.getD 0 ByteArray.empty) 0 < (l.getD 0 ByteArray.empty).size) && (l.drop 1).all (plainLine (common' l))
def plainB (raw : ByteArray) : Bool := plainL (linesF raw 0 0)

def PlRel (l : List ByteArray) (n : Nat) (w : World) (j : Value) (wr : World) : Prop := ∃ (k : Nat), 1 ≤ k ∧ k ≤ l.length ∧ j = .int .i64 k ∧ Sm [] w wr ∧ Hid ((l.drop 1).all (plainLine n) = (l.drop k).all (plainLine n))
theorem comStep_le {q : Int} {x : ByteArray} (hx : x.size ≤ 1099511627776) (hq : q ≤ 1099511627776) : comStep q x ≤ 1099511627776 := by
  have := (leadF_le x 0 (by omega)).2
  unfold comStep; split <;> omega
theorem comFold_le : ∀ (l : List ByteArray) (q : Int), (∀ x ∈ l, x.size ≤ 1099511627776) → q ≤ 1099511627776 → l.foldl comStep q ≤ 1099511627776
  | [], q, _, h => h
  | x :: l, q, hl, h => comFold_le l _ (fun y hy => hl y (List.mem_cons_of_mem _ hy)) (comStep_le (hl x (List.mem_cons_self ..)) h)
theorem comF_le (l : List ByteArray) (h : ∀ x ∈ l, x.size ≤ 1099511627776) : common' l ≤ 1099511627776 := by
  have := comFold_le (l.drop 1) (-1) (fun x hx => h x (List.mem_of_mem_drop hx)) (by omega)
  unfold common' comF; omega

theorem all_step {l : List ByteArray} {k : Nat} (h : k < l.length) (p : ByteArray → Bool) : (l.drop k).all p = (p (l.getD k ByteArray.empty) && (l.drop (k + 1)).all p) := by
  rw [drop_get h]; rfl
theorem getD_mem {l : List ByteArray} {k : Nat} (h : k < l.length) : l.getD k ByteArray.empty ∈ l := by
  rw [List.getD_eq_getElem?_getD, List.getElem?_eq_getElem h]; exact List.getElem_mem h

set_option maxRecDepth 100000 in
set_option maxHeartbeats 2000000 in
theorem plainBlock_any (s : ByteArray) (w : World) (hs : s.size ≤ 1099511627776) :
    Calls Tryz.prog 59 #[.string s] w fun e w' => e = .returned (.bool (plainB s)) ∧ Sm [] w w' := by
  have hne := linesF_ne s 0 0
  have hsz := linesF_size s 0 0
  have hln := linesF_len s 0 0
  go_enter Tryz.func59, Tryz.ntmps59
  go_wp2_with fail
  refine (lines_any s _ hs).mono ?_
  rintro e w1 ⟨v, rfl, hown, hsm⟩
  obtain ⟨hn, g, cap, rfl, hg1, hg2, hc1, hc2, _⟩ := strs_own_form hown hne
  have hst := strsAt_own hown
  have hP : Hid (plainB s = plainL (linesF s 0 0)) := rfl
  generalize linesF s 0 0 = l at hst hP hne hsz hln hc1
  clear hown hn
  have hl0 : 0 < l.length := by cases l with | nil => exact absurd rfl hne | cons => simp
  have hl : l.length ≤ 1099511627777 := by omega
  have hL : Hid (∀ x ∈ l, x.size ≤ 1099511627776) := fun x hx => Nat.le_trans (hsz x hx) hs
  have l0 : (0 : Int) < (l.length : Int) := by omega
  have hx0 := hst 0 hl0
  have hs0 : (l.getD 0 ByteArray.empty).size ≤ 1099511627776 := hL.out _ (getD_mem hl0)
  clear hsz hne
  have hS : Hid (StrsAt w1 g 0 l) := hst
  have hP' : Hid (plainB s = (!decide (0 < common' l ∧ leadF (l.getD 0 ByteArray.empty) 0 < (l.getD 0 ByteArray.empty).size) && (l.drop 1).all (plainLine (common' l)))) := hP
  clear hst hP
  generalize l.getD 0 ByteArray.empty = x0 at hx0 hs0 hP'
  have hle := (leadF_le x0 0 (by omega)).2
  simp only [Nat.add_zero] at hx0
  go_wp2_with (go_at_call 97; refine (common_any l g 0 cap _ hS.out hl hL.out).mono ?_; rintro e w' ⟨rfl, hw⟩; rw [hw]; clear hw w')
  have hlem : common' l ≤ 1099511627776 := comF_le l hL.out
  generalize common' l = n at hP' hlem
  by_cases c0 : 0 < n
  · have c0' : (0 : Int) < (n : Int) := by omega
    by_cases c1 : leadF x0 0 < x0.size
    · have c1' : (leadF x0 0 : Int) < (x0.size : Int) := by omega
      have hf : Hid (plainB s = false) := by unfold Hid; rw [hP'.out]; simp [c0, c1]
      go_quiet ((go_at_call 98; exact Calls.quiet_of_same (leading_any _ _ hs0)))
      go_wp2
      go_ret
      exact ⟨ret_bool hf.out.symm, hsm.drewN _⟩
    · have c1' : ¬ ((leadF x0 0 : Int) < (x0.size : Int)) := by omega
      have hf : Hid (plainB s = (l.drop 1).all (plainLine n)) := by unfold Hid; rw [hP'.out]; simp [c1]
      clear hP'
      go_quiet ((go_at_call 98; exact Calls.quiet_of_same (leading_any _ _ hs0)))
      go_wp2_with fail
      go_loopw [5] (fun j wr => PlRel l n w1 j wr) (fun j _ => l.length - (intOf j).toNat)
      case atStart => unfold PlRel; exact ⟨1, by omega, by omega, rfl, (Sm.refl _ _).drewN _, rfl⟩
      case round =>
        unfold PlRel at hrel
        obtain ⟨k, hk1, hk2, rfl, swr, hd⟩ := hrel
        have k1 : (0 : Int) ≤ (k : Int) := by omega
        by_cases hlt : k < l.length
        · have k2 : (k : Int) < (l.length : Int) := by omega
          have hc := (hS.out.sm swr (by simp)) k hlt
          have hx : (l.getD k ByteArray.empty).size ≤ 1099511627776 := hL.out _ (getD_mem hlt)
          have hd' : Hid ((l.drop 1).all (plainLine n) = (plainLine n (l.getD k ByteArray.empty) && (l.drop (k + 1)).all (plainLine n))) := hd.out.trans (all_step hlt _)
          generalize l.getD k ByteArray.empty = x at hc hx hd'
          have hle' := (leadF_le x 0 (by omega)).2
          simp only [Nat.zero_add] at hc
          clear hd
          by_cases b1 : leadF x 0 = x.size
          · by_cases b2 : 0 < x.size
            · by_cases b3 : x.size < n
              · have hff : Hid (plainB s = false) := by unfold Hid; rw [hf.out, hd'.out]; simp [plainLine, b1, b2, b3]
                clear hd' hf
                have e1 : ((leadF x 0 : Int) == (x.size : Int)) = true := by simp; omega
                have n1 : (leadF x 0 == x.size) = true := by simp; omega
                have e2 : ((0 : Int) < (x.size : Int)) := by omega
                have e2' : decide ((0 : Int) < (x.size : Int)) = true := decide_eq_true (by omega)
                have n2 : decide (0 < x.size) = true := decide_eq_true (by omega)
                have e3 : ((x.size : Int) < (n : Int)) := by omega
                have e3' : decide ((x.size : Int) < (n : Int)) = true := decide_eq_true (by omega)
                have n3 : decide (x.size < n) = true := decide_eq_true (by omega)
                clear b1 b2 b3
                go_wp2_with fail; go_quiet ((go_at_call 98; exact Calls.quiet_of_same (leading_any _ _ hx)))
                go_wp2
                go_ret
                exact ⟨ret_bool hff.out.symm, (hsm.trans swr).drewN _⟩
              · have hd2 : Hid ((l.drop 1).all (plainLine n) = (l.drop (k + 1)).all (plainLine n)) := by unfold Hid; rw [hd'.out, plainLine_true (n := n) (x := x) (by omega)]; rfl
                clear hd'
                have e1 : ((leadF x 0 : Int) == (x.size : Int)) = true := by simp; omega
                have n1 : (leadF x 0 == x.size) = true := by simp; omega
                have e2 : ((0 : Int) < (x.size : Int)) := by omega
                have e2' : decide ((0 : Int) < (x.size : Int)) = true := decide_eq_true (by omega)
                have n2 : decide (0 < x.size) = true := decide_eq_true (by omega)
                have e3 : ¬ ((x.size : Int) < (n : Int)) := by omega
                have e3' : decide ((x.size : Int) < (n : Int)) = false := decide_eq_false (by omega)
                have n3 : decide (x.size < n) = false := decide_eq_false (by omega)
                clear b1 b2 b3
                go_wp2_with fail; go_quiet ((go_at_call 98; exact Calls.quiet_of_same (leading_any _ _ hx)))
                go_wp2_with fail
                go_roundw
                case rel => (first | refine ⟨_, ?_, rfl⟩ | skip); unfold PlRel; exact ⟨k + 1, by omega, by omega, by go_num, swr.drewN _, hd2⟩
                case measure => simp [intOf]; omega
            · have hd2 : Hid ((l.drop 1).all (plainLine n) = (l.drop (k + 1)).all (plainLine n)) := by unfold Hid; rw [hd'.out, plainLine_true (n := n) (x := x) (by omega)]; rfl
              clear hd'
              have z1 : x.size = 0 := by omega
              have z2 : leadF x 0 = 0 := by omega
              clear b1 b2
              go_wp2_with fail; go_quiet ((go_at_call 98; exact Calls.quiet_of_same (leading_any _ _ hx)))
              go_wp2_with fail
              go_roundw
              case rel => (first | refine ⟨_, ?_, rfl⟩ | skip); unfold PlRel; exact ⟨k + 1, by omega, by omega, by go_num, swr.drewN _, hd2⟩
              case measure => simp [intOf]; omega
          · have hd2 : Hid ((l.drop 1).all (plainLine n) = (l.drop (k + 1)).all (plainLine n)) := by unfold Hid; rw [hd'.out, plainLine_true (n := n) (x := x) (by omega)]; rfl
            clear hd'
            have e1 : ((leadF x 0 : Int) == (x.size : Int)) = false := by simp; omega
            have n1 : (leadF x 0 == x.size) = false := by simp; omega
            clear b1
            go_wp2_with fail; go_quiet ((go_at_call 98; exact Calls.quiet_of_same (leading_any _ _ hx)))
            go_wp2_with fail
            go_roundw
            case rel => (first | refine ⟨_, ?_, rfl⟩ | skip); unfold PlRel; exact ⟨k + 1, by omega, by omega, by go_num, swr.drewN _, hd2⟩
            case measure => simp [intOf]; omega
        · have k2 : ¬ ((k : Int) < (l.length : Int)) := by omega
          have hff : Hid (plainB s = true) := by unfold Hid; rw [hf.out, hd.out, List.drop_of_length_le (by omega)]; rfl
          go_wp2_with fail
          go_ret
          exact ⟨ret_bool hff.out.symm, hsm.trans swr⟩
  · have c0' : ¬ ((0 : Int) < (n : Int)) := by omega
    have c0'' : decide ((0 : Int) < (n : Int)) = false := by simp; omega
    have hf : Hid (plainB s = (l.drop 1).all (plainLine n)) := by unfold Hid; rw [hP'.out]; simp [c0]
    clear hP'
    go_quiet (fail)
    go_wp2_with fail
    go_loopw [5] (fun j wr => PlRel l n w1 j wr) (fun j _ => l.length - (intOf j).toNat)
    case atStart => unfold PlRel; exact ⟨1, by omega, by omega, rfl, (Sm.refl _ _).drewN _, rfl⟩
    case round =>
      unfold PlRel at hrel
      obtain ⟨k, hk1, hk2, rfl, swr, hd⟩ := hrel
      have k1 : (0 : Int) ≤ (k : Int) := by omega
      by_cases hlt : k < l.length
      · have k2 : (k : Int) < (l.length : Int) := by omega
        have hc := (hS.out.sm swr (by simp)) k hlt
        have hx : (l.getD k ByteArray.empty).size ≤ 1099511627776 := hL.out _ (getD_mem hlt)
        have hd' : Hid ((l.drop 1).all (plainLine n) = (plainLine n (l.getD k ByteArray.empty) && (l.drop (k + 1)).all (plainLine n))) := hd.out.trans (all_step hlt _)
        generalize l.getD k ByteArray.empty = x at hc hx hd'
        have hle' := (leadF_le x 0 (by omega)).2
        simp only [Nat.zero_add] at hc
        clear hd
        by_cases b1 : leadF x 0 = x.size
        · by_cases b2 : 0 < x.size
          · by_cases b3 : x.size < n
            · have hff : Hid (plainB s = false) := by unfold Hid; rw [hf.out, hd'.out]; simp [plainLine, b1, b2, b3]
              clear hd' hf
              have e1 : ((leadF x 0 : Int) == (x.size : Int)) = true := by simp; omega
              have n1 : (leadF x 0 == x.size) = true := by simp; omega
              have e2 : ((0 : Int) < (x.size : Int)) := by omega
              have e2' : decide ((0 : Int) < (x.size : Int)) = true := decide_eq_true (by omega)
              have n2 : decide (0 < x.size) = true := decide_eq_true (by omega)
              have e3 : ((x.size : Int) < (n : Int)) := by omega
              have e3' : decide ((x.size : Int) < (n : Int)) = true := decide_eq_true (by omega)
              have n3 : decide (x.size < n) = true := decide_eq_true (by omega)
              clear b1 b2 b3
              go_wp2_with fail; go_quiet ((go_at_call 98; exact Calls.quiet_of_same (leading_any _ _ hx)))
              go_wp2
              go_ret
              exact ⟨ret_bool hff.out.symm, (hsm.trans swr).drewN _⟩
            · have hd2 : Hid ((l.drop 1).all (plainLine n) = (l.drop (k + 1)).all (plainLine n)) := by unfold Hid; rw [hd'.out, plainLine_true (n := n) (x := x) (by omega)]; rfl
              clear hd'
              have e1 : ((leadF x 0 : Int) == (x.size : Int)) = true := by simp; omega
              have n1 : (leadF x 0 == x.size) = true := by simp; omega
              have e2 : ((0 : Int) < (x.size : Int)) := by omega
              have e2' : decide ((0 : Int) < (x.size : Int)) = true := decide_eq_true (by omega)
              have n2 : decide (0 < x.size) = true := decide_eq_true (by omega)
              have e3 : ¬ ((x.size : Int) < (n : Int)) := by omega
              have e3' : decide ((x.size : Int) < (n : Int)) = false := decide_eq_false (by omega)
              have n3 : decide (x.size < n) = false := decide_eq_false (by omega)
              clear b1 b2 b3
              go_wp2_with fail; go_quiet ((go_at_call 98; exact Calls.quiet_of_same (leading_any _ _ hx)))
              go_wp2_with fail
              go_roundw
              case rel => (first | refine ⟨_, ?_, rfl⟩ | skip); unfold PlRel; exact ⟨k + 1, by omega, by omega, by go_num, swr.drewN _, hd2⟩
              case measure => simp [intOf]; omega
          · have hd2 : Hid ((l.drop 1).all (plainLine n) = (l.drop (k + 1)).all (plainLine n)) := by unfold Hid; rw [hd'.out, plainLine_true (n := n) (x := x) (by omega)]; rfl
            clear hd'
            have z1 : x.size = 0 := by omega
            have z2 : leadF x 0 = 0 := by omega
            clear b1 b2
            go_wp2_with fail; go_quiet ((go_at_call 98; exact Calls.quiet_of_same (leading_any _ _ hx)))
            go_wp2_with fail
            go_roundw
            case rel => (first | refine ⟨_, ?_, rfl⟩ | skip); unfold PlRel; exact ⟨k + 1, by omega, by omega, by go_num, swr.drewN _, hd2⟩
            case measure => simp [intOf]; omega
        · have hd2 : Hid ((l.drop 1).all (plainLine n) = (l.drop (k + 1)).all (plainLine n)) := by unfold Hid; rw [hd'.out, plainLine_true (n := n) (x := x) (by omega)]; rfl
          clear hd'
          have e1 : ((leadF x 0 : Int) == (x.size : Int)) = false := by simp; omega
          have n1 : (leadF x 0 == x.size) = false := by simp; omega
          clear b1
          go_wp2_with fail; go_quiet ((go_at_call 98; exact Calls.quiet_of_same (leading_any _ _ hx)))
          go_wp2_with fail
          go_roundw
          case rel => (first | refine ⟨_, ?_, rfl⟩ | skip); unfold PlRel; exact ⟨k + 1, by omega, by omega, by go_num, swr.drewN _, hd2⟩
          case measure => simp [intOf]; omega
      · have k2 : ¬ ((k : Int) < (l.length : Int)) := by omega
        have hff : Hid (plainB s = true) := by unfold Hid; rw [hf.out, hd.out, List.drop_of_length_le (by omega)]; rfl
        go_wp2_with fail
        go_ret
        exact ⟨ret_bool hff.out.symm, hsm.trans swr⟩

end

end Go.Proofs.YtigpnidffiaigaaGreat
