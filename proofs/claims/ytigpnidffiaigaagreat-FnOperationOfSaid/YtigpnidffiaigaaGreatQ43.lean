/- Walks: token: strings; the whole step. -/
import Derived.Test.YtigpnidffiaigaaGreatProg
import Derived.Deep.CutRange
import Derived.IntWalk
import Derived.Test.YtigpnidffiaigaaGreatQ41
import Derived.Test.YtigpnidffiaigaaGreatQ42
set_option linter.unusedVariables false
set_option linter.unusedSimpArgs false
namespace Go.Proofs.YtigpnidffiaigaaGreat

section
open Go.RowKit

attribute [local go_sem ↓] Go.wp_at_zero Go.wp_at_succ

set_option maxHeartbeats 2000000 in
set_option maxRecDepth 100000 in
theorem token_block (xb : Nat) (s : ByteArray) (x : Lx) (w : World) (hx : LxAt w xb s x) (hs : s.size ≤ 1099511627776) (hp : x.pos < s.size) (hn : x.out.length ≤ 1099511627776) (hb : ¬ (nx s x.pos = 32 ∨ nx s x.pos = 9 ∨ nx s x.pos = 10 ∨ nx s x.pos = 13 ∨ nx s x.pos = 44)) (hq : st s x.pos ⟨#[239, 187, 191]⟩ = false) (h35 : nx s x.pos ≠ 35) (hq2 : st s x.pos ⟨#[46, 46, 46]⟩ = false) (hs0 : sgn (nx s x.pos) = 0) (hbg : isBg (nx s x.pos) = false) (h45 : nx s x.pos ≠ 45) (hdg : isDg (nx s x.pos) = false) (hq3 : st s x.pos q3 = true) :
    Calls Tryz.prog 127 #[.pointer (some ⟨xb, 0, none⟩)] w fun e w' => e = .returned (.tuple #[]) ∧ LxAt w' xb s (lxBlock s x (x.pos + 3) ByteArray.empty) ∧ Below xb w w' := by
  have n32 : ((nx s x.pos : Int) == 32) = false := by simp; omega
  have n9 : ((nx s x.pos : Int) == 9) = false := by simp; omega
  have n10 : ((nx s x.pos : Int) == 10) = false := by simp; omega
  have n13 : ((nx s x.pos : Int) == 13) = false := by simp; omega
  have n44 : ((nx s x.pos : Int) == 44) = false := by simp; omega
  have n35 : ((nx s x.pos : Int) == 35) = false := by simp; omega
  have n45 : ((nx s x.pos : Int) == 45) = false := by simp; omega
  clear hb
  obtain ⟨ov, h1, h2, c0, c1, c3, c4, f1, f3, f4⟩ := hx.facts
  have z1 : (0 : Int) ≤ (x.pos : Int) := by omega
  have z2 : (x.pos : Int) < (s.size : Int) := by omega
  have z3 : s[x.pos].toNat = nx s x.pos := nx_at hp
  go_enter Tryz.func127, Tryz.ntmps127
  go_upto_region 0 with fail
  go_quiet (fail)
  have hy1 : LxAt (w.drewN nq) xb s x := hx.drewN _
  have hb1 := below_drewN (Below.refl xb w) nq
  clear h1 h2 c0 c1 c3 c4 f1 f3 f4 hx
  generalize w.drewN nq = w1 at *
  obtain ⟨ov, h1, h2, c0, c1, c3, c4, f1, f3, f4⟩ := hy1.facts
  go_upto_region 4 with fail
  have hst := fun W => starts_any s ⟨#[239, 187, 191]⟩ x.pos W hs (by omega) (by decide)
  rw [hq] at hst
  go_quiet ((go_at_call 57; exact Calls.quiet_of_same (hst _)))
  have hy2 : LxAt (w1.drewN nq) xb s x := hy1.drewN _
  have hb2 := below_drewN hb1 nq
  clear h1 h2 c0 c1 c3 c4 f1 f3 f4 hy1 hb1
  generalize w1.drewN nq = w2 at *
  obtain ⟨ov, h1, h2, c0, c1, c3, c4, f1, f3, f4⟩ := hy2.facts
  go_upto_region 9 with fail
  have hst2 := fun W => starts_any s ⟨#[46, 46, 46]⟩ x.pos W hs (by omega) (by decide)
  rw [hq2] at hst2
  go_quiet ((go_at_call 57; exact Calls.quiet_of_same (hst2 _)))
  have hy3 : LxAt (w2.drewN nq) xb s x := hy2.drewN _
  have hb3 := below_drewN hb2 nq
  clear h1 h2 c0 c1 c3 c4 f1 f3 f4 hy2 hb2
  generalize w2.drewN nq = w3 at *
  obtain ⟨ov, h1, h2, c0, c1, c3, c4, f1, f3, f4⟩ := hy3.facts
  go_upto_region 20 with (first | (go_at_call 144; refine (sign_zero (nx s x.pos) (nx_lt _ _) hs0 _).mono ?_; rintro e w' ⟨rfl, hww⟩; rw [hww]; clear hww w') | (go_at_call 53; refine (isBegin_is (nx s x.pos) false (nx_lt _ _) hbg _).mono ?_; rintro e w' ⟨rfl, hww⟩; rw [hww]; clear hww w') | (go_at_call 54; refine (isDigit_is (nx s x.pos) false (nx_lt _ _) hdg _).mono ?_; rintro e w' ⟨rfl, hww⟩; rw [hww]; clear hww w'))
  have hst3 := fun W => starts_any s q3 x.pos W hs (by omega) (by decide)
  rw [hq3] at hst3
  go_quiet ((go_at_call 57; exact Calls.quiet_of_same (hst3 _)))
  have hy4 : LxAt (w3.drewN nq) xb s x := hy3.drewN _
  have hb4 := below_drewN hb3 nq
  clear h1 h2 c0 c1 c3 c4 f1 f3 f4 hy3 hb3
  generalize w3.drewN nq = w4 at *
  obtain ⟨ov, h1, h2, c0, c1, c3, c4, f1, f3, f4⟩ := hy4.facts
  go_wp2_with (go_at_call 147; refine (block_any xb s x _ hy4 hs (by omega) hn).mono ?_; rintro e w' ⟨rfl, hl, hb'⟩)
  go_returns
  exact ⟨rfl, hl, hb4.trans hb'⟩

set_option maxHeartbeats 2000000 in
set_option maxRecDepth 100000 in
theorem token_text (xb : Nat) (s : ByteArray) (x : Lx) (w : World) (hx : LxAt w xb s x) (hs : s.size ≤ 1099511627776) (hp : x.pos < s.size) (hn : x.out.length ≤ 1099511627776) (hb : ¬ (nx s x.pos = 32 ∨ nx s x.pos = 9 ∨ nx s x.pos = 10 ∨ nx s x.pos = 13 ∨ nx s x.pos = 44)) (hq : st s x.pos ⟨#[239, 187, 191]⟩ = false) (h35 : nx s x.pos ≠ 35) (hq2 : st s x.pos ⟨#[46, 46, 46]⟩ = false) (hs0 : sgn (nx s x.pos) = 0) (hbg : isBg (nx s x.pos) = false) (h45 : nx s x.pos ≠ 45) (hdg : isDg (nx s x.pos) = false) (hq3 : st s x.pos q3 = false) (hc : nx s x.pos = 34) :
    Calls Tryz.prog 127 #[.pointer (some ⟨xb, 0, none⟩)] w fun e w' => e = .returned (.tuple #[]) ∧ LxAt w' xb s (lxText s x (x.pos + 1) ByteArray.empty) ∧ Below xb w w' := by
  have n32 : ((nx s x.pos : Int) == 32) = false := by simp; omega
  have n9 : ((nx s x.pos : Int) == 9) = false := by simp; omega
  have n10 : ((nx s x.pos : Int) == 10) = false := by simp; omega
  have n13 : ((nx s x.pos : Int) == 13) = false := by simp; omega
  have n44 : ((nx s x.pos : Int) == 44) = false := by simp; omega
  have n35 : ((nx s x.pos : Int) == 35) = false := by simp; omega
  have n45 : ((nx s x.pos : Int) == 45) = false := by simp; omega
  clear hb
  obtain ⟨ov, h1, h2, c0, c1, c3, c4, f1, f3, f4⟩ := hx.facts
  have z1 : (0 : Int) ≤ (x.pos : Int) := by omega
  have z2 : (x.pos : Int) < (s.size : Int) := by omega
  have z3 : s[x.pos].toNat = nx s x.pos := nx_at hp
  go_enter Tryz.func127, Tryz.ntmps127
  go_upto_region 0 with fail
  go_quiet (fail)
  have hy1 : LxAt (w.drewN nq) xb s x := hx.drewN _
  have hb1 := below_drewN (Below.refl xb w) nq
  clear h1 h2 c0 c1 c3 c4 f1 f3 f4 hx
  generalize w.drewN nq = w1 at *
  obtain ⟨ov, h1, h2, c0, c1, c3, c4, f1, f3, f4⟩ := hy1.facts
  go_upto_region 4 with fail
  have hst := fun W => starts_any s ⟨#[239, 187, 191]⟩ x.pos W hs (by omega) (by decide)
  rw [hq] at hst
  go_quiet ((go_at_call 57; exact Calls.quiet_of_same (hst _)))
  have hy2 : LxAt (w1.drewN nq) xb s x := hy1.drewN _
  have hb2 := below_drewN hb1 nq
  clear h1 h2 c0 c1 c3 c4 f1 f3 f4 hy1 hb1
  generalize w1.drewN nq = w2 at *
  obtain ⟨ov, h1, h2, c0, c1, c3, c4, f1, f3, f4⟩ := hy2.facts
  go_upto_region 9 with fail
  have hst2 := fun W => starts_any s ⟨#[46, 46, 46]⟩ x.pos W hs (by omega) (by decide)
  rw [hq2] at hst2
  go_quiet ((go_at_call 57; exact Calls.quiet_of_same (hst2 _)))
  have hy3 : LxAt (w2.drewN nq) xb s x := hy2.drewN _
  have hb3 := below_drewN hb2 nq
  clear h1 h2 c0 c1 c3 c4 f1 f3 f4 hy2 hb2
  generalize w2.drewN nq = w3 at *
  obtain ⟨ov, h1, h2, c0, c1, c3, c4, f1, f3, f4⟩ := hy3.facts
  have hsg : ∀ W, Calls Tryz.prog 144 #[.int .u8 34] W fun e w' => e = .returned (.int .i64 0) ∧ w' = W := fun W => sign_zero 34 (by decide) (by decide) W
  have hbgc : ∀ W, Calls Tryz.prog 53 #[.int .u8 34] W fun e w' => e = .returned (.bool false) ∧ w' = W := fun W => isBegin_is 34 false (by decide) (by decide) W
  have hdgc : ∀ W, Calls Tryz.prog 54 #[.int .u8 34] W fun e w' => e = .returned (.bool false) ∧ w' = W := fun W => isDigit_is 34 false (by decide) (by decide) W
  go_upto_region 20 with (first | (go_at_call 144; refine (hsg _).mono ?_; rintro e w' ⟨rfl, hww⟩; rw [hww]; clear hww w') | (go_at_call 53; refine (hbgc _).mono ?_; rintro e w' ⟨rfl, hww⟩; rw [hww]; clear hww w') | (go_at_call 54; refine (hdgc _).mono ?_; rintro e w' ⟨rfl, hww⟩; rw [hww]; clear hww w'))
  have hst3 := fun W => starts_any s q3 x.pos W hs (by omega) (by decide)
  rw [hq3] at hst3
  go_quiet ((go_at_call 57; exact Calls.quiet_of_same (hst3 _)))
  have hy4 : LxAt (w3.drewN nq) xb s x := hy3.drewN _
  have hb4 := below_drewN hb3 nq
  clear h1 h2 c0 c1 c3 c4 f1 f3 f4 hy3 hb3
  generalize w3.drewN nq = w4 at *
  obtain ⟨ov, h1, h2, c0, c1, c3, c4, f1, f3, f4⟩ := hy4.facts
  go_wp2_with (go_at_call 148; refine (text_any xb s x _ hy4 hs (by omega) hn).mono ?_; rintro e w' ⟨rfl, hl, hb'⟩)
  go_returns
  exact ⟨rfl, hl, hb4.trans hb'⟩

set_option maxHeartbeats 2000000 in
set_option maxRecDepth 100000 in
theorem token_fail (xb : Nat) (s : ByteArray) (x : Lx) (w : World) (hx : LxAt w xb s x) (hs : s.size ≤ 1099511627776) (hp : x.pos < s.size) (hn : x.out.length ≤ 1099511627776) (hb : ¬ (nx s x.pos = 32 ∨ nx s x.pos = 9 ∨ nx s x.pos = 10 ∨ nx s x.pos = 13 ∨ nx s x.pos = 44)) (hq : st s x.pos ⟨#[239, 187, 191]⟩ = false) (h35 : nx s x.pos ≠ 35) (hq2 : st s x.pos ⟨#[46, 46, 46]⟩ = false) (hs0 : sgn (nx s x.pos) = 0) (hbg : isBg (nx s x.pos) = false) (h45 : nx s x.pos ≠ 45) (hdg : isDg (nx s x.pos) = false) (hq3 : st s x.pos q3 = false) (h34 : nx s x.pos ≠ 34) :
    Calls Tryz.prog 127 #[.pointer (some ⟨xb, 0, none⟩)] w fun e w' => e = .returned (.tuple #[]) ∧ LxAt w' xb s (x.fail) ∧ Below xb w w' := by
  have n32 : ((nx s x.pos : Int) == 32) = false := by simp; omega
  have n9 : ((nx s x.pos : Int) == 9) = false := by simp; omega
  have n10 : ((nx s x.pos : Int) == 10) = false := by simp; omega
  have n13 : ((nx s x.pos : Int) == 13) = false := by simp; omega
  have n44 : ((nx s x.pos : Int) == 44) = false := by simp; omega
  have n35 : ((nx s x.pos : Int) == 35) = false := by simp; omega
  have n45 : ((nx s x.pos : Int) == 45) = false := by simp; omega
  have n34 : ((nx s x.pos : Int) == 34) = false := by simp; omega
  clear hb
  obtain ⟨ov, h1, h2, c0, c1, c3, c4, f1, f3, f4⟩ := hx.facts
  have z1 : (0 : Int) ≤ (x.pos : Int) := by omega
  have z2 : (x.pos : Int) < (s.size : Int) := by omega
  have z3 : s[x.pos].toNat = nx s x.pos := nx_at hp
  go_enter Tryz.func127, Tryz.ntmps127
  go_upto_region 0 with fail
  go_quiet (fail)
  have hy1 : LxAt (w.drewN nq) xb s x := hx.drewN _
  have hb1 := below_drewN (Below.refl xb w) nq
  clear h1 h2 c0 c1 c3 c4 f1 f3 f4 hx
  generalize w.drewN nq = w1 at *
  obtain ⟨ov, h1, h2, c0, c1, c3, c4, f1, f3, f4⟩ := hy1.facts
  go_upto_region 4 with fail
  have hst := fun W => starts_any s ⟨#[239, 187, 191]⟩ x.pos W hs (by omega) (by decide)
  rw [hq] at hst
  go_quiet ((go_at_call 57; exact Calls.quiet_of_same (hst _)))
  have hy2 : LxAt (w1.drewN nq) xb s x := hy1.drewN _
  have hb2 := below_drewN hb1 nq
  clear h1 h2 c0 c1 c3 c4 f1 f3 f4 hy1 hb1
  generalize w1.drewN nq = w2 at *
  obtain ⟨ov, h1, h2, c0, c1, c3, c4, f1, f3, f4⟩ := hy2.facts
  go_upto_region 9 with fail
  have hst2 := fun W => starts_any s ⟨#[46, 46, 46]⟩ x.pos W hs (by omega) (by decide)
  rw [hq2] at hst2
  go_quiet ((go_at_call 57; exact Calls.quiet_of_same (hst2 _)))
  have hy3 : LxAt (w2.drewN nq) xb s x := hy2.drewN _
  have hb3 := below_drewN hb2 nq
  clear h1 h2 c0 c1 c3 c4 f1 f3 f4 hy2 hb2
  generalize w2.drewN nq = w3 at *
  obtain ⟨ov, h1, h2, c0, c1, c3, c4, f1, f3, f4⟩ := hy3.facts
  go_upto_region 20 with (first | (go_at_call 144; refine (sign_zero (nx s x.pos) (nx_lt _ _) hs0 _).mono ?_; rintro e w' ⟨rfl, hww⟩; rw [hww]; clear hww w') | (go_at_call 53; refine (isBegin_is (nx s x.pos) false (nx_lt _ _) hbg _).mono ?_; rintro e w' ⟨rfl, hww⟩; rw [hww]; clear hww w') | (go_at_call 54; refine (isDigit_is (nx s x.pos) false (nx_lt _ _) hdg _).mono ?_; rintro e w' ⟨rfl, hww⟩; rw [hww]; clear hww w'))
  have hst3 := fun W => starts_any s q3 x.pos W hs (by omega) (by decide)
  rw [hq3] at hst3
  go_quiet ((go_at_call 57; exact Calls.quiet_of_same (hst3 _)))
  have hy4 : LxAt (w3.drewN nq) xb s x := hy3.drewN _
  have hb4 := below_drewN hb3 nq
  clear h1 h2 c0 c1 c3 c4 f1 f3 f4 hy3 hb3
  generalize w3.drewN nq = w4 at *
  obtain ⟨ov, h1, h2, c0, c1, c3, c4, f1, f3, f4⟩ := hy4.facts
  go_wp2_with (go_at_call 149; refine (lxfail_any xb s x _ hy4).mono ?_; rintro e w' ⟨rfl, hl, hb'⟩)
  go_returns
  exact ⟨rfl, hl, hb4.trans hb'⟩

theorem token_any (xb : Nat) (s : ByteArray) (x : Lx) (w : World) (hx : LxAt w xb s x) (hs : s.size ≤ 1099511627776) (hp : x.pos < s.size) (hn : x.out.length ≤ 1099511627776) :
    Calls Tryz.prog 127 #[.pointer (some ⟨xb, 0, none⟩)] w fun e w' => e = .returned (.tuple #[]) ∧ LxAt w' xb s (lxToken s x) ∧ Below xb w w' := by
  unfold lxToken
  dsimp only
  by_cases hb : nx s x.pos = 32 ∨ nx s x.pos = 9 ∨ nx s x.pos = 10 ∨ nx s x.pos = 13 ∨ nx s x.pos = 44
  · rw [if_pos hb]
    rcases hb with hb | hb | hb | hb | hb
    · exact token_b32 xb s x w hx hs hp hn hb
    · exact token_b9 xb s x w hx hs hp hn hb
    · exact token_b10 xb s x w hx hs hp hn hb
    · exact token_b13 xb s x w hx hs hp hn hb
    · exact token_b44 xb s x w hx hs hp hn hb
  rw [if_neg hb]
  by_cases hq : st s x.pos ⟨#[239, 187, 191]⟩ = true
  · rw [if_pos hq]; exact token_bom xb s x w hx hs hp hn hb hq
  rw [if_neg hq]
  have hq := Bool.eq_false_iff.2 hq
  by_cases h35 : nx s x.pos = 35
  · rw [if_pos h35]; exact token_comment xb s x w hx hs hp hn hb hq h35
  rw [if_neg h35]
  by_cases hq2 : st s x.pos ⟨#[46, 46, 46]⟩ = true
  · rw [if_pos hq2]; exact token_spread xb s x w hx hs hp hn hb hq h35 hq2
  rw [if_neg hq2]
  have hq2 := Bool.eq_false_iff.2 hq2
  by_cases hs0 : 0 < sgn (nx s x.pos)
  · rw [if_pos hs0]; exact token_sign xb s x w hx hs hp hn hb hq h35 hq2 hs0
  rw [if_neg hs0]
  have hs0 : sgn (nx s x.pos) = 0 := by have := sgn_nonneg (nx s x.pos) (nx_lt _ _); omega
  by_cases hbg : isBg (nx s x.pos) = true
  · rw [if_pos hbg]; exact token_name xb s x w hx hs hp hn hb hq h35 hq2 hs0 hbg
  rw [if_neg hbg]
  have hbg := Bool.eq_false_iff.2 hbg
  by_cases h45 : nx s x.pos = 45
  · rw [if_pos (.inl h45)]; exact token_minus xb s x w hx hs hp hn hb hq h35 hq2 hs0 hbg h45
  by_cases hdg : isDg (nx s x.pos) = true
  · rw [if_pos (.inr hdg)]; exact token_digit xb s x w hx hs hp hn hb hq h35 hq2 hs0 hbg h45 hdg
  rw [if_neg (fun h => h.elim h45 hdg)]
  have hdg := Bool.eq_false_iff.2 hdg
  by_cases hq3 : st s x.pos q3 = true
  · rw [if_pos hq3]; exact token_block xb s x w hx hs hp hn hb hq h35 hq2 hs0 hbg h45 hdg hq3
  rw [if_neg hq3]
  have hq3 := Bool.eq_false_iff.2 hq3
  by_cases h34 : nx s x.pos = 34
  · rw [if_pos h34]; exact token_text xb s x w hx hs hp hn hb hq h35 hq2 hs0 hbg h45 hdg hq3 h34
  rw [if_neg h34]
  exact token_fail xb s x w hx hs hp hn hb hq h35 hq2 hs0 hbg h45 hdg hq3 h34

end

end Go.Proofs.YtigpnidffiaigaaGreat
