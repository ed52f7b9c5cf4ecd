/- Walks: token: signs, names, numbers. -/
import Derived.Test.YtigpnidffiaigaaGreatProg
import Derived.Deep.CutRange
import Derived.IntWalk
import Derived.Test.YtigpnidffiaigaaGreatQ40
set_option linter.unusedVariables false
set_option linter.unusedSimpArgs false
namespace Go.Proofs.YtigpnidffiaigaaGreat

section
open Go.RowKit

theorem sign_zero (c : Nat) (hc : c < 256) (h : sgn c = 0) (w : World) : Calls Tryz.prog 144 #[.int .u8 (c : Int)] w fun e w' => e = .returned (.int .i64 0) ∧ w' = w := by
  have := sign_any c hc w
  rw [h] at this
  exact this
theorem isBegin_is (c : Nat) (b : Bool) (hc : c < 256) (h : isBg c = b) (w : World) : Calls Tryz.prog 53 #[.int .u8 (c : Int)] w fun e w' => e = .returned (.bool b) ∧ w' = w := by
  have := isBegin_any c hc w
  rw [h] at this
  exact this
theorem isDigit_is (c : Nat) (b : Bool) (hc : c < 256) (h : isDg c = b) (w : World) : Calls Tryz.prog 54 #[.int .u8 (c : Int)] w fun e w' => e = .returned (.bool b) ∧ w' = w := by
  have := isDigit_any c hc w
  rw [h] at this
  exact this
theorem sgn_nonneg : ∀ c, c < 256 → 0 ≤ sgn c := by decide +kernel

attribute [local go_sem ↓] Go.wp_at_zero Go.wp_at_succ

set_option maxHeartbeats 2000000 in
set_option maxRecDepth 100000 in
theorem token_sign (xb : Nat) (s : ByteArray) (x : Lx) (w : World) (hx : LxAt w xb s x) (hs : s.size ≤ 1099511627776) (hp : x.pos < s.size) (hn : x.out.length ≤ 1099511627776) (hb : ¬ (nx s x.pos = 32 ∨ nx s x.pos = 9 ∨ nx s x.pos = 10 ∨ nx s x.pos = 13 ∨ nx s x.pos = 44)) (hq : st s x.pos ⟨#[239, 187, 191]⟩ = false) (h35 : nx s x.pos ≠ 35) (hq2 : st s x.pos ⟨#[46, 46, 46]⟩ = false) (hs1 : 0 < sgn (nx s x.pos)) :
    Calls Tryz.prog 127 #[.pointer (some ⟨xb, 0, none⟩)] w fun e w' => e = .returned (.tuple #[]) ∧ LxAt w' xb s (x.add (sgn (nx s x.pos)) (x.pos + 1) ByteArray.empty) ∧ Below xb w w' := by
  have n32 : ((nx s x.pos : Int) == 32) = false := by simp; omega
  have n9 : ((nx s x.pos : Int) == 9) = false := by simp; omega
  have n10 : ((nx s x.pos : Int) == 10) = false := by simp; omega
  have n13 : ((nx s x.pos : Int) == 13) = false := by simp; omega
  have n44 : ((nx s x.pos : Int) == 44) = false := by simp; omega
  have n35 : ((nx s x.pos : Int) == 35) = false := by simp; omega
  clear hb
  obtain ⟨ov, h1, h2, c0, c1, c3, c4, f1, f3, f4⟩ := hx.facts
  have z1 : (0 : Int) ≤ (x.pos : Int) := by omega
  have z2 : (x.pos : Int) < (s.size : Int) := by omega
  have z3 : s[x.pos].toNat = nx s x.pos := nx_at hp
  go_enter Tryz.func127, Tryz.ntmps127
  go_upto_region 0 with fail
  go_quiet (fail)
  have hy1 : LxAt (w.drewN nq) xb s x := hx.drewN _
  have hb1 := below_drewN (Below.refl xb w) nq
  clear h1 h2 c0 c1 c3 c4 f1 f3 f4 hx
  generalize w.drewN nq = w1 at *
  obtain ⟨ov, h1, h2, c0, c1, c3, c4, f1, f3, f4⟩ := hy1.facts
  go_upto_region 4 with fail
  have hst := fun W => starts_any s ⟨#[239, 187, 191]⟩ x.pos W hs (by omega) (by decide)
  rw [hq] at hst
  go_quiet ((go_at_call 57; exact Calls.quiet_of_same (hst _)))
  have hy2 : LxAt (w1.drewN nq) xb s x := hy1.drewN _
  have hb2 := below_drewN hb1 nq
  clear h1 h2 c0 c1 c3 c4 f1 f3 f4 hy1 hb1
  generalize w1.drewN nq = w2 at *
  obtain ⟨ov, h1, h2, c0, c1, c3, c4, f1, f3, f4⟩ := hy2.facts
  go_upto_region 9 with fail
  have hst2 := fun W => starts_any s ⟨#[46, 46, 46]⟩ x.pos W hs (by omega) (by decide)
  rw [hq2] at hst2
  go_quiet ((go_at_call 57; exact Calls.quiet_of_same (hst2 _)))
  have hy3 : LxAt (w2.drewN nq) xb s x := hy2.drewN _
  have hb3 := below_drewN hb2 nq
  clear h1 h2 c0 c1 c3 c4 f1 f3 f4 hy2 hb2
  generalize w2.drewN nq = w3 at *
  obtain ⟨ov, h1, h2, c0, c1, c3, c4, f1, f3, f4⟩ := hy3.facts
  obtain ⟨q, HQ⟩ : ∃ q, Hid (sgn (nx s x.pos) = q) := ⟨_, rfl⟩
  have hsg := fun W => sign_any (nx s x.pos) (nx_lt _ _) W
  rw [HQ.out] at hsg hs1
  go_upto_region 12 with (go_at_call 144; (with_reducible refine (hsg _).mono ?_); rintro e w' ⟨rfl, hww⟩; rw [hww]; clear hww w')
  have hadd : Hid (∀ W, LxAt W xb s x → Calls Tryz.prog 143 #[.pointer (some ⟨xb, 0, none⟩), .int .i64 q, .int .i64 ((x.pos : Int) + 1), .string ⟨#[]⟩] W fun e w' => e = .returned (.tuple #[]) ∧ LxAt w' xb s (x.add q (x.pos + 1) ByteArray.empty) ∧ Below xb W w') := fun W h => add_any xb s x q (x.pos + 1) ByteArray.empty W h hn
  have hw : IntKind.i64.wrap ((x.pos : Int) + 1) = (x.pos : Int) + 1 := IntWalk.i64_in _ (by omega)
  clear h1 h2 f1 f3 f4 n32 n9 n10 n13 n44 n35 hst hst2 hq hq2 z3 c0 c3 c4
  go_region_law (first | (go_simp; go_at_call 144; (with_reducible refine (hsg _).mono ?_); rintro e w' ⟨rfl, hww⟩; rw [hww]; clear hww w') | (go_simp; go_at_call 143; refine (hadd.out _ (LxAt.drew hy3)).mono ?_; rintro e w' ⟨rfl, hl, hb'⟩))
  all_goals (go_wp2; go_end0; exact ⟨rfl, by rw [HQ.out]; exact hl, hb3.trans ((Below.refl xb w3).drew.trans hb')⟩)

def NmRel (s : ByteArray) (p : Nat) (v : Value) : Prop := ∃ k : Nat, p ≤ k ∧ k ≤ s.size ∧ v = .int .i64 k ∧ Hid (nameTo s p = nameTo s k)
theorem nameTo_yes {s : ByteArray} {k : Nat} (h : (isBg (nx s k) || isDg (nx s k)) = true) : nameTo s k = nameTo s (k + 1) := by rw [nameTo, dif_pos h]
theorem nameTo_no {s : ByteArray} {k : Nat} (h : (isBg (nx s k) || isDg (nx s k)) = false) : nameTo s k = k := by rw [nameTo, dif_neg (by simp [h])]

set_option maxHeartbeats 2000000 in
set_option maxRecDepth 100000 in
theorem token_name (xb : Nat) (s : ByteArray) (x : Lx) (w : World) (hx : LxAt w xb s x) (hs : s.size ≤ 1099511627776) (hp : x.pos < s.size) (hn : x.out.length ≤ 1099511627776) (hb : ¬ (nx s x.pos = 32 ∨ nx s x.pos = 9 ∨ nx s x.pos = 10 ∨ nx s x.pos = 13 ∨ nx s x.pos = 44)) (hq : st s x.pos ⟨#[239, 187, 191]⟩ = false) (h35 : nx s x.pos ≠ 35) (hq2 : st s x.pos ⟨#[46, 46, 46]⟩ = false) (hs0 : sgn (nx s x.pos) = 0) (hbg : isBg (nx s x.pos) = true) :
    Calls Tryz.prog 127 #[.pointer (some ⟨xb, 0, none⟩)] w fun e w' => e = .returned (.tuple #[]) ∧ LxAt w' xb s (x.add 15 (nameTo s x.pos) (s.extract x.pos (nameTo s x.pos))) ∧ Below xb w w' := by
  have n32 : ((nx s x.pos : Int) == 32) = false := by simp; omega
  have n9 : ((nx s x.pos : Int) == 9) = false := by simp; omega
  have n10 : ((nx s x.pos : Int) == 10) = false := by simp; omega
  have n13 : ((nx s x.pos : Int) == 13) = false := by simp; omega
  have n44 : ((nx s x.pos : Int) == 44) = false := by simp; omega
  have n35 : ((nx s x.pos : Int) == 35) = false := by simp; omega
  clear hb
  obtain ⟨ov, h1, h2, c0, c1, c3, c4, f1, f3, f4⟩ := hx.facts
  have z1 : (0 : Int) ≤ (x.pos : Int) := by omega
  have z2 : (x.pos : Int) < (s.size : Int) := by omega
  have z3 : s[x.pos].toNat = nx s x.pos := nx_at hp
  go_enter Tryz.func127, Tryz.ntmps127
  go_upto_region 0 with fail
  go_quiet (fail)
  have hy1 : LxAt (w.drewN nq) xb s x := hx.drewN _
  have hb1 := below_drewN (Below.refl xb w) nq
  clear h1 h2 c0 c1 c3 c4 f1 f3 f4 hx
  generalize w.drewN nq = w1 at *
  obtain ⟨ov, h1, h2, c0, c1, c3, c4, f1, f3, f4⟩ := hy1.facts
  go_upto_region 4 with fail
  have hst := fun W => starts_any s ⟨#[239, 187, 191]⟩ x.pos W hs (by omega) (by decide)
  rw [hq] at hst
  go_quiet ((go_at_call 57; exact Calls.quiet_of_same (hst _)))
  have hy2 : LxAt (w1.drewN nq) xb s x := hy1.drewN _
  have hb2 := below_drewN hb1 nq
  clear h1 h2 c0 c1 c3 c4 f1 f3 f4 hy1 hb1
  generalize w1.drewN nq = w2 at *
  obtain ⟨ov, h1, h2, c0, c1, c3, c4, f1, f3, f4⟩ := hy2.facts
  go_upto_region 9 with fail
  have hst2 := fun W => starts_any s ⟨#[46, 46, 46]⟩ x.pos W hs (by omega) (by decide)
  rw [hq2] at hst2
  go_quiet ((go_at_call 57; exact Calls.quiet_of_same (hst2 _)))
  have hy3 : LxAt (w2.drewN nq) xb s x := hy2.drewN _
  have hb3 := below_drewN hb2 nq
  clear h1 h2 c0 c1 c3 c4 f1 f3 f4 hy2 hb2
  generalize w2.drewN nq = w3 at *
  obtain ⟨ov, h1, h2, c0, c1, c3, c4, f1, f3, f4⟩ := hy3.facts
  have hbg' : Hid (isBg (nx s x.pos) = true) := hbg
  have hs0' : Hid (sgn (nx s x.pos) = 0) := hs0
  clear hbg hs0 hq hq2
  go_wp2_with (first | (go_at_call 144; refine (sign_zero (nx s x.pos) (nx_lt _ _) hs0'.out _).mono ?_; rintro e w' ⟨rfl, hww⟩; rw [hww]; clear hww w') | (go_at_call 53; refine (isBegin_is (nx s x.pos) true (nx_lt _ _) hbg'.out _).mono ?_; rintro e w' ⟨rfl, hww⟩; rw [hww]; clear hww w'))
  go_loop [3] (fun v => NmRel s x.pos v) (fun v => s.size + 1 - (intOf v).toNat)
  case atStart => exact ⟨x.pos, Nat.le_refl _, by omega, rfl, rfl⟩
  case round =>
    obtain ⟨k, hk, hk2, rfl, hd⟩ := hrel
    have hc := nx_lt s k
    cases qb : isBg (nx s k) with
    | true =>
      have qb' : Hid (isBg (nx s k) = true) := qb
      have hlt : k < s.size := nx_pos (by unfold isBg at qb; simp at qb; omega)
      have hd' : Hid (nameTo s x.pos = nameTo s (k + 1)) := hd.out.trans (nameTo_yes (by simp [qb]))
      clear qb hd
      go_wp2_with (first | (go_at_call 145; refine (next_any xb s k _ c0 (by omega)).mono ?_; rintro e w' ⟨rfl, hww⟩; rw [hww]; clear hww w') | (go_at_call 53; refine (isBegin_is (nx s k) true hc qb'.out _).mono ?_; rintro e w' ⟨rfl, hww⟩; rw [hww]; clear hww w'))
      go_round
      case rel => exact ⟨k + 1, by omega, by omega, by go_num, hd'⟩
      case measure => simp [intOf]; omega
    | false =>
      have qb' : Hid (isBg (nx s k) = false) := qb
      cases qd : isDg (nx s k) with
      | true =>
        have qd' : Hid (isDg (nx s k) = true) := qd
        have hlt : k < s.size := nx_pos (by unfold isDg at qd; simp at qd; omega)
        have hd' : Hid (nameTo s x.pos = nameTo s (k + 1)) := hd.out.trans (nameTo_yes (by simp [qd]))
        clear qb qd hd
        go_wp2_with (first | (go_at_call 145; refine (next_any xb s k _ c0 (by omega)).mono ?_; rintro e w' ⟨rfl, hww⟩; rw [hww]; clear hww w') | (go_at_call 53; refine (isBegin_is (nx s k) false hc qb'.out _).mono ?_; rintro e w' ⟨rfl, hww⟩; rw [hww]; clear hww w') | (go_at_call 54; refine (isDigit_is (nx s k) true hc qd'.out _).mono ?_; rintro e w' ⟨rfl, hww⟩; rw [hww]; clear hww w'))
        go_round
        case rel => exact ⟨k + 1, by omega, by omega, by go_num, hd'⟩
        case measure => simp [intOf]; omega
      | false =>
        have qd' : Hid (isDg (nx s k) = false) := qd
        have hd' : Hid (nameTo s x.pos = k) := hd.out.trans (nameTo_no (by simp [qb, qd]))
        clear qb qd hd
        have y2 : (x.pos : Int) ≤ (k : Int) := by omega
        have y3 : (k : Int) ≤ (s.size : Int) := by omega
        go_upto_region 17 with (first | (go_at_call 145; refine (next_any xb s k _ c0 (by omega)).mono ?_; rintro e w' ⟨rfl, hww⟩; rw [hww]; clear hww w') | (go_at_call 53; refine (isBegin_is (nx s k) false hc qb'.out _).mono ?_; rintro e w' ⟨rfl, hww⟩; rw [hww]; clear hww w') | (go_at_call 54; refine (isDigit_is (nx s k) false hc qd'.out _).mono ?_; rintro e w' ⟨rfl, hww⟩; rw [hww]; clear hww w'))
        go_region_law (go_simp; go_at_call 143; refine (add_any xb s x 15 k (s.extract x.pos k) _ (LxAt.drew hy3) hn).mono ?_; rintro e w' ⟨rfl, hl, hb'⟩)
        all_goals (go_wp2; go_end0; exact ⟨rfl, by rw [hd'.out]; exact hl, hb3.trans ((Below.refl xb w3).drew.trans hb')⟩)

set_option maxHeartbeats 2000000 in
set_option maxRecDepth 100000 in
theorem token_minus (xb : Nat) (s : ByteArray) (x : Lx) (w : World) (hx : LxAt w xb s x) (hs : s.size ≤ 1099511627776) (hp : x.pos < s.size) (hn : x.out.length ≤ 1099511627776) (hb : ¬ (nx s x.pos = 32 ∨ nx s x.pos = 9 ∨ nx s x.pos = 10 ∨ nx s x.pos = 13 ∨ nx s x.pos = 44)) (hq : st s x.pos ⟨#[239, 187, 191]⟩ = false) (h35 : nx s x.pos ≠ 35) (hq2 : st s x.pos ⟨#[46, 46, 46]⟩ = false) (hs0 : sgn (nx s x.pos) = 0) (hbg : isBg (nx s x.pos) = false) (hc : nx s x.pos = 45) :
    Calls Tryz.prog 127 #[.pointer (some ⟨xb, 0, none⟩)] w fun e w' => e = .returned (.tuple #[]) ∧ LxAt w' xb s (lxNumber s x) ∧ Below xb w w' := by
  have n32 : ((nx s x.pos : Int) == 32) = false := by simp; omega
  have n9 : ((nx s x.pos : Int) == 9) = false := by simp; omega
  have n10 : ((nx s x.pos : Int) == 10) = false := by simp; omega
  have n13 : ((nx s x.pos : Int) == 13) = false := by simp; omega
  have n44 : ((nx s x.pos : Int) == 44) = false := by simp; omega
  have n35 : ((nx s x.pos : Int) == 35) = false := by simp; omega
  clear hb
  obtain ⟨ov, h1, h2, c0, c1, c3, c4, f1, f3, f4⟩ := hx.facts
  have z1 : (0 : Int) ≤ (x.pos : Int) := by omega
  have z2 : (x.pos : Int) < (s.size : Int) := by omega
  have z3 : s[x.pos].toNat = nx s x.pos := nx_at hp
  go_enter Tryz.func127, Tryz.ntmps127
  go_upto_region 0 with fail
  go_quiet (fail)
  have hy1 : LxAt (w.drewN nq) xb s x := hx.drewN _
  have hb1 := below_drewN (Below.refl xb w) nq
  clear h1 h2 c0 c1 c3 c4 f1 f3 f4 hx
  generalize w.drewN nq = w1 at *
  obtain ⟨ov, h1, h2, c0, c1, c3, c4, f1, f3, f4⟩ := hy1.facts
  go_upto_region 4 with fail
  have hst := fun W => starts_any s ⟨#[239, 187, 191]⟩ x.pos W hs (by omega) (by decide)
  rw [hq] at hst
  go_quiet ((go_at_call 57; exact Calls.quiet_of_same (hst _)))
  have hy2 : LxAt (w1.drewN nq) xb s x := hy1.drewN _
  have hb2 := below_drewN hb1 nq
  clear h1 h2 c0 c1 c3 c4 f1 f3 f4 hy1 hb1
  generalize w1.drewN nq = w2 at *
  obtain ⟨ov, h1, h2, c0, c1, c3, c4, f1, f3, f4⟩ := hy2.facts
  go_upto_region 9 with fail
  have hst2 := fun W => starts_any s ⟨#[46, 46, 46]⟩ x.pos W hs (by omega) (by decide)
  rw [hq2] at hst2
  go_quiet ((go_at_call 57; exact Calls.quiet_of_same (hst2 _)))
  have hy3 : LxAt (w2.drewN nq) xb s x := hy2.drewN _
  have hb3 := below_drewN hb2 nq
  clear h1 h2 c0 c1 c3 c4 f1 f3 f4 hy2 hb2
  generalize w2.drewN nq = w3 at *
  obtain ⟨ov, h1, h2, c0, c1, c3, c4, f1, f3, f4⟩ := hy3.facts
  have hsg : ∀ W, Calls Tryz.prog 144 #[.int .u8 45] W fun e w' => e = .returned (.int .i64 0) ∧ w' = W := fun W => sign_zero 45 (by decide) (by decide) W
  have hbgc : ∀ W, Calls Tryz.prog 53 #[.int .u8 45] W fun e w' => e = .returned (.bool false) ∧ w' = W := fun W => isBegin_is 45 false (by decide) (by decide) W
  go_wp2_with (first | (go_at_call 144; refine (hsg _).mono ?_; rintro e w' ⟨rfl, hww⟩; rw [hww]; clear hww w') | (go_at_call 53; refine (hbgc _).mono ?_; rintro e w' ⟨rfl, hww⟩; rw [hww]; clear hww w') | (go_at_call 146; refine (number_any xb s x _ hy3 hn hs (by omega)).mono ?_; rintro e w' ⟨rfl, hl, hb'⟩))
  go_returns
  exact ⟨rfl, hl, hb3.trans hb'⟩

set_option maxHeartbeats 2000000 in
set_option maxRecDepth 100000 in
theorem token_digit (xb : Nat) (s : ByteArray) (x : Lx) (w : World) (hx : LxAt w xb s x) (hs : s.size ≤ 1099511627776) (hp : x.pos < s.size) (hn : x.out.length ≤ 1099511627776) (hb : ¬ (nx s x.pos = 32 ∨ nx s x.pos = 9 ∨ nx s x.pos = 10 ∨ nx s x.pos = 13 ∨ nx s x.pos = 44)) (hq : st s x.pos ⟨#[239, 187, 191]⟩ = false) (h35 : nx s x.pos ≠ 35) (hq2 : st s x.pos ⟨#[46, 46, 46]⟩ = false) (hs0 : sgn (nx s x.pos) = 0) (hbg : isBg (nx s x.pos) = false) (h45 : nx s x.pos ≠ 45) (hdg : isDg (nx s x.pos) = true) :
    Calls Tryz.prog 127 #[.pointer (some ⟨xb, 0, none⟩)] w fun e w' => e = .returned (.tuple #[]) ∧ LxAt w' xb s (lxNumber s x) ∧ Below xb w w' := by
  have n32 : ((nx s x.pos : Int) == 32) = false := by simp; omega
  have n9 : ((nx s x.pos : Int) == 9) = false := by simp; omega
  have n10 : ((nx s x.pos : Int) == 10) = false := by simp; omega
  have n13 : ((nx s x.pos : Int) == 13) = false := by simp; omega
  have n44 : ((nx s x.pos : Int) == 44) = false := by simp; omega
  have n35 : ((nx s x.pos : Int) == 35) = false := by simp; omega
  have n45 : ((nx s x.pos : Int) == 45) = false := by simp; omega
  clear hb
  obtain ⟨ov, h1, h2, c0, c1, c3, c4, f1, f3, f4⟩ := hx.facts
  have z1 : (0 : Int) ≤ (x.pos : Int) := by omega
  have z2 : (x.pos : Int) < (s.size : Int) := by omega
  have z3 : s[x.pos].toNat = nx s x.pos := nx_at hp
  go_enter Tryz.func127, Tryz.ntmps127
  go_upto_region 0 with fail
  go_quiet (fail)
  have hy1 : LxAt (w.drewN nq) xb s x := hx.drewN _
  have hb1 := below_drewN (Below.refl xb w) nq
  clear h1 h2 c0 c1 c3 c4 f1 f3 f4 hx
  generalize w.drewN nq = w1 at *
  obtain ⟨ov, h1, h2, c0, c1, c3, c4, f1, f3, f4⟩ := hy1.facts
  go_upto_region 4 with fail
  have hst := fun W => starts_any s ⟨#[239, 187, 191]⟩ x.pos W hs (by omega) (by decide)
  rw [hq] at hst
  go_quiet ((go_at_call 57; exact Calls.quiet_of_same (hst _)))
  have hy2 : LxAt (w1.drewN nq) xb s x := hy1.drewN _
  have hb2 := below_drewN hb1 nq
  clear h1 h2 c0 c1 c3 c4 f1 f3 f4 hy1 hb1
  generalize w1.drewN nq = w2 at *
  obtain ⟨ov, h1, h2, c0, c1, c3, c4, f1, f3, f4⟩ := hy2.facts
  go_upto_region 9 with fail
  have hst2 := fun W => starts_any s ⟨#[46, 46, 46]⟩ x.pos W hs (by omega) (by decide)
  rw [hq2] at hst2
  go_quiet ((go_at_call 57; exact Calls.quiet_of_same (hst2 _)))
  have hy3 : LxAt (w2.drewN nq) xb s x := hy2.drewN _
  have hb3 := below_drewN hb2 nq
  clear h1 h2 c0 c1 c3 c4 f1 f3 f4 hy2 hb2
  generalize w2.drewN nq = w3 at *
  obtain ⟨ov, h1, h2, c0, c1, c3, c4, f1, f3, f4⟩ := hy3.facts
  go_wp2_with (first | (go_at_call 144; refine (sign_zero (nx s x.pos) (nx_lt _ _) hs0 _).mono ?_; rintro e w' ⟨rfl, hww⟩; rw [hww]; clear hww w') | (go_at_call 53; refine (isBegin_is (nx s x.pos) false (nx_lt _ _) hbg _).mono ?_; rintro e w' ⟨rfl, hww⟩; rw [hww]; clear hww w') | (go_at_call 54; refine (isDigit_is (nx s x.pos) true (nx_lt _ _) hdg _).mono ?_; rintro e w' ⟨rfl, hww⟩; rw [hww]; clear hww w') | (go_at_call 146; refine (number_any xb s x _ hy3 hn hs (by omega)).mono ?_; rintro e w' ⟨rfl, hl, hb'⟩))
  go_returns
  exact ⟨rfl, hl, hb3.trans hb'⟩

end

end Go.Proofs.YtigpnidffiaigaaGreat
