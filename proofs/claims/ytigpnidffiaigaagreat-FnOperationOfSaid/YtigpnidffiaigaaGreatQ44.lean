/- Walks: the whole lexer; numbers. Walks: whether a text is a number. Walks: names and texts of nodes. Walks: texts of block strings. -/
import Derived.Test.YtigpnidffiaigaaGreatProg
import Derived.BigRegion
import Derived.Test.YtigpnidffiaigaaGreatQ03
import Derived.Test.YtigpnidffiaigaaGreatQ12
import Derived.Test.YtigpnidffiaigaaGreatQ13
import Derived.Test.YtigpnidffiaigaaGreatQ43
set_option linter.unusedVariables false
set_option linter.unusedSimpArgs false
namespace Go.Proofs.YtigpnidffiaigaaGreat

section
open Go.RowKit

def lx0 : Lx := ⟨0, [], false, false⟩
/-- what the lexer comes to -/
def lxEnd (s : ByteArray) : Lx := lxRun s (s.size + 2) lx0
theorem lxRun_stop {s : ByteArray} {y : Lx} (h : y.bad = true ∨ s.size ≤ y.pos) (m : Nat) : lxRun s m y = y := by
  cases m with
  | zero => rfl
  | succ m =>
    show (if y.bad = false ∧ y.pos < s.size then lxRun s m (lxToken s y) else y) = y
    rw [if_neg]
    rintro ⟨h1, h2⟩
    rcases h with h | h
    · rw [h] at h1; cases h1
    · omega
theorem lxRun_step {s : ByteArray} {y : Lx} (h : y.bad = false) (h2 : y.pos < s.size) (m : Nat) : lxRun s (m + 1) y = lxRun s m (lxToken s y) := if_pos ⟨h, h2⟩

def lxM (s : ByteArray) (y : Lx) : Nat := 2 * (s.size - y.pos) + (if y.bad = true then 0 else 1)
theorem lxM_step {s : ByteArray} {y y' : Lx} (hb : y.bad = false) (h1 : y.pos ≤ y'.pos) (h2 : y'.pos ≤ s.size) (h3 : y'.bad = true ∨ y.pos < y'.pos) : lxM s y' < lxM s y := by
  unfold lxM
  rw [hb]
  rcases h3 with h3 | h3
  · rw [h3]; simp; omega
  · split <;> simp <;> omega

def LexRel (w : World) (xb : Nat) (s : ByteArray) (g : Nat) (wr : World) : Prop :=
  ∃ (y : Lx) (m : Nat), LxAt wr xb s y ∧ Below xb w wr ∧ y.pos ≤ s.size ∧ y.out.length ≤ y.pos ∧ (y.bad = true ∨ s.size - y.pos < m) ∧ Hid (lxEnd s = lxRun s m y) ∧ g = lxM s y
def LexedPost (s : ByteArray) (w : World) (e : Ending) (w' : World) : Prop :=
  ∃ ov, e = .returned (.tuple #[ov, .bool (!(lxEnd s).bad), .bool (!(lxEnd s).unsure)]) ∧ w'.ownsRow (w.heap.size + 1) 140 4 ov (lxEnd s).out.length (toksC (lxEnd s).out) ∧ (lxEnd s).out.length ≤ s.size ∧ Below w.heap.size w w'

attribute [local go_sem ↓] Go.wp_at_zero Go.wp_at_succ
set_option maxHeartbeats 2000000 in
set_option maxRecDepth 100000 in
theorem lexed_any (s : ByteArray) (w : World) (hs : s.size ≤ 1099511627776) :
    Calls Tryz.prog 95 #[.string s] w (LexedPost s w) := by
  go_enter Tryz.func95, Tryz.ntmps95
  go_wp2_with fail
  have hx0 : LxAt (w.alloc (.cells (lxCells s lx0 (.slice none 0 0)) 324 (0, 0))) w.heap.size s lx0 := ⟨_, obj_alloc _ _, World.ownsRow_nil _ _ _ _⟩
  have hb0 : Below w.heap.size w (w.alloc (.cells (lxCells s lx0 (.slice none 0 0)) 324 (0, 0))) := (Below.refl _ _).alloc (Nat.le_refl _) _
  go_loopg [] (lxM s lx0) (fun g wr => LexRel w w.heap.size s g wr)
  case atStart => unfold LexRel; exact ⟨lx0, s.size + 2, hx0, hb0, Nat.zero_le _, Nat.le_refl _, .inr (by show s.size - 0 < s.size + 2; omega), rfl, rfl⟩
  case round =>
    unfold LexRel at hrel
    obtain ⟨y, m, hy, hb, hp, ho, hm, hd, rfl⟩ := hrel
    clear hx0 hb0
    obtain ⟨ov, h1, h2, c0, c1, c3, c4, f1, f3, f4⟩ := hy.facts
    cases hbad : y.bad with
    | true =>
      have hf : Hid (lxEnd s = y) := hd.out.trans (lxRun_stop (.inl hbad) _)
      rw [hbad] at c3
      have c2 : wr.cell? ⟨w.heap.size, 2, none⟩ = some ov := cell_of h1 rfl
      have HB : Hid (y.bad = true) := hbad
      clear hbad hm hd
      go_upto_region 4 with fail
      go_quiet (fail)
      go_wp2_with fail
      go_ret3
      unfold LexedPost
      rw [hf.out]
      exact ⟨ov, by rw [HB.out]; rfl, h2, by omega, below_drewN hb _⟩
    | false =>
      rw [hbad] at c3
      have HB : Hid (y.bad = false) := hbad
      by_cases hlt : y.pos < s.size
      · have z1 : (y.pos : Int) < (s.size : Int) := by omega
        obtain ⟨m, rfl⟩ : ∃ m', m = m' + 1 := ⟨m - 1, by rcases hm with hm | hm; rw [hbad] at hm; cases hm; omega⟩
        have hd' : Hid (lxEnd s = lxRun s m (lxToken s y)) := hd.out.trans (lxRun_step hbad hlt m)
        have hmv := lxToken_moved s y hlt
        have hm' : s.size - y.pos < m + 1 := by rcases hm with hm | hm; rw [hbad] at hm; cases hm; omega
        have HT : Hid (∀ W, LxAt W w.heap.size s y → Calls Tryz.prog 127 #[.pointer (some ⟨w.heap.size, 0, none⟩)] W fun e w' => e = .returned (.tuple #[]) ∧ LxAt w' w.heap.size s (lxToken s y) ∧ Below w.heap.size W w') := fun W h => token_any _ s y W h hs hlt (by omega)
        clear hbad hm hd
        generalize lxToken s y = y' at *
        obtain ⟨v1, v2, v3, v4⟩ := hmv
        go_wp2_with fail
        refine (HT.out _ hy).mono ?_
        rintro e w2 ⟨rfl, hl, hb'⟩
        go_wp2_with fail
        have HM : Hid (lxM s y' < lxM s y) := lxM_step HB.out v1 v2 v4
        go_roundg (lxM s y')
        case measure => exact HM.out
        case rel =>
          unfold LexRel
          exact ⟨y', m, hl, hb.trans hb', v2, by omega, by rcases v4 with v4 | v4; exact .inl v4; exact .inr (by omega), hd', rfl⟩
      · have z1 : ¬ ((y.pos : Int) < (s.size : Int)) := by omega
        have hf : Hid (lxEnd s = y) := hd.out.trans (lxRun_stop (.inr (by omega)) _)
        have c2 : wr.cell? ⟨w.heap.size, 2, none⟩ = some ov := cell_of h1 rfl
        clear hbad hm hd
        go_upto_region 4 with fail
        go_quiet (fail)
        go_wp2_with fail
        go_ret3
        unfold LexedPost
        rw [hf.out]
        exact ⟨ov, by rw [HB.out]; rfl, h2, by omega, below_drewN hb _⟩

def LexP (y : Lx) (n : Nat) (w : World) (e : Ending) (w' : World) : Prop :=
  ∃ ov l, e = .returned (.tuple #[ov, .bool (!y.bad), .bool (!y.unsure)]) ∧ l = (if y.bad = true then [] else y.out) ∧ w'.ownsRow (w.heap.size + 1) 140 4 ov l.length (toksC l) ∧ l.length ≤ n ∧ Below w.heap.size w w'
def LexPost (s : ByteArray) (w : World) (e : Ending) (w' : World) : Prop := LexP (lxEnd s) s.size w e w'
theorem lexP_bad {y : Lx} {n : Nat} {w w' : World} (hb : y.bad = true) (h3 : Below w.heap.size w w') : LexP y n w (.returned (.tuple #[.slice none 0 0, .bool false, .bool (!y.unsure)])) w' :=
  ⟨_, [], by rw [hb]; rfl, by rw [hb]; rfl, World.ownsRow_nil _ _ _ _, Nat.zero_le _, h3⟩
theorem lexP_good {y : Lx} {n : Nat} {w w' : World} {ov : Value} (hb : y.bad = false) (h1 : w'.ownsRow (w.heap.size + 1) 140 4 ov y.out.length (toksC y.out)) (h2 : y.out.length ≤ n) (h3 : Below w.heap.size w w') : LexP y n w (.returned (.tuple #[ov, .bool true, .bool (!y.unsure)])) w' :=
  ⟨_, y.out, by rw [hb]; rfl, by rw [hb]; rfl, h1, h2, h3⟩

theorem lex_any (s : ByteArray) (w : World) (hs : s.size ≤ 1099511627776) : Calls Tryz.prog 55 #[.string s] w (LexPost s w) := by
  have HL : Hid (Calls Tryz.prog 95 #[.string s] w (LexedPost s w)) := lexed_any s w hs
  show Calls Tryz.prog 55 #[.string s] w (LexP (lxEnd s) s.size w)
  unfold LexedPost at HL
  generalize lxEnd s = y at *
  cases hb : y.bad with
  | true =>
    have HB : Hid (y.bad = true) := hb
    rw [hb] at HL
    clear hb
    go_enter Tryz.func55, Tryz.ntmps55
    go_wp2_with fail
    refine HL.out.mono ?_
    rintro e w1 ⟨ov, rfl, h1, h2, h3⟩
    have H3 : Hid (Below w.heap.size w w1) := h3
    clear h1 h2 h3 HL
    go_wp2_with fail
    go_ret3
    exact lexP_bad HB.out H3.out
  | false =>
    have HB : Hid (y.bad = false) := hb
    rw [hb] at HL
    clear hb
    go_enter Tryz.func55, Tryz.ntmps55
    go_wp2_with fail
    refine HL.out.mono ?_
    rintro e w1 ⟨ov, rfl, h1, h2, h3⟩
    have H3 : Hid (Below w.heap.size w w1) := h3
    have H1 : Hid (w1.ownsRow (w.heap.size + 1) 140 4 ov y.out.length (toksC y.out)) := h1
    have H2 : Hid (y.out.length ≤ s.size) := h2
    clear h1 h2 h3 HL
    go_wp2_with fail
    go_ret3
    exact lexP_good HB.out H1.out H2.out H3.out

end

section
open Go.RowKit

theorem addr_add (g i : Nat) : (⟨g, 0, none⟩ : Addr).add i = ⟨g, i, none⟩ := by unfold Addr.add; split <;> simp_all

set_option maxRecDepth 100000 in
set_option maxHeartbeats 1000000 in
theorem isNumber_any (s : ByteArray) (c : Int) (w : World) (hs : s.size ≤ 1099511627776) : Calls Tryz.prog 30 #[.string s, .int .i64 c] w (SomeB w) := by
  have HL : Hid (Calls Tryz.prog 55 #[.string s] w (LexPost s w)) := lex_any s w hs
  unfold LexPost LexP at HL
  generalize lxEnd s = y at *
  go_enter Tryz.func30, Tryz.ntmps30
  go_wp2_with fail
  refine HL.out.mono ?_
  rintro e w1 ⟨ov, l, rfl, hl, h1, h2, h3⟩
  have H3 : Hid (Below w.heap.size w w1) := h3
  clear hl h3 HL
  rcases h1.2 with ⟨rfl, h0⟩ | ⟨g, cap, cur, rfl, hb, hh, k1, k2, k3, k4⟩
  · rw [h0] at *
    clear h1
    go_wp2_with fail
    all_goals (go_ret; exact ⟨_, rfl, Sm.of_below H3.out⟩)
  · by_cases h11 : l.length = 1
    · obtain ⟨t, rfl⟩ : ∃ t, l = [t] := by
        match l, h11 with
        | [t], _ => exact ⟨t, rfl⟩
      have d0 := h1.cells (g := g) rfl 0 (.int .i64 t.kind) (by simp [toksC, tokC])
      have d1 := h1.cells (g := g) rfl 1 (.string t.val) (by simp [toksC, tokC])
      rw [addr_add] at d0 d1
      clear h1 h11 k4 k3 hh
      simp only [List.length_cons, List.length_nil, Nat.zero_add] at *
      go_wp2_with fail
      all_goals (go_ret; exact ⟨_, rfl, Sm.of_below H3.out⟩)
    · have e1 : ((l.length : Int) == 1) = false := by simp; omega
      clear h1 k4 k3 hh h11
      go_wp2_with fail
      all_goals (go_ret; exact ⟨_, rfl, Sm.of_below H3.out⟩)

end

section
open Go.RowKit

theorem isBegin_as (c : Nat) (b : Bool) (hc : c < 256) (h : isBg c = b) (w : World) : Calls Tryz.prog 53 #[.int .u8 (c : Int)] w fun e w' => e = .returned (.bool b) ∧ w' = w := by
  have := isBegin_any c hc w
  rw [h] at this
  exact this
theorem isDigit_as (c : Nat) (b : Bool) (hc : c < 256) (h : isDg c = b) (w : World) : Calls Tryz.prog 54 #[.int .u8 (c : Int)] w fun e w' => e = .returned (.bool b) ∧ w' = w := by
  have := isDigit_any c hc w
  rw [h] at this
  exact this

def NamePost (s : ByteArray) (w : World) (e : Ending) (w' : World) : Prop := ∃ b, e = .returned (.bool b) ∧ w' = w ∧ (b = true → s ≠ ByteArray.empty)
def SameB (w : World) (e : Ending) (w' : World) : Prop := ∃ b, e = .returned (.bool b) ∧ w' = w

set_option maxRecDepth 100000 in
set_option maxHeartbeats 1000000 in
theorem isName_any (s : ByteArray) (w : World) (hs : s.size ≤ 1099511627776) : Calls Tryz.prog 29 #[.string s] w (NamePost s w) := by
  by_cases he : s = ByteArray.empty
  · subst he
    have hz : ByteArray.empty.size = 0 := rfl
    go_enter Tryz.func29, Tryz.ntmps29
    go_wp2_with fail
    go_loop [3] (fun v => v = .int .i64 0) (fun v => 0)
    case atStart => rfl
    case round =>
      subst hrel
      go_wp2_with fail
      go_ret
      exact ⟨false, rfl, rfl, fun h => by cases h⟩
  have HE : Hid (s ≠ ByteArray.empty) := he
  clear he
  go_enter Tryz.func29, Tryz.ntmps29
  go_wp2_with fail
  go_loop [3] (fun v => ∃ k : Nat, k ≤ s.size ∧ v = .int .i64 (k : Int)) (fun v => s.size - (intOf v).toNat)
  case atStart => exact ⟨0, by omega, rfl⟩
  case round =>
    obtain ⟨k, hk, rfl⟩ := hrel
    have z3 : (0 : Int) ≤ (k : Int) := by omega
    by_cases hlt : k < s.size
    · have z4 : (k : Int) < (s.size : Int) := by omega
      have z5 : s[k].toNat = nx s k := nx_at hlt
      have hc := nx_lt s k
      cases qb : isBg (nx s k) with
      | true =>
        have HB := fun W => isBegin_as (nx s k) true hc qb W
        clear qb
        go_wp2_with (go_at_call 53; refine (HB _).mono ?_; rintro e w' ⟨rfl, hww⟩; rw [hww]; clear hww w')
        go_round
        case rel => exact ⟨k + 1, by omega, by go_num⟩
        case measure => simp [intOf]; omega
      | false =>
        have HB := fun W => isBegin_as (nx s k) false hc qb W
        clear qb
        by_cases hk0 : k = 0
        · subst hk0
          go_wp2_with (go_at_call 53; refine (HB _).mono ?_; rintro e w' ⟨rfl, hww⟩; rw [hww]; clear hww w')
          go_ret
          exact ⟨_, rfl, rfl, fun _ => HE.out⟩
        · have e0 : ((k : Int) == 0) = false := by simp; omega
          clear hk0
          cases qd : isDg (nx s k) with
          | true =>
            have HDg := fun W => isDigit_as (nx s k) true hc qd W
            clear qd
            go_wp2_with (first | (go_at_call 53; refine (HB _).mono ?_; rintro e w' ⟨rfl, hww⟩; rw [hww]; clear hww w') | (go_at_call 54; refine (HDg _).mono ?_; rintro e w' ⟨rfl, hww⟩; rw [hww]; clear hww w'))
            go_round
            case rel => exact ⟨k + 1, by omega, by go_num⟩
            case measure => simp [intOf]; omega
          | false =>
            have HDg := fun W => isDigit_as (nx s k) false hc qd W
            clear qd
            go_wp2_with (first | (go_at_call 53; refine (HB _).mono ?_; rintro e w' ⟨rfl, hww⟩; rw [hww]; clear hww w') | (go_at_call 54; refine (HDg _).mono ?_; rintro e w' ⟨rfl, hww⟩; rw [hww]; clear hww w'))
            go_ret
            exact ⟨_, rfl, rfl, fun _ => HE.out⟩
    · have z4 : ¬ ((k : Int) < (s.size : Int)) := by omega
      go_wp2_with fail
      go_ret
      exact ⟨_, rfl, rfl, fun _ => HE.out⟩

set_option maxHeartbeats 1000000 in
theorem textable_any (s : ByteArray) (w : World) (hs : s.size ≤ 1099511627776) : Calls Tryz.prog 31 #[.string s] w (SameB w) := by
  go_enter Tryz.func31, Tryz.ntmps31
  go_wp2_with fail
  go_loop [3, 4, 5] (fun v _ _ => ∃ k : Nat, k ≤ s.size ∧ v = .int .i64 (k : Int)) (fun v _ _ => s.size - (intOf v).toNat)
  case atStart => exact ⟨0, by omega, rfl⟩
  case round =>
    obtain ⟨k, hk, rfl⟩ := hrel
    have z3 : (0 : Int) ≤ (k : Int) := by omega
    by_cases hlt : k < s.size
    · have z4 : (k : Int) < (s.size : Int) := by omega
      have HP := fun W => point_any s k W hs hlt
      have hok := pt_ok s k
      generalize pt s k = p at *
      obtain ⟨c, n⟩ := p
      dsimp only at *
      by_cases q1 : n = 0
      · subst q1
        clear hok
        go_wp2_with (go_at_call 56; refine (HP _).mono ?_; rintro e w' ⟨rfl, hww⟩; rw [hww]; clear hww w')
        all_goals go_ret
        all_goals exact ⟨_, rfl, rfl⟩
      · obtain ⟨k1, k2, k3, k4⟩ := hok q1 hlt
        have e1 : ((n : Int) == 0) = false := by simp; omega
        clear hok
        go_wp2_with (go_at_call 56; refine (HP _).mono ?_; rintro e w' ⟨rfl, hww⟩; rw [hww]; clear hww w')
        all_goals first
          | (go_ret; exact ⟨_, rfl, rfl⟩)
          | (go_round
             case rel => exact ⟨k + n, by omega, by go_num⟩
             case measure => simp [intOf]; omega)
    · have z4 : ¬ ((k : Int) < (s.size : Int)) := by omega
      go_wp2_with fail
      go_ret
      exact ⟨_, rfl, rfl⟩

end

section
open Go.RowKit

set_option maxRecDepth 100000 in
set_option maxHeartbeats 4000000 in
theorem blockable_any (s : ByteArray) (w : World) (hs : s.size ≤ 2147483647) : Calls Tryz.prog 32 #[.string s] w (SomeB w) := by
  go_enter Tryz.func32, Tryz.ntmps32
  go_wp2_with fail
  go_loop [3, 4, 5] (fun v _ _ => ∃ k : Nat, k ≤ s.size ∧ v = .int .i64 (k : Int)) (fun v _ _ => s.size - (intOf v).toNat)
  case atStart => exact ⟨0, by omega, rfl⟩
  case round =>
    obtain ⟨k, hk, rfl⟩ := hrel
    have z3 : (0 : Int) ≤ (k : Int) := by omega
    by_cases hlt : k < s.size
    · have z4 : (k : Int) < (s.size : Int) := by omega
      have HP := fun W => point_any s k W (by omega) hlt
      have hok := pt_ok s k
      generalize pt s k = p at *
      obtain ⟨c, n⟩ := p
      dsimp only at *
      by_cases q1 : n = 0
      · subst q1
        clear hok
        go_wp2_with (go_at_call 56; refine (HP _).mono ?_; rintro e w' ⟨rfl, hww⟩; rw [hww]; clear hww w')
        all_goals go_ret
        all_goals exact ⟨_, rfl, Sm.refl _ _⟩
      · obtain ⟨k1, k2, k3, k4⟩ := hok q1 hlt
        have e1 : ((n : Int) == 0) = false := by simp; omega
        have HS := fun W => starts_any s ⟨#[34, 34, 34]⟩ k W (by omega) (by omega) (by decide)
        have q1' : 1 ≤ n := by omega
        clear hok q1
        cases hq : st s k ⟨#[34, 34, 34]⟩ with
        | true =>
          rw [hq] at HS
          clear hq
          go_wp2_with (first | (go_at_call 56; refine (HP _).mono ?_; rintro e w' ⟨rfl, hww⟩; rw [hww]; clear hww w') | (go_at_call 57; refine (HS _).mono ?_; rintro e w' ⟨rfl, hww⟩; rw [hww]; clear hww w'))
          all_goals (go_ret; exact ⟨_, rfl, Sm.refl _ _⟩)
        | false =>
          rw [hq] at HS
          clear hq
          go_wp2_with (first | (go_at_call 56; refine (HP _).mono ?_; rintro e w' ⟨rfl, hww⟩; rw [hww]; clear hww w') | (go_at_call 57; refine (HS _).mono ?_; rintro e w' ⟨rfl, hww⟩; rw [hww]; clear hww w'))
          all_goals first
            | (go_ret; exact ⟨_, rfl, Sm.refl _ _⟩)
            | (go_round
               case rel => exact ⟨k + n, by omega, by go_num⟩
               case measure => simp [intOf]; omega)
    · have z4 : ¬ ((k : Int) < (s.size : Int)) := by omega
      have m1 : (⟨#[10]⟩ : ByteArray).size + s.size ≤ maxLen := by show 1 + s.size ≤ maxLen; unfold maxLen; omega
      have m2 : ((⟨#[10]⟩ : ByteArray) ++ s).size + (⟨#[10]⟩ : ByteArray).size ≤ maxLen := by rw [ByteArray.size_append]; show 1 + s.size + 1 ≤ maxLen; unfold maxLen; omega
      have m3 : ((⟨#[10]⟩ : ByteArray) ++ s ++ (⟨#[10]⟩ : ByteArray)).size ≤ 1099511627776 := by rw [ByteArray.size_append, ByteArray.size_append]; show 1 + s.size + 1 ≤ 1099511627776; omega
      go_wp2_with fail
      refine (blockValue_any _ _ m3).mono ?_
      rintro e w1 ⟨rfl, hs1⟩
      generalize blockV _ = bv at *
      go_wp2_with fail
      all_goals first
        | (go_ret; exact ⟨_, rfl, hs1⟩)
        | (refine (plainBlock_any _ _ m3).mono ?_
           rintro e w2 ⟨rfl, hs2⟩
           go_wp2_with fail
           go_ret
           exact ⟨_, rfl, hs1.trans hs2⟩)

end

end Go.Proofs.YtigpnidffiaigaaGreat
