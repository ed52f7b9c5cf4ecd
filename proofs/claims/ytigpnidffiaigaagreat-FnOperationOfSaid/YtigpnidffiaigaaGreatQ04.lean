/- Walks: source, numeral. Walks: the lexer's state; add, fail, number. Walks: number. -/
import Derived.Test.YtigpnidffiaigaaGreatProg
import Derived.Laws.Cover4
import Derived.Deep.Cut
import Derived.BigRegion
import Derived.Deep.RegionLaw
import Derived.Test.YtigpnidffiaigaaGreatQ03
set_option linter.unusedVariables false
set_option linter.unusedSimpArgs false
namespace Go.Proofs.YtigpnidffiaigaaGreat

section
open Go.RowKit

theorem ret_two {a b c d : Value} (h : a = c) (k : b = d) : Ending.returned (.tuple #[a, b]) = .returned (.tuple #[c, d]) := by rw [h, k]

/-- whether a code point may stand in a text -/
def srcB (c : Int) : Bool := decide (c = 9 ∨ c = 10 ∨ c = 13 ∨ 32 ≤ c)
/-- whether that is sure -/
def srcS (c : Int) : Bool := decide (c ≤ 65535)

set_option maxHeartbeats 400000 in
theorem source_any (c : Int) (w : World) : Calls Tryz.prog 156 #[.int .i64 c] w fun e w' => e = .returned (.tuple #[.bool (srcB c), .bool (srcS c)]) ∧ w' = w := by
  by_cases h1 : c = 9
  · subst h1
    go_enter Tryz.func156, Tryz.ntmps156
    go_wp2
    go_ret2
    exact ⟨rfl, rfl⟩
  by_cases h2 : c = 10
  · subst h2
    go_enter Tryz.func156, Tryz.ntmps156
    go_wp2
    go_ret2
    exact ⟨rfl, rfl⟩
  by_cases h3 : c = 13
  · subst h3
    go_enter Tryz.func156, Tryz.ntmps156
    go_wp2
    go_ret2
    exact ⟨rfl, rfl⟩
  have e1 : (c == 9) = false := by simpa using h1
  have e2 : (c == 10) = false := by simpa using h2
  have e3 : (c == 13) = false := by simpa using h3
  go_enter Tryz.func156, Tryz.ntmps156
  go_wp2
  go_ret2
  refine ⟨ret_two ?_ ?_, rfl⟩
  · simp [srcB, h1, h2, h3]
  · simp [srcS]

theorem conv_one (n : Int) (w : World) : (convert 431 9 (.slice (some ⟨w.heap.size, 0, none⟩) 1 1)).run Tryz.prog (w.alloc (.cells #[.int .i32 n] 21)) = .ok (.string (Utf8.encode n)) (w.alloc (.cells #[.int .i32 n] 21)) := by
  rw [run_convert_runes (w.alloc (.cells #[.int .i32 n] 21)) 431 9 21 ⟨w.heap.size, 0, none⟩ 1 1 [n] (by simp) Tryz.underlying431 Tryz.underlying21 Tryz.underlying9]
  · simp [runesBytes]
  · intro j hj
    have hj' : j = 0 := by simpa using hj
    subst hj'
    exact cell_of (obj_alloc w _) rfl
set_option maxHeartbeats 400000 in
theorem Encoded_any (c : Int) (w : World) (h0 : 0 ≤ c) (h1 : c ≤ 1114111) : Calls Tryz.prog 174 #[.int .i64 c] w fun e w' => e = .returned (.string (Utf8.encode c)) ∧ Sm [] w w' := by
  have hc := fun n => conv_one n w
  go_enter Tryz.func174, Tryz.ntmps174
  go_wp2
  go_ret
  exact ⟨rfl, (Sm.refl _ _).alloc _⟩

/-- the kind of the number at a place, and where it ends -/
def numExp (s : ByteArray) (k : Nat) (t : Nat) : Nat × Nat :=
  if nx s t = 101 ∨ nx s t = 69 then
    (if digs s (if nx s (t + 1) = 43 ∨ nx s (t + 1) = 45 then t + 1 + 1 else t + 1) = (if nx s (t + 1) = 43 ∨ nx s (t + 1) = 45 then t + 1 + 1 else t + 1) then (0, 0) else
      (17, digs s (if nx s (t + 1) = 43 ∨ nx s (t + 1) = 45 then t + 1 + 1 else t + 1)))
  else (k, t)
def numDot (s : ByteArray) (t : Nat) : Nat × Nat :=
  if nx s t = 46 ∧ digs s (t + 1) = t + 1 then (0, 0) else numExp s (if nx s t = 46 then 17 else 16) (if nx s t = 46 then digs s (t + 1) else t)
def numAbs (s : ByteArray) (a : Nat) : Nat × Nat :=
  if digs s a = a ∨ (nx s a = 48 ∧ a + 1 < digs s a) then (0, 0) else numDot s (digs s a)
def numr (s : ByteArray) (at' : Nat) : Nat × Nat := numAbs s (if nx s at' = 45 then at' + 1 else at')

theorem digs_le (s : ByteArray) (i : Nat) : i ≤ digs s i := by
  fun_induction digs s i with
  | case1 i h ih => omega
  | case2 i h => exact Nat.le_refl _
theorem digs_max (s : ByteArray) (i : Nat) : digs s i ≤ max i s.size := by
  fun_induction digs s i with
  | case1 i h ih =>
    have : i < s.size := nx_pos (by unfold isDg at h; simp at h; omega)
    omega
  | case2 i h => omega
theorem digs_ne {s : ByteArray} {i : Nat} (h : digs s i ≠ i) : i < s.size := by
  have := digs_le s i
  have := digs_max s i
  omega

theorem nz0 (k : Nat) : (k : Int) = ((k : Nat) : Int) := rfl
theorem nz1 (k : Nat) : (k : Int) + 1 = ((k + 1 : Nat) : Int) := rfl
theorem nz2 (k : Nat) : (k : Int) + 2 = ((k + 2 : Nat) : Int) := rfl
theorem nz3 (k : Nat) : (k : Int) + 3 = ((k + 3 : Nat) : Int) := rfl
theorem nz4 (k : Nat) : (k : Int) + 4 = ((k + 4 : Nat) : Int) := rfl
theorem nz6 (k : Nat) : (k : Int) + 6 = ((k + 6 : Nat) : Int) := rfl
theorem nz11 (k : Nat) : (k : Int) + 1 + 1 = ((k + 1 + 1 : Nat) : Int) := rfl
theorem nzz (a b : Nat) : (a : Int) + (b : Int) = ((a + b : Nat) : Int) := rfl
/-- the argument as a natural number -/
macro "nat_form" : tactic => `(tactic| first | with_reducible exact nz0 _ | with_reducible exact nz1 _ | with_reducible exact nz2 _ | with_reducible exact nz3 _ | with_reducible exact nz4 _ | with_reducible exact nz6 _ | with_reducible exact nz11 _ | with_reducible exact nzz _ _)
theorem next_z (xb : Nat) (s : ByteArray) (z : Int) (w : World) {i : Nat} (hz : z = (i : Int)) (hx : w.cell? ⟨xb, 0, none⟩ = some (.string s)) (hi : i ≤ 4611686018427387904) :
    Calls Tryz.prog 145 #[.pointer (some ⟨xb, 0, none⟩), .int .i64 z] w fun e w' => e = .returned (.int .u8 (nx s i : Int)) ∧ w' = w := by rw [hz]; exact next_any xb s i w hx hi
theorem digits_z (xb : Nat) (s : ByteArray) (z : Int) (w : World) {i : Nat} (hz : z = (i : Int)) (hx : w.cell? ⟨xb, 0, none⟩ = some (.string s)) (hs : s.size ≤ 1099511627776) (hi : i ≤ 1099511627900) :
    Calls Tryz.prog 172 #[.pointer (some ⟨xb, 0, none⟩), .int .i64 z] w fun e w' => e = .returned (.int .i64 (digs s i : Int)) ∧ w' = w := by rw [hz]; exact digits_any xb s i w hx hs hi

set_option hygiene false in
macro "num_arm" : tactic => `(tactic| (first
  | (go_at_call 145; refine (@next_z _ _ _ _ ?_ ?_ hx ?_).mono ?_; rotate_left 1; nat_form; omega; rintro e w' ⟨rfl, hww⟩; rw [hww]; clear hww w')
  | (go_at_call 172; refine (@digits_z _ _ _ _ ?_ ?_ hx hs ?_).mono ?_; rotate_left 1; nat_form; omega; rintro e w' ⟨rfl, hww⟩; rw [hww]; clear hww w')))

set_option hygiene false in
macro "num_arms" : tactic => `(tactic| go_wp2_with (num_arm))


set_option maxHeartbeats 4000000 in
theorem numeral_any (xb : Nat) (s : ByteArray) (i : Nat) (w : World) (hx : w.cell? ⟨xb, 0, none⟩ = some (.string s)) (hs : s.size ≤ 1099511627776) (hi : i ≤ 1099511627800) :
    Calls Tryz.prog 157 #[.pointer (some ⟨xb, 0, none⟩), .int .i64 (i : Int)] w fun e w' => e = .returned (.tuple #[.int .i64 ((numr s i).1 : Int), .int .i64 ((numr s i).2 : Int)]) ∧ w' = w := by
  obtain ⟨a, ha⟩ : ∃ a, (if nx s i = 45 then i + 1 else i) = a := ⟨_, rfl⟩
  have hr : Hid (numr s i = numAbs s a) := by unfold Hid numr; rw [ha]
  have hai : i ≤ a ∧ a ≤ i + 1 := by rw [← ha]; split <;> omega
  go_enter Tryz.func157, Tryz.ntmps157
  go_upto_if 11 with (first | (go_at_call 145; refine (@next_z _ _ _ _ ?_ ?_ hx ?_).mono ?_; rotate_left 1; nat_form; omega; rintro e w' ⟨rfl, hww⟩; rw [hww]; clear hww w'))
  go_cut [1] from 2 (fun s1 wx => s1 = .int .i64 (a : Int) ∧ wx = w)
  case first =>
    by_cases h : nx s i = 45
    · rw [if_pos h] at ha
      subst ha
      go_wp2
      go_meet
      exact ⟨rfl, rfl⟩
    · rw [if_neg h] at ha
      subst ha
      go_wp2
      go_meet
      exact ⟨rfl, rfl⟩
  case rest =>
    obtain ⟨rfl, hwc⟩ := hcut; rw [hwc]; clear hwc wc
    clear ha
    have ha : a ≤ 1099511627801 := by omega
    clear hai
    obtain ⟨t, et⟩ : ∃ q, digs s a = q := ⟨_, rfl⟩
    have lt := digs_le s a
    have mt := digs_max s a
    rw [et] at lt mt
    go_upto_region 4 with (num_arm)
    have hA : Hid (numAbs s a = if t = a ∨ (nx s a = 48 ∧ a + 1 < t) then (0, 0) else numDot s t) := by unfold Hid numAbs; rw [et]
    obtain ⟨bb, hbb⟩ : ∃ bb, decide (t = a ∨ (nx s a = 48 ∧ a + 1 < t)) = bb := ⟨_, rfl⟩
    have hbb : Hid (decide (t = a ∨ (nx s a = 48 ∧ a + 1 < t)) = bb) := hbb
    go_cut [34] from 6 (fun c wx => c = .bool bb ∧ wx = w)
    case first =>
      by_cases ht : t = a
      · subst ht
        go_wp2
        go_meet
        exact ⟨congrArg Value.bool (by rw [← hbb.out]; simp), rfl⟩
      · have g1 : a < s.size := by omega
        have gt : (t == a) = false := by simpa using ht
        have g2 : (0 : Int) ≤ (a : Int) := by omega
        have g3 : (a : Int) < (s.size : Int) := by omega
        have g4 : s[a].toNat = nx s a := nx_at g1
        by_cases hz : nx s a = 48
        · by_cases hz2 : a + 1 < t
          · have hz3 : (a : Int) + 1 < (t : Int) := by omega
            go_wp2
            go_meet
            exact ⟨congrArg Value.bool (by rw [← hbb.out]; simp [hz, hz2] <;> omega), rfl⟩
          · have hz3 : ¬ ((a : Int) + 1 < (t : Int)) := by omega
            go_wp2
            go_meet
            exact ⟨congrArg Value.bool (by rw [← hbb.out]; simp [hz, hz2, ht] <;> omega), rfl⟩
        · go_wp2
          go_meet
          exact ⟨congrArg Value.bool (by rw [← hbb.out]; simp [hz, ht] <;> omega), rfl⟩
    case rest =>
      obtain ⟨rfl, hwc⟩ := hcut; rw [hwc]; clear hwc wc
      cases bb with
      | true =>
        have hbad := of_decide_eq_true hbb.out
        have hf : Hid (numr s i = (0, 0)) := by unfold Hid; rw [hr.out, hA.out, if_pos hbad]
        clear hbad hbb
        go_wp2
        go_ret2
        rw [hf.out]; exact ⟨rfl, rfl⟩
      | false =>
      have hbad := of_decide_eq_false hbb.out
      have hB : Hid (numr s i = numDot s t) := by unfold Hid; rw [hr.out, hA.out, if_neg hbad]
      clear hbad hbb hA hr
      have htl : t ≤ 1099511627801 := by omega
      clear lt mt et ha
      obtain ⟨v, ev⟩ : ∃ q, digs s (t + 1) = q := ⟨_, rfl⟩
      have lv := digs_le s (t + 1)
      have mv := digs_max s (t + 1)
      rw [ev] at lv mv
      have hvl : v ≤ 1099511627802 := by omega
      clear mv
      go_upto_if 38 with (num_arm)
      by_cases hbad : nx s t = 46 ∧ v = t + 1
      · obtain ⟨q1, rfl⟩ := hbad
        have hf : Hid (numr s i = (0, 0)) := by unfold Hid; rw [hB.out]; unfold numDot; rw [if_pos ⟨q1, ev⟩]
        num_arms
        go_ret2
        rw [hf.out]; exact ⟨rfl, rfl⟩
      obtain ⟨k, ek⟩ : ∃ k, (if nx s t = 46 then 17 else 16) = k := ⟨_, rfl⟩
      obtain ⟨m, em⟩ : ∃ m, (if nx s t = 46 then v else t) = m := ⟨_, rfl⟩
      have hC : Hid (numr s i = numExp s k m) := by unfold Hid; rw [hB.out]; unfold numDot; rw [ev, if_neg hbad, ek, em]
      clear hB
      have hml : m ≤ 1099511627802 := by rw [← em]; split <;> omega
      go_cut [4, 5] from 6 (fun c d wx => c = .int .i64 (k : Int) ∧ d = .int .i64 (m : Int) ∧ wx = w)
      case first =>
        by_cases h : nx s t = 46
        · rw [if_pos h] at ek em
          subst ek em
          have hv : ¬ ((v : Int) = (t : Int) + 1) := by omega
          clear hbad
          num_arms
          go_meet
          exact ⟨rfl, rfl, rfl⟩
        · rw [if_neg h] at ek em
          subst ek em
          clear hbad
          num_arms
          go_meet
          exact ⟨rfl, rfl, rfl⟩
      case rest =>
        obtain ⟨rfl, rfl, hwc⟩ := hcut; rw [hwc]; clear hwc wc
        clear hbad ev ek em lv hvl htl
        go_upto_region 13 with (num_arm)
        obtain ⟨bb, hbb⟩ : ∃ bb, decide (nx s m = 101 ∨ nx s m = 69) = bb := ⟨_, rfl⟩
        have hbb : Hid (decide (nx s m = 101 ∨ nx s m = 69) = bb) := hbb
        go_cut [56] from 6 (fun c wx => c = .bool bb ∧ wx = w)
        case first =>
          by_cases h1 : nx s m = 101
          · go_wp2
            go_meet
            exact ⟨congrArg Value.bool (by rw [← hbb.out]; simp [h1]), rfl⟩
          · by_cases h2 : nx s m = 69
            · go_wp2
              go_meet
              exact ⟨congrArg Value.bool (by rw [← hbb.out]; simp [h2]), rfl⟩
            · go_wp2
              go_meet
              exact ⟨congrArg Value.bool (by rw [← hbb.out]; simp [h1, h2] <;> omega), rfl⟩
        case rest =>
        obtain ⟨rfl, hwc⟩ := hcut; rw [hwc]; clear hwc wc
        cases bb with
        | false =>
          have hbad := of_decide_eq_false hbb.out
          have hf : Hid (numr s i = (k, m)) := by unfold Hid; rw [hC.out]; unfold numExp; rw [if_neg hbad]
          clear hbad hbb
          go_wp2
          go_ret2
          rw [hf.out]; exact ⟨rfl, rfl⟩
        | true =>
        have hbad := of_decide_eq_true hbb.out
        obtain ⟨b, eb⟩ : ∃ b, (if nx s (m + 1) = 43 ∨ nx s (m + 1) = 45 then m + 1 + 1 else m + 1) = b := ⟨_, rfl⟩
        have hD : Hid (numr s i = if digs s b = b then (0, 0) else (17, digs s b)) := by unfold Hid; rw [hC.out]; unfold numExp; rw [if_pos hbad, eb]
        clear hC hbad hbb
        have hbl : b ≤ 1099511627804 := by rw [← eb]; split <;> omega
        have Heb : Hid ((if nx s (m + 1) = 43 ∨ nx s (m + 1) = 45 then m + 1 + 1 else m + 1) = b) := eb
        clear eb
        go_upto_region 17 with (num_arm)
        obtain ⟨bb, hbb⟩ : ∃ bb, decide (nx s (m + 1) = 43 ∨ nx s (m + 1) = 45) = bb := ⟨_, rfl⟩
        have hbb : Hid (decide (nx s (m + 1) = 43 ∨ nx s (m + 1) = 45) = bb) := hbb
        go_cut [67] from 8 (fun c wx => c = .bool bb ∧ wx = w)
        case first =>
          by_cases h1 : nx s (m + 1) = 43
          · go_wp2
            go_meet
            exact ⟨congrArg Value.bool (by rw [← hbb.out]; simp [h1]), rfl⟩
          · by_cases h2 : nx s (m + 1) = 45
            · go_wp2
              go_meet
              exact ⟨congrArg Value.bool (by rw [← hbb.out]; simp [h2]), rfl⟩
            · go_wp2
              go_meet
              exact ⟨congrArg Value.bool (by rw [← hbb.out]; simp [h1, h2] <;> omega), rfl⟩
        case rest =>
        obtain ⟨rfl, hwc⟩ := hcut; rw [hwc]; clear hwc wc
        go_upto_if 67 with fail
        go_cut [1] from 8 (fun c wx => c = .int .i64 (b : Int) ∧ wx = w)
        case first =>
          have eb := Heb.out
          cases bb with
          | true =>
            rw [if_pos (of_decide_eq_true hbb.out)] at eb
            subst eb
            go_wp2
            go_meet
            exact ⟨rfl, rfl⟩
          | false =>
            rw [if_neg (of_decide_eq_false hbb.out)] at eb
            subst eb
            go_wp2
            go_meet
            exact ⟨rfl, rfl⟩
        case rest =>
        obtain ⟨rfl, hwc⟩ := hcut; rw [hwc]; clear hwc wc Heb hbb
        obtain ⟨u, eu⟩ : ∃ q, digs s b = q := ⟨_, rfl⟩
        have lu := digs_le s b
        rw [eu] at lu
        by_cases nu : u = b
        · subst nu
          have hf : Hid (numr s i = (0, 0)) := by unfold Hid; rw [hD.out, if_pos eu]
          num_arms
          go_ret2
          rw [hf.out]; exact ⟨rfl, rfl⟩
        · have iu : ((u : Int) == (b : Int)) = false := by simp; omega
          have gu : (u == b) = false := by simpa using nu
          have hf : Hid (numr s i = (17, u)) := by unfold Hid; rw [hD.out, eu, if_neg nu]
          num_arms
          go_ret2
          rw [hf.out]; exact ⟨rfl, rfl⟩

end

section
open Go.RowKit

/-- what the lexer has -/
structure Lx where
  pos : Nat
  out : List Tok
  bad : Bool
  unsure : Bool

def tokC (t : Tok) : List Value := [.int .i64 t.kind, .string t.val, .int .i64 (t.start : Int), .int .i64 (t.stop : Int)]
def toksC (l : List Tok) : List Value := l.flatMap tokC
def lxCells (s : ByteArray) (x : Lx) (ov : Value) : Array Value := #[.string s, .int .i64 (x.pos : Int), ov, .bool x.bad, .bool x.unsure]
/-- the lexer in memory -/
def LxAt (w : World) (xb : Nat) (s : ByteArray) (x : Lx) : Prop :=
  ∃ ov, w.heap[xb]? = some (.cells (lxCells s x ov) 324 (0, 0)) ∧ w.ownsRow (xb + 1) 140 4 ov x.out.length (toksC x.out)

theorem toksC_append (a b : List Tok) : toksC (a ++ b) = toksC a ++ toksC b := by simp [toksC]
theorem toksC_len (l : List Tok) : (toksC l).length = 4 * l.length := by
  induction l with
  | nil => rfl
  | cons t l ih => simp [toksC, tokC] at *; omega

def Lx.fail (x : Lx) : Lx := { x with bad := true }
def Lx.add (x : Lx) (k : Int) (to : Nat) (v : ByteArray) : Lx := { x with pos := to, out := x.out ++ [⟨k, v, x.pos, to⟩] }

theorem LxAt.of_setCell {w : World} {xb : Nat} {s : ByteArray} {x y : Lx} {ov : Value} (h : w.heap[xb]? = some (.cells (lxCells s x ov) 324 (0, 0))) (hr : w.ownsRow (xb + 1) 140 4 ov x.out.length (toksC x.out))
    (i : Nat) (u : Value) (hy : (lxCells s x ov).setIfInBounds i u = lxCells s y ov) (ho : y.out = x.out) : LxAt (w.setCell ⟨xb, i, none⟩ u) xb s y := by
  refine ⟨ov, ?_, ?_⟩
  · rw [obj_setCell h, hy]
  · rw [ho]; exact ownsRow_setCell_below hr (by show xb < xb + 1; omega) u

theorem lxfail_any (xb : Nat) (s : ByteArray) (x : Lx) (w : World) (hx : LxAt w xb s x) :
    Calls Tryz.prog 149 #[.pointer (some ⟨xb, 0, none⟩)] w fun e w' => e = .returned (.tuple #[]) ∧ LxAt w' xb s x.fail ∧ Below xb w w' := by
  obtain ⟨ov, h1, h2⟩ := hx
  refine (fail_any xb (.bool x.bad) w (cell_of h1 rfl) (free_of h1 _)).mono ?_
  rintro e w' ⟨rfl, rfl⟩
  refine ⟨rfl, LxAt.of_setCell h1 h2 3 _ rfl rfl, ?_⟩
  exact (Below.refl xb w).setCell (p := ⟨xb, 3, none⟩) (Nat.le_refl _) _


attribute [local go_sem ↓] Go.wp_at_zero Go.wp_at_succ
theorem infoTok : (Tryz.prog.info? 140).map (fun i => (i.zero, i.size, i.bytes)) = some (some (.agg #[.int .i64 0, .string ByteArray.empty, .int .i64 0, .int .i64 0]), 4, 40) := by kernel_rfl

theorem row_keep {w w' : World} {b base size n : Nat} {e : TypeId} {ov : Value} {xs : List Value} {o : Obj} (h1 : w.heap[b]? = some o) (h2 : w.ownsRow base e size ov n xs) (hb : b < base) (h : w.drew.grownBy w' ov.ownBlock) : w'.heap[b]? = some o := by
  refine (h.block b (lt_of_block h1) ?_).trans h1
  intro e
  have := (h2.lt b e.symm).1
  omega
section
variable {P : Program} {ops : Array Oper} {o : Oper} {ac : Act} {K : Act → World → Prop} {Q : Exit → Act → World → Prop} {E : Prop} {W : World}
theorem app1s (base : Nat) (hgd : o.guard = none) (s x : Operand) (t : TypeId)
    (ho : o.op = .call { callee := .builtin .append, args := #[s, x], argTypes := #[t, t] })
    (e : TypeId) (z : Value) (size bytes : Nat) (ht : P.underlying t = some (.slice e)) (hinfo : (P.info? e).map (fun i => (i.zero, i.size, i.bytes)) = some (some z, size, bytes))
    (hz : z.cells.size = size) (hsz : 0 < size) (hby : 0 < bytes) (v : Value) (n : Nat) (xs : List Value) (hs : ac.eval s = v) (hown : W.ownsRow base e size v n xs)
    (cs : Array Value) (hx : ac.eval x = .slice (some ⟨W.heap.size, 0, none⟩) 1 1) (hcs : cs.size = size) (h1 : ∀ u ∈ cs.toList, u.oneCell' = true)
    (hbytes : (n + 1) * bytes ≤ 140737488355328) (hbase : base ≤ W.heap.size)
    (h : ∀ g cap w', w'.ownsRow base e size (.slice (some ⟨g, 0, none⟩) (n + 1) cap) (n + 1) (xs ++ cs.toList) → W.grownBy w' v.ownBlock → (v.ownBlock = some g ∨ g = W.heap.size + 1) → g < w'.heap.size →
      K (ac.put o.dst (.slice (some ⟨g, 0, none⟩) (n + 1) cap)) w') :
    if Region.wanted o (yielded ops ac.tmps) = true then Oper.wp P o ac (W.alloc (.cells cs e)) K Q else E := by
  obtain ⟨i0, hi, hzz⟩ := Option.map_eq_some_iff.1 hinfo
  simp only [Prod.mk.injEq] at hzz
  obtain ⟨hz0, hz1, hz2⟩ := hzz
  have hn : n + 1 ≤ 140737488355328 := Nat.le_trans (Nat.le_mul_of_pos_right _ hby) hbytes
  refine step_append_lies (w := W.alloc (.cells cs e)) hgd s x t ho base e i0 z size bytes ht hi hz0 hz1 hz2 hz hsz v n xs hs (hown.alloc _) ⟨W.heap.size, 0, none⟩ 1 1 cs.toList hx (by simpa using hcs)
    (World.news_of_block (heap_alloc_new W _)) h1 (by omega) (by simp only [maxLen]; omega) hbytes (by simp; omega) (W.heap.size + 1) (by simp) ?_
  intro g cap w' h2 h3 h4 h5
  exact h g cap w' h2 (grownBy_alloc_then h3) h4 h5
end

theorem add_at {w w' : World} {xb : Nat} {s : ByteArray} {x : Lx} {k : Int} {to : Nat} {v : ByteArray} {ov nv : Value} (h1 : w.heap[xb]? = some (.cells (lxCells s x ov) 324 (0, 0)))
    (h2 : w.ownsRow (xb + 1) 140 4 ov x.out.length (toksC x.out))
    (b' : w'.heap[xb]? = some (.cells (lxCells s x ov) 324 (0, 0))) (q1 : w'.ownsRow (xb + 1) 140 4 nv (x.out.length + 1) (toksC x.out ++ [.int .i64 k, .string v, .int .i64 (x.pos : Int), .int .i64 (to : Int)]))
    (q2 : w.drew.grownBy w' ov.ownBlock) : LxAt ((w'.setCell ⟨xb, 2, none⟩ nv).setCell ⟨xb, 1, none⟩ (.int .i64 (to : Int))) xb s (x.add k to v) ∧ Below xb w ((w'.setCell ⟨xb, 2, none⟩ nv).setCell ⟨xb, 1, none⟩ (.int .i64 (to : Int))) := by
  constructor
  · refine ⟨nv, ?_, ?_⟩
    · rw [obj_setCell (obj_setCell b' 2 nv)]; rfl
    · have : (x.add k to v).out.length = x.out.length + 1 := by simp [Lx.add]
      rw [this]
      have e : toksC (x.add k to v).out = toksC x.out ++ [.int .i64 k, .string v, .int .i64 (x.pos : Int), .int .i64 (to : Int)] := by simp [Lx.add, toksC_append, toksC, tokC]
      rw [e]
      exact ownsRow_setCell_below (ownsRow_setCell_below q1 (by show xb < xb + 1; omega) _) (by show xb < xb + 1; omega) _
  · have hl := lt_of_block h1
    refine Below.setCell (p := ⟨xb, 1, none⟩) (Below.setCell (p := ⟨xb, 2, none⟩) ?_ (Nat.le_refl xb) _) (Nat.le_refl xb) _
    exact (Below.refl xb w).drew.grown q2 (Nat.le_of_lt hl) (fun b e => by have := (h2.lt b e).1; omega)

set_option maxHeartbeats 1000000 in
set_option maxRecDepth 100000 in
theorem add_any (xb : Nat) (s : ByteArray) (x : Lx) (k : Int) (to : Nat) (v : ByteArray) (w : World) (hx : LxAt w xb s x) (hn : x.out.length ≤ 1099511627776) :
    Calls Tryz.prog 143 #[.pointer (some ⟨xb, 0, none⟩), .int .i64 k, .int .i64 (to : Int), .string v] w fun e w' => e = .returned (.tuple #[]) ∧ LxAt w' xb s (x.add k to v) ∧ Below xb w w' := by
  obtain ⟨ov, h1, h2⟩ := hx
  have c1 : w.cell? ⟨xb, 1, none⟩ = some (.int .i64 (x.pos : Int)) := cell_of h1 rfl
  have c2 : w.cell? ⟨xb, 2, none⟩ = some ov := cell_of h1 rfl
  have f1 := free_of h1 1
  have f2 := free_of h1 2
  have hlt : xb + 1 ≤ w.heap.size := lt_of_block h1
  have h2d := h2.drew
  have c2a : ∀ o : Obj, (w.alloc o).cell? ⟨xb, 2, none⟩ = some ov := fun o => cell_of (obj_alloc_old h1 o) rfl
  have hltd : xb + 1 ≤ w.drew.heap.size := hlt
  have hn2 : (x.out.length + 1) * 40 ≤ 140737488355328 := by omega
  go_enter Tryz.func143, Tryz.ntmps143
  go_upto_region 0 with fail
  go_region_law (refine app1s (xb + 1) rfl _ _ _ rfl 140 _ 4 40 Tryz.underlying136 infoTok rfl (show 0 < 4 by decide) (show 0 < 40 by decide) ov x.out.length (toksC x.out) rfl h2d _ rfl rfl (by simp [Value.oneCell']) hn2 hltd ?_; intro g cap w' q1 q2 q3 q4; have b' := row_keep h1 h2 (Nat.lt_succ_self xb) q2; have c2' : w'.cell? ⟨xb, 2, none⟩ = some ov := cell_of b' rfl; have f2' := free_of b' 2; have c1' : w'.cell? ⟨xb, 1, none⟩ = some (.int .i64 (x.pos : Int)) := cell_of b' rfl; have f1' := free_of b' 1)
  go_wp2
  all_goals (go_end0; exact ⟨rfl, add_at h1 h2 b' q1 q2⟩)

end

section
open Go.RowKit

/-- the lexer's number -/
def lxNumber (s : ByteArray) (x : Lx) : Lx :=
  if (numr s x.pos).1 = 0 then x.fail else
  if nx s (numr s x.pos).2 = 46 ∨ isBg (nx s (numr s x.pos).2) = true then { x with unsure := true, bad := true } else
  x.add ((numr s x.pos).1 : Int) (numr s x.pos).2 (s.extract x.pos (numr s x.pos).2)

theorem LxAt.drew {w : World} {xb : Nat} {s : ByteArray} {x : Lx} (h : LxAt w xb s x) : LxAt w.drew xb s x := h
theorem numExp_le (s : ByteArray) (k t : Nat) (ht : t ≤ s.size) (h : (numExp s k t).1 ≠ 0) : t ≤ (numExp s k t).2 ∧ (numExp s k t).2 ≤ s.size := by
  unfold numExp at *
  generalize hb : (if nx s (t + 1) = 43 ∨ nx s (t + 1) = 45 then t + 1 + 1 else t + 1) = b at *
  have h0 : t ≤ b := by rw [← hb]; split <;> omega
  have h1 := digs_le s b
  have h2 := digs_max s b
  by_cases c1 : nx s t = 101 ∨ nx s t = 69
  · rw [if_pos c1] at *
    by_cases c2 : digs s b = b
    · rw [if_pos c2] at h; simp at h
    · rw [if_neg c2]
      have := digs_ne c2
      dsimp only
      omega
  · rw [if_neg c1]; exact ⟨Nat.le_refl _, ht⟩
theorem numr_le (s : ByteArray) (i : Nat) (h : (numr s i).1 ≠ 0) : i ≤ (numr s i).2 ∧ (numr s i).2 ≤ s.size := by
  unfold numr at *
  generalize ha : (if nx s i = 45 then i + 1 else i) = a at *
  have h0 : i ≤ a := by rw [← ha]; split <;> omega
  unfold numAbs at *
  by_cases c : digs s a = a ∨ (nx s a = 48 ∧ a + 1 < digs s a)
  · rw [if_pos c] at h; simp at h
  rw [if_neg c] at *
  have h1 := digs_le s a
  have h2 := digs_max s a
  have h3 := digs_ne (s := s) (i := a) (by omega)
  generalize digs s a = t at *
  unfold numDot at *
  by_cases d : nx s t = 46 ∧ digs s (t + 1) = t + 1
  · rw [if_pos d] at h; simp at h
  rw [if_neg d] at *
  by_cases e : nx s t = 46
  · rw [if_pos e, if_pos e] at *
    have h4 := digs_le s (t + 1)
    have h5 := digs_max s (t + 1)
    have h6 := digs_ne (s := s) (i := t + 1) (by omega)
    have := numExp_le s 17 (digs s (t + 1)) (by omega) h
    omega
  · rw [if_neg e, if_neg e] at *
    have := numExp_le s 16 t (by omega) h
    omega

set_option maxHeartbeats 1000000 in
set_option maxRecDepth 100000 in
theorem number_any (xb : Nat) (s : ByteArray) (x : Lx) (w : World) (hx : LxAt w xb s x) (hn : x.out.length ≤ 1099511627776) (hs : s.size ≤ 1099511627776) (hp : x.pos ≤ s.size) :
    Calls Tryz.prog 146 #[.pointer (some ⟨xb, 0, none⟩)] w fun e w' => e = .returned (.tuple #[]) ∧ LxAt w' xb s (lxNumber s x) ∧ Below xb w w' := by
  have hx0 := id hx
  obtain ⟨ov, h1, h2⟩ := hx
  have c0 : w.cell? ⟨xb, 0, none⟩ = some (.string s) := cell_of h1 rfl
  have c1 : w.cell? ⟨xb, 1, none⟩ = some (.int .i64 (x.pos : Int)) := cell_of h1 rfl
  have c4 : w.cell? ⟨xb, 4, none⟩ = some (.bool x.unsure) := cell_of h1 rfl
  have f4 := free_of h1 4
  have num := numeral_any xb s x.pos w c0 hs (by omega)
  have hle := numr_le s x.pos
  unfold lxNumber
  obtain ⟨k, t, hkt⟩ : ∃ k t, numr s x.pos = (k, t) := ⟨_, _, rfl⟩
  rw [hkt] at num hle ⊢
  dsimp only at num hle ⊢
  by_cases hk : k = 0
  · rw [if_pos hk]
    subst hk
    go_enter Tryz.func146, Tryz.ntmps146
    go_wp2_with (first | (go_at_call 157; refine num.mono ?_; rintro e w' ⟨rfl, hww⟩; rw [hww]; clear hww w') | (go_at_call 149; refine (lxfail_any xb s x w hx0).mono ?_; rintro e w' ⟨rfl, hl, hb⟩))
    go_returns
    exact ⟨rfl, hl, hb⟩
  rw [if_neg hk]
  have hle := hle hk
  have ek : ((k : Int) == 0) = false := by simp; omega
  have hc := nx_lt s t
  have set4 : Below xb w (w.setCell ⟨xb, 4, none⟩ (.bool true)) := (Below.refl xb w).setCell (p := ⟨xb, 4, none⟩) (Nat.le_refl xb) _
  by_cases hd : nx s t = 46
  · rw [if_pos (.inl hd)]
    go_enter Tryz.func146, Tryz.ntmps146
    go_wp2_with (first | (go_at_call 157; refine num.mono ?_; rintro e w' ⟨rfl, hww⟩; rw [hww]; clear hww w') | (go_at_call 145; refine (next_any xb s t w c0 (by omega)).mono ?_; rintro e w' ⟨rfl, hww⟩; rw [hww]; clear hww w') | (go_at_call 149; refine (lxfail_any xb s { x with unsure := true } (w.setCell ⟨xb, 4, none⟩ (.bool true)) (LxAt.of_setCell h1 h2 4 _ rfl rfl)).mono ?_; rintro e w' ⟨rfl, hl, hb⟩))
    go_returns
    exact ⟨rfl, hl, set4.trans hb⟩
  have ed : ((nx s t : Int) == 46) = false := by simp; omega
  cases hb : isBg (nx s t) with
  | true =>
    rw [if_pos (.inr rfl)]
    go_enter Tryz.func146, Tryz.ntmps146
    go_wp2_with (first | (go_at_call 157; refine num.mono ?_; rintro e w' ⟨rfl, hww⟩; rw [hww]; clear hww w') | (go_at_call 145; refine (next_any xb s t w c0 (by omega)).mono ?_; rintro e w' ⟨rfl, hww⟩; rw [hww]; clear hww w') | (go_at_call 53; refine (isBegin_any (nx s t) hc w).mono ?_; rintro e w' ⟨rfl, hww⟩; rw [hww]; clear hww w') | (go_at_call 149; refine (lxfail_any xb s { x with unsure := true } (w.setCell ⟨xb, 4, none⟩ (.bool true)) (LxAt.of_setCell h1 h2 4 _ rfl rfl)).mono ?_; rintro e w' ⟨rfl, hl, hb⟩))
    go_returns
    exact ⟨rfl, hl, set4.trans hb⟩
  | false =>
    rw [if_neg (by simp [hd])]
    have z1 : (0 : Int) ≤ (x.pos : Int) := by omega
    have z2 : (x.pos : Int) ≤ (t : Int) := by omega
    have z3 : (t : Int) ≤ (s.size : Int) := by omega
    go_enter Tryz.func146, Tryz.ntmps146
    go_upto_region 7 with (first | (go_at_call 157; refine num.mono ?_; rintro e w' ⟨rfl, hww⟩; rw [hww]; clear hww w') | (go_at_call 145; refine (next_any xb s t w c0 (by omega)).mono ?_; rintro e w' ⟨rfl, hww⟩; rw [hww]; clear hww w') | (go_at_call 53; refine (isBegin_any (nx s t) hc w).mono ?_; rintro e w' ⟨rfl, hww⟩; rw [hww]; clear hww w'))
    go_region_law (go_simp; go_at_call 143; refine (add_any xb s x (k : Int) t (s.extract x.pos t) _ (LxAt.drew hx0) hn).mono ?_; rintro e w' ⟨rfl, hl, hb⟩)
    all_goals (go_wp2; go_end0; exact ⟨rfl, hl, (Below.refl xb w).drew.trans hb⟩)

end

end Go.Proofs.YtigpnidffiaigaaGreat
