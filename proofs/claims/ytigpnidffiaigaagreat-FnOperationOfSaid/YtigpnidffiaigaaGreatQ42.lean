/- Plain words: a step of the lexer moves on, and stays within the text. -/
import Derived.Test.YtigpnidffiaigaaGreatProg
import Derived.Test.YtigpnidffiaigaaGreatQ40
set_option linter.unusedVariables false
set_option linter.unusedSimpArgs false
namespace Go.Proofs.YtigpnidffiaigaaGreat

section
open Go.RowKit

theorem numr_lt (s : ByteArray) (i : Nat) (h : (numr s i).1 ≠ 0) : i < (numr s i).2 := by
  unfold numr at *
  generalize ha : (if nx s i = 45 then i + 1 else i) = a at *
  have h0 : i ≤ a := by rw [← ha]; split <;> omega
  unfold numAbs at *
  by_cases c : digs s a = a ∨ (nx s a = 48 ∧ a + 1 < digs s a)
  · rw [if_pos c] at h; simp at h
  rw [if_neg c] at *
  have h1 := digs_le s a
  have h2 := digs_max s a
  have h3 := digs_ne (s := s) (i := a) (by omega)
  generalize digs s a = t at *
  unfold numDot at *
  by_cases d : nx s t = 46 ∧ digs s (t + 1) = t + 1
  · rw [if_pos d] at h; simp at h
  rw [if_neg d] at *
  by_cases e : nx s t = 46
  · rw [if_pos e, if_pos e] at *
    have h4 := digs_le s (t + 1)
    have h5 := digs_max s (t + 1)
    have h6 := digs_ne (s := s) (i := t + 1) (by omega)
    have := numExp_le s 17 (digs s (t + 1)) (by omega) h
    omega
  · rw [if_neg e, if_neg e] at *
    have := numExp_le s 16 t (by omega) h
    omega

/-- the lexer has moved on -/
def Moved (s : ByteArray) (x y : Lx) : Prop :=
  x.pos ≤ y.pos ∧ y.pos ≤ s.size ∧ y.out.length + x.pos ≤ x.out.length + y.pos ∧ (y.bad = true ∨ x.pos < y.pos)

theorem moved_bad {s : ByteArray} {x y : Lx} (hx : x.pos ≤ s.size) (h1 : y.pos = x.pos) (h2 : y.out = x.out) (h3 : y.bad = true) : Moved s x y :=
  ⟨by omega, by omega, by rw [h1, h2]; omega, .inl h3⟩
theorem moved_add {s : ByteArray} {x y : Lx} {k : Int} {tp : Nat} {v : ByteArray} (h1 : x.pos < tp) (h2 : tp ≤ s.size) (hy : y.pos = x.pos) (ho : y.out = x.out) : Moved s x (y.add k tp v) := by
  refine ⟨by show x.pos ≤ tp; omega, h2, ?_, .inr h1⟩
  show (y.out ++ [_]).length + x.pos ≤ x.out.length + tp
  rw [ho]
  simp
  omega
theorem moved_on {s : ByteArray} {x y : Lx} (h1 : x.pos < y.pos) (h2 : y.pos ≤ s.size) (ho : y.out = x.out) : Moved s x y :=
  ⟨by omega, h2, by rw [ho]; omega, .inr h1⟩

theorem lxNumber_moved (s : ByteArray) (x : Lx) (hx : x.pos ≤ s.size) : Moved s x (lxNumber s x) := by
  unfold lxNumber
  have h1 := numr_lt s x.pos
  have h2 := numr_le s x.pos
  split
  · exact moved_bad hx rfl rfl rfl
  · rename_i h
    split
    · exact moved_bad hx rfl rfl rfl
    · exact moved_add (h1 h) (h2 h).2 rfl rfl

theorem pt_le (s : ByteArray) (i : Nat) (h : (pt s i).2 ≠ 0) (hi : i < s.size) : i + (pt s i).2 ≤ s.size := (pt_ok s i h hi).1

theorem lxText_moved (s : ByteArray) (n : Nat) : ∀ (x : Lx) (k : Nat) (o : ByteArray), s.size - k ≤ n → x.pos < k → x.pos ≤ s.size → Moved s x (lxText s x k o) := by
  induction n with
  | zero =>
    intro x k o h h1 h2
    rw [lxText, dif_neg (by omega)]
    exact moved_bad h2 rfl rfl rfl
  | succ n ih =>
    intro x k o h h1 h2
    rw [lxText]
    split
    · rename_i hk
      split
      · exact moved_add (by omega) (by omega) rfl rfl
      split
      · exact moved_bad h2 rfl rfl rfl
      split
      · split
        · exact moved_bad h2 rfl rfl rfl
        · rename_i h3
          exact ih { x with unsure := (esc s k x.unsure).2.2 } _ _ (by omega) (show x.pos < _ by omega) h2
      split
      · exact moved_bad h2 rfl rfl rfl
      · rename_i h3
        split
        · exact moved_bad h2 rfl rfl rfl
        · exact ih { x with unsure := x.unsure || !srcS (pt s k).1 } _ _ (by omega) (show x.pos < _ by omega) h2
    · exact moved_bad h2 rfl rfl rfl

theorem st_le {s : ByteArray} {i : Nat} {t : ByteArray} (h : st s i t = true) : i + t.size ≤ s.size := by
  unfold st at h
  exact (of_decide_eq_true h).1

theorem lxBlock_moved (s : ByteArray) (n : Nat) : ∀ (x : Lx) (k : Nat) (o : ByteArray), s.size - k ≤ n → x.pos < k → x.pos ≤ s.size → Moved s x (lxBlock s x k o) := by
  induction n with
  | zero =>
    intro x k o h h1 h2
    rw [lxBlock, dif_neg (by omega)]
    exact moved_bad h2 rfl rfl rfl
  | succ n ih =>
    intro x k o h h1 h2
    rw [lxBlock]
    split
    · rename_i hk
      split
      · rename_i hq
        have : k + 3 ≤ s.size := st_le hq
        exact moved_add (by omega) this rfl rfl
      split
      · exact ih { x with unsure := true } _ _ (by omega) (show x.pos < _ by omega) h2
      split
      · exact moved_bad h2 rfl rfl rfl
      · rename_i h3
        split
        · exact moved_bad h2 rfl rfl rfl
        · exact ih { x with unsure := x.unsure || !srcS (pt s k).1 } _ _ (by omega) (show x.pos < _ by omega) h2
    · exact moved_bad h2 rfl rfl rfl

theorem lxCmt_keeps (s : ByteArray) (n : Nat) : ∀ (x : Lx), s.size - x.pos ≤ n → x.pos ≤ s.size → (lxCmt s x).out = x.out ∧ x.pos ≤ (lxCmt s x).pos ∧ (lxCmt s x).pos ≤ s.size := by
  induction n with
  | zero =>
    intro x h h1
    rw [lxCmt, dif_neg (by omega)]
    exact ⟨rfl, Nat.le_refl _, h1⟩
  | succ n ih =>
    intro x h h1
    rw [lxCmt]
    split
    · rename_i hk
      split
      · exact ⟨rfl, Nat.le_refl _, h1⟩
      · rename_i h2
        have hp := pt_le s x.pos h2 hk.1
        obtain ⟨a, b, c⟩ := ih { x with pos := x.pos + (pt s x.pos).2, unsure := x.unsure || !srcS (pt s x.pos).1 || !srcB (pt s x.pos).1 || decide (128 ≤ (pt s x.pos).1) } (by show s.size - (x.pos + (pt s x.pos).2) ≤ n; omega) hp
        exact ⟨a, Nat.le_trans (show x.pos ≤ x.pos + (pt s x.pos).2 by omega) b, c⟩
    · exact ⟨rfl, Nat.le_refl _, h1⟩
theorem lxCmt_moved (s : ByteArray) (x : Lx) (h : x.pos < s.size) (hc : nx s x.pos = 35) : Moved s x (lxCmt s x) := by
  have e : pt s x.pos = (35, 1) := by unfold pt; rw [hc]; rfl
  rw [lxCmt, dif_pos ⟨h, by omega, by omega⟩, dif_neg (by rw [e]; decide)]
  obtain ⟨a, b, c⟩ := lxCmt_keeps s s.size { x with pos := x.pos + (pt s x.pos).2, unsure := x.unsure || !srcS (pt s x.pos).1 || !srcB (pt s x.pos).1 || decide (128 ≤ (pt s x.pos).1) } (by show s.size - (x.pos + (pt s x.pos).2) ≤ s.size; omega) (by show x.pos + (pt s x.pos).2 ≤ s.size; rw [e]; exact h)
  refine moved_on ?_ c a
  have : x.pos + (pt s x.pos).2 ≤ _ := b
  rw [e] at this
  rw [e]
  exact this

theorem nameTo_le (s : ByteArray) (i : Nat) : i ≤ nameTo s i ∧ nameTo s i ≤ max i s.size := by
  fun_induction nameTo s i with
  | case1 i h ih =>
    have : i < s.size := nx_pos (by unfold isBg isDg at h; simp at h; omega)
    omega
  | case2 i h => omega
theorem nameTo_lt {s : ByteArray} {i : Nat} (h : isBg (nx s i) = true) (hi : i < s.size) : i < nameTo s i ∧ nameTo s i ≤ s.size := by
  rw [nameTo, dif_pos (by simp [h])]
  have := nameTo_le s (i + 1)
  omega

theorem lxToken_moved (s : ByteArray) (x : Lx) (h : x.pos < s.size) : Moved s x (lxToken s x) := by
  unfold lxToken
  dsimp only
  split
  · exact moved_on (show x.pos < x.pos + 1 by omega) (show x.pos + 1 ≤ s.size by omega) rfl
  split
  · rename_i h1
    have : x.pos + 3 ≤ s.size := st_le h1
    exact moved_on (show x.pos < x.pos + 3 by omega) this rfl
  split
  · rename_i h1
    exact lxCmt_moved s x h h1
  split
  · rename_i h1
    have : x.pos + 3 ≤ s.size := st_le h1
    exact moved_add (by omega) this rfl rfl
  split
  · exact moved_add (by omega) (by omega) rfl rfl
  split
  · rename_i h1
    exact moved_add (nameTo_lt h1 h).1 (nameTo_lt h1 h).2 rfl rfl
  split
  · exact lxNumber_moved s x (by omega)
  split
  · exact lxBlock_moved s s.size x _ _ (by omega) (by omega) (by omega)
  split
  · exact lxText_moved s s.size x _ _ (by omega) (by omega) (by omega)
  · exact moved_bad (by omega) rfl rfl rfl

end

end Go.Proofs.YtigpnidffiaigaaGreat
