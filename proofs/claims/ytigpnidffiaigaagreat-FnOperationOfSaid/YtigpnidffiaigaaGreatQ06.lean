/- Walks: comment. -/
import Derived.Test.YtigpnidffiaigaaGreatProg
import Derived.Deep.CutRange
import Derived.Test.YtigpnidffiaigaaGreatQ04
import Derived.Test.YtigpnidffiaigaaGreatQ05
set_option linter.unusedVariables false
set_option linter.unusedSimpArgs false
namespace Go.Proofs.YtigpnidffiaigaaGreat

section
open Go.RowKit

theorem pt_ok (s : ByteArray) (i : Nat) (h : (pt s i).2 ≠ 0) (hi : i < s.size) : i + (pt s i).2 ≤ s.size ∧ 0 ≤ (pt s i).1 ∧ (pt s i).1 ≤ 1114111 ∧ (pt s i).2 ≤ 4 := by
  have hn := nx_lt s i
  unfold pt at *
  by_cases h1 : nx s i < 128
  · rw [if_pos h1] at *
    dsimp only
    omega
  rw [if_neg h1] at *
  generalize hm : ptStart (nx s i) = m at *
  obtain ⟨c, n, l⟩ := m
  have hl : 0 ≤ l ∧ n ≤ 4 := by
    unfold ptStart at hm
    split at hm
    · simp only [Prod.mk.injEq] at hm; omega
    split at hm
    · simp only [Prod.mk.injEq] at hm; omega
    split at hm <;> (simp only [Prod.mk.injEq] at hm; omega)
  dsimp only at *
  by_cases h2 : n = 0 ∨ s.size < i + n
  · rw [if_pos h2] at h; simp at h
  rw [if_neg h2] at *
  cases hr : ptRest s (i + n) (i + 1) c with
  | none => rw [hr] at h; simp at h
  | some q =>
    rw [hr] at h
    dsimp only at *
    by_cases h3 : q < l ∨ 1114111 < q ∨ (55296 ≤ q ∧ q < 57344)
    · rw [if_pos h3] at h; simp at h
    rw [if_neg h3] at *
    dsimp only
    omega
theorem LxAt.facts {w : World} {xb : Nat} {s : ByteArray} {x : Lx} (h : LxAt w xb s x) : ∃ ov, w.heap[xb]? = some (.cells (lxCells s x ov) 324 (0, 0)) ∧ w.ownsRow (xb + 1) 140 4 ov x.out.length (toksC x.out) ∧
    w.cell? ⟨xb, 0, none⟩ = some (.string s) ∧ w.cell? ⟨xb, 1, none⟩ = some (.int .i64 (x.pos : Int)) ∧ w.cell? ⟨xb, 3, none⟩ = some (.bool x.bad) ∧ w.cell? ⟨xb, 4, none⟩ = some (.bool x.unsure) ∧
    w.frozen? ⟨xb, 1, none⟩ = false ∧ w.frozen? ⟨xb, 3, none⟩ = false ∧ w.frozen? ⟨xb, 4, none⟩ = false := by
  obtain ⟨ov, h1, h2⟩ := h
  exact ⟨ov, h1, h2, cell_of h1 rfl, cell_of h1 rfl, cell_of h1 rfl, cell_of h1 rfl, free_of h1 1, free_of h1 3, free_of h1 4⟩
theorem LxAt.drewN {w : World} {xb : Nat} {s : ByteArray} {x : Lx} (h : LxAt w xb s x) (n : Nat) : LxAt (w.drewN n) xb s x := h
theorem below_drewN {B : Nat} {a w : World} (h : Below B a w) (n : Nat) : Below B a (w.drewN n) := ⟨h.os, h.tape, h.output, h.size, h.block⟩
/-- a store into the lexer's own block -/
theorem lx_set {w w' : World} {xb : Nat} {s : ByteArray} {x y : Lx} (h : LxAt w' xb s x) (hb : Below xb w w') (i : Nat) (u : Value) (hi : i ≠ 2) (hy : ∀ ov, (lxCells s x ov).setIfInBounds i u = lxCells s y ov) (ho : y.out = x.out) :
    LxAt (w'.setCell ⟨xb, i, none⟩ u) xb s y ∧ Below xb w (w'.setCell ⟨xb, i, none⟩ u) := by
  obtain ⟨ov, h1, h2⟩ := h
  exact ⟨LxAt.of_setCell h1 h2 i u (hy ov) ho, hb.setCell (p := ⟨xb, i, none⟩) (Nat.le_refl xb) _⟩

/-- the comment up to the end of its line -/
def lxCmt (s : ByteArray) (x : Lx) : Lx :=
  if h : x.pos < s.size ∧ nx s x.pos ≠ 10 ∧ nx s x.pos ≠ 13 then
    if h2 : (pt s x.pos).2 = 0 then { x with bad := true, unsure := true } else
    lxCmt s { x with pos := x.pos + (pt s x.pos).2, unsure := x.unsure || !srcS (pt s x.pos).1 || !srcB (pt s x.pos).1 || decide (128 ≤ (pt s x.pos).1) }
  else x
termination_by s.size - x.pos
decreasing_by
  show s.size - (x.pos + (pt s x.pos).2) < s.size - x.pos
  omega

def CmtRel (w : World) (xb : Nat) (s : ByteArray) (x : Lx) (g : Nat) (wr : World) : Prop :=
  ∃ y, LxAt wr xb s y ∧ Below xb w wr ∧ Hid (lxCmt s x = lxCmt s y) ∧ y.pos ≤ s.size ∧ g = s.size - y.pos

attribute [local go_sem ↓] Go.wp_at_zero Go.wp_at_succ
set_option maxHeartbeats 2000000 in
set_option maxRecDepth 100000 in
theorem comment_any (xb : Nat) (s : ByteArray) (x : Lx) (w : World) (hx : LxAt w xb s x) (hs : s.size ≤ 1099511627776) (hp : x.pos ≤ s.size) :
    Calls Tryz.prog 142 #[.pointer (some ⟨xb, 0, none⟩)] w fun e w' => e = .returned (.tuple #[]) ∧ LxAt w' xb s (lxCmt s x) ∧ Below xb w w' := by
  go_enter Tryz.func142, Tryz.ntmps142
  go_wp2_with fail
  go_loopg [] (s.size - x.pos) (fun g wr => CmtRel w xb s x g wr)
  case atStart => exact ⟨x, hx, Below.refl _ _, rfl, hp, rfl⟩
  case round =>
    obtain ⟨y, hy, hb, hd, hp', rfl⟩ := hrel
    obtain ⟨ov, h1, h2, c0, c1, c3, c4, f1, f3, f4⟩ := hy.facts
    by_cases q1 : y.pos < s.size
    · have z1 : (0 : Int) ≤ (y.pos : Int) := by omega
      have z2 : (y.pos : Int) < (s.size : Int) := by omega
      have z3 : s[y.pos].toNat = nx s y.pos := nx_at q1
      by_cases q2 : nx s y.pos = 10
      · have hf : Hid (lxCmt s x = y) := hd.out.trans (by rw [lxCmt, dif_neg (by omega)])
        go_upto_region 0 with fail
        go_quiet (fail)
        go_wp2
        go_end0
        exact ⟨rfl, by rw [hf.out]; exact hy.drewN _, below_drewN hb _⟩
      by_cases q3 : nx s y.pos = 13
      · have hf : Hid (lxCmt s x = y) := hd.out.trans (by rw [lxCmt, dif_neg (by omega)])
        go_upto_region 0 with fail
        go_quiet (fail)
        go_wp2
        go_end0
        exact ⟨rfl, by rw [hf.out]; exact hy.drewN _, below_drewN hb _⟩
      have e1 : ((nx s y.pos : Int) != 10) = true := by simp; omega
      have e2 : ((nx s y.pos : Int) != 13) = true := by simp; omega
      have hok := pt_ok s y.pos
      by_cases q4 : (pt s y.pos).2 = 0
      · have hf : Hid (lxCmt s x = { y with bad := true, unsure := true }) := hd.out.trans (by rw [lxCmt, dif_pos ⟨q1, q2, q3⟩, dif_pos q4])
        clear hok
        go_upto_region 0 with fail
        go_quiet (fail)
        have hy1 : LxAt (wr.drewN nq) xb s y := hy.drewN _
        have hb1 := below_drewN hb nq
        clear h1 h2 c0 c1 c3 c4 f1 f3 f4 hy hb
        generalize wr.drewN nq = w1 at *
        obtain ⟨ov, h1, h2, c0, c1, c3, c4, f1, f3, f4⟩ := hy1.facts
        have hpt := fun W => point_any s y.pos W hs q1
        rw [q4] at hpt
        go_upto_region 1 with fail
        go_quiet ((go_at_call 56; exact Calls.quiet_of_same (hpt _)))
        have hy2 := hy1.drewN nq
        have hb2 := below_drewN hb1 nq
        clear h1 h2 c0 c1 c3 c4 f1 f3 f4 hy1 hb1 hpt
        generalize w1.drewN nq = w2 at *
        obtain ⟨ov, h1, h2, c0, c1, c3, c4, f1, f3, f4⟩ := hy2.facts
        go_wp2
        go_returns
        refine ⟨rfl, ?_⟩
        rw [hf.out]
        have a1 := lx_set (y := { y with bad := true }) hy2 hb2 3 (.bool true) (by decide) (fun _ => rfl) rfl
        exact lx_set (y := { y with bad := true, unsure := true }) a1.1 a1.2 4 (.bool true) (by decide) (fun _ => rfl) rfl
      · obtain ⟨c, n, hcn⟩ : ∃ c n, pt s y.pos = (c, n) := ⟨_, _, rfl⟩
        have hd1 : Hid (lxCmt s x = lxCmt s { y with pos := y.pos + n, unsure := y.unsure || !srcS c || !srcB c || decide (128 ≤ c) }) := hd.out.trans (by rw [lxCmt, dif_pos ⟨q1, q2, q3⟩, dif_neg q4, hcn])
        have hok := hok q4 q1
        rw [hcn] at q4 hok
        dsimp only at q4 hok
        have hpt := fun W => point_any s y.pos W hs q1
        rw [hcn] at hpt
        dsimp only at hpt
        clear hcn
        obtain ⟨k1, k2, k3, k4⟩ := hok
        have q4' : ((n : Int) == 0) = false := by simp; omega
        go_upto_region 0 with fail
        go_quiet (fail)
        have hy1 : LxAt (wr.drewN nq) xb s y := hy.drewN _
        have hb1 := below_drewN hb nq
        clear h1 h2 c0 c1 c3 c4 f1 f3 f4 hy hb
        generalize wr.drewN nq = w1 at *
        obtain ⟨ov, h1, h2, c0, c1, c3, c4, f1, f3, f4⟩ := hy1.facts
        go_upto_region 1 with fail
        go_quiet ((go_at_call 56; exact Calls.quiet_of_same (hpt _)))
        have hy2 := hy1.drewN nq
        have hb2 := below_drewN hb1 nq
        clear h1 h2 c0 c1 c3 c4 f1 f3 f4 hy1 hb1 hpt
        generalize w1.drewN nq = w2 at *
        obtain ⟨ov, h1, h2, c0, c1, c3, c4, f1, f3, f4⟩ := hy2.facts
        obtain ⟨uu, huu⟩ : ∃ uu, (y.unsure || !srcS c || !srcB c || decide (128 ≤ c)) = uu := ⟨_, rfl⟩
        rw [huu] at hd1
        go_upto_region 5 with (go_at_call 156; refine (source_any c _).mono ?_; rintro e w' ⟨rfl, hww⟩; rw [hww]; clear hww w')
        go_cut [4, 5] from 6 to 91 (fun p q wx => LxAt wx xb s { y with unsure := uu } ∧ Below xb w wx)
        case first =>
          clear hd1 hd
          have huu : Hid ((y.unsure || !srcS c || !srcB c || decide (128 ≤ c)) = uu) := huu
          cases g1 : y.unsure with
          | true =>
            obtain rfl : uu = true := by rw [← huu.out, g1]; rfl
            rw [g1] at c4
            go_wp2
            go_meet
            exact lx_set (y := { y with unsure := true }) hy2 hb2 4 (.bool true) (by decide) (fun _ => rfl) rfl
          | false =>
            rw [g1] at c4
            cases g2 : srcS c with
            | false =>
              obtain rfl : uu = true := by rw [← huu.out, g1, g2]; rfl
              go_wp2
              go_meet
              exact lx_set (y := { y with unsure := true }) hy2 hb2 4 (.bool true) (by decide) (fun _ => rfl) rfl
            | true =>
              cases g3 : srcB c with
              | false =>
                obtain rfl : uu = true := by rw [← huu.out, g1, g2, g3]; rfl
                go_wp2
                go_meet
                exact lx_set (y := { y with unsure := true }) hy2 hb2 4 (.bool true) (by decide) (fun _ => rfl) rfl
              | true =>
                obtain rfl : uu = decide (128 ≤ c) := by rw [← huu.out, g1, g2, g3]; rfl
                go_wp2
                go_meet
                exact lx_set (y := { y with unsure := (decide (128 ≤ c)) }) hy2 hb2 4 (.bool (decide (128 ≤ c))) (by decide) (fun _ => rfl) rfl
        case rest =>
          obtain ⟨hy3, hb3⟩ := hcut
          clear h1 h2 c0 c1 c3 c4 f1 f3 f4 hy2 hb2
          obtain ⟨ov, h1, h2, c0, c1, c3, c4, f1, f3, f4⟩ := hy3.facts
          go_wp2
          go_roundg (s.size - (y.pos + n))
          case measure => omega
          case rel =>
            have a1 := lx_set (y := { y with unsure := uu, pos := y.pos + n }) hy3 hb3 1 (.int .i64 ((y.pos : Int) + (n : Int))) (by decide) (fun _ => rfl) rfl
            unfold CmtRel
            exact ⟨_, a1.1, a1.2, hd1, k1, rfl⟩
    · have hf : Hid (lxCmt s x = y) := hd.out.trans (by rw [lxCmt, dif_neg (by omega)])
      have z2 : ¬ ((y.pos : Int) < (s.size : Int)) := by omega
      go_upto_region 0 with fail
      go_quiet (fail)
      go_wp2
      go_end0
      exact ⟨rfl, by rw [hf.out]; exact hy.drewN _, below_drewN hb _⟩

end

end Go.Proofs.YtigpnidffiaigaaGreat
