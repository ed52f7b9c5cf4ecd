/- Walks: token. -/
import Derived.Test.YtigpnidffiaigaaGreatProg
import Derived.Deep.CutRange
import Derived.Test.YtigpnidffiaigaaGreatQ12
set_option linter.unusedVariables false
set_option linter.unusedSimpArgs false
namespace Go.Proofs.YtigpnidffiaigaaGreat

section
open Go.RowKit

/-- the lexer's step -/
def lxToken (s : ByteArray) (x : Lx) : Lx :=
  let c := nx s x.pos
  if c = 32 ∨ c = 9 ∨ c = 10 ∨ c = 13 ∨ c = 44 then { x with pos := x.pos + 1 } else
  if st s x.pos ⟨#[239, 187, 191]⟩ = true then { x with pos := x.pos + 3, unsure := true } else
  if c = 35 then lxCmt s x else
  if st s x.pos ⟨#[46, 46, 46]⟩ = true then x.add 6 (x.pos + 3) ByteArray.empty else
  if 0 < sgn c then x.add (sgn c) (x.pos + 1) ByteArray.empty else
  if isBg c = true then x.add 15 (nameTo s x.pos) (s.extract x.pos (nameTo s x.pos)) else
  if c = 45 ∨ isDg c = true then lxNumber s x else
  if st s x.pos q3 = true then lxBlock s x (x.pos + 3) ByteArray.empty else
  if c = 34 then lxText s x (x.pos + 1) ByteArray.empty else x.fail

/-- the whole text -/
def lxRun (s : ByteArray) : Nat → Lx → Lx
  | 0, x => x
  | n + 1, x => if x.bad = false ∧ x.pos < s.size then lxRun s n (lxToken s x) else x

theorem LxAt.low {w : World} {xb : Nat} {s : ByteArray} {x : Lx} (h : LxAt w xb s x) : xb < w.heap.size := by
  obtain ⟨ov, h1, h2⟩ := h
  exact lt_of_block h1


attribute [local go_sem ↓] Go.wp_at_zero Go.wp_at_succ

set_option maxHeartbeats 2000000 in
set_option maxRecDepth 100000 in
theorem token_b32 (xb : Nat) (s : ByteArray) (x : Lx) (w : World) (hx : LxAt w xb s x) (hs : s.size ≤ 1099511627776) (hp : x.pos < s.size) (hn : x.out.length ≤ 1099511627776) (hc : nx s x.pos = 32) :
    Calls Tryz.prog 127 #[.pointer (some ⟨xb, 0, none⟩)] w fun e w' => e = .returned (.tuple #[]) ∧ LxAt w' xb s ({ x with pos := x.pos + 1 }) ∧ Below xb w w' := by
  obtain ⟨ov, h1, h2, c0, c1, c3, c4, f1, f3, f4⟩ := hx.facts
  have z1 : (0 : Int) ≤ (x.pos : Int) := by omega
  have z2 : (x.pos : Int) < (s.size : Int) := by omega
  have z3 : s[x.pos].toNat = nx s x.pos := nx_at hp
  go_enter Tryz.func127, Tryz.ntmps127
  go_upto_region 0 with fail
  go_quiet (fail)
  have hy1 : LxAt (w.drewN nq) xb s x := hx.drewN _
  have hb1 := below_drewN (Below.refl xb w) nq
  clear h1 h2 c0 c1 c3 c4 f1 f3 f4 hx
  generalize w.drewN nq = w1 at *
  obtain ⟨ov, h1, h2, c0, c1, c3, c4, f1, f3, f4⟩ := hy1.facts
  go_wp2_with fail
  go_returns
  exact ⟨rfl, lx_set (y := { x with pos := x.pos + 1 }) hy1 hb1 1 (.int .i64 ((x.pos : Int) + 1)) (by decide) (fun _ => rfl) rfl⟩

set_option maxHeartbeats 2000000 in
set_option maxRecDepth 100000 in
theorem token_b9 (xb : Nat) (s : ByteArray) (x : Lx) (w : World) (hx : LxAt w xb s x) (hs : s.size ≤ 1099511627776) (hp : x.pos < s.size) (hn : x.out.length ≤ 1099511627776) (hc : nx s x.pos = 9) :
    Calls Tryz.prog 127 #[.pointer (some ⟨xb, 0, none⟩)] w fun e w' => e = .returned (.tuple #[]) ∧ LxAt w' xb s ({ x with pos := x.pos + 1 }) ∧ Below xb w w' := by
  obtain ⟨ov, h1, h2, c0, c1, c3, c4, f1, f3, f4⟩ := hx.facts
  have z1 : (0 : Int) ≤ (x.pos : Int) := by omega
  have z2 : (x.pos : Int) < (s.size : Int) := by omega
  have z3 : s[x.pos].toNat = nx s x.pos := nx_at hp
  go_enter Tryz.func127, Tryz.ntmps127
  go_upto_region 0 with fail
  go_quiet (fail)
  have hy1 : LxAt (w.drewN nq) xb s x := hx.drewN _
  have hb1 := below_drewN (Below.refl xb w) nq
  clear h1 h2 c0 c1 c3 c4 f1 f3 f4 hx
  generalize w.drewN nq = w1 at *
  obtain ⟨ov, h1, h2, c0, c1, c3, c4, f1, f3, f4⟩ := hy1.facts
  go_wp2_with fail
  go_returns
  exact ⟨rfl, lx_set (y := { x with pos := x.pos + 1 }) hy1 hb1 1 (.int .i64 ((x.pos : Int) + 1)) (by decide) (fun _ => rfl) rfl⟩

set_option maxHeartbeats 2000000 in
set_option maxRecDepth 100000 in
theorem token_b10 (xb : Nat) (s : ByteArray) (x : Lx) (w : World) (hx : LxAt w xb s x) (hs : s.size ≤ 1099511627776) (hp : x.pos < s.size) (hn : x.out.length ≤ 1099511627776) (hc : nx s x.pos = 10) :
    Calls Tryz.prog 127 #[.pointer (some ⟨xb, 0, none⟩)] w fun e w' => e = .returned (.tuple #[]) ∧ LxAt w' xb s ({ x with pos := x.pos + 1 }) ∧ Below xb w w' := by
  obtain ⟨ov, h1, h2, c0, c1, c3, c4, f1, f3, f4⟩ := hx.facts
  have z1 : (0 : Int) ≤ (x.pos : Int) := by omega
  have z2 : (x.pos : Int) < (s.size : Int) := by omega
  have z3 : s[x.pos].toNat = nx s x.pos := nx_at hp
  go_enter Tryz.func127, Tryz.ntmps127
  go_upto_region 0 with fail
  go_quiet (fail)
  have hy1 : LxAt (w.drewN nq) xb s x := hx.drewN _
  have hb1 := below_drewN (Below.refl xb w) nq
  clear h1 h2 c0 c1 c3 c4 f1 f3 f4 hx
  generalize w.drewN nq = w1 at *
  obtain ⟨ov, h1, h2, c0, c1, c3, c4, f1, f3, f4⟩ := hy1.facts
  go_wp2_with fail
  go_returns
  exact ⟨rfl, lx_set (y := { x with pos := x.pos + 1 }) hy1 hb1 1 (.int .i64 ((x.pos : Int) + 1)) (by decide) (fun _ => rfl) rfl⟩

set_option maxHeartbeats 2000000 in
set_option maxRecDepth 100000 in
theorem token_b13 (xb : Nat) (s : ByteArray) (x : Lx) (w : World) (hx : LxAt w xb s x) (hs : s.size ≤ 1099511627776) (hp : x.pos < s.size) (hn : x.out.length ≤ 1099511627776) (hc : nx s x.pos = 13) :
    Calls Tryz.prog 127 #[.pointer (some ⟨xb, 0, none⟩)] w fun e w' => e = .returned (.tuple #[]) ∧ LxAt w' xb s ({ x with pos := x.pos + 1 }) ∧ Below xb w w' := by
  obtain ⟨ov, h1, h2, c0, c1, c3, c4, f1, f3, f4⟩ := hx.facts
  have z1 : (0 : Int) ≤ (x.pos : Int) := by omega
  have z2 : (x.pos : Int) < (s.size : Int) := by omega
  have z3 : s[x.pos].toNat = nx s x.pos := nx_at hp
  go_enter Tryz.func127, Tryz.ntmps127
  go_upto_region 0 with fail
  go_quiet (fail)
  have hy1 : LxAt (w.drewN nq) xb s x := hx.drewN _
  have hb1 := below_drewN (Below.refl xb w) nq
  clear h1 h2 c0 c1 c3 c4 f1 f3 f4 hx
  generalize w.drewN nq = w1 at *
  obtain ⟨ov, h1, h2, c0, c1, c3, c4, f1, f3, f4⟩ := hy1.facts
  go_wp2_with fail
  go_returns
  exact ⟨rfl, lx_set (y := { x with pos := x.pos + 1 }) hy1 hb1 1 (.int .i64 ((x.pos : Int) + 1)) (by decide) (fun _ => rfl) rfl⟩

set_option maxHeartbeats 2000000 in
set_option maxRecDepth 100000 in
theorem token_b44 (xb : Nat) (s : ByteArray) (x : Lx) (w : World) (hx : LxAt w xb s x) (hs : s.size ≤ 1099511627776) (hp : x.pos < s.size) (hn : x.out.length ≤ 1099511627776) (hc : nx s x.pos = 44) :
    Calls Tryz.prog 127 #[.pointer (some ⟨xb, 0, none⟩)] w fun e w' => e = .returned (.tuple #[]) ∧ LxAt w' xb s ({ x with pos := x.pos + 1 }) ∧ Below xb w w' := by
  obtain ⟨ov, h1, h2, c0, c1, c3, c4, f1, f3, f4⟩ := hx.facts
  have z1 : (0 : Int) ≤ (x.pos : Int) := by omega
  have z2 : (x.pos : Int) < (s.size : Int) := by omega
  have z3 : s[x.pos].toNat = nx s x.pos := nx_at hp
  go_enter Tryz.func127, Tryz.ntmps127
  go_upto_region 0 with fail
  go_quiet (fail)
  have hy1 : LxAt (w.drewN nq) xb s x := hx.drewN _
  have hb1 := below_drewN (Below.refl xb w) nq
  clear h1 h2 c0 c1 c3 c4 f1 f3 f4 hx
  generalize w.drewN nq = w1 at *
  obtain ⟨ov, h1, h2, c0, c1, c3, c4, f1, f3, f4⟩ := hy1.facts
  go_wp2_with fail
  go_returns
  exact ⟨rfl, lx_set (y := { x with pos := x.pos + 1 }) hy1 hb1 1 (.int .i64 ((x.pos : Int) + 1)) (by decide) (fun _ => rfl) rfl⟩

set_option maxHeartbeats 2000000 in
set_option maxRecDepth 100000 in
theorem token_bom (xb : Nat) (s : ByteArray) (x : Lx) (w : World) (hx : LxAt w xb s x) (hs : s.size ≤ 1099511627776) (hp : x.pos < s.size) (hn : x.out.length ≤ 1099511627776) (hb : ¬ (nx s x.pos = 32 ∨ nx s x.pos = 9 ∨ nx s x.pos = 10 ∨ nx s x.pos = 13 ∨ nx s x.pos = 44)) (hq : st s x.pos ⟨#[239, 187, 191]⟩ = true) :
    Calls Tryz.prog 127 #[.pointer (some ⟨xb, 0, none⟩)] w fun e w' => e = .returned (.tuple #[]) ∧ LxAt w' xb s ({ x with pos := x.pos + 3, unsure := true }) ∧ Below xb w w' := by
  have n32 : ((nx s x.pos : Int) == 32) = false := by simp; omega
  have n9 : ((nx s x.pos : Int) == 9) = false := by simp; omega
  have n10 : ((nx s x.pos : Int) == 10) = false := by simp; omega
  have n13 : ((nx s x.pos : Int) == 13) = false := by simp; omega
  have n44 : ((nx s x.pos : Int) == 44) = false := by simp; omega
  clear hb
  obtain ⟨ov, h1, h2, c0, c1, c3, c4, f1, f3, f4⟩ := hx.facts
  have z1 : (0 : Int) ≤ (x.pos : Int) := by omega
  have z2 : (x.pos : Int) < (s.size : Int) := by omega
  have z3 : s[x.pos].toNat = nx s x.pos := nx_at hp
  go_enter Tryz.func127, Tryz.ntmps127
  go_upto_region 0 with fail
  go_quiet (fail)
  have hy1 : LxAt (w.drewN nq) xb s x := hx.drewN _
  have hb1 := below_drewN (Below.refl xb w) nq
  clear h1 h2 c0 c1 c3 c4 f1 f3 f4 hx
  generalize w.drewN nq = w1 at *
  obtain ⟨ov, h1, h2, c0, c1, c3, c4, f1, f3, f4⟩ := hy1.facts
  go_upto_region 4 with fail
  have hst := fun W => starts_any s ⟨#[239, 187, 191]⟩ x.pos W hs (by omega) (by decide)
  rw [hq] at hst
  go_quiet ((go_at_call 57; exact Calls.quiet_of_same (hst _)))
  have hy2 : LxAt (w1.drewN nq) xb s x := hy1.drewN _
  have hb2 := below_drewN hb1 nq
  clear h1 h2 c0 c1 c3 c4 f1 f3 f4 hy1 hb1
  generalize w1.drewN nq = w2 at *
  obtain ⟨ov, h1, h2, c0, c1, c3, c4, f1, f3, f4⟩ := hy2.facts
  go_wp2_with fail
  go_returns
  have a1 := lx_set (y := { x with unsure := true }) hy2 hb2 4 (.bool true) (by decide) (fun _ => rfl) rfl
  exact ⟨rfl, lx_set (y := { x with pos := x.pos + 3, unsure := true }) a1.1 a1.2 1 (.int .i64 ((x.pos : Int) + 3)) (by decide) (fun _ => rfl) rfl⟩

set_option maxHeartbeats 2000000 in
set_option maxRecDepth 100000 in
theorem token_comment (xb : Nat) (s : ByteArray) (x : Lx) (w : World) (hx : LxAt w xb s x) (hs : s.size ≤ 1099511627776) (hp : x.pos < s.size) (hn : x.out.length ≤ 1099511627776) (hb : ¬ (nx s x.pos = 32 ∨ nx s x.pos = 9 ∨ nx s x.pos = 10 ∨ nx s x.pos = 13 ∨ nx s x.pos = 44)) (hq : st s x.pos ⟨#[239, 187, 191]⟩ = false) (hc : nx s x.pos = 35) :
    Calls Tryz.prog 127 #[.pointer (some ⟨xb, 0, none⟩)] w fun e w' => e = .returned (.tuple #[]) ∧ LxAt w' xb s (lxCmt s x) ∧ Below xb w w' := by
  have n32 : ((nx s x.pos : Int) == 32) = false := by simp; omega
  have n9 : ((nx s x.pos : Int) == 9) = false := by simp; omega
  have n10 : ((nx s x.pos : Int) == 10) = false := by simp; omega
  have n13 : ((nx s x.pos : Int) == 13) = false := by simp; omega
  have n44 : ((nx s x.pos : Int) == 44) = false := by simp; omega
  clear hb
  obtain ⟨ov, h1, h2, c0, c1, c3, c4, f1, f3, f4⟩ := hx.facts
  have z1 : (0 : Int) ≤ (x.pos : Int) := by omega
  have z2 : (x.pos : Int) < (s.size : Int) := by omega
  have z3 : s[x.pos].toNat = nx s x.pos := nx_at hp
  go_enter Tryz.func127, Tryz.ntmps127
  go_upto_region 0 with fail
  go_quiet (fail)
  have hy1 : LxAt (w.drewN nq) xb s x := hx.drewN _
  have hb1 := below_drewN (Below.refl xb w) nq
  clear h1 h2 c0 c1 c3 c4 f1 f3 f4 hx
  generalize w.drewN nq = w1 at *
  obtain ⟨ov, h1, h2, c0, c1, c3, c4, f1, f3, f4⟩ := hy1.facts
  go_upto_region 4 with fail
  have hst := fun W => starts_any s ⟨#[239, 187, 191]⟩ x.pos W hs (by omega) (by decide)
  rw [hq] at hst
  go_quiet ((go_at_call 57; exact Calls.quiet_of_same (hst _)))
  have hy2 : LxAt (w1.drewN nq) xb s x := hy1.drewN _
  have hb2 := below_drewN hb1 nq
  clear h1 h2 c0 c1 c3 c4 f1 f3 f4 hy1 hb1
  generalize w1.drewN nq = w2 at *
  obtain ⟨ov, h1, h2, c0, c1, c3, c4, f1, f3, f4⟩ := hy2.facts
  go_wp2_with (go_at_call 142; refine (comment_any xb s x w2 hy2 hs (by omega)).mono ?_; rintro e w' ⟨rfl, hl, hb'⟩)
  go_returns
  exact ⟨rfl, hl, hb2.trans hb'⟩

set_option maxHeartbeats 2000000 in
set_option maxRecDepth 100000 in
theorem token_spread (xb : Nat) (s : ByteArray) (x : Lx) (w : World) (hx : LxAt w xb s x) (hs : s.size ≤ 1099511627776) (hp : x.pos < s.size) (hn : x.out.length ≤ 1099511627776) (hb : ¬ (nx s x.pos = 32 ∨ nx s x.pos = 9 ∨ nx s x.pos = 10 ∨ nx s x.pos = 13 ∨ nx s x.pos = 44)) (hq : st s x.pos ⟨#[239, 187, 191]⟩ = false) (h35 : nx s x.pos ≠ 35) (hq2 : st s x.pos ⟨#[46, 46, 46]⟩ = true) :
    Calls Tryz.prog 127 #[.pointer (some ⟨xb, 0, none⟩)] w fun e w' => e = .returned (.tuple #[]) ∧ LxAt w' xb s (x.add 6 (x.pos + 3) ByteArray.empty) ∧ Below xb w w' := by
  have n32 : ((nx s x.pos : Int) == 32) = false := by simp; omega
  have n9 : ((nx s x.pos : Int) == 9) = false := by simp; omega
  have n10 : ((nx s x.pos : Int) == 10) = false := by simp; omega
  have n13 : ((nx s x.pos : Int) == 13) = false := by simp; omega
  have n44 : ((nx s x.pos : Int) == 44) = false := by simp; omega
  have n35 : ((nx s x.pos : Int) == 35) = false := by simp; omega
  clear hb
  obtain ⟨ov, h1, h2, c0, c1, c3, c4, f1, f3, f4⟩ := hx.facts
  have z1 : (0 : Int) ≤ (x.pos : Int) := by omega
  have z2 : (x.pos : Int) < (s.size : Int) := by omega
  have z3 : s[x.pos].toNat = nx s x.pos := nx_at hp
  go_enter Tryz.func127, Tryz.ntmps127
  go_upto_region 0 with fail
  go_quiet (fail)
  have hy1 : LxAt (w.drewN nq) xb s x := hx.drewN _
  have hb1 := below_drewN (Below.refl xb w) nq
  clear h1 h2 c0 c1 c3 c4 f1 f3 f4 hx
  generalize w.drewN nq = w1 at *
  obtain ⟨ov, h1, h2, c0, c1, c3, c4, f1, f3, f4⟩ := hy1.facts
  go_upto_region 4 with fail
  have hst := fun W => starts_any s ⟨#[239, 187, 191]⟩ x.pos W hs (by omega) (by decide)
  rw [hq] at hst
  go_quiet ((go_at_call 57; exact Calls.quiet_of_same (hst _)))
  have hy2 : LxAt (w1.drewN nq) xb s x := hy1.drewN _
  have hb2 := below_drewN hb1 nq
  clear h1 h2 c0 c1 c3 c4 f1 f3 f4 hy1 hb1
  generalize w1.drewN nq = w2 at *
  obtain ⟨ov, h1, h2, c0, c1, c3, c4, f1, f3, f4⟩ := hy2.facts
  go_upto_region 9 with fail
  have hst2 := fun W => starts_any s ⟨#[46, 46, 46]⟩ x.pos W hs (by omega) (by decide)
  rw [hq2] at hst2
  go_quiet ((go_at_call 57; exact Calls.quiet_of_same (hst2 _)))
  have hy3 : LxAt (w2.drewN nq) xb s x := hy2.drewN _
  have hb3 := below_drewN hb2 nq
  clear h1 h2 c0 c1 c3 c4 f1 f3 f4 hy2 hb2
  generalize w2.drewN nq = w3 at *
  obtain ⟨ov, h1, h2, c0, c1, c3, c4, f1, f3, f4⟩ := hy3.facts
  go_wp2_with (go_at_call 143; refine (add_any xb s x 6 (x.pos + 3) ByteArray.empty w3 hy3 hn).mono ?_; rintro e w' ⟨rfl, hl, hb'⟩)
  go_returns
  exact ⟨rfl, hl, hb3.trans hb'⟩

end

end Go.Proofs.YtigpnidffiaigaaGreat
