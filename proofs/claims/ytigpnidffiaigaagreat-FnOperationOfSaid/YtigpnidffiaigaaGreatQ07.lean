/- Walks: escape. -/
import Derived.Test.YtigpnidffiaigaaGreatProg
import Derived.Test.YtigpnidffiaigaaGreatQ06
set_option linter.unusedVariables false
set_option linter.unusedSimpArgs false
namespace Go.Proofs.YtigpnidffiaigaaGreat

section
open Go.RowKit

/-- what stands behind a backslash, and what it is for -/
def escTo (c : Nat) : Option UInt8 :=
  if c = 34 then some 34 else if c = 92 then some 92 else if c = 47 then some 47 else if c = 98 then some 8 else if c = 102 then some 12 else if c = 110 then some 10 else if c = 114 then some 13 else if c = 116 then some 9 else none
/-- hexadecimal digits; or the place of what is none -/
def hexs (s : ByteArray) (k m : Nat) (q : Int) : Option Int × Nat :=
  if h : k < m then (if hexd (nx s k) < 0 then (none, k) else hexs s (k + 1) m (16 * q + hexd (nx s k))) else (some q, m)
termination_by m - k
/-- an escape: its text, how many bytes it has, whether that is unsure -/
def esc (s : ByteArray) (i : Nat) (u : Bool) : ByteArray × Nat × Bool :=
  match escTo (nx s (i + 1)) with
  | some b => (⟨#[b]⟩, 2, u)
  | none => if nx s (i + 1) ≠ 117 then (ByteArray.empty, 0, u) else
    match hexs s (i + 2) (i + 6) 0 with
    | (none, k) => (ByteArray.empty, 0, u || decide (nx s k = 123))
    | (some n, _) => if 55296 ≤ n ∧ n < 57344 then (ByteArray.empty, 0, true) else (Utf8.encode n, 6, u || decide (n = 0))

theorem hexd_le (c : Nat) : -1 ≤ hexd c ∧ hexd c ≤ 15 := by unfold hexd; (repeat' split) <;> omega
theorem LxAt.sm {w w' : World} {xb : Nat} {s : ByteArray} {x : Lx} (h : LxAt w xb s x) (hs : Sm [] w w') : LxAt w' xb s x := by
  obtain ⟨ov, h1, h2⟩ := h
  exact ⟨ov, hs.obj h1 (by simp), h2.kept (row := none) ⟨hs.os, hs.tape, hs.output, hs.size, fun k hk _ => hs.block k hk (by simp)⟩ (by cases h : ov.ownBlock with | none => exact .inl rfl | some b => exact .inr (by simp))⟩

def escFrom (j : Nat) : Nat := match j with | 0 => 34 | 1 => 92 | 2 => 47 | 3 => 98 | 4 => 102 | 5 => 110 | 6 => 114 | _ => 116
theorem esc_step {c k : Nat} (hn : ∀ j, j < k → escFrom j ≠ c) (h : escFrom k ≠ c) : ∀ j, j < k + 1 → escFrom j ≠ c := by
  intro j hj
  by_cases e : j = k
  · rw [e]; exact h
  · exact hn j (by omega)
def EscRel (c : Nat) (v : Value) : Prop := ∃ k : Nat, k ≤ 8 ∧ v = .int .i64 (k : Int) ∧ Hid (∀ j, j < k → escFrom j ≠ c)
def HexRel (s : ByteArray) (i : Nat) (v u : Value) : Prop := ∃ (k : Nat) (q : Int), i + 2 ≤ k ∧ k ≤ i + 6 ∧ v = .int .i64 q ∧ u = .int .i64 (k : Int) ∧ 0 ≤ q ∧ Hid (q < 16 ^ (k - (i + 2))) ∧ Hid (hexs s (i + 2) (i + 6) 0 = hexs s k (i + 6) q)

set_option maxHeartbeats 2000000 in
set_option maxRecDepth 100000 in
theorem escape_any (xb : Nat) (s : ByteArray) (i : Nat) (x : Lx) (w : World) (hx : LxAt w xb s x) (hs : s.size ≤ 1099511627776) (hi : i ≤ 1099511627776) :
    Calls Tryz.prog 158 #[.pointer (some ⟨xb, 0, none⟩), .int .i64 (i : Int)] w fun e w' => e = .returned (.tuple #[.string (esc s i x.unsure).1, .int .i64 ((esc s i x.unsure).2.1 : Int)]) ∧ LxAt w' xb s { x with unsure := (esc s i x.unsure).2.2 } ∧ Below xb w w' := by
  obtain ⟨ov, h1, h2, c0, c1, c3, c4, f1, f3, f4⟩ := hx.facts
  obtain ⟨c, hc⟩ : ∃ c, nx s (i + 1) = c := ⟨_, rfl⟩
  have hcl : c < 256 := by rw [← hc]; exact nx_lt _ _
  go_enter Tryz.func158, Tryz.ntmps158
  have nxt := next_z xb s ((i : Int) + 1) w (i := i + 1) rfl c0 (by omega)
  rw [hc] at nxt
  go_wp2_with (go_at_call 145; refine nxt.mono ?_; rintro e w' ⟨rfl, hww⟩; rw [hww]; clear hww w')
  go_loop [9] (fun v => EscRel c v) (fun v => 8 - (intOf v).toNat)
  case atStart => exact ⟨0, by omega, rfl, fun j h => by omega⟩
  case round =>
    obtain ⟨k, hk, rfl, hn⟩ := hrel
    have t0 : ((({ data := #[34, 92, 47, 98, 102, 110, 114, 116] } : ByteArray)[0]'(by decide))).toNat = 34 := rfl
    have t1 : ((({ data := #[34, 92, 47, 98, 102, 110, 114, 116] } : ByteArray)[1]'(by decide))).toNat = 92 := rfl
    have t2 : ((({ data := #[34, 92, 47, 98, 102, 110, 114, 116] } : ByteArray)[2]'(by decide))).toNat = 47 := rfl
    have t3 : ((({ data := #[34, 92, 47, 98, 102, 110, 114, 116] } : ByteArray)[3]'(by decide))).toNat = 98 := rfl
    have t4 : ((({ data := #[34, 92, 47, 98, 102, 110, 114, 116] } : ByteArray)[4]'(by decide))).toNat = 102 := rfl
    have t5 : ((({ data := #[34, 92, 47, 98, 102, 110, 114, 116] } : ByteArray)[5]'(by decide))).toNat = 110 := rfl
    have t6 : ((({ data := #[34, 92, 47, 98, 102, 110, 114, 116] } : ByteArray)[6]'(by decide))).toNat = 114 := rfl
    have t7 : ((({ data := #[34, 92, 47, 98, 102, 110, 114, 116] } : ByteArray)[7]'(by decide))).toNat = 116 := rfl
    by_cases h8 : k = 8
    · subst h8
      have e1 : escTo c = none := by
        have := hn.out
        unfold escTo
        have a0 := this 0 (by omega); have a1 := this 1 (by omega); have a2 := this 2 (by omega); have a3 := this 3 (by omega)
        have a4 := this 4 (by omega); have a5 := this 5 (by omega); have a6 := this 6 (by omega); have a7 := this 7 (by omega)
        simp only [escFrom] at a0 a1 a2 a3 a4 a5 a6 a7
        (repeat' split) <;> first | rfl | omega
      have he : Hid (esc s i x.unsure = if c ≠ 117 then (ByteArray.empty, 0, x.unsure) else
          match hexs s (i + 2) (i + 6) 0 with
          | (none, k) => (ByteArray.empty, 0, x.unsure || decide (nx s k = 123))
          | (some n, _) => if 55296 ≤ n ∧ n < 57344 then (ByteArray.empty, 0, true) else (Utf8.encode n, 6, x.unsure || decide (n = 0))) := by unfold Hid esc; rw [hc, e1]
      clear e1 hn
      by_cases h117 : c = 117
      · have hg : Hid (esc s i x.unsure = match hexs s (i + 2) (i + 6) 0 with
          | (none, k) => (ByteArray.empty, 0, x.unsure || decide (nx s k = 123))
          | (some n, _) => if 55296 ≤ n ∧ n < 57344 then (ByteArray.empty, 0, true) else (Utf8.encode n, 6, x.unsure || decide (n = 0))) := by unfold Hid; rw [he.out, if_neg (by omega)]
        clear he nxt hc hcl t0 t1 t2 t3 t4 t5 t6 t7
        subst h117
        go_wp2_with fail
        go_loop [10, 11, 12] (fun v u _ => HexRel s i v u) (fun _ u _ => i + 6 - (intOf u).toNat)
        case atStart => exact ⟨i + 2, 0, by omega, by omega, rfl, rfl, by omega, by unfold Hid; simp, rfl⟩
        case round =>
          obtain ⟨k, q, hk1, hk2, rfl, rfl, hq0, hq1, hh⟩ := hrel
          have hq2 : q < 65536 := by
            have := hq1.out
            have : k - (i + 2) = 0 ∨ k - (i + 2) = 1 ∨ k - (i + 2) = 2 ∨ k - (i + 2) = 3 ∨ k - (i + 2) = 4 := by omega
            rcases this with h | h | h | h | h <;> (rw [h] at hq1; have := hq1.out; omega)
          by_cases hlt : k < i + 6
          · have z1 : (k : Int) < (i : Int) + 6 := by omega
            have hl := hexd_le (nx s k)
            have hnl := nx_lt s k
            by_cases hneg : hexd (nx s k) < 0
            · have hg' : Hid (esc s i x.unsure = (ByteArray.empty, 0, x.unsure || decide (nx s k = 123))) := by unfold Hid; rw [hg.out, hh.out, hexs, dif_pos hlt, if_pos hneg]
              clear hg hh hq1
              have hneg' : decide (hexd (nx s k) < 0) = true := decide_eq_true hneg
              cases hu : x.unsure with
              | true =>
                have hf : Hid (esc s i x.unsure = (ByteArray.empty, 0, true)) := by unfold Hid; rw [hg'.out, hu]; rfl
                rw [hu] at c4
                go_wp2_with (first | (go_at_call 145; refine (next_any xb s k w c0 (by omega)).mono ?_; rintro e w' ⟨rfl, hww⟩; rw [hww]; clear hww w') | (go_at_call 173; refine (hexadecimal_any (nx s k) hnl w).mono ?_; rintro e w' ⟨rfl, hww⟩; rw [hww]; clear hww w'))
                go_ret2
                rw [hf.out]
                exact ⟨rfl, lx_set (y := { x with unsure := true }) hx (Below.refl _ _) 4 (.bool true) (by decide) (fun _ => rfl) rfl⟩
              | false =>
                have hf : Hid (esc s i x.unsure = (ByteArray.empty, 0, decide (nx s k = 123))) := by unfold Hid; rw [hg'.out, hu]; rfl
                rw [hu] at c4
                obtain ⟨bb, hbb⟩ : ∃ bb, decide (nx s k = 123) = bb := ⟨_, rfl⟩
                have hb2 : ((nx s k : Int) == 123) = bb := by rw [← hbb, Bool.eq_iff_iff]; simp; omega
                rw [hbb] at hf
                clear hbb
                go_wp2_with (first | (go_at_call 145; refine (next_any xb s k w c0 (by omega)).mono ?_; rintro e w' ⟨rfl, hww⟩; rw [hww]; clear hww w') | (go_at_call 173; refine (hexadecimal_any (nx s k) hnl w).mono ?_; rintro e w' ⟨rfl, hww⟩; rw [hww]; clear hww w'))
                go_ret2
                rw [hf.out]
                exact ⟨rfl, lx_set (y := { x with unsure := bb }) hx (Below.refl _ _) 4 (.bool bb) (by decide) (fun _ => rfl) rfl⟩
            · have hh' : Hid (hexs s (i + 2) (i + 6) 0 = hexs s (k + 1) (i + 6) (16 * q + hexd (nx s k))) := by unfold Hid; rw [hh.out, hexs, dif_pos hlt, if_neg hneg]
              have hq3 : Hid (16 * q + hexd (nx s k) < 16 ^ (k + 1 - (i + 2))) := by
                unfold Hid
                rw [show k + 1 - (i + 2) = (k - (i + 2)) + 1 by omega, Int.pow_succ]
                have := hq1.out
                omega
              clear hh hq1
              go_wp2_with (first | (go_at_call 145; refine (next_any xb s k w c0 (by omega)).mono ?_; rintro e w' ⟨rfl, hww⟩; rw [hww]; clear hww w') | (go_at_call 173; refine (hexadecimal_any (nx s k) hnl w).mono ?_; rintro e w' ⟨rfl, hww⟩; rw [hww]; clear hww w'))
              go_round
              case rel => exact ⟨k + 1, _, by omega, by omega, rfl, by go_num, by omega, hq3, hh'⟩
              case measure => simp [intOf]; omega
          · obtain rfl : k = i + 6 := by omega
            have hg' : Hid (esc s i x.unsure = if 55296 ≤ q ∧ q < 57344 then (ByteArray.empty, 0, true) else (Utf8.encode q, 6, x.unsure || decide (q = 0))) := by unfold Hid; rw [hg.out, hh.out, hexs, dif_neg hlt]
            clear hg hh hq1
            by_cases hlo : 55296 ≤ q
            · by_cases hhi : q < 57344
              · have hf : Hid (esc s i x.unsure = (ByteArray.empty, 0, true)) := by unfold Hid; rw [hg'.out, if_pos ⟨hlo, hhi⟩]
                go_wp2_with fail
                go_ret2
                rw [hf.out]
                exact ⟨rfl, lx_set (y := { x with unsure := true }) hx (Below.refl _ _) 4 (.bool true) (by decide) (fun _ => rfl) rfl⟩
              · have hf0 : Hid (esc s i x.unsure = (Utf8.encode q, 6, x.unsure || decide (q = 0))) := by unfold Hid; rw [hg'.out, if_neg (by omega)]
                clear hg'
                cases hu : x.unsure with
                | true =>
                  have hf : Hid (esc s i x.unsure = (Utf8.encode q, 6, true)) := by unfold Hid; rw [hf0.out, hu]; rfl
                  rw [hu] at c4
                  have st := lx_set (y := { x with unsure := true }) hx (Below.refl _ _) 4 (.bool true) (by decide) (fun _ => rfl) rfl
                  go_wp2_with (go_at_call 174; refine (Encoded_any q _ (by omega) (by omega)).mono ?_; rintro e w' ⟨rfl, hsm⟩)
                  go_ret2
                  rw [hf.out]
                  exact ⟨rfl, st.1.sm hsm, st.2.trans (hsm.below.mono (by have := lt_of_block h1; simp; omega))⟩
                | false =>
                  have hf : Hid (esc s i x.unsure = (Utf8.encode q, 6, (q == 0))) := by unfold Hid; rw [hf0.out, hu, Bool.false_or]; congr 2
                  rw [hu] at c4
                  have st := lx_set (y := { x with unsure := (q == 0) }) hx (Below.refl _ _) 4 (.bool (q == 0)) (by decide) (fun _ => rfl) rfl
                  go_wp2_with (go_at_call 174; refine (Encoded_any q _ (by omega) (by omega)).mono ?_; rintro e w' ⟨rfl, hsm⟩)
                  go_ret2
                  rw [hf.out]
                  exact ⟨rfl, st.1.sm hsm, st.2.trans (hsm.below.mono (by have := lt_of_block h1; simp; omega))⟩
            · have hf0 : Hid (esc s i x.unsure = (Utf8.encode q, 6, x.unsure || decide (q = 0))) := by unfold Hid; rw [hg'.out, if_neg (by omega)]
              clear hg'
              cases hu : x.unsure with
              | true =>
                have hf : Hid (esc s i x.unsure = (Utf8.encode q, 6, true)) := by unfold Hid; rw [hf0.out, hu]; rfl
                rw [hu] at c4
                have st := lx_set (y := { x with unsure := true }) hx (Below.refl _ _) 4 (.bool true) (by decide) (fun _ => rfl) rfl
                go_wp2_with (go_at_call 174; refine (Encoded_any q _ (by omega) (by omega)).mono ?_; rintro e w' ⟨rfl, hsm⟩)
                go_ret2
                rw [hf.out]
                exact ⟨rfl, st.1.sm hsm, st.2.trans (hsm.below.mono (by have := lt_of_block h1; simp; omega))⟩
              | false =>
                have hf : Hid (esc s i x.unsure = (Utf8.encode q, 6, (q == 0))) := by unfold Hid; rw [hf0.out, hu, Bool.false_or]; congr 2
                rw [hu] at c4
                have st := lx_set (y := { x with unsure := (q == 0) }) hx (Below.refl _ _) 4 (.bool (q == 0)) (by decide) (fun _ => rfl) rfl
                go_wp2_with (go_at_call 174; refine (Encoded_any q _ (by omega) (by omega)).mono ?_; rintro e w' ⟨rfl, hsm⟩)
                go_ret2
                rw [hf.out]
                exact ⟨rfl, st.1.sm hsm, st.2.trans (hsm.below.mono (by have := lt_of_block h1; simp; omega))⟩
      · have h117' : ((c : Int) != 117) = true := by simp; omega
        have hf : Hid (esc s i x.unsure = (ByteArray.empty, 0, x.unsure)) := by unfold Hid; rw [he.out, if_pos h117]
        clear he
        go_wp2
        go_ret2
        rw [hf.out]
        exact ⟨rfl, hx, Below.refl _ _⟩
    · have hk8 : k = 0 ∨ k = 1 ∨ k = 2 ∨ k = 3 ∨ k = 4 ∨ k = 5 ∨ k = 6 ∨ k = 7 := by omega
      rcases hk8 with rfl | rfl | rfl | rfl | rfl | rfl | rfl | rfl
      · by_cases hq : c = 34
        · have hf : Hid (esc s i x.unsure = (⟨#[34]⟩, 2, x.unsure)) := by unfold Hid esc; rw [hc, hq]; rfl
          have hq' : ((c : Int) == 34) = true := by simp; omega
          have hq'' : ((34 : Int) == (c : Int)) = true := by simp; omega
          clear hc
          subst hq
          go_wp2
          go_ret2
          rw [hf.out]
          exact ⟨rfl, hx, Below.refl _ _⟩
        · have hq' : ((34 : Int) == (c : Int)) = false := by simp; omega
          have hn' : Hid (∀ j, j < 1 → escFrom j ≠ c) := esc_step hn.out (fun h => hq h.symm)
          clear hn
          go_wp2
          go_round
          case rel => exact ⟨1, by omega, rfl, hn'⟩
          case measure => simp [intOf]
      · by_cases hq : c = 92
        · have hf : Hid (esc s i x.unsure = (⟨#[92]⟩, 2, x.unsure)) := by unfold Hid esc; rw [hc, hq]; rfl
          have hq' : ((c : Int) == 92) = true := by simp; omega
          have hq'' : ((92 : Int) == (c : Int)) = true := by simp; omega
          clear hc
          subst hq
          go_wp2
          go_ret2
          rw [hf.out]
          exact ⟨rfl, hx, Below.refl _ _⟩
        · have hq' : ((92 : Int) == (c : Int)) = false := by simp; omega
          have hn' : Hid (∀ j, j < 2 → escFrom j ≠ c) := esc_step hn.out (fun h => hq h.symm)
          clear hn
          go_wp2
          go_round
          case rel => exact ⟨2, by omega, rfl, hn'⟩
          case measure => simp [intOf]
      · by_cases hq : c = 47
        · have hf : Hid (esc s i x.unsure = (⟨#[47]⟩, 2, x.unsure)) := by unfold Hid esc; rw [hc, hq]; rfl
          have hq' : ((c : Int) == 47) = true := by simp; omega
          have hq'' : ((47 : Int) == (c : Int)) = true := by simp; omega
          clear hc
          subst hq
          go_wp2
          go_ret2
          rw [hf.out]
          exact ⟨rfl, hx, Below.refl _ _⟩
        · have hq' : ((47 : Int) == (c : Int)) = false := by simp; omega
          have hn' : Hid (∀ j, j < 3 → escFrom j ≠ c) := esc_step hn.out (fun h => hq h.symm)
          clear hn
          go_wp2
          go_round
          case rel => exact ⟨3, by omega, rfl, hn'⟩
          case measure => simp [intOf]
      · by_cases hq : c = 98
        · have hf : Hid (esc s i x.unsure = (⟨#[8]⟩, 2, x.unsure)) := by unfold Hid esc; rw [hc, hq]; rfl
          have hq' : ((c : Int) == 98) = true := by simp; omega
          have hq'' : ((98 : Int) == (c : Int)) = true := by simp; omega
          clear hc
          subst hq
          go_wp2
          go_ret2
          rw [hf.out]
          exact ⟨rfl, hx, Below.refl _ _⟩
        · have hq' : ((98 : Int) == (c : Int)) = false := by simp; omega
          have hn' : Hid (∀ j, j < 4 → escFrom j ≠ c) := esc_step hn.out (fun h => hq h.symm)
          clear hn
          go_wp2
          go_round
          case rel => exact ⟨4, by omega, rfl, hn'⟩
          case measure => simp [intOf]
      · by_cases hq : c = 102
        · have hf : Hid (esc s i x.unsure = (⟨#[12]⟩, 2, x.unsure)) := by unfold Hid esc; rw [hc, hq]; rfl
          have hq' : ((c : Int) == 102) = true := by simp; omega
          have hq'' : ((102 : Int) == (c : Int)) = true := by simp; omega
          clear hc
          subst hq
          go_wp2
          go_ret2
          rw [hf.out]
          exact ⟨rfl, hx, Below.refl _ _⟩
        · have hq' : ((102 : Int) == (c : Int)) = false := by simp; omega
          have hn' : Hid (∀ j, j < 5 → escFrom j ≠ c) := esc_step hn.out (fun h => hq h.symm)
          clear hn
          go_wp2
          go_round
          case rel => exact ⟨5, by omega, rfl, hn'⟩
          case measure => simp [intOf]
      · by_cases hq : c = 110
        · have hf : Hid (esc s i x.unsure = (⟨#[10]⟩, 2, x.unsure)) := by unfold Hid esc; rw [hc, hq]; rfl
          have hq' : ((c : Int) == 110) = true := by simp; omega
          have hq'' : ((110 : Int) == (c : Int)) = true := by simp; omega
          clear hc
          subst hq
          go_wp2
          go_ret2
          rw [hf.out]
          exact ⟨rfl, hx, Below.refl _ _⟩
        · have hq' : ((110 : Int) == (c : Int)) = false := by simp; omega
          have hn' : Hid (∀ j, j < 6 → escFrom j ≠ c) := esc_step hn.out (fun h => hq h.symm)
          clear hn
          go_wp2
          go_round
          case rel => exact ⟨6, by omega, rfl, hn'⟩
          case measure => simp [intOf]
      · by_cases hq : c = 114
        · have hf : Hid (esc s i x.unsure = (⟨#[13]⟩, 2, x.unsure)) := by unfold Hid esc; rw [hc, hq]; rfl
          have hq' : ((c : Int) == 114) = true := by simp; omega
          have hq'' : ((114 : Int) == (c : Int)) = true := by simp; omega
          clear hc
          subst hq
          go_wp2
          go_ret2
          rw [hf.out]
          exact ⟨rfl, hx, Below.refl _ _⟩
        · have hq' : ((114 : Int) == (c : Int)) = false := by simp; omega
          have hn' : Hid (∀ j, j < 7 → escFrom j ≠ c) := esc_step hn.out (fun h => hq h.symm)
          clear hn
          go_wp2
          go_round
          case rel => exact ⟨7, by omega, rfl, hn'⟩
          case measure => simp [intOf]
      · by_cases hq : c = 116
        · have hf : Hid (esc s i x.unsure = (⟨#[9]⟩, 2, x.unsure)) := by unfold Hid esc; rw [hc, hq]; rfl
          have hq' : ((c : Int) == 116) = true := by simp; omega
          have hq'' : ((116 : Int) == (c : Int)) = true := by simp; omega
          clear hc
          subst hq
          go_wp2
          go_ret2
          rw [hf.out]
          exact ⟨rfl, hx, Below.refl _ _⟩
        · have hq' : ((116 : Int) == (c : Int)) = false := by simp; omega
          have hn' : Hid (∀ j, j < 8 → escFrom j ≠ c) := esc_step hn.out (fun h => hq h.symm)
          clear hn
          go_wp2
          go_round
          case rel => exact ⟨8, by omega, rfl, hn'⟩
          case measure => simp [intOf]

end

end Go.Proofs.YtigpnidffiaigaaGreat
