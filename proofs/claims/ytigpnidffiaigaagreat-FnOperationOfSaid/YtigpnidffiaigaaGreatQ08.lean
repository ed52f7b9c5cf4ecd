/- Walks: text. -/
import Derived.Test.YtigpnidffiaigaaGreatProg
import Derived.Test.YtigpnidffiaigaaGreatQ07
set_option linter.unusedVariables false
set_option linter.unusedSimpArgs false
namespace Go.Proofs.YtigpnidffiaigaaGreat

section
open Go.RowKit

theorem esc_le (s : ByteArray) (i : Nat) (u : Bool) : (esc s i u).1.size ≤ (esc s i u).2.1 ∧ (esc s i u).2.1 ≤ 6 := by
  unfold esc
  split
  · exact ⟨show 1 ≤ 2 by decide, show 2 ≤ 6 by decide⟩
  · split
    · exact ⟨Nat.le_refl 0, show 0 ≤ 6 by decide⟩
    · split
      · exact ⟨Nat.le_refl 0, show 0 ≤ 6 by decide⟩
      · split
        · exact ⟨Nat.le_refl 0, show 0 ≤ 6 by decide⟩
        · exact ⟨Nat.le_trans (encode_size_le _) (show 4 ≤ 6 by decide), Nat.le_refl 6⟩

/-- a string in quotes -/
def lxText (s : ByteArray) (x : Lx) (k : Nat) (o : ByteArray) : Lx :=
  if h : k < s.size then
    if nx s k = 34 then x.add 18 (k + 1) o else
    if nx s k = 10 ∨ nx s k = 13 then x.fail else
    if nx s k = 92 then
      (if h2 : (esc s k x.unsure).2.1 = 0 then { x with unsure := (esc s k x.unsure).2.2, bad := true } else
        lxText s { x with unsure := (esc s k x.unsure).2.2 } (k + (esc s k x.unsure).2.1) (o ++ (esc s k x.unsure).1)) else
    if h3 : (pt s k).2 = 0 then { x with unsure := true, bad := true } else
    if srcB (pt s k).1 = false then x.fail else
    lxText s { x with unsure := x.unsure || !srcS (pt s k).1 } (k + (pt s k).2) (o ++ s.extract k (k + (pt s k).2))
  else x.fail
termination_by s.size - k
decreasing_by
  · omega
  · omega

def TextRel (w : World) (xb : Nat) (s : ByteArray) (x : Lx) (g : Nat) (v u : Value) (wr : World) : Prop :=
  ∃ (k : Nat) (o : ByteArray) (y : Lx), v = .string o ∧ u = .int .i64 (k : Int) ∧ LxAt wr xb s y ∧ Below xb w wr ∧ Hid (lxText s x (x.pos + 1) ByteArray.empty = lxText s y k o) ∧ k ≤ s.size + 6 ∧ o.size ≤ k ∧ y.out = x.out ∧ g = s.size - k

set_option maxHeartbeats 2000000 in
set_option maxRecDepth 100000 in
theorem text_any (xb : Nat) (s : ByteArray) (x : Lx) (w : World) (hx : LxAt w xb s x) (hs : s.size ≤ 1099511627776) (hp : x.pos ≤ s.size) (hn : x.out.length ≤ 1099511627776) :
    Calls Tryz.prog 148 #[.pointer (some ⟨xb, 0, none⟩)] w fun e w' => e = .returned (.tuple #[]) ∧ LxAt w' xb s (lxText s x (x.pos + 1) ByteArray.empty) ∧ Below xb w w' := by
  obtain ⟨ov, h1, h2, c0, c1, c3, c4, f1, f3, f4⟩ := hx.facts
  go_enter Tryz.func148, Tryz.ntmps148
  go_wp2_with fail
  go_loopg [2, 3, 4, 5, 6, 7, 8, 9, 10] (s.size - (x.pos + 1)) (fun g v u _ _ _ _ _ _ _ wr => TextRel w xb s x g v u wr)
  case atStart => exact ⟨x.pos + 1, ByteArray.empty, x, rfl, rfl, hx, Below.refl _ _, rfl, by omega, Nat.zero_le _, rfl, rfl⟩
  case round =>
    obtain ⟨k, o, y, rfl, rfl, hy, hb, hd, hk, ho, hyo, rfl⟩ := hrel
    clear h1 h2 c0 c1 c3 c4 f1 f3 f4 hx
    obtain ⟨ov, h1, h2, c0, c1, c3, c4, f1, f3, f4⟩ := hy.facts
    have hnl := nx_lt s k
    by_cases q1 : k < s.size
    · have z1 : (0 : Int) ≤ (k : Int) := by omega
      have z2 : (k : Int) < (s.size : Int) := by omega
      have z3 : s[k].toNat = nx s k := nx_at q1
      by_cases q34 : nx s k = 34
      · have hf : Hid (lxText s x (x.pos + 1) ByteArray.empty = y.add 18 (k + 1) o) := hd.out.trans (by rw [lxText, dif_pos q1, if_pos q34])
        go_wp2_with (go_at_call 143; refine (add_any xb s y 18 (k + 1) o wr hy (by rw [hyo]; exact hn)).mono ?_; rintro e w' ⟨rfl, hl, hb'⟩)
        go_returns
        exact ⟨rfl, by rw [hf.out]; exact hl, hb.trans hb'⟩
      have e34 : ((nx s k : Int) == 34) = false := by simp; omega
      by_cases q10 : nx s k = 10
      · have hf : Hid (lxText s x (x.pos + 1) ByteArray.empty = y.fail) := hd.out.trans (by rw [lxText, dif_pos q1, if_neg q34, if_pos (.inl q10)])
        go_wp2_with (go_at_call 149; refine (lxfail_any xb s y wr hy).mono ?_; rintro e w' ⟨rfl, hl, hb'⟩)
        go_returns
        exact ⟨rfl, by rw [hf.out]; exact hl, hb.trans hb'⟩
      have e10 : ((nx s k : Int) == 10) = false := by simp; omega
      by_cases q13 : nx s k = 13
      · have hf : Hid (lxText s x (x.pos + 1) ByteArray.empty = y.fail) := hd.out.trans (by rw [lxText, dif_pos q1, if_neg q34, if_pos (.inr q13)])
        go_wp2_with (go_at_call 149; refine (lxfail_any xb s y wr hy).mono ?_; rintro e w' ⟨rfl, hl, hb'⟩)
        go_returns
        exact ⟨rfl, by rw [hf.out]; exact hl, hb.trans hb'⟩
      have e13 : ((nx s k : Int) == 13) = false := by simp; omega
      by_cases q92 : nx s k = 92
      · have hes := esc_le s k y.unsure
        have hcall := escape_any xb s k y wr hy hs (by omega)
        have hd1 := hd.out.trans (by rw [lxText, dif_pos q1, if_neg q34, if_neg (by omega), if_pos q92])
        obtain ⟨t, n, u, he⟩ : ∃ t n u, esc s k y.unsure = (t, n, u) := ⟨_, _, _, rfl⟩
        rw [he] at hes hcall hd1
        dsimp only at hes hcall hd1
        obtain ⟨i1, i2⟩ := hes
        clear he hd
        by_cases qn : n = 0
        · subst qn
          rw [dif_pos rfl] at hd1
          have hf : Hid (lxText s x (x.pos + 1) ByteArray.empty = { y with unsure := u, bad := true }) := hd1
          clear hd1
          go_wp2_with (first | (go_at_call 158; refine hcall.mono ?_; rintro e w1 ⟨rfl, hl1, hb1⟩) | (go_at_call 149; refine (lxfail_any xb s _ _ hl1).mono ?_; rintro e w' ⟨rfl, hl, hb'⟩))
          go_returns
          exact ⟨rfl, by rw [hf.out]; exact hl, hb.trans (hb1.trans hb')⟩
        · rw [dif_neg qn] at hd1
          have hd2 : Hid (lxText s x (x.pos + 1) ByteArray.empty = lxText s { y with unsure := u } (k + n) (o ++ t)) := hd1
          clear hd1
          have en : ((n : Int) == 0) = false := by simp; omega
          have hml : o.size + t.size ≤ maxLen := by unfold maxLen; omega
          go_wp2_with (go_at_call 158; refine hcall.mono ?_; rintro e w1 ⟨rfl, hl1, hb1⟩)
          go_roundg (s.size - (k + n))
          case measure => omega
          case rel => exact ⟨k + n, o ++ t, _, rfl, by go_num, hl1, hb.trans hb1, hd2, by omega, by rw [ByteArray.size_append]; omega, hyo, rfl⟩
      have e92 : ((nx s k : Int) == 92) = false := by simp; omega
      have hok := pt_ok s k
      have hpt := fun W => point_any s k W hs q1
      have hd1 := hd.out.trans (by rw [lxText, dif_pos q1, if_neg q34, if_neg (by omega), if_neg q92])
      obtain ⟨c, n, hcn⟩ : ∃ c n, pt s k = (c, n) := ⟨_, _, rfl⟩
      rw [hcn] at hok hpt hd1
      dsimp only at hok hpt hd1
      clear hcn hd
      by_cases qn : n = 0
      · subst qn
        rw [dif_pos rfl] at hd1
        have hf : Hid (lxText s x (x.pos + 1) ByteArray.empty = { y with unsure := true, bad := true }) := hd1
        clear hd1 hok
        have st := lx_set (y := { y with unsure := true }) hy hb 4 (.bool true) (by decide) (fun _ => rfl) rfl
        cases hu : y.unsure with
        | true =>
          rw [hu] at c4
          go_wp2_with (first | (go_at_call 56; refine (hpt _).mono ?_; rintro e w' ⟨rfl, hww⟩; rw [hww]; clear hww w') | (go_at_call 156; refine (source_any c _).mono ?_; rintro e w' ⟨rfl, hww⟩; rw [hww]; clear hww w') | (go_at_call 149; refine (lxfail_any xb s _ _ st.1).mono ?_; rintro e w' ⟨rfl, hl, hb'⟩))
          go_returns
          exact ⟨rfl, by rw [hf.out]; exact hl, st.2.trans hb'⟩
        | false =>
          rw [hu] at c4
          go_wp2_with (first | (go_at_call 56; refine (hpt _).mono ?_; rintro e w' ⟨rfl, hww⟩; rw [hww]; clear hww w') | (go_at_call 156; refine (source_any c _).mono ?_; rintro e w' ⟨rfl, hww⟩; rw [hww]; clear hww w') | (go_at_call 149; refine (lxfail_any xb s _ _ st.1).mono ?_; rintro e w' ⟨rfl, hl, hb'⟩))
          go_returns
          exact ⟨rfl, by rw [hf.out]; exact hl, st.2.trans hb'⟩
      rw [dif_neg qn] at hd1
      have hok := hok qn q1
      obtain ⟨k1, k2, k3, k4⟩ := hok
      have en : ((n : Int) == 0) = false := by simp; omega
      cases hsb : srcB c with
      | false =>
        rw [hsb, if_pos rfl] at hd1
        have hf : Hid (lxText s x (x.pos + 1) ByteArray.empty = y.fail) := hd1
        clear hd1
        cases hu : y.unsure with
        | true =>
          rw [hu] at c4
          have st := lx_set (y := { y with unsure := true }) hy hb 4 (.bool true) (by decide) (fun _ => rfl) rfl
          go_wp2_with (first | (go_at_call 56; refine (hpt _).mono ?_; rintro e w' ⟨rfl, hww⟩; rw [hww]; clear hww w') | (go_at_call 156; refine (source_any c _).mono ?_; rintro e w' ⟨rfl, hww⟩; rw [hww]; clear hww w') | (go_at_call 149; refine (lxfail_any xb s _ _ st.1).mono ?_; rintro e w' ⟨rfl, hl, hb'⟩))
          go_returns
          refine ⟨rfl, ?_, st.2.trans hb'⟩
          rw [hf.out, show y.fail = Lx.fail { y with unsure := true } by rw [← hu]]; exact hl
        | false =>
          rw [hu] at c4
          have st := lx_set (y := { y with unsure := false }) hy hb 4 (.bool false) (by decide) (fun _ => rfl) rfl
          go_wp2_with (first | (go_at_call 56; refine (hpt _).mono ?_; rintro e w' ⟨rfl, hww⟩; rw [hww]; clear hww w') | (go_at_call 156; refine (source_any c _).mono ?_; rintro e w' ⟨rfl, hww⟩; rw [hww]; clear hww w') | (go_at_call 149; refine (lxfail_any xb s _ _ st.1).mono ?_; rintro e w' ⟨rfl, hl, hb'⟩))
          go_returns
          refine ⟨rfl, ?_, st.2.trans hb'⟩
          rw [hf.out, show y.fail = Lx.fail { y with unsure := false } by rw [← hu]]; exact hl
      | true =>
        rw [hsb, if_neg (by simp)] at hd1
        have hd2 : Hid (lxText s x (x.pos + 1) ByteArray.empty = lxText s { y with unsure := y.unsure || !srcS c } (k + n) (o ++ s.extract k (k + n))) := hd1
        clear hd1
        have hsz : (s.extract k (k + n)).size = n := by rw [ByteArray.size_extract]; omega
        have hml : o.size + (s.extract k (k + n)).size ≤ maxLen := by unfold maxLen; omega
        have hml2 : o.size + n ≤ maxLen := by unfold maxLen; omega
        have z4 : (k : Int) ≤ (k : Int) + (n : Int) := by omega
        have z5 : (k : Int) + (n : Int) ≤ (s.size : Int) := by omega
        cases hu : y.unsure with
        | true =>
          rw [hu] at c4 hd2
          have st := lx_set (y := { y with unsure := true }) hy hb 4 (.bool true) (by decide) (fun _ => rfl) rfl
          go_wp2_with (first | (go_at_call 56; refine (hpt _).mono ?_; rintro e w' ⟨rfl, hww⟩; rw [hww]; clear hww w') | (go_at_call 156; refine (source_any c _).mono ?_; rintro e w' ⟨rfl, hww⟩; rw [hww]; clear hww w'))
          go_roundg (s.size - (k + n))
          case measure => omega
          case rel => exact ⟨k + n, _, _, rfl, by go_num, st.1, st.2, hd2, by omega, by rw [ByteArray.size_append]; omega, hyo, rfl⟩
        | false =>
          rw [hu] at c4 hd2
          cases hss : srcS c with
          | true =>
            rw [hss] at hd2
            have st := lx_set (y := { y with unsure := false }) hy hb 4 (.bool false) (by decide) (fun _ => rfl) rfl
            go_wp2_with (first | (go_at_call 56; refine (hpt _).mono ?_; rintro e w' ⟨rfl, hww⟩; rw [hww]; clear hww w') | (go_at_call 156; refine (source_any c _).mono ?_; rintro e w' ⟨rfl, hww⟩; rw [hww]; clear hww w'))
            go_roundg (s.size - (k + n))
            case measure => omega
            case rel => exact ⟨k + n, _, _, rfl, by go_num, st.1, st.2, hd2, by omega, by rw [ByteArray.size_append]; omega, hyo, rfl⟩
          | false =>
            rw [hss] at hd2
            have st := lx_set (y := { y with unsure := true }) hy hb 4 (.bool true) (by decide) (fun _ => rfl) rfl
            go_wp2_with (first | (go_at_call 56; refine (hpt _).mono ?_; rintro e w' ⟨rfl, hww⟩; rw [hww]; clear hww w') | (go_at_call 156; refine (source_any c _).mono ?_; rintro e w' ⟨rfl, hww⟩; rw [hww]; clear hww w'))
            go_roundg (s.size - (k + n))
            case measure => omega
            case rel => exact ⟨k + n, _, _, rfl, by go_num, st.1, st.2, hd2, by omega, by rw [ByteArray.size_append]; omega, hyo, rfl⟩
    · have hf : Hid (lxText s x (x.pos + 1) ByteArray.empty = y.fail) := hd.out.trans (by rw [lxText, dif_neg q1])
      have z2 : ¬ ((k : Int) < (s.size : Int)) := by omega
      go_wp2_with (go_at_call 149; refine (lxfail_any xb s y wr hy).mono ?_; rintro e w' ⟨rfl, hl, hb'⟩)
      go_returns
      exact ⟨rfl, by rw [hf.out]; exact hl, hb.trans hb'⟩

end

end Go.Proofs.YtigpnidffiaigaaGreat
