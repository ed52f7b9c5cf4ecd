/- Walks: block. -/
import Derived.Test.YtigpnidffiaigaaGreatProg
import Derived.Test.YtigpnidffiaigaaGreatQ08
import Derived.Test.YtigpnidffiaigaaGreatQ11
set_option linter.unusedVariables false
set_option linter.unusedSimpArgs false
namespace Go.Proofs.YtigpnidffiaigaaGreat

section
open Go.RowKit

def q3 : ByteArray := ⟨#[34, 34, 34]⟩
def q4 : ByteArray := ⟨#[92, 34, 34, 34]⟩
/-- a block string -/
def lxBlock (s : ByteArray) (x : Lx) (k : Nat) (o : ByteArray) : Lx :=
  if h : k < s.size then
    if st s k q3 = true then ({ x with unsure := x.unsure || !plainB o } : Lx).add 19 (k + 3) (blockV o) else
    if st s k q4 = true then lxBlock s { x with unsure := true } (k + 4) (o ++ q3) else
    if h3 : (pt s k).2 = 0 then { x with unsure := true, bad := true } else
    if srcB (pt s k).1 = false then x.fail else
    lxBlock s { x with unsure := x.unsure || !srcS (pt s k).1 } (k + (pt s k).2) (o ++ s.extract k (k + (pt s k).2))
  else x.fail
termination_by s.size - k
decreasing_by
  · omega
  · omega

theorem LxAt.sm_below {w w' : World} {xb : Nat} {s : ByteArray} {x : Lx} (h : LxAt w xb s x) (hs : Sm [] w w') : Below xb w w' := by
  obtain ⟨ov, h1, h2⟩ := h
  exact hs.below.mono (Nat.le_of_lt (lt_of_block h1))

def BlockRel (w : World) (xb : Nat) (s : ByteArray) (x : Lx) (g : Nat) (v u : Value) (wr : World) : Prop :=
  ∃ (k : Nat) (o : ByteArray) (y : Lx), v = .string o ∧ u = .int .i64 (k : Int) ∧ LxAt wr xb s y ∧ Below xb w wr ∧ Hid (lxBlock s x (x.pos + 3) ByteArray.empty = lxBlock s y k o) ∧ k ≤ s.size + 6 ∧ o.size ≤ k ∧ y.out = x.out ∧ g = s.size - k

set_option maxHeartbeats 4000000 in
set_option maxRecDepth 100000 in
theorem block_any (xb : Nat) (s : ByteArray) (x : Lx) (w : World) (hx : LxAt w xb s x) (hs : s.size ≤ 1099511627776) (hp : x.pos ≤ s.size) (hn : x.out.length ≤ 1099511627776) :
    Calls Tryz.prog 147 #[.pointer (some ⟨xb, 0, none⟩)] w fun e w' => e = .returned (.tuple #[]) ∧ LxAt w' xb s (lxBlock s x (x.pos + 3) ByteArray.empty) ∧ Below xb w w' := by
  obtain ⟨ov, h1, h2, c0, c1, c3, c4, f1, f3, f4⟩ := hx.facts
  go_enter Tryz.func147, Tryz.ntmps147
  go_wp2_with fail
  go_loopg [2, 3, 4, 5, 6, 7] (s.size - (x.pos + 3)) (fun g v u _ _ _ _ wr => BlockRel w xb s x g v u wr)
  case atStart => exact ⟨x.pos + 3, ByteArray.empty, x, rfl, rfl, hx, Below.refl _ _, rfl, by omega, Nat.zero_le _, rfl, rfl⟩
  case round =>
    obtain ⟨k, o, y, rfl, rfl, hy, hb, hd, hk, ho, hyo, rfl⟩ := hrel
    clear h1 h2 c0 c1 c3 c4 f1 f3 f4 hx
    obtain ⟨ov, h1, h2, c0, c1, c3, c4, f1, f3, f4⟩ := hy.facts
    by_cases q1 : k < s.size
    · have z1 : (0 : Int) ≤ (k : Int) := by omega
      have z2 : (k : Int) < (s.size : Int) := by omega
      have hst := starts_any s q3 k wr hs (by omega) (by decide)
      cases qa : st s k q3 with
      | true =>
        have qa' : st s k ⟨#[34, 34, 34]⟩ = true := qa
        clear hst
        have hd1 := hd.out.trans (by rw [lxBlock, dif_pos q1, if_pos qa])
        clear hd
        cases hu : y.unsure with
        | true =>
          rw [hu] at c4 hd1
          have hf : Hid (lxBlock s x (x.pos + 3) ByteArray.empty = ({ y with unsure := true } : Lx).add 19 (k + 3) (blockV o)) := hd1
          clear hd1
          have st := lx_set (y := { y with unsure := true }) hy hb 4 (.bool true) (by decide) (fun _ => rfl) rfl
          go_wp2_with (first | (go_at_call 57; refine (starts_any s _ k wr hs ?_ ?_).mono ?_; omega; decide; rintro e w' ⟨rfl, hww⟩; rw [hww]; clear hww w') | (go_at_call 58; refine (blockValue_any o _ (by omega)).mono ?_; rintro e w3 ⟨rfl, sm3⟩; have hy3 := st.1.sm sm3; have hb3 := st.2.trans (st.1.sm_below sm3)) | (go_at_call 143; refine (add_any xb s _ 19 (k + 3) (blockV o) _ hy3 (by rw [show (Lx.out _) = x.out from hyo]; exact hn)).mono ?_; rintro e w' ⟨rfl, hl, hb'⟩))
          go_returns
          exact ⟨rfl, by rw [hf.out]; exact hl, hb3.trans hb'⟩
        | false =>
          rw [hu] at c4 hd1
          have hf : Hid (lxBlock s x (x.pos + 3) ByteArray.empty = ({ y with unsure := !plainB o } : Lx).add 19 (k + 3) (blockV o)) := hd1
          clear hd1
          go_wp2_with (first | (go_at_call 57; refine (starts_any s _ k wr hs ?_ ?_).mono ?_; omega; decide; rintro e w' ⟨rfl, hww⟩; rw [hww]; clear hww w') | (go_at_call 59; refine (plainBlock_any o _ (by omega)).mono ?_; rintro e w1 ⟨rfl, sm1⟩; have hy1 := hy.sm sm1; have hb1 := hb.trans (hy.sm_below sm1); obtain ⟨ov', g1, g2, d0, d1, d3, d4, e1', e3', e4'⟩ := hy1.facts; have st := lx_set (y := { y with unsure := !plainB o }) hy1 hb1 4 (.bool (!plainB o)) (by decide) (fun _ => rfl) rfl) | (go_at_call 58; refine (blockValue_any o _ (by omega)).mono ?_; rintro e w3 ⟨rfl, sm3⟩; have hy3 := st.1.sm sm3; have hb3 := st.2.trans (st.1.sm_below sm3)) | (go_at_call 143; refine (add_any xb s _ 19 (k + 3) (blockV o) _ hy3 (by rw [show (Lx.out _) = x.out from hyo]; exact hn)).mono ?_; rintro e w' ⟨rfl, hl, hb'⟩))
          go_returns
          exact ⟨rfl, by rw [hf.out]; exact hl, hb3.trans hb'⟩
      | false =>
      have qa' : st s k ⟨#[34, 34, 34]⟩ = false := qa
      clear hst
      have hst2 := starts_any s q4 k wr hs (by omega) (by decide)
      cases qb : st s k q4 with
      | true =>
        have qb' : st s k ⟨#[92, 34, 34, 34]⟩ = true := qb
        clear hst2
        have hd2 : Hid (lxBlock s x (x.pos + 3) ByteArray.empty = lxBlock s { y with unsure := true } (k + 4) (o ++ q3)) := hd.out.trans (by rw [lxBlock, dif_pos q1, if_neg (by simp [qa]), if_pos qb])
        clear hd
        have st := lx_set (y := { y with unsure := true }) hy hb 4 (.bool true) (by decide) (fun _ => rfl) rfl
        have hq3 : q3.size = 3 := rfl
        have hml : o.size + q3.size ≤ maxLen := by rw [hq3]; unfold maxLen; omega
        have hout : (o ++ q3).size ≤ k + 4 := by rw [ByteArray.size_append, hq3]; omega
        have hrel' : ∀ v u, v = Value.string (o ++ q3) → u = Value.int .i64 ((k + 4 : Nat) : Int) → BlockRel w xb s x (s.size - (k + 4)) v u (wr.setCell ⟨xb, 4, none⟩ (.bool true)) :=
          fun v u hv hu => ⟨k + 4, o ++ q3, _, hv, hu, st.1, st.2, hd2, by omega, hout, hyo, rfl⟩
        clear hd2 hout st
        have hlt : s.size - (k + 4) < s.size - k := by omega
        unfold q3 at hml hrel'
        clear hq3
        go_wp2_with (first | (go_at_call 57; refine (starts_any s _ k wr hs ?_ ?_).mono ?_; omega; decide; rintro e w' ⟨rfl, hww⟩; rw [hww]; clear hww w'))
        go_roundg (s.size - (k + 4))
        case measure => exact hlt
        case rel => exact hrel' _ _ rfl (by go_num)
      | false =>
      have qb' : st s k ⟨#[92, 34, 34, 34]⟩ = false := qb
      clear hst2
      have hok := pt_ok s k
      have hpt := fun W => point_any s k W hs q1
      have hd1 := hd.out.trans (by rw [lxBlock, dif_pos q1, if_neg (by simp [qa]), if_neg (by simp [qb])])
      obtain ⟨c, n, hcn⟩ : ∃ c n, pt s k = (c, n) := ⟨_, _, rfl⟩
      rw [hcn] at hok hpt hd1
      dsimp only at hok hpt hd1
      clear hcn hd
      by_cases qn : n = 0
      · subst qn
        rw [dif_pos rfl] at hd1
        have hf : Hid (lxBlock s x (x.pos + 3) ByteArray.empty = { y with unsure := true, bad := true }) := hd1
        clear hd1 hok
        have st := lx_set (y := { y with unsure := true }) hy hb 4 (.bool true) (by decide) (fun _ => rfl) rfl
        cases hu : y.unsure with
        | true =>
          rw [hu] at c4
          go_wp2_with (first | (go_at_call 57; refine (starts_any s _ k wr hs ?_ ?_).mono ?_; omega; decide; rintro e w' ⟨rfl, hww⟩; rw [hww]; clear hww w') | (go_at_call 56; refine (hpt _).mono ?_; rintro e w' ⟨rfl, hww⟩; rw [hww]; clear hww w') | (go_at_call 156; refine (source_any c _).mono ?_; rintro e w' ⟨rfl, hww⟩; rw [hww]; clear hww w') | (go_at_call 149; refine (lxfail_any xb s _ _ st.1).mono ?_; rintro e w' ⟨rfl, hl, hb'⟩))
          go_returns
          exact ⟨rfl, by rw [hf.out]; exact hl, st.2.trans hb'⟩
        | false =>
          rw [hu] at c4
          go_wp2_with (first | (go_at_call 57; refine (starts_any s _ k wr hs ?_ ?_).mono ?_; omega; decide; rintro e w' ⟨rfl, hww⟩; rw [hww]; clear hww w') | (go_at_call 56; refine (hpt _).mono ?_; rintro e w' ⟨rfl, hww⟩; rw [hww]; clear hww w') | (go_at_call 156; refine (source_any c _).mono ?_; rintro e w' ⟨rfl, hww⟩; rw [hww]; clear hww w') | (go_at_call 149; refine (lxfail_any xb s _ _ st.1).mono ?_; rintro e w' ⟨rfl, hl, hb'⟩))
          go_returns
          exact ⟨rfl, by rw [hf.out]; exact hl, st.2.trans hb'⟩
      rw [dif_neg qn] at hd1
      have hok := hok qn q1
      obtain ⟨k1, k2, k3, k4⟩ := hok
      have en : ((n : Int) == 0) = false := by simp; omega
      cases hsb : srcB c with
      | false =>
        rw [hsb, if_pos rfl] at hd1
        have hf : Hid (lxBlock s x (x.pos + 3) ByteArray.empty = y.fail) := hd1
        clear hd1
        cases hu : y.unsure with
        | true =>
          rw [hu] at c4
          have st := lx_set (y := { y with unsure := true }) hy hb 4 (.bool true) (by decide) (fun _ => rfl) rfl
          go_wp2_with (first | (go_at_call 57; refine (starts_any s _ k wr hs ?_ ?_).mono ?_; omega; decide; rintro e w' ⟨rfl, hww⟩; rw [hww]; clear hww w') | (go_at_call 56; refine (hpt _).mono ?_; rintro e w' ⟨rfl, hww⟩; rw [hww]; clear hww w') | (go_at_call 156; refine (source_any c _).mono ?_; rintro e w' ⟨rfl, hww⟩; rw [hww]; clear hww w') | (go_at_call 149; refine (lxfail_any xb s _ _ st.1).mono ?_; rintro e w' ⟨rfl, hl, hb'⟩))
          go_returns
          refine ⟨rfl, ?_, st.2.trans hb'⟩
          rw [hf.out, show y.fail = Lx.fail { y with unsure := true } by rw [← hu]]; exact hl
        | false =>
          rw [hu] at c4
          have st := lx_set (y := { y with unsure := false }) hy hb 4 (.bool false) (by decide) (fun _ => rfl) rfl
          go_wp2_with (first | (go_at_call 57; refine (starts_any s _ k wr hs ?_ ?_).mono ?_; omega; decide; rintro e w' ⟨rfl, hww⟩; rw [hww]; clear hww w') | (go_at_call 56; refine (hpt _).mono ?_; rintro e w' ⟨rfl, hww⟩; rw [hww]; clear hww w') | (go_at_call 156; refine (source_any c _).mono ?_; rintro e w' ⟨rfl, hww⟩; rw [hww]; clear hww w') | (go_at_call 149; refine (lxfail_any xb s _ _ st.1).mono ?_; rintro e w' ⟨rfl, hl, hb'⟩))
          go_returns
          refine ⟨rfl, ?_, st.2.trans hb'⟩
          rw [hf.out, show y.fail = Lx.fail { y with unsure := false } by rw [← hu]]; exact hl
      | true =>
        rw [hsb, if_neg (by simp)] at hd1
        have hd2 : Hid (lxBlock s x (x.pos + 3) ByteArray.empty = lxBlock s { y with unsure := y.unsure || !srcS c } (k + n) (o ++ s.extract k (k + n))) := hd1
        clear hd1
        have hsz : (s.extract k (k + n)).size = n := by rw [ByteArray.size_extract]; omega
        have hml : o.size + (s.extract k (k + n)).size ≤ maxLen := by unfold maxLen; omega
        have hml2 : o.size + n ≤ maxLen := by unfold maxLen; omega
        have z4 : (k : Int) ≤ (k : Int) + (n : Int) := by omega
        have z5 : (k : Int) + (n : Int) ≤ (s.size : Int) := by omega
        cases hu : y.unsure with
        | true =>
          rw [hu] at c4 hd2
          have st := lx_set (y := { y with unsure := true }) hy hb 4 (.bool true) (by decide) (fun _ => rfl) rfl
          go_wp2_with (first | (go_at_call 57; refine (starts_any s _ k wr hs ?_ ?_).mono ?_; omega; decide; rintro e w' ⟨rfl, hww⟩; rw [hww]; clear hww w') | (go_at_call 56; refine (hpt _).mono ?_; rintro e w' ⟨rfl, hww⟩; rw [hww]; clear hww w') | (go_at_call 156; refine (source_any c _).mono ?_; rintro e w' ⟨rfl, hww⟩; rw [hww]; clear hww w'))
          go_roundg (s.size - (k + n))
          case measure => omega
          case rel => exact ⟨k + n, _, _, rfl, by go_num, st.1, st.2, hd2, by omega, by rw [ByteArray.size_append]; omega, hyo, rfl⟩
        | false =>
          rw [hu] at c4 hd2
          cases hss : srcS c with
          | true =>
            rw [hss] at hd2
            have st := lx_set (y := { y with unsure := false }) hy hb 4 (.bool false) (by decide) (fun _ => rfl) rfl
            go_wp2_with (first | (go_at_call 57; refine (starts_any s _ k wr hs ?_ ?_).mono ?_; omega; decide; rintro e w' ⟨rfl, hww⟩; rw [hww]; clear hww w') | (go_at_call 56; refine (hpt _).mono ?_; rintro e w' ⟨rfl, hww⟩; rw [hww]; clear hww w') | (go_at_call 156; refine (source_any c _).mono ?_; rintro e w' ⟨rfl, hww⟩; rw [hww]; clear hww w'))
            go_roundg (s.size - (k + n))
            case measure => omega
            case rel => exact ⟨k + n, _, _, rfl, by go_num, st.1, st.2, hd2, by omega, by rw [ByteArray.size_append]; omega, hyo, rfl⟩
          | false =>
            rw [hss] at hd2
            have st := lx_set (y := { y with unsure := true }) hy hb 4 (.bool true) (by decide) (fun _ => rfl) rfl
            go_wp2_with (first | (go_at_call 57; refine (starts_any s _ k wr hs ?_ ?_).mono ?_; omega; decide; rintro e w' ⟨rfl, hww⟩; rw [hww]; clear hww w') | (go_at_call 56; refine (hpt _).mono ?_; rintro e w' ⟨rfl, hww⟩; rw [hww]; clear hww w') | (go_at_call 156; refine (source_any c _).mono ?_; rintro e w' ⟨rfl, hww⟩; rw [hww]; clear hww w'))
            go_roundg (s.size - (k + n))
            case measure => omega
            case rel => exact ⟨k + n, _, _, rfl, by go_num, st.1, st.2, hd2, by omega, by rw [ByteArray.size_append]; omega, hyo, rfl⟩
    · have hf : Hid (lxBlock s x (x.pos + 3) ByteArray.empty = y.fail) := hd.out.trans (by rw [lxBlock, dif_neg q1])
      have z2 : ¬ ((k : Int) < (s.size : Int)) := by omega
      have st := And.intro hy hb
      go_wp2_with ((go_at_call 149; refine (lxfail_any xb s _ _ st.1).mono ?_; rintro e w' ⟨rfl, hl, hb'⟩))
      go_returns
      exact ⟨rfl, by rw [hf.out]; exact hl, hb.trans hb'⟩

end

end Go.Proofs.YtigpnidffiaigaaGreat
