/- Walks: the reference's lines. Walks: the reference's white space in front of lines. -/
import Derived.Test.YtigpnidffiaigaaGreatQ05
set_option linter.unusedVariables false
set_option linter.unusedSimpArgs false
namespace Go.Proofs.YtigpnidffiaigaaGreat

section
open Go.RowKit

set_option maxHeartbeats 400000 in
theorem starts_any (s t : ByteArray) (i : Nat) (w : World) (hs : s.size ≤ 1099511627776) (hi : i ≤ 1099511627900) (ht : t.size ≤ 10) :
    Calls Tryz.prog 57 #[.string s, .int .i64 (i : Int), .string t] w fun e w' => e = .returned (.bool (st s i t)) ∧ w' = w := by
  by_cases h : i + t.size ≤ s.size
  · have h1 : (i : Int) + (t.size : Int) ≤ (s.size : Int) := by omega
    go_enter Tryz.func57, Tryz.ntmps57
    go_wp2
    go_ret
    exact ⟨ret_bool (by rw [beq_bytes]; simp [st, h]), rfl⟩
  · have h1 : ¬ ((i : Int) + (t.size : Int) ≤ (s.size : Int)) := by omega
    go_enter Tryz.func57, Tryz.ntmps57
    go_wp2
    go_ret
    exact ⟨ret_bool (by simp [st, h]), rfl⟩

/-- how many blanks and tabs stand from a place on -/
def leadF (s : ByteArray) (n : Nat) : Nat := if h : n < s.size ∧ (nx s n = 32 ∨ nx s n = 9) then leadF s (n + 1) else n
termination_by s.size - n
theorem leadF_yes {s : ByteArray} {k : Nat} (h : k < s.size) (h' : nx s k = 32 ∨ nx s k = 9) : leadF s k = leadF s (k + 1) := by rw [leadF, dif_pos ⟨h, h'⟩]
theorem leadF_no {s : ByteArray} {k : Nat} (h : ¬ (k < s.size ∧ (nx s k = 32 ∨ nx s k = 9))) : leadF s k = k := by rw [leadF, dif_neg h]
theorem leadF_le (s : ByteArray) (n : Nat) (h : n ≤ s.size) : n ≤ leadF s n ∧ leadF s n ≤ s.size := by
  by_cases h' : n < s.size ∧ (nx s n = 32 ∨ nx s n = 9)
  · rw [leadF_yes h'.1 h'.2]
    have := leadF_le s (n + 1) (by omega)
    omega
  · rw [leadF_no h']; omega
termination_by s.size - n

set_option maxHeartbeats 400000 in
theorem leading_any (s : ByteArray) (w : World) (hs : s.size ≤ 1099511627776) :
    Calls Tryz.prog 98 #[.string s] w fun e w' => e = .returned (.int .i64 (leadF s 0 : Int)) ∧ w' = w := by
  go_enter Tryz.func98, Tryz.ntmps98
  go_wp2_with fail
  go_loop [3] (fun v => ∃ k : Nat, k ≤ s.size ∧ v = .int .i64 k ∧ Hid (leadF s 0 = leadF s k)) (fun v => s.size - (intOf v).toNat)
  case atStart => exact ⟨0, by omega, rfl, rfl⟩
  case round =>
    obtain ⟨k, hk, rfl, hd⟩ := hrel
    have k1 : (0 : Int) ≤ (k : Int) := by omega
    by_cases hlt : k < s.size
    · have k2 : (k : Int) < (s.size : Int) := by omega
      have ek : s[k].toNat = nx s k := nx_at hlt
      by_cases q1 : nx s k = 32
      · have hd' : Hid (leadF s 0 = leadF s (k + 1)) := hd.out.trans (leadF_yes hlt (.inl q1))
        have e1 : ((nx s k : Int) == 32) = true := by simp; omega
        clear q1
        go_wp2
        go_round
        case rel => exact ⟨k + 1, by omega, by go_num, hd'⟩
        case measure => simp [intOf]; omega
      · have e1 : ((nx s k : Int) == 32) = false := by simp; omega
        by_cases q2 : nx s k = 9
        · have hd' : Hid (leadF s 0 = leadF s (k + 1)) := hd.out.trans (leadF_yes hlt (.inr q2))
          have e2 : ((nx s k : Int) == 9) = true := by simp; omega
          clear q1 q2
          go_wp2
          go_round
          case rel => exact ⟨k + 1, by omega, by go_num, hd'⟩
          case measure => simp [intOf]; omega
        · have hd' : Hid (leadF s 0 = k) := hd.out.trans (leadF_no (by omega))
          have e2 : ((nx s k : Int) == 9) = false := by simp; omega
          clear q1 q2
          go_wp2
          go_ret
          exact ⟨ret_int (by rw [hd'.out]), rfl⟩
    · have k2 : ¬ ((k : Int) < (s.size : Int)) := by omega
      have hd' : Hid (leadF s 0 = k) := hd.out.trans (leadF_no (by omega))
      go_wp2
      go_ret
      exact ⟨ret_int (by rw [hd'.out]), rfl⟩

/-- the place behind a line's end -/
def eol (s : ByteArray) (i : Nat) : Nat := if nx s i = 13 ∧ i + 1 < s.size ∧ nx s (i + 1) = 10 then i + 2 else i + 1
theorem eol_gt (s : ByteArray) (i : Nat) : i < eol s i := by unfold eol; split <;> omega
def linesF (s : ByteArray) (i fr : Nat) : List ByteArray :=
  if h : i < s.size then (if nx s i = 10 ∨ nx s i = 13 then s.extract fr i :: linesF s (eol s i) (eol s i) else linesF s (i + 1) fr) else [s.extract fr s.size]
termination_by s.size - i
decreasing_by
  · have := eol_gt s i; omega
  · omega
theorem linesF_end {s : ByteArray} {i fr : Nat} (h : ¬ i < s.size) : linesF s i fr = [s.extract fr s.size] := by rw [linesF, dif_neg h]
theorem linesF_eol {s : ByteArray} {i fr : Nat} (h : i < s.size) (h' : nx s i = 10 ∨ nx s i = 13) : linesF s i fr = s.extract fr i :: linesF s (eol s i) (eol s i) := by rw [linesF, dif_pos h, if_pos h']
theorem linesF_on {s : ByteArray} {i fr : Nat} (h : i < s.size) (h' : ¬ (nx s i = 10 ∨ nx s i = 13)) : linesF s i fr = linesF s (i + 1) fr := by rw [linesF, dif_pos h, if_neg h']

def strs' (l : List ByteArray) : List Value := l.map Value.string
theorem strs'_one (l : List ByteArray) : ∀ u ∈ strs' l, u.oneCell' = true := by
  intro u hu; simp only [strs', List.mem_map] at hu; obtain ⟨x, _, rfl⟩ := hu; rfl
theorem infoS : (Tryz.prog.info? 9).map (fun i => (i.zero, i.size, i.bytes)) = some (some (.string ⟨#[]⟩), 1, 16) := by kernel_rfl

/-- where the loop over a text's lines stands -/
def LinesRel (s : ByteArray) (w : World) (v f j : Value) (wr : World) : Prop :=
  ∃ (k fr : Nat) (acc : List ByteArray), fr ≤ k ∧ k ≤ s.size ∧ f = .int .i64 fr ∧ j = .int .i64 k ∧ wr.ownsRow w.heap.size 9 1 v acc.length (strs' acc) ∧ Sm [] w wr ∧ Hid (linesF s 0 0 = acc ++ linesF s k fr) ∧ acc.length ≤ k

theorem linesRel_app {w w' : World} {acc : List ByteArray} {x : ByteArray} {g cap : Nat} (h : w'.ownsRow w.heap.size 9 1 (.slice (some ⟨g, 0, none⟩) (acc.length + 1) cap) (acc.length + 1) (strs' acc ++ #[Value.string x].toList)) :
    w'.ownsRow w.heap.size 9 1 (.slice (some ⟨g, 0, none⟩) (acc.length + 1) cap) (acc ++ [x]).length (strs' (acc ++ [x])) := by
  simpa [strs'] using h

set_option maxHeartbeats 1000000 in
theorem lines_any (s : ByteArray) (w : World) (hs : s.size ≤ 1099511627776) :
    Calls Tryz.prog 96 #[.string s] w fun e w' => ∃ v, e = .returned v ∧ w'.ownsRow w.heap.size 9 1 v (linesF s 0 0).length (strs' (linesF s 0 0)) ∧ Sm [] w w' := by
  go_enter Tryz.func96, Tryz.ntmps96
  go_wp2_with fail
  go_loopw [3, 4, 5] (fun v f j wr => LinesRel s w v f j wr) (fun _ _ j _ => s.size - (intOf j).toNat)
  case atStart => exact ⟨0, 0, [], by omega, by omega, rfl, rfl, World.ownsRow_nil _ _ _ _, Sm.refl _ _, rfl, by simp⟩
  case round =>
    obtain ⟨k, fr, acc, hfr, hk, rfl, rfl, hown, hsm, hd, hal⟩ := hrel
    have k1 : (0 : Int) ≤ (k : Int) := by omega
    have f1 : (0 : Int) ≤ (fr : Int) := by omega
    have f2 : (fr : Int) ≤ (k : Int) := by omega
    have hz := hsm.size
    by_cases hlt : k < s.size
    · have k2 : (k : Int) < (s.size : Int) := by omega
      have k3 : (k : Int) ≤ (s.size : Int) := by omega
      have ek : s[k].toNat = nx s k := nx_at hlt
      by_cases q10 : nx s k = 10
      · have hd' : Hid (linesF s 0 0 = (acc ++ [s.extract fr k]) ++ linesF s (k + 1) (k + 1)) := by
          unfold Hid; rw [hd.out, linesF_eol hlt (.inl q10), show eol s k = k + 1 by unfold eol; first | rw [if_pos ⟨by assumption, by assumption, by assumption⟩] | rw [if_neg (by omega)]]; simp
        have e1 : ((nx s k : Int) != 10) = false := by simp; omega
        have e2 : ((nx s k : Int) == 13) = false := by simp; omega
        have e3 : ((nx s k : Int) == 10) = true := by simp; omega
        clear q10
        go_wp2_with (at_builtin; refine app1 _ rfl _ _ _ rfl 9 _ 1 16 Tryz.underlying220 infoS rfl (by omega) (by omega) _ acc.length (strs' acc) rfl hown _ rfl rfl (by simp [Value.oneCell']) (by omega) hz ?_)
        intro g cap w' hown' hg hat hlt'
        have sm' := hsm.grown hg (fun b hb => .inl (hown.lt b hb).1)
        have ow' := linesRel_app hown'
        clear hown' hg hat hlt' hown hsm hd
        go_wp2
        go_roundw
        case rel => (first | refine ⟨_, _, _, ?_, rfl, rfl, rfl⟩ | skip); unfold LinesRel; exact ⟨k + 1, k + 1, acc ++ [s.extract fr k], by omega, by omega, by go_num, by go_num, ow', sm', hd', by simp; omega⟩
        case measure => simp [intOf]; omega
      have e1 : ((nx s k : Int) != 10) = true := by simp; omega
      by_cases q13 : nx s k = 13
      · have e2 : ((nx s k : Int) != 13) = false := by simp; omega
        have e3 : ((nx s k : Int) == 13) = true := by simp; omega
        by_cases q1 : k + 1 < s.size
        · have k4 : (k : Int) + 1 < (s.size : Int) := by omega
          have ek1 : s[k + 1].toNat = nx s (k + 1) := nx_at q1
          have k5 : (0 : Int) ≤ (k : Int) + 1 := by omega
          by_cases q2 : nx s (k + 1) = 10
          · have hd' : Hid (linesF s 0 0 = (acc ++ [s.extract fr k]) ++ linesF s (k + 2) (k + 2)) := by
              unfold Hid; rw [hd.out, linesF_eol hlt (.inr q13), show eol s k = k + 2 by unfold eol; first | rw [if_pos ⟨by assumption, by assumption, by assumption⟩] | rw [if_neg (by omega)]]; simp
            have e4 : ((nx s (k + 1) : Int) == 10) = true := by simp; omega
            clear q13 q2
            go_wp2_with (at_builtin; refine app1 _ rfl _ _ _ rfl 9 _ 1 16 Tryz.underlying220 infoS rfl (by omega) (by omega) _ acc.length (strs' acc) rfl hown _ rfl rfl (by simp [Value.oneCell']) (by omega) hz ?_)
            intro g cap w' hown' hg hat hlt'
            have sm' := hsm.grown hg (fun b hb => .inl (hown.lt b hb).1)
            have ow' := linesRel_app hown'
            clear hown' hg hat hlt' hown hsm hd
            go_wp2
            go_roundw
            case rel => (first | refine ⟨_, _, _, ?_, rfl, rfl, rfl⟩ | skip); unfold LinesRel; exact ⟨k + 2, k + 2, acc ++ [s.extract fr k], by omega, by omega, by go_num, by go_num, ow', sm', hd', by simp; omega⟩
            case measure => simp [intOf]; omega
          · have hd' : Hid (linesF s 0 0 = (acc ++ [s.extract fr k]) ++ linesF s (k + 1) (k + 1)) := by
              unfold Hid; rw [hd.out, linesF_eol hlt (.inr q13), show eol s k = k + 1 by unfold eol; first | rw [if_pos ⟨by assumption, by assumption, by assumption⟩] | rw [if_neg (by omega)]]; simp
            have e4 : ((nx s (k + 1) : Int) == 10) = false := by simp; omega
            clear q13 q2
            go_wp2_with (at_builtin; refine app1 _ rfl _ _ _ rfl 9 _ 1 16 Tryz.underlying220 infoS rfl (by omega) (by omega) _ acc.length (strs' acc) rfl hown _ rfl rfl (by simp [Value.oneCell']) (by omega) hz ?_)
            intro g cap w' hown' hg hat hlt'
            have sm' := hsm.grown hg (fun b hb => .inl (hown.lt b hb).1)
            have ow' := linesRel_app hown'
            clear hown' hg hat hlt' hown hsm hd
            go_wp2
            go_roundw
            case rel => (first | refine ⟨_, _, _, ?_, rfl, rfl, rfl⟩ | skip); unfold LinesRel; exact ⟨k + 1, k + 1, acc ++ [s.extract fr k], by omega, by omega, by go_num, by go_num, ow', sm', hd', by simp; omega⟩
            case measure => simp [intOf]; omega
        · have k4 : ¬ ((k : Int) + 1 < (s.size : Int)) := by omega
          have hd' : Hid (linesF s 0 0 = (acc ++ [s.extract fr k]) ++ linesF s (k + 1) (k + 1)) := by
            unfold Hid; rw [hd.out, linesF_eol hlt (.inr q13), show eol s k = k + 1 by unfold eol; first | rw [if_pos ⟨by assumption, by assumption, by assumption⟩] | rw [if_neg (by omega)]]; simp
          clear q13
          go_wp2_with (at_builtin; refine app1 _ rfl _ _ _ rfl 9 _ 1 16 Tryz.underlying220 infoS rfl (by omega) (by omega) _ acc.length (strs' acc) rfl hown _ rfl rfl (by simp [Value.oneCell']) (by omega) hz ?_)
          intro g cap w' hown' hg hat hlt'
          have sm' := hsm.grown hg (fun b hb => .inl (hown.lt b hb).1)
          have ow' := linesRel_app hown'
          clear hown' hg hat hlt' hown hsm hd
          go_wp2
          go_roundw
          case rel => (first | refine ⟨_, _, _, ?_, rfl, rfl, rfl⟩ | skip); unfold LinesRel; exact ⟨k + 1, k + 1, acc ++ [s.extract fr k], by omega, by omega, by go_num, by go_num, ow', sm', hd', by simp; omega⟩
          case measure => simp [intOf]; omega
      · have e2 : ((nx s k : Int) != 13) = true := by simp; omega
        have hd' : Hid (linesF s 0 0 = acc ++ linesF s (k + 1) fr) := by unfold Hid; rw [hd.out, linesF_on hlt (by omega)]
        clear q10 q13 hd
        go_wp2
        go_roundw
        case rel => (first | refine ⟨_, _, _, ?_, rfl, rfl, rfl⟩ | skip); unfold LinesRel; exact ⟨k + 1, fr, acc, by omega, by omega, rfl, by go_num, hown, hsm, hd', by omega⟩
        case measure => simp [intOf]; omega
    · have k2 : ¬ ((k : Int) < (s.size : Int)) := by omega
      obtain rfl : k = s.size := by omega
      have hd' : Hid (linesF s 0 0 = acc ++ [s.extract fr s.size]) := by unfold Hid; rw [hd.out, linesF_end (by omega)]
      clear hd
      go_wp2_with (at_builtin; refine app1 _ rfl _ _ _ rfl 9 _ 1 16 Tryz.underlying220 infoS rfl (by omega) (by omega) _ acc.length (strs' acc) rfl hown _ rfl rfl (by simp [Value.oneCell']) (by omega) hz ?_)
      intro g cap w' hown' hg hat hlt'
      have sm' := hsm.grown hg (fun b hb => .inl (hown.lt b hb).1)
      have ow' := linesRel_app hown'
      clear hown' hg hat hlt' hown hsm
      go_wp2
      go_ret
      rw [hd'.out]
      exact ⟨_, rfl, by simpa using ow', sm'⟩

end

section
open Go.RowKit

/-- a row of strings at a place -/
def StrsAt (w : World) (b o : Nat) (l : List ByteArray) : Prop := ∀ i, i < l.length → w.cell? ⟨b, o + i, none⟩ = some (.string (l.getD i ByteArray.empty))
theorem strsAt_own {w : World} {base g cap : Nat} {l : List ByteArray} (h : w.ownsRow base 9 1 (.slice (some ⟨g, 0, none⟩) l.length cap) l.length (strs' l)) : StrsAt w g 0 l := by
  intro i hi
  have := h.cells (g := g) rfl i (.string (l.getD i ByteArray.empty)) (by simp [strs', List.getElem?_eq_getElem hi, List.getD_eq_getElem?_getD])
  have ha : (⟨g, 0, none⟩ : Addr).add i = ⟨g, 0 + i, none⟩ := by unfold Addr.add; split <;> simp_all
  rwa [ha] at this
theorem StrsAt.sm {X : List Nat} {w w' : World} {b o : Nat} {l : List ByteArray} (h : StrsAt w b o l) (s : Sm X w w') (hx : b ∉ X) : StrsAt w' b o l := fun i hi => s.keeps (h i hi) hx
theorem strs_own_form {w : World} {base n : Nat} {v : Value} {l : List ByteArray} (h : w.ownsRow base 9 1 v n (strs' l)) (hl : l ≠ []) : n = l.length ∧ ∃ g cap, v = .slice (some ⟨g, 0, none⟩) l.length cap ∧ base ≤ g ∧ g < w.heap.size ∧ l.length ≤ cap ∧ cap ≤ maxLen ∧ w.heap[g]?.isSome := by
  have hn : n = l.length := by have := h.1; simp [strs'] at this; omega
  subst hn
  refine ⟨rfl, ?_⟩
  rcases h.2 with ⟨_, h0⟩ | ⟨g, cap, cur, rfl, hb, hh, h1, h2, h3, h4⟩
  · exact absurd (List.eq_nil_of_length_eq_zero h0) hl
  · exact ⟨g, cap, rfl, hb, lt_of_block hh, h1, h2, by rw [hh]; rfl⟩

theorem linesF_ne (s : ByteArray) (i fr : Nat) : linesF s i fr ≠ [] := by
  by_cases h : i < s.size
  · by_cases h' : nx s i = 10 ∨ nx s i = 13
    · rw [linesF_eol h h']; simp
    · rw [linesF_on h h']; exact linesF_ne s (i + 1) fr
  · rw [linesF_end h]; simp
termination_by s.size - i

def comStep (out : Int) (x : ByteArray) : Int := if leadF x 0 < x.size ∧ (out < 0 ∨ (leadF x 0 : Int) < out) then (leadF x 0 : Int) else out
def comF (l : List ByteArray) : Int := (l.drop 1).foldl comStep (-1)
def common' (l : List ByteArray) : Nat := (comF l).toNat

theorem drop_get {l : List ByteArray} {k : Nat} (h : k < l.length) : l.drop k = l.getD k ByteArray.empty :: l.drop (k + 1) := by
  rw [List.drop_eq_getElem_cons h]; simp [List.getD_eq_getElem?_getD, List.getElem?_eq_getElem h]
theorem foldl_step {l : List ByteArray} {k : Nat} (h : k < l.length) (q : Int) : (l.drop k).foldl comStep q = (l.drop (k + 1)).foldl comStep (comStep q (l.getD k ByteArray.empty)) := by
  rw [drop_get h]; rfl

def ComRel (l : List ByteArray) (o j : Value) : Prop := ∃ (k : Nat) (q : Int), 1 ≤ k ∧ j = .int .i64 k ∧ o = .int .i64 q ∧ -1 ≤ q ∧ q ≤ 1099511627776 ∧ Hid (comF l = (l.drop k).foldl comStep q) ∧ k ≤ l.length + 1

set_option maxHeartbeats 1000000 in
theorem common_any (l : List ByteArray) (b o cap : Nat) (w : World) (hl : StrsAt w b o l) (hn : l.length ≤ 1099511627777) (hs : ∀ x ∈ l, x.size ≤ 1099511627776) :
    Calls Tryz.prog 97 #[.slice (some ⟨b, o, none⟩) l.length cap] w fun e w' => e = .returned (.int .i64 (common' l : Int)) ∧ w' = w := by
  go_enter Tryz.func97, Tryz.ntmps97
  go_wp2_with fail
  go_loop [3, 4] (fun o j => ComRel l o j) (fun _ j => l.length - (intOf j).toNat)
  case atStart => exact ⟨1, -1, by omega, rfl, rfl, by omega, by omega, rfl, by omega⟩
  case round =>
    obtain ⟨k, q, hk, rfl, rfl, hq0, hq1, hd, hkl⟩ := hrel
    have k1 : (0 : Int) ≤ (k : Int) := by omega
    by_cases hlt : k < l.length
    · have k2 : (k : Int) < (l.length : Int) := by omega
      have hc := hl k hlt
      have hx : (l.getD k ByteArray.empty).size ≤ 1099511627776 := hs _ (by rw [List.getD_eq_getElem?_getD, List.getElem?_eq_getElem hlt]; exact List.getElem_mem hlt)
      generalize hxx : l.getD k ByteArray.empty = x at hc hx
      have hd' : Hid (comF l = (l.drop (k + 1)).foldl comStep (comStep q x)) := by rw [← hxx]; exact hd.out.trans (foldl_step hlt q)
      have hle := (leadF_le x 0 (by omega)).2
      clear hxx hd hl
      by_cases c1 : leadF x 0 < x.size
      · have c1' : (leadF x 0 : Int) < (x.size : Int) := by omega
        by_cases c2 : q < 0
        · have hd'' : Hid (comF l = (l.drop (k + 1)).foldl comStep (leadF x 0 : Int)) := by rw [show (leadF x 0 : Int) = comStep q x by unfold comStep; rw [if_pos ⟨c1, .inl c2⟩]]; exact hd'
          clear hd'
          go_wp2_with (go_at_call 98; refine (leading_any _ _ hx).mono ?_; rintro e w' ⟨rfl, rfl⟩)
          go_round
          case rel => (first | refine ⟨_, _, ?_, rfl, rfl⟩ | skip); unfold ComRel; exact ⟨k + 1, _, by omega, by go_num, rfl, by omega, by omega, hd'', by omega⟩
          case measure => simp [intOf]; omega
        · by_cases c3 : (leadF x 0 : Int) < q
          · have hd'' : Hid (comF l = (l.drop (k + 1)).foldl comStep (leadF x 0 : Int)) := by rw [show (leadF x 0 : Int) = comStep q x by unfold comStep; rw [if_pos ⟨c1, .inr c3⟩]]; exact hd'
            clear hd'
            go_wp2_with (go_at_call 98; refine (leading_any _ _ hx).mono ?_; rintro e w' ⟨rfl, rfl⟩)
            go_round
            case rel => (first | refine ⟨_, _, ?_, rfl, rfl⟩ | skip); unfold ComRel; exact ⟨k + 1, _, by omega, by go_num, rfl, by omega, by omega, hd'', by omega⟩
            case measure => simp [intOf]; omega
          · have hd'' : Hid (comF l = (l.drop (k + 1)).foldl comStep q) := by rw [show comStep q x = q by unfold comStep; rw [if_neg (by omega)]] at hd'; exact hd'
            clear hd'
            go_wp2_with (go_at_call 98; refine (leading_any _ _ hx).mono ?_; rintro e w' ⟨rfl, rfl⟩)
            go_round
            case rel => (first | refine ⟨_, _, ?_, rfl, rfl⟩ | skip); unfold ComRel; exact ⟨k + 1, _, by omega, by go_num, rfl, by omega, by omega, hd'', by omega⟩
            case measure => simp [intOf]; omega
      · have c1' : ¬ ((leadF x 0 : Int) < (x.size : Int)) := by omega
        have hd'' : Hid (comF l = (l.drop (k + 1)).foldl comStep q) := by rw [show comStep q x = q by unfold comStep; rw [if_neg (by omega)]] at hd'; exact hd'
        clear hd'
        go_wp2_with (go_at_call 98; refine (leading_any _ _ hx).mono ?_; rintro e w' ⟨rfl, rfl⟩)
        go_round
        case rel => (first | refine ⟨_, _, ?_, rfl, rfl⟩ | skip); unfold ComRel; exact ⟨k + 1, _, by omega, by go_num, rfl, by omega, by omega, hd'', by omega⟩
        case measure => simp [intOf]; omega
    · have k2 : ¬ ((k : Int) < (l.length : Int)) := by omega
      have hd' : Hid (comF l = q) := by unfold Hid; rw [hd.out, List.drop_of_length_le (by omega)]; rfl
      clear hd
      go_wp2_with fail
      all_goals go_ret
      all_goals (refine ⟨ret_int ?_, rfl⟩; unfold common'; rw [hd'.out]; omega)

end

end Go.Proofs.YtigpnidffiaigaaGreat
