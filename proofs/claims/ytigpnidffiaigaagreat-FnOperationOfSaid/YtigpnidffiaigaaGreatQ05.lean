/- Walks. -/
import Derived.Test.YtigpnidffiaigaaGreatQ03
set_option linter.unusedVariables false
set_option linter.unusedSimpArgs false
namespace Go.Proofs.YtigpnidffiaigaaGreat

section
open Go.RowKit

theorem ret_ii {k j : IntKind} {a b c d : Int} (h : a = b) (h' : c = d) : Ending.returned (.tuple #[.int k a, .int j c]) = .returned (.tuple #[.int k b, .int j d]) := by rw [h, h']

theorem ptRest_stop {s : ByteArray} {to i : Nat} {c : Int} (h : ¬ i < to) : ptRest s to i c = some c := by rw [ptRest, dif_neg h]
theorem ptRest_bad {s : ByteArray} {to i : Nat} {c : Int} (h : i < to) (hb : nx s i < 128 ∨ 191 < nx s i) : ptRest s to i c = none := by rw [ptRest, dif_pos h, if_pos hb]
theorem ptRest_go {s : ByteArray} {to i : Nat} {c : Int} (h : i < to) (h1 : 128 ≤ nx s i) (h2 : nx s i ≤ 191) : ptRest s to i c = ptRest s to (i + 1) (c * 64 + (nx s i : Int) - 128) := by
  rw [ptRest, dif_pos h, if_neg (by omega)]

/-- where the loop over a code point's bytes stands -/
def PtRel (s : ByteArray) (i many : Nat) (c0 : Int) (c m j : Value) : Prop :=
  ∃ (k : Nat) (q : Int), i + 1 ≤ k ∧ k ≤ i + many ∧ j = .int .i64 k ∧ m = .int .i64 (many : Int) ∧ c = .int .i64 q ∧ 0 ≤ q ∧ q < 64 ^ (k - i) ∧ Hid (ptRest s (i + many) (i + 1) c0 = ptRest s (i + many) k q)

set_option maxHeartbeats 2000000 in
set_option maxRecDepth 100000 in
theorem point_any (s : ByteArray) (i : Nat) (w : World) (hs : s.size ≤ 1099511627776) (hi : i < s.size) :
    Calls Tryz.prog 56 #[.string s, .int .i64 (i : Int)] w fun e w' => e = .returned (.tuple #[.int .i64 (pt s i).1, .int .i64 ((pt s i).2 : Int)]) ∧ w' = w := by
  have h1 : (0 : Int) ≤ (i : Int) := by omega
  have h2 : (i : Int) < (s.size : Int) := by omega
  have hn := nx_lt s i
  have e0 : s[i].toNat = nx s i := nx_at hi
  by_cases r1 : nx s i < 128
  · have hp : Hid (pt s i = ((nx s i : Int), 1)) := by unfold Hid pt; rw [if_pos r1]
    go_enter Tryz.func56, Tryz.ntmps56
    go_wp2
    go_ret2
    rw [hp.out]; exact ⟨rfl, rfl⟩
  by_cases r194 : 194 ≤ nx s i ∧ nx s i < 224
  · obtain ⟨r2, r3⟩ := r194
    have hps : ptStart (nx s i) = ((nx s i : Int) - 192, 2, 128) := by unfold ptStart; rw [if_pos ⟨r2, r3⟩]
    by_cases hz : s.size < i + 2
    · have hp : Hid (pt s i = (0, 0)) := by unfold Hid pt; rw [if_neg r1, hps]; simp [hz]
      clear hps
      go_enter Tryz.func56, Tryz.ntmps56
      go_wp2
      go_ret2
      rw [hp.out]; exact ⟨rfl, rfl⟩
    · have hp : Hid (pt s i = match ptRest s (i + 2) (i + 1) ((nx s i : Int) - 192) with
          | none => (0, 0)
          | some c => if c < 128 ∨ 1114111 < c ∨ (55296 ≤ c ∧ c < 57344) then (0, 0) else (c, 2)) := by
        unfold Hid pt; rw [if_neg r1, hps]; dsimp only; rw [if_neg (by omega)]; cases ptRest s _ (i + 1) _ <;> rfl
      clear hps
      go_enter Tryz.func56, Tryz.ntmps56
      go_wp2
      go_loop [4, 5, 8] (fun c m j => PtRel s i 2 ((nx s i : Int) - 192) c m j) (fun _ _ j => i + 8 - (intOf j).toNat)
      case atStart => unfold PtRel; exact ⟨i + 1, _, by omega, by omega, by go_num, rfl, rfl, by omega, by rw [show i + 1 - i = 1 by omega]; omega, rfl⟩
      case round =>
        unfold PtRel at hrel
        obtain ⟨k, q, hk1, hk2, rfl, rfl, rfl, hq1, hq2, hr⟩ := hrel
        have hq3 : q ≤ 16777216 := by
          have : k - i = 1 ∨ k - i = 2 ∨ k - i = 3 ∨ k - i = 4 := by omega
          rcases this with h | h | h | h <;> rw [h] at hq2 <;> omega
        have hq4 : Hid (q < 64 ^ (k - i)) := hq2
        clear hq2
        have hnk := nx_lt s k
        by_cases hlt : k < i + 2
        · have hks : k < s.size := by omega
          have ek : s[k].toNat = nx s k := nx_at hks
          have k1 : (0 : Int) ≤ (k : Int) := by omega
          have k2 : (k : Int) < (s.size : Int) := by omega
          have k3 : (k : Int) < (i : Int) + 2 := by omega
          by_cases b1 : nx s k < 128
          · have hf : Hid (pt s i = (0, 0)) := by unfold Hid; rw [hp.out, hr.out, ptRest_bad hlt (.inl b1)]
            go_wp2
            go_ret2
            rw [hf.out]; exact ⟨rfl, rfl⟩
          by_cases b2 : 191 < nx s k
          · have hf : Hid (pt s i = (0, 0)) := by unfold Hid; rw [hp.out, hr.out, ptRest_bad hlt (.inr b2)]
            go_wp2
            go_ret2
            rw [hf.out]; exact ⟨rfl, rfl⟩
          have hr' : Hid (ptRest s (i + 2) (i + 1) ((nx s i : Int) - 192) = ptRest s (i + 2) (k + 1) (q * 64 + (nx s k : Int) - 128)) := hr.out.trans (ptRest_go hlt (by omega) (by omega))
          have hq5 : q * 64 + (nx s k : Int) - 128 < 64 ^ (k + 1 - i) := by
            rw [show k + 1 - i = (k - i) + 1 by omega, Int.pow_succ]; have := hq4.out; omega
          have hq6 : Hid (q * 64 + (nx s k : Int) - 128 < 64 ^ (k + 1 - i)) := hq5
          clear hq5
          go_wp2
          go_round
          case rel => (first | refine ⟨_, _, _, ?_, rfl, rfl, rfl⟩ | skip); unfold PtRel; exact ⟨k + 1, _, by omega, by omega, by go_num, rfl, rfl, by omega, hq6.out, hr'⟩
          case measure => simp [intOf]; omega
        · obtain rfl : k = i + 2 := by omega
          have hr' : Hid (pt s i = if q < 128 ∨ 1114111 < q ∨ (55296 ≤ q ∧ q < 57344) then (0, 0) else (q, 2)) := by
            unfold Hid; rw [hp.out, hr.out, ptRest_stop (by omega)]
          have k3 : ¬ ((i : Int) + 2 < (i : Int) + 2) := by omega
          by_cases g1 : q < 128
          · have hf : Hid (pt s i = (0, 0)) := by unfold Hid; rw [hr'.out, if_pos (.inl g1)]
            go_wp2
            go_ret2
            rw [hf.out]; exact ⟨rfl, rfl⟩
          by_cases g2 : 1114111 < q
          · have hf : Hid (pt s i = (0, 0)) := by unfold Hid; rw [hr'.out, if_pos (.inr (.inl g2))]
            go_wp2
            go_ret2
            rw [hf.out]; exact ⟨rfl, rfl⟩
          by_cases g3 : 55296 ≤ q
          · by_cases g4 : q < 57344
            · have hf : Hid (pt s i = (0, 0)) := by unfold Hid; rw [hr'.out, if_pos (.inr (.inr ⟨g3, g4⟩))]
              go_wp2
              go_ret2
              rw [hf.out]; exact ⟨rfl, rfl⟩
            · have hf : Hid (pt s i = (q, 2)) := by unfold Hid; rw [hr'.out, if_neg (by omega)]
              go_wp2
              go_ret2
              rw [hf.out]; exact ⟨rfl, rfl⟩
          · have hf : Hid (pt s i = (q, 2)) := by unfold Hid; rw [hr'.out, if_neg (by omega)]
            go_wp2
            go_ret2
            rw [hf.out]; exact ⟨rfl, rfl⟩
  by_cases r224 : 224 ≤ nx s i ∧ nx s i < 240
  · obtain ⟨r2, r3⟩ := r224
    have hps : ptStart (nx s i) = ((nx s i : Int) - 224, 3, 2048) := by unfold ptStart; rw [if_neg (by omega), if_pos ⟨r2, r3⟩]
    by_cases hz : s.size < i + 3
    · have hp : Hid (pt s i = (0, 0)) := by unfold Hid pt; rw [if_neg r1, hps]; simp [hz]
      clear hps
      go_enter Tryz.func56, Tryz.ntmps56
      go_wp2
      go_ret2
      rw [hp.out]; exact ⟨rfl, rfl⟩
    · have hp : Hid (pt s i = match ptRest s (i + 3) (i + 1) ((nx s i : Int) - 224) with
          | none => (0, 0)
          | some c => if c < 2048 ∨ 1114111 < c ∨ (55296 ≤ c ∧ c < 57344) then (0, 0) else (c, 3)) := by
        unfold Hid pt; rw [if_neg r1, hps]; dsimp only; rw [if_neg (by omega)]; cases ptRest s _ (i + 1) _ <;> rfl
      clear hps
      go_enter Tryz.func56, Tryz.ntmps56
      go_wp2
      go_loop [4, 5, 8] (fun c m j => PtRel s i 3 ((nx s i : Int) - 224) c m j) (fun _ _ j => i + 8 - (intOf j).toNat)
      case atStart => unfold PtRel; exact ⟨i + 1, _, by omega, by omega, by go_num, rfl, rfl, by omega, by rw [show i + 1 - i = 1 by omega]; omega, rfl⟩
      case round =>
        unfold PtRel at hrel
        obtain ⟨k, q, hk1, hk2, rfl, rfl, rfl, hq1, hq2, hr⟩ := hrel
        have hq3 : q ≤ 16777216 := by
          have : k - i = 1 ∨ k - i = 2 ∨ k - i = 3 ∨ k - i = 4 := by omega
          rcases this with h | h | h | h <;> rw [h] at hq2 <;> omega
        have hq4 : Hid (q < 64 ^ (k - i)) := hq2
        clear hq2
        have hnk := nx_lt s k
        by_cases hlt : k < i + 3
        · have hks : k < s.size := by omega
          have ek : s[k].toNat = nx s k := nx_at hks
          have k1 : (0 : Int) ≤ (k : Int) := by omega
          have k2 : (k : Int) < (s.size : Int) := by omega
          have k3 : (k : Int) < (i : Int) + 3 := by omega
          by_cases b1 : nx s k < 128
          · have hf : Hid (pt s i = (0, 0)) := by unfold Hid; rw [hp.out, hr.out, ptRest_bad hlt (.inl b1)]
            go_wp2
            go_ret2
            rw [hf.out]; exact ⟨rfl, rfl⟩
          by_cases b2 : 191 < nx s k
          · have hf : Hid (pt s i = (0, 0)) := by unfold Hid; rw [hp.out, hr.out, ptRest_bad hlt (.inr b2)]
            go_wp2
            go_ret2
            rw [hf.out]; exact ⟨rfl, rfl⟩
          have hr' : Hid (ptRest s (i + 3) (i + 1) ((nx s i : Int) - 224) = ptRest s (i + 3) (k + 1) (q * 64 + (nx s k : Int) - 128)) := hr.out.trans (ptRest_go hlt (by omega) (by omega))
          have hq5 : q * 64 + (nx s k : Int) - 128 < 64 ^ (k + 1 - i) := by
            rw [show k + 1 - i = (k - i) + 1 by omega, Int.pow_succ]; have := hq4.out; omega
          have hq6 : Hid (q * 64 + (nx s k : Int) - 128 < 64 ^ (k + 1 - i)) := hq5
          clear hq5
          go_wp2
          go_round
          case rel => (first | refine ⟨_, _, _, ?_, rfl, rfl, rfl⟩ | skip); unfold PtRel; exact ⟨k + 1, _, by omega, by omega, by go_num, rfl, rfl, by omega, hq6.out, hr'⟩
          case measure => simp [intOf]; omega
        · obtain rfl : k = i + 3 := by omega
          have hr' : Hid (pt s i = if q < 2048 ∨ 1114111 < q ∨ (55296 ≤ q ∧ q < 57344) then (0, 0) else (q, 3)) := by
            unfold Hid; rw [hp.out, hr.out, ptRest_stop (by omega)]
          have k3 : ¬ ((i : Int) + 3 < (i : Int) + 3) := by omega
          by_cases g1 : q < 2048
          · have hf : Hid (pt s i = (0, 0)) := by unfold Hid; rw [hr'.out, if_pos (.inl g1)]
            go_wp2
            go_ret2
            rw [hf.out]; exact ⟨rfl, rfl⟩
          by_cases g2 : 1114111 < q
          · have hf : Hid (pt s i = (0, 0)) := by unfold Hid; rw [hr'.out, if_pos (.inr (.inl g2))]
            go_wp2
            go_ret2
            rw [hf.out]; exact ⟨rfl, rfl⟩
          by_cases g3 : 55296 ≤ q
          · by_cases g4 : q < 57344
            · have hf : Hid (pt s i = (0, 0)) := by unfold Hid; rw [hr'.out, if_pos (.inr (.inr ⟨g3, g4⟩))]
              go_wp2
              go_ret2
              rw [hf.out]; exact ⟨rfl, rfl⟩
            · have hf : Hid (pt s i = (q, 3)) := by unfold Hid; rw [hr'.out, if_neg (by omega)]
              go_wp2
              go_ret2
              rw [hf.out]; exact ⟨rfl, rfl⟩
          · have hf : Hid (pt s i = (q, 3)) := by unfold Hid; rw [hr'.out, if_neg (by omega)]
            go_wp2
            go_ret2
            rw [hf.out]; exact ⟨rfl, rfl⟩
  by_cases r240 : 240 ≤ nx s i ∧ nx s i < 245
  · obtain ⟨r2, r3⟩ := r240
    have hps : ptStart (nx s i) = ((nx s i : Int) - 240, 4, 65536) := by unfold ptStart; rw [if_neg (by omega), if_neg (by omega), if_pos ⟨r2, r3⟩]
    by_cases hz : s.size < i + 4
    · have hp : Hid (pt s i = (0, 0)) := by unfold Hid pt; rw [if_neg r1, hps]; simp [hz]
      clear hps
      go_enter Tryz.func56, Tryz.ntmps56
      go_wp2
      go_ret2
      rw [hp.out]; exact ⟨rfl, rfl⟩
    · have hp : Hid (pt s i = match ptRest s (i + 4) (i + 1) ((nx s i : Int) - 240) with
          | none => (0, 0)
          | some c => if c < 65536 ∨ 1114111 < c ∨ (55296 ≤ c ∧ c < 57344) then (0, 0) else (c, 4)) := by
        unfold Hid pt; rw [if_neg r1, hps]; dsimp only; rw [if_neg (by omega)]; cases ptRest s _ (i + 1) _ <;> rfl
      clear hps
      go_enter Tryz.func56, Tryz.ntmps56
      go_wp2
      go_loop [4, 5, 8] (fun c m j => PtRel s i 4 ((nx s i : Int) - 240) c m j) (fun _ _ j => i + 8 - (intOf j).toNat)
      case atStart => unfold PtRel; exact ⟨i + 1, _, by omega, by omega, by go_num, rfl, rfl, by omega, by rw [show i + 1 - i = 1 by omega]; omega, rfl⟩
      case round =>
        unfold PtRel at hrel
        obtain ⟨k, q, hk1, hk2, rfl, rfl, rfl, hq1, hq2, hr⟩ := hrel
        have hq3 : q ≤ 16777216 := by
          have : k - i = 1 ∨ k - i = 2 ∨ k - i = 3 ∨ k - i = 4 := by omega
          rcases this with h | h | h | h <;> rw [h] at hq2 <;> omega
        have hq4 : Hid (q < 64 ^ (k - i)) := hq2
        clear hq2
        have hnk := nx_lt s k
        by_cases hlt : k < i + 4
        · have hks : k < s.size := by omega
          have ek : s[k].toNat = nx s k := nx_at hks
          have k1 : (0 : Int) ≤ (k : Int) := by omega
          have k2 : (k : Int) < (s.size : Int) := by omega
          have k3 : (k : Int) < (i : Int) + 4 := by omega
          by_cases b1 : nx s k < 128
          · have hf : Hid (pt s i = (0, 0)) := by unfold Hid; rw [hp.out, hr.out, ptRest_bad hlt (.inl b1)]
            go_wp2
            go_ret2
            rw [hf.out]; exact ⟨rfl, rfl⟩
          by_cases b2 : 191 < nx s k
          · have hf : Hid (pt s i = (0, 0)) := by unfold Hid; rw [hp.out, hr.out, ptRest_bad hlt (.inr b2)]
            go_wp2
            go_ret2
            rw [hf.out]; exact ⟨rfl, rfl⟩
          have hr' : Hid (ptRest s (i + 4) (i + 1) ((nx s i : Int) - 240) = ptRest s (i + 4) (k + 1) (q * 64 + (nx s k : Int) - 128)) := hr.out.trans (ptRest_go hlt (by omega) (by omega))
          have hq5 : q * 64 + (nx s k : Int) - 128 < 64 ^ (k + 1 - i) := by
            rw [show k + 1 - i = (k - i) + 1 by omega, Int.pow_succ]; have := hq4.out; omega
          have hq6 : Hid (q * 64 + (nx s k : Int) - 128 < 64 ^ (k + 1 - i)) := hq5
          clear hq5
          go_wp2
          go_round
          case rel => (first | refine ⟨_, _, _, ?_, rfl, rfl, rfl⟩ | skip); unfold PtRel; exact ⟨k + 1, _, by omega, by omega, by go_num, rfl, rfl, by omega, hq6.out, hr'⟩
          case measure => simp [intOf]; omega
        · obtain rfl : k = i + 4 := by omega
          have hr' : Hid (pt s i = if q < 65536 ∨ 1114111 < q ∨ (55296 ≤ q ∧ q < 57344) then (0, 0) else (q, 4)) := by
            unfold Hid; rw [hp.out, hr.out, ptRest_stop (by omega)]
          have k3 : ¬ ((i : Int) + 4 < (i : Int) + 4) := by omega
          by_cases g1 : q < 65536
          · have hf : Hid (pt s i = (0, 0)) := by unfold Hid; rw [hr'.out, if_pos (.inl g1)]
            go_wp2
            go_ret2
            rw [hf.out]; exact ⟨rfl, rfl⟩
          by_cases g2 : 1114111 < q
          · have hf : Hid (pt s i = (0, 0)) := by unfold Hid; rw [hr'.out, if_pos (.inr (.inl g2))]
            go_wp2
            go_ret2
            rw [hf.out]; exact ⟨rfl, rfl⟩
          by_cases g3 : 55296 ≤ q
          · by_cases g4 : q < 57344
            · have hf : Hid (pt s i = (0, 0)) := by unfold Hid; rw [hr'.out, if_pos (.inr (.inr ⟨g3, g4⟩))]
              go_wp2
              go_ret2
              rw [hf.out]; exact ⟨rfl, rfl⟩
            · have hf : Hid (pt s i = (q, 4)) := by unfold Hid; rw [hr'.out, if_neg (by omega)]
              go_wp2
              go_ret2
              rw [hf.out]; exact ⟨rfl, rfl⟩
          · have hf : Hid (pt s i = (q, 4)) := by unfold Hid; rw [hr'.out, if_neg (by omega)]
            go_wp2
            go_ret2
            rw [hf.out]; exact ⟨rfl, rfl⟩
  have hp : Hid (pt s i = (0, 0)) := by unfold Hid pt ptStart; rw [if_neg r1, if_neg r194, if_neg r224, if_neg r240]; simp
  by_cases q1 : 194 ≤ nx s i
  · have q2 : 245 ≤ nx s i := by omega
    have q3 : ¬ (nx s i < 224) := by omega
    have q4 : ¬ (nx s i < 240) := by omega
    have q5 : ¬ (nx s i < 245) := by omega
    clear r194 r224 r240
    go_enter Tryz.func56, Tryz.ntmps56
    go_wp2
    go_ret2
    rw [hp.out]; exact ⟨rfl, rfl⟩
  · clear r194 r224 r240
    go_enter Tryz.func56, Tryz.ntmps56
    go_wp2
    go_ret2
    rw [hp.out]; exact ⟨rfl, rfl⟩

end

end Go.Proofs.YtigpnidffiaigaaGreat
