/- Walks: the reference's words on nodes: kinds, kids. Walks: the reference's words on nodes: kids of a kind; whether sizes fit. Plain words: the reference's tokens of a text. No Go, no memory. Walks: the reference's small functions on bytes. Walks. -/
import Derived.Test.YtigpnidffiaigaaGreatProg
import Derived.BigRegion
import Derived.Test.YtigpnidffiaigaaGreatQ01
set_option linter.unusedVariables false
set_option linter.unusedSimpArgs false
namespace Go.Proofs.YtigpnidffiaigaaGreat

section
open Go.RowKit

theorem rb {a b : Bool} (h : a = b) : Ending.returned (.bool a) = .returned (.bool b) := by rw [h]
theorem size_cast {l : List Nd} {i : Nat} (h : i < l.length) (h1 : 1 ≤ sz l i) : l[i].size = (sz l i : Int) := by
  rw [sz_at h] at h1 ⊢
  omega

def ndV (n : Nd) : Value := .agg #[.int .i64 n.kind, .string n.name, .string n.alias, .string n.text, .int .i64 n.flag, .int .i64 n.size]

def isTB (c : Int) : Bool := decide (20 ≤ c ∧ c ≤ 22)
def isVB (c : Int) : Bool := decide (11 ≤ c ∧ c ≤ 18)
def isSB (c : Int) : Bool := decide (c = 5)
def isOB (c : Int) : Bool := decide (c = 27)
def isNB (c : Int) : Bool := decide ((20 ≤ c ∧ c ≤ 22) ∧ c ≠ 22)
theorem isType_any (n : Nd) (w : World) : Calls Tryz.prog 37 #[ndV n] w fun e w' => e = .returned (.bool (isTB n.kind)) ∧ Sm [] w w' := by
  unfold ndV
  go_enter Tryz.func37, Tryz.ntmps37
  go_wp2
  all_goals go_ret
  all_goals exact ⟨rb (by unfold isTB; rw [Bool.eq_iff_iff]; simp; omega), (Sm.refl _ _).alloc _⟩
theorem isValue_any (n : Nd) (w : World) : Calls Tryz.prog 38 #[ndV n] w fun e w' => e = .returned (.bool (isVB n.kind)) ∧ Sm [] w w' := by
  unfold ndV
  go_enter Tryz.func38, Tryz.ntmps38
  go_wp2
  all_goals go_ret
  all_goals exact ⟨rb (by unfold isVB; rw [Bool.eq_iff_iff]; simp; omega), (Sm.refl _ _).alloc _⟩
theorem isSelections_any (n : Nd) (w : World) : Calls Tryz.prog 36 #[ndV n] w fun e w' => e = .returned (.bool (isSB n.kind)) ∧ Sm [] w w' := by
  unfold ndV
  go_enter Tryz.func36, Tryz.ntmps36
  go_wp2
  go_ret
  exact ⟨rb (by unfold isSB; rw [Bool.eq_iff_iff]; simp), (Sm.refl _ _).alloc _⟩
theorem isObject_any (n : Nd) (w : World) : Calls Tryz.prog 60 #[ndV n] w fun e w' => e = .returned (.bool (isOB n.kind)) ∧ Sm [] w w' := by
  unfold ndV
  go_enter Tryz.func60, Tryz.ntmps60
  go_wp2
  go_ret
  exact ⟨rb (by unfold isOB; rw [Bool.eq_iff_iff]; simp), (Sm.refl _ _).alloc _⟩
theorem isNullable_any (n : Nd) (w : World) : Calls Tryz.prog 41 #[ndV n] w fun e w' => e = .returned (.bool (isNB n.kind)) ∧ Sm [] w w' := by
  have ht := fun W => isType_any n W
  unfold ndV at *
  cases q : isTB n.kind with
  | true =>
    have q' : Hid (isTB n.kind = true) := q
    rw [q] at ht
    clear q
    go_enter Tryz.func41, Tryz.ntmps41
    go_wp2_with (go_at_call 37; refine (ht _).mono ?_; rintro e w' ⟨rfl, hs⟩; have hk := hs.cell (p := ⟨w.heap.size, 0, none⟩) (by simp) (by simp); simp at hk)
    go_ret
    have q2 := q'.out
    unfold isTB at q2
    exact ⟨rb (by unfold isNB; rw [Bool.eq_iff_iff]; simp at q2 ⊢; omega), ((Sm.refl _ _).alloc _).trans hs⟩
  | false =>
    have q' : Hid (isTB n.kind = false) := q
    rw [q] at ht
    clear q
    go_enter Tryz.func41, Tryz.ntmps41
    go_wp2_with (go_at_call 37; refine (ht _).mono ?_; rintro e w' ⟨rfl, hs⟩; have hk := hs.cell (p := ⟨w.heap.size, 0, none⟩) (by simp) (by simp); simp at hk)
    go_ret
    have q2 := q'.out
    unfold isTB at q2
    exact ⟨rb (by unfold isNB; rw [Bool.eq_iff_iff]; simp at q2 ⊢; omega), ((Sm.refl _ _).alloc _).trans hs⟩

theorem infoInt : (Tryz.prog.info? 3).map (fun i => (i.zero, i.size, i.bytes)) = some (some (.int .i64 0), 1, 8) := by kernel_rfl

def KidsRel (l : List Nd) (p e : Nat) (w : World) (v u : Value) (wr : World) : Prop :=
  ∃ (done rest : List Nat) (k : Nat), Ch l p k done ∧ Ch l k e rest ∧ u = .int .i64 k ∧ wr.ownsRow w.heap.size 3 1 v done.length (intC done) ∧ Sm [] w wr

set_option maxHeartbeats 1000000 in
theorem kids_any (l : List Nd) (i b o cap : Nat) (ks : List Nat) (w : World) (hd : DocAt w b o l) (hi : i < l.length) (hn : l.length ≤ 2147483647) (hc : Ch l (i + 1) (i + sz l i) ks) (he : i + sz l i ≤ l.length) :
    Calls Tryz.prog 10 #[.slice (some ⟨b, o, none⟩) l.length cap, .int .i64 (i : Int)] w fun e w' => ∃ v, e = .returned v ∧ IntsAt w' v ks ∧ Sm [] w w' := by
  have hle := hc.le
  have hsz : 1 ≤ sz l i := by omega
  have z1 : (0 : Int) ≤ (i : Int) := by omega
  have z2 : (i : Int) < (l.length : Int) := by omega
  go_enter Tryz.func10, Tryz.ntmps10
  go_wp2_with fail
  go_loopw [5, 6] (fun v u wr => KidsRel l (i + 1) (i + sz l i) w v u wr) (fun _ u _ => l.length + 1 - (intOf u).toNat)
  case atStart => unfold KidsRel; exact ⟨[], ks, i + 1, rfl, hc, by go_num, World.ownsRow_nil _ _ _ _, Sm.refl _ _⟩
  case round =>
    unfold KidsRel at hrel
    obtain ⟨done, rest, k, h1, h2, rfl, hown, hsm⟩ := hrel
    have ci := ((hd.sm0 hsm) i hi).c5
    rw [size_cast hi hsz] at ci
    have hle1 := h1.le
    have hle2 := h2.le
    have z3 : (0 : Int) ≤ (k : Int) := by omega
    by_cases hlt : k < i + sz l i
    · have z4 : (k : Int) < (i : Int) + (sz l i : Int) := by omega
      have hk : k < l.length := by omega
      have z5 : (k : Int) < (l.length : Int) := by omega
      obtain ⟨rest', rfl, g1, g2, g3⟩ : ∃ rest', rest = k :: rest' ∧ 1 ≤ sz l k ∧ k + sz l k ≤ i + sz l i ∧ Ch l (k + sz l k) (i + sz l i) rest' := by
        cases rest with
        | nil => simp only [Ch] at h2; omega
        | cons a r => obtain ⟨rfl, g1, g2, g3⟩ := h2; exact ⟨r, rfl, g1, g2, g3⟩
      have hz : w.heap.size ≤ wr.heap.size := hsm.size
      have H1 : Hid (Ch l (i + 1) (k + sz l k) (done ++ [k])) := h1.append (Ch.one g1)
      have HD : Hid (DocAt w b o l) := hd
      clear h1 h2
      go_wp2_with (at_builtin; refine app1 _ rfl _ _ _ rfl 3 _ 1 8 Tryz.underlying33 infoInt rfl (by omega) (by omega) _ done.length (intC done) rfl hown _ rfl rfl (by simp [Value.oneCell']) (by omega) hz ?_)
      intro g cap w' hown' hg hat hlt'
      have sm' := hsm.grown hg (fun b hb => .inl (hown.lt b hb).1)
      have ci' := ((hd.sm0 sm') k hk).c5
      rw [size_cast hk g1] at ci'
      have ow' : w'.ownsRow w.heap.size 3 1 (.slice (some ⟨g, 0, none⟩) (done.length + 1) cap) (done ++ [k]).length (intC (done ++ [k])) := by
        rw [intC_append]; simpa [intC] using hown'
      clear hown' hg hat hlt' hown hsm ci
      go_wp2_with fail
      go_roundw
      case rel => (first | refine ⟨_, _, ?_, rfl, rfl⟩ | skip); unfold KidsRel; exact ⟨done ++ [k], rest', k + sz l k, H1.out, g3, by go_num, ow', sm'⟩
      case measure => simp [intOf]; omega
    · have z4 : ¬ ((k : Int) < (i : Int) + (sz l i : Int)) := by omega
      have hf : Hid (ks = done) := by
        obtain rfl : k = i + sz l i := by omega
        exact hc.uniq h1
      clear h1 h2
      go_wp2_with fail
      go_ret
      exact ⟨_, rfl, by rw [hf.out]; exact intsAt_own hown, hsm⟩

end

section
open Go.RowKit

def SomeB (w : World) (e : Ending) (w' : World) : Prop := ∃ b, e = .returned (.bool b) ∧ Sm [] w w'
def SomeInts (w : World) (n : Nat) (e : Ending) (w' : World) : Prop := ∃ v ks, e = .returned v ∧ IntsAt w' v ks ∧ Sm [] w w' ∧ ∀ k, k ∈ ks → k < n
def TheInts (w : World) (ks : List Nat) (e : Ending) (w' : World) : Prop := ∃ v, e = .returned v ∧ IntsAt w' v ks ∧ Sm [] w w'
def KoRel (l : List Nd) (c : Int) (ks : List Nat) (w : World) (v u : Value) (wr : World) : Prop :=
  ∃ (j : Nat), j ≤ ks.length ∧ u = .int .i64 (j : Int) ∧ wr.ownsRow w.heap.size 3 1 v ((ks.take j).filter fun k => decide (kd l k = c)).length (intC ((ks.take j).filter fun k => decide (kd l k = c))) ∧ Sm [] w wr

theorem take_filter_yes {ks : List Nat} {j : Nat} (p : Nat → Bool) (h : j < ks.length) (hp : p (ks.getD j 0) = true) : (ks.take (j + 1)).filter p = (ks.take j).filter p ++ [ks.getD j 0] := by
  have e : ks.getD j 0 = ks[j] := by simp [List.getD_eq_getElem?_getD, h]
  rw [e] at hp ⊢
  rw [List.take_succ_eq_append_getElem h, List.filter_append]
  simp [hp]
theorem take_filter_no {ks : List Nat} {j : Nat} (p : Nat → Bool) (h : j < ks.length) (hp : p (ks.getD j 0) = false) : (ks.take (j + 1)).filter p = (ks.take j).filter p := by
  have e : ks.getD j 0 = ks[j] := by simp [List.getD_eq_getElem?_getD, h]
  rw [e] at hp
  rw [List.take_succ_eq_append_getElem h, List.filter_append]
  simp [hp]
theorem getD_memN {ks : List Nat} {j : Nat} (h : j < ks.length) : ks.getD j 0 ∈ ks := by
  rw [List.getD_eq_getElem?_getD, List.getElem?_eq_getElem h]; exact List.getElem_mem h

set_option maxHeartbeats 1000000 in
theorem kidsOf_any (l : List Nd) (i b o cap : Nat) (c : Int) (ks : List Nat) (w : World) (hd : DocAt w b o l) (hi : i < l.length) (hn : l.length ≤ 2147483647) (hc : Ch l (i + 1) (i + sz l i) ks) (he : i + sz l i ≤ l.length) :
    Calls Tryz.prog 11 #[.slice (some ⟨b, o, none⟩) l.length cap, .int .i64 (i : Int), .int .i64 c] w (TheInts w (ks.filter fun k => decide (kd l k = c))) := by
  have hle := hc.le
  have hmem := hc.mem
  have HM : Hid (∀ a, a ∈ ks → a < l.length) := fun a ha => by have := hmem a ha; omega
  clear hmem
  have hlen : ks.length ≤ 2147483647 := by omega
  have HK := fun W h => kids_any l i b o cap ks W h hi hn hc he
  have HK' : Hid (∀ W, DocAt W b o l → Calls Tryz.prog 10 #[.slice (some ⟨b, o, none⟩) l.length cap, .int .i64 (i : Int)] W fun e w' => ∃ v, e = .returned v ∧ IntsAt w' v ks ∧ Sm [] W w') := HK
  clear HK hc he hle
  go_enter Tryz.func11, Tryz.ntmps11
  go_wp2_with fail
  refine (HK'.out _ hd).mono ?_
  rintro e w1 ⟨v, rfl, ⟨a, kcap, rfl, hk1, hk2, hk3⟩, hs1⟩
  have hd1 := hd.sm0 hs1
  have HC : Hid (∀ i, i < ks.length → ∃ b o, a = some ⟨b, o, none⟩ ∧ b < w1.heap.size ∧ w1.cell? ⟨b, o + i, none⟩ = some (.int .i64 ((ks.getD i 0 : Nat) : Int))) := hk3
  clear hk3 HK' hd
  unfold maxLen at hk2
  go_wp2_with fail
  go_loopw [7, 9] (fun v u wr => KoRel l c ks w1 v u wr) (fun _ u _ => ks.length - (intOf u).toNat)
  case atStart => unfold KoRel; exact ⟨0, Nat.zero_le _, rfl, World.ownsRow_nil _ _ _ _, Sm.refl _ _⟩
  case round =>
    unfold KoRel at hrel
    obtain ⟨j, hj, rfl, hown, hsm⟩ := hrel
    have z3 : (0 : Int) ≤ (j : Int) := by omega
    by_cases hlt : j < ks.length
    · have z4 : (j : Int) < (ks.length : Int) := by omega
      obtain ⟨kb, ko, rfl, hkb, hkc⟩ := HC.out j hlt
      have hkc' := hsm.keeps hkc (by simp)
      have hkl := HM.out _ (getD_memN hlt)
      have hY : Hid (∀ (p : Nat → Bool), p (ks.getD j 0) = true → (ks.take (j + 1)).filter p = (ks.take j).filter p ++ [ks.getD j 0]) := fun p => take_filter_yes p hlt
      have hN : Hid (∀ (p : Nat → Bool), p (ks.getD j 0) = false → (ks.take (j + 1)).filter p = (ks.take j).filter p) := fun p => take_filter_no p hlt
      clear hkc
      generalize ks.getD j 0 = k at *
      have z5 : (0 : Int) ≤ (k : Int) := by omega
      have z6 : (k : Int) < (l.length : Int) := by omega
      have ck := ((hd1.sm0 hsm) k hkl).c0
      have hz : w1.heap.size ≤ wr.heap.size := hsm.size
      have hl2 : ((ks.take j).filter fun k => decide (kd l k = c)).length ≤ 2147483647 := by
        have := List.length_filter_le (fun k => decide (kd l k = c)) (ks.take j)
        have := List.length_take_le j ks
        omega
      have hkd := kd_at hkl
      by_cases hq : l[k].kind = c
      · have hq' : Hid ((ks.take (j + 1)).filter (fun k => decide (kd l k = c)) = (ks.take j).filter (fun k => decide (kd l k = c)) ++ [k]) := hY.out _ (by rw [hkd]; simp [hq])
        rw [hq] at ck
        clear hq hkd
        generalize (ks.take j).filter (fun k => decide (kd l k = c)) = acc at *
        go_wp2_with (at_builtin; refine app1 _ rfl _ _ _ rfl 3 _ 1 8 Tryz.underlying33 infoInt rfl (by omega) (by omega) _ acc.length (intC acc) rfl hown _ rfl rfl (by simp [Value.oneCell']) (by omega) hz ?_)
        intro g gcap w' hown' hg hat hlt'
        have sm' := hsm.grown hg (fun b hb => .inl (hown.lt b hb).1)
        have ow' : w'.ownsRow w1.heap.size 3 1 (.slice (some ⟨g, 0, none⟩) (acc.length + 1) gcap) (acc ++ [k]).length (intC (acc ++ [k])) := by
          rw [intC_append]; simpa [intC] using hown'
        clear hown' hg hat hlt' hown hsm
        go_wp2_with fail
        go_roundw
        case rel => (first | refine ⟨_, _, ?_, rfl, rfl⟩ | skip); unfold KoRel; exact ⟨j + 1, by omega, by go_num, by rw [hq'.out]; exact ow', sm'⟩
        case measure => simp [intOf]; omega
      · have hq' : Hid ((ks.take (j + 1)).filter (fun k => decide (kd l k = c)) = (ks.take j).filter (fun k => decide (kd l k = c))) := hN.out _ (by rw [hkd]; simp [hq])
        have e1 : (l[k].kind == c) = false := by simp [hq]
        clear hq hkd
        go_wp2_with fail
        go_roundw
        case rel => (first | refine ⟨_, _, ?_, rfl, rfl⟩ | skip); unfold KoRel; exact ⟨j + 1, by omega, by go_num, by rw [hq'.out]; exact hown, hsm⟩
        case measure => simp [intOf]; omega
    · have z4 : ¬ ((j : Int) < (ks.length : Int)) := by omega
      have hf : Hid (ks.take j = ks) := List.take_of_length_le (by omega)
      go_wp2_with fail
      go_ret
      rw [hf.out] at hown
      exact ⟨_, rfl, intsAt_own hown, hs1.trans hsm⟩

theorem kidOf_any (l : List Nd) (i b o cap : Nat) (c : Int) (ks : List Nat) (w : World) (hd : DocAt w b o l) (hi : i < l.length) (hn : l.length ≤ 2147483647) (hc : Ch l (i + 1) (i + sz l i) ks) (he : i + sz l i ≤ l.length) :
    Calls Tryz.prog 61 #[.slice (some ⟨b, o, none⟩) l.length cap, .int .i64 (i : Int), .int .i64 c] w fun e w' => ∃ r : Int, e = .returned (.int .i64 r) ∧ Sm [] w w' := by
  have HK : Hid (Calls Tryz.prog 11 #[.slice (some ⟨b, o, none⟩) l.length cap, .int .i64 (i : Int), .int .i64 c] w (TheInts w (ks.filter fun k => decide (kd l k = c)))) := kidsOf_any l i b o cap c ks w hd hi hn hc he
  clear hd hi hn hc he
  generalize (ks.filter fun k => decide (kd l k = c)) = xs at *
  go_enter Tryz.func61, Tryz.ntmps61
  go_wp2_with fail
  refine HK.out.mono ?_
  rintro e w1 ⟨v, rfl, ⟨a, kcap, rfl, hk1, hk2, hk3⟩, hs1⟩
  cases xs with
  | nil =>
    clear hk3
    go_wp2_with fail
    go_ret
    exact ⟨_, rfl, hs1⟩
  | cons x xs =>
    obtain ⟨kb, ko, rfl, hkb, hkc⟩ := hk3 0 (by simp)
    clear hk3
    simp at hkc
    go_wp2_with fail
    go_ret
    exact ⟨_, rfl, hs1⟩

theorem fixedAt_any (l : List Nd) (i b o cap : Nat) (w : World) (hd : DocAt w b o l) (hi : i < l.length) (hn : l.length ≤ 2147483647) (hs : 1 ≤ sz l i) (he : i + sz l i ≤ l.length) :
    Calls Tryz.prog 39 #[.slice (some ⟨b, o, none⟩) l.length cap, .int .i64 (i : Int)] w (SomeB w) := by
  have z1 : (0 : Int) ≤ (i : Int) := by omega
  have z2 : (i : Int) < (l.length : Int) := by omega
  have ci := (hd i hi).c5
  rw [size_cast hi hs] at ci
  have HD : Hid (DocAt w b o l) := hd
  clear hd
  go_enter Tryz.func39, Tryz.ntmps39
  go_wp2_with fail
  go_loop [5] (fun u => ∃ k : Nat, k ≤ i + sz l i ∧ u = .int .i64 (k : Int)) (fun u => l.length - (intOf u).toNat)
  case atStart => exact ⟨i, by omega, rfl⟩
  case round =>
    obtain ⟨k, hk, rfl⟩ := hrel
    have z3 : (0 : Int) ≤ (k : Int) := by omega
    by_cases hlt : k < i + sz l i
    · have z4 : (k : Int) < (i : Int) + (sz l i : Int) := by omega
      have hkl : k < l.length := by omega
      have z5 : (k : Int) < (l.length : Int) := by omega
      have ck := (HD.out k hkl).c0
      by_cases hq : l[k].kind = 11
      · rw [hq] at ck
        go_wp2_with fail
        go_ret
        exact ⟨_, rfl, Sm.refl _ _⟩
      · have e1 : (l[k].kind == 11) = false := by simp [hq]
        go_wp2_with fail
        go_round
        case rel => exact ⟨k + 1, by omega, by go_num⟩
        case measure => simp [intOf]; omega
    · have z4 : ¬ ((k : Int) < (i : Int) + (sz l i : Int)) := by omega
      go_wp2_with fail
      go_ret
      exact ⟨_, rfl, Sm.refl _ _⟩

end

section
/-- the byte at a place; 0 behind the end -/
def nx (s : ByteArray) (i : Nat) : Nat := if h : i < s.size then s[i].toNat else 0
theorem nx_lt (s : ByteArray) (i : Nat) : nx s i < 256 := by
  unfold nx; split
  · exact UInt8.toNat_lt _
  · omega
theorem nx_at {s : ByteArray} {i : Nat} (h : i < s.size) : s[i].toNat = nx s i := by simp [nx, h]
theorem nx_out {s : ByteArray} {i : Nat} (h : s.size ≤ i) : nx s i = 0 := by unfold nx; rw [dif_neg (by omega)]
theorem nx_pos {s : ByteArray} {i : Nat} (h : 0 < nx s i) : i < s.size := by
  rcases Nat.lt_or_ge i s.size with h' | h'
  · exact h'
  · rw [nx_out h'] at h; omega

def isBg (c : Nat) : Bool := decide ((97 ≤ c ∧ c ≤ 122) ∨ (65 ≤ c ∧ c ≤ 90) ∨ c = 95)
def isDg (c : Nat) : Bool := decide (48 ≤ c ∧ c ≤ 57)
def sgn (c : Nat) : Int :=
  if c = 33 then 2 else if c = 36 then 3 else if c = 40 then 4 else if c = 41 then 5 else if c = 58 then 7 else if c = 61 then 8 else if c = 64 then 9 else
  if c = 91 then 10 else if c = 93 then 11 else if c = 123 then 12 else if c = 124 then 13 else if c = 125 then 14 else if c = 38 then 20 else 0
def hexd (c : Nat) : Int := if 48 ≤ c ∧ c ≤ 57 then (c : Int) - 48 else if 97 ≤ c ∧ c ≤ 102 then (c : Int) - 87 else if 65 ≤ c ∧ c ≤ 70 then (c : Int) - 55 else -1

/-- whether bytes stand at a place -/
def st (s : ByteArray) (at' : Nat) (t : ByteArray) : Bool := decide (at' + t.size ≤ s.size ∧ s.extract at' (at' + t.size) = t)

/-- the place behind digits -/
def digs (s : ByteArray) (at' : Nat) : Nat := if h : isDg (nx s at') = true then digs s (at' + 1) else at'
termination_by s.size - at'
decreasing_by
  have : at' < s.size := nx_pos (by unfold isDg at h; simp at h; omega)
  omega
/-- the place behind a name's bytes -/
def nameTo (s : ByteArray) (at' : Nat) : Nat := if h : (isBg (nx s at') || isDg (nx s at')) = true then nameTo s (at' + 1) else at'
termination_by s.size - at'
decreasing_by
  have : at' < s.size := nx_pos (by unfold isBg isDg at h; simp at h; omega)
  omega

/-- the code point at a place, and how many bytes it has; 0 bytes: none -/
def ptStart (f : Nat) : Int × Nat × Int :=
  if 194 ≤ f ∧ f < 224 then ((f : Int) - 192, 2, 128) else
  if 224 ≤ f ∧ f < 240 then ((f : Int) - 224, 3, 2048) else
  if 240 ≤ f ∧ f < 245 then ((f : Int) - 240, 4, 65536) else (0, 0, 0)
/-- the rest of a code point's bytes: none: one is out of form -/
def ptRest (s : ByteArray) (to : Nat) (i : Nat) (c : Int) : Option Int :=
  if h : i < to then (if nx s i < 128 ∨ 191 < nx s i then none else ptRest s to (i + 1) (c * 64 + (nx s i : Int) - 128)) else some c
termination_by to - i
def pt (s : ByteArray) (at' : Nat) : Int × Nat :=
  if nx s at' < 128 then ((nx s at' : Int), 1) else
  let (c, many, least) := ptStart (nx s at')
  if many = 0 ∨ s.size < at' + many then (0, 0) else
  match ptRest s (at' + many) (at' + 1) c with
  | none => (0, 0)
  | some c => if c < least ∨ 1114111 < c ∨ (55296 ≤ c ∧ c < 57344) then (0, 0) else (c, many)

end

section
open Go.RowKit

theorem ret_bool {a b : Bool} (h : a = b) : Ending.returned (.bool a) = .returned (.bool b) := by rw [h]
theorem ret_int {k : IntKind} {a b : Int} (h : a = b) : Ending.returned (.int k a) = .returned (.int k b) := by rw [h]
theorem ret_string {a b : ByteArray} (h : a = b) : Ending.returned (.string a) = .returned (.string b) := by rw [h]

set_option maxHeartbeats 400000 in
theorem isBegin_any (c : Nat) (hc : c < 256) (w : World) : Calls Tryz.prog 53 #[.int .u8 (c : Int)] w fun e w' => e = .returned (.bool (isBg c)) ∧ w' = w := by
  go_enter Tryz.func53, Tryz.ntmps53
  go_wp2
  all_goals go_ret
  all_goals (refine ⟨ret_bool ?_, rfl⟩; rw [Bool.eq_iff_iff]; simp [isBg]; omega)

set_option maxHeartbeats 400000 in
theorem isDigit_any (c : Nat) (hc : c < 256) (w : World) : Calls Tryz.prog 54 #[.int .u8 (c : Int)] w fun e w' => e = .returned (.bool (isDg c)) ∧ w' = w := by
  go_enter Tryz.func54, Tryz.ntmps54
  go_wp2
  all_goals go_ret
  all_goals (refine ⟨ret_bool ?_, rfl⟩; rw [Bool.eq_iff_iff]; simp [isDg]; omega)

set_option maxHeartbeats 1000000 in
theorem sign_any (c : Nat) (hc : c < 256) (w : World) : Calls Tryz.prog 144 #[.int .u8 (c : Int)] w fun e w' => e = .returned (.int .i64 (sgn c)) ∧ w' = w := by
  by_cases h33 : c = 33
  · subst h33
    go_enter Tryz.func144, Tryz.ntmps144
    go_wp2
    go_ret
    exact ⟨rfl, rfl⟩
  by_cases h36 : c = 36
  · subst h36
    go_enter Tryz.func144, Tryz.ntmps144
    go_wp2
    go_ret
    exact ⟨rfl, rfl⟩
  by_cases h40 : c = 40
  · subst h40
    go_enter Tryz.func144, Tryz.ntmps144
    go_wp2
    go_ret
    exact ⟨rfl, rfl⟩
  by_cases h41 : c = 41
  · subst h41
    go_enter Tryz.func144, Tryz.ntmps144
    go_wp2
    go_ret
    exact ⟨rfl, rfl⟩
  by_cases h58 : c = 58
  · subst h58
    go_enter Tryz.func144, Tryz.ntmps144
    go_wp2
    go_ret
    exact ⟨rfl, rfl⟩
  by_cases h61 : c = 61
  · subst h61
    go_enter Tryz.func144, Tryz.ntmps144
    go_wp2
    go_ret
    exact ⟨rfl, rfl⟩
  by_cases h64 : c = 64
  · subst h64
    go_enter Tryz.func144, Tryz.ntmps144
    go_wp2
    go_ret
    exact ⟨rfl, rfl⟩
  by_cases h91 : c = 91
  · subst h91
    go_enter Tryz.func144, Tryz.ntmps144
    go_wp2
    go_ret
    exact ⟨rfl, rfl⟩
  by_cases h93 : c = 93
  · subst h93
    go_enter Tryz.func144, Tryz.ntmps144
    go_wp2
    go_ret
    exact ⟨rfl, rfl⟩
  by_cases h123 : c = 123
  · subst h123
    go_enter Tryz.func144, Tryz.ntmps144
    go_wp2
    go_ret
    exact ⟨rfl, rfl⟩
  by_cases h124 : c = 124
  · subst h124
    go_enter Tryz.func144, Tryz.ntmps144
    go_wp2
    go_ret
    exact ⟨rfl, rfl⟩
  by_cases h125 : c = 125
  · subst h125
    go_enter Tryz.func144, Tryz.ntmps144
    go_wp2
    go_ret
    exact ⟨rfl, rfl⟩
  by_cases h38 : c = 38
  · subst h38
    go_enter Tryz.func144, Tryz.ntmps144
    go_wp2
    go_ret
    exact ⟨rfl, rfl⟩
  have e33 : ((c : Int) == 33) = false := by simp; omega
  have e36 : ((c : Int) == 36) = false := by simp; omega
  have e40 : ((c : Int) == 40) = false := by simp; omega
  have e41 : ((c : Int) == 41) = false := by simp; omega
  have e58 : ((c : Int) == 58) = false := by simp; omega
  have e61 : ((c : Int) == 61) = false := by simp; omega
  have e64 : ((c : Int) == 64) = false := by simp; omega
  have e91 : ((c : Int) == 91) = false := by simp; omega
  have e93 : ((c : Int) == 93) = false := by simp; omega
  have e123 : ((c : Int) == 123) = false := by simp; omega
  have e124 : ((c : Int) == 124) = false := by simp; omega
  have e125 : ((c : Int) == 125) = false := by simp; omega
  have e38 : ((c : Int) == 38) = false := by simp; omega
  have hs : sgn c = 0 := by unfold sgn; simp only [h33, h36, h40, h41, h58, h61, h64, h91, h93, h123, h124, h125, h38, if_false]
  rw [hs]
  clear h33 h36 h40 h41 h58 h61 h64 h91 h93 h123 h124 h125 h38
  go_enter Tryz.func144, Tryz.ntmps144
  go_wp2
  go_ret
  exact ⟨rfl, rfl⟩

set_option maxHeartbeats 400000 in
theorem hexadecimal_any (c : Nat) (hc : c < 256) (w : World) : Calls Tryz.prog 173 #[.int .u8 (c : Int)] w fun e w' => e = .returned (.int .i64 (hexd c)) ∧ w' = w := by
  go_enter Tryz.func173, Tryz.ntmps173
  by_cases h1 : 48 ≤ c <;> by_cases h2 : c ≤ 57 <;> by_cases h3 : 97 ≤ c <;> by_cases h4 : c ≤ 102 <;> by_cases h5 : 65 ≤ c <;> by_cases h6 : c ≤ 70 <;> try omega
  all_goals go_wp2
  all_goals go_ret
  all_goals (refine ⟨ret_int ?_, rfl⟩; unfold hexd; (repeat' split) <;> omega)

set_option maxHeartbeats 400000 in
theorem next_any (xb : Nat) (s : ByteArray) (i : Nat) (w : World) (hx : w.cell? ⟨xb, 0, none⟩ = some (.string s)) (hi : i ≤ 4611686018427387904) :
    Calls Tryz.prog 145 #[.pointer (some ⟨xb, 0, none⟩), .int .i64 (i : Int)] w fun e w' => e = .returned (.int .u8 (nx s i : Int)) ∧ w' = w := by
  by_cases h : i < s.size
  · have h1 : (0 : Int) ≤ (i : Int) := by omega
    have h2 : (i : Int) < (s.size : Int) := by omega
    go_enter Tryz.func145, Tryz.ntmps145
    go_wp2
    go_ret
    exact ⟨ret_int (by rw [← nx_at h]), rfl⟩
  · have h2 : (s.size : Int) ≤ (i : Int) := by omega
    go_enter Tryz.func145, Tryz.ntmps145
    go_wp2
    go_ret
    exact ⟨ret_int (by rw [nx_out (by omega)]; rfl), rfl⟩

theorem fail_any (xb : Nat) (b : Value) (w : World) (hx : w.cell? ⟨xb, 3, none⟩ = some b) (hf : w.frozen? ⟨xb, 3, none⟩ = false) :
    Calls Tryz.prog 149 #[.pointer (some ⟨xb, 0, none⟩)] w fun e w' => e = .returned (.tuple #[]) ∧ w' = w.setCell ⟨xb, 3, none⟩ (.bool true) := by
  go_enter Tryz.func149, Tryz.ntmps149
  go_wp2
  go_end0
  exact ⟨rfl, rfl⟩

end

section
open Go.RowKit

theorem isDg_pos {s : ByteArray} {k : Nat} (h : isDg (nx s k) = true) : k < s.size := nx_pos (by unfold isDg at h; simp at h; omega)
theorem digs_yes {s : ByteArray} {k : Nat} (h : isDg (nx s k) = true) : digs s k = digs s (k + 1) := by rw [digs, dif_pos h]
theorem digs_no {s : ByteArray} {k : Nat} (h : isDg (nx s k) = false) : digs s k = k := by rw [digs, dif_neg (by simp [h])]

set_option maxHeartbeats 400000 in
theorem digits_any (xb : Nat) (s : ByteArray) (i : Nat) (w : World) (hx : w.cell? ⟨xb, 0, none⟩ = some (.string s)) (hs : s.size ≤ 1099511627776) (hi : i ≤ 1099511627900) :
    Calls Tryz.prog 172 #[.pointer (some ⟨xb, 0, none⟩), .int .i64 (i : Int)] w fun e w' => e = .returned (.int .i64 (digs s i : Int)) ∧ w' = w := by
  go_enter Tryz.func172, Tryz.ntmps172
  go_wp2_with fail
  go_loop [1] (fun v => ∃ k : Nat, k ≤ 1099511627900 ∧ v = .int .i64 k ∧ Hid (digs s i = digs s k)) (fun v => s.size - (intOf v).toNat)
  case atStart => exact ⟨i, hi, rfl, rfl⟩
  case round =>
    obtain ⟨k, hk, rfl, hd⟩ := hrel
    have hc := nx_lt s k
    cases hq : isDg (nx s k) with
    | true =>
      have hlt := isDg_pos hq
      have hd' : Hid (digs s i = digs s (k + 1)) := hd.out.trans (digs_yes hq)
      go_wp2_with (first | (go_at_call 145; refine (next_any _ _ _ _ hx (by omega)).mono ?_; rintro e w' ⟨rfl, rfl⟩) | (go_at_call 54; refine (isDigit_any _ hc _).mono ?_; rintro e w' ⟨rfl, rfl⟩))
      go_round
      case rel => exact ⟨k + 1, by omega, by go_num, hd'⟩
      case measure => simp [intOf]; omega
    | false =>
      have hd' : Hid (digs s i = k) := hd.out.trans (digs_no hq)
      go_wp2_with (first | (go_at_call 145; refine (next_any _ _ _ _ hx (by omega)).mono ?_; rintro e w' ⟨rfl, rfl⟩) | (go_at_call 54; refine (isDigit_any _ hc _).mono ?_; rintro e w' ⟨rfl, rfl⟩))
      go_ret
      exact ⟨ret_int (by rw [hd'.out]), rfl⟩

end

end Go.Proofs.YtigpnidffiaigaaGreat
