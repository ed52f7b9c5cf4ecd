/- Walks: the operation by its name; what fits. Walks: what fits. Walks: the execution: small callees. -/
import Derived.Test.YtigpnidffiaigaaGreatProg
import Derived.BigRegion
import Derived.Deep.RegionLaw
import Derived.Maps.Own
import Derived.Test.YtigpnidffiaigaaGreatQ03
import Derived.Test.YtigpnidffiaigaaGreatQ23
import Derived.Test.YtigpnidffiaigaaGreatQ49
set_option linter.unusedVariables false
set_option linter.unusedSimpArgs false
namespace Go.Proofs.YtigpnidffiaigaaGreat

section
open Go.RowKit

def isOp (l : List Nd) (k : Nat) : Bool := decide (kd l k = 2)
def asked (l : List Nd) (op : ByteArray) (k : Nat) : Bool := decide (op = ByteArray.empty ∨ nm l k = op)
/-- the operations that are asked for -/
noncomputable def opsOf (l : List Nd) (op : ByteArray) : List Nat := ((kids l 0).filter fun k => decide (kd l k = 2)).filter (asked l op)
def lastI (ms : List Nat) : Int := match ms.getLast? with | none => -1 | some k => (k : Int)
theorem lastI_snoc (ms : List Nat) (k : Nat) : lastI (ms ++ [k]) = (k : Int) := by simp [lastI]

def OaRel (l : List Nd) (op : ByteArray) (ks : List Nat) (w : World) (a m u : Value) (wr : World) : Prop :=
  ∃ j : Nat, j ≤ ks.length ∧ u = .int .i64 (j : Int) ∧ wr = w ∧ a = .int .i64 (lastI ((ks.take j).filter (asked l op))) ∧ m = .int .i64 (((ks.take j).filter (asked l op)).length : Int)

def OaPost (ms : List Nat) (op : ByteArray) (w : World) (e : Ending) (w' : World) : Prop :=
  Sm [] w w' ∧ ((ms.length = 1 ∧ e = .returned (.tuple #[.int .i64 (lastI ms), .int .i64 1])) ∨ (1 < ms.length ∧ op ≠ ByteArray.empty ∧ e = .returned (.tuple #[.int .i64 0, .int .i64 2])) ∨
    (ms.length ≠ 1 ∧ (op = ByteArray.empty ∨ ms.length = 0) ∧ e = .returned (.tuple #[.int .i64 0, .int .i64 0])))

theorem oaRel_go {l : List Nd} {op : ByteArray} {ks : List Nat} {w : World} {a m u : Value} {j : Nat} (h : j < ks.length) (hu : u = .int .i64 ((j : Int) + 1))
    (hh : (asked l op (ks.getD j 0) = true ∧ a = .int .i64 ((ks.getD j 0 : Nat) : Int) ∧ m = .int .i64 ((((ks.take j).filter (asked l op)).length : Int) + 1)) ∨
      (asked l op (ks.getD j 0) = false ∧ a = .int .i64 (lastI ((ks.take j).filter (asked l op))) ∧ m = .int .i64 (((ks.take j).filter (asked l op)).length : Int))) : OaRel l op ks w a m u w := by
  refine ⟨j + 1, by omega, by rw [hu]; push_cast; rfl, rfl, ?_⟩
  rcases hh with ⟨h1, h2, h3⟩ | ⟨h1, h2, h3⟩
  · rw [take_filter_yes _ h h1, lastI_snoc]
    exact ⟨h2, by rw [h3]; simp⟩
  · rw [take_filter_no _ h h1]
    exact ⟨h2, h3⟩

theorem oa_one {xs ms : List Nat} {op : ByteArray} {w w' : World} (h : xs = ms) (hs : Sm [] w w') (h1 : ms.length = 1) : OaPost xs op w (.returned (.tuple #[.int .i64 (lastI ms), .int .i64 1])) w' := by
  subst h; exact ⟨hs, .inl ⟨h1, rfl⟩⟩
theorem oa_none {xs ms : List Nat} {op : ByteArray} {w w' : World} (h : xs = ms) (hs : Sm [] w w') (h1 : ms.length ≠ 1) (h2 : op = ByteArray.empty ∨ ms.length = 0) : OaPost xs op w (.returned (.tuple #[.int .i64 0, .int .i64 0])) w' := by
  subst h; exact ⟨hs, .inr (.inr ⟨h1, h2, rfl⟩)⟩
theorem oa_open {xs ms : List Nat} {op : ByteArray} {w w' : World} (h : xs = ms) (hs : Sm [] w w') (h1 : 1 < ms.length) (h2 : op ≠ ByteArray.empty) : OaPost xs op w (.returned (.tuple #[.int .i64 0, .int .i64 2])) w' := by
  subst h; exact ⟨hs, .inr (.inl ⟨h1, h2, rfl⟩)⟩

set_option maxRecDepth 100000 in
set_option maxHeartbeats 4000000 in
theorem operationAt_any (l : List Nd) (op : ByteArray) (b o cap : Nat) (w : World) (hd : DocAt w b o l) (hr : Right l) (hop : op.size ≤ 2147483647) :
    Calls Tryz.prog 6 #[.slice (some ⟨b, o, none⟩) l.length cap, .string op] w (OaPost (opsOf l op) op w) := by
  have hl : 0 < l.length := hr.tree.len
  have hn : l.length ≤ 2147483647 := by have := hr.tree.most; omega
  have HK : Hid (Calls Tryz.prog 11 #[.slice (some ⟨b, o, none⟩) l.length cap, .int .i64 0, .int .i64 2] w (TheInts w ((kids l 0).filter fun k => decide (kd l k = 2)))) :=
    kidsOf_any l 0 b o cap 2 (kids l 0) w hd hl hn (by have := hr.tree.ch hl; simpa using this) (by rw [hr.tree.root]; omega)
  have hM : ∀ k, k ∈ (kids l 0).filter (fun k => decide (kd l k = 2)) → k < l.length := fun k hk => (hr.tree.kid hl (List.mem_filter.1 hk).1).2.1
  have hkl : ((kids l 0).filter fun k => decide (kd l k = 2)).length ≤ 400 := Nat.le_trans (List.length_filter_le _ _) (hr.tree.kids_len hl)
  have HO : Hid (opsOf l op = ((kids l 0).filter fun k => decide (kd l k = 2)).filter (asked l op)) := rfl
  generalize (kids l 0).filter (fun k => decide (kd l k = 2)) = ks at *
  have HM : Hid (∀ k, k ∈ ks → k < l.length) := hM
  have HD : Hid (DocAt w b o l) := hd
  clear hd hM hr
  by_cases h0 : op = ByteArray.empty
  · have HA : Hid (∀ k, asked l op k = true) := fun k => by unfold asked; exact decide_eq_true (.inl h0)
    have HE : Hid (op = ByteArray.empty) := h0
    have e0 : op.toList = [] := by rw [h0, ByteArray.toList_eq]; rfl
    clear h0
    go_enter Tryz.func6, Tryz.ntmps6
    go_wp2_with fail
    refine HK.out.mono ?_
    rintro e w2 ⟨v, rfl, ⟨a, kcap, rfl, hk1, hk2, hk3⟩, hs2⟩
    have HI : Hid (∀ i, i < ks.length → ∃ b o, a = some ⟨b, o, none⟩ ∧ b < w2.heap.size ∧ w2.cell? ⟨b, o + i, none⟩ = some (.int .i64 ((ks.getD i 0 : Nat) : Int))) := hk3
    have HD2 : Hid (DocAt w2 b o l) := HD.out.sm0 hs2
    unfold maxLen at hk2
    clear hk3 HK HD
    go_wp2_with fail
    go_loopw [7, 8, 9] (fun a m u wr => OaRel l op ks w2 a m u wr) (fun _ _ u _ => ks.length - (intOf u).toNat)
    case atStart => unfold OaRel; exact ⟨0, by omega, rfl, rfl, rfl, rfl⟩
    case round =>
      unfold OaRel at hrel
      obtain ⟨j, hj, rfl, rfl, rfl, rfl⟩ := hrel
      have z3 : (0 : Int) ≤ (j : Int) := by omega
      by_cases hlt : j < ks.length
      · have z4 : (j : Int) < (ks.length : Int) := by omega
        obtain ⟨kb, ko, rfl, hkb, hkc⟩ := HI.out j hlt
        have HR : Hid (∀ a m u, u = Value.int .i64 ((j : Int) + 1) → _) := fun a m u hu => oaRel_go (l := l) (op := op) (w := wr) (a := a) (m := m) hlt hu
        have hle : ((ks.take j).filter (asked l op)).length ≤ 400 := by have := List.length_filter_le (asked l op) (ks.take j); have := List.length_take_le j ks; omega
        have HAk : Hid (asked l op (ks.getD j 0) = true) := HA.out _
        generalize lastI ((ks.take j).filter (asked l op)) = la at *
        generalize ((ks.take j).filter (asked l op)).length = lm at *
        generalize ks.getD j 0 = k at *
        go_wp2_with fail
        go_roundw
        case rel => (first | refine ⟨_, _, _, ?_, rfl, rfl, rfl⟩ | skip); exact HR.out _ _ _ (by go_num) (.inl ⟨HAk.out, by go_num, by go_num⟩)
        case measure => simp [intOf]; omega
      · have z4 : ¬ ((j : Int) < (ks.length : Int)) := by omega
        have HF : Hid (ks.take j = ks) := List.take_of_length_le (by omega)
        have hle : ((ks.take j).filter (asked l op)).length ≤ 400 := by have := List.length_filter_le (asked l op) (ks.take j); have := List.length_take_le j ks; omega
        rw [HF.out] at hle ⊢
        generalize ks.filter (asked l op) = ms at *
        by_cases h1 : ms.length = 1
        · have H1 : Hid (ms.length = 1) := h1
          rw [h1]
          clear h1
          go_wp2_with fail
          go_ret2
          exact oa_one HO.out hs2 H1.out
        · have e1 : ((ms.length : Int) == 1) = false := beq_eq_false_iff_ne.2 (by omega)
          have H1 : Hid (ms.length ≠ 1) := h1
          clear h1
          go_wp2_with fail
          all_goals go_ret2
          all_goals exact oa_none HO.out hs2 H1.out (.inl HE.out)
  · have HA : Hid (∀ k, asked l op k = decide (nm l k = op)) := fun k => by unfold asked; simp [h0]
    have HE : Hid (op ≠ ByteArray.empty) := h0
    have e0 : ¬ op.toList = [] := ne_list h0
    have e0b : op.toList.isEmpty = false := by simpa using e0
    clear h0
    go_enter Tryz.func6, Tryz.ntmps6
    go_wp2_with fail
    refine HK.out.mono ?_
    rintro e w2 ⟨v, rfl, ⟨a, kcap, rfl, hk1, hk2, hk3⟩, hs2⟩
    have HI : Hid (∀ i, i < ks.length → ∃ b o, a = some ⟨b, o, none⟩ ∧ b < w2.heap.size ∧ w2.cell? ⟨b, o + i, none⟩ = some (.int .i64 ((ks.getD i 0 : Nat) : Int))) := hk3
    have HD2 : Hid (DocAt w2 b o l) := HD.out.sm0 hs2
    unfold maxLen at hk2
    clear hk3 HK HD
    go_wp2_with fail
    go_loopw [7, 8, 9] (fun a m u wr => OaRel l op ks w2 a m u wr) (fun _ _ u _ => ks.length - (intOf u).toNat)
    case atStart => unfold OaRel; exact ⟨0, by omega, rfl, rfl, rfl, rfl⟩
    case round =>
      unfold OaRel at hrel
      obtain ⟨j, hj, rfl, rfl, rfl, rfl⟩ := hrel
      have z3 : (0 : Int) ≤ (j : Int) := by omega
      by_cases hlt : j < ks.length
      · have z4 : (j : Int) < (ks.length : Int) := by omega
        obtain ⟨kb, ko, rfl, hkb, hkc⟩ := HI.out j hlt
        have HR : Hid (∀ a m u, u = Value.int .i64 ((j : Int) + 1) → _) := fun a m u hu => oaRel_go (l := l) (op := op) (w := wr) (a := a) (m := m) hlt hu
        have hle : ((ks.take j).filter (asked l op)).length ≤ 400 := by have := List.length_filter_le (asked l op) (ks.take j); have := List.length_take_le j ks; omega
        have HAk : Hid (asked l op (ks.getD j 0) = decide (nm l (ks.getD j 0) = op)) := HA.out _
        have hkl' := HM.out _ (getD_memN hlt)
        generalize lastI ((ks.take j).filter (asked l op)) = la at *
        generalize ((ks.take j).filter (asked l op)).length = lm at *
        generalize ks.getD j 0 = k at *
        have z5 : (0 : Int) ≤ (k : Int) := by omega
        have z6 : (k : Int) < (l.length : Int) := by omega
        have ck := (HD2.out k hkl').c1
        have hkn := nm_at hkl'
        by_cases hq : l[k].name = op
        · have HQ : Hid (asked l op k = true) := by unfold Hid; rw [HAk.out, hkn, hq]; simp
          rw [hq] at ck
          clear hq hkn
          go_wp2_with fail
          go_roundw
          case rel => (first | refine ⟨_, _, _, ?_, rfl, rfl, rfl⟩ | skip); exact HR.out _ _ _ (by go_num) (.inl ⟨HQ.out, by go_num, by go_num⟩)
          case measure => simp [intOf]; omega
        · have HQ : Hid (asked l op k = false) := by unfold Hid; rw [HAk.out, hkn]; simp [hq]
          have e1 : (l[k].name.toList == op.toList) = false := by rw [beq_bytes]; simp [hq]
          have e2 : ¬ l[k].name.toList = op.toList := by simpa using e1
          clear hq hkn
          go_wp2_with fail
          go_roundw
          case rel => (first | refine ⟨_, _, _, ?_, rfl, rfl, rfl⟩ | skip); exact HR.out _ _ _ (by go_num) (.inr ⟨HQ.out, by go_num, by go_num⟩)
          case measure => simp [intOf]; omega
      · have z4 : ¬ ((j : Int) < (ks.length : Int)) := by omega
        have HF : Hid (ks.take j = ks) := List.take_of_length_le (by omega)
        have hle : ((ks.take j).filter (asked l op)).length ≤ 400 := by have := List.length_filter_le (asked l op) (ks.take j); have := List.length_take_le j ks; omega
        rw [HF.out] at hle ⊢
        generalize ks.filter (asked l op) = ms at *
        by_cases h1 : ms.length = 1
        · have H1 : Hid (ms.length = 1) := h1
          rw [h1]
          clear h1
          go_wp2_with fail
          go_ret2
          exact oa_one HO.out hs2 H1.out
        · have e1 : ((ms.length : Int) == 1) = false := beq_eq_false_iff_ne.2 (by omega)
          by_cases h2 : 1 < ms.length
          · have e2 : (1 : Int) < (ms.length : Int) := by omega
            have H2 : Hid (1 < ms.length) := h2
            clear h1
            go_wp2_with fail
            all_goals go_ret2
            all_goals exact oa_open HO.out hs2 H2.out HE.out
          · have e2 : ¬ ((1 : Int) < (ms.length : Int)) := by omega
            have H1 : Hid (ms.length ≠ 1) := h1
            have H0 : Hid (ms.length = 0) := by unfold Hid; omega
            clear h1
            go_wp2_with fail
            all_goals go_ret2
            all_goals exact oa_none HO.out hs2 H1.out (.inr H0.out)

end

section
open Go.RowKit

def fitsN (n : Nd) : Bool := decide (n.name.size ≤ 2147483647 ∧ n.alias.size ≤ 2147483647 ∧ n.text.size ≤ 2147483647)
theorem zzFits3_any (n : Nd) (w : World) : Calls Tryz.prog 8 #[ndV n] w fun e w' => e = .returned (.bool (fitsN n)) ∧ Sm [] w w' := by
  unfold ndV
  go_enter Tryz.func8, Tryz.ntmps8
  go_wp2
  all_goals go_ret
  all_goals exact ⟨rb (by unfold fitsN; rw [Bool.eq_iff_iff]; simp; omega), (Sm.refl _ _).alloc _⟩


def FitPost (l : List Nd) (w : World) (e : Ending) (w' : World) : Prop := ∃ q, e = .returned (.bool q) ∧ Sm [] w w' ∧ (q = true → Fits l)
theorem zzFits2_nil (a : Option Addr) (cap : Nat) (w : World) : Calls Tryz.prog 4 #[.slice a 0 cap] w (SomeB w) := by
  go_enter Tryz.func4, Tryz.ntmps4
  go_wp2_with fail
  go_loop [10] (fun u => u = .int .i64 0) (fun _ => 0)
  case atStart => rfl
  case round =>
    subst hrel
    go_wp2_with fail
    go_ret
    exact ⟨_, rfl, Sm.refl _ _⟩

set_option maxHeartbeats 1000000 in
theorem zzFits2_any (l : List Nd) (b o cap : Nat) (w : World) (hd : DocAt w b o l) (hl : 0 < l.length) :
    Calls Tryz.prog 4 #[.slice (some ⟨b, o, none⟩) l.length cap] w (FitPost l w) := by
  by_cases hn : 2147483647 < l.length
  · have hn' : (2147483647 : Int) < (l.length : Int) := by omega
    clear hd
    go_enter Tryz.func4, Tryz.ntmps4
    go_wp2_with fail
    go_ret
    exact ⟨false, rfl, Sm.refl _ _, fun h => by cases h⟩
  have hn' : ¬ ((2147483647 : Int) < (l.length : Int)) := by omega
  have HD : Hid (DocAt w b o l) := hd
  clear hd
  go_enter Tryz.func4, Tryz.ntmps4
  go_wp2_with fail
  go_loopw [4, 10] (fun _ u wr => ∃ i : Nat, i ≤ l.length ∧ u = .int .i64 (i : Int) ∧ Sm [] w wr ∧ Hid (∀ j (h : j < l.length), j < i → fitsN l[j] = true)) (fun _ u _ => l.length - (intOf u).toNat)
  case atStart => exact ⟨0, by omega, rfl, Sm.refl _ _, fun j h hj => by omega⟩
  case round =>
    obtain ⟨i, hi, rfl, hsm, hf⟩ := hrel
    have y1 : (0 : Int) ≤ (i : Int) := by omega
    have HM : Hid (Sm [] w wr) := hsm
    by_cases hlt : i < l.length
    · have y2 : (i : Int) < (l.length : Int) := by omega
      have HX : Hid (fitsN l[i] = true → ∀ j (h : j < l.length), j < i + 1 → fitsN l[j] = true) := fun hq j h hj => by
        by_cases e : j = i
        · subst e; exact hq
        · exact hf.out j h (by omega)
      have HD2 : Hid (DocAt wr b o l) := HD.out.sm0 hsm
      obtain ⟨n0, n1, n2, n3, n4, n5⟩ := HD2.out i hlt
      have hb : b < wr.heap.size := HD2.out.lt (by omega)
      have HZ := fun W => zzFits3_any l[i] W
      unfold ndV at HZ
      clear hsm hf HD2
      generalize l[i] = x at *
      obtain ⟨x0, x1, x2, x3, x4, x5⟩ := x
      dsimp only at *
      go_wp2_with fail
      refine (HZ _).mono ?_
      rintro e w2 ⟨rfl, hs2⟩
      have HM2 : Hid (Sm [] w w2) := HM.out.trans (((Sm.refl _ _).alloc _).trans hs2)
      clear hs2
      cases hq : fitsN ⟨x0, x1, x2, x3, x4, x5⟩ with
      | true =>
        have HX' := HX.out hq
        have HX2 : Hid (∀ j (h : j < l.length), j < i + 1 → fitsN l[j] = true) := HX'
        clear hq HX' HX
        go_wp2_with fail
        go_roundw
        case rel => exact ⟨i + 1, by omega, by go_num, HM2.out, HX2⟩
        case measure => simp [intOf]; omega
      | false =>
        clear hq HX
        go_wp2_with fail
        go_ret
        exact ⟨false, rfl, HM2.out, fun h => by cases h⟩
    · have y2 : ¬ ((i : Int) < (l.length : Int)) := by omega
      have HT : Hid (Fits l) := by
        have h : ∀ j (h : j < l.length), fitsN l[j] = true := fun j h => hf.out j h (by omega)
        have g : ∀ j (h : j < l.length), l[j].name.size ≤ 2147483647 ∧ l[j].alias.size ≤ 2147483647 ∧ l[j].text.size ≤ 2147483647 := fun j hj => of_decide_eq_true (h j hj)
        exact ⟨by omega, fun j hj => (g j hj).1, fun j hj => (g j hj).2.1, fun j hj => (g j hj).2.2⟩
      go_wp2_with fail
      go_ret
      exact ⟨true, rfl, HM.out, fun _ => HT.out⟩

end

section
open Go.RowKit
attribute [local go_sem ↓] Go.wp_at_zero Go.wp_at_succ

def Gives (v : Value) (w : World) (e : Ending) (w' : World) : Prop := e = .returned v ∧ w' = w
theorem getNameOp_any (q : Nat) (a : Option Addr) (w : World) (h : w.cell? ⟨q, 3, none⟩ = some (.pointer a)) :
    Calls Tryz.prog 25 #[.pointer (some ⟨q, 0, none⟩)] w (Gives (.pointer a) w) := by
  go_enter Tryz.func25, Tryz.ntmps25
  go_wp2_with fail
  go_ret
  exact ⟨rfl, rfl⟩
theorem getNameFr_any (q : Nat) (a : Option Addr) (w : World) (h : w.cell? ⟨q, 3, none⟩ = some (.pointer a)) :
    Calls Tryz.prog 26 #[.pointer (some ⟨q, 0, none⟩)] w (Gives (.pointer a) w) := by
  go_enter Tryz.func26, Tryz.ntmps26
  go_wp2_with fail
  go_ret
  exact ⟨rfl, rfl⟩
theorem getLocOp_any (q : Nat) (a : Option Addr) (w : World) (h : w.cell? ⟨q, 1, none⟩ = some (.pointer a)) :
    Calls Tryz.prog 200 #[.pointer (some ⟨q, 0, none⟩)] w (Gives (.pointer a) w) := by
  go_enter Tryz.func200, Tryz.ntmps200
  go_wp2_with fail
  go_ret
  exact ⟨rfl, rfl⟩
theorem getVars_any (q : Nat) (a : Option Addr) (n c : Nat) (w : World) (h : w.cell? ⟨q, 4, none⟩ = some (.slice a n c)) :
    Calls Tryz.prog 28 #[.pointer (some ⟨q, 0, none⟩)] w (Gives (.slice a n c) w) := by
  go_enter Tryz.func28, Tryz.ntmps28
  go_wp2_with fail
  go_ret
  exact ⟨rfl, rfl⟩
def AnErr (w : World) (e : Ending) (w' : World) : Prop := ∃ t v, e = .returned (.iface t v) ∧ Sm [] w w'
theorem errorsNew_any (s : ByteArray) (w : World) : Calls Tryz.prog 24 #[.string s] w (AnErr w) := by
  go_enter Tryz.func24, Tryz.ntmps24
  go_wp2_with fail
  go_ret
  exact ⟨_, _, rfl, sm_allc _ _⟩
def NoVars (w : World) (e : Ending) (w' : World) : Prop := ∃ a, e = .returned (.tuple #[.map a, .nilIface]) ∧ Sm [] w w'
theorem getVariableValues_nil (zs : Array Value) (m : Value) (cc : Nat) (a : Option Addr) (w : World) : Calls Tryz.prog 27 #[.agg zs, .slice a 0 cc, m] w (NoVars w) := by
  have hmm := @run_makeMap Tryz.prog
  go_enter Tryz.func27, Tryz.ntmps27
  go_wp2_with fail
  go_loop [17] (fun u => u = .int .i64 0) (fun _ => 0)
  case atStart => rfl
  case round =>
    subst hrel
    go_wp2_with fail
    go_ret2
    exact ⟨_, rfl, (sm_allc _ _).trans (sm_allc _ _)⟩

end

end Go.Proofs.YtigpnidffiaigaaGreat
