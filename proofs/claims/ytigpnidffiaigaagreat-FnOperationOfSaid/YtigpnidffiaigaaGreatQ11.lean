/- Walk: the value of a block string. -/
import Derived.BigRegion
import Derived.Test.YtigpnidffiaigaaGreatQ10
set_option linter.unusedVariables false
set_option linter.unusedSimpArgs false
namespace Go.Proofs.YtigpnidffiaigaaGreat

section
open Go.RowKit
attribute [local go_sem ↓] Go.wp_at_zero Go.wp_at_succ

def cutLine (n : Nat) (x : ByteArray) : ByteArray := x.extract (min n x.size) x.size
def blank (x : ByteArray) : Bool := decide (leadF x 0 = x.size)
def cutAll (n : Nat) : List ByteArray → List ByteArray
  | [] => []
  | x :: l => x :: l.map (cutLine n)
def trimL (l : List ByteArray) : List ByteArray := l.dropWhile blank
def trimR : Nat → List ByteArray → List ByteArray
  | 0, l => l
  | n + 1, l => if 0 < l.length ∧ blank (l.getD (l.length - 1) ByteArray.empty) = true then trimR n (l.take (l.length - 1)) else l
def joinF (out : ByteArray) : Nat → List ByteArray → ByteArray
  | _, [] => out
  | i, x :: l => joinF ((if 0 < i then out ++ ⟨#[10]⟩ else out) ++ x) (i + 1) l
def blockV (raw : ByteArray) : ByteArray :=
  let l := trimL (cutAll (common' (linesF raw 0 0)) (linesF raw 0 0))
  joinF ByteArray.empty 0 (trimR l.length l)

theorem StrsAt.set {w : World} {b : Nat} {l : List ByteArray} (h : StrsAt w b 0 l) {k : Nat} (hk : k < l.length) (y : ByteArray) : StrsAt (w.setCell ⟨b, k, none⟩ (.string y)) b 0 (l.set k y) := by
  intro i hi
  simp only [List.length_set] at hi
  have hi' := h i hi
  simp only [Nat.zero_add] at hi' ⊢
  by_cases e : i = k
  · subst e
    rw [World.cell?_setCell_same _ _ _ hi']
    simp [List.getD_eq_getElem?_getD, hi]
  · rw [World.cell?_setCell_other _ _ _ _ (by first | (simp; done) | (simp; omega)), hi']
    simp [List.getD_eq_getElem?_getD, List.getElem?_set_ne (Ne.symm e)]
theorem StrsAt.drop1 {w : World} {b o : Nat} {x : ByteArray} {l : List ByteArray} (h : StrsAt w b o (x :: l)) : StrsAt w b (o + 1) l := by
  intro i hi
  have := h (i + 1) (by simp; omega)
  rw [show o + 1 + i = o + (i + 1) by omega, this]
  simp [List.getD_eq_getElem?_getD]
theorem StrsAt.nil (w : World) (b o : Nat) : StrsAt w b o [] := fun i hi => by simp at hi
theorem StrsAt.take {w : World} {b o : Nat} {l : List ByteArray} (h : StrsAt w b o l) (k : Nat) : StrsAt w b o (l.take k) := by
  intro i hi
  simp at hi
  have hk : i < k := by omega
  rw [h i (by omega)]
  simp [List.getD_eq_getElem?_getD, List.getElem?_take, hk]

theorem cutAll_get (n : Nat) (l : List ByteArray) (k : Nat) (h1 : 1 ≤ k) (hk : k < l.length) : (cutAll n l).getD k ByteArray.empty = cutLine n (l.getD k ByteArray.empty) := by
  cases l with
  | nil => simp at hk
  | cons x l =>
    obtain ⟨j, rfl⟩ : ∃ j, k = j + 1 := ⟨k - 1, by omega⟩
    simp at hk
    simp [cutAll, List.getD_eq_getElem?_getD, hk]
theorem cutAll_len (n : Nat) (l : List ByteArray) : (cutAll n l).length = l.length := by cases l <;> simp [cutAll]

/-- after k rounds the lines ahead of k are cut, the others are as they were -/
def CutTo (n : Nat) (l l' : List ByteArray) (k : Nat) : Prop := l'.length = l.length ∧ ∀ i, i < l.length → l'.getD i ByteArray.empty = if i < k then (cutAll n l).getD i ByteArray.empty else l.getD i ByteArray.empty
theorem CutTo.start (n : Nat) (l : List ByteArray) : CutTo n l l 1 := ⟨rfl, fun i hi => by
  split
  · obtain rfl : i = 0 := by omega
    cases l with | nil => simp at hi | cons x l => simp [cutAll]
  · rfl⟩
theorem CutTo.step {n : Nat} {l l' : List ByteArray} {k : Nat} (h : CutTo n l l' k) (h1 : 1 ≤ k) (hk : k < l.length) : CutTo n l (l'.set k (cutLine n (l.getD k ByteArray.empty))) (k + 1) := by
  refine ⟨by simp [h.1], fun i hi => ?_⟩
  by_cases e : i = k
  · subst e
    rw [if_pos (by omega), cutAll_get n l i h1 hk]
    simp [List.getD_eq_getElem?_getD, h.1, hk]
  · have := h.2 i hi
    rw [List.getD_eq_getElem?_getD, List.getElem?_set_ne (Ne.symm e), ← List.getD_eq_getElem?_getD, this]
    by_cases c : i < k
    · rw [if_pos c, if_pos (by omega)]
    · rw [if_neg c, if_neg (by omega)]
theorem CutTo.done {n : Nat} {l l' : List ByteArray} (h : CutTo n l l' l.length) : l' = cutAll n l := by
  apply List.ext_getElem?
  intro i
  by_cases hi : i < l.length
  · have := h.2 i hi
    rw [if_pos hi] at this
    rw [List.getElem?_eq_getElem (by rw [h.1]; exact hi), List.getElem?_eq_getElem (by rw [cutAll_len]; exact hi)]
    rw [List.getD_eq_getElem?_getD, List.getD_eq_getElem?_getD, List.getElem?_eq_getElem (by rw [h.1]; exact hi), List.getElem?_eq_getElem (by rw [cutAll_len]; exact hi)] at this
    simpa using this
  · rw [List.getElem?_eq_none (by rw [h.1]; omega), List.getElem?_eq_none (by rw [cutAll_len]; omega)]

def CutRel (n g : Nat) (l : List ByteArray) (w1 : World) (j : Value) (wr : World) : Prop :=
  ∃ (k : Nat) (l' : List ByteArray), 1 ≤ k ∧ k ≤ l.length ∧ j = .int .i64 k ∧ Sm [g] w1 wr ∧ StrsAt wr g 0 l' ∧ CutTo n l l' k ∧ (∀ i, wr.frozen? ⟨g, i, none⟩ = false)

theorem trimL_yes {x : ByteArray} {l : List ByteArray} (h : blank x = true) : trimL (x :: l) = trimL l := by simp [trimL, h]
theorem trimL_no {x : ByteArray} {l : List ByteArray} (h : blank x = false) : trimL (x :: l) = x :: l := by simp [trimL, h]
def tot (l : List ByteArray) : Nat := (l.map fun x => x.size + 1).sum
theorem tot_cons (x : ByteArray) (l : List ByteArray) : tot (x :: l) = x.size + 1 + tot l := by simp [tot]
theorem tot_lines (s : ByteArray) (i fr : Nat) (h : fr ≤ i) (hi : i ≤ s.size) : tot (linesF s i fr) ≤ s.size - fr + 1 := by
  by_cases h1 : i < s.size
  · by_cases h2 : nx s i = 10 ∨ nx s i = 13
    · rw [linesF_eol h1 h2, tot_cons]
      have hg := eol_gt s i
      have he : eol s i ≤ s.size := by unfold eol; split <;> omega
      have := tot_lines s (eol s i) (eol s i) (Nat.le_refl _) he
      simp only [ByteArray.size_extract]; omega
    · rw [linesF_on h1 h2]; exact tot_lines s (i + 1) fr (by omega) (by omega)
  · rw [linesF_end h1, tot_cons]; simp [tot, ByteArray.size_extract]
termination_by s.size - i
theorem tot_mapcut (n : Nat) (l : List ByteArray) : tot (l.map (cutLine n)) ≤ tot l := by
  induction l with
  | nil => exact Nat.le_refl _
  | cons x l ih => simp only [List.map_cons, tot_cons]; have : (cutLine n x).size ≤ x.size := by unfold cutLine; simp [ByteArray.size_extract]
                   omega
theorem tot_cut (n : Nat) (l : List ByteArray) : tot (cutAll n l) ≤ tot l := by
  cases l with
  | nil => exact Nat.le_refl _
  | cons x l => have := tot_mapcut n l; simp only [cutAll, tot_cons]; omega
theorem tot_take (l : List ByteArray) (k : Nat) : tot (l.take k) ≤ tot l := by
  induction l generalizing k with
  | nil => simp
  | cons x l ih => cases k with | zero => simp [tot] | succ k => have := ih k; simp only [List.take_succ_cons, tot_cons]; omega
def LRel (base : Nat) (t : List ByteArray) (w1 : World) (v : Value) (wr : World) : Prop :=
  ∃ (b o c : Nat) (l : List ByteArray), v = .slice (some ⟨b, o, none⟩) l.length c ∧ l.length ≤ c ∧ c ≤ maxLen ∧ l.length ≤ 1099511627777 ∧ base ≤ b ∧ Sm [] w1 wr ∧ StrsAt wr b o l ∧ Hid (t = trimL l) ∧ Hid (∀ x ∈ l, x.size ≤ 1099511627776) ∧ tot l ≤ 1099511627777
def RRel (base : Nat) (t : List ByteArray) (m : Nat) (w1 : World) (v : Value) (wr : World) : Prop :=
  ∃ (b o c : Nat) (l : List ByteArray) (d : Nat), v = .slice (some ⟨b, o, none⟩) l.length c ∧ l.length ≤ c ∧ c ≤ maxLen ∧ l.length ≤ 1099511627777 ∧ base ≤ b ∧ Sm [] w1 wr ∧ StrsAt wr b o l ∧ Hid (t = trimR d l) ∧ l.length ≤ d ∧ Hid (∀ x ∈ l, x.size ≤ 1099511627776) ∧ tot l ≤ 1099511627777
def JRel (l : List ByteArray) (r : ByteArray) (v j : Value) : Prop :=
  ∃ (k : Nat) (out : ByteArray), k ≤ l.length ∧ j = .int .i64 k ∧ v = .string out ∧ Hid (r = joinF out k (l.drop k)) ∧ out.size + tot (l.drop k) ≤ 1099511627777

def lenOf : Value → Nat | .slice _ n _ => n | _ => 0
theorem cutLine_size (n : Nat) (x : ByteArray) : (cutLine n x).size ≤ x.size := by unfold cutLine; simp [ByteArray.size_extract]
theorem cutAll_size {n B : Nat} {l : List ByteArray} (h : ∀ x ∈ l, x.size ≤ B) : ∀ x ∈ cutAll n l, x.size ≤ B := by
  cases l with
  | nil => exact h
  | cons y l =>
    intro x hx
    rcases List.mem_cons.1 hx with rfl | hx
    · exact h _ (List.mem_cons_self ..)
    · obtain ⟨z, hz, rfl⟩ := List.mem_map.1 hx
      exact Nat.le_trans (cutLine_size n z) (h _ (List.mem_cons_of_mem _ hz))

set_option maxRecDepth 100000 in
set_option maxHeartbeats 4000000 in
theorem blockValue_any (s : ByteArray) (w : World) (hs : s.size ≤ 1099511627776) :
    Calls Tryz.prog 58 #[.string s] w fun e w' => e = .returned (.string (blockV s)) ∧ Sm [] w w' := by
  have hne := linesF_ne s 0 0
  have hsz := linesF_size s 0 0
  have hln := linesF_len s 0 0
  have htot : tot (linesF s 0 0) ≤ 1099511627777 := by have := tot_lines s 0 0 (Nat.le_refl _) (Nat.zero_le _); omega
  go_enter Tryz.func58, Tryz.ntmps58
  go_wp2_with fail
  refine (lines_any s _ hs).mono ?_
  rintro e w1 ⟨v, rfl, hown, hsm⟩
  obtain ⟨hn, g, cap, rfl, hg1, hg2, hc1, hc2, hblk⟩ := strs_own_form hown hne
  have hst := strsAt_own hown
  have hfz : ∀ i, w1.frozen? ⟨g, i, none⟩ = false := fun i => hown.frozenAt i
  have hP : Hid (blockV s = joinF ByteArray.empty 0 (trimR (trimL (cutAll (common' (linesF s 0 0)) (linesF s 0 0))).length (trimL (cutAll (common' (linesF s 0 0)) (linesF s 0 0))))) := rfl
  generalize linesF s 0 0 = l at hst hP hne hsz hln hc1 htot
  clear hown hn hblk
  have hl0 : 0 < l.length := by cases l with | nil => exact absurd rfl hne | cons => simp
  have hl : l.length ≤ 1099511627777 := by omega
  have hL : Hid (∀ x ∈ l, x.size ≤ 1099511627776) := fun x hx => Nat.le_trans (hsz x hx) hs
  clear hsz hne hln
  have hS : Hid (StrsAt w1 g 0 l) := hst
  have hF : Hid (∀ i, w1.frozen? ⟨g, i, none⟩ = false) := hfz
  clear hst hfz
  go_wp2_with (go_at_call 97; refine (common_any l g 0 cap _ hS.out hl hL.out).mono ?_; rintro e w' ⟨rfl, hw⟩; rw [hw]; clear hw w')
  have hlem : common' l ≤ 1099511627776 := comF_le l hL.out
  generalize common' l = n at hP hlem
  go_loopw [5] (fun j wr => CutRel n g l w1 j wr) (fun j _ => l.length - (intOf j).toNat)
  case atStart => unfold CutRel; exact ⟨1, l, by omega, by omega, rfl, Sm.refl _ _, hS.out, CutTo.start n l, hF.out⟩
  case round =>
    unfold CutRel at hrel
    obtain ⟨k, l', hk1, hk2, rfl, swr, hst, hcut, hfz⟩ := hrel
    have k1 : (0 : Int) ≤ (k : Int) := by omega
    have hl' : l'.length = l.length := hcut.1
    by_cases hlt : k < l.length
    · have k2 : (k : Int) < (l.length : Int) := by omega
      have hc := hst k (by omega)
      have hxl : l'.getD k ByteArray.empty = l.getD k ByteArray.empty := by have := hcut.2 k hlt; rw [if_neg (by omega)] at this; exact this
      rw [hxl] at hc
      have hx : (l.getD k ByteArray.empty).size ≤ 1099511627776 := hL.out _ (getD_mem hlt)
      have hcut' : Hid (CutTo n l (l'.set k (cutLine n (l.getD k ByteArray.empty))) (k + 1)) := hcut.step hk1 hlt
      have hst' : Hid (StrsAt wr g 0 l') := hst
      generalize l.getD k ByteArray.empty = x at hc hx hcut'
      simp only [Nat.zero_add] at hc
      have hf := hfz k
      have hF' : Hid (∀ i, wr.frozen? ⟨g, i, none⟩ = false) := hfz
      clear hst hcut hfz hxl
      by_cases hm : n ≤ x.size
      · have hm1 : (n : Int) ≤ (x.size : Int) := by omega
        have hy : cutLine n x = x.extract n x.size := by unfold cutLine; rw [Nat.min_eq_left hm]
        rw [hy] at hcut'
        clear hy
        have fin : CutRel n g l w1 (.int .i64 ((k : Int) + 1)) (wr.setCell ⟨g, k, none⟩ (.string (x.extract n x.size))).drew := by
          unfold CutRel
          exact ⟨k + 1, _, by omega, by omega, by go_num, (swr.setCell (.inr (by simp)) _).drew, hst'.out.set (by omega) _, hcut'.out, fun i => by simpa using hF'.out i⟩
        go_wp2_with fail
        go_region
        go_wp2_with fail
        go_roundw
        case rel => exact fin
        case measure => simp [intOf]; omega
      · have hm1 : ¬ (n : Int) ≤ (x.size : Int) := by omega
        have hy : cutLine n x = ByteArray.empty := by unfold cutLine; rw [Nat.min_eq_right (by omega)]; simp
        rw [hy] at hcut'
        clear hy
        have fin : CutRel n g l w1 (.int .i64 ((k : Int) + 1)) (wr.setCell ⟨g, k, none⟩ (.string ByteArray.empty)).drew := by
          unfold CutRel
          exact ⟨k + 1, _, by omega, by omega, by go_num, (swr.setCell (.inr (by simp)) _).drew, hst'.out.set (by omega) _, hcut'.out, fun i => by simpa using hF'.out i⟩
        go_wp2_with fail
        go_region
        go_wp2_with fail
        go_roundw
        case rel => exact fin
        case measure => simp [intOf]; omega
    · have k2 : ¬ ((k : Int) < (l.length : Int)) := by omega
      obtain rfl : k = l.length := by omega
      have hl1 := hcut.done
      subst hl1
      have hst' : Hid (StrsAt wr g 0 (cutAll n l)) := hst
      have hsz' : Hid (∀ x ∈ cutAll n l, x.size ≤ 1099511627776) := cutAll_size hL.out
      have hlen : (cutAll n l).length = l.length := cutAll_len n l
      have ht2 : tot (cutAll n l) ≤ 1099511627777 := Nat.le_trans (tot_cut n l) htot
      have sw : Sm [] w wr := swr.forget hsm (by simp; omega)
      clear hst hcut hfz hS hF hL hl'
      have hlq : (cutAll n l).length ≤ 1099511627777 := by omega
      have hcq : (cutAll n l).length ≤ cap := by omega
      rw [← hlen] at *
      generalize cutAll n l = l2 at *
      go_wp2_with fail
      obtain ⟨wo, rfl⟩ : ∃ wo : World, wo = wr := ⟨_, rfl⟩
      go_loopw [3] (fun v wz => LRel w.heap.size (trimL l2) wo v wz) (fun v _ => lenOf v)
      case atStart => unfold LRel; exact ⟨g, 0, cap, l2, rfl, hcq, hc2, hlq, hg1, Sm.refl _ _, hst'.out, rfl, hsz', ht2⟩
      case round =>
        unfold LRel at hrel
        obtain ⟨b, o, c, l3, rfl, hc3, hc4, hl3, hb3, sz, hst3, ht3, hsz3, hto3⟩ := hrel
        by_cases hgo : ∃ x r, l3 = x :: r ∧ blank x = true
        · obtain ⟨x, r, rfl, hbl⟩ := hgo
          have hx : x.size ≤ 1099511627776 := hsz3.out x (List.mem_cons_self ..)
          have hc := hst3 0 (by simp)
          have hbe : leadF x 0 = x.size := of_decide_eq_true hbl
          have hnx : Hid (trimL l2 = trimL r) := ht3.out.trans (trimL_yes hbl)
          have hto4 : tot r ≤ 1099511627777 := by rw [tot_cons] at hto3; omega
          clear hto3
          have hr1 : r.length + 1 ≤ c := by simpa using hc3
          have hsr : Hid (∀ y ∈ r, y.size ≤ 1099511627776) := fun y hy => hsz3.out y (List.mem_cons_of_mem _ hy)
          have hst4 : Hid (StrsAt wr b (o + 1) r) := hst3.drop1
          have hst5 : Hid (r = [] → StrsAt wr b o r) := fun h => by subst h; exact StrsAt.nil _ _ _
          have e1 : (leadF x 0 == x.size) = true := by simp [hbe]
          have p1 : ((0 : Int) < ((x :: r).length : Int)) := by simp
          simp only [Nat.add_zero, List.getD_cons_zero] at hc
          have hl4 : r.length ≤ 1099511627777 := by simp at hl3; omega
          simp only [List.length_cons] at p1 hl3
          clear hst3 ht3 hsz3 hbl hbe hc3
          simp only [List.length_cons]
          have p2 : (0 : Nat) < r.length + 1 := by omega
          by_cases hc1 : c = 1
          · subst hc1
            obtain rfl : r = [] := List.eq_nil_of_length_eq_zero (by omega)
            go_wp2_with fail
            go_quiet ((go_at_call 98; exact Calls.quiet_of_same (leading_any _ _ hx)))
            go_wp2_with fail
            refine ⟨?_, by simp [lenOf]⟩
            unfold LRel
            exact ⟨b, o, 0, [], rfl, by simp, by omega, by simp, hb3, sz.drewN _, StrsAt.nil _ _ _, hnx, fun y hy => by simp at hy, by simp [tot]⟩
          · have q1 : (1 : Int) ≤ (c : Int) := by omega
            have q2 : ¬ (c = 1) := hc1
            have q3 : (1 : Nat) ≤ r.length + 1 := by omega
            go_wp2_with fail
            go_quiet ((go_at_call 98; exact Calls.quiet_of_same (leading_any _ _ hx)))
            go_wp2_with fail
            refine ⟨?_, by simp [lenOf]⟩
            unfold LRel
            exact ⟨b, o + 1, c - 1, r, rfl, by omega, by omega, hl4, hb3, sz.drewN _, hst4.out, hnx, hsr, hto4⟩
        · have hfin : Hid (trimL l2 = l3) := by
            unfold Hid; rw [ht3.out]
            cases l3 with
            | nil => rfl
            | cons x r => exact trimL_no (by cases hb : blank x with | false => rfl | true => exact absurd ⟨x, r, rfl, hb⟩ hgo)
          have hfst : Hid (∀ h : 0 < l3.length, blank (l3.getD 0 ByteArray.empty) = false) := fun h => by
            cases l3 with
            | nil => simp at h
            | cons x r => cases hb : blank x with | false => exact hb | true => exact absurd ⟨x, r, rfl, hb⟩ hgo
          have hT : Hid (blockV s = joinF ByteArray.empty 0 (trimR l3.length l3)) := by unfold Hid; rw [hP.out, hfin.out]
          have sfin := sw.trans sz
          have hst' : Hid (StrsAt wr b o l3) := hst3
          clear hP ht3 hst3 hgo hfin
          rcases Nat.eq_zero_or_pos l3.length with h0 | h0
          all_goals first
            | (have z : l3.length = 0 := h0; clear h0; go_wp2_with fail; go_quiet (fail); go_wp2_with fail)
            | (have hc := hst'.out 0 h0; have hx : (l3.getD 0 ByteArray.empty).size ≤ 1099511627776 := hsz3.out _ (getD_mem h0); have hb := hfst.out h0
               generalize l3.getD 0 ByteArray.empty = x at hc hx hb
               have e1 : (leadF x 0 == x.size) = false := by have := of_decide_eq_false hb; simpa using this
               have p1 : (0 : Int) < (l3.length : Int) := by omega
               simp only [Nat.add_zero] at hc
               clear hb
               go_wp2_with fail; go_quiet ((go_at_call 98; exact Calls.quiet_of_same (leading_any _ _ hx))); go_wp2_with fail)
          all_goals
            have sfin' := sfin.drewN nq
            have hst6 : Hid (StrsAt (wr.drewN nq) b o l3) := hst'.out
            generalize wr.drewN nq = wq at *
            clear sfin hst'
            go_loopw [3] (fun v wr => RRel w.heap.size (trimR l3.length l3) 0 wq v wr) (fun v _ => lenOf v)
            case atStart => unfold RRel; exact ⟨b, o, c, l3, l3.length, rfl, hc3, hc4, hl3, hb3, Sm.refl _ _, hst6.out, rfl, by omega, hsz3, hto3⟩
            case round =>
              unfold RRel at hrel
              obtain ⟨b5, o5, c5, l5, d, rfl, hc5, hc6, hl5, hb5, sz5, hst5, ht5, hd5, hsz5, hto5⟩ := hrel
              rcases Nat.eq_zero_or_pos l5.length with h5 | h5
              · have hfin5 : Hid (trimR l3.length l3 = l5) := by
                  unfold Hid; rw [ht5.out]
                  cases d with
                  | zero => rfl
                  | succ d => unfold trimR; rw [if_neg (by omega)]
                have z5 : l5.length = 0 := h5
                clear h5 ht5
                go_wp2_with fail; go_quiet (fail); go_wp2_with fail
                obtain rfl : l5 = [] := List.eq_nil_of_length_eq_zero z5
                have hR : Hid (blockV s = ByteArray.empty) := by unfold Hid; rw [hT.out, hfin5.out]; rfl
                have sR : Sm [] w (wr.drewN nq) := (sfin'.trans sz5).drewN nq
                generalize wr.drewN nq = wv at *
                clear z5
                go_loop [6, 7] (fun v j => v = .string ByteArray.empty ∧ j = .int .i64 0) (fun _ j => 0)
                case atStart => exact ⟨rfl, rfl⟩
                case round =>
                  obtain ⟨rfl, rfl⟩ := hrel
                  go_wp2_with fail
                  go_ret
                  exact ⟨ret_string hR.out.symm, sR⟩
              · obtain ⟨m, hm⟩ : ∃ m, l5.length = m + 1 := ⟨l5.length - 1, by omega⟩
                have hc := hst5 m (by omega)
                have hx5 : (l5.getD m ByteArray.empty).size ≤ 1099511627776 := hsz5.out _ (getD_mem (by omega))
                obtain ⟨d, rfl⟩ : ∃ e, d = e + 1 := ⟨d - 1, by omega⟩
                have ht6 : Hid (trimR l3.length l3 = if blank (l5.getD m ByteArray.empty) = true then trimR d (l5.take m) else l5) := by
                  unfold Hid; rw [ht5.out]; rw [trimR, hm]
                  simp
                generalize l5.getD m ByteArray.empty = x5 at hc hx5 ht6
                have p5 : (0 : Nat) < m + 1 := by omega
                have p6 : (0 : Int) < (m : Int) + 1 := by omega
                have p7 : (m : Int) < (m : Int) + 1 := by omega
                cases hbl : blank x5 with
                | true =>
                  have e5 : (leadF x5 0 == x5.size) = true := by have := of_decide_eq_true hbl; simpa using this
                  rw [hbl] at ht6
                  have ht7 : Hid (trimR l3.length l3 = trimR d (l5.take m)) := ht6
                  have hst7 : Hid (StrsAt wr b5 o5 (l5.take m)) := hst5.take m
                  have hs7 : Hid (∀ y ∈ l5.take m, y.size ≤ 1099511627776) := fun y hy => hsz5.out y (List.mem_of_mem_take hy)
                  have hl7 : (l5.take m).length = m := by simp; omega
                  have q5 : (m : Int) ≤ (c5 : Int) := by omega
                  have q6 : m ≤ c5 := by omega
                  clear hbl ht6 ht5 hst5 hsz5
                  rw [hm]
                  go_wp2_with fail
                  go_quiet ((go_at_call 98; exact Calls.quiet_of_same (leading_any _ _ hx5)))
                  go_wp2_with fail
                  refine ⟨?_, by simp [lenOf]⟩
                  unfold RRel
                  exact ⟨b5, o5, c5, l5.take m, d, by rw [hl7], by omega, hc6, by omega, hb5, sz5.drewN _, hst7.out, ht7, by omega, hs7, Nat.le_trans (tot_take _ _) hto5⟩
                | false =>
                  have e5 : (leadF x5 0 == x5.size) = false := by have := of_decide_eq_false hbl; simpa using this
                  rw [hbl] at ht6
                  have hfin5 : Hid (trimR l3.length l3 = l5) := ht6
                  clear hbl ht6 ht5
                  rw [hm]
                  go_wp2_with fail
                  go_quiet ((go_at_call 98; exact Calls.quiet_of_same (leading_any _ _ hx5)))
                  go_wp2_with fail
                  have hR : Hid (blockV s = joinF ByteArray.empty 0 l5) := by unfold Hid; rw [hT.out, hfin5.out]
                  have sR : Sm [] w (wr.drewN nq) := (sfin'.trans sz5).drewN nq
                  have hst8 : Hid (StrsAt (wr.drewN nq) b5 o5 l5) := hst5
                  generalize wr.drewN nq = wv at *
                  go_loop [6, 7] (fun v j => JRel l5 (blockV s) v j) (fun _ j => l5.length - (intOf j).toNat)
                  case atStart => unfold JRel; exact ⟨0, ByteArray.empty, by omega, rfl, rfl, hR, by simpa using hto5⟩
                  case round =>
                    unfold JRel at hrel
                    obtain ⟨k8, out, hk8, rfl, rfl, hj, hos⟩ := hrel
                    have k81 : (0 : Int) ≤ (k8 : Int) := by omega
                    by_cases hlt8 : k8 < l5.length
                    · have hc8 := hst8.out k8 hlt8
                      rw [drop_get hlt8, tot_cons] at hos
                      have hj8 : Hid (blockV s = joinF ((if 0 < k8 then out ++ ⟨#[10]⟩ else out) ++ l5.getD k8 ByteArray.empty) (k8 + 1) (l5.drop (k8 + 1))) := by
                        unfold Hid; rw [hj.out, drop_get hlt8]; rfl
                      have k82 : (k8 : Int) < (l5.length : Int) := by omega
                      have k84 : (k8 : Int) < (m : Int) + 1 := by omega
                      have k85 : k8 < m + 1 := by omega
                      generalize l5.getD k8 ByteArray.empty = x8 at hc8 hj8 hos
                      have b1 : out.size + 1 ≤ maxLen := by unfold maxLen; omega
                      have b2 : (out ++ ⟨#[10]⟩ : ByteArray).size + x8.size ≤ maxLen := by simp only [ByteArray.size_append]; show out.size + 1 + x8.size ≤ _; unfold maxLen; omega
                      have b3 : out.size + x8.size ≤ maxLen := by unfold maxLen; omega
                      by_cases hk0 : 0 < k8
                      · have k83 : (0 : Int) < (k8 : Int) := by omega
                        rw [if_pos hk0] at hj8
                        go_wp2_with fail
                        go_round
                        case rel => (first | refine ⟨_, _, ?_, rfl, rfl⟩ | skip); unfold JRel; exact ⟨k8 + 1, _, by omega, by go_num, rfl, hj8, by simp only [ByteArray.size_append]; have : (⟨#[10]⟩ : ByteArray).size = 1 := rfl; omega⟩
                        case measure => simp [intOf]; omega
                      · obtain rfl : k8 = 0 := by omega
                        rw [if_neg hk0] at hj8
                        simp only [Nat.add_zero] at hc8
                        go_wp2_with fail
                        go_round
                        case rel => (first | refine ⟨_, _, ?_, rfl, rfl⟩ | skip); unfold JRel; exact ⟨0 + 1, _, by omega, by go_num, rfl, hj8, by simp only [ByteArray.size_append]; omega⟩
                        case measure => simp [intOf]; omega
                    · have k82 : ¬ ((k8 : Int) < (l5.length : Int)) := by omega
                      have hj8 : Hid (blockV s = out) := by unfold Hid; rw [hj.out, List.drop_of_length_le (by omega)]; rfl
                      have k84 : ¬ ((k8 : Int) < (m : Int) + 1) := by omega
                      have k85 : m + 1 ≤ k8 := by omega
                      have k86 : ¬ k8 < m + 1 := by omega
                      go_wp2_with fail
                      go_ret
                      exact ⟨ret_string hj8.out.symm, sR⟩

end

end Go.Proofs.YtigpnidffiaigaaGreat
