/- Walks: the row: all kids of some kinds. -/
import Derived.Test.YtigpnidffiaigaaGreatProg
import Derived.BigRegion
import Derived.Test.YtigpnidffiaigaaGreatQ24
set_option linter.unusedVariables false
set_option linter.unusedSimpArgs false
namespace Go.Proofs.YtigpnidffiaigaaGreat

section
open Go.RowKit
attribute [local go_sem ↓] Go.wp_at_zero Go.wp_at_succ

def KindsAt (w : World) (kb : Nat) (cs : List Int) : Prop := ∀ j, j < cs.length → w.cell? ⟨kb, j, none⟩ = some (.int .i64 (cs.getD j 0))
theorem KindsAt.sm {X : List Nat} {w w' : World} {kb : Nat} {cs : List Int} (h : KindsAt w kb cs) (s : Sm X w w') (hx : kb ∉ X) : KindsAt w' kb cs := fun j hj => s.keeps (h j hj) hx
def inK (l : List Nd) (cs : List Int) (k : Nat) : Bool := decide (kd l k ∈ cs)
theorem getD_memI {cs : List Int} {j : Nat} (h : j < cs.length) : cs.getD j 0 ∈ cs := by
  rw [List.getD_eq_getElem?_getD, List.getElem?_eq_getElem h]; exact List.getElem_mem h
def AnyTo (cs : List Int) (c : Int) (j : Nat) : Bool := decide (c ∈ cs.take j)
theorem anyTo_zero (cs : List Int) (c : Int) : AnyTo cs c 0 = false := by simp [AnyTo]
theorem anyTo_succ {cs : List Int} {c : Int} {j : Nat} (h : j < cs.length) : AnyTo cs c (j + 1) = (AnyTo cs c j || (c == cs.getD j 0)) := by
  unfold AnyTo
  have e := List.take_succ_eq_append_getElem h
  rw [Bool.eq_iff_iff]
  simp only [decide_eq_true_iff, Bool.or_eq_true, beq_iff_eq]
  rw [e, List.mem_append, List.mem_singleton, show cs.getD j 0 = cs[j] by simp [List.getD_eq_getElem?_getD, h]]
theorem anyTo_all {cs : List Int} {c : Int} {j : Nat} (h : cs.length ≤ j) : AnyTo cs c j = decide (c ∈ cs) := by
  unfold AnyTo
  rw [List.take_of_length_le h]

/-- what 'all' leaves -/
def AllPost (rb b o cap : Nat) (l : List Nd) (ks : List Nat) (cs : List Int) (w : World) (e : Ending) (w' : World) : Prop :=
  ∃ lv' done rest, e = .returned (.pointer (some ⟨rb, 0, none⟩)) ∧ ks = done ++ rest ∧ (∀ k, k ∈ done → kd l k ∈ cs) ∧ (∀ k r, rest = k :: r → kd l k ∉ cs) ∧ Sm [rb] w w' ∧ RowAt w' rb b o cap l lv' rest (done.length : Int)

def AllRel (rb b o cap kb : Nat) (l : List Nd) (ks : List Nat) (cs : List Int) (w : World) (g : Nat) (wr : World) : Prop :=
  ∃ lv done rest, ks = done ++ rest ∧ (∀ k, k ∈ done → kd l k ∈ cs) ∧ Sm [rb] w wr ∧ RowAt wr rb b o cap l lv rest (done.length : Int) ∧ KindsAt wr kb cs ∧ g = rest.length

theorem allRel_step {rb b o cap kb : Nat} {l : List Nd} {ks : List Nat} {cs : List Int} {w wr w2 : World} {lv lv' : Value} {done rest : List Nat} {k : Nat} (h1 : ks = done ++ k :: rest) (h2 : ∀ k, k ∈ done → kd l k ∈ cs) (hk : kd l k ∈ cs)
    (h3 : Sm [rb] w wr) (h4 : RowAt wr rb b o cap l lv (k :: rest) (done.length : Int)) (h5 : KindsAt wr kb cs) (hkb : kb ≠ rb) (hs : Sm [] wr w2)
    (hi : IntsAt w2 lv' rest) (hl : ∀ b' o' n c, lv' = .slice (some ⟨b', o', none⟩) n c → b' ≠ rb) (x : Int) (hx : x = (done.length : Int) + 1) :
    AllRel rb b o cap kb l ks cs w rest.length ((w2.setCell ⟨rb, 1, none⟩ lv').setCell ⟨rb, 2, none⟩ (.int .i64 x)) := by
  subst hx
  refine ⟨lv', done ++ [k], rest, by rw [h1]; simp, ?_, ?_, ?_, ?_, rfl⟩
  · intro a ha
    rcases List.mem_append.1 ha with ha | ha
    · exact h2 a ha
    · rw [List.mem_singleton.1 ha]; exact hk
  · exact ((h3.trans hs.of_nil).trans (sm_set _ _ _ _)).trans (sm_set _ _ _ _)
  · have := ((h4.sm (X := []) hs).set1 hi hl).set2 ((done.length : Int) + 1)
    have e : ((done ++ [k]).length : Int) = (done.length : Int) + 1 := by simp
    rw [e]
    exact this
  · exact ((h5.sm hs (by simp)).sm (sm_set _ _ _ _) (by simp; exact hkb)).sm (sm_set _ _ _ _) (by simp; exact hkb)

set_option maxRecDepth 100000 in
set_option maxHeartbeats 4000000 in
theorem all_any (rb b o cap kb kcap : Nat) (l : List Nd) (lv : Value) (ks : List Nat) (m : Int) (cs : List Int) (w : World) (h : RowAt w rb b o cap l lv ks m) (hk : ∀ k, k ∈ ks → k < l.length) (hn : l.length ≤ 2147483647) (hks : ks.length ≤ 2147483647)
    (hcs : KindsAt w kb cs) (hkb : kb ≠ rb) (hcl : cs.length ≤ 100) (hkc : cs.length ≤ kcap) :
    Calls Tryz.prog 33 #[.pointer (some ⟨rb, 0, none⟩), .slice (some ⟨kb, 0, none⟩) cs.length kcap] w (AllPost rb b o cap l ks cs w) := by
  have f2 := free_of h.obj 2
  have hlt0 := lt_of_block h.obj
  have HK : Hid (∀ k, k ∈ ks → k < l.length) := hk
  have H0 : Hid (AllRel rb b o cap kb l ks cs w ks.length (w.setCell ⟨rb, 2, none⟩ (.int .i64 0))) :=
    ⟨lv, [], ks, rfl, (fun k hk => by cases hk), sm_set _ _ _ _, h.set2 0, hcs.sm (sm_set _ _ _ _) (by simp; exact hkb), rfl⟩
  have HF : Hid (w.frozen? ⟨rb, 2, none⟩ = false) := f2
  have c2 : w.cell? ⟨rb, 2, none⟩ = some (.int .i64 m) := cell_of h.obj rfl
  clear h hk hcs
  go_enter Tryz.func33, Tryz.ntmps33
  go_wp2_with fail
  go_loopg [5, 6] ks.length (fun g _ _ wr => AllRel rb b o cap kb l ks cs w g wr)
  case atStart => exact H0.out
  case round =>
    unfold AllRel at hrel
    obtain ⟨lv1, done, rest, h1, h2, h3, h4, h5, rfl⟩ := hrel
    obtain ⟨wo, rfl⟩ : ∃ wo : World, wo = wr := ⟨_, rfl⟩
    have c0 : wo.cell? ⟨rb, 0, none⟩ = some (.slice (some ⟨b, o, none⟩) l.length cap) := cell_of h4.obj rfl
    have c1 : wo.cell? ⟨rb, 1, none⟩ = some lv1 := cell_of h4.obj rfl
    have H1 : Hid (ks = done ++ rest) := h1
    have H2 : Hid (∀ k, k ∈ done → kd l k ∈ cs) := h2
    have H3 : Hid (Sm [rb] w wo) := h3
    have H4 : Hid (RowAt wo rb b o cap l lv1 rest (done.length : Int)) := h4
    have H5 : Hid (KindsAt wo kb cs) := h5
    have hdl : done.length + rest.length ≤ 2147483647 := by rw [h1] at hks; simpa using hks
    clear h1 h2 h3 h4 h5 c2 f2 H0 HF
    cases rest with
    | nil =>
      obtain ⟨a, kc, rfl, hkc'⟩ := ints_nil H4.out.ints
      go_wp2_with fail
      go_ret
      exact ⟨_, done, [], rfl, H1.out, H2.out, (fun k r e => by cases e), H3.out, H4.out⟩
    | cons k rest =>
      obtain ⟨xb, xo, xc, rfl, hx1, hx2, hxb, hxc⟩ := ints_head H4.out.ints
      have hkl : k < l.length := HK.out k (by rw [H1.out]; simp)
      have z1 : (0 : Int) ≤ (k : Int) := by omega
      have z2 : (k : Int) < (l.length : Int) := by omega
      have z4 : (0 : Int) < (rest.length : Int) + 1 := by omega
      have n0 := (H4.out.doc k hkl).c0
      have HKD : Hid (kd l k = l[k].kind) := kd_at hkl
      have lb : xb ≠ rb := H4.out.lb _ _ _ _ rfl
      generalize l[k].kind = x0 at *
      go_wp2_with fail
      go_loopw [5, 6] (fun v u w2 => ∃ j : Nat, j ≤ cs.length ∧ u = .int .i64 (j : Int) ∧ v = .bool (AnyTo cs x0 j) ∧ Sm [] wo w2) (fun _ u _ => cs.length - (intOf u).toNat)
      case atStart => exact ⟨0, Nat.zero_le _, rfl, by rw [anyTo_zero], Sm.refl _ _⟩
      case round =>
        obtain ⟨j, hj, rfl, rfl, hs⟩ := hrel
        have d0 := hs.keeps c0 (by simp)
        have d1 := hs.keeps c1 (by simp)
        have dx := hs.keeps hxc (by simp)
        have dn := hs.keeps n0 (by simp)
        have y1 : (0 : Int) ≤ (j : Int) := by omega
        by_cases hlt : j < cs.length
        · have y2 : (j : Int) < (cs.length : Int) := by omega
          have dk := hs.keeps (H5.out j hlt) (by simp)
          have HA : Hid (AnyTo cs x0 (j + 1) = (AnyTo cs x0 j || (x0 == cs.getD j 0))) := anyTo_succ hlt
          generalize cs.getD j 0 = c at *
          cases hq : AnyTo cs x0 j with
          | true =>
            have HA' : Hid (AnyTo cs x0 (j + 1) = true) := by unfold Hid; rw [HA.out, hq]; rfl
            clear hq HA
            go_wp2_with fail
            go_quiet (fail)
            go_wp2_with fail
            go_roundw
            case rel => exact ⟨j + 1, by omega, by go_num, by rw [HA'.out], hs.drewN _⟩
            case measure => simp [intOf]; omega
          | false =>
            have HA' : Hid (AnyTo cs x0 (j + 1) = (x0 == c)) := by unfold Hid; rw [HA.out, hq]; rfl
            clear hq HA
            go_wp2_with fail
            go_quiet (fail)
            go_wp2_with fail
            go_roundw
            case rel => exact ⟨j + 1, by omega, by go_num, by rw [HA'.out], hs.drewN _⟩
            case measure => simp [intOf]; omega
        · have y2 : ¬ ((j : Int) < (cs.length : Int)) := by omega
          have HA : Hid (AnyTo cs x0 j = decide (x0 ∈ cs)) := anyTo_all (by omega)
          have f1 := (hs.froz (p := ⟨rb, 1, none⟩) (lt_of_block H4.out.obj) (by simp)).trans (free_of H4.out.obj 1)
          have f2 := (hs.froz (p := ⟨rb, 2, none⟩) (lt_of_block H4.out.obj) (by simp)).trans (free_of H4.out.obj 2)
          have d2 : wr.cell? ⟨rb, 2, none⟩ = some (.int .i64 (done.length : Int)) := hs.keeps (cell_of H4.out.obj rfl) (by simp)
          have HS : Hid (Sm [] wo wr) := hs
          clear hs
          cases hq : AnyTo cs x0 j with
          | true =>
            have HM : Hid (kd l k ∈ cs) := by have := HA.out; rw [hq] at this; rw [← HKD.out] at this; have h' : kd l k ∈ cs := of_decide_eq_true this.symm; exact h'
            clear hq HA
            by_cases hc1 : xc = 1
            · subst hc1
              obtain rfl : rest = [] := by cases rest with | nil => rfl | cons a t => simp at hx1
              simp only [List.length_nil, Nat.zero_add] at *
              go_wp2_with fail
              go_roundg 0
              case measure => simp
              case rel => exact allRel_step H1.out H2.out HM.out H3.out H4.out H5.out hkb HS.out (ints_none (by omega)) (fun b' o' n c e => by simp at e; rw [← e.1.1]; exact lb) _ (by first | rfl | omega)
            · have HC : Hid (xc ≠ 1) := hc1
              have k2 : (rest.length : Int) + 1 ≤ (xc : Int) := by omega
              have k3 : (1 : Int) < (xc : Int) := by omega
              clear hc1
              go_wp2_with fail
              go_roundg rest.length
              case measure => simp
              case rel => exact allRel_step H1.out H2.out HM.out H3.out H4.out H5.out hkb HS.out (ints_tail (H4.out.sm (X := []) HS.out).ints HC.out) (fun b' o' n c e => by simp at e; rw [← e.1.1]; exact lb) _ (by first | rfl | omega)
          | false =>
            have HM : Hid (kd l k ∉ cs) := by have := HA.out; rw [hq] at this; rw [← HKD.out] at this; have h' : kd l k ∉ cs := of_decide_eq_false this.symm; exact h'
            clear hq HA
            go_wp2_with fail
            go_ret
            exact ⟨_, done, k :: rest, rfl, H1.out, H2.out, (fun k' r e => by cases e; exact HM.out), H3.out.trans HS.out.of_nil, H4.out.sm (X := []) HS.out⟩

end

end Go.Proofs.YtigpnidffiaigaaGreat
