/- Walks: the reference's row along the kids of a node. -/
import Derived.Test.YtigpnidffiaigaaGreatProg
import Derived.BigRegion
import Derived.Test.YtigpnidffiaigaaGreatQ13
set_option linter.unusedVariables false
set_option linter.unusedSimpArgs false
namespace Go.Proofs.YtigpnidffiaigaaGreat

section
open Go.RowKit

/-- a row in memory: the nodes, the places that are left, how many were taken last -/
structure RowAt (w : World) (rb b o cap : Nat) (l : List Nd) (lv : Value) (ks : List Nat) (m : Int) : Prop where
  obj : w.heap[rb]? = some (.cells #[.slice (some ⟨b, o, none⟩) l.length cap, lv, .int .i64 m] 105 (0, 0))
  ints : IntsAt w lv ks
  doc : DocAt w b o l
  db : b ≠ rb
  lb : ∀ b' o' n c, lv = .slice (some ⟨b', o', none⟩) n c → b' ≠ rb

theorem ret_b {a b : Bool} (h : a = b) : Ending.returned (.bool a) = .returned (.bool b) := by rw [h]
theorem sm_set (w : World) (rb i : Nat) (v : Value) : Sm [rb] w (w.setCell ⟨rb, i, none⟩ v) := (Sm.refl _ _).setCell (.inr (by simp)) _
theorem RowAt.sm {X : List Nat} {w w' : World} {rb b o cap : Nat} {l : List Nd} {lv : Value} {ks : List Nat} {m : Int} (h : RowAt w rb b o cap l lv ks m) (s : Sm [] w w') : RowAt w' rb b o cap l lv ks m :=
  ⟨s.obj h.obj (by simp), h.ints.sm0 s, h.doc.sm0 s, h.db, h.lb⟩
theorem RowAt.set2 {w : World} {rb b o cap : Nat} {l : List Nd} {lv : Value} {ks : List Nat} {m : Int} (h : RowAt w rb b o cap l lv ks m) (m' : Int) : RowAt (w.setCell ⟨rb, 2, none⟩ (.int .i64 m')) rb b o cap l lv ks m' :=
  ⟨by rw [obj_setCell h.obj]; rfl, h.ints.sm (sm_set _ _ _ _) (fun b' o' n c e => by simp; exact h.lb b' o' n c e), h.doc.sm (sm_set _ _ _ _) (by simp; exact h.db), h.db, h.lb⟩
theorem RowAt.set1 {w : World} {rb b o cap : Nat} {l : List Nd} {lv : Value} {ks : List Nat} {m : Int} (h : RowAt w rb b o cap l lv ks m) {lv' : Value} {ks' : List Nat} (hi : IntsAt w lv' ks') (hl : ∀ b' o' n c, lv' = .slice (some ⟨b', o', none⟩) n c → b' ≠ rb) : RowAt (w.setCell ⟨rb, 1, none⟩ lv') rb b o cap l lv' ks' m :=
  ⟨by rw [obj_setCell h.obj]; rfl, hi.sm (sm_set _ _ _ _) (fun b' o' n c e => by simp; exact hl b' o' n c e), h.doc.sm (sm_set _ _ _ _) (by simp; exact h.db), h.db, hl⟩
theorem RowAt.drewN {w : World} {rb b o cap : Nat} {l : List Nd} {lv : Value} {ks : List Nat} {m : Int} (h : RowAt w rb b o cap l lv ks m) (n : Nat) : RowAt (w.drewN n) rb b o cap l lv ks m := h.sm (X := []) ((Sm.refl _ _).drewN n)
/-- a slice of places without its first -/
theorem ints_tail {w : World} {b o len cap k : Nat} {ks : List Nat} (h : IntsAt w (.slice (some ⟨b, o, none⟩) len cap) (k :: ks)) : cap ≠ 1 → IntsAt w (.slice (some ⟨b, o + 1, none⟩) (len - 1) (cap - 1)) ks := by
  intro hc
  obtain ⟨a, c, e, h1, h2, h3⟩ := h
  simp only [Value.slice.injEq] at e
  obtain ⟨rfl, rfl, rfl⟩ := e
  refine ⟨some ⟨b, o + 1, none⟩, cap - 1, by simp, by simp at h1; omega, by omega, fun i hi => ?_⟩
  obtain ⟨b', o', e, hb, hx⟩ := h3 (i + 1) (by simp; omega)
  simp only [Option.some.injEq, Addr.mk.injEq] at e
  obtain ⟨rfl, rfl, -⟩ := e
  refine ⟨_, _, rfl, hb, ?_⟩
  rw [show o + 1 + i = o + (i + 1) by omega, hx]
  simp
theorem ints_none {w : World} {b o cap : Nat} (hc : cap ≤ maxLen) : IntsAt w (.slice (some ⟨b, o, none⟩) 0 cap) [] :=
  ⟨_, cap, rfl, Nat.zero_le _, hc, fun i hi => by simp at hi⟩
theorem ints_head {w : World} {v : Value} {k : Nat} {ks : List Nat} (h : IntsAt w v (k :: ks)) : ∃ b o cap, v = .slice (some ⟨b, o, none⟩) (ks.length + 1) cap ∧ ks.length + 1 ≤ cap ∧ cap ≤ maxLen ∧ b < w.heap.size ∧ w.cell? ⟨b, o, none⟩ = some (.int .i64 (k : Int)) := by
  obtain ⟨a, cap, rfl, h1, h2, h3⟩ := h
  obtain ⟨b, o, rfl, hb, hc⟩ := h3 0 (by simp)
  exact ⟨b, o, cap, rfl, by simpa using h1, h2, hb, by simpa using hc⟩
theorem ints_nil {w : World} {v : Value} (h : IntsAt w v []) : ∃ a cap, v = .slice a 0 cap ∧ cap ≤ maxLen := by
  obtain ⟨a, cap, rfl, h1, h2, h3⟩ := h
  exact ⟨a, cap, rfl, h2⟩
theorem ints_len {w : World} {v : Value} {ks : List Nat} (h : IntsAt w v ks) : ∃ a cap, v = .slice a ks.length cap ∧ cap ≤ maxLen ∧ ks.length ≤ cap := by
  obtain ⟨a, cap, rfl, h1, h2, h3⟩ := h
  exact ⟨a, cap, rfl, h2, h1⟩

theorem end_any (rb b o cap : Nat) (l : List Nd) (lv : Value) (ks : List Nat) (m : Int) (w : World) (h : RowAt w rb b o cap l lv ks m) :
    Calls Tryz.prog 34 #[.pointer (some ⟨rb, 0, none⟩)] w fun e w' => e = .returned (.bool ks.isEmpty) ∧ w' = w := by
  have c1 : w.cell? ⟨rb, 1, none⟩ = some lv := cell_of h.obj rfl
  obtain ⟨a, kc, rfl, _, _⟩ := ints_len h.ints
  clear h
  go_enter Tryz.func34, Tryz.ntmps34
  go_wp2_with fail
  go_ret
  exact ⟨ret_b (by cases ks with | nil => rfl | cons a t => simp; omega), rfl⟩

theorem most_any (rb b o cap : Nat) (l : List Nd) (lv : Value) (ks : List Nat) (m : Int) (w : World) (h : RowAt w rb b o cap l lv ks m) :
    Calls Tryz.prog 40 #[.pointer (some ⟨rb, 0, none⟩)] w fun e w' => e = .returned (.bool (decide (m ≤ 1))) ∧ w' = w := by
  have c1 : w.cell? ⟨rb, 2, none⟩ = some (.int .i64 m) := cell_of h.obj rfl
  clear h
  go_enter Tryz.func40, Tryz.ntmps40
  go_wp2_with fail
  go_ret
  exact ⟨rfl, rfl⟩

/-- what 'one' leaves -/
def OnePost (rb b o cap : Nat) (l : List Nd) (ks : List Nat) (m : Int) (p : Int → Bool) (w : World) (e : Ending) (w' : World) : Prop :=
  ∃ q, e = .returned (.bool q) ∧ (q = false → Sm [] w w') ∧ (q = true → ∃ k rest, ks = k :: rest ∧ p (kd l k) = true ∧ Sm [rb] w w' ∧ ∃ lv', RowAt w' rb b o cap l lv' rest m)
theorem onePost_no {rb b o cap : Nat} {l : List Nd} {ks : List Nat} {m : Int} {p : Int → Bool} {w w' : World} (h : Sm [] w w') : OnePost rb b o cap l ks m p w (.returned (.bool false)) w' :=
  ⟨false, rfl, fun _ => h, fun h => by cases h⟩
theorem onePost_yes {rb b o cap k : Nat} {l : List Nd} {rest : List Nat} {m : Int} {p : Int → Bool} {w w' : World} (hp : p (kd l k) = true) (h : Sm [rb] w w') {lv' : Value} (hr : RowAt w' rb b o cap l lv' rest m) : OnePost rb b o cap l (k :: rest) m p w (.returned (.bool true)) w' :=
  ⟨true, rfl, (fun h => by cases h), fun _ => ⟨k, rest, rfl, hp, h, lv', hr⟩⟩

attribute [local go_sem ↓] Go.wp_at_zero Go.wp_at_succ

end

end Go.Proofs.YtigpnidffiaigaaGreat
