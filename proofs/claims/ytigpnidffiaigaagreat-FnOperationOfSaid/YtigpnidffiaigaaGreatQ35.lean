/- Walks: the shape of a node: types: all. Walks: the shape of a node: facts. -/
import Derived.Test.YtigpnidffiaigaaGreatProg
import Derived.BigRegion
import Derived.Test.YtigpnidffiaigaaGreatQ31
import Derived.Test.YtigpnidffiaigaaGreatQ32
import Derived.Test.YtigpnidffiaigaaGreatQ33
import Derived.Test.YtigpnidffiaigaaGreatQ34
set_option linter.unusedVariables false
set_option linter.unusedSimpArgs false
namespace Go.Proofs.YtigpnidffiaigaaGreat

section
open Go.RowKit

set_option maxRecDepth 100000 in
set_option maxHeartbeats 8000000 in
theorem shapedType_d (kind : Int) (rb b o cap i : Nat) (l : List Nd) (lv0 : Value) (ks0 : List Nat) (m0 : Int) (w : World) (hrow : RowAt w rb b o cap l lv0 ks0 m0) (hk0 : ∀ k, k ∈ ks0 → k < l.length) (hti : TreeIn l 0 l.length) (hi : i < l.length) (hn : l.length ≤ 2147483647) (hl0 : ks0.length ≤ 2147483647) (x24 : (kind == 24) = false) (x26 : (kind == 26) = false) (x27 : (kind == 27) = false) (x29 : (kind == 29) = false) (x30 : (kind == 30) = false) (x31 : (kind == 31) = false) (x32 : (kind == 32) = false) (x34 : (kind == 34) = false) (x35 : (kind == 35) = false) (x36 : (kind == 36) = false) (x37 : (kind == 37) = false) (x39 : (kind == 39) = false) :
    Calls Tryz.prog 42 #[.pointer (some ⟨rb, 0, none⟩), .int .i64 kind, .slice (some ⟨b, o, none⟩) l.length cap, .int .i64 (i : Int)] w (SomeR rb w) := by
  have HR0 : Hid (RowAt w rb b o cap l lv0 ks0 m0) := hrow
  have HS0 : Hid (Sm [rb] w w) := Sm.refl _ _
  clear hrow hk0 hti
  go_enter Tryz.func42, Tryz.ntmps42
  cases ks0 with
  | nil =>
    go_wp2_with (go_at_call 34; refine (end_nil rb b o cap l _ _ _ HR0.out).mono ?_; rintro e w' ⟨rfl, hww⟩; rw [hww]; clear hww w')
    all_goals go_ret
    all_goals exact someR HS0.out
  | cons a t =>
    go_wp2_with (go_at_call 34; refine (end_cons rb b o cap l _ a t _ _ HR0.out).mono ?_; rintro e w' ⟨rfl, hww⟩; rw [hww]; clear hww w')
    all_goals go_ret
    all_goals exact someR HS0.out

theorem shapedType_any (kind : Int) (rb b o cap i : Nat) (l : List Nd) (lv0 : Value) (ks0 : List Nat) (m0 : Int) (w : World) (hrow : RowAt w rb b o cap l lv0 ks0 m0) (hk0 : ∀ k, k ∈ ks0 → k < l.length) (hti : TreeIn l 0 l.length) (hi : i < l.length) (hn : l.length ≤ 2147483647) (hl0 : ks0.length ≤ 2147483647) (h39 : kind = 39 → ∀ k, ks0 = [k] → k = i + 1) :
    Calls Tryz.prog 42 #[.pointer (some ⟨rb, 0, none⟩), .int .i64 kind, .slice (some ⟨b, o, none⟩) l.length cap, .int .i64 (i : Int)] w (SomeR rb w) := by
  by_cases x24 : kind = 24
  · subst x24; exact shapedType_24 rb b o cap i l lv0 ks0 m0 w hrow hk0 hti hi hn hl0
  by_cases x26 : kind = 26
  · subst x26; exact shapedType_26 rb b o cap i l lv0 ks0 m0 w hrow hk0 hti hi hn hl0
  by_cases x27 : kind = 27
  · subst x27; exact shapedType_27 rb b o cap i l lv0 ks0 m0 w hrow hk0 hti hi hn hl0
  by_cases x29 : kind = 29
  · subst x29; exact shapedType_29 rb b o cap i l lv0 ks0 m0 w hrow hk0 hti hi hn hl0
  by_cases x30 : kind = 30
  · subst x30; exact shapedType_30 rb b o cap i l lv0 ks0 m0 w hrow hk0 hti hi hn hl0
  by_cases x31 : kind = 31
  · subst x31; exact shapedType_31 rb b o cap i l lv0 ks0 m0 w hrow hk0 hti hi hn hl0
  by_cases x32 : kind = 32
  · subst x32; exact shapedType_32 rb b o cap i l lv0 ks0 m0 w hrow hk0 hti hi hn hl0
  by_cases x34 : kind = 34
  · subst x34; exact shapedType_34 rb b o cap i l lv0 ks0 m0 w hrow hk0 hti hi hn hl0
  by_cases x35 : kind = 35
  · subst x35; exact shapedType_35 rb b o cap i l lv0 ks0 m0 w hrow hk0 hti hi hn hl0
  by_cases x36 : kind = 36
  · subst x36; exact shapedType_36 rb b o cap i l lv0 ks0 m0 w hrow hk0 hti hi hn hl0
  by_cases x37 : kind = 37
  · subst x37; exact shapedType_37 rb b o cap i l lv0 ks0 m0 w hrow hk0 hti hi hn hl0
  by_cases x39 : kind = 39
  · subst x39; exact shapedType_39 rb b o cap i l lv0 ks0 m0 w hrow hk0 hti hi hn hl0 (h39 rfl)
  exact shapedType_d kind rb b o cap i l lv0 ks0 m0 w hrow hk0 hti hi hn hl0 (by simp [x24]) (by simp [x26]) (by simp [x27]) (by simp [x29]) (by simp [x30]) (by simp [x31]) (by simp [x32]) (by simp [x34]) (by simp [x35]) (by simp [x36]) (by simp [x37]) (by simp [x39])

end

section
open Go.RowKit

theorem shp_vac {l : List Nd} {i : Nat} (h : kd l i ≠ 2 ∧ kd l i ≠ 3 ∧ kd l i ≠ 8 ∧ kd l i ≠ 4 ∧ kd l i ≠ 5 ∧ kd l i ≠ 9 ∧ kd l i ≠ 19 ∧ kd l i ≠ 17 ∧ kd l i ≠ 18 ∧ kd l i ≠ 21 ∧ kd l i ≠ 22) : Shp l i :=
  ⟨fun _ => by omega, fun _ => by omega, fun _ => by omega, fun _ => by omega, fun _ => by omega, fun _ => by omega, fun _ => by omega, fun _ => by omega⟩
theorem shp_sel {l : List Nd} {i : Nat} (h : kd l i = 2 ∨ kd l i = 3 ∨ kd l i = 8) (p : ∃ a, a ∈ kids l i ∧ kd l a = 5) : Shp l i :=
  ⟨fun _ => p, fun _ => by omega, fun _ => by omega, fun _ => by omega, fun _ => by omega, fun _ => by omega, fun _ => by omega, fun _ => by omega⟩
theorem shp_var {l : List Nd} {i : Nat} (h : kd l i = 4) (p : ∃ a, isT (kd l a) ∧ (kids l i = [a] ∨ ∃ b, isV (kd l b) ∧ kids l i = [a, b])) : Shp l i :=
  ⟨fun _ => by omega, fun _ => p, fun _ => by omega, fun _ => by omega, fun _ => by omega, fun _ => by omega, fun _ => by omega, fun _ => by omega⟩
theorem shp_sels {l : List Nd} {i : Nat} (h : kd l i = 5) (p : ∀ a, a ∈ kids l i → kd l a = 6 ∨ kd l a = 7 ∨ kd l a = 8) : Shp l i :=
  ⟨fun _ => by omega, fun _ => by omega, fun _ => p, fun _ => by omega, fun _ => by omega, fun _ => by omega, fun _ => by omega, fun _ => by omega⟩
theorem shp_arg {l : List Nd} {i : Nat} (h : kd l i = 9 ∨ kd l i = 19) (p : ∃ a, isV (kd l a) ∧ kids l i = [a]) : Shp l i :=
  ⟨fun _ => by omega, fun _ => by omega, fun _ => by omega, fun _ => p, fun _ => by omega, fun _ => by omega, fun _ => by omega, fun _ => by omega⟩
theorem shp_list {l : List Nd} {i : Nat} (h : kd l i = 17) (p : ∀ a, a ∈ kids l i → isV (kd l a)) : Shp l i :=
  ⟨fun _ => by omega, fun _ => by omega, fun _ => by omega, fun _ => by omega, fun _ => p, fun _ => by omega, fun _ => by omega, fun _ => by omega⟩
theorem shp_obj {l : List Nd} {i : Nat} (h : kd l i = 18) (p : ∀ a, a ∈ kids l i → kd l a = 19) : Shp l i :=
  ⟨fun _ => by omega, fun _ => by omega, fun _ => by omega, fun _ => by omega, fun _ => by omega, fun _ => p, fun _ => by omega, fun _ => by omega⟩
theorem shp_tlist {l : List Nd} {i : Nat} (h : kd l i = 21) (p : ∃ a, isT (kd l a) ∧ kids l i = [a]) : Shp l i :=
  ⟨fun _ => by omega, fun _ => by omega, fun _ => by omega, fun _ => by omega, fun _ => by omega, fun _ => by omega, fun _ => p, fun _ => by omega⟩
theorem shp_tnon {l : List Nd} {i : Nat} (h : kd l i = 22) (p : ∃ a, isT (kd l a) ∧ kd l a ≠ 22 ∧ kids l i = [a]) : Shp l i :=
  ⟨fun _ => by omega, fun _ => by omega, fun _ => by omega, fun _ => by omega, fun _ => by omega, fun _ => by omega, fun _ => by omega, fun _ => p⟩
theorem sb_is {c : Int} (h : isSB c = true) : c = 5 := by unfold isSB at h; exact of_decide_eq_true h
theorem tb_is {c : Int} (h : isTB c = true) : isT c := by unfold isTB at h; exact (of_decide_eq_true h : 20 ≤ c ∧ c ≤ 22)
theorem vb_is {c : Int} (h : isVB c = true) : isV c := by unfold isVB at h; exact (of_decide_eq_true h : 11 ≤ c ∧ c ≤ 18)
theorem nb_is {c : Int} (h : isNB c = true) : isT c ∧ c ≠ 22 := by unfold isNB at h; exact (of_decide_eq_true h : (20 ≤ c ∧ c ≤ 22) ∧ c ≠ 22)

def fl (l : List Nd) (i : Nat) : Int := (l[i]?.map Nd.flag).getD 0
theorem fl_at {l : List Nd} {i : Nat} (h : i < l.length) : fl l i = l[i].flag := by simp [fl, h]

end

end Go.Proofs.YtigpnidffiaigaaGreat
