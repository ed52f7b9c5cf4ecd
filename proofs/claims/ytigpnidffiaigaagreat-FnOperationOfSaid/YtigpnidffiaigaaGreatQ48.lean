/- Walks: the fields of a node: kinds (f). Walks: the fields of a node: all. -/
import Derived.Test.YtigpnidffiaigaaGreatProg
import Derived.BigRegion
import Derived.Test.YtigpnidffiaigaaGreatQ45
import Derived.Test.YtigpnidffiaigaaGreatQ46
import Derived.Test.YtigpnidffiaigaaGreatQ47
set_option linter.unusedVariables false
set_option linter.unusedSimpArgs false
namespace Go.Proofs.YtigpnidffiaigaaGreat

section
open Go.RowKit

set_option maxRecDepth 100000 in
set_option maxHeartbeats 8000000 in
theorem formed_6e (P : Prop) (name alias text : ByteArray) (kind flag size : Int) (w : World) (h1 : name.size ≤ 2147483647) (h2 : alias.size ≤ 2147483647) (h3 : text.size ≤ 2147483647) :
    Calls Tryz.prog 18 #[.agg #[.int .i64 6, .string ⟨#[]⟩, .string alias, .string text, .int .i64 flag, .int .i64 size]] w (FormedPost P w) := by
  go_enter Tryz.func18, Tryz.ntmps18
  go_wp2_with (first | (go_at_call 29; (with_reducible refine (isName_e _).mono ?_); rintro e w' ⟨rfl, hww⟩; rw [hww]; clear hww w') | (go_at_call 29; refine (isName_b _ _ ?_).mono ?_; assumption; rintro e w' ⟨b, rfl, hww⟩; rw [hww]; clear hww w'))
  all_goals go_ret
  all_goals (first | exact formed_no ((Sm.refl _ _).alloc _) | exact formed_no (((Sm.refl _ _).alloc _).trans hs2))

set_option maxRecDepth 100000 in
set_option maxHeartbeats 8000000 in
theorem formed_6 (P : Prop) (name alias text : ByteArray) (kind flag size : Int) (w : World) (h1 : name.size ≤ 2147483647) (h2 : alias.size ≤ 2147483647) (h3 : text.size ≤ 2147483647) (hP : Hid P) :
    Calls Tryz.prog 18 #[.agg #[.int .i64 6, .string name, .string alias, .string text, .int .i64 flag, .int .i64 size]] w (FormedPost P w) := by
  go_enter Tryz.func18, Tryz.ntmps18
  go_wp2_with (go_at_call 29; refine (isName_b _ _ ?_).mono ?_; assumption; rintro e w' ⟨b, rfl, hww⟩; rw [hww]; clear hww w')
  all_goals go_ret
  all_goals (first | exact formed_ok hP.out ((Sm.refl _ _).alloc _) | exact formed_ok hP.out (((Sm.refl _ _).alloc _).trans hs2))

set_option maxRecDepth 100000 in
set_option maxHeartbeats 8000000 in
theorem formed_de (P : Prop) (name alias text : ByteArray) (kind flag size : Int) (w : World) (h1 : name.size ≤ 2147483647) (h2 : alias.size ≤ 2147483647) (h3 : text.size ≤ 2147483647) (k1 : (kind == 1) = false) (k5 : (kind == 5) = false) (k17 : (kind == 17) = false) (k18 : (kind == 18) = false) (k21 : (kind == 21) = false) (k22 : (kind == 22) = false) (k24 : (kind == 24) = false) (k39 : (kind == 39) = false) (k2 : (kind == 2) = false) (k3 : (kind == 3) = false) (k7 : (kind == 7) = false) (k8 : (kind == 8) = false) (k12 : (kind == 12) = false) (k13 : (kind == 13) = false) (k14 : (kind == 14) = false) (k23 : (kind == 23) = false) (k15 : (kind == 15) = false) (k16 : (kind == 16) = false) (k35 : (kind == 35) = false) (k25 : (kind == 25) = false) :
    Calls Tryz.prog 18 #[.agg #[.int .i64 kind, .string ⟨#[]⟩, .string ⟨#[]⟩, .string text, .int .i64 flag, .int .i64 size]] w (FormedPost P w) := by
  go_enter Tryz.func18, Tryz.ntmps18
  go_wp2_with (go_at_call 29; (with_reducible refine (isName_e _).mono ?_); rintro e w' ⟨rfl, hww⟩; rw [hww]; clear hww w')
  all_goals go_ret
  all_goals (first | exact formed_no ((Sm.refl _ _).alloc _) | exact formed_no (((Sm.refl _ _).alloc _).trans hs2))

set_option maxRecDepth 100000 in
set_option maxHeartbeats 8000000 in
theorem formed_d (P : Prop) (name alias text : ByteArray) (kind flag size : Int) (w : World) (h1 : name.size ≤ 2147483647) (h2 : alias.size ≤ 2147483647) (h3 : text.size ≤ 2147483647) (k1 : (kind == 1) = false) (k5 : (kind == 5) = false) (k17 : (kind == 17) = false) (k18 : (kind == 18) = false) (k21 : (kind == 21) = false) (k22 : (kind == 22) = false) (k24 : (kind == 24) = false) (k39 : (kind == 39) = false) (k2 : (kind == 2) = false) (k3 : (kind == 3) = false) (k7 : (kind == 7) = false) (k8 : (kind == 8) = false) (k12 : (kind == 12) = false) (k13 : (kind == 13) = false) (k14 : (kind == 14) = false) (k23 : (kind == 23) = false) (k15 : (kind == 15) = false) (k16 : (kind == 16) = false) (k35 : (kind == 35) = false) (k25 : (kind == 25) = false) (hP : Hid P) :
    Calls Tryz.prog 18 #[.agg #[.int .i64 kind, .string name, .string ⟨#[]⟩, .string text, .int .i64 flag, .int .i64 size]] w (FormedPost P w) := by
  go_enter Tryz.func18, Tryz.ntmps18
  go_wp2_with (go_at_call 29; refine (isName_b _ _ ?_).mono ?_; assumption; rintro e w' ⟨b, rfl, hww⟩; rw [hww]; clear hww w')
  all_goals go_ret
  all_goals (first | exact formed_ok hP.out ((Sm.refl _ _).alloc _) | exact formed_ok hP.out (((Sm.refl _ _).alloc _).trans hs2))

end

section
open Go.RowKit

theorem ne_bytes {s : ByteArray} {l : List UInt8} (h : s ≠ bs l) : ¬ s.toList = l := fun e => h (Go.WideShapes.bytes_inj (by
  rw [ByteArray.toList_eq] at e
  rw [e]
  simp [bs]))
theorem ne_list {s : ByteArray} (h : s ≠ ByteArray.empty) : ¬ s.toList = [] := ne_bytes h
structure FrmN (n : Nd) : Prop where
  op : n.kind = 2 → n.text = wQuery ∨ n.text = wMutation ∨ n.text = wSubscription
  frag : n.kind = 3 → n.name ≠ ByteArray.empty ∧ n.text ≠ ByteArray.empty
  name : n.kind = 4 ∨ n.kind = 6 ∨ n.kind = 7 ∨ n.kind = 9 ∨ n.kind = 10 ∨ n.kind = 11 ∨ n.kind = 19 ∨ n.kind = 20 → n.name ≠ ByteArray.empty
theorem FrmN.frm {l : List Nd} {i : Nat} (hi : i < l.length) (h : FrmN l[i]) : Frm l i :=
  ⟨fun e => by rw [tx_at hi]; exact h.op (by rw [← kd_at hi]; exact e), fun e => by rw [nm_at hi, tx_at hi]; exact h.frag (by rw [← kd_at hi]; exact e), fun e => by rw [nm_at hi]; exact h.name (by rw [← kd_at hi]; exact e)⟩
theorem frmN_vac {k f z : Int} {a b c : ByteArray} (h : k ≠ 2 ∧ k ≠ 3 ∧ k ≠ 4 ∧ k ≠ 6 ∧ k ≠ 7 ∧ k ≠ 9 ∧ k ≠ 10 ∧ k ≠ 11 ∧ k ≠ 19 ∧ k ≠ 20) : FrmN ⟨k, a, b, c, f, z⟩ :=
  ⟨fun e => by dsimp only at e; omega, fun e => by dsimp only at e; omega, fun e => by dsimp only at e; omega⟩
theorem frmN_op {f z : Int} {a b c : ByteArray} (h : c = wQuery ∨ c = wMutation ∨ c = wSubscription) : FrmN ⟨2, a, b, c, f, z⟩ :=
  ⟨fun e => h, fun e => by dsimp only at e; omega, fun e => by dsimp only at e; omega⟩
theorem frmN_frag {f z : Int} {a b c : ByteArray} (h : a ≠ ByteArray.empty) (g : c ≠ ByteArray.empty) : FrmN ⟨3, a, b, c, f, z⟩ :=
  ⟨fun e => by dsimp only at e; omega, fun e => ⟨h, g⟩, fun e => by dsimp only at e; omega⟩
theorem frmN_name {k f z : Int} {a b c : ByteArray} (hk : k ≠ 2 ∧ k ≠ 3) (h : a ≠ ByteArray.empty) : FrmN ⟨k, a, b, c, f, z⟩ :=
  ⟨fun e => by dsimp only at e; omega, fun e => by dsimp only at e; omega, fun e => h⟩

set_option maxHeartbeats 1000000 in
theorem formed_any (n : Nd) (w : World) (h1 : n.name.size ≤ 2147483647) (h2 : n.alias.size ≤ 2147483647) (h3 : n.text.size ≤ 2147483647) : Calls Tryz.prog 18 #[ndV n] w (FormedPost (FrmN n) w) := by
  obtain ⟨kind, name, alias, text, flag, size⟩ := n
  dsimp only at h1 h2 h3
  unfold ndV
  dsimp only
  by_cases ha : alias = ByteArray.empty
  · subst ha
    have h2 : (⟨#[]⟩ : ByteArray).size ≤ 2147483647 := by show 0 ≤ 2147483647; decide
    by_cases x1 : kind = 1
    · subst x1; exact formed_1 _ name ⟨#[]⟩ text 1 flag size w h1 h2 h3 (frmN_vac (by decide))
    by_cases x5 : kind = 5
    · subst x5; exact formed_5 _ name ⟨#[]⟩ text 5 flag size w h1 h2 h3 (frmN_vac (by decide))
    by_cases x17 : kind = 17
    · subst x17; exact formed_17 _ name ⟨#[]⟩ text 17 flag size w h1 h2 h3 (frmN_vac (by decide))
    by_cases x18 : kind = 18
    · subst x18; exact formed_18 _ name ⟨#[]⟩ text 18 flag size w h1 h2 h3 (frmN_vac (by decide))
    by_cases x21 : kind = 21
    · subst x21; exact formed_21 _ name ⟨#[]⟩ text 21 flag size w h1 h2 h3 (frmN_vac (by decide))
    by_cases x22 : kind = 22
    · subst x22; exact formed_22 _ name ⟨#[]⟩ text 22 flag size w h1 h2 h3 (frmN_vac (by decide))
    by_cases x24 : kind = 24
    · subst x24; exact formed_24 _ name ⟨#[]⟩ text 24 flag size w h1 h2 h3 (frmN_vac (by decide))
    by_cases x39 : kind = 39
    · subst x39; exact formed_39 _ name ⟨#[]⟩ text 39 flag size w h1 h2 h3 (frmN_vac (by decide))
    by_cases x8 : kind = 8
    · subst x8; exact formed_8 _ name ⟨#[]⟩ text 8 flag size w h1 h2 h3 (frmN_vac (by decide))
    by_cases x12 : kind = 12
    · subst x12; exact formed_12 _ name ⟨#[]⟩ text 12 flag size w h1 h2 h3 (frmN_vac (by decide))
    by_cases x13 : kind = 13
    · subst x13; exact formed_13 _ name ⟨#[]⟩ text 13 flag size w h1 h2 h3 (frmN_vac (by decide))
    by_cases x14 : kind = 14
    · subst x14; exact formed_14 _ name ⟨#[]⟩ text 14 flag size w h1 h2 h3 (frmN_vac (by decide))
    by_cases x23 : kind = 23
    · subst x23; exact formed_23 _ name ⟨#[]⟩ text 23 flag size w h1 h2 h3 (frmN_vac (by decide))
    by_cases x15 : kind = 15
    · subst x15; exact formed_15 _ name ⟨#[]⟩ text 15 flag size w h1 h2 h3 (frmN_vac (by decide))
    by_cases x16 : kind = 16
    · subst x16; exact formed_16 _ name ⟨#[]⟩ text 16 flag size w h1 h2 h3 (frmN_vac (by decide))
    by_cases x35 : kind = 35
    · subst x35; exact formed_35 _ name ⟨#[]⟩ text 35 flag size w h1 h2 h3 (frmN_vac (by decide))
    by_cases x2 : kind = 2
    · subst x2
      by_cases tq : text = wQuery
      · subst tq; exact formed_2q _ name ⟨#[]⟩ wQuery 2 flag size w h1 h2 h3 (frmN_op (.inl rfl))
      by_cases tm : text = wMutation
      · subst tm; exact formed_2m _ name ⟨#[]⟩ wMutation 2 flag size w h1 h2 h3 (frmN_op (.inr (.inl rfl)))
      by_cases ts : text = wSubscription
      · subst ts; exact formed_2s _ name ⟨#[]⟩ wSubscription 2 flag size w h1 h2 h3 (frmN_op (.inr (.inr rfl)))
      exact formed_2n _ name ⟨#[]⟩ text 2 flag size w h1 h2 h3 (ne_bytes tq) (ne_bytes tm) (ne_bytes ts)
    by_cases x25 : kind = 25
    · subst x25
      by_cases tq : text = wQuery
      · subst tq; exact formed_25q _ name ⟨#[]⟩ wQuery 25 flag size w h1 h2 h3 (frmN_vac (by decide))
      by_cases tm : text = wMutation
      · subst tm; exact formed_25m _ name ⟨#[]⟩ wMutation 25 flag size w h1 h2 h3 (frmN_vac (by decide))
      by_cases ts : text = wSubscription
      · subst ts; exact formed_25s _ name ⟨#[]⟩ wSubscription 25 flag size w h1 h2 h3 (frmN_vac (by decide))
      exact formed_25n _ name ⟨#[]⟩ text 25 flag size w h1 h2 h3 (ne_bytes tq) (ne_bytes tm) (ne_bytes ts)
    by_cases x3 : kind = 3
    · subst x3
      by_cases hn : name = ByteArray.empty
      · subst hn; exact formed_3e _ ⟨#[]⟩ ⟨#[]⟩ text 3 flag size w h1 h2 h3
      by_cases ht : text = ByteArray.empty
      · subst ht; exact formed_3t _ name ⟨#[]⟩ ⟨#[]⟩ 3 flag size w h1 h2 h3
      exact formed_3 _ name ⟨#[]⟩ text 3 flag size w h1 h2 h3 (frmN_frag hn ht)
    by_cases x7 : kind = 7
    · subst x7
      by_cases hn : name = ByteArray.empty
      · subst hn; exact formed_7e _ ⟨#[]⟩ ⟨#[]⟩ text 7 flag size w h1 h2 h3
      exact formed_7 _ name ⟨#[]⟩ text 7 flag size w h1 h2 h3 (frmN_name (by decide) hn)
    by_cases hn : name = ByteArray.empty
    · subst hn; exact formed_de _ ⟨#[]⟩ ⟨#[]⟩ text kind flag size w h1 h2 h3 (by simp [x1]) (by simp [x5]) (by simp [x17]) (by simp [x18]) (by simp [x21]) (by simp [x22]) (by simp [x24]) (by simp [x39]) (by simp [x2]) (by simp [x3]) (by simp [x7]) (by simp [x8]) (by simp [x12]) (by simp [x13]) (by simp [x14]) (by simp [x23]) (by simp [x15]) (by simp [x16]) (by simp [x35]) (by simp [x25])
    exact formed_d _ name ⟨#[]⟩ text kind flag size w h1 h2 h3 (by simp [x1]) (by simp [x5]) (by simp [x17]) (by simp [x18]) (by simp [x21]) (by simp [x22]) (by simp [x24]) (by simp [x39]) (by simp [x2]) (by simp [x3]) (by simp [x7]) (by simp [x8]) (by simp [x12]) (by simp [x13]) (by simp [x14]) (by simp [x23]) (by simp [x15]) (by simp [x16]) (by simp [x35]) (by simp [x25]) (frmN_name ⟨x2, x3⟩ hn)
  · by_cases x6 : kind = 6
    · subst x6
      by_cases hn : name = ByteArray.empty
      · subst hn; exact formed_6e _ ⟨#[]⟩ alias text 6 flag size w h1 h2 h3
      exact formed_6 _ name alias text 6 flag size w h1 h2 h3 (frmN_name (by decide) hn)
    · have hl := ne_list ha
      exact formed_alias _ name alias text kind flag size w h1 h2 h3 (by simp [x6]) hl (by simpa using hl) (by simpa using hl) (by simp [x6])

end

end Go.Proofs.YtigpnidffiaigaaGreat
