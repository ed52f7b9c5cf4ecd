/- Walks: the shape of a node: words. -/
import Derived.Test.YtigpnidffiaigaaGreatProg
import Derived.BigRegion
import Derived.Test.YtigpnidffiaigaaGreatQ25
import Derived.Test.YtigpnidffiaigaaGreatQ26
import Derived.Test.YtigpnidffiaigaaGreatQ27
import Derived.Test.YtigpnidffiaigaaGreatQ28
import Derived.Test.YtigpnidffiaigaaGreatQ29
import Derived.Test.YtigpnidffiaigaaGreatQ30
set_option linter.unusedVariables false
set_option linter.unusedSimpArgs false
namespace Go.Proofs.YtigpnidffiaigaaGreat

section
open Go.RowKit

theorem own_lt {w : World} {base size n : Nat} {e : TypeId} {v : Value} {xs : List Value} (h : w.ownsRow base e size v n xs) : ∀ b o k c, v = .slice (some ⟨b, o, none⟩) k c → b < w.heap.size := by
  intro b o k c hv
  rcases h.2 with ⟨rfl, h0⟩ | ⟨g, cap, cur, rfl, hb, hh, _⟩
  · cases hv
  · cases hv
    exact lt_of_block hh
set_option maxHeartbeats 1000000 in
theorem kids2_any (l : List Nd) (i b o cap : Nat) (ks : List Nat) (w : World) (hd : DocAt w b o l) (hi : i < l.length) (hn : l.length ≤ 2147483647) (hc : Ch l (i + 1) (i + sz l i) ks) (he : i + sz l i ≤ l.length) :
    Calls Tryz.prog 10 #[.slice (some ⟨b, o, none⟩) l.length cap, .int .i64 (i : Int)] w fun e w' => ∃ v, e = .returned v ∧ IntsAt w' v ks ∧ Sm [] w w' ∧ ∀ b o n c, v = .slice (some ⟨b, o, none⟩) n c → b < w'.heap.size := by
  have hle := hc.le
  have hsz : 1 ≤ sz l i := by omega
  have z1 : (0 : Int) ≤ (i : Int) := by omega
  have z2 : (i : Int) < (l.length : Int) := by omega
  go_enter Tryz.func10, Tryz.ntmps10
  go_wp2_with fail
  go_loopw [5, 6] (fun v u wr => KidsRel l (i + 1) (i + sz l i) w v u wr) (fun _ u _ => l.length + 1 - (intOf u).toNat)
  case atStart => unfold KidsRel; exact ⟨[], ks, i + 1, rfl, hc, by go_num, World.ownsRow_nil _ _ _ _, Sm.refl _ _⟩
  case round =>
    unfold KidsRel at hrel
    obtain ⟨done, rest, k, h1, h2, rfl, hown, hsm⟩ := hrel
    have ci := ((hd.sm0 hsm) i hi).c5
    rw [size_cast hi hsz] at ci
    have hle1 := h1.le
    have hle2 := h2.le
    have z3 : (0 : Int) ≤ (k : Int) := by omega
    by_cases hlt : k < i + sz l i
    · have z4 : (k : Int) < (i : Int) + (sz l i : Int) := by omega
      have hk : k < l.length := by omega
      have z5 : (k : Int) < (l.length : Int) := by omega
      obtain ⟨rest', rfl, g1, g2, g3⟩ : ∃ rest', rest = k :: rest' ∧ 1 ≤ sz l k ∧ k + sz l k ≤ i + sz l i ∧ Ch l (k + sz l k) (i + sz l i) rest' := by
        cases rest with
        | nil => simp only [Ch] at h2; omega
        | cons a r => obtain ⟨rfl, g1, g2, g3⟩ := h2; exact ⟨r, rfl, g1, g2, g3⟩
      have hz : w.heap.size ≤ wr.heap.size := hsm.size
      have H1 : Hid (Ch l (i + 1) (k + sz l k) (done ++ [k])) := h1.append (Ch.one g1)
      have HD : Hid (DocAt w b o l) := hd
      clear h1 h2
      go_wp2_with (at_builtin; refine app1 _ rfl _ _ _ rfl 3 _ 1 8 Tryz.underlying33 infoInt rfl (by omega) (by omega) _ done.length (intC done) rfl hown _ rfl rfl (by simp [Value.oneCell']) (by omega) hz ?_)
      intro g cap w' hown' hg hat hlt'
      have sm' := hsm.grown hg (fun b hb => .inl (hown.lt b hb).1)
      have ci' := ((hd.sm0 sm') k hk).c5
      rw [size_cast hk g1] at ci'
      have ow' : w'.ownsRow w.heap.size 3 1 (.slice (some ⟨g, 0, none⟩) (done.length + 1) cap) (done ++ [k]).length (intC (done ++ [k])) := by
        rw [intC_append]; simpa [intC] using hown'
      clear hown' hg hat hlt' hown hsm ci
      go_wp2_with fail
      go_roundw
      case rel => (first | refine ⟨_, _, ?_, rfl, rfl⟩ | skip); unfold KidsRel; exact ⟨done ++ [k], rest', k + sz l k, H1.out, g3, by go_num, ow', sm'⟩
      case measure => simp [intOf]; omega
    · have z4 : ¬ ((k : Int) < (i : Int) + (sz l i : Int)) := by omega
      have hf : Hid (ks = done) := by
        obtain rfl : k = i + sz l i := by omega
        exact hc.uniq h1
      clear h1 h2
      go_wp2_with fail
      go_ret
      exact ⟨_, rfl, by rw [hf.out]; exact intsAt_own hown, hsm, own_lt hown⟩

def kindsC (cs : List Int) : Array Value := (cs.map fun c => Value.int .i64 c).toArray
theorem kindsAt_alloc (w : World) (cs : List Int) (kb : Nat) (hkb : w.heap.size = kb) : KindsAt (w.alloc (.cells (kindsC cs) 3 (0, 0))) kb cs := by
  intro j hj
  subst hkb
  refine cell_of (obj_alloc _ _) ?_
  simp [kindsC, List.getD_eq_getElem?_getD, hj]
theorem sm_alloc0 (w : World) (o : Obj) : Sm [] w (w.alloc o) := (Sm.refl _ _).alloc o
theorem all_go (rb b o cap kb n : Nat) (l : List Nd) (lv : Value) (ks : List Nat) (m : Int) (cs : List Int) (w : World) (hkb : w.heap.size = kb) (h : RowAt w rb b o cap l lv ks m) (hk : ∀ k, k ∈ ks → k < l.length) (hn : l.length ≤ 2147483647) (hks : ks.length ≤ 2147483647)
    (hcl : cs.length = n) (hn100 : n ≤ 100) :
    Calls Tryz.prog 33 #[.pointer (some ⟨rb, 0, none⟩), .slice (some ⟨kb, 0, none⟩) n n] (w.alloc (.cells (kindsC cs) 3 (0, 0))) (AllPost rb b o cap l ks cs w) := by
  subst hcl
  have hrb := lt_of_block h.obj
  refine (all_any rb b o cap kb cs.length l lv ks m cs _ (h.sm (X := []) (sm_alloc0 _ _)) hk hn hks (kindsAt_alloc w cs kb hkb) (by omega) hn100 (Nat.le_refl _)).mono ?_
  rintro e w' ⟨lv', done, rest, h1, h2, h3, h4, h5, h6⟩
  exact ⟨lv', done, rest, h1, h2, h3, h4, (sm_alloc0 _ _).of_nil.trans h5, h6⟩
theorem end_nil (rb b o cap : Nat) (l : List Nd) (lv : Value) (m : Int) (w : World) (h : RowAt w rb b o cap l lv [] m) :
    Calls Tryz.prog 34 #[.pointer (some ⟨rb, 0, none⟩)] w fun e w' => e = .returned (.bool true) ∧ w' = w := end_any rb b o cap l lv [] m w h
theorem end_cons (rb b o cap : Nat) (l : List Nd) (lv : Value) (a : Nat) (t : List Nat) (m : Int) (w : World) (h : RowAt w rb b o cap l lv (a :: t) m) :
    Calls Tryz.prog 34 #[.pointer (some ⟨rb, 0, none⟩)] w fun e w' => e = .returned (.bool false) ∧ w' = w := end_any rb b o cap l lv (a :: t) m w h
theorem most_is (rb b o cap : Nat) (l : List Nd) (lv : Value) (ks : List Nat) (m : Int) (w : World) (h : RowAt w rb b o cap l lv ks m) :
    Calls Tryz.prog 40 #[.pointer (some ⟨rb, 0, none⟩)] w fun e w' => ∃ q, e = .returned (.bool q) ∧ w' = w := (most_any rb b o cap l lv ks m w h).mono fun e w' ⟨h1, h2⟩ => ⟨_, h1, h2⟩
/-- some bool; at most the row was written -/
def SomeR (rb : Nat) (w : World) (e : Ending) (w' : World) : Prop := ∃ b, e = .returned (.bool b) ∧ Sm [rb] w w'
theorem someR {rb : Nat} {w w' : World} {b : Bool} (h : Sm [rb] w w') : SomeR rb w (.returned (.bool b)) w' := ⟨b, rfl, h⟩
theorem row_made {w1 : World} {b o cap : Nat} {l : List Nd} {v : Value} {ks : List Nat} (hv : IntsAt w1 v ks) (hd : DocAt w1 b o l) (hb : b < w1.heap.size) (hl : ∀ b o n c, v = .slice (some ⟨b, o, none⟩) n c → b < w1.heap.size) (N : Obj) :
    RowAt ((w1.alloc (.cells #[.slice (some ⟨b, o, none⟩) l.length cap, v, .int .i64 0] 105 (0, 0))).alloc N) w1.heap.size b o cap l v ks 0 := by
  have s := (sm_alloc0 w1 (.cells #[.slice (some ⟨b, o, none⟩) l.length cap, v, .int .i64 0] 105 (0, 0))).alloc N
  exact ⟨obj_alloc_old (obj_alloc _ _) _, hv.sm0 s, hd.sm0 s, by omega, fun b' o' n c e => by have := hl b' o' n c e; omega⟩
def ShapedPost (l : List Nd) (i : Nat) (w : World) (e : Ending) (w' : World) : Prop := ∃ b, e = .returned (.bool b) ∧ Sm [] w w' ∧ (b = true → Shp l i)
theorem shaped_ok {l : List Nd} {i rb : Nat} {w a w' : World} {b : Bool} (hs : Shp l i) (h0 : Sm [] w a) (hrb : w.heap.size ≤ rb) (h : Sm [rb] a w') : ShapedPost l i w (.returned (.bool b)) w' :=
  ⟨b, rfl, h.forget h0 (fun p hp => by simp at hp; subst hp; exact .inr hrb), fun _ => hs⟩
theorem shaped_no {l : List Nd} {i rb : Nat} {w a w' : World} (h0 : Sm [] w a) (hrb : w.heap.size ≤ rb) (h : Sm [rb] a w') : ShapedPost l i w (.returned (.bool false)) w' :=
  ⟨false, rfl, h.forget h0 (fun p hp => by simp at hp; subst hp; exact .inr hrb), fun h => by cases h⟩

end

end Go.Proofs.YtigpnidffiaigaaGreat
