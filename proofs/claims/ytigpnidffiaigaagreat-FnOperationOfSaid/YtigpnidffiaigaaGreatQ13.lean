/- Walks: the reference's words on nodes: whether sizes fit; names; texts. Walks: the maker's small parts. Walks: the maker: names and kids of a node. Walks: the maker: a node and its kids. -/
import Derived.Test.YtigpnidffiaigaaGreatProg
import Derived.BigRegion
import Derived.Deep.RegionHeld3
import Derived.Deep.CutRange
import Derived.Deep.RegionLaw
import Derived.Deep.AppendLies
import Derived.Test.YtigpnidffiaigaaGreatQ02
import Derived.Test.YtigpnidffiaigaaGreatQ03
import Derived.Test.YtigpnidffiaigaaGreatQ12
set_option linter.unusedVariables false
set_option linter.unusedSimpArgs false
namespace Go.Proofs.YtigpnidffiaigaaGreat

section
open Go.RowKit

theorem fixedHere_any (l : List Nd) (i b o cap : Nat) (w : World) (hd : DocAt w b o l) (ht : TreeIn l 0 l.length) (hi : i < l.length) (hn : l.length ≤ 2147483647) :
    Calls Tryz.prog 62 #[.slice (some ⟨b, o, none⟩) l.length cap, .int .i64 (i : Int)] w (SomeB w) := by
  obtain ⟨hs, he, ks, hc⟩ := ht i (Nat.zero_le _) hi
  have HK : Hid (Calls Tryz.prog 11 #[.slice (some ⟨b, o, none⟩) l.length cap, .int .i64 (i : Int), .int .i64 10] w (TheInts w (ks.filter fun k => decide (kd l k = 10)))) := kidsOf_any l i b o cap 10 ks w hd hi hn hc he
  have hm := hc.mem
  have HM : Hid (∀ a, a ∈ ks.filter (fun k => decide (kd l k = 10)) → a < l.length ∧ 1 ≤ sz l a ∧ a + sz l a ≤ l.length) := fun a ha => by
    have := hm a (List.mem_filter.1 ha).1
    omega
  have hlen : (ks.filter fun k => decide (kd l k = 10)).length ≤ 2147483647 := by
    have := List.length_filter_le (fun k => decide (kd l k = 10)) ks
    have := hc.le
    omega
  clear hm hc
  generalize (ks.filter fun k => decide (kd l k = 10)) = xs at *
  have HD : Hid (DocAt w b o l) := hd
  clear hd ht
  go_enter Tryz.func62, Tryz.ntmps62
  go_wp2_with fail
  refine HK.out.mono ?_
  rintro e w1 ⟨v, rfl, ⟨a, kcap, rfl, hk1, hk2, hk3⟩, hs1⟩
  have HC : Hid (∀ i, i < xs.length → ∃ b o, a = some ⟨b, o, none⟩ ∧ b < w1.heap.size ∧ w1.cell? ⟨b, o + i, none⟩ = some (.int .i64 ((xs.getD i 0 : Nat) : Int))) := hk3
  have HD1 : Hid (DocAt w1 b o l) := HD.out.sm0 hs1
  clear hk3 HK HD
  unfold maxLen at hk2
  go_wp2_with fail
  go_loopw [6] (fun u wr => ∃ k : Nat, k ≤ xs.length ∧ u = .int .i64 (k : Int) ∧ Sm [] w1 wr) (fun u _ => xs.length - (intOf u).toNat)
  case atStart => exact ⟨0, by omega, rfl, Sm.refl _ _⟩
  case round =>
    obtain ⟨k, hk, rfl, hsm⟩ := hrel
    have z3 : (0 : Int) ≤ (k : Int) := by omega
    by_cases hlt : k < xs.length
    · have z4 : (k : Int) < (xs.length : Int) := by omega
      obtain ⟨kb, ko, rfl, hkb, hkc⟩ := HC.out k hlt
      have hkc' := hsm.keeps hkc (by simp)
      clear hkc
      obtain ⟨m1, m2, m3⟩ := HM.out _ (getD_memN hlt)
      generalize xs.getD k 0 = x at *
      have HF : Hid (Calls Tryz.prog 39 #[.slice (some ⟨b, o, none⟩) l.length cap, .int .i64 (x : Int)] wr (SomeB wr)) := fixedAt_any l x b o cap wr (HD1.out.sm0 hsm) m1 hn m2 m3
      go_wp2_with fail
      refine HF.out.mono ?_
      rintro e w2 ⟨q, rfl, hs2⟩
      cases q with
      | true =>
        go_wp2_with fail
        go_roundw
        case rel => exact ⟨k + 1, by omega, by go_num, hsm.trans hs2⟩
        case measure => simp [intOf]; omega
      | false =>
        go_wp2_with fail
        go_ret
        exact ⟨_, rfl, hs1.trans (hsm.trans hs2)⟩
    · have z4 : ¬ ((k : Int) < (xs.length : Int)) := by omega
      go_wp2_with fail
      go_ret
      exact ⟨_, rfl, hs1.trans hsm⟩

def SizedPost (l : List Nd) (i : Nat) (en : Int) (w : World) (e : Ending) (w' : World) : Prop :=
  ∃ b, e = .returned (.bool b) ∧ Sm [] w w' ∧ (b = true → 1 ≤ sz l i ∧ (i : Int) + (sz l i : Int) ≤ en ∧ TreeIn l i (i + sz l i))
theorem sizedPost_no {l : List Nd} {i : Nat} {en : Int} {w w' : World} (h : Sm [] w w') : SizedPost l i en w (.returned (.bool false)) w' := ⟨false, rfl, h, fun e => by cases e⟩
theorem treeIn_append {l : List Nd} {a k m : Nat} (h1 : TreeIn l a k) (h2 : TreeIn l k m) (hk : k ≤ m) : TreeIn l a m := fun i hi hm => by
  by_cases h : i < k
  · obtain ⟨x1, x2, x3⟩ := h1 i hi h
    exact ⟨x1, by omega, x3⟩
  · exact h2 i (by omega) hm
theorem treeIn_root {l : List Nd} {i : Nat} {done : List Nat} (hs : 1 ≤ sz l i) (h1 : Ch l (i + 1) (i + sz l i) done) (h2 : TreeIn l (i + 1) (i + sz l i)) : TreeIn l i (i + sz l i) := fun j hj hm => by
  by_cases h : j = i
  · subst h; exact ⟨hs, Nat.le_refl _, done, h1⟩
  · exact h2 j (by omega) hm
theorem treeIn_nil (l : List Nd) (a : Nat) : TreeIn l a a := fun i h1 h2 => by omega

def SzRel (l : List Nd) (i : Nat) (w : World) (u : Value) (wr : World) : Prop :=
  ∃ (k : Nat) (done : List Nat), i + 1 ≤ k ∧ k ≤ i + sz l i ∧ u = .int .i64 (k : Int) ∧ Ch l (i + 1) k done ∧ TreeIn l (i + 1) k ∧ Sm [] w wr

set_option maxHeartbeats 1000000 in
theorem sized_any (l : List Nd) (b o cap : Nat) (hn : l.length ≤ 2147483647) (hw : Wf l) (m : Nat) : ∀ (i : Nat) (en deep : Int) (w : World), DocAt w b o l → i < l.length → 0 ≤ en → en ≤ (l.length : Int) → 0 ≤ deep → deep ≤ 41 → 41 ≤ deep + m →
    Calls Tryz.prog 17 #[.slice (some ⟨b, o, none⟩) l.length cap, .int .i64 (i : Int), .int .i64 en, .int .i64 deep] w (SizedPost l i en w) := by
  induction m with
  | zero =>
    intro i en deep w hd hi hen1 hen2 hd0 hd1 hm
    have ci := (hd i hi).c5
    obtain ⟨_, _, y1, y2, _, _⟩ := hw i hi
    have z1 : (0 : Int) ≤ (i : Int) := by omega
    have z2 : (i : Int) < (l.length : Int) := by omega
    have z3 : (40 : Int) < deep := by omega
    generalize l[i].size = q at *
    go_enter Tryz.func17, Tryz.ntmps17
    go_wp2_with fail
    all_goals go_ret
    all_goals exact sizedPost_no (Sm.refl _ _)
  | succ m ih =>
    intro i en deep w hd hi hen1 hen2 hd0 hd1 hm
    have ci := (hd i hi).c5
    have hsz := sz_at hi
    obtain ⟨_, _, y1, y2, _, _⟩ := hw i hi
    have z1 : (0 : Int) ≤ (i : Int) := by omega
    have z2 : (i : Int) < (l.length : Int) := by omega
    by_cases c1 : l[i].size < 1
    · generalize l[i].size = q at *
      clear hsz ih
      go_enter Tryz.func17, Tryz.ntmps17
      go_wp2_with fail
      all_goals go_ret
      all_goals exact sizedPost_no (Sm.refl _ _)
    have hsi : l[i].size = (sz l i : Int) := by omega
    rw [hsi] at ci c1 y1 y2
    have y3 : ¬ ((sz l i : Int) < 1) := c1
    clear hsi hsz c1
    by_cases c2 : en - (i : Int) < (sz l i : Int)
    · generalize sz l i = q at *
      clear ih
      go_enter Tryz.func17, Tryz.ntmps17
      go_wp2_with fail
      all_goals go_ret
      all_goals exact sizedPost_no (Sm.refl _ _)
    by_cases c3 : (40 : Int) < deep
    · generalize sz l i = q at *
      clear ih
      go_enter Tryz.func17, Tryz.ntmps17
      go_wp2_with fail
      all_goals go_ret
      all_goals exact sizedPost_no (Sm.refl _ _)
    have IH : Hid (∀ (i : Nat) (en deep : Int) (w : World), DocAt w b o l → i < l.length → 0 ≤ en → en ≤ (l.length : Int) → 0 ≤ deep → deep ≤ 41 → 41 ≤ deep + m →
      Calls Tryz.prog 17 #[.slice (some ⟨b, o, none⟩) l.length cap, .int .i64 (i : Int), .int .i64 en, .int .i64 deep] w (SizedPost l i en w)) := ih
    have HD : Hid (DocAt w b o l) := hd
    have hle : i + sz l i ≤ l.length := by omega
    clear ih hd
    go_enter Tryz.func17, Tryz.ntmps17
    go_wp2_with fail
    go_loopw [10] (fun u wr => SzRel l i w u wr) (fun u _ => l.length - (intOf u).toNat)
    case atStart => exact ⟨i + 1, [], by omega, by omega, by go_num, rfl, treeIn_nil _ _, Sm.refl _ _⟩
    case round =>
      unfold SzRel at hrel
      obtain ⟨k, done, hk1, hk2, rfl, hch, htr, hsm⟩ := hrel
      have z3 : (0 : Int) ≤ (k : Int) := by omega
      have HCH : Hid (Ch l (i + 1) k done) := hch
      have HTR : Hid (TreeIn l (i + 1) k) := htr
      clear hch htr
      by_cases hlt : k < i + sz l i
      · have z4 : (k : Int) < (i : Int) + (sz l i : Int) := by omega
        have hkl : k < l.length := by omega
        have z5 : (k : Int) < (l.length : Int) := by omega
        have HC : Hid (Calls Tryz.prog 17 #[.slice (some ⟨b, o, none⟩) l.length cap, .int .i64 (k : Int), .int .i64 ((i : Int) + (sz l i : Int)), .int .i64 (deep + 1)] wr (SizedPost l k ((i : Int) + (sz l i : Int)) wr)) :=
          IH.out k _ _ wr (HD.out.sm0 hsm) hkl (by omega) (by omega) (by omega) (by omega) (by omega)
        go_wp2_with fail
        refine HC.out.mono ?_
        rintro e w2 ⟨q, rfl, hs2, hq⟩
        cases q with
        | true =>
          obtain ⟨q1, q2, q3⟩ := hq rfl
          have sm2 := hsm.trans hs2
          have ck := (HD.out.sm0 sm2 k hkl).c5
          rw [size_cast hkl q1] at ck
          have HT : Hid (TreeIn l (i + 1) (k + sz l k)) := treeIn_append HTR.out q3 (by omega)
          have HH : Hid (Ch l (i + 1) (k + sz l k) (done ++ [k])) := HCH.out.append (Ch.one q1)
          clear hq q3
          go_wp2_with fail
          go_roundw
          case rel => (first | refine ⟨_, ?_, rfl⟩ | skip); unfold SzRel; exact ⟨k + sz l k, done ++ [k], by omega, by omega, by go_num, HH.out, HT.out, sm2⟩
          case measure => simp [intOf]; omega
        | false =>
          clear hq
          go_wp2_with fail
          go_ret
          exact sizedPost_no (hsm.trans hs2)
      · have z4 : ¬ ((k : Int) < (i : Int) + (sz l i : Int)) := by omega
        obtain rfl : k = i + sz l i := by omega
        go_wp2_with fail
        go_ret
        exact ⟨true, rfl, hsm, fun _ => ⟨by omega, by omega, treeIn_root (by omega) HCH.out HTR.out⟩⟩

end

section
open Go.RowKit

/-- the maker in memory, and its nodes -/
structure MAt (w : World) (mb b o cap : Nat) (l : List Nd) : Prop where
  obj : w.heap[mb]? = some (.cells #[.slice (some ⟨b, o, none⟩) l.length cap, .bool false, .bool false] 72 (0, 0))
  doc : DocAt w b o l
theorem MAt.sm {w w' : World} {mb b o cap : Nat} {l : List Nd} (h : MAt w mb b o cap l) (s : Sm [] w w') : MAt w' mb b o cap l := ⟨s.obj h.obj (by simp), h.doc.sm0 s⟩
theorem MAt.c0 {w : World} {mb b o cap : Nat} {l : List Nd} (h : MAt w mb b o cap l) : w.cell? ⟨mb, 0, none⟩ = some (.slice (some ⟨b, o, none⟩) l.length cap) := cell_of h.obj rfl
theorem MAt.c1 {w : World} {mb b o cap : Nat} {l : List Nd} (h : MAt w mb b o cap l) : w.cell? ⟨mb, 1, none⟩ = some (.bool false) := cell_of h.obj rfl
theorem MAt.c2 {w : World} {mb b o cap : Nat} {l : List Nd} (h : MAt w mb b o cap l) : w.cell? ⟨mb, 2, none⟩ = some (.bool false) := cell_of h.obj rfl
theorem MAt.f2 {w : World} {mb b o cap : Nat} {l : List Nd} (h : MAt w mb b o cap l) : w.frozen? ⟨mb, 2, none⟩ = false := free_of h.obj 2
/-- the maker's flag, stored as it was -/
theorem MAt.again {w w' : World} {mb b o cap : Nat} {l : List Nd} (h : MAt w' mb b o cap l) (s : Sm [] w w') : Sm [] w (w'.setCell ⟨mb, 2, none⟩ (.bool false)) := s.setCell_same h.c2

def locC (l : List Nd) (i : Nat) : Array Value := #[.int .i64 (i : Int), .int .i64 ((i : Int) + (sz l i : Int)), .pointer none]
/-- where a node is -/
def LocPost (l : List Nd) (i : Nat) (w : World) (e : Ending) (w' : World) : Prop := e = .returned (.pointer (some ⟨w.heap.size, 0, none⟩)) ∧ w' = w.alloc (.cells (locC l i) 68 (0, 0))

theorem loc_any (l : List Nd) (mb b o cap i : Nat) (w : World) (hm : MAt w mb b o cap l) (hi : i < l.length) (hn : l.length ≤ 2147483647) (hs : 1 ≤ sz l i) (he : i + sz l i ≤ l.length) :
    Calls Tryz.prog 23 #[.pointer (some ⟨mb, 0, none⟩), .int .i64 (i : Int)] w (LocPost l i w) := by
  have c0 := hm.c0
  have c5 := (hm.doc i hi).c5
  rw [size_cast hi hs] at c5
  have z1 : (0 : Int) ≤ (i : Int) := by omega
  have z2 : (i : Int) < (l.length : Int) := by omega
  clear hm
  go_enter Tryz.func23, Tryz.ntmps23
  go_wp2_with fail
  go_ret
  exact ⟨rfl, rfl⟩

/-- a name, or nil of none -/
def NameV (w : World) (v : Value) (s : ByteArray) : Prop := (s = ByteArray.empty ∧ v = .pointer none) ∨ (s ≠ ByteArray.empty ∧ ∃ b k lo, v = .pointer (some ⟨b, 0, none⟩) ∧ w.heap[b]? = some (.cells #[k, lo, .string s] 96 (0, 0)))
theorem NameV.sm {w w' : World} {v : Value} {s : ByteArray} (h : NameV w v s) (hs : Sm [] w w') : NameV w' v s := by
  rcases h with h | ⟨h1, b, k, lo, h2, h3⟩
  · exact .inl h
  · exact .inr ⟨h1, b, k, lo, h2, hs.obj h3 (by simp)⟩
def NamePost2 (s : ByteArray) (w : World) (e : Ending) (w' : World) : Prop := ∃ a : Option Addr, e = .returned (.pointer a) ∧ NameV w' (.pointer a) s ∧ (s = ByteArray.empty → a = none) ∧ (s ≠ ByteArray.empty → ∃ b, a = some ⟨b, 0, none⟩) ∧ Sm [] w w'
def PtrPost (w : World) (e : Ending) (w' : World) : Prop := ∃ a : Option Addr, e = .returned (.pointer a) ∧ Sm [] w w'

theorem name_any (s : ByteArray) (w : World) : Calls Tryz.prog 63 #[.string s] w (NamePost2 s w) := by
  by_cases hs : s = ByteArray.empty
  · have HE : Hid (s = ByteArray.empty) := hs
    have e0 : s.toList = [] := by rw [hs, ByteArray.toList_eq]; rfl
    clear hs
    go_enter Tryz.func63, Tryz.ntmps63
    go_wp2_with fail
    go_ret
    exact ⟨none, rfl, .inl ⟨HE.out, rfl⟩, fun _ => rfl, fun h => absurd HE.out h, Sm.refl _ _⟩
  · have HE : Hid (s ≠ ByteArray.empty) := hs
    have e0 : ¬ s.toList = [] := fun e => hs (Go.WideShapes.bytes_inj (by rw [ByteArray.toList_eq] at e; rw [e]; rfl))
    have e1 : s.toList.isEmpty = false := by simpa using e0
    clear hs
    go_enter Tryz.func63, Tryz.ntmps63
    go_wp2_with fail
    refine (newName_any _ _ _ _ (obj_alloc _ _) rfl).mono ?_
    rintro e w1 ⟨rfl, k, rfl⟩
    go_wp2_with fail
    go_ret
    exact ⟨_, rfl, .inr ⟨HE.out, _, _, _, rfl, obj_alloc _ _⟩, fun h => absurd h HE.out, fun _ => ⟨_, rfl⟩, (Sm.refl _ _).alloc _⟩

end

section
open Go.RowKit

/-- what is known of the nodes beneath the maker -/
structure Doc (l : List Nd) : Prop where
  tree : Tree l
  shp : ∀ i, i < l.length → Shp l i
  frm : ∀ i, i < l.length → Frm l i

theorem named_any (s : ByteArray) (w : World) : Calls Tryz.prog 71 #[.string s] w (PtrPost w) := by
  by_cases hs : s = ByteArray.empty
  · have e0 : s.toList = [] := by rw [hs, ByteArray.toList_eq]; rfl
    clear hs
    go_enter Tryz.func71, Tryz.ntmps71
    go_wp2_with fail
    go_ret
    exact ⟨none, rfl, Sm.refl _ _⟩
  · have HN : Hid (Calls Tryz.prog 63 #[.string s] w (NamePost2 s w)) := name_any s w
    have HE : Hid (s ≠ ByteArray.empty) := hs
    have e0 : ¬ s.toList = [] := fun e => hs (Go.WideShapes.bytes_inj (by rw [ByteArray.toList_eq] at e; rw [e]; rfl))
    have e1 : s.toList.isEmpty = false := by simpa using e0
    clear hs
    go_enter Tryz.func71, Tryz.ntmps71
    go_wp2_with fail
    refine HN.out.mono ?_
    rintro e w1 ⟨a, rfl, h1, h2, h3, hs1⟩
    have H1 : Hid (Sm [] w w1) := hs1
    clear h1 h2 h3 hs1
    go_wp2_with fail
    refine (newNamed_any _ _ _ _ (obj_alloc _ _) rfl).mono ?_
    rintro e w2 ⟨rfl, k, rfl⟩
    go_wp2_with fail
    go_ret
    exact ⟨_, rfl, H1.out.alloc _⟩

theorem perhaps_any (l : List Nd) (mb b o cap i : Nat) (w : World) (hm : MAt w mb b o cap l) (hi : i < l.length) :
    Calls Tryz.prog 44 #[.pointer (some ⟨mb, 0, none⟩), .int .i64 (i : Int)] w (NamePost2 (nm l i) w) := by
  have c0 := hm.c0
  have c1 := (hm.doc i hi).c1
  have z1 : (0 : Int) ≤ (i : Int) := by omega
  have z2 : (i : Int) < (l.length : Int) := by omega
  have HM : Hid (MAt w mb b o cap l) := hm
  rw [nm_at hi]
  clear hm
  generalize l[i].name = s at *
  have HN : Hid (Calls Tryz.prog 63 #[.string s] w (NamePost2 s w)) := name_any s w
  by_cases hs : s = ByteArray.empty
  · have HE : Hid (s = ByteArray.empty) := hs
    clear hs
    go_enter Tryz.func44, Tryz.ntmps44
    go_wp2_with fail
    refine HN.out.mono ?_
    rintro e w1 ⟨a, rfl, h1, h2, h3, hs1⟩
    obtain rfl := h2 HE.out
    have H1 : Hid (NameV w1 (.pointer none) s) := h1
    have H2 : Hid (Sm [] w w1) := hs1
    clear h1 h2 h3 hs1
    go_wp2_with fail
    go_ret
    exact ⟨none, rfl, H1.out, fun _ => rfl, fun h => absurd HE.out h, H2.out⟩
  · have HE : Hid (s ≠ ByteArray.empty) := hs
    clear hs
    go_enter Tryz.func44, Tryz.ntmps44
    go_wp2_with fail
    refine HN.out.mono ?_
    rintro e w1 ⟨a, rfl, h1, h2, h3, hs1⟩
    obtain ⟨q, rfl⟩ := h3 HE.out
    have d1 := (HM.out.sm hs1).c1
    have H1 : Hid (NameV w1 (.pointer (some ⟨q, 0, none⟩)) s) := h1
    have H2 : Hid (Sm [] w w1) := hs1
    clear h1 h2 h3 hs1
    go_wp2_with fail
    go_ret
    exact ⟨_, rfl, H1.out, fun h => absurd h HE.out, fun _ => ⟨q, rfl⟩, H2.out⟩

/-- a name there is -/
def CalledPost (s : ByteArray) (w : World) (e : Ending) (w' : World) : Prop := ∃ q : Nat, e = .returned (.pointer (some ⟨q, 0, none⟩)) ∧ NameV w' (.pointer (some ⟨q, 0, none⟩)) s ∧ Sm [] w w'
theorem called_any (l : List Nd) (mb b o cap i : Nat) (w : World) (hm : MAt w mb b o cap l) (hi : i < l.length) (hs : nm l i ≠ ByteArray.empty) :
    Calls Tryz.prog 49 #[.pointer (some ⟨mb, 0, none⟩), .int .i64 (i : Int)] w (CalledPost (nm l i) w) := by
  have HN : Hid (Calls Tryz.prog 44 #[.pointer (some ⟨mb, 0, none⟩), .int .i64 (i : Int)] w (NamePost2 (nm l i) w)) := perhaps_any l mb b o cap i w hm hi
  have HM : Hid (MAt w mb b o cap l) := hm
  have HE : Hid (nm l i ≠ ByteArray.empty) := hs
  clear hm hs
  generalize nm l i = s at *
  go_enter Tryz.func49, Tryz.ntmps49
  go_wp2_with fail
  refine HN.out.mono ?_
  rintro e w1 ⟨a, rfl, h1, h2, h3, hs1⟩
  obtain ⟨q, rfl⟩ := h3 HE.out
  have HM1 : Hid (MAt w1 mb b o cap l) := HM.out.sm hs1
  have d2 := HM1.out.c2
  have g2 := HM1.out.f2
  have H1 : Hid (NameV w1 (.pointer (some ⟨q, 0, none⟩)) s) := h1
  have H2 : Hid (Sm [] w w1) := hs1
  clear h1 h2 h3 hs1
  go_wp2_with fail
  go_ret
  have hs2 : Sm [] w1 (w1.setCell ⟨mb, 2, none⟩ (.bool false)) := HM1.out.again (Sm.refl _ _)
  exact ⟨q, rfl, H1.out.sm hs2, H2.out.trans hs2⟩

theorem condition_any (l : List Nd) (mb b o cap i : Nat) (w : World) (hm : MAt w mb b o cap l) (hi : i < l.length) :
    Calls Tryz.prog 50 #[.pointer (some ⟨mb, 0, none⟩), .int .i64 (i : Int)] w (PtrPost w) := by
  have c0 := hm.c0
  have c1 := (hm.doc i hi).c3
  have z1 : (0 : Int) ≤ (i : Int) := by omega
  have z2 : (i : Int) < (l.length : Int) := by omega
  have HM : Hid (MAt w mb b o cap l) := hm
  clear hm
  generalize l[i].text = s at *
  have HN : Hid (Calls Tryz.prog 71 #[.string s] w (PtrPost w)) := named_any s w
  go_enter Tryz.func50, Tryz.ntmps50
  go_wp2_with fail
  refine HN.out.mono ?_
  rintro e w1 ⟨a, rfl, hs1⟩
  have d1 := (HM.out.sm hs1).c1
  have H2 : Hid (Sm [] w w1) := hs1
  clear hs1
  cases a with
  | none =>
    go_wp2_with fail
    go_ret
    exact ⟨none, rfl, H2.out⟩
  | some q =>
    go_wp2_with fail
    go_ret
    exact ⟨_, rfl, H2.out⟩

theorem own_ge {w : World} {base size n k c : Nat} {e : TypeId} {a : Option Addr} {xs : List Value} (h : w.ownsRow base e size (.slice a k c) n xs) : ∀ b o, a = some ⟨b, o, none⟩ → base ≤ b := by
  intro b o ha
  rcases h.2 with ⟨hv, h0⟩ | ⟨g, cap, cur, hv, hb, hh, _⟩
  · simp only [Value.slice.injEq] at hv; rw [ha] at hv; cases hv.1
  · simp only [Value.slice.injEq] at hv; rw [ha] at hv; cases hv.1; exact hb
def KidsPost (ks : List Nat) (w : World) (e : Ending) (w' : World) : Prop := ∃ a c, e = .returned (.slice a ks.length c) ∧ IntsAt w' (.slice a ks.length c) ks ∧ Sm [] w w' ∧ ∀ b o, a = some ⟨b, o, none⟩ → w.heap.size ≤ b

set_option maxRecDepth 100000 in
set_option maxHeartbeats 2000000 in
theorem mkids_any (l : List Nd) (mb b o cap i : Nat) (w : World) (hm : MAt w mb b o cap l) (ht : Tree l) (hi : i < l.length) :
    Calls Tryz.prog 20 #[.pointer (some ⟨mb, 0, none⟩), .int .i64 (i : Int)] w (KidsPost (kids l i) w) := by
  have hc := ht.ch hi
  have hsz := ht.sz_pos hi
  have he := ht.sz_le hi
  have hn : l.length ≤ 2147483647 := by have := ht.most; omega
  generalize kids l i = ks at *
  have HCH : Hid (Ch l (i + 1) (i + sz l i) ks) := hc
  have HM : Hid (MAt w mb b o cap l) := hm
  have c0 := hm.c0
  have c5 := (hm.doc i hi).c5
  rw [size_cast hi hsz] at c5
  have z1 : (0 : Int) ≤ (i : Int) := by omega
  have z2 : (i : Int) < (l.length : Int) := by omega
  have z6 : ¬ ((sz l i : Int) < 1) := by omega
  have z7 : ¬ ((l.length : Int) < (i : Int) + (sz l i : Int)) := by omega
  clear hm hc ht
  go_enter Tryz.func20, Tryz.ntmps20
  go_wp2_with fail
  go_loopw [5, 7] (fun v u wr => KidsRel l (i + 1) (i + sz l i) w v u wr) (fun _ u _ => l.length + 1 - (intOf u).toNat)
  case atStart => unfold KidsRel; exact ⟨[], ks, i + 1, rfl, HCH.out, by go_num, World.ownsRow_nil _ _ _ _, Sm.refl _ _⟩
  case round =>
    unfold KidsRel at hrel
    obtain ⟨done, rest, k, h1, h2, rfl, hown, hsm⟩ := hrel
    have hle1 := h1.le
    have hle2 := h2.le
    have z3 : (0 : Int) ≤ (k : Int) := by omega
    have HS : Hid (Sm [] w wr) := hsm
    have d0 := (HM.out.sm hsm).c0
    by_cases hlt : k < i + sz l i
    · have z4 : (k : Int) < (i : Int) + (sz l i : Int) := by omega
      have hk : k < l.length := by omega
      have z5 : (k : Int) < (l.length : Int) := by omega
      obtain ⟨rest', rfl, g1, g2, g3⟩ : ∃ rest', rest = k :: rest' ∧ 1 ≤ sz l k ∧ k + sz l k ≤ i + sz l i ∧ Ch l (k + sz l k) (i + sz l i) rest' := by
        cases rest with
        | nil => simp only [Ch] at h2; omega
        | cons a r => obtain ⟨rfl, g1, g2, g3⟩ := h2; exact ⟨r, rfl, g1, g2, g3⟩
      have hz : w.heap.size ≤ wr.heap.size := hsm.size
      have H1 : Hid (Ch l (i + 1) (k + sz l k) (done ++ [k])) := h1.append (Ch.one g1)
      have H3 : Hid (Ch l (k + sz l k) (i + sz l i) rest') := g3
      have ck := ((HM.out.sm hsm).doc k hk).c5
      rw [size_cast hk g1] at ck
      have z8 : ¬ ((sz l k : Int) < 1) := by omega
      have z9 : ¬ ((i : Int) + (sz l i : Int) - (k : Int) < (sz l k : Int)) := by omega
      have hdl : done.length ≤ 2147483647 := by omega
      clear h1 h2 g3 hsm
      go_wp2_with (at_builtin; refine app1 _ rfl _ _ _ rfl 3 _ 1 8 Tryz.underlying33 infoInt rfl (by omega) (by omega) _ done.length (intC done) rfl hown _ rfl rfl (by simp [Value.oneCell']) (by omega) hz ?_)
      intro g gcap w' hown' hg hat hlt'
      have sm' := HS.out.grown hg (fun b hb => .inl (hown.lt b hb).1)
      have ci' := ((HM.out.sm sm').doc k hk).c5
      have d0' := (HM.out.sm sm').c0
      rw [size_cast hk g1] at ci'
      have ow' : w'.ownsRow w.heap.size 3 1 (.slice (some ⟨g, 0, none⟩) (done.length + 1) gcap) (done ++ [k]).length (intC (done ++ [k])) := by
        rw [intC_append]; simpa [intC] using hown'
      have HS2 : Hid (Sm [] w w') := sm'
      clear hown' hg hat hlt' hown ck d0 sm'
      go_wp2_with fail
      go_roundw
      case rel => (first | refine ⟨_, _, ?_, rfl, rfl⟩ | skip); unfold KidsRel; exact ⟨done ++ [k], rest', k + sz l k, H1.out, H3.out, by go_num, ow', HS2.out⟩
      case measure => simp [intOf]; omega
    · have z4 : ¬ ((k : Int) < (i : Int) + (sz l i : Int)) := by omega
      have hf : Hid (ks = done) := by
        obtain rfl : k = i + sz l i := by omega
        exact HCH.out.uniq h1
      have hi2 := intsAt_own hown
      obtain ⟨a, c, hv, x1, x2, x3⟩ := hi2
      subst hv
      have HI : Hid (IntsAt wr (.slice a done.length c) done) := ⟨a, c, rfl, x1, x2, x3⟩
      have HG : Hid (∀ b o, a = some ⟨b, o, none⟩ → w.heap.size ≤ b) := own_ge hown
      clear h1 h2 x3 hown hsm
      go_wp2_with fail
      go_ret
      exact ⟨a, c, by rw [hf.out]; rfl, by rw [hf.out]; exact HI.out, HS.out, HG.out⟩

end

section
open Go.RowKit
/-- behind 'x, k := m.d[at], m.kids(at)' -/
def XCut (w : World) (ks : List Nat) (n : Nd) (p k : Value) (wx : World) : Prop :=
  ∃ nb a c, p = .pointer (some ⟨nb, 0, none⟩) ∧ k = .slice a ks.length c ∧ IntsAt wx (.slice a ks.length c) ks ∧ wx.heap[nb]? = some (.cells #[.int .i64 n.kind, .string n.name, .string n.alias, .string n.text, .int .i64 n.flag, .int .i64 n.size] 31 (0, 0)) ∧ Sm [] w wx ∧ w.heap.size ≤ nb
theorem xcut_a {w w2 : World} {ks : List Nat} {a : Option Addr} {c : Nat} (hT : Sm [] w w2) (hi : IntsAt w2 (.slice a ks.length c) ks) (x0 x4 x5 : Int) (x1 x2 x3 : ByteArray) :
    XCut w ks ⟨x0, x1, x2, x3, x4, x5⟩ (.pointer (some ⟨w2.heap.size, 0, none⟩)) (.slice a ks.length c) (w2.alloc (.cells #[.int .i64 x0, .string x1, .string x2, .string x3, .int .i64 x4, .int .i64 x5] 31 (0, 0))) :=
  ⟨_, a, c, rfl, rfl, hi.sm0 ((Sm.refl _ _).alloc _), obj_alloc _ _, hT.alloc _, hT.size⟩
theorem xcut_b {w W w2 : World} {ks : List Nat} {a : Option Addr} {c nb : Nat} {z0 z1 z2 z3 z4 z5 : Value} (hT : Sm [] w w2) (hi : IntsAt w2 (.slice a ks.length c) ks) (hz : w2.heap[nb]? = some (.cells #[z0, z1, z2, z3, z4, z5] 31 (0, 0))) (hn : w.heap.size ≤ nb)
    (hb : ∀ b o, a = some ⟨b, o, none⟩ → W.heap.size ≤ b) (hW : nb < W.heap.size) (x0 x4 x5 : Int) (x1 x2 x3 : ByteArray) :
    XCut w ks ⟨x0, x1, x2, x3, x4, x5⟩ (.pointer (some ⟨nb, 0, none⟩)) (.slice a ks.length c) ((((((w2.setCell ⟨nb, 0, none⟩ (.int .i64 x0)).setCell ⟨nb, 1, none⟩ (.string x1)).setCell ⟨nb, 2, none⟩ (.string x2)).setCell ⟨nb, 3, none⟩ (.string x3)).setCell ⟨nb, 4, none⟩ (.int .i64 x4)).setCell ⟨nb, 5, none⟩ (.int .i64 x5)) := by
  have s : ∀ (X : World) (i : Nat) (v : Value), Sm [nb] X (X.setCell ⟨nb, i, none⟩ v) := fun X i v => (Sm.refl _ _).setCell (.inr (by simp)) _
  have ss := ((((((s w2 0 (.int .i64 x0)).trans (s _ 1 (.string x1))).trans (s _ 2 (.string x2))).trans (s _ 3 (.string x3))).trans (s _ 4 (.int .i64 x4))).trans (s _ 5 (.int .i64 x5)))
  refine ⟨nb, a, c, rfl, rfl, hi.sm ss ?_, ?_, ss.forget hT (fun p hp => by simp at hp; subst hp; exact .inr hn), hn⟩
  · intro b o n k e
    simp only [Value.slice.injEq] at e
    have := hb b o e.1
    simp
    omega
  · exact obj_setCell (obj_setCell (obj_setCell (obj_setCell (obj_setCell (obj_setCell hz 0 _) 1 _) 2 _) 3 _) 4 _) 5 _

/-- some interface value -/
def MkI (w : World) (e : Ending) (w' : World) : Prop := ∃ t v, e = .returned (.iface t v) ∧ Sm [] w w'
theorem obj_at {W : World} {o : Obj} {k : Nat} (h : W.heap.size = k) : (W.alloc o).heap[k]? = some o := by subst h; exact obj_alloc _ _
theorem ne_nil {s : ByteArray} (h : s ≠ ByteArray.empty) : ¬ s.toList = [] := fun e => h (Go.WideShapes.bytes_inj (by rw [ByteArray.toList_eq] at e; rw [e]; rfl))

end

end Go.Proofs.YtigpnidffiaigaaGreat
