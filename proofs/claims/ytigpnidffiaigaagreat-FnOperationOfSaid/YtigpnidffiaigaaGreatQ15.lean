/- Walks: the maker: steps. Walks: the maker: values without parts. -/
import Derived.Test.YtigpnidffiaigaaGreatProg
import Derived.BigRegion
import Derived.Deep.RegionHeld3
import Derived.Deep.CutRange
import Derived.Deep.RegionLaw
import Derived.Deep.AppendLies
import Derived.Test.YtigpnidffiaigaaGreatQ14
set_option linter.unusedVariables false
set_option linter.unusedSimpArgs false
namespace Go.Proofs.YtigpnidffiaigaaGreat

section
open Go.RowKit

def PtrGo (W : World) (e : Ending) (w' : World) : Prop := ∃ q : Nat, e = .returned (.pointer (some ⟨q, 0, none⟩)) ∧ Sm [] W w'
theorem inPlace_go {W w' : World} {o : Obj} {k : Nat} {e : Ending} (h : InPlace k (W.alloc o) e w') (hk : W.heap.size = k) : PtrGo W e w' := by
  obtain ⟨h1, s, rfl⟩ := h
  exact ⟨k, h1, ((Sm.refl _ _).alloc _).setCell (.inl (by simp [hk])) _⟩
theorem copied_go {W w' : World} {o : Obj} {T : TypeId} {rest : List Value} {e : Ending} (h : Copied T rest (W.alloc o) e w') : PtrGo W e w' := by
  obtain ⟨s, h1, rfl⟩ := h
  exact ⟨_, h1, (((Sm.refl _ _).alloc _).drew).alloc _⟩
theorem obj_drew {W : World} {o : Obj} {k : Nat} (h : W.heap[k]? = some o) : W.drew.heap[k]? = some o := h
theorem sm_allc (w : World) (o : Obj) : Sm [] w (w.alloc o) := (Sm.refl _ _).alloc o
theorem own_sm {w w' : World} {base size n : Nat} {e : TypeId} {v : Value} {xs : List Value} (h : w.ownsRow base e size v n xs) (hs : Sm [] w w') : w'.ownsRow base e size v n xs :=
  h.kept (row := none) ⟨hs.os, hs.tape, hs.output, hs.size, fun k hk _ => hs.block k hk (by simp)⟩ (by cases h : v.ownBlock with | none => exact .inl rfl | some b => exact .inr (by simp))
theorem own_empty (W : World) (T : TypeId) (base k : Nat) (hb : base ≤ W.heap.size) (hk : W.heap.size = k) : (W.alloc (.cells #[] T (0, 0))).ownsRow base T 1 (.slice (some ⟨k, 0, none⟩) 0 0) 0 [] := by
  subst hk
  exact ⟨rfl, .inr ⟨_, 0, #[], rfl, hb, obj_alloc _ _, Nat.le_refl _, Nat.zero_le _, rfl, rfl⟩⟩
theorem own_slice {w : World} {base n : Nat} {e : TypeId} {v : Value} {xs : List Value} (h : w.ownsRow base e 1 v n xs) : ∃ a c, v = .slice a n c := by
  rcases h.2 with ⟨rfl, h0⟩ | ⟨g, cap, cur, rfl, _⟩
  · exact ⟨none, 0, by rw [h0]⟩
  · exact ⟨_, _, rfl⟩
/-- some slice -/
def MkSl (w : World) (e : Ending) (w' : World) : Prop := ∃ a n c, e = .returned (.slice a n c) ∧ Sm [] w w'
/-- the rounds over some places: what was collected -/
def Coll (w : World) (T : TypeId) (N : Nat) (v u : Value) (wr : World) : Prop := ∃ (j : Nat) (xs : List Value), j ≤ N ∧ u = .int .i64 (j : Int) ∧ wr.ownsRow w.heap.size T 1 v xs.length xs ∧ xs.length ≤ j ∧ Sm [] w wr
theorem coll_start (w : World) (T : TypeId) (N : Nat) : Coll w T N (.slice (some ⟨w.heap.size, 0, none⟩) 0 0) (.int .i64 0) (w.alloc (.cells #[] T (0, 0))) :=
  ⟨0, [], Nat.zero_le _, rfl, own_empty w T _ _ (Nat.le_refl _) rfl, Nat.le_refl _, (Sm.refl _ _).alloc _⟩
theorem coll_next {w wr W w' : World} {T : TypeId} {N j g cap : Nat} {v u z : Value} {xs : List Value} (hj : j < N) (hu : u = .int .i64 ((j : Int) + 1)) (hx : xs.length ≤ j) (ht : Sm [] w W) (hown : W.ownsRow w.heap.size T 1 v xs.length xs)
    (hg : W.grownBy w' v.ownBlock) (h : w'.ownsRow w.heap.size T 1 (.slice (some ⟨g, 0, none⟩) (xs.length + 1) cap) (xs.length + 1) (xs ++ [z])) : Coll w T N (.slice (some ⟨g, 0, none⟩) (xs.length + 1) cap) u w' :=
  ⟨j + 1, xs ++ [z], hj, by rw [hu]; push_cast; rfl, by simpa using h, by simp; omega, ht.grown hg (fun b hb => .inl (hown.lt b hb).1)⟩
theorem coll_same {w wr W : World} {T : TypeId} {N j : Nat} {v u : Value} {xs : List Value} (hj : j < N) (hu : u = .int .i64 ((j : Int) + 1)) (hx : xs.length ≤ j) (ht : Sm [] w W) (hown : W.ownsRow w.heap.size T 1 v xs.length xs) : Coll w T N v u W :=
  ⟨j + 1, xs, hj, by rw [hu]; push_cast; rfl, hown, by omega, ht⟩

end

section
open Go.RowKit
attribute [local go_sem ↓] Go.wp_at_zero Go.wp_at_succ

set_option maxRecDepth 100000 in
set_option maxHeartbeats 2000000 in
theorem value_var (l : List Nd) (mb b o cap i : Nat) (w : World) (hm : MAt w mb b o cap l) (hd : Doc l) (hi : i < l.length) (hk : kd l i = 11) :
    Calls Tryz.prog 66 #[.pointer (some ⟨mb, 0, none⟩), .int .i64 (i : Int)] w (MkI w) := by
  have hnm : nm l i ≠ ByteArray.empty := (hd.frm i hi).name (by omega)
  have c0 := hm.c0
  obtain ⟨n0, n1, n2, n3, n4, n5⟩ := hm.doc i hi
  rw [← kd_at hi, hk] at n0
  rw [← nm_at hi] at n1
  rw [← tx_at hi] at n3
  obtain ⟨x1, hx1⟩ : ∃ x, x = nm l i := ⟨_, rfl⟩
  obtain ⟨x3, hx3⟩ : ∃ x, x = tx l i := ⟨_, rfl⟩
  rw [← hx1] at n1
  rw [← hx3] at n3
  generalize l[i].alias = x2 at *
  generalize l[i].flag = x4 at *
  generalize l[i].size = x5 at *
  have HX1 : Hid (x1 = nm l i) := hx1
  have HX3 : Hid (x3 = tx l i) := hx3
  have HK : Hid (∀ W, MAt W mb b o cap l → Calls Tryz.prog 20 #[.pointer (some ⟨mb, 0, none⟩), .int .i64 (i : Int)] W (KidsPost (kids l i) W)) := fun W h => mkids_any l mb b o cap i W h hd.tree hi
  obtain ⟨ks, hks⟩ : ∃ ks, ks = kids l i := ⟨_, rfl⟩
  rw [← hks] at HK
  have HKS : Hid (ks = kids l i) := hks
  have HSZ : Hid (1 ≤ sz l i ∧ i + sz l i ≤ l.length) := ⟨hd.tree.sz_pos hi, hd.tree.sz_le hi⟩
  have hn : l.length ≤ 2147483647 := by have := hd.tree.most; omega
  have z1 : (0 : Int) ≤ (i : Int) := by omega
  have z2 : (i : Int) < (l.length : Int) := by omega
  have HM : Hid (MAt w mb b o cap l) := hm
  have HD : Hid (Doc l) := hd
  have HKD : Hid (kd l i = 11) := hk
  have hne0 := World.new_ne _ _ c0
  have hne1 := World.new_ne _ _ n0
  clear hk hm hd hx1 hx3 hks
  go_enter Tryz.func66, Tryz.ntmps66
  go_upto_region 1 with fail
  go_cut [5, 6] from 10 to 19 (fun p k wx => XCut w ks ⟨11, x1, x2, x3, x4, x5⟩ p k wx)
  case first =>
    go_region_held3 (fun W => W.cell? ⟨mb, 0, none⟩ = some (.slice (some ⟨b, o, none⟩) l.length cap) ∧ W.cell? ⟨b, o + i * 6, none⟩ = some (.int .i64 11) ∧ W.cell? ⟨b, o + i * 6 + 1, none⟩ = some (.string x1) ∧ W.cell? ⟨b, o + i * 6 + 2, none⟩ = some (.string x2) ∧ W.cell? ⟨b, o + i * 6 + 3, none⟩ = some (.string x3) ∧ W.cell? ⟨b, o + i * 6 + 4, none⟩ = some (.int .i64 x4) ∧ W.cell? ⟨b, o + i * 6 + 5, none⟩ = some (.int .i64 x5)) (go_keep)
      (first
        | (go_at_call 20; refine (HK.out _ ?_).mono ?_; refine HM.out.sm ?_; (repeat (first | exact Sm.refl _ _ | refine Sm.alloc ?_ _ | refine Sm.drew ?_ | refine Sm.drewN ?_ _)); rintro e w2 ⟨a, kc, rfl, hints, hs2, hge⟩; have hT : Sm [] w w2 := (by refine Sm.trans ?_ hs2; (repeat (first | exact Sm.refl _ _ | refine Sm.alloc ?_ _ | refine Sm.drew ?_ | refine Sm.drewN ?_ _))); have g0 := hT.keeps c0 (by simp); have g1 := hT.keeps n0 (by simp); have g2 := hT.keeps n1 (by simp); have g3 := hT.keeps n2 (by simp); have g4 := hT.keeps n3 (by simp); have g5 := hT.keeps n4 (by simp); have g6 := hT.keeps n5 (by simp); have hz := hs2.obj (obj_alloc _ _) (by simp); have q0 := cell_of hz (i := 0) rfl; have q1 := cell_of hz (i := 1) rfl; have q2 := cell_of hz (i := 2) rfl; have q3 := cell_of hz (i := 3) rfl; have q4 := cell_of hz (i := 4) rfl; have q5 := cell_of hz (i := 5) rfl; have r0 := free_of hz 0; have r1 := free_of hz 1; have r2 := free_of hz 2; have r3 := free_of hz 3; have r4 := free_of hz 4; have r5 := free_of hz 5)
        | (go_at_call 20; refine (HK.out _ ?_).mono ?_; refine HM.out.sm ?_; (repeat (first | exact Sm.refl _ _ | refine Sm.alloc ?_ _ | refine Sm.drew ?_ | refine Sm.drewN ?_ _)); rintro e w2 ⟨a, kc, rfl, hints, hs2, hge⟩; have hT : Sm [] w w2 := (by refine Sm.trans ?_ hs2; (repeat (first | exact Sm.refl _ _ | refine Sm.alloc ?_ _ | refine Sm.drew ?_ | refine Sm.drewN ?_ _))); have g0 := hT.keeps c0 (by simp); have g1 := hT.keeps n0 (by simp); have g2 := hT.keeps n1 (by simp); have g3 := hT.keeps n2 (by simp); have g4 := hT.keeps n3 (by simp); have g5 := hT.keeps n4 (by simp); have g6 := hT.keeps n5 (by simp)))
    all_goals
      go_wp2_with fail
      go_meet
      first
      | exact xcut_a hT hints _ _ _ _ _ _
      | exact xcut_b hT hints hz (Nat.le_refl _) hge (by simp) _ _ _ _ _ _
  case rest =>
    obtain ⟨nb, a, kc, rfl, rfl, hints, hN, hT, hnb⟩ := hcut
    have HM1 : Hid (MAt wc mb b o cap l) := HM.out.sm hT
    have HT : Hid (Sm [] w wc) := hT
    have HI : Hid (IntsAt wc (.slice a ks.length kc) ks) := hints
    have HN : Hid (wc.heap[nb]? = some (.cells #[.int .i64 11, .string x1, .string x2, .string x3, .int .i64 x4, .int .i64 x5] 31 (0, 0))) := hN
    have p0 : wc.cell? ⟨nb, 0, none⟩ = some (.int .i64 11) := cell_of hN rfl
    have p1 : wc.cell? ⟨nb, 1, none⟩ = some (.string x1) := cell_of hN rfl
    have p3 : wc.cell? ⟨nb, 3, none⟩ = some (.string x3) := cell_of hN rfl
    have p4 : wc.cell? ⟨nb, 4, none⟩ = some (.int .i64 x4) := cell_of hN rfl
    have d2 := HM1.out.c2
    clear hints hN hT c0 n0 n1 n2 n3 n4 n5
    have HNM : Hid (nm l i ≠ ByteArray.empty) := hnm
    clear hnm
    go_wp2_with fail
    refine (called_any l mb b o cap i _ HM1.out hi HNM.out).mono ?_
    rintro e w2 ⟨q, rfl, _, hs2⟩
    have HM2 : Hid (MAt w2 mb b o cap l) := HM1.out.sm hs2
    have HT2 : Hid (Sm [] w w2) := HT.out.trans hs2
    clear hs2
    go_wp2_with fail
    refine (loc_any l mb b o cap i _ HM2.out hi hn HSZ.out.1 HSZ.out.2).mono ?_
    rintro e w3 ⟨rfl, rfl⟩
    go_wp2_with fail
    refine (newVariable_any _ _ _ _ (obj_at (by simp)) rfl).mono ?_
    intro e w4 h4
    obtain ⟨q4, rfl, hs4⟩ := inPlace_go h4 (by simp)
    have HT4 : Hid (Sm [] w w4) := (HT2.out.alloc _).trans hs4
    clear h4 hs4
    go_wp2_with fail
    go_ret
    exact ⟨_, _, rfl, HT4.out⟩

set_option maxRecDepth 100000 in
set_option maxHeartbeats 2000000 in
theorem value_int (l : List Nd) (mb b o cap i : Nat) (w : World) (hm : MAt w mb b o cap l) (hd : Doc l) (hi : i < l.length) (hk : kd l i = 12) :
    Calls Tryz.prog 66 #[.pointer (some ⟨mb, 0, none⟩), .int .i64 (i : Int)] w (MkI w) := by
  have c0 := hm.c0
  obtain ⟨n0, n1, n2, n3, n4, n5⟩ := hm.doc i hi
  rw [← kd_at hi, hk] at n0
  rw [← nm_at hi] at n1
  rw [← tx_at hi] at n3
  obtain ⟨x1, hx1⟩ : ∃ x, x = nm l i := ⟨_, rfl⟩
  obtain ⟨x3, hx3⟩ : ∃ x, x = tx l i := ⟨_, rfl⟩
  rw [← hx1] at n1
  rw [← hx3] at n3
  generalize l[i].alias = x2 at *
  generalize l[i].flag = x4 at *
  generalize l[i].size = x5 at *
  have HX1 : Hid (x1 = nm l i) := hx1
  have HX3 : Hid (x3 = tx l i) := hx3
  have HK : Hid (∀ W, MAt W mb b o cap l → Calls Tryz.prog 20 #[.pointer (some ⟨mb, 0, none⟩), .int .i64 (i : Int)] W (KidsPost (kids l i) W)) := fun W h => mkids_any l mb b o cap i W h hd.tree hi
  obtain ⟨ks, hks⟩ : ∃ ks, ks = kids l i := ⟨_, rfl⟩
  rw [← hks] at HK
  have HKS : Hid (ks = kids l i) := hks
  have HSZ : Hid (1 ≤ sz l i ∧ i + sz l i ≤ l.length) := ⟨hd.tree.sz_pos hi, hd.tree.sz_le hi⟩
  have hn : l.length ≤ 2147483647 := by have := hd.tree.most; omega
  have z1 : (0 : Int) ≤ (i : Int) := by omega
  have z2 : (i : Int) < (l.length : Int) := by omega
  have HM : Hid (MAt w mb b o cap l) := hm
  have HD : Hid (Doc l) := hd
  have HKD : Hid (kd l i = 12) := hk
  have hne0 := World.new_ne _ _ c0
  have hne1 := World.new_ne _ _ n0
  clear hk hm hd hx1 hx3 hks
  go_enter Tryz.func66, Tryz.ntmps66
  go_upto_region 1 with fail
  go_cut [5, 6] from 10 to 19 (fun p k wx => XCut w ks ⟨12, x1, x2, x3, x4, x5⟩ p k wx)
  case first =>
    go_region_held3 (fun W => W.cell? ⟨mb, 0, none⟩ = some (.slice (some ⟨b, o, none⟩) l.length cap) ∧ W.cell? ⟨b, o + i * 6, none⟩ = some (.int .i64 12) ∧ W.cell? ⟨b, o + i * 6 + 1, none⟩ = some (.string x1) ∧ W.cell? ⟨b, o + i * 6 + 2, none⟩ = some (.string x2) ∧ W.cell? ⟨b, o + i * 6 + 3, none⟩ = some (.string x3) ∧ W.cell? ⟨b, o + i * 6 + 4, none⟩ = some (.int .i64 x4) ∧ W.cell? ⟨b, o + i * 6 + 5, none⟩ = some (.int .i64 x5)) (go_keep)
      (first
        | (go_at_call 20; refine (HK.out _ ?_).mono ?_; refine HM.out.sm ?_; (repeat (first | exact Sm.refl _ _ | refine Sm.alloc ?_ _ | refine Sm.drew ?_ | refine Sm.drewN ?_ _)); rintro e w2 ⟨a, kc, rfl, hints, hs2, hge⟩; have hT : Sm [] w w2 := (by refine Sm.trans ?_ hs2; (repeat (first | exact Sm.refl _ _ | refine Sm.alloc ?_ _ | refine Sm.drew ?_ | refine Sm.drewN ?_ _))); have g0 := hT.keeps c0 (by simp); have g1 := hT.keeps n0 (by simp); have g2 := hT.keeps n1 (by simp); have g3 := hT.keeps n2 (by simp); have g4 := hT.keeps n3 (by simp); have g5 := hT.keeps n4 (by simp); have g6 := hT.keeps n5 (by simp); have hz := hs2.obj (obj_alloc _ _) (by simp); have q0 := cell_of hz (i := 0) rfl; have q1 := cell_of hz (i := 1) rfl; have q2 := cell_of hz (i := 2) rfl; have q3 := cell_of hz (i := 3) rfl; have q4 := cell_of hz (i := 4) rfl; have q5 := cell_of hz (i := 5) rfl; have r0 := free_of hz 0; have r1 := free_of hz 1; have r2 := free_of hz 2; have r3 := free_of hz 3; have r4 := free_of hz 4; have r5 := free_of hz 5)
        | (go_at_call 20; refine (HK.out _ ?_).mono ?_; refine HM.out.sm ?_; (repeat (first | exact Sm.refl _ _ | refine Sm.alloc ?_ _ | refine Sm.drew ?_ | refine Sm.drewN ?_ _)); rintro e w2 ⟨a, kc, rfl, hints, hs2, hge⟩; have hT : Sm [] w w2 := (by refine Sm.trans ?_ hs2; (repeat (first | exact Sm.refl _ _ | refine Sm.alloc ?_ _ | refine Sm.drew ?_ | refine Sm.drewN ?_ _))); have g0 := hT.keeps c0 (by simp); have g1 := hT.keeps n0 (by simp); have g2 := hT.keeps n1 (by simp); have g3 := hT.keeps n2 (by simp); have g4 := hT.keeps n3 (by simp); have g5 := hT.keeps n4 (by simp); have g6 := hT.keeps n5 (by simp)))
    all_goals
      go_wp2_with fail
      go_meet
      first
      | exact xcut_a hT hints _ _ _ _ _ _
      | exact xcut_b hT hints hz (Nat.le_refl _) hge (by simp) _ _ _ _ _ _
  case rest =>
    obtain ⟨nb, a, kc, rfl, rfl, hints, hN, hT, hnb⟩ := hcut
    have HM1 : Hid (MAt wc mb b o cap l) := HM.out.sm hT
    have HT : Hid (Sm [] w wc) := hT
    have HI : Hid (IntsAt wc (.slice a ks.length kc) ks) := hints
    have HN : Hid (wc.heap[nb]? = some (.cells #[.int .i64 12, .string x1, .string x2, .string x3, .int .i64 x4, .int .i64 x5] 31 (0, 0))) := hN
    have p0 : wc.cell? ⟨nb, 0, none⟩ = some (.int .i64 12) := cell_of hN rfl
    have p1 : wc.cell? ⟨nb, 1, none⟩ = some (.string x1) := cell_of hN rfl
    have p3 : wc.cell? ⟨nb, 3, none⟩ = some (.string x3) := cell_of hN rfl
    have p4 : wc.cell? ⟨nb, 4, none⟩ = some (.int .i64 x4) := cell_of hN rfl
    have d2 := HM1.out.c2
    clear hints hN hT c0 n0 n1 n2 n3 n4 n5
    have hnbn := World.new_ne _ _ p3
    go_upto_region 8 with fail
    have hpl := fun o => (sm_allc wc o).keeps p3 (by simp)
    go_region_law (first
        | (go_simp; go_at_call 23; refine (loc_any l mb b o cap i _ ?_ hi hn HSZ.out.1 HSZ.out.2).mono ?_; refine HM1.out.sm ?_; (repeat (first | exact Sm.refl _ _ | refine Sm.alloc ?_ _ | refine Sm.drew ?_ | refine Sm.drewN ?_ _)); rintro e w3 ⟨rfl, rfl⟩)
        | (go_simp; go_at_call 102; (first | refine (newIntValue_any _ _ _ _ _ (obj_drew (obj_at ?_))).mono ?_ | refine (newIntValue_any _ _ _ _ _ (obj_at ?_)).mono ?_); simp; rintro e w4 ⟨k4, rfl, rfl⟩))
    all_goals
      go_wp2_with fail
      go_ret
      refine ⟨_, _, rfl, ?_⟩
      (repeat (first | exact HT.out | exact Sm.refl _ _ | refine Sm.alloc ?_ _ | refine Sm.drew ?_ | refine Sm.drewN ?_ _))

end

end Go.Proofs.YtigpnidffiaigaaGreat
