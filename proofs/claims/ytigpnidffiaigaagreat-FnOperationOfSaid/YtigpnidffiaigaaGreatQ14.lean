/- Walks: the maker: types. -/
import Derived.Test.YtigpnidffiaigaaGreatProg
import Derived.BigRegion
import Derived.Deep.RegionHeld3
import Derived.Deep.CutRange
import Derived.Deep.RegionLaw
import Derived.Deep.AppendLies
import Derived.Test.YtigpnidffiaigaaGreatQ13
set_option linter.unusedVariables false
set_option linter.unusedSimpArgs false
namespace Go.Proofs.YtigpnidffiaigaaGreat

section
open Go.RowKit
attribute [local go_sem ↓] Go.wp_at_zero Go.wp_at_succ

theorem ints_hd {w : World} {v : Value} {k : Nat} {ks : List Nat} (h : IntsAt w v (k :: ks)) : ∃ b o cap, v = .slice (some ⟨b, o, none⟩) (ks.length + 1) cap ∧ ks.length + 1 ≤ cap ∧ cap ≤ maxLen ∧ b < w.heap.size ∧ w.cell? ⟨b, o, none⟩ = some (.int .i64 (k : Int)) := by
  obtain ⟨a, cap, rfl, h1, h2, h3⟩ := h
  obtain ⟨b, o, rfl, hb, hc⟩ := h3 0 (by simp)
  exact ⟨b, o, cap, rfl, by simpa using h1, h2, hb, by simpa using hc⟩

set_option maxRecDepth 100000 in
set_option maxHeartbeats 2000000 in
theorem typ_named (l : List Nd) (mb b o cap i : Nat) (w : World) (hm : MAt w mb b o cap l) (hd : Doc l) (hi : i < l.length) (hk : kd l i = 20) :
    Calls Tryz.prog 65 #[.pointer (some ⟨mb, 0, none⟩), .int .i64 (i : Int)] w (MkI w) := by
  have hnm : nm l i ≠ ByteArray.empty := (hd.frm i hi).name (by omega)
  have c0 := hm.c0
  obtain ⟨n0, n1, n2, n3, n4, n5⟩ := hm.doc i hi
  rw [← kd_at hi, hk] at n0
  rw [← nm_at hi] at n1
  rw [← tx_at hi] at n3
  obtain ⟨x1, hx1⟩ : ∃ x, x = nm l i := ⟨_, rfl⟩
  obtain ⟨x3, hx3⟩ : ∃ x, x = tx l i := ⟨_, rfl⟩
  rw [← hx1] at n1
  rw [← hx3] at n3
  generalize l[i].alias = x2 at *
  generalize l[i].flag = x4 at *
  generalize l[i].size = x5 at *
  have HX1 : Hid (x1 = nm l i) := hx1
  have HX3 : Hid (x3 = tx l i) := hx3
  have HK : Hid (∀ W, MAt W mb b o cap l → Calls Tryz.prog 20 #[.pointer (some ⟨mb, 0, none⟩), .int .i64 (i : Int)] W (KidsPost (kids l i) W)) := fun W h => mkids_any l mb b o cap i W h hd.tree hi
  obtain ⟨ks, hks⟩ : ∃ ks, ks = kids l i := ⟨_, rfl⟩
  rw [← hks] at HK
  have HKS : Hid (ks = kids l i) := hks
  have HSZ : Hid (1 ≤ sz l i ∧ i + sz l i ≤ l.length) := ⟨hd.tree.sz_pos hi, hd.tree.sz_le hi⟩
  have hn : l.length ≤ 2147483647 := by have := hd.tree.most; omega
  have z1 : (0 : Int) ≤ (i : Int) := by omega
  have z2 : (i : Int) < (l.length : Int) := by omega
  have HM : Hid (MAt w mb b o cap l) := hm
  have HD : Hid (Doc l) := hd
  have HKD : Hid (kd l i = 20) := hk
  have hne0 := World.new_ne _ _ c0
  have hne1 := World.new_ne _ _ n0
  clear hk hm hd hx1 hx3 hks
  go_enter Tryz.func65, Tryz.ntmps65
  go_upto_region 1 with fail
  go_cut [5, 6] from 7 to 16 (fun p k wx => XCut w ks ⟨20, x1, x2, x3, x4, x5⟩ p k wx)
  case first =>
    go_region_held3 (fun W => W.cell? ⟨mb, 0, none⟩ = some (.slice (some ⟨b, o, none⟩) l.length cap) ∧ W.cell? ⟨b, o + i * 6, none⟩ = some (.int .i64 20) ∧ W.cell? ⟨b, o + i * 6 + 1, none⟩ = some (.string x1) ∧ W.cell? ⟨b, o + i * 6 + 2, none⟩ = some (.string x2) ∧ W.cell? ⟨b, o + i * 6 + 3, none⟩ = some (.string x3) ∧ W.cell? ⟨b, o + i * 6 + 4, none⟩ = some (.int .i64 x4) ∧ W.cell? ⟨b, o + i * 6 + 5, none⟩ = some (.int .i64 x5)) (go_keep)
      (first
        | (go_at_call 20; refine (HK.out _ ?_).mono ?_; refine HM.out.sm ?_; (repeat (first | exact Sm.refl _ _ | refine Sm.alloc ?_ _ | refine Sm.drew ?_ | refine Sm.drewN ?_ _)); rintro e w2 ⟨a, kc, rfl, hints, hs2, hge⟩; have hT : Sm [] w w2 := (by refine Sm.trans ?_ hs2; (repeat (first | exact Sm.refl _ _ | refine Sm.alloc ?_ _ | refine Sm.drew ?_ | refine Sm.drewN ?_ _))); have g0 := hT.keeps c0 (by simp); have g1 := hT.keeps n0 (by simp); have g2 := hT.keeps n1 (by simp); have g3 := hT.keeps n2 (by simp); have g4 := hT.keeps n3 (by simp); have g5 := hT.keeps n4 (by simp); have g6 := hT.keeps n5 (by simp); have hz := hs2.obj (obj_alloc _ _) (by simp); have q0 := cell_of hz (i := 0) rfl; have q1 := cell_of hz (i := 1) rfl; have q2 := cell_of hz (i := 2) rfl; have q3 := cell_of hz (i := 3) rfl; have q4 := cell_of hz (i := 4) rfl; have q5 := cell_of hz (i := 5) rfl; have r0 := free_of hz 0; have r1 := free_of hz 1; have r2 := free_of hz 2; have r3 := free_of hz 3; have r4 := free_of hz 4; have r5 := free_of hz 5)
        | (go_at_call 20; refine (HK.out _ ?_).mono ?_; refine HM.out.sm ?_; (repeat (first | exact Sm.refl _ _ | refine Sm.alloc ?_ _ | refine Sm.drew ?_ | refine Sm.drewN ?_ _)); rintro e w2 ⟨a, kc, rfl, hints, hs2, hge⟩; have hT : Sm [] w w2 := (by refine Sm.trans ?_ hs2; (repeat (first | exact Sm.refl _ _ | refine Sm.alloc ?_ _ | refine Sm.drew ?_ | refine Sm.drewN ?_ _))); have g0 := hT.keeps c0 (by simp); have g1 := hT.keeps n0 (by simp); have g2 := hT.keeps n1 (by simp); have g3 := hT.keeps n2 (by simp); have g4 := hT.keeps n3 (by simp); have g5 := hT.keeps n4 (by simp); have g6 := hT.keeps n5 (by simp)))
    all_goals
      go_wp2_with fail
      go_meet
      first
      | exact xcut_a hT hints _ _ _ _ _ _
      | exact xcut_b hT hints hz (Nat.le_refl _) hge (by simp) _ _ _ _ _ _
  case rest =>
    obtain ⟨nb, a, kc, rfl, rfl, hints, hN, hT, hnb⟩ := hcut
    have HM1 : Hid (MAt wc mb b o cap l) := HM.out.sm hT
    have HT : Hid (Sm [] w wc) := hT
    have HI : Hid (IntsAt wc (.slice a ks.length kc) ks) := hints
    have HN : Hid (wc.heap[nb]? = some (.cells #[.int .i64 20, .string x1, .string x2, .string x3, .int .i64 x4, .int .i64 x5] 31 (0, 0))) := hN
    have p0 : wc.cell? ⟨nb, 0, none⟩ = some (.int .i64 20) := cell_of hN rfl
    have p1 : wc.cell? ⟨nb, 1, none⟩ = some (.string x1) := cell_of hN rfl
    have p3 : wc.cell? ⟨nb, 3, none⟩ = some (.string x3) := cell_of hN rfl
    have p4 : wc.cell? ⟨nb, 4, none⟩ = some (.int .i64 x4) := cell_of hN rfl
    have d2 := HM1.out.c2
    clear hints hN hT c0 n0 n1 n2 n3 n4 n5
    have e0 : ¬ x1.toList = [] := ne_nil (by rw [HX1.out]; exact hnm)
    have e1 : x1.toList.isEmpty = false := by simpa using e0
    clear hnm
    go_wp2_with fail
    refine (name_any x1 _).mono ?_
    rintro e w2 ⟨q, rfl, _, _, _, hs2⟩
    have HM2 : Hid (MAt w2 mb b o cap l) := HM1.out.sm hs2
    have HT2 : Hid (Sm [] w w2) := HT.out.trans hs2
    clear hs2
    go_wp2_with fail
    refine (loc_any l mb b o cap i _ HM2.out hi hn HSZ.out.1 HSZ.out.2).mono ?_
    rintro e w3 ⟨rfl, rfl⟩
    go_wp2_with fail
    refine (newNamed_any _ _ _ _ (obj_at (by simp)) rfl).mono ?_
    rintro e w4 ⟨rfl, k4, rfl⟩
    go_wp2_with fail
    go_ret
    exact ⟨_, _, rfl, (HT2.out.alloc _).alloc _⟩

set_option maxRecDepth 100000 in
set_option maxHeartbeats 2000000 in
theorem typ_list (l : List Nd) (mb b o cap i : Nat) (w : World) (hm : MAt w mb b o cap l) (hd : Doc l) (hi : i < l.length) (hk : kd l i = 21) (a1 : Nat) (ha : kids l i = [a1]) (ih : ∀ W, MAt W mb b o cap l → Calls Tryz.prog 65 #[.pointer (some ⟨mb, 0, none⟩), .int .i64 (a1 : Int)] W (MkI W)) :
    Calls Tryz.prog 65 #[.pointer (some ⟨mb, 0, none⟩), .int .i64 (i : Int)] w (MkI w) := by
  have IH : Hid (∀ W, MAt W mb b o cap l → Calls Tryz.prog 65 #[.pointer (some ⟨mb, 0, none⟩), .int .i64 (a1 : Int)] W (MkI W)) := ih
  have HA : Hid (kids l i = [a1]) := ha
  clear ih ha
  have c0 := hm.c0
  obtain ⟨n0, n1, n2, n3, n4, n5⟩ := hm.doc i hi
  rw [← kd_at hi, hk] at n0
  rw [← nm_at hi] at n1
  rw [← tx_at hi] at n3
  obtain ⟨x1, hx1⟩ : ∃ x, x = nm l i := ⟨_, rfl⟩
  obtain ⟨x3, hx3⟩ : ∃ x, x = tx l i := ⟨_, rfl⟩
  rw [← hx1] at n1
  rw [← hx3] at n3
  generalize l[i].alias = x2 at *
  generalize l[i].flag = x4 at *
  generalize l[i].size = x5 at *
  have HX1 : Hid (x1 = nm l i) := hx1
  have HX3 : Hid (x3 = tx l i) := hx3
  have HK : Hid (∀ W, MAt W mb b o cap l → Calls Tryz.prog 20 #[.pointer (some ⟨mb, 0, none⟩), .int .i64 (i : Int)] W (KidsPost (kids l i) W)) := fun W h => mkids_any l mb b o cap i W h hd.tree hi
  obtain ⟨ks, hks⟩ : ∃ ks, ks = kids l i := ⟨_, rfl⟩
  rw [← hks] at HK
  have HKS : Hid (ks = kids l i) := hks
  have HSZ : Hid (1 ≤ sz l i ∧ i + sz l i ≤ l.length) := ⟨hd.tree.sz_pos hi, hd.tree.sz_le hi⟩
  have hn : l.length ≤ 2147483647 := by have := hd.tree.most; omega
  have z1 : (0 : Int) ≤ (i : Int) := by omega
  have z2 : (i : Int) < (l.length : Int) := by omega
  have HM : Hid (MAt w mb b o cap l) := hm
  have HD : Hid (Doc l) := hd
  have HKD : Hid (kd l i = 21) := hk
  have hne0 := World.new_ne _ _ c0
  have hne1 := World.new_ne _ _ n0
  clear hk hm hd hx1 hx3 hks
  go_enter Tryz.func65, Tryz.ntmps65
  go_upto_region 1 with fail
  go_cut [5, 6] from 7 to 16 (fun p k wx => XCut w ks ⟨21, x1, x2, x3, x4, x5⟩ p k wx)
  case first =>
    go_region_held3 (fun W => W.cell? ⟨mb, 0, none⟩ = some (.slice (some ⟨b, o, none⟩) l.length cap) ∧ W.cell? ⟨b, o + i * 6, none⟩ = some (.int .i64 21) ∧ W.cell? ⟨b, o + i * 6 + 1, none⟩ = some (.string x1) ∧ W.cell? ⟨b, o + i * 6 + 2, none⟩ = some (.string x2) ∧ W.cell? ⟨b, o + i * 6 + 3, none⟩ = some (.string x3) ∧ W.cell? ⟨b, o + i * 6 + 4, none⟩ = some (.int .i64 x4) ∧ W.cell? ⟨b, o + i * 6 + 5, none⟩ = some (.int .i64 x5)) (go_keep)
      (first
        | (go_at_call 20; refine (HK.out _ ?_).mono ?_; refine HM.out.sm ?_; (repeat (first | exact Sm.refl _ _ | refine Sm.alloc ?_ _ | refine Sm.drew ?_ | refine Sm.drewN ?_ _)); rintro e w2 ⟨a, kc, rfl, hints, hs2, hge⟩; have hT : Sm [] w w2 := (by refine Sm.trans ?_ hs2; (repeat (first | exact Sm.refl _ _ | refine Sm.alloc ?_ _ | refine Sm.drew ?_ | refine Sm.drewN ?_ _))); have g0 := hT.keeps c0 (by simp); have g1 := hT.keeps n0 (by simp); have g2 := hT.keeps n1 (by simp); have g3 := hT.keeps n2 (by simp); have g4 := hT.keeps n3 (by simp); have g5 := hT.keeps n4 (by simp); have g6 := hT.keeps n5 (by simp); have hz := hs2.obj (obj_alloc _ _) (by simp); have q0 := cell_of hz (i := 0) rfl; have q1 := cell_of hz (i := 1) rfl; have q2 := cell_of hz (i := 2) rfl; have q3 := cell_of hz (i := 3) rfl; have q4 := cell_of hz (i := 4) rfl; have q5 := cell_of hz (i := 5) rfl; have r0 := free_of hz 0; have r1 := free_of hz 1; have r2 := free_of hz 2; have r3 := free_of hz 3; have r4 := free_of hz 4; have r5 := free_of hz 5)
        | (go_at_call 20; refine (HK.out _ ?_).mono ?_; refine HM.out.sm ?_; (repeat (first | exact Sm.refl _ _ | refine Sm.alloc ?_ _ | refine Sm.drew ?_ | refine Sm.drewN ?_ _)); rintro e w2 ⟨a, kc, rfl, hints, hs2, hge⟩; have hT : Sm [] w w2 := (by refine Sm.trans ?_ hs2; (repeat (first | exact Sm.refl _ _ | refine Sm.alloc ?_ _ | refine Sm.drew ?_ | refine Sm.drewN ?_ _))); have g0 := hT.keeps c0 (by simp); have g1 := hT.keeps n0 (by simp); have g2 := hT.keeps n1 (by simp); have g3 := hT.keeps n2 (by simp); have g4 := hT.keeps n3 (by simp); have g5 := hT.keeps n4 (by simp); have g6 := hT.keeps n5 (by simp)))
    all_goals
      go_wp2_with fail
      go_meet
      first
      | exact xcut_a hT hints _ _ _ _ _ _
      | exact xcut_b hT hints hz (Nat.le_refl _) hge (by simp) _ _ _ _ _ _
  case rest =>
    obtain ⟨nb, a, kc, rfl, rfl, hints, hN, hT, hnb⟩ := hcut
    have HM1 : Hid (MAt wc mb b o cap l) := HM.out.sm hT
    have HT : Hid (Sm [] w wc) := hT
    have HI : Hid (IntsAt wc (.slice a ks.length kc) ks) := hints
    have HN : Hid (wc.heap[nb]? = some (.cells #[.int .i64 21, .string x1, .string x2, .string x3, .int .i64 x4, .int .i64 x5] 31 (0, 0))) := hN
    have p0 : wc.cell? ⟨nb, 0, none⟩ = some (.int .i64 21) := cell_of hN rfl
    have p1 : wc.cell? ⟨nb, 1, none⟩ = some (.string x1) := cell_of hN rfl
    have p3 : wc.cell? ⟨nb, 3, none⟩ = some (.string x3) := cell_of hN rfl
    have p4 : wc.cell? ⟨nb, 4, none⟩ = some (.int .i64 x4) := cell_of hN rfl
    have d2 := HM1.out.c2
    clear hints hN hT c0 n0 n1 n2 n3 n4 n5
    have hm1 := HKS.out
    obtain rfl : ks = [a1] := by rw [hm1]; exact HA.out
    obtain ⟨xb, xo, xc, hv, _, _, _, hxc⟩ := ints_hd HI.out
    simp only [Value.slice.injEq] at hv
    obtain ⟨rfl, -, rfl⟩ := hv
    simp only [List.length_cons, List.length_nil, Nat.zero_add] at *
    clear hm1
    go_wp2_with fail
    refine (IH.out _ HM1.out).mono ?_
    rintro e w2 ⟨t2, v2, rfl, hs2⟩
    have HM2 : Hid (MAt w2 mb b o cap l) := HM1.out.sm hs2
    have HT2 : Hid (Sm [] w w2) := HT.out.trans hs2
    clear hs2
    go_wp2_with fail
    refine (loc_any l mb b o cap i _ HM2.out hi hn HSZ.out.1 HSZ.out.2).mono ?_
    rintro e w3 ⟨rfl, rfl⟩
    go_wp2_with fail
    refine (newList_any _ _ _ _ _ _ (obj_at (by simp))).mono ?_
    rintro e w4 ⟨k4, rfl, rfl⟩
    go_wp2_with fail
    go_ret
    exact ⟨_, _, rfl, ((HT2.out.alloc _).alloc _).drew.alloc _⟩

set_option maxRecDepth 100000 in
set_option maxHeartbeats 2000000 in
theorem typ_non (l : List Nd) (mb b o cap i : Nat) (w : World) (hm : MAt w mb b o cap l) (hd : Doc l) (hi : i < l.length) (hk : kd l i = 22) (a1 : Nat) (ha : kids l i = [a1]) (ih : ∀ W, MAt W mb b o cap l → Calls Tryz.prog 65 #[.pointer (some ⟨mb, 0, none⟩), .int .i64 (a1 : Int)] W (MkI W)) (h22 : kd l a1 ≠ 22) (hal : a1 < l.length) :
    Calls Tryz.prog 65 #[.pointer (some ⟨mb, 0, none⟩), .int .i64 (i : Int)] w (MkI w) := by
  have IH : Hid (∀ W, MAt W mb b o cap l → Calls Tryz.prog 65 #[.pointer (some ⟨mb, 0, none⟩), .int .i64 (a1 : Int)] W (MkI W)) := ih
  have HA : Hid (kids l i = [a1]) := ha
  clear ih ha
  have c0 := hm.c0
  obtain ⟨n0, n1, n2, n3, n4, n5⟩ := hm.doc i hi
  rw [← kd_at hi, hk] at n0
  rw [← nm_at hi] at n1
  rw [← tx_at hi] at n3
  obtain ⟨x1, hx1⟩ : ∃ x, x = nm l i := ⟨_, rfl⟩
  obtain ⟨x3, hx3⟩ : ∃ x, x = tx l i := ⟨_, rfl⟩
  rw [← hx1] at n1
  rw [← hx3] at n3
  generalize l[i].alias = x2 at *
  generalize l[i].flag = x4 at *
  generalize l[i].size = x5 at *
  have HX1 : Hid (x1 = nm l i) := hx1
  have HX3 : Hid (x3 = tx l i) := hx3
  have HK : Hid (∀ W, MAt W mb b o cap l → Calls Tryz.prog 20 #[.pointer (some ⟨mb, 0, none⟩), .int .i64 (i : Int)] W (KidsPost (kids l i) W)) := fun W h => mkids_any l mb b o cap i W h hd.tree hi
  obtain ⟨ks, hks⟩ : ∃ ks, ks = kids l i := ⟨_, rfl⟩
  rw [← hks] at HK
  have HKS : Hid (ks = kids l i) := hks
  have HSZ : Hid (1 ≤ sz l i ∧ i + sz l i ≤ l.length) := ⟨hd.tree.sz_pos hi, hd.tree.sz_le hi⟩
  have hn : l.length ≤ 2147483647 := by have := hd.tree.most; omega
  have z1 : (0 : Int) ≤ (i : Int) := by omega
  have z2 : (i : Int) < (l.length : Int) := by omega
  have HM : Hid (MAt w mb b o cap l) := hm
  have HD : Hid (Doc l) := hd
  have HKD : Hid (kd l i = 22) := hk
  have hne0 := World.new_ne _ _ c0
  have hne1 := World.new_ne _ _ n0
  clear hk hm hd hx1 hx3 hks
  go_enter Tryz.func65, Tryz.ntmps65
  go_upto_region 1 with fail
  go_cut [5, 6] from 7 to 16 (fun p k wx => XCut w ks ⟨22, x1, x2, x3, x4, x5⟩ p k wx)
  case first =>
    go_region_held3 (fun W => W.cell? ⟨mb, 0, none⟩ = some (.slice (some ⟨b, o, none⟩) l.length cap) ∧ W.cell? ⟨b, o + i * 6, none⟩ = some (.int .i64 22) ∧ W.cell? ⟨b, o + i * 6 + 1, none⟩ = some (.string x1) ∧ W.cell? ⟨b, o + i * 6 + 2, none⟩ = some (.string x2) ∧ W.cell? ⟨b, o + i * 6 + 3, none⟩ = some (.string x3) ∧ W.cell? ⟨b, o + i * 6 + 4, none⟩ = some (.int .i64 x4) ∧ W.cell? ⟨b, o + i * 6 + 5, none⟩ = some (.int .i64 x5)) (go_keep)
      (first
        | (go_at_call 20; refine (HK.out _ ?_).mono ?_; refine HM.out.sm ?_; (repeat (first | exact Sm.refl _ _ | refine Sm.alloc ?_ _ | refine Sm.drew ?_ | refine Sm.drewN ?_ _)); rintro e w2 ⟨a, kc, rfl, hints, hs2, hge⟩; have hT : Sm [] w w2 := (by refine Sm.trans ?_ hs2; (repeat (first | exact Sm.refl _ _ | refine Sm.alloc ?_ _ | refine Sm.drew ?_ | refine Sm.drewN ?_ _))); have g0 := hT.keeps c0 (by simp); have g1 := hT.keeps n0 (by simp); have g2 := hT.keeps n1 (by simp); have g3 := hT.keeps n2 (by simp); have g4 := hT.keeps n3 (by simp); have g5 := hT.keeps n4 (by simp); have g6 := hT.keeps n5 (by simp); have hz := hs2.obj (obj_alloc _ _) (by simp); have q0 := cell_of hz (i := 0) rfl; have q1 := cell_of hz (i := 1) rfl; have q2 := cell_of hz (i := 2) rfl; have q3 := cell_of hz (i := 3) rfl; have q4 := cell_of hz (i := 4) rfl; have q5 := cell_of hz (i := 5) rfl; have r0 := free_of hz 0; have r1 := free_of hz 1; have r2 := free_of hz 2; have r3 := free_of hz 3; have r4 := free_of hz 4; have r5 := free_of hz 5)
        | (go_at_call 20; refine (HK.out _ ?_).mono ?_; refine HM.out.sm ?_; (repeat (first | exact Sm.refl _ _ | refine Sm.alloc ?_ _ | refine Sm.drew ?_ | refine Sm.drewN ?_ _)); rintro e w2 ⟨a, kc, rfl, hints, hs2, hge⟩; have hT : Sm [] w w2 := (by refine Sm.trans ?_ hs2; (repeat (first | exact Sm.refl _ _ | refine Sm.alloc ?_ _ | refine Sm.drew ?_ | refine Sm.drewN ?_ _))); have g0 := hT.keeps c0 (by simp); have g1 := hT.keeps n0 (by simp); have g2 := hT.keeps n1 (by simp); have g3 := hT.keeps n2 (by simp); have g4 := hT.keeps n3 (by simp); have g5 := hT.keeps n4 (by simp); have g6 := hT.keeps n5 (by simp)))
    all_goals
      go_wp2_with fail
      go_meet
      first
      | exact xcut_a hT hints _ _ _ _ _ _
      | exact xcut_b hT hints hz (Nat.le_refl _) hge (by simp) _ _ _ _ _ _
  case rest =>
    obtain ⟨nb, a, kc, rfl, rfl, hints, hN, hT, hnb⟩ := hcut
    have HM1 : Hid (MAt wc mb b o cap l) := HM.out.sm hT
    have HT : Hid (Sm [] w wc) := hT
    have HI : Hid (IntsAt wc (.slice a ks.length kc) ks) := hints
    have HN : Hid (wc.heap[nb]? = some (.cells #[.int .i64 22, .string x1, .string x2, .string x3, .int .i64 x4, .int .i64 x5] 31 (0, 0))) := hN
    have p0 : wc.cell? ⟨nb, 0, none⟩ = some (.int .i64 22) := cell_of hN rfl
    have p1 : wc.cell? ⟨nb, 1, none⟩ = some (.string x1) := cell_of hN rfl
    have p3 : wc.cell? ⟨nb, 3, none⟩ = some (.string x3) := cell_of hN rfl
    have p4 : wc.cell? ⟨nb, 4, none⟩ = some (.int .i64 x4) := cell_of hN rfl
    have d2 := HM1.out.c2
    clear hints hN hT c0 n0 n1 n2 n3 n4 n5
    have hm1 := HKS.out
    obtain rfl : ks = [a1] := by rw [hm1]; exact HA.out
    obtain ⟨xb, xo, xc, hv, _, _, _, hxc⟩ := ints_hd HI.out
    simp only [Value.slice.injEq] at hv
    obtain ⟨rfl, -, rfl⟩ := hv
    simp only [List.length_cons, List.length_nil, Nat.zero_add] at *
    clear hm1
    have m0 := (HM1.out.doc a1 hal).c0
    have d0 := HM1.out.c0
    have y1 : (0 : Int) ≤ (a1 : Int) := by omega
    have y2 : (a1 : Int) < (l.length : Int) := by omega
    have y3 : (l[a1].kind != 22) = true := by rw [← kd_at hal]; simp [h22]
    clear h22
    go_upto_region 7 with fail
    go_quiet (fail)
    have HM1 : Hid (MAt (wc.drewN nq) mb b o cap l) := HM1.out.sm ((Sm.refl _ _).drewN nq)
    have HT : Hid (Sm [] w (wc.drewN nq)) := HT.out.drewN nq
    have hxc : (wc.drewN nq).cell? ⟨xb, xo, none⟩ = some (.int .i64 (a1 : Int)) := hxc
    go_wp2_with fail
    refine (IH.out _ HM1.out).mono ?_
    rintro e w2 ⟨t2, v2, rfl, hs2⟩
    have HM2 : Hid (MAt w2 mb b o cap l) := HM1.out.sm hs2
    have HT2 : Hid (Sm [] w w2) := HT.out.trans hs2
    clear hs2
    go_wp2_with fail
    refine (loc_any l mb b o cap i _ HM2.out hi hn HSZ.out.1 HSZ.out.2).mono ?_
    rintro e w3 ⟨rfl, rfl⟩
    go_wp2_with fail
    refine (newNonNull_any _ _ _ _ _ _ (obj_at (by simp))).mono ?_
    rintro e w4 ⟨k4, rfl, rfl⟩
    go_wp2_with fail
    go_ret
    exact ⟨_, _, rfl, ((HT2.out.alloc _).alloc _).drew.alloc _⟩

theorem typ_any (l : List Nd) (mb b o cap : Nat) (hd : Doc l) (n : Nat) : ∀ (i : Nat) (w : World), l.length - i ≤ n → MAt w mb b o cap l → i < l.length → isT (kd l i) →
    Calls Tryz.prog 65 #[.pointer (some ⟨mb, 0, none⟩), .int .i64 (i : Int)] w (MkI w) := by
  induction n with
  | zero => intro i w hn hm hi ht; omega
  | succ n ih =>
    intro i w hn hm hi ht
    by_cases h20 : kd l i = 20
    · exact typ_named l mb b o cap i w hm hd hi h20
    by_cases h21 : kd l i = 21
    · obtain ⟨a1, ha1, ha2⟩ := (hd.shp i hi).tlist h21
      have hk := hd.tree.kid hi (a := a1) (by rw [ha2]; simp)
      exact typ_list l mb b o cap i w hm hd hi h21 a1 ha2 (fun W hW => ih a1 W (by omega) hW hk.2.1 ha1)
    have h22 : kd l i = 22 := by unfold isT at ht; omega
    obtain ⟨a1, ha1, ha3, ha2⟩ := (hd.shp i hi).tnon h22
    have hk := hd.tree.kid hi (a := a1) (by rw [ha2]; simp)
    exact typ_non l mb b o cap i w hm hd hi h22 a1 ha2 (fun W hW => ih a1 W (by omega) hW hk.2.1 ha1) ha3 hk.2.1

end

end Go.Proofs.YtigpnidffiaigaaGreat
