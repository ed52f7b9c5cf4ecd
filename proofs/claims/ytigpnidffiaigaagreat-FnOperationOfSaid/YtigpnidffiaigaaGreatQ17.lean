/- Walks: the maker: lists of values. Walks: the maker: objects. -/
import Derived.Test.YtigpnidffiaigaaGreatProg
import Derived.BigRegion
import Derived.Deep.RegionHeld3
import Derived.Deep.CutRange
import Derived.Deep.RegionLaw
import Derived.Deep.AppendLies
import Derived.Test.YtigpnidffiaigaaGreatQ15
set_option linter.unusedVariables false
set_option linter.unusedSimpArgs false
namespace Go.Proofs.YtigpnidffiaigaaGreat

section
open Go.RowKit
attribute [local go_sem ↓] Go.wp_at_zero Go.wp_at_succ

theorem infoValue : (Tryz.prog.info? 128).map (fun i => (i.zero, i.size, i.bytes)) = some (some .nilIface, 1, 16) := by kernel_rfl
theorem infoPtr_OF : (Tryz.prog.info? 312).map (fun i => (i.zero, i.size, i.bytes)) = some (some (.pointer none), 1, 8) := by kernel_rfl

theorem ints_at {w : World} {a : Option Addr} {n c : Nat} {ks : List Nat} (h : IntsAt w (.slice a n c) ks) {j : Nat} (hj : j < ks.length) : ∃ b o, a = some ⟨b, o, none⟩ ∧ b < w.heap.size ∧ w.cell? ⟨b, o + j, none⟩ = some (.int .i64 ((ks.getD j 0 : Nat) : Int)) := by
  obtain ⟨a', c', e, _, _, h3⟩ := h
  simp only [Value.slice.injEq] at e
  obtain ⟨rfl, _, _⟩ := e
  exact h3 j hj

set_option maxRecDepth 100000 in
set_option maxHeartbeats 2000000 in
theorem value_list (l : List Nd) (mb b o cap i : Nat) (w : World) (hm : MAt w mb b o cap l) (hd : Doc l) (hi : i < l.length) (hk : kd l i = 17) (ih : ∀ a W, a ∈ kids l i → MAt W mb b o cap l → Calls Tryz.prog 66 #[.pointer (some ⟨mb, 0, none⟩), .int .i64 (a : Int)] W (MkI W)) :
    Calls Tryz.prog 66 #[.pointer (some ⟨mb, 0, none⟩), .int .i64 (i : Int)] w (MkI w) := by
  have IH : Hid (∀ a W, a ∈ kids l i → MAt W mb b o cap l → Calls Tryz.prog 66 #[.pointer (some ⟨mb, 0, none⟩), .int .i64 (a : Int)] W (MkI W)) := ih
  have hkl : (kids l i).length ≤ 400 := hd.tree.kids_len hi
  clear ih
  have c0 := hm.c0
  obtain ⟨n0, n1, n2, n3, n4, n5⟩ := hm.doc i hi
  rw [← kd_at hi, hk] at n0
  rw [← nm_at hi] at n1
  rw [← tx_at hi] at n3
  obtain ⟨x1, hx1⟩ : ∃ x, x = nm l i := ⟨_, rfl⟩
  obtain ⟨x3, hx3⟩ : ∃ x, x = tx l i := ⟨_, rfl⟩
  rw [← hx1] at n1
  rw [← hx3] at n3
  generalize l[i].alias = x2 at *
  generalize l[i].flag = x4 at *
  generalize l[i].size = x5 at *
  have HX1 : Hid (x1 = nm l i) := hx1
  have HX3 : Hid (x3 = tx l i) := hx3
  have HK : Hid (∀ W, MAt W mb b o cap l → Calls Tryz.prog 20 #[.pointer (some ⟨mb, 0, none⟩), .int .i64 (i : Int)] W (KidsPost (kids l i) W)) := fun W h => mkids_any l mb b o cap i W h hd.tree hi
  obtain ⟨ks, hks⟩ : ∃ ks, ks = kids l i := ⟨_, rfl⟩
  rw [← hks] at HK
  have HKS : Hid (ks = kids l i) := hks
  have HSZ : Hid (1 ≤ sz l i ∧ i + sz l i ≤ l.length) := ⟨hd.tree.sz_pos hi, hd.tree.sz_le hi⟩
  have hn : l.length ≤ 2147483647 := by have := hd.tree.most; omega
  have z1 : (0 : Int) ≤ (i : Int) := by omega
  have z2 : (i : Int) < (l.length : Int) := by omega
  have HM : Hid (MAt w mb b o cap l) := hm
  have HD : Hid (Doc l) := hd
  have HKD : Hid (kd l i = 17) := hk
  have hne0 := World.new_ne _ _ c0
  have hne1 := World.new_ne _ _ n0
  clear hk hm hd hx1 hx3 hks
  go_enter Tryz.func66, Tryz.ntmps66
  go_upto_region 1 with fail
  go_cut [5, 6] from 10 to 19 (fun p k wx => XCut w ks ⟨17, x1, x2, x3, x4, x5⟩ p k wx)
  case first =>
    go_region_held3 (fun W => W.cell? ⟨mb, 0, none⟩ = some (.slice (some ⟨b, o, none⟩) l.length cap) ∧ W.cell? ⟨b, o + i * 6, none⟩ = some (.int .i64 17) ∧ W.cell? ⟨b, o + i * 6 + 1, none⟩ = some (.string x1) ∧ W.cell? ⟨b, o + i * 6 + 2, none⟩ = some (.string x2) ∧ W.cell? ⟨b, o + i * 6 + 3, none⟩ = some (.string x3) ∧ W.cell? ⟨b, o + i * 6 + 4, none⟩ = some (.int .i64 x4) ∧ W.cell? ⟨b, o + i * 6 + 5, none⟩ = some (.int .i64 x5)) (go_keep)
      (first
        | (go_at_call 20; refine (HK.out _ ?_).mono ?_; refine HM.out.sm ?_; (repeat (first | exact Sm.refl _ _ | refine Sm.alloc ?_ _ | refine Sm.drew ?_ | refine Sm.drewN ?_ _)); rintro e w2 ⟨a, kc, rfl, hints, hs2, hge⟩; have hT : Sm [] w w2 := (by refine Sm.trans ?_ hs2; (repeat (first | exact Sm.refl _ _ | refine Sm.alloc ?_ _ | refine Sm.drew ?_ | refine Sm.drewN ?_ _))); have g0 := hT.keeps c0 (by simp); have g1 := hT.keeps n0 (by simp); have g2 := hT.keeps n1 (by simp); have g3 := hT.keeps n2 (by simp); have g4 := hT.keeps n3 (by simp); have g5 := hT.keeps n4 (by simp); have g6 := hT.keeps n5 (by simp); have hz := hs2.obj (obj_alloc _ _) (by simp); have q0 := cell_of hz (i := 0) rfl; have q1 := cell_of hz (i := 1) rfl; have q2 := cell_of hz (i := 2) rfl; have q3 := cell_of hz (i := 3) rfl; have q4 := cell_of hz (i := 4) rfl; have q5 := cell_of hz (i := 5) rfl; have r0 := free_of hz 0; have r1 := free_of hz 1; have r2 := free_of hz 2; have r3 := free_of hz 3; have r4 := free_of hz 4; have r5 := free_of hz 5)
        | (go_at_call 20; refine (HK.out _ ?_).mono ?_; refine HM.out.sm ?_; (repeat (first | exact Sm.refl _ _ | refine Sm.alloc ?_ _ | refine Sm.drew ?_ | refine Sm.drewN ?_ _)); rintro e w2 ⟨a, kc, rfl, hints, hs2, hge⟩; have hT : Sm [] w w2 := (by refine Sm.trans ?_ hs2; (repeat (first | exact Sm.refl _ _ | refine Sm.alloc ?_ _ | refine Sm.drew ?_ | refine Sm.drewN ?_ _))); have g0 := hT.keeps c0 (by simp); have g1 := hT.keeps n0 (by simp); have g2 := hT.keeps n1 (by simp); have g3 := hT.keeps n2 (by simp); have g4 := hT.keeps n3 (by simp); have g5 := hT.keeps n4 (by simp); have g6 := hT.keeps n5 (by simp)))
    all_goals
      go_wp2_with fail
      go_meet
      first
      | exact xcut_a hT hints _ _ _ _ _ _
      | exact xcut_b hT hints hz (Nat.le_refl _) hge (by simp) _ _ _ _ _ _
  case rest =>
    obtain ⟨nb, a, kc, rfl, rfl, hints, hN, hT, hnb⟩ := hcut
    have HM1 : Hid (MAt wc mb b o cap l) := HM.out.sm hT
    have HT : Hid (Sm [] w wc) := hT
    have HI : Hid (IntsAt wc (.slice a ks.length kc) ks) := hints
    have HN : Hid (wc.heap[nb]? = some (.cells #[.int .i64 17, .string x1, .string x2, .string x3, .int .i64 x4, .int .i64 x5] 31 (0, 0))) := hN
    have p0 : wc.cell? ⟨nb, 0, none⟩ = some (.int .i64 17) := cell_of hN rfl
    have p1 : wc.cell? ⟨nb, 1, none⟩ = some (.string x1) := cell_of hN rfl
    have p3 : wc.cell? ⟨nb, 3, none⟩ = some (.string x3) := cell_of hN rfl
    have p4 : wc.cell? ⟨nb, 4, none⟩ = some (.int .i64 x4) := cell_of hN rfl
    have d2 := HM1.out.c2
    clear hints hN hT c0 n0 n1 n2 n3 n4 n5
    rw [← HKS.out] at hkl
    go_wp2_with fail
    go_loopw [7, 9, 99] (fun v _ u wr => Coll wc 128 ks.length v u wr) (fun _ _ u _ => ks.length - (intOf u).toNat)
    case atStart => exact coll_start wc _ _
    case round =>
      obtain ⟨j, xs, hj, rfl, hown, hx, hs⟩ := hrel
      have HS : Hid (Sm [] wc wr) := hs
      have y1 : (0 : Int) ≤ (j : Int) := by omega
      by_cases hlt : j < ks.length
      · have y2 : (j : Int) < (ks.length : Int) := by omega
        obtain ⟨xb, xo, rfl, _, hxc⟩ := ints_at HI.out hlt
        have hxc' := hs.keeps hxc (by simp)
        have hmem := getD_memN hlt
        generalize ks.getD j 0 = k at *
        have HC : Hid (Calls Tryz.prog 66 #[.pointer (some ⟨mb, 0, none⟩), .int .i64 (k : Int)] wr (MkI wr)) := IH.out k wr (by rw [← HKS.out]; exact hmem) (HM1.out.sm hs)
        clear hxc hs hmem
        go_wp2_with fail
        refine HC.out.mono ?_
        rintro e w2 ⟨t2, v2, rfl, hs2⟩
        have HS2 : Hid (Sm [] wc w2) := HS.out.trans hs2
        have hown2 := own_sm hown hs2
        have hz : wc.heap.size ≤ w2.heap.size := HS2.out.size
        clear hown hs2
        go_wp2_with (at_builtin; refine app1 _ rfl _ _ _ rfl 128 _ 1 16 Tryz.underlying253 infoValue rfl (by omega) (by omega) _ xs.length xs rfl hown2 _ rfl rfl (by simp [Value.oneCell']) (by omega) hz ?_)
        intro g gcap w3 q1 q2 q3 q4
        have HN3 : Hid (Coll wc 128 ks.length (.slice (some ⟨g, 0, none⟩) (xs.length + 1) gcap) (.int .i64 ((j : Int) + 1)) w3) := coll_next (wr := w2) hlt rfl hx HS2.out hown2 q2 q1
        clear q1 q2 q3 q4 hown2
        go_wp2_with fail
        go_roundw
        case rel => (first | refine ⟨_, _, _, ?_, rfl, rfl, rfl⟩ | skip); exact HN3.out
        case measure => simp [intOf]; omega
      · have y2 : ¬ ((j : Int) < (ks.length : Int)) := by omega
        obtain ⟨a2, c2, rfl⟩ := own_slice hown
        have HM2 : Hid (MAt wr mb b o cap l) := HM1.out.sm hs
        have HT2 : Hid (Sm [] w wr) := HT.out.trans hs
        clear hown hs
        go_wp2_with fail
        refine (loc_any l mb b o cap i _ HM2.out hi hn HSZ.out.1 HSZ.out.2).mono ?_
        rintro e w3 ⟨rfl, rfl⟩
        go_wp2_with fail
        refine (newListValue_any _ _ _ _ _ _ _ (obj_at (by simp))).mono ?_
        intro e w4 h4
        obtain ⟨q4, rfl, hs4⟩ := copied_go h4
        have HT4 : Hid (Sm [] w w4) := (HT2.out.alloc _).trans hs4
        clear h4 hs4
        go_wp2_with fail
        go_ret
        exact ⟨_, _, rfl, HT4.out⟩

end

section
open Go.RowKit
attribute [local go_sem ↓] Go.wp_at_zero Go.wp_at_succ

set_option maxRecDepth 100000 in
set_option maxHeartbeats 4000000 in
theorem object_any (l : List Nd) (mb b o cap i kc : Nat) (a : Option Addr) (ks : List Nat) (w : World) (hm : MAt w mb b o cap l) (hd : Doc l) (hi : i < l.length) (hkl : ks.length ≤ 400) (hI : IntsAt w (.slice a ks.length kc) ks)
    (hk : ∀ k, k ∈ ks → k < l.length ∧ kd l k = 19) (ih : ∀ k a W, k ∈ ks → a ∈ kids l k → isV (kd l a) → MAt W mb b o cap l → Calls Tryz.prog 66 #[.pointer (some ⟨mb, 0, none⟩), .int .i64 (a : Int)] W (MkI W)) :
    Calls Tryz.prog 108 #[.pointer (some ⟨mb, 0, none⟩), .int .i64 (i : Int), .slice a ks.length kc] w (MkI w) := by
  have IH : Hid (∀ k a W, k ∈ ks → a ∈ kids l k → isV (kd l a) → MAt W mb b o cap l → Calls Tryz.prog 66 #[.pointer (some ⟨mb, 0, none⟩), .int .i64 (a : Int)] W (MkI W)) := ih
  have HKK : Hid (∀ k, k ∈ ks → k < l.length ∧ kd l k = 19) := hk
  have HM1 : Hid (MAt w mb b o cap l) := hm
  have HD : Hid (Doc l) := hd
  have HI : Hid (IntsAt w (.slice a ks.length kc) ks) := hI
  have HSZ : Hid (1 ≤ sz l i ∧ i + sz l i ≤ l.length) := ⟨hd.tree.sz_pos hi, hd.tree.sz_le hi⟩
  have hn : l.length ≤ 2147483647 := by have := hd.tree.most; omega
  clear ih hk hm hd hI
  go_enter Tryz.func108, Tryz.ntmps108
  go_wp2_with fail
  go_loopw [7, 9, 10, 14] (fun v _ _ u wr => Coll w 312 ks.length v u wr) (fun _ _ _ u _ => ks.length - (intOf u).toNat)
  case atStart => exact coll_start w _ _
  case round =>
    obtain ⟨j, xs, hj, rfl, hown, hx, hs⟩ := hrel
    have HS : Hid (Sm [] w wr) := hs
    have y1 : (0 : Int) ≤ (j : Int) := by omega
    by_cases hlt : j < ks.length
    · have y2 : (j : Int) < (ks.length : Int) := by omega
      obtain ⟨xb, xo, rfl, _, hxc⟩ := ints_at HI.out hlt
      have hxc' := hs.keeps hxc (by simp)
      have hmem := getD_memN hlt
      generalize ks.getD j 0 = k at *
      obtain ⟨hkl', hk19⟩ := HKK.out k hmem
      obtain ⟨a1, ha1, ha2⟩ := (HD.out.shp k hkl').arg (.inr hk19)
      have HNM : Hid (nm l k ≠ ByteArray.empty) := (HD.out.frm k hkl').name (by omega)
      have HSK : Hid (1 ≤ sz l k ∧ k + sz l k ≤ l.length) := ⟨HD.out.tree.sz_pos hkl', HD.out.tree.sz_le hkl'⟩
      have HKD : Hid (∀ W, MAt W mb b o cap l → Calls Tryz.prog 20 #[.pointer (some ⟨mb, 0, none⟩), .int .i64 (k : Int)] W (KidsPost [a1] W)) := fun W h => by rw [← ha2]; exact mkids_any l mb b o cap k W h HD.out.tree hkl'
      have HV : Hid (∀ W, MAt W mb b o cap l → Calls Tryz.prog 66 #[.pointer (some ⟨mb, 0, none⟩), .int .i64 (a1 : Int)] W (MkI W)) := fun W h => IH.out k a1 W hmem (by rw [ha2]; simp) ha1 h
      have HMr : Hid (MAt wr mb b o cap l) := HM1.out.sm hs
      have z1 : (0 : Int) ≤ (k : Int) := by omega
      have z2 : (k : Int) < (l.length : Int) := by omega
      have hkd := kd_at hkl'
      have HK19 : Hid (l[k].kind = 19) := by rw [← hkd]; exact hk19
      clear hxc hs hmem hk19 ha1 ha2 hkd
      go_wp2_with fail
      refine (HKD.out _ HMr.out).mono ?_
      rintro e wk ⟨va, vc, rfl, hvi, hsk, _⟩
      have HMk : Hid (MAt wk mb b o cap l) := HMr.out.sm hsk
      obtain ⟨vb, vo, vcap, hv, _, _, _, hvc⟩ := ints_hd hvi
      simp only [Value.slice.injEq] at hv
      obtain ⟨rfl, -, rfl⟩ := hv
      have n0 := (HMk.out.doc k hkl').c0
      rw [HK19.out] at n0
      have d0 := HMk.out.c0
      have HSk : Hid (Sm [] w wk) := HS.out.trans hsk
      have hownk := own_sm hown hsk
      simp only [List.length_cons, List.length_nil, Nat.zero_add] at *
      clear hvi hsk hown
      go_upto_region 9 with fail
      go_region_law (first
        | (go_simp; go_at_call 49; refine (called_any l mb b o cap k _ ?_ hkl' HNM.out).mono ?_; refine HMk.out.sm ?_; (repeat (first | exact Sm.refl _ _ | refine Sm.alloc ?_ _ | refine Sm.drew ?_ | refine Sm.drewN ?_ _)); rintro e w5 ⟨q5, rfl, _, hs5⟩; have hvc5 := (Sm.trans (by (repeat (first | exact Sm.refl _ _ | refine Sm.alloc ?_ _ | refine Sm.drew ?_ | refine Sm.drewN ?_ _))) hs5).keeps hvc (by simp))
        | (go_simp; go_at_call 66; refine (HV.out _ ?_).mono ?_; refine HMk.out.sm ?_; (repeat (first | exact Sm.refl _ _ | refine Sm.alloc ?_ _ | refine Sm.drew ?_ | refine Sm.drewN ?_ _ | refine Sm.trans ?_ hs5)); rintro e w6 ⟨t6, v6, rfl, hs6⟩)
        | (go_simp; go_at_call 23; refine (loc_any l mb b o cap k _ ?_ hkl' hn HSK.out.1 HSK.out.2).mono ?_; refine HMk.out.sm ?_; (repeat (first | exact Sm.refl _ _ | refine Sm.alloc ?_ _ | refine Sm.drew ?_ | refine Sm.drewN ?_ _ | refine Sm.trans ?_ hs6 | refine Sm.trans ?_ hs5)); rintro e w7 ⟨rfl, rfl⟩)
        | (go_simp; go_at_call 128; refine (newObjectField_any _ _ _ _ _ _ _ (obj_at (by simp))).mono ?_; intro e w8 h8; obtain ⟨q8, rfl, hs8⟩ := copied_go h8; have hT8 : Sm [] wk w8 := (by (repeat (first | exact Sm.refl _ _ | refine Sm.alloc ?_ _ | refine Sm.drew ?_ | refine Sm.drewN ?_ _ | refine Sm.trans ?_ hs8 | refine Sm.trans ?_ hs6 | refine Sm.trans ?_ hs5))); have hown8 := own_sm hownk hT8; have hz8 : w.heap.size ≤ w8.heap.size := Nat.le_trans HSk.out.size hT8.size)
        | (refine app1s w.heap.size rfl _ _ _ rfl 312 _ 1 8 Tryz.underlying315 infoPtr_OF rfl (show 0 < 1 by decide) (show 0 < 8 by decide) _ xs.length xs rfl hown8 _ rfl rfl (by simp [Value.oneCell']) (by omega) hz8 ?_; intro g gcap w9 q1 q2 q3 q4))
      all_goals
        have HN3 : Hid (Coll w 312 ks.length (.slice (some ⟨g, 0, none⟩) (xs.length + 1) gcap) (.int .i64 ((j : Int) + 1)) w9) := coll_next (wr := w8) hlt rfl hx (HSk.out.trans hT8) hown8 q2 q1
        clear q1 q2 q3 q4 hown8 hT8 hs8 hs6 hs5 hownk
        go_wp2_with fail
        go_roundw
        case rel => (first | refine ⟨_, _, _, _, ?_, rfl, rfl, rfl, rfl⟩ | skip); exact HN3.out
        case measure => simp [intOf]; omega
    · have y2 : ¬ ((j : Int) < (ks.length : Int)) := by omega
      obtain ⟨a2, c2, rfl⟩ := own_slice hown
      have HM2 : Hid (MAt wr mb b o cap l) := HM1.out.sm hs
      have HT2 : Hid (Sm [] w wr) := hs
      clear hown hs
      go_wp2_with fail
      refine (loc_any l mb b o cap i _ HM2.out hi hn HSZ.out.1 HSZ.out.2).mono ?_
      rintro e w3 ⟨rfl, rfl⟩
      go_wp2_with fail
      refine (newObjectValue_any _ _ _ _ _ _ _ (obj_at (by simp))).mono ?_
      intro e w4 h4
      obtain ⟨q4, rfl, hs4⟩ := copied_go h4
      have HT4 : Hid (Sm [] w w4) := (HT2.out.alloc _).trans hs4
      clear h4 hs4
      go_wp2_with fail
      go_ret
      exact ⟨_, _, rfl, HT4.out⟩

end

end Go.Proofs.YtigpnidffiaigaaGreat
