/- Walks: the maker: values. -/
import Derived.Test.YtigpnidffiaigaaGreatProg
import Derived.BigRegion
import Derived.Deep.RegionHeld3
import Derived.Deep.CutRange
import Derived.Deep.RegionLaw
import Derived.Deep.AppendLies
import Derived.Test.YtigpnidffiaigaaGreatQ15
import Derived.Test.YtigpnidffiaigaaGreatQ16
import Derived.Test.YtigpnidffiaigaaGreatQ17
set_option linter.unusedVariables false
set_option linter.unusedSimpArgs false
namespace Go.Proofs.YtigpnidffiaigaaGreat

section
open Go.RowKit
attribute [local go_sem ↓] Go.wp_at_zero Go.wp_at_succ

set_option maxRecDepth 100000 in
set_option maxHeartbeats 2000000 in
theorem value_obj (l : List Nd) (mb b o cap i : Nat) (w : World) (hm : MAt w mb b o cap l) (hd : Doc l) (hi : i < l.length) (hk : kd l i = 18) (ih : ∀ k a W, k ∈ kids l i → a ∈ kids l k → isV (kd l a) → MAt W mb b o cap l → Calls Tryz.prog 66 #[.pointer (some ⟨mb, 0, none⟩), .int .i64 (a : Int)] W (MkI W)) :
    Calls Tryz.prog 66 #[.pointer (some ⟨mb, 0, none⟩), .int .i64 (i : Int)] w (MkI w) := by
  have IH : Hid (∀ k a W, k ∈ kids l i → a ∈ kids l k → isV (kd l a) → MAt W mb b o cap l → Calls Tryz.prog 66 #[.pointer (some ⟨mb, 0, none⟩), .int .i64 (a : Int)] W (MkI W)) := ih
  have hkl : (kids l i).length ≤ 400 := hd.tree.kids_len hi
  have HKK : Hid (∀ k, k ∈ kids l i → k < l.length ∧ kd l k = 19) := fun k h => ⟨(hd.tree.kid hi h).2.1, (hd.shp i hi).obj hk k h⟩
  clear ih
  have c0 := hm.c0
  obtain ⟨n0, n1, n2, n3, n4, n5⟩ := hm.doc i hi
  rw [← kd_at hi, hk] at n0
  rw [← nm_at hi] at n1
  rw [← tx_at hi] at n3
  obtain ⟨x1, hx1⟩ : ∃ x, x = nm l i := ⟨_, rfl⟩
  obtain ⟨x3, hx3⟩ : ∃ x, x = tx l i := ⟨_, rfl⟩
  rw [← hx1] at n1
  rw [← hx3] at n3
  generalize l[i].alias = x2 at *
  generalize l[i].flag = x4 at *
  generalize l[i].size = x5 at *
  have HX1 : Hid (x1 = nm l i) := hx1
  have HX3 : Hid (x3 = tx l i) := hx3
  have HK : Hid (∀ W, MAt W mb b o cap l → Calls Tryz.prog 20 #[.pointer (some ⟨mb, 0, none⟩), .int .i64 (i : Int)] W (KidsPost (kids l i) W)) := fun W h => mkids_any l mb b o cap i W h hd.tree hi
  obtain ⟨ks, hks⟩ : ∃ ks, ks = kids l i := ⟨_, rfl⟩
  rw [← hks] at HK
  have HKS : Hid (ks = kids l i) := hks
  have HSZ : Hid (1 ≤ sz l i ∧ i + sz l i ≤ l.length) := ⟨hd.tree.sz_pos hi, hd.tree.sz_le hi⟩
  have hn : l.length ≤ 2147483647 := by have := hd.tree.most; omega
  have z1 : (0 : Int) ≤ (i : Int) := by omega
  have z2 : (i : Int) < (l.length : Int) := by omega
  have HM : Hid (MAt w mb b o cap l) := hm
  have HD : Hid (Doc l) := hd
  have HKD : Hid (kd l i = 18) := hk
  have hne0 := World.new_ne _ _ c0
  have hne1 := World.new_ne _ _ n0
  clear hk hm hd hx1 hx3 hks
  go_enter Tryz.func66, Tryz.ntmps66
  go_upto_region 1 with fail
  go_cut [5, 6] from 10 to 19 (fun p k wx => XCut w ks ⟨18, x1, x2, x3, x4, x5⟩ p k wx)
  case first =>
    go_region_held3 (fun W => W.cell? ⟨mb, 0, none⟩ = some (.slice (some ⟨b, o, none⟩) l.length cap) ∧ W.cell? ⟨b, o + i * 6, none⟩ = some (.int .i64 18) ∧ W.cell? ⟨b, o + i * 6 + 1, none⟩ = some (.string x1) ∧ W.cell? ⟨b, o + i * 6 + 2, none⟩ = some (.string x2) ∧ W.cell? ⟨b, o + i * 6 + 3, none⟩ = some (.string x3) ∧ W.cell? ⟨b, o + i * 6 + 4, none⟩ = some (.int .i64 x4) ∧ W.cell? ⟨b, o + i * 6 + 5, none⟩ = some (.int .i64 x5)) (go_keep)
      (first
        | (go_at_call 20; refine (HK.out _ ?_).mono ?_; refine HM.out.sm ?_; (repeat (first | exact Sm.refl _ _ | refine Sm.alloc ?_ _ | refine Sm.drew ?_ | refine Sm.drewN ?_ _)); rintro e w2 ⟨a, kc, rfl, hints, hs2, hge⟩; have hT : Sm [] w w2 := (by refine Sm.trans ?_ hs2; (repeat (first | exact Sm.refl _ _ | refine Sm.alloc ?_ _ | refine Sm.drew ?_ | refine Sm.drewN ?_ _))); have g0 := hT.keeps c0 (by simp); have g1 := hT.keeps n0 (by simp); have g2 := hT.keeps n1 (by simp); have g3 := hT.keeps n2 (by simp); have g4 := hT.keeps n3 (by simp); have g5 := hT.keeps n4 (by simp); have g6 := hT.keeps n5 (by simp); have hz := hs2.obj (obj_alloc _ _) (by simp); have q0 := cell_of hz (i := 0) rfl; have q1 := cell_of hz (i := 1) rfl; have q2 := cell_of hz (i := 2) rfl; have q3 := cell_of hz (i := 3) rfl; have q4 := cell_of hz (i := 4) rfl; have q5 := cell_of hz (i := 5) rfl; have r0 := free_of hz 0; have r1 := free_of hz 1; have r2 := free_of hz 2; have r3 := free_of hz 3; have r4 := free_of hz 4; have r5 := free_of hz 5)
        | (go_at_call 20; refine (HK.out _ ?_).mono ?_; refine HM.out.sm ?_; (repeat (first | exact Sm.refl _ _ | refine Sm.alloc ?_ _ | refine Sm.drew ?_ | refine Sm.drewN ?_ _)); rintro e w2 ⟨a, kc, rfl, hints, hs2, hge⟩; have hT : Sm [] w w2 := (by refine Sm.trans ?_ hs2; (repeat (first | exact Sm.refl _ _ | refine Sm.alloc ?_ _ | refine Sm.drew ?_ | refine Sm.drewN ?_ _))); have g0 := hT.keeps c0 (by simp); have g1 := hT.keeps n0 (by simp); have g2 := hT.keeps n1 (by simp); have g3 := hT.keeps n2 (by simp); have g4 := hT.keeps n3 (by simp); have g5 := hT.keeps n4 (by simp); have g6 := hT.keeps n5 (by simp)))
    all_goals
      go_wp2_with fail
      go_meet
      first
      | exact xcut_a hT hints _ _ _ _ _ _
      | exact xcut_b hT hints hz (Nat.le_refl _) hge (by simp) _ _ _ _ _ _
  case rest =>
    obtain ⟨nb, a, kc, rfl, rfl, hints, hN, hT, hnb⟩ := hcut
    have HM1 : Hid (MAt wc mb b o cap l) := HM.out.sm hT
    have HT : Hid (Sm [] w wc) := hT
    have HI : Hid (IntsAt wc (.slice a ks.length kc) ks) := hints
    have HN : Hid (wc.heap[nb]? = some (.cells #[.int .i64 18, .string x1, .string x2, .string x3, .int .i64 x4, .int .i64 x5] 31 (0, 0))) := hN
    have p0 : wc.cell? ⟨nb, 0, none⟩ = some (.int .i64 18) := cell_of hN rfl
    have p1 : wc.cell? ⟨nb, 1, none⟩ = some (.string x1) := cell_of hN rfl
    have p3 : wc.cell? ⟨nb, 3, none⟩ = some (.string x3) := cell_of hN rfl
    have p4 : wc.cell? ⟨nb, 4, none⟩ = some (.int .i64 x4) := cell_of hN rfl
    have d2 := HM1.out.c2
    clear hints hN hT c0 n0 n1 n2 n3 n4 n5
    rw [← HKS.out] at hkl IH HKK
    have HO : Hid (Calls Tryz.prog 108 #[.pointer (some ⟨mb, 0, none⟩), .int .i64 (i : Int), .slice a ks.length kc] wc (MkI wc)) := object_any l mb b o cap i kc a ks wc HM1.out HD.out hi hkl HI.out HKK.out IH.out
    go_wp2_with fail
    refine HO.out.mono ?_
    rintro e w2 ⟨t2, v2, rfl, hs2⟩
    have HT2 : Hid (Sm [] w w2) := HT.out.trans hs2
    clear hs2
    go_wp2_with fail
    go_ret
    exact ⟨_, _, rfl, HT2.out⟩

theorem value_any (l : List Nd) (mb b o cap : Nat) (hd : Doc l) (n : Nat) : ∀ (i : Nat) (w : World), l.length - i ≤ n → MAt w mb b o cap l → i < l.length → isV (kd l i) →
    Calls Tryz.prog 66 #[.pointer (some ⟨mb, 0, none⟩), .int .i64 (i : Int)] w (MkI w) := by
  induction n with
  | zero => intro i w hn hm hi ht; omega
  | succ n ih =>
    intro i w hn hm hi ht
    by_cases h1 : kd l i = 11
    · exact value_var l mb b o cap i w hm hd hi h1
    by_cases h2 : kd l i = 12
    · exact value_int l mb b o cap i w hm hd hi h2
    by_cases h3 : kd l i = 13
    · exact value_float l mb b o cap i w hm hd hi h3
    by_cases h4 : kd l i = 14
    · exact value_string l mb b o cap i w hm hd hi h4
    by_cases h5 : kd l i = 15
    · exact value_bool l mb b o cap i w hm hd hi h5
    by_cases h6 : kd l i = 16
    · exact value_enum l mb b o cap i w hm hd hi h6
    by_cases h7 : kd l i = 17
    · exact value_list l mb b o cap i w hm hd hi h7 (fun a W ha hW => by
        have hk := hd.tree.kid hi ha
        exact ih a W (by omega) hW hk.2.1 ((hd.shp i hi).list h7 a ha))
    have h8 : kd l i = 18 := by unfold isV at ht; omega
    exact value_obj l mb b o cap i w hm hd hi h8 (fun k a W hk ha hv hW => by
      have h1 := hd.tree.kid hi hk
      have h2 := hd.tree.kid h1.2.1 ha
      exact ih a W (by omega) hW h2.2.1 hv)

end

end Go.Proofs.YtigpnidffiaigaaGreat
