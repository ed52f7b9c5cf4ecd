/- Walks: the shape of a node: kinds (b). -/
import Derived.Test.YtigpnidffiaigaaGreatProg
import Derived.BigRegion
import Derived.Test.YtigpnidffiaigaaGreatQ35
set_option linter.unusedVariables false
set_option linter.unusedSimpArgs false
namespace Go.Proofs.YtigpnidffiaigaaGreat

section
open Go.RowKit

set_option maxRecDepth 100000 in
set_option maxHeartbeats 8000000 in
theorem shaped_8 (l : List Nd) (i b o cap : Nat) (w : World) (hd : DocAt w b o l) (hti : TreeIn l 0 l.length) (hi : i < l.length) (hn : l.length ≤ 2147483647) (hk' : kd l i = 8) :
    Calls Tryz.prog 19 #[.slice (some ⟨b, o, none⟩) l.length cap, .int .i64 (i : Int)] w (ShapedPost l i w) := by
  have hk : Hid (kd l i = 8) := hk'
  obtain ⟨hsz, hsl, kks, hch⟩ := hti i (Nat.zero_le _) hi
  have hch := kids_ch ⟨kks, hch⟩
  obtain ⟨ks0, hks0⟩ : ∃ k, k = kids l i := ⟨_, rfl⟩
  rw [← hks0] at hch
  have HQ0 : Hid (ks0 = kids l i) := hks0
  have hl0 : ks0.length ≤ 2147483647 := by have := hch.le; omega
  have HK0 : Hid (∀ k, k ∈ ks0 → k < l.length) := fun k hk => by have := hch.mem k hk; omega
  have HC : Hid (Calls Tryz.prog 10 #[.slice (some ⟨b, o, none⟩) l.length cap, .int .i64 (i : Int)] w fun e w' => ∃ v, e = .returned v ∧ IntsAt w' v ks0 ∧ Sm [] w w' ∧ ∀ b o n c, v = .slice (some ⟨b, o, none⟩) n c → b < w'.heap.size) := kids2_any l i b o cap ks0 w hd hi hn hch hsl
  obtain ⟨n0, n1, n2, n3, n4, n5⟩ := hd i hi
  rw [← kd_at hi, hk'] at n0
  generalize l[i].name = x1 at *
  generalize l[i].alias = x2 at *
  generalize l[i].text = x3 at *
  generalize l[i].flag = x4 at *
  generalize l[i].size = x5 at *
  have ht : Hid (TreeIn l 0 l.length) := hti
  have HD : Hid (DocAt w b o l) := hd
  have hb : b < w.heap.size := hd.lt (by omega)
  have z1 : (0 : Int) ≤ (i : Int) := by omega
  have z2 : (i : Int) < (l.length : Int) := by omega
  clear hk' hti hd hks0 hch
  go_enter Tryz.func19, Tryz.ntmps19
  go_wp2_with fail
  refine HC.out.mono ?_
  rintro e w0 ⟨v, rfl, hv, hs0, hvl⟩
  have hv' := hv
  obtain ⟨a0, kc0, rfl, _, _, _⟩ := hv'
  have HR0 : Hid (RowAt ((w0.alloc (.cells #[.slice (some ⟨b, o, none⟩) l.length cap, .slice a0 ks0.length kc0, .int .i64 0] 105 (0, 0))).alloc (.cells #[.int .i64 8, .string x1, .string x2, .string x3, .int .i64 x4, .int .i64 x5] 31 (0, 0))) w0.heap.size b o cap l (.slice a0 ks0.length kc0) ks0 0) := row_made hv (HD.out.sm0 hs0) (by have := hs0.size; omega) hvl _
  have H0 : Hid (Sm [] w ((w0.alloc (.cells #[.slice (some ⟨b, o, none⟩) l.length cap, .slice a0 ks0.length kc0, .int .i64 0] 105 (0, 0))).alloc (.cells #[.int .i64 8, .string x1, .string x2, .string x3, .int .i64 x4, .int .i64 x5] 31 (0, 0)))) := (hs0.alloc _).alloc _
  have HS0 : Hid (Sm [w0.heap.size] ((w0.alloc (.cells #[.slice (some ⟨b, o, none⟩) l.length cap, .slice a0 ks0.length kc0, .int .i64 0] 105 (0, 0))).alloc (.cells #[.int .i64 8, .string x1, .string x2, .string x3, .int .i64 x4, .int .i64 x5] 31 (0, 0))) ((w0.alloc (.cells #[.slice (some ⟨b, o, none⟩) l.length cap, .slice a0 ks0.length kc0, .int .i64 0] 105 (0, 0))).alloc (.cells #[.int .i64 8, .string x1, .string x2, .string x3, .int .i64 x4, .int .i64 x5] 31 (0, 0)))) := Sm.refl _ _
  have hge : w.heap.size ≤ w0.heap.size := hs0.size
  have n0 := hs0.keeps n0 (by simp)
  have n1 := hs0.keeps n1 (by simp)
  have n2 := hs0.keeps n2 (by simp)
  have n3 := hs0.keeps n3 (by simp)
  have n4 := hs0.keeps n4 (by simp)
  have n5 := hs0.keeps n5 (by simp)
  have m0 := (sm_alloc0 w0 (.cells #[.slice (some ⟨b, o, none⟩) l.length cap, .slice a0 ks0.length kc0, .int .i64 0] 105 (0, 0))).keeps n0 (by simp)
  have m1 := (sm_alloc0 w0 (.cells #[.slice (some ⟨b, o, none⟩) l.length cap, .slice a0 ks0.length kc0, .int .i64 0] 105 (0, 0))).keeps n1 (by simp)
  have m2 := (sm_alloc0 w0 (.cells #[.slice (some ⟨b, o, none⟩) l.length cap, .slice a0 ks0.length kc0, .int .i64 0] 105 (0, 0))).keeps n2 (by simp)
  have m3 := (sm_alloc0 w0 (.cells #[.slice (some ⟨b, o, none⟩) l.length cap, .slice a0 ks0.length kc0, .int .i64 0] 105 (0, 0))).keeps n3 (by simp)
  have m4 := (sm_alloc0 w0 (.cells #[.slice (some ⟨b, o, none⟩) l.length cap, .slice a0 ks0.length kc0, .int .i64 0] 105 (0, 0))).keeps n4 (by simp)
  have m5 := (sm_alloc0 w0 (.cells #[.slice (some ⟨b, o, none⟩) l.length cap, .slice a0 ks0.length kc0, .int .i64 0] 105 (0, 0))).keeps n5 (by simp)
  clear hv hs0 hvl HC
  go_wp2_with fail
  refine (all_go w0.heap.size b o cap _ _ l _ ks0 _ [10] _ (by simp) HR0.out HK0.out hn hl0 rfl (by decide)).mono ?_
  rintro e w1x ⟨lv1, dn1, ks1, rfl, q1, q2, q3, q4, q5⟩
  have HQ1 : Hid (ks0 = dn1 ++ ks1) := q1
  have HD1 : Hid (∀ k, k ∈ dn1 → kd l k ∈ ([10] : List Int)) := q2
  have HS1 : Hid (Sm [w0.heap.size] ((w0.alloc (.cells #[.slice (some ⟨b, o, none⟩) l.length cap, .slice a0 ks0.length kc0, .int .i64 0] 105 (0, 0))).alloc (.cells #[.int .i64 8, .string x1, .string x2, .string x3, .int .i64 x4, .int .i64 x5] 31 (0, 0))) w1x) := HS0.out.trans q4
  have HR1 : Hid (RowAt w1x w0.heap.size b o cap l lv1 ks1 (dn1.length : Int)) := q5
  have HK1 : Hid (∀ k, k ∈ ks1 → k < l.length) := fun k hk => HK0.out k (by rw [q1]; simp [hk])
  have hl1 : ks1.length ≤ 2147483647 := by rw [q1] at hl0; simp at hl0; omega
  have c21 : w1x.cell? ⟨w0.heap.size, 2, none⟩ = some (.int .i64 (dn1.length : Int)) := cell_of q5.obj rfl
  clear q1 q2 q3 q4 q5
  go_wp2_with fail
  refine (one_isSelections w0.heap.size b o cap l _ ks1 _ _ HR1.out HK1.out hn).mono ?_
  rintro e w2x ⟨q, rfl, g0, g1⟩
  cases q with
  | false =>
    have HS2 : Hid (Sm [w0.heap.size] ((w0.alloc (.cells #[.slice (some ⟨b, o, none⟩) l.length cap, .slice a0 ks0.length kc0, .int .i64 0] 105 (0, 0))).alloc (.cells #[.int .i64 8, .string x1, .string x2, .string x3, .int .i64 x4, .int .i64 x5] 31 (0, 0))) w2x) := HS1.out.trans (g0 rfl).of_nil
    clear g0 g1
    first | go_wp2_with fail | skip
    all_goals go_ret
    all_goals exact shaped_no H0.out hge HS2.out
  | true =>
    obtain ⟨k2, ks2, q1, q2, q3, lv2, q4⟩ := g1 rfl
    have HQ2 : Hid (ks1 = k2 :: ks2) := q1
    have HP2 : Hid (isSB (kd l k2) = true) := q2
    have HS2 : Hid (Sm [w0.heap.size] ((w0.alloc (.cells #[.slice (some ⟨b, o, none⟩) l.length cap, .slice a0 ks0.length kc0, .int .i64 0] 105 (0, 0))).alloc (.cells #[.int .i64 8, .string x1, .string x2, .string x3, .int .i64 x4, .int .i64 x5] 31 (0, 0))) w2x) := HS1.out.trans q3
    have HR2 : Hid (RowAt w2x w0.heap.size b o cap l lv2 ks2 (dn1.length : Int)) := q4
    have HK2 : Hid (∀ k, k ∈ ks2 → k < l.length) := fun k hk => HK1.out k (by rw [q1]; simp [hk])
    have hl2 : ks2.length ≤ 2147483647 := by rw [q1] at hl1; simp at hl1; omega
    clear g0 g1 q1 q2 q3 q4
    cases ks2 with
    | nil =>
      go_wp2_with (go_at_call 34; refine (end_nil w0.heap.size b o cap l _ _ _ HR2.out).mono ?_; rintro e w' ⟨rfl, hww⟩; rw [hww]; clear hww w')
      all_goals go_ret
      all_goals exact shaped_ok (shp_sel (.inr (.inr hk.out)) ⟨k2, by rw [← HQ0.out, HQ1.out, HQ2.out]; simp, sb_is HP2.out⟩) H0.out hge HS2.out
    | cons a t =>
      go_wp2_with (go_at_call 34; refine (end_cons w0.heap.size b o cap l _ a t _ _ HR2.out).mono ?_; rintro e w' ⟨rfl, hww⟩; rw [hww]; clear hww w')
      all_goals go_ret
      all_goals exact shaped_no H0.out hge HS2.out

set_option maxRecDepth 100000 in
set_option maxHeartbeats 8000000 in
theorem shaped_4 (l : List Nd) (i b o cap : Nat) (w : World) (hd : DocAt w b o l) (hti : TreeIn l 0 l.length) (hi : i < l.length) (hn : l.length ≤ 2147483647) (hk' : kd l i = 4) :
    Calls Tryz.prog 19 #[.slice (some ⟨b, o, none⟩) l.length cap, .int .i64 (i : Int)] w (ShapedPost l i w) := by
  have hk : Hid (kd l i = 4) := hk'
  obtain ⟨hsz, hsl, kks, hch⟩ := hti i (Nat.zero_le _) hi
  have hch := kids_ch ⟨kks, hch⟩
  obtain ⟨ks0, hks0⟩ : ∃ k, k = kids l i := ⟨_, rfl⟩
  rw [← hks0] at hch
  have HQ0 : Hid (ks0 = kids l i) := hks0
  have hl0 : ks0.length ≤ 2147483647 := by have := hch.le; omega
  have HK0 : Hid (∀ k, k ∈ ks0 → k < l.length) := fun k hk => by have := hch.mem k hk; omega
  have HC : Hid (Calls Tryz.prog 10 #[.slice (some ⟨b, o, none⟩) l.length cap, .int .i64 (i : Int)] w fun e w' => ∃ v, e = .returned v ∧ IntsAt w' v ks0 ∧ Sm [] w w' ∧ ∀ b o n c, v = .slice (some ⟨b, o, none⟩) n c → b < w'.heap.size) := kids2_any l i b o cap ks0 w hd hi hn hch hsl
  obtain ⟨n0, n1, n2, n3, n4, n5⟩ := hd i hi
  rw [← kd_at hi, hk'] at n0
  generalize l[i].name = x1 at *
  generalize l[i].alias = x2 at *
  generalize l[i].text = x3 at *
  generalize l[i].flag = x4 at *
  generalize l[i].size = x5 at *
  have ht : Hid (TreeIn l 0 l.length) := hti
  have HD : Hid (DocAt w b o l) := hd
  have hb : b < w.heap.size := hd.lt (by omega)
  have z1 : (0 : Int) ≤ (i : Int) := by omega
  have z2 : (i : Int) < (l.length : Int) := by omega
  clear hk' hti hd hks0 hch
  go_enter Tryz.func19, Tryz.ntmps19
  go_wp2_with fail
  refine HC.out.mono ?_
  rintro e w0 ⟨v, rfl, hv, hs0, hvl⟩
  have hv' := hv
  obtain ⟨a0, kc0, rfl, _, _, _⟩ := hv'
  have HR0 : Hid (RowAt ((w0.alloc (.cells #[.slice (some ⟨b, o, none⟩) l.length cap, .slice a0 ks0.length kc0, .int .i64 0] 105 (0, 0))).alloc (.cells #[.int .i64 4, .string x1, .string x2, .string x3, .int .i64 x4, .int .i64 x5] 31 (0, 0))) w0.heap.size b o cap l (.slice a0 ks0.length kc0) ks0 0) := row_made hv (HD.out.sm0 hs0) (by have := hs0.size; omega) hvl _
  have H0 : Hid (Sm [] w ((w0.alloc (.cells #[.slice (some ⟨b, o, none⟩) l.length cap, .slice a0 ks0.length kc0, .int .i64 0] 105 (0, 0))).alloc (.cells #[.int .i64 4, .string x1, .string x2, .string x3, .int .i64 x4, .int .i64 x5] 31 (0, 0)))) := (hs0.alloc _).alloc _
  have HS0 : Hid (Sm [w0.heap.size] ((w0.alloc (.cells #[.slice (some ⟨b, o, none⟩) l.length cap, .slice a0 ks0.length kc0, .int .i64 0] 105 (0, 0))).alloc (.cells #[.int .i64 4, .string x1, .string x2, .string x3, .int .i64 x4, .int .i64 x5] 31 (0, 0))) ((w0.alloc (.cells #[.slice (some ⟨b, o, none⟩) l.length cap, .slice a0 ks0.length kc0, .int .i64 0] 105 (0, 0))).alloc (.cells #[.int .i64 4, .string x1, .string x2, .string x3, .int .i64 x4, .int .i64 x5] 31 (0, 0)))) := Sm.refl _ _
  have hge : w.heap.size ≤ w0.heap.size := hs0.size
  have n0 := hs0.keeps n0 (by simp)
  have n1 := hs0.keeps n1 (by simp)
  have n2 := hs0.keeps n2 (by simp)
  have n3 := hs0.keeps n3 (by simp)
  have n4 := hs0.keeps n4 (by simp)
  have n5 := hs0.keeps n5 (by simp)
  have m0 := (sm_alloc0 w0 (.cells #[.slice (some ⟨b, o, none⟩) l.length cap, .slice a0 ks0.length kc0, .int .i64 0] 105 (0, 0))).keeps n0 (by simp)
  have m1 := (sm_alloc0 w0 (.cells #[.slice (some ⟨b, o, none⟩) l.length cap, .slice a0 ks0.length kc0, .int .i64 0] 105 (0, 0))).keeps n1 (by simp)
  have m2 := (sm_alloc0 w0 (.cells #[.slice (some ⟨b, o, none⟩) l.length cap, .slice a0 ks0.length kc0, .int .i64 0] 105 (0, 0))).keeps n2 (by simp)
  have m3 := (sm_alloc0 w0 (.cells #[.slice (some ⟨b, o, none⟩) l.length cap, .slice a0 ks0.length kc0, .int .i64 0] 105 (0, 0))).keeps n3 (by simp)
  have m4 := (sm_alloc0 w0 (.cells #[.slice (some ⟨b, o, none⟩) l.length cap, .slice a0 ks0.length kc0, .int .i64 0] 105 (0, 0))).keeps n4 (by simp)
  have m5 := (sm_alloc0 w0 (.cells #[.slice (some ⟨b, o, none⟩) l.length cap, .slice a0 ks0.length kc0, .int .i64 0] 105 (0, 0))).keeps n5 (by simp)
  clear hv hs0 hvl HC
  first | go_wp2_with fail | skip
  refine (one_isType w0.heap.size b o cap l _ ks0 _ _ HR0.out HK0.out hn).mono ?_
  rintro e w1x ⟨q, rfl, g0, g1⟩
  cases q with
  | false =>
    have HS1 : Hid (Sm [w0.heap.size] ((w0.alloc (.cells #[.slice (some ⟨b, o, none⟩) l.length cap, .slice a0 ks0.length kc0, .int .i64 0] 105 (0, 0))).alloc (.cells #[.int .i64 4, .string x1, .string x2, .string x3, .int .i64 x4, .int .i64 x5] 31 (0, 0))) w1x) := HS0.out.trans (g0 rfl).of_nil
    clear g0 g1
    first | go_wp2_with fail | skip
    all_goals go_ret
    all_goals exact shaped_no H0.out hge HS1.out
  | true =>
    obtain ⟨k1, ks1, q1, q2, q3, lv1, q4⟩ := g1 rfl
    have HQ1 : Hid (ks0 = k1 :: ks1) := q1
    have HP1 : Hid (isTB (kd l k1) = true) := q2
    have HS1 : Hid (Sm [w0.heap.size] ((w0.alloc (.cells #[.slice (some ⟨b, o, none⟩) l.length cap, .slice a0 ks0.length kc0, .int .i64 0] 105 (0, 0))).alloc (.cells #[.int .i64 4, .string x1, .string x2, .string x3, .int .i64 x4, .int .i64 x5] 31 (0, 0))) w1x) := HS0.out.trans q3
    have HR1 : Hid (RowAt w1x w0.heap.size b o cap l lv1 ks1 0) := q4
    have HK1 : Hid (∀ k, k ∈ ks1 → k < l.length) := fun k hk => HK0.out k (by rw [q1]; simp [hk])
    have hl1 : ks1.length ≤ 2147483647 := by rw [q1] at hl0; simp at hl0; omega
    clear g0 g1 q1 q2 q3 q4
    cases ks1 with
    | nil =>
      go_wp2_with (go_at_call 34; refine (end_nil w0.heap.size b o cap l _ _ _ HR1.out).mono ?_; rintro e w' ⟨rfl, hww⟩; rw [hww]; clear hww w')
      all_goals go_ret
      all_goals exact shaped_ok (shp_var hk.out ⟨k1, tb_is HP1.out, .inl (by rw [← HQ0.out, HQ1.out])⟩) H0.out hge HS1.out
    | cons a t =>
      go_wp2_with (go_at_call 34; refine (end_cons w0.heap.size b o cap l _ a t _ _ HR1.out).mono ?_; rintro e w' ⟨rfl, hww⟩; rw [hww]; clear hww w')
      obtain ⟨ks1, hkn⟩ : ∃ k, k = a :: t := ⟨_, rfl⟩
      rw [← hkn] at HR1 HK1 hl1 HQ1
      clear hkn
      first | go_wp2_with fail | skip
      refine (one_isValue w0.heap.size b o cap l _ ks1 _ _ HR1.out HK1.out hn).mono ?_
      rintro e w2x ⟨q, rfl, g0, g1⟩
      cases q with
      | false =>
        have HS2 : Hid (Sm [w0.heap.size] ((w0.alloc (.cells #[.slice (some ⟨b, o, none⟩) l.length cap, .slice a0 ks0.length kc0, .int .i64 0] 105 (0, 0))).alloc (.cells #[.int .i64 4, .string x1, .string x2, .string x3, .int .i64 x4, .int .i64 x5] 31 (0, 0))) w2x) := HS1.out.trans (g0 rfl).of_nil
        clear g0 g1
        first | go_wp2_with fail | skip
        all_goals go_ret
        all_goals exact shaped_no H0.out hge HS2.out
      | true =>
        obtain ⟨k2, ks2, q1, q2, q3, lv2, q4⟩ := g1 rfl
        have HQ2 : Hid (ks1 = k2 :: ks2) := q1
        have HP2 : Hid (isVB (kd l k2) = true) := q2
        have HS2 : Hid (Sm [w0.heap.size] ((w0.alloc (.cells #[.slice (some ⟨b, o, none⟩) l.length cap, .slice a0 ks0.length kc0, .int .i64 0] 105 (0, 0))).alloc (.cells #[.int .i64 4, .string x1, .string x2, .string x3, .int .i64 x4, .int .i64 x5] 31 (0, 0))) w2x) := HS1.out.trans q3
        have HR2 : Hid (RowAt w2x w0.heap.size b o cap l lv2 ks2 0) := q4
        have HK2 : Hid (∀ k, k ∈ ks2 → k < l.length) := fun k hk => HK1.out k (by rw [q1]; simp [hk])
        have hl2 : ks2.length ≤ 2147483647 := by rw [q1] at hl1; simp at hl1; omega
        clear g0 g1 q1 q2 q3 q4
        cases ks2 with
        | nil =>
          go_wp2_with (go_at_call 34; refine (end_nil w0.heap.size b o cap l _ _ _ HR2.out).mono ?_; rintro e w' ⟨rfl, hww⟩; rw [hww]; clear hww w')
          first | go_wp2_with fail | skip
          refine (fixedAt_any l i b o cap _ HR2.out.doc hi hn hsz hsl).mono ?_
          rintro e wk ⟨q, rfl, g0⟩
          have HSk : Hid (Sm [w0.heap.size] ((w0.alloc (.cells #[.slice (some ⟨b, o, none⟩) l.length cap, .slice a0 ks0.length kc0, .int .i64 0] 105 (0, 0))).alloc (.cells #[.int .i64 4, .string x1, .string x2, .string x3, .int .i64 x4, .int .i64 x5] 31 (0, 0))) wk) := HS2.out.trans g0.of_nil
          clear g0
          first | go_wp2_with fail | skip
          all_goals go_ret
          all_goals exact shaped_ok (shp_var hk.out ⟨k1, tb_is HP1.out, .inr ⟨k2, vb_is HP2.out, by rw [← HQ0.out, HQ1.out, HQ2.out]⟩⟩) H0.out hge HSk.out
        | cons a t =>
          go_wp2_with (go_at_call 34; refine (end_cons w0.heap.size b o cap l _ a t _ _ HR2.out).mono ?_; rintro e w' ⟨rfl, hww⟩; rw [hww]; clear hww w')
          all_goals go_ret
          all_goals exact shaped_no H0.out hge HS2.out

set_option maxRecDepth 100000 in
set_option maxHeartbeats 8000000 in
theorem shaped_5 (l : List Nd) (i b o cap : Nat) (w : World) (hd : DocAt w b o l) (hti : TreeIn l 0 l.length) (hi : i < l.length) (hn : l.length ≤ 2147483647) (hk' : kd l i = 5) :
    Calls Tryz.prog 19 #[.slice (some ⟨b, o, none⟩) l.length cap, .int .i64 (i : Int)] w (ShapedPost l i w) := by
  have hk : Hid (kd l i = 5) := hk'
  obtain ⟨hsz, hsl, kks, hch⟩ := hti i (Nat.zero_le _) hi
  have hch := kids_ch ⟨kks, hch⟩
  obtain ⟨ks0, hks0⟩ : ∃ k, k = kids l i := ⟨_, rfl⟩
  rw [← hks0] at hch
  have HQ0 : Hid (ks0 = kids l i) := hks0
  have hl0 : ks0.length ≤ 2147483647 := by have := hch.le; omega
  have HK0 : Hid (∀ k, k ∈ ks0 → k < l.length) := fun k hk => by have := hch.mem k hk; omega
  have HC : Hid (Calls Tryz.prog 10 #[.slice (some ⟨b, o, none⟩) l.length cap, .int .i64 (i : Int)] w fun e w' => ∃ v, e = .returned v ∧ IntsAt w' v ks0 ∧ Sm [] w w' ∧ ∀ b o n c, v = .slice (some ⟨b, o, none⟩) n c → b < w'.heap.size) := kids2_any l i b o cap ks0 w hd hi hn hch hsl
  obtain ⟨n0, n1, n2, n3, n4, n5⟩ := hd i hi
  rw [← kd_at hi, hk'] at n0
  generalize l[i].name = x1 at *
  generalize l[i].alias = x2 at *
  generalize l[i].text = x3 at *
  generalize l[i].flag = x4 at *
  generalize l[i].size = x5 at *
  have ht : Hid (TreeIn l 0 l.length) := hti
  have HD : Hid (DocAt w b o l) := hd
  have hb : b < w.heap.size := hd.lt (by omega)
  have z1 : (0 : Int) ≤ (i : Int) := by omega
  have z2 : (i : Int) < (l.length : Int) := by omega
  clear hk' hti hd hks0 hch
  go_enter Tryz.func19, Tryz.ntmps19
  go_wp2_with fail
  refine HC.out.mono ?_
  rintro e w0 ⟨v, rfl, hv, hs0, hvl⟩
  have hv' := hv
  obtain ⟨a0, kc0, rfl, _, _, _⟩ := hv'
  have HR0 : Hid (RowAt ((w0.alloc (.cells #[.slice (some ⟨b, o, none⟩) l.length cap, .slice a0 ks0.length kc0, .int .i64 0] 105 (0, 0))).alloc (.cells #[.int .i64 5, .string x1, .string x2, .string x3, .int .i64 x4, .int .i64 x5] 31 (0, 0))) w0.heap.size b o cap l (.slice a0 ks0.length kc0) ks0 0) := row_made hv (HD.out.sm0 hs0) (by have := hs0.size; omega) hvl _
  have H0 : Hid (Sm [] w ((w0.alloc (.cells #[.slice (some ⟨b, o, none⟩) l.length cap, .slice a0 ks0.length kc0, .int .i64 0] 105 (0, 0))).alloc (.cells #[.int .i64 5, .string x1, .string x2, .string x3, .int .i64 x4, .int .i64 x5] 31 (0, 0)))) := (hs0.alloc _).alloc _
  have HS0 : Hid (Sm [w0.heap.size] ((w0.alloc (.cells #[.slice (some ⟨b, o, none⟩) l.length cap, .slice a0 ks0.length kc0, .int .i64 0] 105 (0, 0))).alloc (.cells #[.int .i64 5, .string x1, .string x2, .string x3, .int .i64 x4, .int .i64 x5] 31 (0, 0))) ((w0.alloc (.cells #[.slice (some ⟨b, o, none⟩) l.length cap, .slice a0 ks0.length kc0, .int .i64 0] 105 (0, 0))).alloc (.cells #[.int .i64 5, .string x1, .string x2, .string x3, .int .i64 x4, .int .i64 x5] 31 (0, 0)))) := Sm.refl _ _
  have hge : w.heap.size ≤ w0.heap.size := hs0.size
  have n0 := hs0.keeps n0 (by simp)
  have n1 := hs0.keeps n1 (by simp)
  have n2 := hs0.keeps n2 (by simp)
  have n3 := hs0.keeps n3 (by simp)
  have n4 := hs0.keeps n4 (by simp)
  have n5 := hs0.keeps n5 (by simp)
  have m0 := (sm_alloc0 w0 (.cells #[.slice (some ⟨b, o, none⟩) l.length cap, .slice a0 ks0.length kc0, .int .i64 0] 105 (0, 0))).keeps n0 (by simp)
  have m1 := (sm_alloc0 w0 (.cells #[.slice (some ⟨b, o, none⟩) l.length cap, .slice a0 ks0.length kc0, .int .i64 0] 105 (0, 0))).keeps n1 (by simp)
  have m2 := (sm_alloc0 w0 (.cells #[.slice (some ⟨b, o, none⟩) l.length cap, .slice a0 ks0.length kc0, .int .i64 0] 105 (0, 0))).keeps n2 (by simp)
  have m3 := (sm_alloc0 w0 (.cells #[.slice (some ⟨b, o, none⟩) l.length cap, .slice a0 ks0.length kc0, .int .i64 0] 105 (0, 0))).keeps n3 (by simp)
  have m4 := (sm_alloc0 w0 (.cells #[.slice (some ⟨b, o, none⟩) l.length cap, .slice a0 ks0.length kc0, .int .i64 0] 105 (0, 0))).keeps n4 (by simp)
  have m5 := (sm_alloc0 w0 (.cells #[.slice (some ⟨b, o, none⟩) l.length cap, .slice a0 ks0.length kc0, .int .i64 0] 105 (0, 0))).keeps n5 (by simp)
  clear hv hs0 hvl HC
  go_wp2_with fail
  refine (all_go w0.heap.size b o cap _ _ l _ ks0 _ [6, 7, 8] _ (by simp) HR0.out HK0.out hn hl0 rfl (by decide)).mono ?_
  rintro e w1x ⟨lv1, dn1, ks1, rfl, q1, q2, q3, q4, q5⟩
  have HQ1 : Hid (ks0 = dn1 ++ ks1) := q1
  have HD1 : Hid (∀ k, k ∈ dn1 → kd l k ∈ ([6, 7, 8] : List Int)) := q2
  have HS1 : Hid (Sm [w0.heap.size] ((w0.alloc (.cells #[.slice (some ⟨b, o, none⟩) l.length cap, .slice a0 ks0.length kc0, .int .i64 0] 105 (0, 0))).alloc (.cells #[.int .i64 5, .string x1, .string x2, .string x3, .int .i64 x4, .int .i64 x5] 31 (0, 0))) w1x) := HS0.out.trans q4
  have HR1 : Hid (RowAt w1x w0.heap.size b o cap l lv1 ks1 (dn1.length : Int)) := q5
  have HK1 : Hid (∀ k, k ∈ ks1 → k < l.length) := fun k hk => HK0.out k (by rw [q1]; simp [hk])
  have hl1 : ks1.length ≤ 2147483647 := by rw [q1] at hl0; simp at hl0; omega
  have c21 : w1x.cell? ⟨w0.heap.size, 2, none⟩ = some (.int .i64 (dn1.length : Int)) := cell_of q5.obj rfl
  clear q1 q2 q3 q4 q5
  cases ks1 with
  | nil =>
    go_wp2_with (go_at_call 34; refine (end_nil w0.heap.size b o cap l _ _ _ HR1.out).mono ?_; rintro e w' ⟨rfl, hww⟩; rw [hww]; clear hww w')
    all_goals go_ret
    all_goals exact shaped_ok (shp_sels hk.out (fun a ha => by rw [← HQ0.out, HQ1.out] at ha; simp at ha; have := HD1.out a ha; simpa using this)) H0.out hge HS1.out
  | cons a t =>
    go_wp2_with (go_at_call 34; refine (end_cons w0.heap.size b o cap l _ a t _ _ HR1.out).mono ?_; rintro e w' ⟨rfl, hww⟩; rw [hww]; clear hww w')
    all_goals go_ret
    all_goals exact shaped_no H0.out hge HS1.out

set_option maxRecDepth 100000 in
set_option maxHeartbeats 8000000 in
theorem shaped_6 (l : List Nd) (i b o cap : Nat) (w : World) (hd : DocAt w b o l) (hti : TreeIn l 0 l.length) (hi : i < l.length) (hn : l.length ≤ 2147483647) (hk' : kd l i = 6) :
    Calls Tryz.prog 19 #[.slice (some ⟨b, o, none⟩) l.length cap, .int .i64 (i : Int)] w (ShapedPost l i w) := by
  have hk : Hid (kd l i = 6) := hk'
  obtain ⟨hsz, hsl, kks, hch⟩ := hti i (Nat.zero_le _) hi
  have hch := kids_ch ⟨kks, hch⟩
  obtain ⟨ks0, hks0⟩ : ∃ k, k = kids l i := ⟨_, rfl⟩
  rw [← hks0] at hch
  have HQ0 : Hid (ks0 = kids l i) := hks0
  have hl0 : ks0.length ≤ 2147483647 := by have := hch.le; omega
  have HK0 : Hid (∀ k, k ∈ ks0 → k < l.length) := fun k hk => by have := hch.mem k hk; omega
  have HC : Hid (Calls Tryz.prog 10 #[.slice (some ⟨b, o, none⟩) l.length cap, .int .i64 (i : Int)] w fun e w' => ∃ v, e = .returned v ∧ IntsAt w' v ks0 ∧ Sm [] w w' ∧ ∀ b o n c, v = .slice (some ⟨b, o, none⟩) n c → b < w'.heap.size) := kids2_any l i b o cap ks0 w hd hi hn hch hsl
  obtain ⟨n0, n1, n2, n3, n4, n5⟩ := hd i hi
  rw [← kd_at hi, hk'] at n0
  generalize l[i].name = x1 at *
  generalize l[i].alias = x2 at *
  generalize l[i].text = x3 at *
  generalize l[i].flag = x4 at *
  generalize l[i].size = x5 at *
  have ht : Hid (TreeIn l 0 l.length) := hti
  have HD : Hid (DocAt w b o l) := hd
  have hb : b < w.heap.size := hd.lt (by omega)
  have z1 : (0 : Int) ≤ (i : Int) := by omega
  have z2 : (i : Int) < (l.length : Int) := by omega
  clear hk' hti hd hks0 hch
  go_enter Tryz.func19, Tryz.ntmps19
  go_wp2_with fail
  refine HC.out.mono ?_
  rintro e w0 ⟨v, rfl, hv, hs0, hvl⟩
  have hv' := hv
  obtain ⟨a0, kc0, rfl, _, _, _⟩ := hv'
  have HR0 : Hid (RowAt ((w0.alloc (.cells #[.slice (some ⟨b, o, none⟩) l.length cap, .slice a0 ks0.length kc0, .int .i64 0] 105 (0, 0))).alloc (.cells #[.int .i64 6, .string x1, .string x2, .string x3, .int .i64 x4, .int .i64 x5] 31 (0, 0))) w0.heap.size b o cap l (.slice a0 ks0.length kc0) ks0 0) := row_made hv (HD.out.sm0 hs0) (by have := hs0.size; omega) hvl _
  have H0 : Hid (Sm [] w ((w0.alloc (.cells #[.slice (some ⟨b, o, none⟩) l.length cap, .slice a0 ks0.length kc0, .int .i64 0] 105 (0, 0))).alloc (.cells #[.int .i64 6, .string x1, .string x2, .string x3, .int .i64 x4, .int .i64 x5] 31 (0, 0)))) := (hs0.alloc _).alloc _
  have HS0 : Hid (Sm [w0.heap.size] ((w0.alloc (.cells #[.slice (some ⟨b, o, none⟩) l.length cap, .slice a0 ks0.length kc0, .int .i64 0] 105 (0, 0))).alloc (.cells #[.int .i64 6, .string x1, .string x2, .string x3, .int .i64 x4, .int .i64 x5] 31 (0, 0))) ((w0.alloc (.cells #[.slice (some ⟨b, o, none⟩) l.length cap, .slice a0 ks0.length kc0, .int .i64 0] 105 (0, 0))).alloc (.cells #[.int .i64 6, .string x1, .string x2, .string x3, .int .i64 x4, .int .i64 x5] 31 (0, 0)))) := Sm.refl _ _
  have hge : w.heap.size ≤ w0.heap.size := hs0.size
  have n0 := hs0.keeps n0 (by simp)
  have n1 := hs0.keeps n1 (by simp)
  have n2 := hs0.keeps n2 (by simp)
  have n3 := hs0.keeps n3 (by simp)
  have n4 := hs0.keeps n4 (by simp)
  have n5 := hs0.keeps n5 (by simp)
  have m0 := (sm_alloc0 w0 (.cells #[.slice (some ⟨b, o, none⟩) l.length cap, .slice a0 ks0.length kc0, .int .i64 0] 105 (0, 0))).keeps n0 (by simp)
  have m1 := (sm_alloc0 w0 (.cells #[.slice (some ⟨b, o, none⟩) l.length cap, .slice a0 ks0.length kc0, .int .i64 0] 105 (0, 0))).keeps n1 (by simp)
  have m2 := (sm_alloc0 w0 (.cells #[.slice (some ⟨b, o, none⟩) l.length cap, .slice a0 ks0.length kc0, .int .i64 0] 105 (0, 0))).keeps n2 (by simp)
  have m3 := (sm_alloc0 w0 (.cells #[.slice (some ⟨b, o, none⟩) l.length cap, .slice a0 ks0.length kc0, .int .i64 0] 105 (0, 0))).keeps n3 (by simp)
  have m4 := (sm_alloc0 w0 (.cells #[.slice (some ⟨b, o, none⟩) l.length cap, .slice a0 ks0.length kc0, .int .i64 0] 105 (0, 0))).keeps n4 (by simp)
  have m5 := (sm_alloc0 w0 (.cells #[.slice (some ⟨b, o, none⟩) l.length cap, .slice a0 ks0.length kc0, .int .i64 0] 105 (0, 0))).keeps n5 (by simp)
  clear hv hs0 hvl HC
  first | go_wp2_with fail | skip
  refine (all_go w0.heap.size b o cap _ _ l _ ks0 _ [9] _ (by simp) HR0.out HK0.out hn hl0 rfl (by decide)).mono ?_
  rintro e w1x ⟨lv1, dn1, ks1, rfl, q1, q2, q3, q4, q5⟩
  have HQ1 : Hid (ks0 = dn1 ++ ks1) := q1
  have HD1 : Hid (∀ k, k ∈ dn1 → kd l k ∈ ([9] : List Int)) := q2
  have HS1 : Hid (Sm [w0.heap.size] ((w0.alloc (.cells #[.slice (some ⟨b, o, none⟩) l.length cap, .slice a0 ks0.length kc0, .int .i64 0] 105 (0, 0))).alloc (.cells #[.int .i64 6, .string x1, .string x2, .string x3, .int .i64 x4, .int .i64 x5] 31 (0, 0))) w1x) := HS0.out.trans q4
  have HR1 : Hid (RowAt w1x w0.heap.size b o cap l lv1 ks1 (dn1.length : Int)) := q5
  have HK1 : Hid (∀ k, k ∈ ks1 → k < l.length) := fun k hk => HK0.out k (by rw [q1]; simp [hk])
  have hl1 : ks1.length ≤ 2147483647 := by rw [q1] at hl0; simp at hl0; omega
  have c21 : w1x.cell? ⟨w0.heap.size, 2, none⟩ = some (.int .i64 (dn1.length : Int)) := cell_of q5.obj rfl
  clear q1 q2 q3 q4 q5
  first | go_wp2_with fail | skip
  refine (all_go w0.heap.size b o cap _ _ l _ ks1 _ [10] _ rfl HR1.out HK1.out hn hl1 rfl (by decide)).mono ?_
  rintro e w2x ⟨lv2, dn2, ks2, rfl, q1, q2, q3, q4, q5⟩
  have HQ2 : Hid (ks1 = dn2 ++ ks2) := q1
  have HD2 : Hid (∀ k, k ∈ dn2 → kd l k ∈ ([10] : List Int)) := q2
  have HS2 : Hid (Sm [w0.heap.size] ((w0.alloc (.cells #[.slice (some ⟨b, o, none⟩) l.length cap, .slice a0 ks0.length kc0, .int .i64 0] 105 (0, 0))).alloc (.cells #[.int .i64 6, .string x1, .string x2, .string x3, .int .i64 x4, .int .i64 x5] 31 (0, 0))) w2x) := HS1.out.trans q4
  have HR2 : Hid (RowAt w2x w0.heap.size b o cap l lv2 ks2 (dn2.length : Int)) := q5
  have HK2 : Hid (∀ k, k ∈ ks2 → k < l.length) := fun k hk => HK1.out k (by rw [q1]; simp [hk])
  have hl2 : ks2.length ≤ 2147483647 := by rw [q1] at hl1; simp at hl1; omega
  have c22 : w2x.cell? ⟨w0.heap.size, 2, none⟩ = some (.int .i64 (dn2.length : Int)) := cell_of q5.obj rfl
  clear q1 q2 q3 q4 q5
  first | go_wp2_with fail | skip
  refine (all_go w0.heap.size b o cap _ _ l _ ks2 _ [5] _ rfl HR2.out HK2.out hn hl2 rfl (by decide)).mono ?_
  rintro e w3x ⟨lv3, dn3, ks3, rfl, q1, q2, q3, q4, q5⟩
  have HQ3 : Hid (ks2 = dn3 ++ ks3) := q1
  have HD3 : Hid (∀ k, k ∈ dn3 → kd l k ∈ ([5] : List Int)) := q2
  have HS3 : Hid (Sm [w0.heap.size] ((w0.alloc (.cells #[.slice (some ⟨b, o, none⟩) l.length cap, .slice a0 ks0.length kc0, .int .i64 0] 105 (0, 0))).alloc (.cells #[.int .i64 6, .string x1, .string x2, .string x3, .int .i64 x4, .int .i64 x5] 31 (0, 0))) w3x) := HS2.out.trans q4
  have HR3 : Hid (RowAt w3x w0.heap.size b o cap l lv3 ks3 (dn3.length : Int)) := q5
  have HK3 : Hid (∀ k, k ∈ ks3 → k < l.length) := fun k hk => HK2.out k (by rw [q1]; simp [hk])
  have hl3 : ks3.length ≤ 2147483647 := by rw [q1] at hl2; simp at hl2; omega
  have c23 : w3x.cell? ⟨w0.heap.size, 2, none⟩ = some (.int .i64 (dn3.length : Int)) := cell_of q5.obj rfl
  clear q1 q2 q3 q4 q5
  cases ks3 with
  | nil =>
    go_wp2_with (go_at_call 34; refine (end_nil w0.heap.size b o cap l _ _ _ HR3.out).mono ?_; rintro e w' ⟨rfl, hww⟩; rw [hww]; clear hww w')
    first | go_wp2_with fail | skip
    refine (most_is w0.heap.size b o cap l _ _ _ _ HR3.out).mono ?_
    rintro e w' ⟨q, rfl, hww⟩
    rw [hww]
    clear hww w'
    cases q with
    | false =>
      first | go_wp2_with fail | skip
      all_goals go_ret
      all_goals exact shaped_no H0.out hge HS3.out
    | true =>
      first | go_wp2_with fail | skip
      all_goals go_ret
      all_goals exact shaped_ok (shp_vac (by have := hk.out; omega)) H0.out hge HS3.out
  | cons a t =>
    go_wp2_with (go_at_call 34; refine (end_cons w0.heap.size b o cap l _ a t _ _ HR3.out).mono ?_; rintro e w' ⟨rfl, hww⟩; rw [hww]; clear hww w')
    all_goals go_ret
    all_goals exact shaped_no H0.out hge HS3.out

end

end Go.Proofs.YtigpnidffiaigaaGreat
