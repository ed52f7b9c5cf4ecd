/- Walks: the shape of a node: kinds (c). -/
import Derived.Test.YtigpnidffiaigaaGreatProg
import Derived.BigRegion
import Derived.Test.YtigpnidffiaigaaGreatQ35
set_option linter.unusedVariables false
set_option linter.unusedSimpArgs false
namespace Go.Proofs.YtigpnidffiaigaaGreat

section
open Go.RowKit

set_option maxRecDepth 100000 in
set_option maxHeartbeats 8000000 in
theorem shaped_7 (l : List Nd) (i b o cap : Nat) (w : World) (hd : DocAt w b o l) (hti : TreeIn l 0 l.length) (hi : i < l.length) (hn : l.length ≤ 2147483647) (hk' : kd l i = 7) :
    Calls Tryz.prog 19 #[.slice (some ⟨b, o, none⟩) l.length cap, .int .i64 (i : Int)] w (ShapedPost l i w) := by
  have hk : Hid (kd l i = 7) := hk'
  obtain ⟨hsz, hsl, kks, hch⟩ := hti i (Nat.zero_le _) hi
  have hch := kids_ch ⟨kks, hch⟩
  obtain ⟨ks0, hks0⟩ : ∃ k, k = kids l i := ⟨_, rfl⟩
  rw [← hks0] at hch
  have HQ0 : Hid (ks0 = kids l i) := hks0
  have hl0 : ks0.length ≤ 2147483647 := by have := hch.le; omega
  have HK0 : Hid (∀ k, k ∈ ks0 → k < l.length) := fun k hk => by have := hch.mem k hk; omega
  have HC : Hid (Calls Tryz.prog 10 #[.slice (some ⟨b, o, none⟩) l.length cap, .int .i64 (i : Int)] w fun e w' => ∃ v, e = .returned v ∧ IntsAt w' v ks0 ∧ Sm [] w w' ∧ ∀ b o n c, v = .slice (some ⟨b, o, none⟩) n c → b < w'.heap.size) := kids2_any l i b o cap ks0 w hd hi hn hch hsl
  obtain ⟨n0, n1, n2, n3, n4, n5⟩ := hd i hi
  rw [← kd_at hi, hk'] at n0
  generalize l[i].name = x1 at *
  generalize l[i].alias = x2 at *
  generalize l[i].text = x3 at *
  generalize l[i].flag = x4 at *
  generalize l[i].size = x5 at *
  have ht : Hid (TreeIn l 0 l.length) := hti
  have HD : Hid (DocAt w b o l) := hd
  have hb : b < w.heap.size := hd.lt (by omega)
  have z1 : (0 : Int) ≤ (i : Int) := by omega
  have z2 : (i : Int) < (l.length : Int) := by omega
  clear hk' hti hd hks0 hch
  go_enter Tryz.func19, Tryz.ntmps19
  go_wp2_with fail
  refine HC.out.mono ?_
  rintro e w0 ⟨v, rfl, hv, hs0, hvl⟩
  have hv' := hv
  obtain ⟨a0, kc0, rfl, _, _, _⟩ := hv'
  have HR0 : Hid (RowAt ((w0.alloc (.cells #[.slice (some ⟨b, o, none⟩) l.length cap, .slice a0 ks0.length kc0, .int .i64 0] 105 (0, 0))).alloc (.cells #[.int .i64 7, .string x1, .string x2, .string x3, .int .i64 x4, .int .i64 x5] 31 (0, 0))) w0.heap.size b o cap l (.slice a0 ks0.length kc0) ks0 0) := row_made hv (HD.out.sm0 hs0) (by have := hs0.size; omega) hvl _
  have H0 : Hid (Sm [] w ((w0.alloc (.cells #[.slice (some ⟨b, o, none⟩) l.length cap, .slice a0 ks0.length kc0, .int .i64 0] 105 (0, 0))).alloc (.cells #[.int .i64 7, .string x1, .string x2, .string x3, .int .i64 x4, .int .i64 x5] 31 (0, 0)))) := (hs0.alloc _).alloc _
  have HS0 : Hid (Sm [w0.heap.size] ((w0.alloc (.cells #[.slice (some ⟨b, o, none⟩) l.length cap, .slice a0 ks0.length kc0, .int .i64 0] 105 (0, 0))).alloc (.cells #[.int .i64 7, .string x1, .string x2, .string x3, .int .i64 x4, .int .i64 x5] 31 (0, 0))) ((w0.alloc (.cells #[.slice (some ⟨b, o, none⟩) l.length cap, .slice a0 ks0.length kc0, .int .i64 0] 105 (0, 0))).alloc (.cells #[.int .i64 7, .string x1, .string x2, .string x3, .int .i64 x4, .int .i64 x5] 31 (0, 0)))) := Sm.refl _ _
  have hge : w.heap.size ≤ w0.heap.size := hs0.size
  have n0 := hs0.keeps n0 (by simp)
  have n1 := hs0.keeps n1 (by simp)
  have n2 := hs0.keeps n2 (by simp)
  have n3 := hs0.keeps n3 (by simp)
  have n4 := hs0.keeps n4 (by simp)
  have n5 := hs0.keeps n5 (by simp)
  have m0 := (sm_alloc0 w0 (.cells #[.slice (some ⟨b, o, none⟩) l.length cap, .slice a0 ks0.length kc0, .int .i64 0] 105 (0, 0))).keeps n0 (by simp)
  have m1 := (sm_alloc0 w0 (.cells #[.slice (some ⟨b, o, none⟩) l.length cap, .slice a0 ks0.length kc0, .int .i64 0] 105 (0, 0))).keeps n1 (by simp)
  have m2 := (sm_alloc0 w0 (.cells #[.slice (some ⟨b, o, none⟩) l.length cap, .slice a0 ks0.length kc0, .int .i64 0] 105 (0, 0))).keeps n2 (by simp)
  have m3 := (sm_alloc0 w0 (.cells #[.slice (some ⟨b, o, none⟩) l.length cap, .slice a0 ks0.length kc0, .int .i64 0] 105 (0, 0))).keeps n3 (by simp)
  have m4 := (sm_alloc0 w0 (.cells #[.slice (some ⟨b, o, none⟩) l.length cap, .slice a0 ks0.length kc0, .int .i64 0] 105 (0, 0))).keeps n4 (by simp)
  have m5 := (sm_alloc0 w0 (.cells #[.slice (some ⟨b, o, none⟩) l.length cap, .slice a0 ks0.length kc0, .int .i64 0] 105 (0, 0))).keeps n5 (by simp)
  clear hv hs0 hvl HC
  go_wp2_with fail
  refine (all_go w0.heap.size b o cap _ _ l _ ks0 _ [10] _ (by simp) HR0.out HK0.out hn hl0 rfl (by decide)).mono ?_
  rintro e w1x ⟨lv1, dn1, ks1, rfl, q1, q2, q3, q4, q5⟩
  have HQ1 : Hid (ks0 = dn1 ++ ks1) := q1
  have HD1 : Hid (∀ k, k ∈ dn1 → kd l k ∈ ([10] : List Int)) := q2
  have HS1 : Hid (Sm [w0.heap.size] ((w0.alloc (.cells #[.slice (some ⟨b, o, none⟩) l.length cap, .slice a0 ks0.length kc0, .int .i64 0] 105 (0, 0))).alloc (.cells #[.int .i64 7, .string x1, .string x2, .string x3, .int .i64 x4, .int .i64 x5] 31 (0, 0))) w1x) := HS0.out.trans q4
  have HR1 : Hid (RowAt w1x w0.heap.size b o cap l lv1 ks1 (dn1.length : Int)) := q5
  have HK1 : Hid (∀ k, k ∈ ks1 → k < l.length) := fun k hk => HK0.out k (by rw [q1]; simp [hk])
  have hl1 : ks1.length ≤ 2147483647 := by rw [q1] at hl0; simp at hl0; omega
  have c21 : w1x.cell? ⟨w0.heap.size, 2, none⟩ = some (.int .i64 (dn1.length : Int)) := cell_of q5.obj rfl
  clear q1 q2 q3 q4 q5
  cases ks1 with
  | nil =>
    go_wp2_with (go_at_call 34; refine (end_nil w0.heap.size b o cap l _ _ _ HR1.out).mono ?_; rintro e w' ⟨rfl, hww⟩; rw [hww]; clear hww w')
    all_goals go_ret
    all_goals exact shaped_ok (shp_vac (by have := hk.out; omega)) H0.out hge HS1.out
  | cons a t =>
    go_wp2_with (go_at_call 34; refine (end_cons w0.heap.size b o cap l _ a t _ _ HR1.out).mono ?_; rintro e w' ⟨rfl, hww⟩; rw [hww]; clear hww w')
    all_goals go_ret
    all_goals exact shaped_no H0.out hge HS1.out

set_option maxRecDepth 100000 in
set_option maxHeartbeats 8000000 in
theorem shaped_10 (l : List Nd) (i b o cap : Nat) (w : World) (hd : DocAt w b o l) (hti : TreeIn l 0 l.length) (hi : i < l.length) (hn : l.length ≤ 2147483647) (hk' : kd l i = 10) :
    Calls Tryz.prog 19 #[.slice (some ⟨b, o, none⟩) l.length cap, .int .i64 (i : Int)] w (ShapedPost l i w) := by
  have hk : Hid (kd l i = 10) := hk'
  obtain ⟨hsz, hsl, kks, hch⟩ := hti i (Nat.zero_le _) hi
  have hch := kids_ch ⟨kks, hch⟩
  obtain ⟨ks0, hks0⟩ : ∃ k, k = kids l i := ⟨_, rfl⟩
  rw [← hks0] at hch
  have HQ0 : Hid (ks0 = kids l i) := hks0
  have hl0 : ks0.length ≤ 2147483647 := by have := hch.le; omega
  have HK0 : Hid (∀ k, k ∈ ks0 → k < l.length) := fun k hk => by have := hch.mem k hk; omega
  have HC : Hid (Calls Tryz.prog 10 #[.slice (some ⟨b, o, none⟩) l.length cap, .int .i64 (i : Int)] w fun e w' => ∃ v, e = .returned v ∧ IntsAt w' v ks0 ∧ Sm [] w w' ∧ ∀ b o n c, v = .slice (some ⟨b, o, none⟩) n c → b < w'.heap.size) := kids2_any l i b o cap ks0 w hd hi hn hch hsl
  obtain ⟨n0, n1, n2, n3, n4, n5⟩ := hd i hi
  rw [← kd_at hi, hk'] at n0
  generalize l[i].name = x1 at *
  generalize l[i].alias = x2 at *
  generalize l[i].text = x3 at *
  generalize l[i].flag = x4 at *
  generalize l[i].size = x5 at *
  have ht : Hid (TreeIn l 0 l.length) := hti
  have HD : Hid (DocAt w b o l) := hd
  have hb : b < w.heap.size := hd.lt (by omega)
  have z1 : (0 : Int) ≤ (i : Int) := by omega
  have z2 : (i : Int) < (l.length : Int) := by omega
  clear hk' hti hd hks0 hch
  go_enter Tryz.func19, Tryz.ntmps19
  go_wp2_with fail
  refine HC.out.mono ?_
  rintro e w0 ⟨v, rfl, hv, hs0, hvl⟩
  have hv' := hv
  obtain ⟨a0, kc0, rfl, _, _, _⟩ := hv'
  have HR0 : Hid (RowAt ((w0.alloc (.cells #[.slice (some ⟨b, o, none⟩) l.length cap, .slice a0 ks0.length kc0, .int .i64 0] 105 (0, 0))).alloc (.cells #[.int .i64 10, .string x1, .string x2, .string x3, .int .i64 x4, .int .i64 x5] 31 (0, 0))) w0.heap.size b o cap l (.slice a0 ks0.length kc0) ks0 0) := row_made hv (HD.out.sm0 hs0) (by have := hs0.size; omega) hvl _
  have H0 : Hid (Sm [] w ((w0.alloc (.cells #[.slice (some ⟨b, o, none⟩) l.length cap, .slice a0 ks0.length kc0, .int .i64 0] 105 (0, 0))).alloc (.cells #[.int .i64 10, .string x1, .string x2, .string x3, .int .i64 x4, .int .i64 x5] 31 (0, 0)))) := (hs0.alloc _).alloc _
  have HS0 : Hid (Sm [w0.heap.size] ((w0.alloc (.cells #[.slice (some ⟨b, o, none⟩) l.length cap, .slice a0 ks0.length kc0, .int .i64 0] 105 (0, 0))).alloc (.cells #[.int .i64 10, .string x1, .string x2, .string x3, .int .i64 x4, .int .i64 x5] 31 (0, 0))) ((w0.alloc (.cells #[.slice (some ⟨b, o, none⟩) l.length cap, .slice a0 ks0.length kc0, .int .i64 0] 105 (0, 0))).alloc (.cells #[.int .i64 10, .string x1, .string x2, .string x3, .int .i64 x4, .int .i64 x5] 31 (0, 0)))) := Sm.refl _ _
  have hge : w.heap.size ≤ w0.heap.size := hs0.size
  have n0 := hs0.keeps n0 (by simp)
  have n1 := hs0.keeps n1 (by simp)
  have n2 := hs0.keeps n2 (by simp)
  have n3 := hs0.keeps n3 (by simp)
  have n4 := hs0.keeps n4 (by simp)
  have n5 := hs0.keeps n5 (by simp)
  have m0 := (sm_alloc0 w0 (.cells #[.slice (some ⟨b, o, none⟩) l.length cap, .slice a0 ks0.length kc0, .int .i64 0] 105 (0, 0))).keeps n0 (by simp)
  have m1 := (sm_alloc0 w0 (.cells #[.slice (some ⟨b, o, none⟩) l.length cap, .slice a0 ks0.length kc0, .int .i64 0] 105 (0, 0))).keeps n1 (by simp)
  have m2 := (sm_alloc0 w0 (.cells #[.slice (some ⟨b, o, none⟩) l.length cap, .slice a0 ks0.length kc0, .int .i64 0] 105 (0, 0))).keeps n2 (by simp)
  have m3 := (sm_alloc0 w0 (.cells #[.slice (some ⟨b, o, none⟩) l.length cap, .slice a0 ks0.length kc0, .int .i64 0] 105 (0, 0))).keeps n3 (by simp)
  have m4 := (sm_alloc0 w0 (.cells #[.slice (some ⟨b, o, none⟩) l.length cap, .slice a0 ks0.length kc0, .int .i64 0] 105 (0, 0))).keeps n4 (by simp)
  have m5 := (sm_alloc0 w0 (.cells #[.slice (some ⟨b, o, none⟩) l.length cap, .slice a0 ks0.length kc0, .int .i64 0] 105 (0, 0))).keeps n5 (by simp)
  clear hv hs0 hvl HC
  go_wp2_with fail
  refine (all_go w0.heap.size b o cap _ _ l _ ks0 _ [9] _ (by simp) HR0.out HK0.out hn hl0 rfl (by decide)).mono ?_
  rintro e w1x ⟨lv1, dn1, ks1, rfl, q1, q2, q3, q4, q5⟩
  have HQ1 : Hid (ks0 = dn1 ++ ks1) := q1
  have HD1 : Hid (∀ k, k ∈ dn1 → kd l k ∈ ([9] : List Int)) := q2
  have HS1 : Hid (Sm [w0.heap.size] ((w0.alloc (.cells #[.slice (some ⟨b, o, none⟩) l.length cap, .slice a0 ks0.length kc0, .int .i64 0] 105 (0, 0))).alloc (.cells #[.int .i64 10, .string x1, .string x2, .string x3, .int .i64 x4, .int .i64 x5] 31 (0, 0))) w1x) := HS0.out.trans q4
  have HR1 : Hid (RowAt w1x w0.heap.size b o cap l lv1 ks1 (dn1.length : Int)) := q5
  have HK1 : Hid (∀ k, k ∈ ks1 → k < l.length) := fun k hk => HK0.out k (by rw [q1]; simp [hk])
  have hl1 : ks1.length ≤ 2147483647 := by rw [q1] at hl0; simp at hl0; omega
  have c21 : w1x.cell? ⟨w0.heap.size, 2, none⟩ = some (.int .i64 (dn1.length : Int)) := cell_of q5.obj rfl
  clear q1 q2 q3 q4 q5
  cases ks1 with
  | nil =>
    go_wp2_with (go_at_call 34; refine (end_nil w0.heap.size b o cap l _ _ _ HR1.out).mono ?_; rintro e w' ⟨rfl, hww⟩; rw [hww]; clear hww w')
    all_goals go_ret
    all_goals exact shaped_ok (shp_vac (by have := hk.out; omega)) H0.out hge HS1.out
  | cons a t =>
    go_wp2_with (go_at_call 34; refine (end_cons w0.heap.size b o cap l _ a t _ _ HR1.out).mono ?_; rintro e w' ⟨rfl, hww⟩; rw [hww]; clear hww w')
    all_goals go_ret
    all_goals exact shaped_no H0.out hge HS1.out

set_option maxRecDepth 100000 in
set_option maxHeartbeats 8000000 in
theorem shaped_9 (l : List Nd) (i b o cap : Nat) (w : World) (hd : DocAt w b o l) (hti : TreeIn l 0 l.length) (hi : i < l.length) (hn : l.length ≤ 2147483647) (hk' : kd l i = 9) :
    Calls Tryz.prog 19 #[.slice (some ⟨b, o, none⟩) l.length cap, .int .i64 (i : Int)] w (ShapedPost l i w) := by
  have hk : Hid (kd l i = 9) := hk'
  obtain ⟨hsz, hsl, kks, hch⟩ := hti i (Nat.zero_le _) hi
  have hch := kids_ch ⟨kks, hch⟩
  obtain ⟨ks0, hks0⟩ : ∃ k, k = kids l i := ⟨_, rfl⟩
  rw [← hks0] at hch
  have HQ0 : Hid (ks0 = kids l i) := hks0
  have hl0 : ks0.length ≤ 2147483647 := by have := hch.le; omega
  have HK0 : Hid (∀ k, k ∈ ks0 → k < l.length) := fun k hk => by have := hch.mem k hk; omega
  have HC : Hid (Calls Tryz.prog 10 #[.slice (some ⟨b, o, none⟩) l.length cap, .int .i64 (i : Int)] w fun e w' => ∃ v, e = .returned v ∧ IntsAt w' v ks0 ∧ Sm [] w w' ∧ ∀ b o n c, v = .slice (some ⟨b, o, none⟩) n c → b < w'.heap.size) := kids2_any l i b o cap ks0 w hd hi hn hch hsl
  obtain ⟨n0, n1, n2, n3, n4, n5⟩ := hd i hi
  rw [← kd_at hi, hk'] at n0
  generalize l[i].name = x1 at *
  generalize l[i].alias = x2 at *
  generalize l[i].text = x3 at *
  generalize l[i].flag = x4 at *
  generalize l[i].size = x5 at *
  have ht : Hid (TreeIn l 0 l.length) := hti
  have HD : Hid (DocAt w b o l) := hd
  have hb : b < w.heap.size := hd.lt (by omega)
  have z1 : (0 : Int) ≤ (i : Int) := by omega
  have z2 : (i : Int) < (l.length : Int) := by omega
  clear hk' hti hd hks0 hch
  go_enter Tryz.func19, Tryz.ntmps19
  go_wp2_with fail
  refine HC.out.mono ?_
  rintro e w0 ⟨v, rfl, hv, hs0, hvl⟩
  have hv' := hv
  obtain ⟨a0, kc0, rfl, _, _, _⟩ := hv'
  have HR0 : Hid (RowAt ((w0.alloc (.cells #[.slice (some ⟨b, o, none⟩) l.length cap, .slice a0 ks0.length kc0, .int .i64 0] 105 (0, 0))).alloc (.cells #[.int .i64 9, .string x1, .string x2, .string x3, .int .i64 x4, .int .i64 x5] 31 (0, 0))) w0.heap.size b o cap l (.slice a0 ks0.length kc0) ks0 0) := row_made hv (HD.out.sm0 hs0) (by have := hs0.size; omega) hvl _
  have H0 : Hid (Sm [] w ((w0.alloc (.cells #[.slice (some ⟨b, o, none⟩) l.length cap, .slice a0 ks0.length kc0, .int .i64 0] 105 (0, 0))).alloc (.cells #[.int .i64 9, .string x1, .string x2, .string x3, .int .i64 x4, .int .i64 x5] 31 (0, 0)))) := (hs0.alloc _).alloc _
  have HS0 : Hid (Sm [w0.heap.size] ((w0.alloc (.cells #[.slice (some ⟨b, o, none⟩) l.length cap, .slice a0 ks0.length kc0, .int .i64 0] 105 (0, 0))).alloc (.cells #[.int .i64 9, .string x1, .string x2, .string x3, .int .i64 x4, .int .i64 x5] 31 (0, 0))) ((w0.alloc (.cells #[.slice (some ⟨b, o, none⟩) l.length cap, .slice a0 ks0.length kc0, .int .i64 0] 105 (0, 0))).alloc (.cells #[.int .i64 9, .string x1, .string x2, .string x3, .int .i64 x4, .int .i64 x5] 31 (0, 0)))) := Sm.refl _ _
  have hge : w.heap.size ≤ w0.heap.size := hs0.size
  have n0 := hs0.keeps n0 (by simp)
  have n1 := hs0.keeps n1 (by simp)
  have n2 := hs0.keeps n2 (by simp)
  have n3 := hs0.keeps n3 (by simp)
  have n4 := hs0.keeps n4 (by simp)
  have n5 := hs0.keeps n5 (by simp)
  have m0 := (sm_alloc0 w0 (.cells #[.slice (some ⟨b, o, none⟩) l.length cap, .slice a0 ks0.length kc0, .int .i64 0] 105 (0, 0))).keeps n0 (by simp)
  have m1 := (sm_alloc0 w0 (.cells #[.slice (some ⟨b, o, none⟩) l.length cap, .slice a0 ks0.length kc0, .int .i64 0] 105 (0, 0))).keeps n1 (by simp)
  have m2 := (sm_alloc0 w0 (.cells #[.slice (some ⟨b, o, none⟩) l.length cap, .slice a0 ks0.length kc0, .int .i64 0] 105 (0, 0))).keeps n2 (by simp)
  have m3 := (sm_alloc0 w0 (.cells #[.slice (some ⟨b, o, none⟩) l.length cap, .slice a0 ks0.length kc0, .int .i64 0] 105 (0, 0))).keeps n3 (by simp)
  have m4 := (sm_alloc0 w0 (.cells #[.slice (some ⟨b, o, none⟩) l.length cap, .slice a0 ks0.length kc0, .int .i64 0] 105 (0, 0))).keeps n4 (by simp)
  have m5 := (sm_alloc0 w0 (.cells #[.slice (some ⟨b, o, none⟩) l.length cap, .slice a0 ks0.length kc0, .int .i64 0] 105 (0, 0))).keeps n5 (by simp)
  clear hv hs0 hvl HC
  go_wp2_with fail
  refine (one_isValue w0.heap.size b o cap l _ ks0 _ _ HR0.out HK0.out hn).mono ?_
  rintro e w1x ⟨q, rfl, g0, g1⟩
  cases q with
  | false =>
    have HS1 : Hid (Sm [w0.heap.size] ((w0.alloc (.cells #[.slice (some ⟨b, o, none⟩) l.length cap, .slice a0 ks0.length kc0, .int .i64 0] 105 (0, 0))).alloc (.cells #[.int .i64 9, .string x1, .string x2, .string x3, .int .i64 x4, .int .i64 x5] 31 (0, 0))) w1x) := HS0.out.trans (g0 rfl).of_nil
    clear g0 g1
    first | go_wp2_with fail | skip
    all_goals go_ret
    all_goals exact shaped_no H0.out hge HS1.out
  | true =>
    obtain ⟨k1, ks1, q1, q2, q3, lv1, q4⟩ := g1 rfl
    have HQ1 : Hid (ks0 = k1 :: ks1) := q1
    have HP1 : Hid (isVB (kd l k1) = true) := q2
    have HS1 : Hid (Sm [w0.heap.size] ((w0.alloc (.cells #[.slice (some ⟨b, o, none⟩) l.length cap, .slice a0 ks0.length kc0, .int .i64 0] 105 (0, 0))).alloc (.cells #[.int .i64 9, .string x1, .string x2, .string x3, .int .i64 x4, .int .i64 x5] 31 (0, 0))) w1x) := HS0.out.trans q3
    have HR1 : Hid (RowAt w1x w0.heap.size b o cap l lv1 ks1 0) := q4
    have HK1 : Hid (∀ k, k ∈ ks1 → k < l.length) := fun k hk => HK0.out k (by rw [q1]; simp [hk])
    have hl1 : ks1.length ≤ 2147483647 := by rw [q1] at hl0; simp at hl0; omega
    clear g0 g1 q1 q2 q3 q4
    cases ks1 with
    | nil =>
      go_wp2_with (go_at_call 34; refine (end_nil w0.heap.size b o cap l _ _ _ HR1.out).mono ?_; rintro e w' ⟨rfl, hww⟩; rw [hww]; clear hww w')
      all_goals go_ret
      all_goals exact shaped_ok (shp_arg (.inl hk.out) ⟨k1, vb_is HP1.out, by rw [← HQ0.out, HQ1.out]⟩) H0.out hge HS1.out
    | cons a t =>
      go_wp2_with (go_at_call 34; refine (end_cons w0.heap.size b o cap l _ a t _ _ HR1.out).mono ?_; rintro e w' ⟨rfl, hww⟩; rw [hww]; clear hww w')
      all_goals go_ret
      all_goals exact shaped_no H0.out hge HS1.out

set_option maxRecDepth 100000 in
set_option maxHeartbeats 8000000 in
theorem shaped_19 (l : List Nd) (i b o cap : Nat) (w : World) (hd : DocAt w b o l) (hti : TreeIn l 0 l.length) (hi : i < l.length) (hn : l.length ≤ 2147483647) (hk' : kd l i = 19) :
    Calls Tryz.prog 19 #[.slice (some ⟨b, o, none⟩) l.length cap, .int .i64 (i : Int)] w (ShapedPost l i w) := by
  have hk : Hid (kd l i = 19) := hk'
  obtain ⟨hsz, hsl, kks, hch⟩ := hti i (Nat.zero_le _) hi
  have hch := kids_ch ⟨kks, hch⟩
  obtain ⟨ks0, hks0⟩ : ∃ k, k = kids l i := ⟨_, rfl⟩
  rw [← hks0] at hch
  have HQ0 : Hid (ks0 = kids l i) := hks0
  have hl0 : ks0.length ≤ 2147483647 := by have := hch.le; omega
  have HK0 : Hid (∀ k, k ∈ ks0 → k < l.length) := fun k hk => by have := hch.mem k hk; omega
  have HC : Hid (Calls Tryz.prog 10 #[.slice (some ⟨b, o, none⟩) l.length cap, .int .i64 (i : Int)] w fun e w' => ∃ v, e = .returned v ∧ IntsAt w' v ks0 ∧ Sm [] w w' ∧ ∀ b o n c, v = .slice (some ⟨b, o, none⟩) n c → b < w'.heap.size) := kids2_any l i b o cap ks0 w hd hi hn hch hsl
  obtain ⟨n0, n1, n2, n3, n4, n5⟩ := hd i hi
  rw [← kd_at hi, hk'] at n0
  generalize l[i].name = x1 at *
  generalize l[i].alias = x2 at *
  generalize l[i].text = x3 at *
  generalize l[i].flag = x4 at *
  generalize l[i].size = x5 at *
  have ht : Hid (TreeIn l 0 l.length) := hti
  have HD : Hid (DocAt w b o l) := hd
  have hb : b < w.heap.size := hd.lt (by omega)
  have z1 : (0 : Int) ≤ (i : Int) := by omega
  have z2 : (i : Int) < (l.length : Int) := by omega
  clear hk' hti hd hks0 hch
  go_enter Tryz.func19, Tryz.ntmps19
  go_wp2_with fail
  refine HC.out.mono ?_
  rintro e w0 ⟨v, rfl, hv, hs0, hvl⟩
  have hv' := hv
  obtain ⟨a0, kc0, rfl, _, _, _⟩ := hv'
  have HR0 : Hid (RowAt ((w0.alloc (.cells #[.slice (some ⟨b, o, none⟩) l.length cap, .slice a0 ks0.length kc0, .int .i64 0] 105 (0, 0))).alloc (.cells #[.int .i64 19, .string x1, .string x2, .string x3, .int .i64 x4, .int .i64 x5] 31 (0, 0))) w0.heap.size b o cap l (.slice a0 ks0.length kc0) ks0 0) := row_made hv (HD.out.sm0 hs0) (by have := hs0.size; omega) hvl _
  have H0 : Hid (Sm [] w ((w0.alloc (.cells #[.slice (some ⟨b, o, none⟩) l.length cap, .slice a0 ks0.length kc0, .int .i64 0] 105 (0, 0))).alloc (.cells #[.int .i64 19, .string x1, .string x2, .string x3, .int .i64 x4, .int .i64 x5] 31 (0, 0)))) := (hs0.alloc _).alloc _
  have HS0 : Hid (Sm [w0.heap.size] ((w0.alloc (.cells #[.slice (some ⟨b, o, none⟩) l.length cap, .slice a0 ks0.length kc0, .int .i64 0] 105 (0, 0))).alloc (.cells #[.int .i64 19, .string x1, .string x2, .string x3, .int .i64 x4, .int .i64 x5] 31 (0, 0))) ((w0.alloc (.cells #[.slice (some ⟨b, o, none⟩) l.length cap, .slice a0 ks0.length kc0, .int .i64 0] 105 (0, 0))).alloc (.cells #[.int .i64 19, .string x1, .string x2, .string x3, .int .i64 x4, .int .i64 x5] 31 (0, 0)))) := Sm.refl _ _
  have hge : w.heap.size ≤ w0.heap.size := hs0.size
  have n0 := hs0.keeps n0 (by simp)
  have n1 := hs0.keeps n1 (by simp)
  have n2 := hs0.keeps n2 (by simp)
  have n3 := hs0.keeps n3 (by simp)
  have n4 := hs0.keeps n4 (by simp)
  have n5 := hs0.keeps n5 (by simp)
  have m0 := (sm_alloc0 w0 (.cells #[.slice (some ⟨b, o, none⟩) l.length cap, .slice a0 ks0.length kc0, .int .i64 0] 105 (0, 0))).keeps n0 (by simp)
  have m1 := (sm_alloc0 w0 (.cells #[.slice (some ⟨b, o, none⟩) l.length cap, .slice a0 ks0.length kc0, .int .i64 0] 105 (0, 0))).keeps n1 (by simp)
  have m2 := (sm_alloc0 w0 (.cells #[.slice (some ⟨b, o, none⟩) l.length cap, .slice a0 ks0.length kc0, .int .i64 0] 105 (0, 0))).keeps n2 (by simp)
  have m3 := (sm_alloc0 w0 (.cells #[.slice (some ⟨b, o, none⟩) l.length cap, .slice a0 ks0.length kc0, .int .i64 0] 105 (0, 0))).keeps n3 (by simp)
  have m4 := (sm_alloc0 w0 (.cells #[.slice (some ⟨b, o, none⟩) l.length cap, .slice a0 ks0.length kc0, .int .i64 0] 105 (0, 0))).keeps n4 (by simp)
  have m5 := (sm_alloc0 w0 (.cells #[.slice (some ⟨b, o, none⟩) l.length cap, .slice a0 ks0.length kc0, .int .i64 0] 105 (0, 0))).keeps n5 (by simp)
  clear hv hs0 hvl HC
  go_wp2_with fail
  refine (one_isValue w0.heap.size b o cap l _ ks0 _ _ HR0.out HK0.out hn).mono ?_
  rintro e w1x ⟨q, rfl, g0, g1⟩
  cases q with
  | false =>
    have HS1 : Hid (Sm [w0.heap.size] ((w0.alloc (.cells #[.slice (some ⟨b, o, none⟩) l.length cap, .slice a0 ks0.length kc0, .int .i64 0] 105 (0, 0))).alloc (.cells #[.int .i64 19, .string x1, .string x2, .string x3, .int .i64 x4, .int .i64 x5] 31 (0, 0))) w1x) := HS0.out.trans (g0 rfl).of_nil
    clear g0 g1
    first | go_wp2_with fail | skip
    all_goals go_ret
    all_goals exact shaped_no H0.out hge HS1.out
  | true =>
    obtain ⟨k1, ks1, q1, q2, q3, lv1, q4⟩ := g1 rfl
    have HQ1 : Hid (ks0 = k1 :: ks1) := q1
    have HP1 : Hid (isVB (kd l k1) = true) := q2
    have HS1 : Hid (Sm [w0.heap.size] ((w0.alloc (.cells #[.slice (some ⟨b, o, none⟩) l.length cap, .slice a0 ks0.length kc0, .int .i64 0] 105 (0, 0))).alloc (.cells #[.int .i64 19, .string x1, .string x2, .string x3, .int .i64 x4, .int .i64 x5] 31 (0, 0))) w1x) := HS0.out.trans q3
    have HR1 : Hid (RowAt w1x w0.heap.size b o cap l lv1 ks1 0) := q4
    have HK1 : Hid (∀ k, k ∈ ks1 → k < l.length) := fun k hk => HK0.out k (by rw [q1]; simp [hk])
    have hl1 : ks1.length ≤ 2147483647 := by rw [q1] at hl0; simp at hl0; omega
    clear g0 g1 q1 q2 q3 q4
    cases ks1 with
    | nil =>
      go_wp2_with (go_at_call 34; refine (end_nil w0.heap.size b o cap l _ _ _ HR1.out).mono ?_; rintro e w' ⟨rfl, hww⟩; rw [hww]; clear hww w')
      all_goals go_ret
      all_goals exact shaped_ok (shp_arg (.inr hk.out) ⟨k1, vb_is HP1.out, by rw [← HQ0.out, HQ1.out]⟩) H0.out hge HS1.out
    | cons a t =>
      go_wp2_with (go_at_call 34; refine (end_cons w0.heap.size b o cap l _ a t _ _ HR1.out).mono ?_; rintro e w' ⟨rfl, hww⟩; rw [hww]; clear hww w')
      all_goals go_ret
      all_goals exact shaped_no H0.out hge HS1.out

set_option maxRecDepth 100000 in
set_option maxHeartbeats 8000000 in
theorem shaped_18 (l : List Nd) (i b o cap : Nat) (w : World) (hd : DocAt w b o l) (hti : TreeIn l 0 l.length) (hi : i < l.length) (hn : l.length ≤ 2147483647) (hk' : kd l i = 18) :
    Calls Tryz.prog 19 #[.slice (some ⟨b, o, none⟩) l.length cap, .int .i64 (i : Int)] w (ShapedPost l i w) := by
  have hk : Hid (kd l i = 18) := hk'
  obtain ⟨hsz, hsl, kks, hch⟩ := hti i (Nat.zero_le _) hi
  have hch := kids_ch ⟨kks, hch⟩
  obtain ⟨ks0, hks0⟩ : ∃ k, k = kids l i := ⟨_, rfl⟩
  rw [← hks0] at hch
  have HQ0 : Hid (ks0 = kids l i) := hks0
  have hl0 : ks0.length ≤ 2147483647 := by have := hch.le; omega
  have HK0 : Hid (∀ k, k ∈ ks0 → k < l.length) := fun k hk => by have := hch.mem k hk; omega
  have HC : Hid (Calls Tryz.prog 10 #[.slice (some ⟨b, o, none⟩) l.length cap, .int .i64 (i : Int)] w fun e w' => ∃ v, e = .returned v ∧ IntsAt w' v ks0 ∧ Sm [] w w' ∧ ∀ b o n c, v = .slice (some ⟨b, o, none⟩) n c → b < w'.heap.size) := kids2_any l i b o cap ks0 w hd hi hn hch hsl
  obtain ⟨n0, n1, n2, n3, n4, n5⟩ := hd i hi
  rw [← kd_at hi, hk'] at n0
  generalize l[i].name = x1 at *
  generalize l[i].alias = x2 at *
  generalize l[i].text = x3 at *
  generalize l[i].flag = x4 at *
  generalize l[i].size = x5 at *
  have ht : Hid (TreeIn l 0 l.length) := hti
  have HD : Hid (DocAt w b o l) := hd
  have hb : b < w.heap.size := hd.lt (by omega)
  have z1 : (0 : Int) ≤ (i : Int) := by omega
  have z2 : (i : Int) < (l.length : Int) := by omega
  clear hk' hti hd hks0 hch
  go_enter Tryz.func19, Tryz.ntmps19
  go_wp2_with fail
  refine HC.out.mono ?_
  rintro e w0 ⟨v, rfl, hv, hs0, hvl⟩
  have hv' := hv
  obtain ⟨a0, kc0, rfl, _, _, _⟩ := hv'
  have HR0 : Hid (RowAt ((w0.alloc (.cells #[.slice (some ⟨b, o, none⟩) l.length cap, .slice a0 ks0.length kc0, .int .i64 0] 105 (0, 0))).alloc (.cells #[.int .i64 18, .string x1, .string x2, .string x3, .int .i64 x4, .int .i64 x5] 31 (0, 0))) w0.heap.size b o cap l (.slice a0 ks0.length kc0) ks0 0) := row_made hv (HD.out.sm0 hs0) (by have := hs0.size; omega) hvl _
  have H0 : Hid (Sm [] w ((w0.alloc (.cells #[.slice (some ⟨b, o, none⟩) l.length cap, .slice a0 ks0.length kc0, .int .i64 0] 105 (0, 0))).alloc (.cells #[.int .i64 18, .string x1, .string x2, .string x3, .int .i64 x4, .int .i64 x5] 31 (0, 0)))) := (hs0.alloc _).alloc _
  have HS0 : Hid (Sm [w0.heap.size] ((w0.alloc (.cells #[.slice (some ⟨b, o, none⟩) l.length cap, .slice a0 ks0.length kc0, .int .i64 0] 105 (0, 0))).alloc (.cells #[.int .i64 18, .string x1, .string x2, .string x3, .int .i64 x4, .int .i64 x5] 31 (0, 0))) ((w0.alloc (.cells #[.slice (some ⟨b, o, none⟩) l.length cap, .slice a0 ks0.length kc0, .int .i64 0] 105 (0, 0))).alloc (.cells #[.int .i64 18, .string x1, .string x2, .string x3, .int .i64 x4, .int .i64 x5] 31 (0, 0)))) := Sm.refl _ _
  have hge : w.heap.size ≤ w0.heap.size := hs0.size
  have n0 := hs0.keeps n0 (by simp)
  have n1 := hs0.keeps n1 (by simp)
  have n2 := hs0.keeps n2 (by simp)
  have n3 := hs0.keeps n3 (by simp)
  have n4 := hs0.keeps n4 (by simp)
  have n5 := hs0.keeps n5 (by simp)
  have m0 := (sm_alloc0 w0 (.cells #[.slice (some ⟨b, o, none⟩) l.length cap, .slice a0 ks0.length kc0, .int .i64 0] 105 (0, 0))).keeps n0 (by simp)
  have m1 := (sm_alloc0 w0 (.cells #[.slice (some ⟨b, o, none⟩) l.length cap, .slice a0 ks0.length kc0, .int .i64 0] 105 (0, 0))).keeps n1 (by simp)
  have m2 := (sm_alloc0 w0 (.cells #[.slice (some ⟨b, o, none⟩) l.length cap, .slice a0 ks0.length kc0, .int .i64 0] 105 (0, 0))).keeps n2 (by simp)
  have m3 := (sm_alloc0 w0 (.cells #[.slice (some ⟨b, o, none⟩) l.length cap, .slice a0 ks0.length kc0, .int .i64 0] 105 (0, 0))).keeps n3 (by simp)
  have m4 := (sm_alloc0 w0 (.cells #[.slice (some ⟨b, o, none⟩) l.length cap, .slice a0 ks0.length kc0, .int .i64 0] 105 (0, 0))).keeps n4 (by simp)
  have m5 := (sm_alloc0 w0 (.cells #[.slice (some ⟨b, o, none⟩) l.length cap, .slice a0 ks0.length kc0, .int .i64 0] 105 (0, 0))).keeps n5 (by simp)
  clear hv hs0 hvl HC
  go_wp2_with fail
  refine (all_go w0.heap.size b o cap _ _ l _ ks0 _ [19] _ (by simp) HR0.out HK0.out hn hl0 rfl (by decide)).mono ?_
  rintro e w1x ⟨lv1, dn1, ks1, rfl, q1, q2, q3, q4, q5⟩
  have HQ1 : Hid (ks0 = dn1 ++ ks1) := q1
  have HD1 : Hid (∀ k, k ∈ dn1 → kd l k ∈ ([19] : List Int)) := q2
  have HS1 : Hid (Sm [w0.heap.size] ((w0.alloc (.cells #[.slice (some ⟨b, o, none⟩) l.length cap, .slice a0 ks0.length kc0, .int .i64 0] 105 (0, 0))).alloc (.cells #[.int .i64 18, .string x1, .string x2, .string x3, .int .i64 x4, .int .i64 x5] 31 (0, 0))) w1x) := HS0.out.trans q4
  have HR1 : Hid (RowAt w1x w0.heap.size b o cap l lv1 ks1 (dn1.length : Int)) := q5
  have HK1 : Hid (∀ k, k ∈ ks1 → k < l.length) := fun k hk => HK0.out k (by rw [q1]; simp [hk])
  have hl1 : ks1.length ≤ 2147483647 := by rw [q1] at hl0; simp at hl0; omega
  have c21 : w1x.cell? ⟨w0.heap.size, 2, none⟩ = some (.int .i64 (dn1.length : Int)) := cell_of q5.obj rfl
  clear q1 q2 q3 q4 q5
  cases ks1 with
  | nil =>
    go_wp2_with (go_at_call 34; refine (end_nil w0.heap.size b o cap l _ _ _ HR1.out).mono ?_; rintro e w' ⟨rfl, hww⟩; rw [hww]; clear hww w')
    all_goals go_ret
    all_goals exact shaped_ok (shp_obj hk.out (fun a ha => by rw [← HQ0.out, HQ1.out] at ha; simp at ha; have := HD1.out a ha; simpa using this)) H0.out hge HS1.out
  | cons a t =>
    go_wp2_with (go_at_call 34; refine (end_cons w0.heap.size b o cap l _ a t _ _ HR1.out).mono ?_; rintro e w' ⟨rfl, hww⟩; rw [hww]; clear hww w')
    all_goals go_ret
    all_goals exact shaped_no H0.out hge HS1.out

set_option maxRecDepth 100000 in
set_option maxHeartbeats 8000000 in
theorem shaped_21 (l : List Nd) (i b o cap : Nat) (w : World) (hd : DocAt w b o l) (hti : TreeIn l 0 l.length) (hi : i < l.length) (hn : l.length ≤ 2147483647) (hk' : kd l i = 21) :
    Calls Tryz.prog 19 #[.slice (some ⟨b, o, none⟩) l.length cap, .int .i64 (i : Int)] w (ShapedPost l i w) := by
  have hk : Hid (kd l i = 21) := hk'
  obtain ⟨hsz, hsl, kks, hch⟩ := hti i (Nat.zero_le _) hi
  have hch := kids_ch ⟨kks, hch⟩
  obtain ⟨ks0, hks0⟩ : ∃ k, k = kids l i := ⟨_, rfl⟩
  rw [← hks0] at hch
  have HQ0 : Hid (ks0 = kids l i) := hks0
  have hl0 : ks0.length ≤ 2147483647 := by have := hch.le; omega
  have HK0 : Hid (∀ k, k ∈ ks0 → k < l.length) := fun k hk => by have := hch.mem k hk; omega
  have HC : Hid (Calls Tryz.prog 10 #[.slice (some ⟨b, o, none⟩) l.length cap, .int .i64 (i : Int)] w fun e w' => ∃ v, e = .returned v ∧ IntsAt w' v ks0 ∧ Sm [] w w' ∧ ∀ b o n c, v = .slice (some ⟨b, o, none⟩) n c → b < w'.heap.size) := kids2_any l i b o cap ks0 w hd hi hn hch hsl
  obtain ⟨n0, n1, n2, n3, n4, n5⟩ := hd i hi
  rw [← kd_at hi, hk'] at n0
  generalize l[i].name = x1 at *
  generalize l[i].alias = x2 at *
  generalize l[i].text = x3 at *
  generalize l[i].flag = x4 at *
  generalize l[i].size = x5 at *
  have ht : Hid (TreeIn l 0 l.length) := hti
  have HD : Hid (DocAt w b o l) := hd
  have hb : b < w.heap.size := hd.lt (by omega)
  have z1 : (0 : Int) ≤ (i : Int) := by omega
  have z2 : (i : Int) < (l.length : Int) := by omega
  clear hk' hti hd hks0 hch
  go_enter Tryz.func19, Tryz.ntmps19
  go_wp2_with fail
  refine HC.out.mono ?_
  rintro e w0 ⟨v, rfl, hv, hs0, hvl⟩
  have hv' := hv
  obtain ⟨a0, kc0, rfl, _, _, _⟩ := hv'
  have HR0 : Hid (RowAt ((w0.alloc (.cells #[.slice (some ⟨b, o, none⟩) l.length cap, .slice a0 ks0.length kc0, .int .i64 0] 105 (0, 0))).alloc (.cells #[.int .i64 21, .string x1, .string x2, .string x3, .int .i64 x4, .int .i64 x5] 31 (0, 0))) w0.heap.size b o cap l (.slice a0 ks0.length kc0) ks0 0) := row_made hv (HD.out.sm0 hs0) (by have := hs0.size; omega) hvl _
  have H0 : Hid (Sm [] w ((w0.alloc (.cells #[.slice (some ⟨b, o, none⟩) l.length cap, .slice a0 ks0.length kc0, .int .i64 0] 105 (0, 0))).alloc (.cells #[.int .i64 21, .string x1, .string x2, .string x3, .int .i64 x4, .int .i64 x5] 31 (0, 0)))) := (hs0.alloc _).alloc _
  have HS0 : Hid (Sm [w0.heap.size] ((w0.alloc (.cells #[.slice (some ⟨b, o, none⟩) l.length cap, .slice a0 ks0.length kc0, .int .i64 0] 105 (0, 0))).alloc (.cells #[.int .i64 21, .string x1, .string x2, .string x3, .int .i64 x4, .int .i64 x5] 31 (0, 0))) ((w0.alloc (.cells #[.slice (some ⟨b, o, none⟩) l.length cap, .slice a0 ks0.length kc0, .int .i64 0] 105 (0, 0))).alloc (.cells #[.int .i64 21, .string x1, .string x2, .string x3, .int .i64 x4, .int .i64 x5] 31 (0, 0)))) := Sm.refl _ _
  have hge : w.heap.size ≤ w0.heap.size := hs0.size
  have n0 := hs0.keeps n0 (by simp)
  have n1 := hs0.keeps n1 (by simp)
  have n2 := hs0.keeps n2 (by simp)
  have n3 := hs0.keeps n3 (by simp)
  have n4 := hs0.keeps n4 (by simp)
  have n5 := hs0.keeps n5 (by simp)
  have m0 := (sm_alloc0 w0 (.cells #[.slice (some ⟨b, o, none⟩) l.length cap, .slice a0 ks0.length kc0, .int .i64 0] 105 (0, 0))).keeps n0 (by simp)
  have m1 := (sm_alloc0 w0 (.cells #[.slice (some ⟨b, o, none⟩) l.length cap, .slice a0 ks0.length kc0, .int .i64 0] 105 (0, 0))).keeps n1 (by simp)
  have m2 := (sm_alloc0 w0 (.cells #[.slice (some ⟨b, o, none⟩) l.length cap, .slice a0 ks0.length kc0, .int .i64 0] 105 (0, 0))).keeps n2 (by simp)
  have m3 := (sm_alloc0 w0 (.cells #[.slice (some ⟨b, o, none⟩) l.length cap, .slice a0 ks0.length kc0, .int .i64 0] 105 (0, 0))).keeps n3 (by simp)
  have m4 := (sm_alloc0 w0 (.cells #[.slice (some ⟨b, o, none⟩) l.length cap, .slice a0 ks0.length kc0, .int .i64 0] 105 (0, 0))).keeps n4 (by simp)
  have m5 := (sm_alloc0 w0 (.cells #[.slice (some ⟨b, o, none⟩) l.length cap, .slice a0 ks0.length kc0, .int .i64 0] 105 (0, 0))).keeps n5 (by simp)
  clear hv hs0 hvl HC
  go_wp2_with fail
  refine (one_isType w0.heap.size b o cap l _ ks0 _ _ HR0.out HK0.out hn).mono ?_
  rintro e w1x ⟨q, rfl, g0, g1⟩
  cases q with
  | false =>
    have HS1 : Hid (Sm [w0.heap.size] ((w0.alloc (.cells #[.slice (some ⟨b, o, none⟩) l.length cap, .slice a0 ks0.length kc0, .int .i64 0] 105 (0, 0))).alloc (.cells #[.int .i64 21, .string x1, .string x2, .string x3, .int .i64 x4, .int .i64 x5] 31 (0, 0))) w1x) := HS0.out.trans (g0 rfl).of_nil
    clear g0 g1
    first | go_wp2_with fail | skip
    all_goals go_ret
    all_goals exact shaped_no H0.out hge HS1.out
  | true =>
    obtain ⟨k1, ks1, q1, q2, q3, lv1, q4⟩ := g1 rfl
    have HQ1 : Hid (ks0 = k1 :: ks1) := q1
    have HP1 : Hid (isTB (kd l k1) = true) := q2
    have HS1 : Hid (Sm [w0.heap.size] ((w0.alloc (.cells #[.slice (some ⟨b, o, none⟩) l.length cap, .slice a0 ks0.length kc0, .int .i64 0] 105 (0, 0))).alloc (.cells #[.int .i64 21, .string x1, .string x2, .string x3, .int .i64 x4, .int .i64 x5] 31 (0, 0))) w1x) := HS0.out.trans q3
    have HR1 : Hid (RowAt w1x w0.heap.size b o cap l lv1 ks1 0) := q4
    have HK1 : Hid (∀ k, k ∈ ks1 → k < l.length) := fun k hk => HK0.out k (by rw [q1]; simp [hk])
    have hl1 : ks1.length ≤ 2147483647 := by rw [q1] at hl0; simp at hl0; omega
    clear g0 g1 q1 q2 q3 q4
    cases ks1 with
    | nil =>
      go_wp2_with (go_at_call 34; refine (end_nil w0.heap.size b o cap l _ _ _ HR1.out).mono ?_; rintro e w' ⟨rfl, hww⟩; rw [hww]; clear hww w')
      all_goals go_ret
      all_goals exact shaped_ok (shp_tlist hk.out ⟨k1, tb_is HP1.out, by rw [← HQ0.out, HQ1.out]⟩) H0.out hge HS1.out
    | cons a t =>
      go_wp2_with (go_at_call 34; refine (end_cons w0.heap.size b o cap l _ a t _ _ HR1.out).mono ?_; rintro e w' ⟨rfl, hww⟩; rw [hww]; clear hww w')
      all_goals go_ret
      all_goals exact shaped_no H0.out hge HS1.out

set_option maxRecDepth 100000 in
set_option maxHeartbeats 8000000 in
theorem shaped_22 (l : List Nd) (i b o cap : Nat) (w : World) (hd : DocAt w b o l) (hti : TreeIn l 0 l.length) (hi : i < l.length) (hn : l.length ≤ 2147483647) (hk' : kd l i = 22) :
    Calls Tryz.prog 19 #[.slice (some ⟨b, o, none⟩) l.length cap, .int .i64 (i : Int)] w (ShapedPost l i w) := by
  have hk : Hid (kd l i = 22) := hk'
  obtain ⟨hsz, hsl, kks, hch⟩ := hti i (Nat.zero_le _) hi
  have hch := kids_ch ⟨kks, hch⟩
  obtain ⟨ks0, hks0⟩ : ∃ k, k = kids l i := ⟨_, rfl⟩
  rw [← hks0] at hch
  have HQ0 : Hid (ks0 = kids l i) := hks0
  have hl0 : ks0.length ≤ 2147483647 := by have := hch.le; omega
  have HK0 : Hid (∀ k, k ∈ ks0 → k < l.length) := fun k hk => by have := hch.mem k hk; omega
  have HC : Hid (Calls Tryz.prog 10 #[.slice (some ⟨b, o, none⟩) l.length cap, .int .i64 (i : Int)] w fun e w' => ∃ v, e = .returned v ∧ IntsAt w' v ks0 ∧ Sm [] w w' ∧ ∀ b o n c, v = .slice (some ⟨b, o, none⟩) n c → b < w'.heap.size) := kids2_any l i b o cap ks0 w hd hi hn hch hsl
  obtain ⟨n0, n1, n2, n3, n4, n5⟩ := hd i hi
  rw [← kd_at hi, hk'] at n0
  generalize l[i].name = x1 at *
  generalize l[i].alias = x2 at *
  generalize l[i].text = x3 at *
  generalize l[i].flag = x4 at *
  generalize l[i].size = x5 at *
  have ht : Hid (TreeIn l 0 l.length) := hti
  have HD : Hid (DocAt w b o l) := hd
  have hb : b < w.heap.size := hd.lt (by omega)
  have z1 : (0 : Int) ≤ (i : Int) := by omega
  have z2 : (i : Int) < (l.length : Int) := by omega
  clear hk' hti hd hks0 hch
  go_enter Tryz.func19, Tryz.ntmps19
  go_wp2_with fail
  refine HC.out.mono ?_
  rintro e w0 ⟨v, rfl, hv, hs0, hvl⟩
  have hv' := hv
  obtain ⟨a0, kc0, rfl, _, _, _⟩ := hv'
  have HR0 : Hid (RowAt ((w0.alloc (.cells #[.slice (some ⟨b, o, none⟩) l.length cap, .slice a0 ks0.length kc0, .int .i64 0] 105 (0, 0))).alloc (.cells #[.int .i64 22, .string x1, .string x2, .string x3, .int .i64 x4, .int .i64 x5] 31 (0, 0))) w0.heap.size b o cap l (.slice a0 ks0.length kc0) ks0 0) := row_made hv (HD.out.sm0 hs0) (by have := hs0.size; omega) hvl _
  have H0 : Hid (Sm [] w ((w0.alloc (.cells #[.slice (some ⟨b, o, none⟩) l.length cap, .slice a0 ks0.length kc0, .int .i64 0] 105 (0, 0))).alloc (.cells #[.int .i64 22, .string x1, .string x2, .string x3, .int .i64 x4, .int .i64 x5] 31 (0, 0)))) := (hs0.alloc _).alloc _
  have HS0 : Hid (Sm [w0.heap.size] ((w0.alloc (.cells #[.slice (some ⟨b, o, none⟩) l.length cap, .slice a0 ks0.length kc0, .int .i64 0] 105 (0, 0))).alloc (.cells #[.int .i64 22, .string x1, .string x2, .string x3, .int .i64 x4, .int .i64 x5] 31 (0, 0))) ((w0.alloc (.cells #[.slice (some ⟨b, o, none⟩) l.length cap, .slice a0 ks0.length kc0, .int .i64 0] 105 (0, 0))).alloc (.cells #[.int .i64 22, .string x1, .string x2, .string x3, .int .i64 x4, .int .i64 x5] 31 (0, 0)))) := Sm.refl _ _
  have hge : w.heap.size ≤ w0.heap.size := hs0.size
  have n0 := hs0.keeps n0 (by simp)
  have n1 := hs0.keeps n1 (by simp)
  have n2 := hs0.keeps n2 (by simp)
  have n3 := hs0.keeps n3 (by simp)
  have n4 := hs0.keeps n4 (by simp)
  have n5 := hs0.keeps n5 (by simp)
  have m0 := (sm_alloc0 w0 (.cells #[.slice (some ⟨b, o, none⟩) l.length cap, .slice a0 ks0.length kc0, .int .i64 0] 105 (0, 0))).keeps n0 (by simp)
  have m1 := (sm_alloc0 w0 (.cells #[.slice (some ⟨b, o, none⟩) l.length cap, .slice a0 ks0.length kc0, .int .i64 0] 105 (0, 0))).keeps n1 (by simp)
  have m2 := (sm_alloc0 w0 (.cells #[.slice (some ⟨b, o, none⟩) l.length cap, .slice a0 ks0.length kc0, .int .i64 0] 105 (0, 0))).keeps n2 (by simp)
  have m3 := (sm_alloc0 w0 (.cells #[.slice (some ⟨b, o, none⟩) l.length cap, .slice a0 ks0.length kc0, .int .i64 0] 105 (0, 0))).keeps n3 (by simp)
  have m4 := (sm_alloc0 w0 (.cells #[.slice (some ⟨b, o, none⟩) l.length cap, .slice a0 ks0.length kc0, .int .i64 0] 105 (0, 0))).keeps n4 (by simp)
  have m5 := (sm_alloc0 w0 (.cells #[.slice (some ⟨b, o, none⟩) l.length cap, .slice a0 ks0.length kc0, .int .i64 0] 105 (0, 0))).keeps n5 (by simp)
  clear hv hs0 hvl HC
  go_wp2_with fail
  refine (one_isNullable w0.heap.size b o cap l _ ks0 _ _ HR0.out HK0.out hn).mono ?_
  rintro e w1x ⟨q, rfl, g0, g1⟩
  cases q with
  | false =>
    have HS1 : Hid (Sm [w0.heap.size] ((w0.alloc (.cells #[.slice (some ⟨b, o, none⟩) l.length cap, .slice a0 ks0.length kc0, .int .i64 0] 105 (0, 0))).alloc (.cells #[.int .i64 22, .string x1, .string x2, .string x3, .int .i64 x4, .int .i64 x5] 31 (0, 0))) w1x) := HS0.out.trans (g0 rfl).of_nil
    clear g0 g1
    first | go_wp2_with fail | skip
    all_goals go_ret
    all_goals exact shaped_no H0.out hge HS1.out
  | true =>
    obtain ⟨k1, ks1, q1, q2, q3, lv1, q4⟩ := g1 rfl
    have HQ1 : Hid (ks0 = k1 :: ks1) := q1
    have HP1 : Hid (isNB (kd l k1) = true) := q2
    have HS1 : Hid (Sm [w0.heap.size] ((w0.alloc (.cells #[.slice (some ⟨b, o, none⟩) l.length cap, .slice a0 ks0.length kc0, .int .i64 0] 105 (0, 0))).alloc (.cells #[.int .i64 22, .string x1, .string x2, .string x3, .int .i64 x4, .int .i64 x5] 31 (0, 0))) w1x) := HS0.out.trans q3
    have HR1 : Hid (RowAt w1x w0.heap.size b o cap l lv1 ks1 0) := q4
    have HK1 : Hid (∀ k, k ∈ ks1 → k < l.length) := fun k hk => HK0.out k (by rw [q1]; simp [hk])
    have hl1 : ks1.length ≤ 2147483647 := by rw [q1] at hl0; simp at hl0; omega
    clear g0 g1 q1 q2 q3 q4
    cases ks1 with
    | nil =>
      go_wp2_with (go_at_call 34; refine (end_nil w0.heap.size b o cap l _ _ _ HR1.out).mono ?_; rintro e w' ⟨rfl, hww⟩; rw [hww]; clear hww w')
      all_goals go_ret
      all_goals exact shaped_ok (shp_tnon hk.out ⟨k1, (nb_is HP1.out).1, (nb_is HP1.out).2, by rw [← HQ0.out, HQ1.out]⟩) H0.out hge HS1.out
    | cons a t =>
      go_wp2_with (go_at_call 34; refine (end_cons w0.heap.size b o cap l _ a t _ _ HR1.out).mono ?_; rintro e w' ⟨rfl, hww⟩; rw [hww]; clear hww w')
      all_goals go_ret
      all_goals exact shaped_no H0.out hge HS1.out

end

end Go.Proofs.YtigpnidffiaigaaGreat
