/- Walks: the shape of a node: all. -/
import Derived.Test.YtigpnidffiaigaaGreatProg
import Derived.BigRegion
import Derived.Test.YtigpnidffiaigaaGreatQ35
import Derived.Test.YtigpnidffiaigaaGreatQ36
import Derived.Test.YtigpnidffiaigaaGreatQ37
import Derived.Test.YtigpnidffiaigaaGreatQ38
set_option linter.unusedVariables false
set_option linter.unusedSimpArgs false
namespace Go.Proofs.YtigpnidffiaigaaGreat

section
open Go.RowKit

def ListRel (rb b o cap : Nat) (l : List Nd) (ks0 : List Nat) (W0 : World) (g : Nat) (wr : World) : Prop :=
  ∃ lv done rest, ks0 = done ++ rest ∧ (∀ k, k ∈ done → isV (kd l k)) ∧ RowAt wr rb b o cap l lv rest 0 ∧ Sm [rb] W0 wr ∧ g = rest.length

set_option maxRecDepth 100000 in
set_option maxHeartbeats 8000000 in
theorem shaped_17 (l : List Nd) (i b o cap : Nat) (w : World) (hd : DocAt w b o l) (hti : TreeIn l 0 l.length) (hi : i < l.length) (hn : l.length ≤ 2147483647) (hk' : kd l i = 17) :
    Calls Tryz.prog 19 #[.slice (some ⟨b, o, none⟩) l.length cap, .int .i64 (i : Int)] w (ShapedPost l i w) := by
  have hk : Hid (kd l i = 17) := hk'
  obtain ⟨hsz, hsl, kks, hch⟩ := hti i (Nat.zero_le _) hi
  have hch := kids_ch ⟨kks, hch⟩
  obtain ⟨ks0, hks0⟩ : ∃ k, k = kids l i := ⟨_, rfl⟩
  rw [← hks0] at hch
  have HQ0 : Hid (ks0 = kids l i) := hks0
  have hl0 : ks0.length ≤ 2147483647 := by have := hch.le; omega
  have HK0 : Hid (∀ k, k ∈ ks0 → k < l.length) := fun k hk => by have := hch.mem k hk; omega
  have HC : Hid (Calls Tryz.prog 10 #[.slice (some ⟨b, o, none⟩) l.length cap, .int .i64 (i : Int)] w fun e w' => ∃ v, e = .returned v ∧ IntsAt w' v ks0 ∧ Sm [] w w' ∧ ∀ b o n c, v = .slice (some ⟨b, o, none⟩) n c → b < w'.heap.size) := kids2_any l i b o cap ks0 w hd hi hn hch hsl
  obtain ⟨n0, n1, n2, n3, n4, n5⟩ := hd i hi
  rw [← kd_at hi, hk'] at n0
  generalize l[i].name = x1 at *
  generalize l[i].alias = x2 at *
  generalize l[i].text = x3 at *
  generalize l[i].flag = x4 at *
  generalize l[i].size = x5 at *
  have ht : Hid (TreeIn l 0 l.length) := hti
  have HD : Hid (DocAt w b o l) := hd
  have hb : b < w.heap.size := hd.lt (by omega)
  have z1 : (0 : Int) ≤ (i : Int) := by omega
  have z2 : (i : Int) < (l.length : Int) := by omega
  clear hk' hti hd hks0 hch
  go_enter Tryz.func19, Tryz.ntmps19
  go_wp2_with fail
  refine HC.out.mono ?_
  rintro e w0 ⟨v, rfl, hv, hs0, hvl⟩
  have hv' := hv
  obtain ⟨a0, kc0, rfl, _, _, _⟩ := hv'
  have HR0 : Hid (RowAt ((w0.alloc (.cells #[.slice (some ⟨b, o, none⟩) l.length cap, .slice a0 ks0.length kc0, .int .i64 0] 105 (0, 0))).alloc (.cells #[.int .i64 17, .string x1, .string x2, .string x3, .int .i64 x4, .int .i64 x5] 31 (0, 0))) w0.heap.size b o cap l (.slice a0 ks0.length kc0) ks0 0) := row_made hv (HD.out.sm0 hs0) (by have := hs0.size; omega) hvl _
  have H0 : Hid (Sm [] w ((w0.alloc (.cells #[.slice (some ⟨b, o, none⟩) l.length cap, .slice a0 ks0.length kc0, .int .i64 0] 105 (0, 0))).alloc (.cells #[.int .i64 17, .string x1, .string x2, .string x3, .int .i64 x4, .int .i64 x5] 31 (0, 0)))) := (hs0.alloc _).alloc _
  have HS0 : Hid (Sm [w0.heap.size] ((w0.alloc (.cells #[.slice (some ⟨b, o, none⟩) l.length cap, .slice a0 ks0.length kc0, .int .i64 0] 105 (0, 0))).alloc (.cells #[.int .i64 17, .string x1, .string x2, .string x3, .int .i64 x4, .int .i64 x5] 31 (0, 0))) ((w0.alloc (.cells #[.slice (some ⟨b, o, none⟩) l.length cap, .slice a0 ks0.length kc0, .int .i64 0] 105 (0, 0))).alloc (.cells #[.int .i64 17, .string x1, .string x2, .string x3, .int .i64 x4, .int .i64 x5] 31 (0, 0)))) := Sm.refl _ _
  have hge : w.heap.size ≤ w0.heap.size := hs0.size
  have n0 := hs0.keeps n0 (by simp)
  have n1 := hs0.keeps n1 (by simp)
  have n2 := hs0.keeps n2 (by simp)
  have n3 := hs0.keeps n3 (by simp)
  have n4 := hs0.keeps n4 (by simp)
  have n5 := hs0.keeps n5 (by simp)
  have m0 := (sm_alloc0 w0 (.cells #[.slice (some ⟨b, o, none⟩) l.length cap, .slice a0 ks0.length kc0, .int .i64 0] 105 (0, 0))).keeps n0 (by simp)
  have m1 := (sm_alloc0 w0 (.cells #[.slice (some ⟨b, o, none⟩) l.length cap, .slice a0 ks0.length kc0, .int .i64 0] 105 (0, 0))).keeps n1 (by simp)
  have m2 := (sm_alloc0 w0 (.cells #[.slice (some ⟨b, o, none⟩) l.length cap, .slice a0 ks0.length kc0, .int .i64 0] 105 (0, 0))).keeps n2 (by simp)
  have m3 := (sm_alloc0 w0 (.cells #[.slice (some ⟨b, o, none⟩) l.length cap, .slice a0 ks0.length kc0, .int .i64 0] 105 (0, 0))).keeps n3 (by simp)
  have m4 := (sm_alloc0 w0 (.cells #[.slice (some ⟨b, o, none⟩) l.length cap, .slice a0 ks0.length kc0, .int .i64 0] 105 (0, 0))).keeps n4 (by simp)
  have m5 := (sm_alloc0 w0 (.cells #[.slice (some ⟨b, o, none⟩) l.length cap, .slice a0 ks0.length kc0, .int .i64 0] 105 (0, 0))).keeps n5 (by simp)
  clear hv hs0 hvl HC
  go_wp2_with fail
  go_loopg [] ks0.length (fun g wr => ListRel w0.heap.size b o cap l ks0 ((w0.alloc (.cells #[.slice (some ⟨b, o, none⟩) l.length cap, .slice a0 ks0.length kc0, .int .i64 0] 105 (0, 0))).alloc (.cells #[.int .i64 17, .string x1, .string x2, .string x3, .int .i64 x4, .int .i64 x5] 31 (0, 0))) g wr)
  case atStart => exact ⟨_, [], ks0, rfl, (fun k hk => by cases hk), HR0.out, HS0.out, rfl⟩
  case round =>
    unfold ListRel at hrel
    obtain ⟨lv1, done, rest, g1, g2, g3, g4, rfl⟩ := hrel
    have G1 : Hid (ks0 = done ++ rest) := g1
    have G2 : Hid (∀ k, k ∈ done → isV (kd l k)) := g2
    have G3 : Hid (RowAt wr w0.heap.size b o cap l lv1 rest 0) := g3
    have G4 : Hid (Sm [w0.heap.size] ((w0.alloc (.cells #[.slice (some ⟨b, o, none⟩) l.length cap, .slice a0 ks0.length kc0, .int .i64 0] 105 (0, 0))).alloc (.cells #[.int .i64 17, .string x1, .string x2, .string x3, .int .i64 x4, .int .i64 x5] 31 (0, 0))) wr) := g4
    have G5 : Hid (∀ k, k ∈ rest → k < l.length) := fun k hk => HK0.out k (by rw [g1]; simp [hk])
    clear g1 g2 g3 g4
    go_wp2_with fail
    refine (one_isValue w0.heap.size b o cap l _ rest _ _ G3.out G5.out hn).mono ?_
    rintro e w2 ⟨q, rfl, h0, h1⟩
    cases q with
    | false =>
      have HS2 : Hid (Sm [w0.heap.size] ((w0.alloc (.cells #[.slice (some ⟨b, o, none⟩) l.length cap, .slice a0 ks0.length kc0, .int .i64 0] 105 (0, 0))).alloc (.cells #[.int .i64 17, .string x1, .string x2, .string x3, .int .i64 x4, .int .i64 x5] 31 (0, 0))) w2) := G4.out.trans (h0 rfl).of_nil
      cases rest with
      | nil =>
        have HR2 : Hid (RowAt w2 w0.heap.size b o cap l lv1 [] 0) := G3.out.sm (X := []) (h0 rfl)
        clear h0 h1
        go_wp2_with (go_at_call 34; refine (end_nil w0.heap.size b o cap l _ _ _ HR2.out).mono ?_; rintro e w' ⟨rfl, hww⟩; rw [hww]; clear hww w')
        all_goals go_ret
        all_goals exact shaped_ok (shp_list hk.out (fun a ha => by rw [← HQ0.out, G1.out] at ha; simp at ha; exact G2.out a ha)) H0.out hge HS2.out
      | cons a t =>
        have HR2 : Hid (RowAt w2 w0.heap.size b o cap l lv1 (a :: t) 0) := G3.out.sm (X := []) (h0 rfl)
        clear h0 h1
        go_wp2_with (go_at_call 34; refine (end_cons w0.heap.size b o cap l _ a t _ _ HR2.out).mono ?_; rintro e w' ⟨rfl, hww⟩; rw [hww]; clear hww w')
        all_goals go_ret
        all_goals exact shaped_no H0.out hge HS2.out
    | true =>
      obtain ⟨k2, rest2, q1, q2, q3, lv2, q4⟩ := h1 rfl
      have HN : Hid (ListRel w0.heap.size b o cap l ks0 ((w0.alloc (.cells #[.slice (some ⟨b, o, none⟩) l.length cap, .slice a0 ks0.length kc0, .int .i64 0] 105 (0, 0))).alloc (.cells #[.int .i64 17, .string x1, .string x2, .string x3, .int .i64 x4, .int .i64 x5] 31 (0, 0))) rest2.length w2) := ⟨lv2, done ++ [k2], rest2, by rw [G1.out, q1]; simp, (fun k hk => by rcases List.mem_append.1 hk with hk | hk; exact G2.out k hk; rw [List.mem_singleton.1 hk]; exact vb_is q2), q4, G4.out.trans q3, rfl⟩
      have hlen : rest2.length < rest.length := by rw [q1]; simp
      clear h0 h1 q1 q2 q3 q4
      go_wp2_with fail
      go_roundg rest2.length
      case measure => exact hlen
      case rel => exact HN.out

set_option maxRecDepth 100000 in
set_option maxHeartbeats 8000000 in
theorem shaped_d (l : List Nd) (i b o cap : Nat) (w : World) (hd : DocAt w b o l) (hti : TreeIn l 0 l.length) (hi : i < l.length) (hn : l.length ≤ 2147483647)  (kv : Int) (x1 : (kv == 1) = false) (x2 : (kv == 2) = false) (x3 : (kv == 3) = false) (x8 : (kv == 8) = false) (x4 : (kv == 4) = false) (x5 : (kv == 5) = false) (x6 : (kv == 6) = false) (x7 : (kv == 7) = false) (x9 : (kv == 9) = false) (x19 : (kv == 19) = false) (x10 : (kv == 10) = false) (x17 : (kv == 17) = false) (x18 : (kv == 18) = false) (x21 : (kv == 21) = false) (x22 : (kv == 22) = false) (hv : Shp l i) (hk' : kd l i = kv) :
    Calls Tryz.prog 19 #[.slice (some ⟨b, o, none⟩) l.length cap, .int .i64 (i : Int)] w (ShapedPost l i w) := by
  have HV : Hid (Shp l i) := hv
  clear hv
  have hk : Hid (kd l i = kv) := hk'
  obtain ⟨hsz, hsl, kks, hch⟩ := hti i (Nat.zero_le _) hi
  have hch := kids_ch ⟨kks, hch⟩
  obtain ⟨ks0, hks0⟩ : ∃ k, k = kids l i := ⟨_, rfl⟩
  rw [← hks0] at hch
  have HQ0 : Hid (ks0 = kids l i) := hks0
  have H39 : Hid (kv = 39 → ∀ k, ks0 = [k] → k = i + 1) := fun _ k hk => by rw [hk] at hch; exact hch.1
  have hl0 : ks0.length ≤ 2147483647 := by have := hch.le; omega
  have HK0 : Hid (∀ k, k ∈ ks0 → k < l.length) := fun k hk => by have := hch.mem k hk; omega
  have HC : Hid (Calls Tryz.prog 10 #[.slice (some ⟨b, o, none⟩) l.length cap, .int .i64 (i : Int)] w fun e w' => ∃ v, e = .returned v ∧ IntsAt w' v ks0 ∧ Sm [] w w' ∧ ∀ b o n c, v = .slice (some ⟨b, o, none⟩) n c → b < w'.heap.size) := kids2_any l i b o cap ks0 w hd hi hn hch hsl
  obtain ⟨n0, n1, n2, n3, n4, n5⟩ := hd i hi
  rw [← kd_at hi, hk'] at n0
  generalize l[i].name = x1 at *
  generalize l[i].alias = x2 at *
  generalize l[i].text = x3 at *
  generalize l[i].flag = x4 at *
  generalize l[i].size = x5 at *
  have ht : Hid (TreeIn l 0 l.length) := hti
  have HD : Hid (DocAt w b o l) := hd
  have hb : b < w.heap.size := hd.lt (by omega)
  have z1 : (0 : Int) ≤ (i : Int) := by omega
  have z2 : (i : Int) < (l.length : Int) := by omega
  clear hk' hti hd hks0 hch
  go_enter Tryz.func19, Tryz.ntmps19
  go_wp2_with fail
  refine HC.out.mono ?_
  rintro e w0 ⟨v, rfl, hv, hs0, hvl⟩
  have hv' := hv
  obtain ⟨a0, kc0, rfl, _, _, _⟩ := hv'
  have HR0 : Hid (RowAt ((w0.alloc (.cells #[.slice (some ⟨b, o, none⟩) l.length cap, .slice a0 ks0.length kc0, .int .i64 0] 105 (0, 0))).alloc (.cells #[.int .i64 kv, .string x1, .string x2, .string x3, .int .i64 x4, .int .i64 x5] 31 (0, 0))) w0.heap.size b o cap l (.slice a0 ks0.length kc0) ks0 0) := row_made hv (HD.out.sm0 hs0) (by have := hs0.size; omega) hvl _
  have H0 : Hid (Sm [] w ((w0.alloc (.cells #[.slice (some ⟨b, o, none⟩) l.length cap, .slice a0 ks0.length kc0, .int .i64 0] 105 (0, 0))).alloc (.cells #[.int .i64 kv, .string x1, .string x2, .string x3, .int .i64 x4, .int .i64 x5] 31 (0, 0)))) := (hs0.alloc _).alloc _
  have HS0 : Hid (Sm [w0.heap.size] ((w0.alloc (.cells #[.slice (some ⟨b, o, none⟩) l.length cap, .slice a0 ks0.length kc0, .int .i64 0] 105 (0, 0))).alloc (.cells #[.int .i64 kv, .string x1, .string x2, .string x3, .int .i64 x4, .int .i64 x5] 31 (0, 0))) ((w0.alloc (.cells #[.slice (some ⟨b, o, none⟩) l.length cap, .slice a0 ks0.length kc0, .int .i64 0] 105 (0, 0))).alloc (.cells #[.int .i64 kv, .string x1, .string x2, .string x3, .int .i64 x4, .int .i64 x5] 31 (0, 0)))) := Sm.refl _ _
  have hge : w.heap.size ≤ w0.heap.size := hs0.size
  have n0 := hs0.keeps n0 (by simp)
  have n1 := hs0.keeps n1 (by simp)
  have n2 := hs0.keeps n2 (by simp)
  have n3 := hs0.keeps n3 (by simp)
  have n4 := hs0.keeps n4 (by simp)
  have n5 := hs0.keeps n5 (by simp)
  have m0 := (sm_alloc0 w0 (.cells #[.slice (some ⟨b, o, none⟩) l.length cap, .slice a0 ks0.length kc0, .int .i64 0] 105 (0, 0))).keeps n0 (by simp)
  have m1 := (sm_alloc0 w0 (.cells #[.slice (some ⟨b, o, none⟩) l.length cap, .slice a0 ks0.length kc0, .int .i64 0] 105 (0, 0))).keeps n1 (by simp)
  have m2 := (sm_alloc0 w0 (.cells #[.slice (some ⟨b, o, none⟩) l.length cap, .slice a0 ks0.length kc0, .int .i64 0] 105 (0, 0))).keeps n2 (by simp)
  have m3 := (sm_alloc0 w0 (.cells #[.slice (some ⟨b, o, none⟩) l.length cap, .slice a0 ks0.length kc0, .int .i64 0] 105 (0, 0))).keeps n3 (by simp)
  have m4 := (sm_alloc0 w0 (.cells #[.slice (some ⟨b, o, none⟩) l.length cap, .slice a0 ks0.length kc0, .int .i64 0] 105 (0, 0))).keeps n4 (by simp)
  have m5 := (sm_alloc0 w0 (.cells #[.slice (some ⟨b, o, none⟩) l.length cap, .slice a0 ks0.length kc0, .int .i64 0] 105 (0, 0))).keeps n5 (by simp)
  clear hv hs0 hvl HC
  have p0 := (sm_alloc0 _ (.cells #[.int .i64 kv, .string x1, .string x2, .string x3, .int .i64 x4, .int .i64 x5] 31 (0, 0))).keeps m0 (by simp)
  first | go_wp2_with fail | skip
  refine (shapedType_any kv w0.heap.size b o cap i l _ ks0 0 _ HR0.out HK0.out ht.out hi hn hl0 H39.out).mono ?_
  rintro e w1x ⟨q, rfl, g0⟩
  have HS1 : Hid (Sm [w0.heap.size] ((w0.alloc (.cells #[.slice (some ⟨b, o, none⟩) l.length cap, .slice a0 ks0.length kc0, .int .i64 0] 105 (0, 0))).alloc (.cells #[.int .i64 kv, .string x1, .string x2, .string x3, .int .i64 x4, .int .i64 x5] 31 (0, 0))) w1x) := HS0.out.trans g0
  clear g0
  go_wp2_with fail
  all_goals go_ret
  all_goals exact shaped_ok HV.out H0.out hge HS1.out

theorem shaped_any (l : List Nd) (i b o cap : Nat) (w : World) (hd : DocAt w b o l) (hti : TreeIn l 0 l.length) (hi : i < l.length) (hn : l.length ≤ 2147483647) :
    Calls Tryz.prog 19 #[.slice (some ⟨b, o, none⟩) l.length cap, .int .i64 (i : Int)] w (ShapedPost l i w) := by
  by_cases x2 : kd l i = 2
  · by_cases f : fl l i = 1
    · exact shaped_2a l i b o cap w hd hti hi hn x2 f
    · exact shaped_2b l i b o cap w hd hti hi hn x2 f
  by_cases x1 : kd l i = 1
  · exact shaped_1 l i b o cap w hd hti hi hn x1
  by_cases x3 : kd l i = 3
  · exact shaped_3 l i b o cap w hd hti hi hn x3
  by_cases x8 : kd l i = 8
  · exact shaped_8 l i b o cap w hd hti hi hn x8
  by_cases x4 : kd l i = 4
  · exact shaped_4 l i b o cap w hd hti hi hn x4
  by_cases x5 : kd l i = 5
  · exact shaped_5 l i b o cap w hd hti hi hn x5
  by_cases x6 : kd l i = 6
  · exact shaped_6 l i b o cap w hd hti hi hn x6
  by_cases x7 : kd l i = 7
  · exact shaped_7 l i b o cap w hd hti hi hn x7
  by_cases x9 : kd l i = 9
  · exact shaped_9 l i b o cap w hd hti hi hn x9
  by_cases x19 : kd l i = 19
  · exact shaped_19 l i b o cap w hd hti hi hn x19
  by_cases x10 : kd l i = 10
  · exact shaped_10 l i b o cap w hd hti hi hn x10
  by_cases x17 : kd l i = 17
  · exact shaped_17 l i b o cap w hd hti hi hn x17
  by_cases x18 : kd l i = 18
  · exact shaped_18 l i b o cap w hd hti hi hn x18
  by_cases x21 : kd l i = 21
  · exact shaped_21 l i b o cap w hd hti hi hn x21
  by_cases x22 : kd l i = 22
  · exact shaped_22 l i b o cap w hd hti hi hn x22
  exact shaped_d l i b o cap w hd hti hi hn (kd l i) (by simp [x1]) (by simp [x2]) (by simp [x3]) (by simp [x8]) (by simp [x4]) (by simp [x5]) (by simp [x6]) (by simp [x7]) (by simp [x9]) (by simp [x19]) (by simp [x10]) (by simp [x17]) (by simp [x18]) (by simp [x21]) (by simp [x22]) (shp_vac ⟨x2, x3, x8, x4, x5, x9, x19, x17, x18, x21, x22⟩) rfl

end

end Go.Proofs.YtigpnidffiaigaaGreat
