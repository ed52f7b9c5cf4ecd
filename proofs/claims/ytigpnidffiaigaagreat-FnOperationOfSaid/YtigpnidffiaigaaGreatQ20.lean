/- Walks: the maker: sets of selections. -/
import Derived.Test.YtigpnidffiaigaaGreatProg
import Derived.BigRegion
import Derived.Deep.RegionHeld3
import Derived.Deep.CutRange
import Derived.Deep.RegionLaw
import Derived.Deep.AppendLies
import Derived.Test.YtigpnidffiaigaaGreatQ19
set_option linter.unusedVariables false
set_option linter.unusedSimpArgs false
namespace Go.Proofs.YtigpnidffiaigaaGreat

section
open Go.RowKit
attribute [local go_sem ↓] Go.wp_at_zero Go.wp_at_succ

def SetRel (w w1 : World) (T : TypeId) (N g : Nat) (v u : Value) (wr : World) : Prop :=
  ∃ (j : Nat) (xs : List Value), j ≤ N ∧ u = .int .i64 (j : Int) ∧ wr.ownsRow w.heap.size T 1 v xs.length xs ∧ xs.length ≤ j ∧ Sm [] w wr ∧ Sm [w.heap.size] w1 wr ∧ (∀ b, v.ownBlock = some b → b = w.heap.size ∨ w1.heap.size ≤ b) ∧ g = N - j
theorem setRel_start {w w1 : World} {T : TypeId} {N : Nat} (h : Sm [] (w.alloc (.cells #[] T (0, 0))) w1) : SetRel w w1 T N N (.slice (some ⟨w.heap.size, 0, none⟩) 0 0) (.int .i64 0) w1 :=
  ⟨0, [], Nat.zero_le _, rfl, own_sm (own_empty w T _ _ (Nat.le_refl _) rfl) h, Nat.le_refl _, ((Sm.refl _ _).alloc _).trans h, Sm.refl _ _, (fun b hb => by simp [Value.ownBlock] at hb; exact .inl hb.symm), rfl⟩
theorem setRel_next {w w1 W w' : World} {T : TypeId} {N j g cap : Nat} {v u z : Value} {xs : List Value} (hj : j < N) (hu : u = .int .i64 ((j : Int) + 1)) (hx : xs.length ≤ j) (ht : Sm [] w W) (ht1 : Sm [w.heap.size] w1 W) (hown : W.ownsRow w.heap.size T 1 v xs.length xs)
    (hg : W.grownBy w' v.ownBlock) (hv : ∀ b, v.ownBlock = some b → b = w.heap.size ∨ w1.heap.size ≤ b) (hat : v.ownBlock = some g ∨ g = W.heap.size + 1) (h : w'.ownsRow w.heap.size T 1 (.slice (some ⟨g, 0, none⟩) (xs.length + 1) cap) (xs.length + 1) (xs ++ [z])) : SetRel w w1 T N (N - (j + 1)) (.slice (some ⟨g, 0, none⟩) (xs.length + 1) cap) u w' :=
  ⟨j + 1, xs ++ [z], hj, by rw [hu]; push_cast; rfl, by simpa using h, by simp; omega, ht.grown hg (fun b hb => .inl (hown.lt b hb).1), ht1.grown hg (fun b hb => by rcases hv b hb with h | h; exact .inr (by simp [h]); exact .inl h),
    (fun b hb => by
      simp [Value.ownBlock] at hb
      subst hb
      rcases hat with h | h
      · exact hv _ h
      · have := ht1.size; exact .inr (by omega)), rfl⟩
theorem ints_keep {w w1 wr : World} {a : Option Addr} {c : Nat} {ks : List Nat} (h : IntsAt w1 (.slice a ks.length c) ks) (hs : Sm [w.heap.size] w1 wr) (hg : ∀ b o, a = some ⟨b, o, none⟩ → w.heap.size + 1 ≤ b) : IntsAt wr (.slice a ks.length c) ks :=
  h.sm hs (fun b o n k e => by simp only [Value.slice.injEq] at e; have := hg b o e.1; simp; omega)

set_option maxRecDepth 100000 in
set_option maxHeartbeats 8000000 in
theorem set_step (l : List Nd) (mb b o cap i : Nat) (w : World) (hm : MAt w mb b o cap l) (hd : Doc l) (hi : i < l.length) (hk5 : kd l i = 5)
    (ih : ∀ x W, i < x → x < l.length → kd l x = 5 → MAt W mb b o cap l → Calls Tryz.prog 110 #[.pointer (some ⟨mb, 0, none⟩), .int .i64 (x : Int)] W (PtrGo W)) :
    Calls Tryz.prog 110 #[.pointer (some ⟨mb, 0, none⟩), .int .i64 (i : Int)] w (PtrGo w) := by
  have IHS : Hid (∀ x W, i < x → x < l.length → kd l x = 5 → MAt W mb b o cap l → Calls Tryz.prog 110 #[.pointer (some ⟨mb, 0, none⟩), .int .i64 (x : Int)] W (PtrGo W)) := ih
  have HM0 : Hid (MAt w mb b o cap l) := hm
  have HD : Hid (Doc l) := hd
  have HSZI : Hid (1 ≤ sz l i ∧ i + sz l i ≤ l.length) := ⟨hd.tree.sz_pos hi, hd.tree.sz_le hi⟩
  have hn : l.length ≤ 2147483647 := by have := hd.tree.most; omega
  have HKI : Hid (∀ W, MAt W mb b o cap l → Calls Tryz.prog 20 #[.pointer (some ⟨mb, 0, none⟩), .int .i64 (i : Int)] W (KidsPost (kids l i) W)) := fun W h => mkids_any l mb b o cap i W h hd.tree hi
  have HKK : Hid (∀ k, k ∈ kids l i → i < k ∧ k < l.length ∧ (kd l k = 6 ∨ kd l k = 7 ∨ kd l k = 8)) := fun k h => ⟨(hd.tree.kid hi h).1, (hd.tree.kid hi h).2.1, (hd.shp i hi).sels hk5 k h⟩
  have hkl : (kids l i).length ≤ 400 := hd.tree.kids_len hi
  generalize kids l i = kz at *
  clear ih hm hd hk5
  go_enter Tryz.func110, Tryz.ntmps110
  go_wp2_with fail
  refine (HKI.out _ (HM0.out.sm ((Sm.refl _ _).alloc _))).mono ?_
  rintro e w1 ⟨za, zc, rfl, hzi, hs1, hzg⟩
  have HZI : Hid (IntsAt w1 (.slice za kz.length zc) kz) := hzi
  have HS1 : Hid (Sm [] (w.alloc (.cells #[] 470 (0, 0))) w1) := hs1
  have HZG : Hid (∀ b o, za = some ⟨b, o, none⟩ → w.heap.size + 1 ≤ b) := fun b o h => by have := hzg b o h; simpa using this
  clear hzi hs1 hzg
  go_wp2_with fail
  go_loopg [5, 7, 8, 9, 10, 16] kz.length (fun g v _ _ _ _ u wr => SetRel w w1 470 kz.length g v u wr)
  case atStart => exact setRel_start HS1.out
  case round =>
    unfold SetRel at hrel
    obtain ⟨j, xs, hj, rfl, hown, hx, hs, hs1, hvb, rfl⟩ := hrel
    have HS : Hid (Sm [] w wr) := hs
    have HS2 : Hid (Sm [w.heap.size] w1 wr) := hs1
    have HVB : Hid (∀ b, _ = some b → b = w.heap.size ∨ w1.heap.size ≤ b) := hvb
    have HM : Hid (MAt wr mb b o cap l) := HM0.out.sm hs
    have y1 : (0 : Int) ≤ (j : Int) := by omega
    by_cases hlt : j < kz.length
    · have y2 : (j : Int) < (kz.length : Int) := by omega
      obtain ⟨xb, xo, rfl, _, hxc⟩ := ints_at (ints_keep HZI.out hs1 HZG.out) hlt
      have hmem := getD_memN hlt
      generalize kz.getD j 0 = k at *
      obtain ⟨hik, hkl2, hkk⟩ := HKK.out k hmem
      have z1 : (0 : Int) ≤ (k : Int) := by omega
      have z2 : (k : Int) < (l.length : Int) := by omega
      have hkz : kz.length - j ≤ 400 := by omega
      clear hs hs1 hmem hvb
      rcases hkk with hkK | hkK | hkK
      · skip
        have c0 := HM.out.c0
        obtain ⟨n0, n1, n2, n3, n4, n5⟩ := HM.out.doc k hkl2
        rw [← kd_at hkl2, hkK] at n0
        rw [← nm_at hkl2] at n1
        rw [← tx_at hkl2] at n3
        obtain ⟨x1, hx1⟩ : ∃ x, x = nm l k := ⟨_, rfl⟩
        obtain ⟨x3, hx3⟩ : ∃ x, x = tx l k := ⟨_, rfl⟩
        rw [← hx1] at n1
        rw [← hx3] at n3
        generalize l[k].alias = x2 at *
        generalize l[k].flag = x4 at *
        generalize l[k].size = x5 at *
        have HX1 : Hid (x1 = nm l k) := hx1
        have HX3 : Hid (x3 = tx l k) := hx3
        have HK : Hid (∀ W, MAt W mb b o cap l → Calls Tryz.prog 20 #[.pointer (some ⟨mb, 0, none⟩), .int .i64 (k : Int)] W (KidsPost (kids l k) W)) := fun W h => mkids_any l mb b o cap k W h HD.out.tree hkl2
        obtain ⟨ks, hks⟩ : ∃ ks, ks = kids l k := ⟨_, rfl⟩
        rw [← hks] at HK
        have HKS : Hid (ks = kids l k) := hks
        have HSZ : Hid (1 ≤ sz l k ∧ k + sz l k ≤ l.length) := ⟨HD.out.tree.sz_pos hkl2, HD.out.tree.sz_le hkl2⟩
        have HKD : Hid (kd l k = 6) := hkK
        have hne0 := World.new_ne _ _ c0
        have hne1 := World.new_ne _ _ n0
        clear hkK hx1 hx3 hks
        have HNM : Hid (nm l k ≠ ByteArray.empty) := (HD.out.frm k hkl2).name (by have := HKD.out; omega)
        go_upto_region 5 with fail
        go_cut [8, 9] from 17 to 105 (fun p kv wx => XCut wr ks ⟨6, x1, x2, x3, x4, x5⟩ p kv wx)
        case first =>
          go_region_held3 (fun W => W.cell? ⟨mb, 0, none⟩ = some (.slice (some ⟨b, o, none⟩) l.length cap) ∧ W.cell? ⟨b, o + k * 6, none⟩ = some (.int .i64 6) ∧ W.cell? ⟨b, o + k * 6 + 1, none⟩ = some (.string x1) ∧ W.cell? ⟨b, o + k * 6 + 2, none⟩ = some (.string x2) ∧ W.cell? ⟨b, o + k * 6 + 3, none⟩ = some (.string x3) ∧ W.cell? ⟨b, o + k * 6 + 4, none⟩ = some (.int .i64 x4) ∧ W.cell? ⟨b, o + k * 6 + 5, none⟩ = some (.int .i64 x5)) (go_keep)
            (first
              | (go_at_call 20; refine (HK.out _ ?_).mono ?_; refine HM.out.sm ?_; (repeat (first | exact Sm.refl _ _ | refine Sm.alloc ?_ _ | refine Sm.drew ?_ | refine Sm.drewN ?_ _)); rintro e w2 ⟨a, kc, rfl, hints, hs2, hge⟩; have hT : Sm [] wr w2 := (by refine Sm.trans ?_ hs2; (repeat (first | exact Sm.refl _ _ | refine Sm.alloc ?_ _ | refine Sm.drew ?_ | refine Sm.drewN ?_ _))); have g0 := hT.keeps c0 (by simp); have g1 := hT.keeps n0 (by simp); have g2 := hT.keeps n1 (by simp); have g3 := hT.keeps n2 (by simp); have g4 := hT.keeps n3 (by simp); have g5 := hT.keeps n4 (by simp); have g6 := hT.keeps n5 (by simp); have hz := hs2.obj (obj_alloc _ _) (by simp); have q0 := cell_of hz (i := 0) rfl; have q1 := cell_of hz (i := 1) rfl; have q2 := cell_of hz (i := 2) rfl; have q3 := cell_of hz (i := 3) rfl; have q4 := cell_of hz (i := 4) rfl; have q5 := cell_of hz (i := 5) rfl; have r0 := free_of hz 0; have r1 := free_of hz 1; have r2 := free_of hz 2; have r3 := free_of hz 3; have r4 := free_of hz 4; have r5 := free_of hz 5)
              | (go_at_call 20; refine (HK.out _ ?_).mono ?_; refine HM.out.sm ?_; (repeat (first | exact Sm.refl _ _ | refine Sm.alloc ?_ _ | refine Sm.drew ?_ | refine Sm.drewN ?_ _)); rintro e w2 ⟨a, kc, rfl, hints, hs2, hge⟩; have hT : Sm [] wr w2 := (by refine Sm.trans ?_ hs2; (repeat (first | exact Sm.refl _ _ | refine Sm.alloc ?_ _ | refine Sm.drew ?_ | refine Sm.drewN ?_ _))); have g0 := hT.keeps c0 (by simp); have g1 := hT.keeps n0 (by simp); have g2 := hT.keeps n1 (by simp); have g3 := hT.keeps n2 (by simp); have g4 := hT.keeps n3 (by simp); have g5 := hT.keeps n4 (by simp); have g6 := hT.keeps n5 (by simp)))
          all_goals
            go_wp2_with fail
            go_meet
            first
            | exact xcut_a hT hints _ _ _ _ _ _
            | exact xcut_b hT hints hz (Nat.le_refl _) hge (by simp) _ _ _ _ _ _
        case rest =>
          obtain ⟨nb, a, kc, rfl, rfl, hints, hN, hT, hnb⟩ := hcut
          have HM1 : Hid (MAt wc mb b o cap l) := HM.out.sm hT
          have HT1 : Hid (Sm [] wr wc) := hT
          have HI : Hid (IntsAt wc (.slice a ks.length kc) ks) := hints
          have HN : Hid (wc.heap[nb]? = some (.cells #[.int .i64 6, .string x1, .string x2, .string x3, .int .i64 x4, .int .i64 x5] 31 (0, 0))) := hN
          have p0 : wc.cell? ⟨nb, 0, none⟩ = some (.int .i64 6) := cell_of hN rfl
          have p1 : wc.cell? ⟨nb, 1, none⟩ = some (.string x1) := cell_of hN rfl
          have p2 : wc.cell? ⟨nb, 2, none⟩ = some (.string x2) := cell_of hN rfl
          have p3 : wc.cell? ⟨nb, 3, none⟩ = some (.string x3) := cell_of hN rfl
          have p4 : wc.cell? ⟨nb, 4, none⟩ = some (.int .i64 x4) := cell_of hN rfl
          have d2 := HM1.out.c2
          clear hints hN hT c0 n0 n1 n2 n3 n4 n5
          have HKk : Hid (∀ x, x ∈ ks → x < l.length) := fun x hx => (HD.out.tree.kid hkl2 (by rw [← HKS.out]; exact hx)).2.1
          have hk4 : ks.length ≤ 400 := by rw [HKS.out]; exact HD.out.tree.kids_len hkl2
          have HSEL : Hid (∀ x W, x ∈ ks → kd l x = 5 → MAt W mb b o cap l → Calls Tryz.prog 110 #[.pointer (some ⟨mb, 0, none⟩), .int .i64 (x : Int)] W (PtrGo W)) := fun x W hx h5 hW => by
            have h1 := HD.out.tree.kid hkl2 (a := x) (by rw [← HKS.out]; exact hx)
            exact IHS.out x W (by omega) h1.2.1 h5 hW
          have HI1 : Hid (IntsAt wc (.slice a ks.length kc) ks) := HI.out
          go_wp2_with fail
          refine (name_any x2 _).mono ?_
          rintro e w2 ⟨qa, rfl, _, _, _, hs⟩
          have HM2 : Hid (MAt w2 mb b o cap l) := HM1.out.sm hs
          have HT2 : Hid (Sm [] wr w2) := HT1.out.trans hs
          have HI2 : Hid (IntsAt w2 (.slice a ks.length kc) ks) := HI1.out.sm0 hs
          clear hs
          go_wp2_with fail
          refine (called_any l mb b o cap k _ HM2.out hkl2 HNM.out).mono ?_
          rintro e w3 ⟨qb, rfl, _, hs⟩
          have HM3 : Hid (MAt w3 mb b o cap l) := HM2.out.sm hs
          have HT3 : Hid (Sm [] wr w3) := HT2.out.trans hs
          have HI3 : Hid (IntsAt w3 (.slice a ks.length kc) ks) := HI2.out.sm0 hs
          clear hs
          go_wp2_with fail
          refine (arguments_any l mb b o cap kc a ks _ HM3.out HD.out hk4 HI3.out HKk.out).mono ?_
          rintro e w4 ⟨aa, an, ac, rfl, hs⟩
          have HM4 : Hid (MAt w4 mb b o cap l) := HM3.out.sm hs
          have HT4 : Hid (Sm [] wr w4) := HT3.out.trans hs
          have HI4 : Hid (IntsAt w4 (.slice a ks.length kc) ks) := HI3.out.sm0 hs
          clear hs
          go_wp2_with fail
          refine (directives_any l mb b o cap kc a ks _ HM4.out HD.out hk4 HI4.out HKk.out).mono ?_
          rintro e w5 ⟨da, dn, dc, rfl, hs⟩
          have HM5 : Hid (MAt w5 mb b o cap l) := HM4.out.sm hs
          have HT5 : Hid (Sm [] wr w5) := HT4.out.trans hs
          have HI5 : Hid (IntsAt w5 (.slice a ks.length kc) ks) := HI4.out.sm0 hs
          clear hs
          go_wp2_with fail
          refine (selections_any l mb b o cap kc a ks _ HM5.out HD.out hk4 HI5.out HKk.out HSEL.out).mono ?_
          rintro e w6 ⟨sa, rfl, _, hs⟩
          have HM6 : Hid (MAt w6 mb b o cap l) := HM5.out.sm hs
          have HT6 : Hid (Sm [] wr w6) := HT5.out.trans hs
          have HI6 : Hid (IntsAt w6 (.slice a ks.length kc) ks) := HI5.out.sm0 hs
          clear hs
          go_wp2_with fail
          refine (loc_any l mb b o cap k _ HM6.out hkl2 hn HSZ.out.1 HSZ.out.2).mono ?_
          rintro e wl ⟨rfl, rfl⟩
          go_wp2_with fail
          refine (newField_any _ _ _ _ (obj_at (by simp)) rfl).mono ?_
          intro e w8 h8
          obtain ⟨q8, rfl, hs8⟩ := inPlace_go h8 (by simp)
          have hT8 : Sm [] wr w8 := (HT6.out.alloc _).trans hs8
          have hown8 := own_sm hown hT8
          have HT8 : Hid (Sm [] w w8) := HS.out.trans hT8
          have HT9 : Hid (Sm [w.heap.size] w1 w8) := HS2.out.trans hT8.of_nil
          have hz8 : w.heap.size ≤ w8.heap.size := HT8.out.size
          clear hT8 hown
          clear h8 hs8
          go_wp2_with (at_builtin; refine app1 _ rfl _ _ _ rfl 470 _ 1 16 Tryz.underlying327 infoSel rfl (by omega) (by omega) _ xs.length xs rfl hown8 _ rfl rfl (by simp [Value.oneCell']) (by omega) hz8 ?_)
          intro g gcap w9 q1 q2 q3 q4
          have HN3 : Hid (SetRel w w1 470 kz.length (kz.length - (j + 1)) (.slice (some ⟨g, 0, none⟩) (xs.length + 1) gcap) (.int .i64 ((j : Int) + 1)) w9) := setRel_next hlt rfl hx HT8.out HT9.out hown8 q2 HVB.out q3 q1
          clear q1 q2 q3 q4 hown8
          go_wp2_with fail
          go_roundg (kz.length - (j + 1))
          case measure => omega
          case rel => exact HN3.out
      · skip
        have c0 := HM.out.c0
        obtain ⟨n0, n1, n2, n3, n4, n5⟩ := HM.out.doc k hkl2
        rw [← kd_at hkl2, hkK] at n0
        rw [← nm_at hkl2] at n1
        rw [← tx_at hkl2] at n3
        obtain ⟨x1, hx1⟩ : ∃ x, x = nm l k := ⟨_, rfl⟩
        obtain ⟨x3, hx3⟩ : ∃ x, x = tx l k := ⟨_, rfl⟩
        rw [← hx1] at n1
        rw [← hx3] at n3
        generalize l[k].alias = x2 at *
        generalize l[k].flag = x4 at *
        generalize l[k].size = x5 at *
        have HX1 : Hid (x1 = nm l k) := hx1
        have HX3 : Hid (x3 = tx l k) := hx3
        have HK : Hid (∀ W, MAt W mb b o cap l → Calls Tryz.prog 20 #[.pointer (some ⟨mb, 0, none⟩), .int .i64 (k : Int)] W (KidsPost (kids l k) W)) := fun W h => mkids_any l mb b o cap k W h HD.out.tree hkl2
        obtain ⟨ks, hks⟩ : ∃ ks, ks = kids l k := ⟨_, rfl⟩
        rw [← hks] at HK
        have HKS : Hid (ks = kids l k) := hks
        have HSZ : Hid (1 ≤ sz l k ∧ k + sz l k ≤ l.length) := ⟨HD.out.tree.sz_pos hkl2, HD.out.tree.sz_le hkl2⟩
        have HKD : Hid (kd l k = 7) := hkK
        have hne0 := World.new_ne _ _ c0
        have hne1 := World.new_ne _ _ n0
        clear hkK hx1 hx3 hks
        have HNM : Hid (nm l k ≠ ByteArray.empty) := (HD.out.frm k hkl2).name (by have := HKD.out; omega)
        go_upto_region 5 with fail
        go_cut [8, 9] from 17 to 105 (fun p kv wx => XCut wr ks ⟨7, x1, x2, x3, x4, x5⟩ p kv wx)
        case first =>
          go_region_held3 (fun W => W.cell? ⟨mb, 0, none⟩ = some (.slice (some ⟨b, o, none⟩) l.length cap) ∧ W.cell? ⟨b, o + k * 6, none⟩ = some (.int .i64 7) ∧ W.cell? ⟨b, o + k * 6 + 1, none⟩ = some (.string x1) ∧ W.cell? ⟨b, o + k * 6 + 2, none⟩ = some (.string x2) ∧ W.cell? ⟨b, o + k * 6 + 3, none⟩ = some (.string x3) ∧ W.cell? ⟨b, o + k * 6 + 4, none⟩ = some (.int .i64 x4) ∧ W.cell? ⟨b, o + k * 6 + 5, none⟩ = some (.int .i64 x5)) (go_keep)
            (first
              | (go_at_call 20; refine (HK.out _ ?_).mono ?_; refine HM.out.sm ?_; (repeat (first | exact Sm.refl _ _ | refine Sm.alloc ?_ _ | refine Sm.drew ?_ | refine Sm.drewN ?_ _)); rintro e w2 ⟨a, kc, rfl, hints, hs2, hge⟩; have hT : Sm [] wr w2 := (by refine Sm.trans ?_ hs2; (repeat (first | exact Sm.refl _ _ | refine Sm.alloc ?_ _ | refine Sm.drew ?_ | refine Sm.drewN ?_ _))); have g0 := hT.keeps c0 (by simp); have g1 := hT.keeps n0 (by simp); have g2 := hT.keeps n1 (by simp); have g3 := hT.keeps n2 (by simp); have g4 := hT.keeps n3 (by simp); have g5 := hT.keeps n4 (by simp); have g6 := hT.keeps n5 (by simp); have hz := hs2.obj (obj_alloc _ _) (by simp); have q0 := cell_of hz (i := 0) rfl; have q1 := cell_of hz (i := 1) rfl; have q2 := cell_of hz (i := 2) rfl; have q3 := cell_of hz (i := 3) rfl; have q4 := cell_of hz (i := 4) rfl; have q5 := cell_of hz (i := 5) rfl; have r0 := free_of hz 0; have r1 := free_of hz 1; have r2 := free_of hz 2; have r3 := free_of hz 3; have r4 := free_of hz 4; have r5 := free_of hz 5)
              | (go_at_call 20; refine (HK.out _ ?_).mono ?_; refine HM.out.sm ?_; (repeat (first | exact Sm.refl _ _ | refine Sm.alloc ?_ _ | refine Sm.drew ?_ | refine Sm.drewN ?_ _)); rintro e w2 ⟨a, kc, rfl, hints, hs2, hge⟩; have hT : Sm [] wr w2 := (by refine Sm.trans ?_ hs2; (repeat (first | exact Sm.refl _ _ | refine Sm.alloc ?_ _ | refine Sm.drew ?_ | refine Sm.drewN ?_ _))); have g0 := hT.keeps c0 (by simp); have g1 := hT.keeps n0 (by simp); have g2 := hT.keeps n1 (by simp); have g3 := hT.keeps n2 (by simp); have g4 := hT.keeps n3 (by simp); have g5 := hT.keeps n4 (by simp); have g6 := hT.keeps n5 (by simp)))
          all_goals
            go_wp2_with fail
            go_meet
            first
            | exact xcut_a hT hints _ _ _ _ _ _
            | exact xcut_b hT hints hz (Nat.le_refl _) hge (by simp) _ _ _ _ _ _
        case rest =>
          obtain ⟨nb, a, kc, rfl, rfl, hints, hN, hT, hnb⟩ := hcut
          have HM1 : Hid (MAt wc mb b o cap l) := HM.out.sm hT
          have HT1 : Hid (Sm [] wr wc) := hT
          have HI : Hid (IntsAt wc (.slice a ks.length kc) ks) := hints
          have HN : Hid (wc.heap[nb]? = some (.cells #[.int .i64 7, .string x1, .string x2, .string x3, .int .i64 x4, .int .i64 x5] 31 (0, 0))) := hN
          have p0 : wc.cell? ⟨nb, 0, none⟩ = some (.int .i64 7) := cell_of hN rfl
          have p1 : wc.cell? ⟨nb, 1, none⟩ = some (.string x1) := cell_of hN rfl
          have p2 : wc.cell? ⟨nb, 2, none⟩ = some (.string x2) := cell_of hN rfl
          have p3 : wc.cell? ⟨nb, 3, none⟩ = some (.string x3) := cell_of hN rfl
          have p4 : wc.cell? ⟨nb, 4, none⟩ = some (.int .i64 x4) := cell_of hN rfl
          have d2 := HM1.out.c2
          clear hints hN hT c0 n0 n1 n2 n3 n4 n5
          have HKk : Hid (∀ x, x ∈ ks → x < l.length) := fun x hx => (HD.out.tree.kid hkl2 (by rw [← HKS.out]; exact hx)).2.1
          have hk4 : ks.length ≤ 400 := by rw [HKS.out]; exact HD.out.tree.kids_len hkl2
          have HSEL : Hid (∀ x W, x ∈ ks → kd l x = 5 → MAt W mb b o cap l → Calls Tryz.prog 110 #[.pointer (some ⟨mb, 0, none⟩), .int .i64 (x : Int)] W (PtrGo W)) := fun x W hx h5 hW => by
            have h1 := HD.out.tree.kid hkl2 (a := x) (by rw [← HKS.out]; exact hx)
            exact IHS.out x W (by omega) h1.2.1 h5 hW
          have HI1 : Hid (IntsAt wc (.slice a ks.length kc) ks) := HI.out
          go_wp2_with fail
          refine (called_any l mb b o cap k _ HM1.out hkl2 HNM.out).mono ?_
          rintro e w2 ⟨qb, rfl, _, hs⟩
          have HM2 : Hid (MAt w2 mb b o cap l) := HM1.out.sm hs
          have HT2 : Hid (Sm [] wr w2) := HT1.out.trans hs
          have HI2 : Hid (IntsAt w2 (.slice a ks.length kc) ks) := HI1.out.sm0 hs
          clear hs
          go_wp2_with fail
          refine (directives_any l mb b o cap kc a ks _ HM2.out HD.out hk4 HI2.out HKk.out).mono ?_
          rintro e w3 ⟨da, dn, dc, rfl, hs⟩
          have HM3 : Hid (MAt w3 mb b o cap l) := HM2.out.sm hs
          have HT3 : Hid (Sm [] wr w3) := HT2.out.trans hs
          have HI3 : Hid (IntsAt w3 (.slice a ks.length kc) ks) := HI2.out.sm0 hs
          clear hs
          go_wp2_with fail
          refine (loc_any l mb b o cap k _ HM3.out hkl2 hn HSZ.out.1 HSZ.out.2).mono ?_
          rintro e wl ⟨rfl, rfl⟩
          go_wp2_with fail
          refine (newFragmentSpread_any _ _ _ _ _ _ _ _ (obj_at (by simp))).mono ?_
          intro e w8 h8
          obtain ⟨q8, rfl, hs8⟩ := copied_go h8
          have hT8 : Sm [] wr w8 := (HT3.out.alloc _).trans hs8
          have hown8 := own_sm hown hT8
          have HT8 : Hid (Sm [] w w8) := HS.out.trans hT8
          have HT9 : Hid (Sm [w.heap.size] w1 w8) := HS2.out.trans hT8.of_nil
          have hz8 : w.heap.size ≤ w8.heap.size := HT8.out.size
          clear hT8 hown
          clear h8 hs8
          go_wp2_with (at_builtin; refine app1 _ rfl _ _ _ rfl 470 _ 1 16 Tryz.underlying327 infoSel rfl (by omega) (by omega) _ xs.length xs rfl hown8 _ rfl rfl (by simp [Value.oneCell']) (by omega) hz8 ?_)
          intro g gcap w9 q1 q2 q3 q4
          have HN3 : Hid (SetRel w w1 470 kz.length (kz.length - (j + 1)) (.slice (some ⟨g, 0, none⟩) (xs.length + 1) gcap) (.int .i64 ((j : Int) + 1)) w9) := setRel_next hlt rfl hx HT8.out HT9.out hown8 q2 HVB.out q3 q1
          clear q1 q2 q3 q4 hown8
          go_wp2_with fail
          go_roundg (kz.length - (j + 1))
          case measure => omega
          case rel => exact HN3.out
      · skip
        have c0 := HM.out.c0
        obtain ⟨n0, n1, n2, n3, n4, n5⟩ := HM.out.doc k hkl2
        rw [← kd_at hkl2, hkK] at n0
        rw [← nm_at hkl2] at n1
        rw [← tx_at hkl2] at n3
        obtain ⟨x1, hx1⟩ : ∃ x, x = nm l k := ⟨_, rfl⟩
        obtain ⟨x3, hx3⟩ : ∃ x, x = tx l k := ⟨_, rfl⟩
        rw [← hx1] at n1
        rw [← hx3] at n3
        generalize l[k].alias = x2 at *
        generalize l[k].flag = x4 at *
        generalize l[k].size = x5 at *
        have HX1 : Hid (x1 = nm l k) := hx1
        have HX3 : Hid (x3 = tx l k) := hx3
        have HK : Hid (∀ W, MAt W mb b o cap l → Calls Tryz.prog 20 #[.pointer (some ⟨mb, 0, none⟩), .int .i64 (k : Int)] W (KidsPost (kids l k) W)) := fun W h => mkids_any l mb b o cap k W h HD.out.tree hkl2
        obtain ⟨ks, hks⟩ : ∃ ks, ks = kids l k := ⟨_, rfl⟩
        rw [← hks] at HK
        have HKS : Hid (ks = kids l k) := hks
        have HSZ : Hid (1 ≤ sz l k ∧ k + sz l k ≤ l.length) := ⟨HD.out.tree.sz_pos hkl2, HD.out.tree.sz_le hkl2⟩
        have HKD : Hid (kd l k = 8) := hkK
        have hne0 := World.new_ne _ _ c0
        have hne1 := World.new_ne _ _ n0
        clear hkK hx1 hx3 hks
        go_upto_region 5 with fail
        go_cut [8, 9] from 17 to 105 (fun p kv wx => XCut wr ks ⟨8, x1, x2, x3, x4, x5⟩ p kv wx)
        case first =>
          go_region_held3 (fun W => W.cell? ⟨mb, 0, none⟩ = some (.slice (some ⟨b, o, none⟩) l.length cap) ∧ W.cell? ⟨b, o + k * 6, none⟩ = some (.int .i64 8) ∧ W.cell? ⟨b, o + k * 6 + 1, none⟩ = some (.string x1) ∧ W.cell? ⟨b, o + k * 6 + 2, none⟩ = some (.string x2) ∧ W.cell? ⟨b, o + k * 6 + 3, none⟩ = some (.string x3) ∧ W.cell? ⟨b, o + k * 6 + 4, none⟩ = some (.int .i64 x4) ∧ W.cell? ⟨b, o + k * 6 + 5, none⟩ = some (.int .i64 x5)) (go_keep)
            (first
              | (go_at_call 20; refine (HK.out _ ?_).mono ?_; refine HM.out.sm ?_; (repeat (first | exact Sm.refl _ _ | refine Sm.alloc ?_ _ | refine Sm.drew ?_ | refine Sm.drewN ?_ _)); rintro e w2 ⟨a, kc, rfl, hints, hs2, hge⟩; have hT : Sm [] wr w2 := (by refine Sm.trans ?_ hs2; (repeat (first | exact Sm.refl _ _ | refine Sm.alloc ?_ _ | refine Sm.drew ?_ | refine Sm.drewN ?_ _))); have g0 := hT.keeps c0 (by simp); have g1 := hT.keeps n0 (by simp); have g2 := hT.keeps n1 (by simp); have g3 := hT.keeps n2 (by simp); have g4 := hT.keeps n3 (by simp); have g5 := hT.keeps n4 (by simp); have g6 := hT.keeps n5 (by simp); have hz := hs2.obj (obj_alloc _ _) (by simp); have q0 := cell_of hz (i := 0) rfl; have q1 := cell_of hz (i := 1) rfl; have q2 := cell_of hz (i := 2) rfl; have q3 := cell_of hz (i := 3) rfl; have q4 := cell_of hz (i := 4) rfl; have q5 := cell_of hz (i := 5) rfl; have r0 := free_of hz 0; have r1 := free_of hz 1; have r2 := free_of hz 2; have r3 := free_of hz 3; have r4 := free_of hz 4; have r5 := free_of hz 5)
              | (go_at_call 20; refine (HK.out _ ?_).mono ?_; refine HM.out.sm ?_; (repeat (first | exact Sm.refl _ _ | refine Sm.alloc ?_ _ | refine Sm.drew ?_ | refine Sm.drewN ?_ _)); rintro e w2 ⟨a, kc, rfl, hints, hs2, hge⟩; have hT : Sm [] wr w2 := (by refine Sm.trans ?_ hs2; (repeat (first | exact Sm.refl _ _ | refine Sm.alloc ?_ _ | refine Sm.drew ?_ | refine Sm.drewN ?_ _))); have g0 := hT.keeps c0 (by simp); have g1 := hT.keeps n0 (by simp); have g2 := hT.keeps n1 (by simp); have g3 := hT.keeps n2 (by simp); have g4 := hT.keeps n3 (by simp); have g5 := hT.keeps n4 (by simp); have g6 := hT.keeps n5 (by simp)))
          all_goals
            go_wp2_with fail
            go_meet
            first
            | exact xcut_a hT hints _ _ _ _ _ _
            | exact xcut_b hT hints hz (Nat.le_refl _) hge (by simp) _ _ _ _ _ _
        case rest =>
          obtain ⟨nb, a, kc, rfl, rfl, hints, hN, hT, hnb⟩ := hcut
          have HM1 : Hid (MAt wc mb b o cap l) := HM.out.sm hT
          have HT1 : Hid (Sm [] wr wc) := hT
          have HI : Hid (IntsAt wc (.slice a ks.length kc) ks) := hints
          have HN : Hid (wc.heap[nb]? = some (.cells #[.int .i64 8, .string x1, .string x2, .string x3, .int .i64 x4, .int .i64 x5] 31 (0, 0))) := hN
          have p0 : wc.cell? ⟨nb, 0, none⟩ = some (.int .i64 8) := cell_of hN rfl
          have p1 : wc.cell? ⟨nb, 1, none⟩ = some (.string x1) := cell_of hN rfl
          have p2 : wc.cell? ⟨nb, 2, none⟩ = some (.string x2) := cell_of hN rfl
          have p3 : wc.cell? ⟨nb, 3, none⟩ = some (.string x3) := cell_of hN rfl
          have p4 : wc.cell? ⟨nb, 4, none⟩ = some (.int .i64 x4) := cell_of hN rfl
          have d2 := HM1.out.c2
          clear hints hN hT c0 n0 n1 n2 n3 n4 n5
          have HKk : Hid (∀ x, x ∈ ks → x < l.length) := fun x hx => (HD.out.tree.kid hkl2 (by rw [← HKS.out]; exact hx)).2.1
          have hk4 : ks.length ≤ 400 := by rw [HKS.out]; exact HD.out.tree.kids_len hkl2
          have HSEL : Hid (∀ x W, x ∈ ks → kd l x = 5 → MAt W mb b o cap l → Calls Tryz.prog 110 #[.pointer (some ⟨mb, 0, none⟩), .int .i64 (x : Int)] W (PtrGo W)) := fun x W hx h5 hW => by
            have h1 := HD.out.tree.kid hkl2 (a := x) (by rw [← HKS.out]; exact hx)
            exact IHS.out x W (by omega) h1.2.1 h5 hW
          have HI1 : Hid (IntsAt wc (.slice a ks.length kc) ks) := HI.out
          have HEX : Hid (∃ x, x ∈ ks ∧ kd l x = 5) := by obtain ⟨x, h1, h2⟩ := (HD.out.shp k hkl2).sel (.inr (.inr HKD.out)); exact ⟨x, by rw [HKS.out]; exact h1, h2⟩
          go_wp2_with fail
          refine (directives_any l mb b o cap kc a ks _ HM1.out HD.out hk4 HI1.out HKk.out).mono ?_
          rintro e w2 ⟨da, dn, dc, rfl, hs⟩
          have HM2 : Hid (MAt w2 mb b o cap l) := HM1.out.sm hs
          have HT2 : Hid (Sm [] wr w2) := HT1.out.trans hs
          have HI2 : Hid (IntsAt w2 (.slice a ks.length kc) ks) := HI1.out.sm0 hs
          clear hs
          go_wp2_with fail
          refine (must_any l mb b o cap kc a ks _ HM2.out HD.out hk4 HI2.out HKk.out HSEL.out HEX.out).mono ?_
          rintro e w3 ⟨sq, rfl, hs⟩
          have HM3 : Hid (MAt w3 mb b o cap l) := HM2.out.sm hs
          have HT3 : Hid (Sm [] wr w3) := HT2.out.trans hs
          have HI3 : Hid (IntsAt w3 (.slice a ks.length kc) ks) := HI2.out.sm0 hs
          clear hs
          go_wp2_with fail
          refine (loc_any l mb b o cap k _ HM3.out hkl2 hn HSZ.out.1 HSZ.out.2).mono ?_
          rintro e wl ⟨rfl, rfl⟩
          go_wp2_with fail
          have hbx := obj_at (W := w3.alloc (.cells (locC l k) 68 (0, 0))) (o := .cells #[.string ⟨#[]⟩, .pointer (some ⟨w3.heap.size, 0, none⟩), .pointer none, .slice da dn dc, .pointer (some ⟨sq, 0, none⟩)] 338 (0, 0)) (k := w3.heap.size + 1) (by simp)
          have hm4 : MAt ((w3.alloc (.cells (locC l k) 68 (0, 0))).alloc (.cells #[.string ⟨#[]⟩, .pointer (some ⟨w3.heap.size, 0, none⟩), .pointer none, .slice da dn dc, .pointer (some ⟨sq, 0, none⟩)] 338 (0, 0))) mb b o cap l := HM3.out.sm (((Sm.refl _ _).alloc _).alloc _)
          refine (condition_any l mb b o cap k _ hm4 hkl2).mono ?_
          rintro e w7 ⟨ca, rfl, hs7⟩
          have hf7 := hs7.obj hbx (by simp)
          have cf : w7.cell? ⟨w3.heap.size + 1, 2, none⟩ = some (.pointer none) := cell_of hf7 rfl
          have ff := free_of hf7 2
          have HF7 : Hid (w7.heap[w3.heap.size + 1]? = some (.cells #[.string ⟨#[]⟩, .pointer (some ⟨w3.heap.size, 0, none⟩), .pointer none, .slice da dn dc, .pointer (some ⟨sq, 0, none⟩)] 338 (0, 0))) := hf7
          have HT7 : Hid (Sm [] wr w7) := (HT3.out.alloc _).alloc _ |>.trans hs7
          have h3w : wr.heap.size ≤ w3.heap.size := HT3.out.size
          clear hbx hm4 hs7 hf7
          go_wp2_with fail
          refine (newInlineFragment_any _ ⟨#[]⟩ _ _ _ _ _ _ _ (by rw [obj_setCell HF7.out]; rfl)).mono ?_
          rintro e w8 ⟨s8, rfl, hw8⟩
          have hT8 : Sm [] wr w8 := (by rw [hw8]; exact (((HT7.out.setCell (.inl (by show wr.heap.size ≤ w3.heap.size + 1; omega)) _)).drew).alloc _)
          have hown8 := own_sm hown hT8
          have HT8 : Hid (Sm [] w w8) := HS.out.trans hT8
          have HT9 : Hid (Sm [w.heap.size] w1 w8) := HS2.out.trans hT8.of_nil
          have hz8 : w.heap.size ≤ w8.heap.size := HT8.out.size
          clear hT8 hown
          generalize World.heap (World.setCell _ _ _) = hh8 at *
          clear hw8
          go_wp2_with (at_builtin; refine app1 _ rfl _ _ _ rfl 470 _ 1 16 Tryz.underlying327 infoSel rfl (by omega) (by omega) _ xs.length xs rfl hown8 _ rfl rfl (by simp [Value.oneCell']) (by omega) hz8 ?_)
          intro g gcap w9 q1 q2 q3 q4
          have HN3 : Hid (SetRel w w1 470 kz.length (kz.length - (j + 1)) (.slice (some ⟨g, 0, none⟩) (xs.length + 1) gcap) (.int .i64 ((j : Int) + 1)) w9) := setRel_next hlt rfl hx HT8.out HT9.out hown8 q2 HVB.out q3 q1
          clear q1 q2 q3 q4 hown8
          go_wp2_with fail
          go_roundg (kz.length - (j + 1))
          case measure => omega
          case rel => exact HN3.out
    · have y2 : ¬ ((j : Int) < (kz.length : Int)) := by omega
      obtain ⟨a2, c2, rfl⟩ := own_slice hown
      clear hown hs hs1 hvb HVB
      go_wp2_with fail
      refine (loc_any l mb b o cap i _ HM.out hi hn HSZI.out.1 HSZI.out.2).mono ?_
      rintro e w3 ⟨rfl, rfl⟩
      go_wp2_with fail
      refine (newSelectionSet_any _ _ _ _ (obj_at (by simp)) rfl).mono ?_
      intro e w4 h4
      obtain ⟨q4, rfl, hs4⟩ := inPlace_go h4 (by simp)
      have HT4 : Hid (Sm [] w w4) := (HS.out.alloc _).trans hs4
      clear h4 hs4
      go_wp2_with fail
      go_ret
      exact ⟨_, rfl, HT4.out⟩

theorem set_any (l : List Nd) (mb b o cap : Nat) (hd : Doc l) (n : Nat) : ∀ (i : Nat) (w : World), l.length - i ≤ n → MAt w mb b o cap l → i < l.length → kd l i = 5 →
    Calls Tryz.prog 110 #[.pointer (some ⟨mb, 0, none⟩), .int .i64 (i : Int)] w (PtrGo w) := by
  induction n with
  | zero => intro i w hn hm hi ht; omega
  | succ n ih =>
    intro i w hn hm hi ht
    exact set_step l mb b o cap i w hm hd hi ht (fun x W hx hxl h5 hW => ih x W (by omega) hW hxl h5)

end

end Go.Proofs.YtigpnidffiaigaaGreat
