/- Walks: the maker: variables. -/
import Derived.Test.YtigpnidffiaigaaGreatProg
import Derived.BigRegion
import Derived.Deep.RegionHeld3
import Derived.Deep.CutRange
import Derived.Deep.RegionLaw
import Derived.Deep.AppendLies
import Derived.Test.YtigpnidffiaigaaGreatQ19
set_option linter.unusedVariables false
set_option linter.unusedSimpArgs false
namespace Go.Proofs.YtigpnidffiaigaaGreat

section
open Go.RowKit
attribute [local go_sem ↓] Go.wp_at_zero Go.wp_at_succ

theorem infoPtr_VD : (Tryz.prog.info? 123).map (fun i => (i.zero, i.size, i.bytes)) = some (some (.pointer none), 1, 8) := by kernel_rfl

set_option maxRecDepth 100000 in
set_option maxHeartbeats 8000000 in
theorem variables_any (l : List Nd) (mb b o cap kc : Nat) (a : Option Addr) (ks : List Nat) (w : World) (hm : MAt w mb b o cap l) (hd : Doc l) (hkl : ks.length ≤ 400) (hI : IntsAt w (.slice a ks.length kc) ks) (hk : ∀ k, k ∈ ks → k < l.length) :
    Calls Tryz.prog 45 #[.pointer (some ⟨mb, 0, none⟩), .slice a ks.length kc] w (MkSl w) := by
  have HKK : Hid (∀ k, k ∈ ks → k < l.length) := hk
  have HM1 : Hid (MAt w mb b o cap l) := hm
  have HD : Hid (Doc l) := hd
  have HI : Hid (IntsAt w (.slice a ks.length kc) ks) := hI
  have hn : l.length ≤ 2147483647 := by have := hd.tree.most; omega
  clear hk hm hd hI
  go_enter Tryz.func45, Tryz.ntmps45
  go_wp2_with fail
  go_loopw [5, 7, 8, 9, 13] (fun v _ _ _ u wr => Coll w 123 ks.length v u wr) (fun _ _ _ _ u _ => ks.length - (intOf u).toNat)
  case atStart => exact coll_start w _ _
  case round =>
    obtain ⟨j, xs, hj, rfl, hown, hx, hs⟩ := hrel
    have HS : Hid (Sm [] w wr) := hs
    have y1 : (0 : Int) ≤ (j : Int) := by omega
    by_cases hlt : j < ks.length
    · have y2 : (j : Int) < (ks.length : Int) := by omega
      obtain ⟨xb, xo, rfl, _, hxc⟩ := ints_at HI.out hlt
      have hxc' := hs.keeps hxc (by simp)
      have hmem := getD_memN hlt
      generalize ks.getD j 0 = k at *
      have hkl' := HKK.out k hmem
      have HMr : Hid (MAt wr mb b o cap l) := HM1.out.sm hs
      have z1 : (0 : Int) ≤ (k : Int) := by omega
      have z2 : (k : Int) < (l.length : Int) := by omega
      have n0 := (HMr.out.doc k hkl').c0
      have d0 := HMr.out.c0
      have hkd := kd_at hkl'
      by_cases hk9 : kd l k = 4
      · have HNM : Hid (nm l k ≠ ByteArray.empty) := (HD.out.frm k hkl').name (.inl hk9)
        have HSK : Hid (1 ≤ sz l k ∧ k + sz l k ≤ l.length) := ⟨HD.out.tree.sz_pos hkl', HD.out.tree.sz_le hkl'⟩
        obtain ⟨a1, ha1, ha2 | ⟨b1, hb1, ha2⟩⟩ := (HD.out.shp k hkl').var hk9
        · skip
          have HKD : Hid (∀ W, MAt W mb b o cap l → Calls Tryz.prog 20 #[.pointer (some ⟨mb, 0, none⟩), .int .i64 (k : Int)] W (KidsPost [a1] W)) := fun W h => by rw [← ha2]; exact mkids_any l mb b o cap k W h HD.out.tree hkl'
          have hal := (HD.out.tree.kid hkl' (a := a1) (by rw [ha2]; simp)).2.1
          have HTY : Hid (∀ W, MAt W mb b o cap l → Calls Tryz.prog 65 #[.pointer (some ⟨mb, 0, none⟩), .int .i64 (a1 : Int)] W (MkI W)) := fun W h => typ_any l mb b o cap HD.out l.length a1 W (by omega) h hal ha1
          skip
          rw [← hkd, hk9] at n0
          clear hxc hs hmem hk9 ha1 ha2 hkd hal
          go_wp2_with fail
          refine (HKD.out _ HMr.out).mono ?_
          rintro e wk ⟨va, vc, rfl, hvi, hsk, _⟩
          have HMk : Hid (MAt wk mb b o cap l) := HMr.out.sm hsk
          have hvi0 := hvi
          obtain ⟨vb, vo, vcap, hv, _, _, _, hvc⟩ := ints_hd hvi
          simp only [Value.slice.injEq] at hv
          obtain ⟨rfl, -, rfl⟩ := hv
          skip
          have HSk : Hid (Sm [] w wk) := HS.out.trans hsk
          have hownk := own_sm hown hsk
          simp only [List.length_cons, List.length_nil, Nat.zero_add, Nat.reduceAdd] at *
          clear hvi hvi0 hsk hown n0 d0
          go_upto_region 10 with fail
          go_region_law (first
            | (go_simp; go_at_call 49; refine (called_any l mb b o cap k _ ?_ hkl' HNM.out).mono ?_; refine HMk.out.sm ?_; (repeat (first | exact Sm.refl _ _ | refine Sm.alloc ?_ _ | refine Sm.drew ?_ | refine Sm.drewN ?_ _)); rintro e w5 ⟨q5, rfl, _, hs5⟩; have hvc5 := (Sm.trans (by (repeat (first | exact Sm.refl _ _ | refine Sm.alloc ?_ _ | refine Sm.drew ?_ | refine Sm.drewN ?_ _))) hs5).keeps hvc (by simp); have hvc5a := fun o => (sm_allc w5 o).keeps hvc5 (by simp))
            | (go_simp; go_at_call 64; refine (newVariable_any _ _ _ _ (obj_at (by simp)) rfl).mono ?_; intro e w6 h6; obtain ⟨q6, rfl, hs6⟩ := inPlace_go h6 (by simp); have hvc6 := hs6.keeps hvc5 (by simp))
            | (go_simp; go_at_call 65; refine (HTY.out _ ?_).mono ?_; refine HMk.out.sm ?_; (repeat (first | exact Sm.refl _ _ | refine Sm.alloc ?_ _ | refine Sm.drew ?_ | refine Sm.drewN ?_ _ | refine Sm.trans ?_ hs6 | refine Sm.trans ?_ hs5)); rintro e w7 ⟨t7, v7, rfl, hs7⟩; have hT7 : Sm [] wk w7 := (by (repeat (first | exact Sm.refl _ _ | refine Sm.alloc ?_ _ | refine Sm.drew ?_ | refine Sm.drewN ?_ _ | refine Sm.trans ?_ hs7 | refine Sm.trans ?_ hs6 | refine Sm.trans ?_ hs5))))
            | (go_simp; go_at_call 23; refine (loc_any l mb b o cap k _ ?_ hkl' hn HSK.out.1 HSK.out.2).mono ?_; refine HMk.out.sm ?_; exact hT7; rintro e wl ⟨rfl, rfl⟩))
          all_goals
            have HT7 : Hid (Sm [] wk w7) := hT7
            have HM7 : Hid (MAt w7 mb b o cap l) := HMk.out.sm hT7
            clear hs5 hs6 hs7 hvc5 hvc6 hvc5a
            go_wp2_with fail
            refine (newVariableDefinition_any _ _ _ _ (obj_at (by simp)) rfl).mono ?_
            intro e w8 h8
            obtain ⟨q8, rfl, hs8⟩ := inPlace_go h8 (by simp)
            have hT8 : Sm [] wk w8 := (hT7.alloc _).trans hs8
            clear h8 hs8
            have HT8 : Hid (Sm [] w w8) := HSk.out.trans hT8
            have hown8 := own_sm hownk hT8
            have hz8 : w.heap.size ≤ w8.heap.size := HT8.out.size
            clear hT8 hT7 hownk
            go_wp2_with (at_builtin; refine app1 _ rfl _ _ _ rfl 123 _ 1 8 Tryz.underlying48 infoPtr_VD rfl (by omega) (by omega) _ xs.length xs rfl hown8 _ rfl rfl (by simp [Value.oneCell']) (by omega) hz8 ?_)
            intro g gcap w9 q1 q2 q3 q4
            have HN3 : Hid (Coll w 123 ks.length (.slice (some ⟨g, 0, none⟩) (xs.length + 1) gcap) (.int .i64 ((j : Int) + 1)) w9) := coll_next (wr := w8) hlt rfl hx HT8.out hown8 q2 q1
            clear q1 q2 q3 q4 hown8
            go_wp2_with fail
            go_roundw
            case rel => (first | refine ⟨_, _, _, _, _, ?_, rfl, rfl, rfl, rfl, rfl⟩ | skip); exact HN3.out
            case measure => simp [intOf]; omega
        · skip
          have HKD : Hid (∀ W, MAt W mb b o cap l → Calls Tryz.prog 20 #[.pointer (some ⟨mb, 0, none⟩), .int .i64 (k : Int)] W (KidsPost [a1, b1] W)) := fun W h => by rw [← ha2]; exact mkids_any l mb b o cap k W h HD.out.tree hkl'
          have hal := (HD.out.tree.kid hkl' (a := a1) (by rw [ha2]; simp)).2.1
          have HTY : Hid (∀ W, MAt W mb b o cap l → Calls Tryz.prog 65 #[.pointer (some ⟨mb, 0, none⟩), .int .i64 (a1 : Int)] W (MkI W)) := fun W h => typ_any l mb b o cap HD.out l.length a1 W (by omega) h hal ha1
          have hbl := (HD.out.tree.kid hkl' (a := b1) (by rw [ha2]; simp)).2.1
          have HV : Hid (∀ W, MAt W mb b o cap l → Calls Tryz.prog 66 #[.pointer (some ⟨mb, 0, none⟩), .int .i64 (b1 : Int)] W (MkI W)) := fun W h => value_any l mb b o cap HD.out l.length b1 W (by omega) h hbl hb1
          rw [← hkd, hk9] at n0
          clear hxc hs hmem hk9 ha1 ha2 hkd hal
          go_wp2_with fail
          refine (HKD.out _ HMr.out).mono ?_
          rintro e wk ⟨va, vc, rfl, hvi, hsk, _⟩
          have HMk : Hid (MAt wk mb b o cap l) := HMr.out.sm hsk
          have hvi0 := hvi
          obtain ⟨vb, vo, vcap, hv, _, _, _, hvc⟩ := ints_hd hvi
          simp only [Value.slice.injEq] at hv
          obtain ⟨rfl, -, rfl⟩ := hv
          have hvd : wk.cell? ⟨vb, vo + 1, none⟩ = some (.int .i64 (b1 : Int)) := by obtain ⟨b', o', e', _, hc'⟩ := ints_at hvi0 (j := 1) (by simp); simp only [Option.some.injEq, Addr.mk.injEq] at e'; obtain ⟨rfl, rfl, _⟩ := e'; simpa using hc'
          have y5 : (1 : Int) < 2 := by omega
          have HSk : Hid (Sm [] w wk) := HS.out.trans hsk
          have hownk := own_sm hown hsk
          simp only [List.length_cons, List.length_nil, Nat.zero_add, Nat.reduceAdd] at *
          clear hvi hvi0 hsk hown n0 d0
          go_upto_region 10 with fail
          go_region_law (first
            | (go_simp; go_at_call 49; refine (called_any l mb b o cap k _ ?_ hkl' HNM.out).mono ?_; refine HMk.out.sm ?_; (repeat (first | exact Sm.refl _ _ | refine Sm.alloc ?_ _ | refine Sm.drew ?_ | refine Sm.drewN ?_ _)); rintro e w5 ⟨q5, rfl, _, hs5⟩; have hvc5 := (Sm.trans (by (repeat (first | exact Sm.refl _ _ | refine Sm.alloc ?_ _ | refine Sm.drew ?_ | refine Sm.drewN ?_ _))) hs5).keeps hvc (by simp); have hvc5a := fun o => (sm_allc w5 o).keeps hvc5 (by simp))
            | (go_simp; go_at_call 64; refine (newVariable_any _ _ _ _ (obj_at (by simp)) rfl).mono ?_; intro e w6 h6; obtain ⟨q6, rfl, hs6⟩ := inPlace_go h6 (by simp); have hvc6 := hs6.keeps hvc5 (by simp))
            | (go_simp; go_at_call 65; refine (HTY.out _ ?_).mono ?_; refine HMk.out.sm ?_; (repeat (first | exact Sm.refl _ _ | refine Sm.alloc ?_ _ | refine Sm.drew ?_ | refine Sm.drewN ?_ _ | refine Sm.trans ?_ hs6 | refine Sm.trans ?_ hs5)); rintro e w7 ⟨t7, v7, rfl, hs7⟩; have hT7 : Sm [] wk w7 := (by (repeat (first | exact Sm.refl _ _ | refine Sm.alloc ?_ _ | refine Sm.drew ?_ | refine Sm.drewN ?_ _ | refine Sm.trans ?_ hs7 | refine Sm.trans ?_ hs6 | refine Sm.trans ?_ hs5))))
            | (go_simp; go_at_call 23; refine (loc_any l mb b o cap k _ ?_ hkl' hn HSK.out.1 HSK.out.2).mono ?_; refine HMk.out.sm ?_; exact hT7; rintro e wl ⟨rfl, rfl⟩))
          all_goals
            have HT7 : Hid (Sm [] wk w7) := hT7
            have HM7 : Hid (MAt w7 mb b o cap l) := HMk.out.sm hT7
            clear hs5 hs6 hs7 hvc5 hvc6 hvc5a
            have hbx := obj_at (W := w7.alloc (.cells (locC l k) 68 (0, 0))) (o := .cells #[.string ⟨#[]⟩, .pointer (some ⟨w7.heap.size, 0, none⟩), .pointer (some ⟨q6, 0, none⟩), .iface t7 v7, .nilIface] 130 (0, 0)) (k := w7.heap.size + 1) (by simp)
            have hvc8 : ((w7.alloc (.cells (locC l k) 68 (0, 0))).alloc (.cells #[.string ⟨#[]⟩, .pointer (some ⟨w7.heap.size, 0, none⟩), .pointer (some ⟨q6, 0, none⟩), .iface t7 v7, .nilIface] 130 (0, 0))).cell? ⟨vb, vo + 1, none⟩ = some (.int .i64 (b1 : Int)) := ((HT7.out.alloc _).alloc _).keeps hvd (by simp)
            go_wp2_with fail
            refine (HV.out _ ?_).mono ?_
            refine HM7.out.sm ?_
            (repeat (first | exact Sm.refl _ _ | refine Sm.alloc ?_ _ | refine Sm.drew ?_ | refine Sm.drewN ?_ _))
            rintro e wv ⟨tv, vv, rfl, hsv⟩
            have hfv := hsv.obj hbx (by simp)
            have cf : wv.cell? ⟨w7.heap.size + 1, 4, none⟩ = some .nilIface := cell_of hfv rfl
            have ff := free_of hfv 4
            have HFV : Hid (wv.heap[w7.heap.size + 1]? = some (.cells #[.string ⟨#[]⟩, .pointer (some ⟨w7.heap.size, 0, none⟩), .pointer (some ⟨q6, 0, none⟩), .iface t7 v7, .nilIface] 130 (0, 0))) := hfv
            have HTV : Hid (Sm [] wk wv) := ((HT7.out.alloc _).alloc _).trans (by first | exact hsv | exact hsv.of_drew)
            have h7 : wk.heap.size ≤ w7.heap.size := HT7.out.size
            clear hbx hvc8 hsv hfv
            go_wp2_with fail
            refine (newVariableDefinition_any _ (#[.string ⟨#[]⟩, .pointer (some ⟨w7.heap.size, 0, none⟩), .pointer (some ⟨q6, 0, none⟩), .iface t7 v7, .nilIface].setIfInBounds 4 (.iface tv vv)) _ _ (obj_setCell HFV.out 4 _) rfl).mono ?_
            intro e w8 h8
            obtain ⟨rfl, s8, hw8⟩ := h8
            have hT8 : Sm [] wk w8 := by
              rw [hw8]
              exact (HTV.out.setCell (.inl (by show wk.heap.size ≤ w7.heap.size + 1; omega)) _).setCell (.inl (by show wk.heap.size ≤ w7.heap.size + 1; omega)) _
            clear hw8 cf ff
            have HT8 : Hid (Sm [] w w8) := HSk.out.trans hT8
            have hown8 := own_sm hownk hT8
            have hz8 : w.heap.size ≤ w8.heap.size := HT8.out.size
            clear hT8 hT7 hownk
            go_wp2_with (at_builtin; refine app1 _ rfl _ _ _ rfl 123 _ 1 8 Tryz.underlying48 infoPtr_VD rfl (by omega) (by omega) _ xs.length xs rfl hown8 _ rfl rfl (by simp [Value.oneCell']) (by omega) hz8 ?_)
            intro g gcap w9 q1 q2 q3 q4
            have HN3 : Hid (Coll w 123 ks.length (.slice (some ⟨g, 0, none⟩) (xs.length + 1) gcap) (.int .i64 ((j : Int) + 1)) w9) := coll_next (wr := w8) hlt rfl hx HT8.out hown8 q2 q1
            clear q1 q2 q3 q4 hown8
            go_wp2_with fail
            go_roundw
            case rel => (first | refine ⟨_, _, _, _, _, ?_, rfl, rfl, rfl, rfl, rfl⟩ | skip); exact HN3.out
            case measure => simp [intOf]; omega
      · have e9 : (l[k].kind != 4) = true := by rw [← hkd]; simp [hk9]
        have HN3 : Hid (Coll w 123 ks.length _ (.int .i64 ((j : Int) + 1)) wr) := coll_same (wr := wr) hlt rfl hx hs hown
        clear hxc hs hmem hk9 hkd hown
        go_wp2_with fail
        go_roundw
        case rel => (first | refine ⟨_, _, _, _, _, ?_, rfl, rfl, rfl, rfl, rfl⟩ | skip); exact HN3.out
        case measure => simp [intOf]; omega
    · have y2 : ¬ ((j : Int) < (ks.length : Int)) := by omega
      obtain ⟨a2, c2, rfl⟩ := own_slice hown
      clear hown hs
      go_wp2_with fail
      go_ret
      exact ⟨_, _, _, rfl, HS.out⟩

end

end Go.Proofs.YtigpnidffiaigaaGreat
