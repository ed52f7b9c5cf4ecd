/- Walks: the maker: arguments, directives. Walks: the maker: selections. -/
import Derived.Test.YtigpnidffiaigaaGreatProg
import Derived.BigRegion
import Derived.Deep.RegionHeld3
import Derived.Deep.CutRange
import Derived.Deep.RegionLaw
import Derived.Deep.AppendLies
import Derived.Test.YtigpnidffiaigaaGreatQ18
set_option linter.unusedVariables false
set_option linter.unusedSimpArgs false
namespace Go.Proofs.YtigpnidffiaigaaGreat

section
open Go.RowKit
attribute [local go_sem ↓] Go.wp_at_zero Go.wp_at_succ

theorem infoPtr_Arg : (Tryz.prog.info? 259).map (fun i => (i.zero, i.size, i.bytes)) = some (some (.pointer none), 1, 8) := by kernel_rfl
theorem infoPtr_Dir : (Tryz.prog.info? 151).map (fun i => (i.zero, i.size, i.bytes)) = some (some (.pointer none), 1, 8) := by kernel_rfl

set_option maxRecDepth 100000 in
set_option maxHeartbeats 4000000 in
theorem arguments_any (l : List Nd) (mb b o cap kc : Nat) (a : Option Addr) (ks : List Nat) (w : World) (hm : MAt w mb b o cap l) (hd : Doc l) (hkl : ks.length ≤ 400) (hI : IntsAt w (.slice a ks.length kc) ks) (hk : ∀ k, k ∈ ks → k < l.length) :
    Calls Tryz.prog 69 #[.pointer (some ⟨mb, 0, none⟩), .slice a ks.length kc] w (MkSl w) := by
  have HKK : Hid (∀ k, k ∈ ks → k < l.length) := hk
  have HM1 : Hid (MAt w mb b o cap l) := hm
  have HD : Hid (Doc l) := hd
  have HI : Hid (IntsAt w (.slice a ks.length kc) ks) := hI
  have hn : l.length ≤ 2147483647 := by have := hd.tree.most; omega
  clear hk hm hd hI
  go_enter Tryz.func69, Tryz.ntmps69
  go_wp2_with fail
  go_loopw [5, 7, 8, 12] (fun v _ _ u wr => Coll w 259 ks.length v u wr) (fun _ _ _ u _ => ks.length - (intOf u).toNat)
  case atStart => exact coll_start w _ _
  case round =>
    obtain ⟨j, xs, hj, rfl, hown, hx, hs⟩ := hrel
    have HS : Hid (Sm [] w wr) := hs
    have y1 : (0 : Int) ≤ (j : Int) := by omega
    by_cases hlt : j < ks.length
    · have y2 : (j : Int) < (ks.length : Int) := by omega
      obtain ⟨xb, xo, rfl, _, hxc⟩ := ints_at HI.out hlt
      have hxc' := hs.keeps hxc (by simp)
      have hmem := getD_memN hlt
      generalize ks.getD j 0 = k at *
      have hkl' := HKK.out k hmem
      have HMr : Hid (MAt wr mb b o cap l) := HM1.out.sm hs
      have z1 : (0 : Int) ≤ (k : Int) := by omega
      have z2 : (k : Int) < (l.length : Int) := by omega
      have n0 := (HMr.out.doc k hkl').c0
      have d0 := HMr.out.c0
      have hkd := kd_at hkl'
      by_cases hk9 : kd l k = 9
      · obtain ⟨a1, ha1, ha2⟩ := (HD.out.shp k hkl').arg (.inl hk9)
        have HNM : Hid (nm l k ≠ ByteArray.empty) := (HD.out.frm k hkl').name (by omega)
        have HSK : Hid (1 ≤ sz l k ∧ k + sz l k ≤ l.length) := ⟨HD.out.tree.sz_pos hkl', HD.out.tree.sz_le hkl'⟩
        have HKD : Hid (∀ W, MAt W mb b o cap l → Calls Tryz.prog 20 #[.pointer (some ⟨mb, 0, none⟩), .int .i64 (k : Int)] W (KidsPost [a1] W)) := fun W h => by rw [← ha2]; exact mkids_any l mb b o cap k W h HD.out.tree hkl'
        have hal := (HD.out.tree.kid hkl' (a := a1) (by rw [ha2]; simp)).2.1
        have HV : Hid (∀ W, MAt W mb b o cap l → Calls Tryz.prog 66 #[.pointer (some ⟨mb, 0, none⟩), .int .i64 (a1 : Int)] W (MkI W)) := fun W h => value_any l mb b o cap HD.out l.length a1 W (by omega) h hal ha1
        rw [← hkd, hk9] at n0
        clear hxc hs hmem hk9 ha1 ha2 hkd hal
        go_wp2_with fail
        refine (HKD.out _ HMr.out).mono ?_
        rintro e wk ⟨va, vc, rfl, hvi, hsk, _⟩
        have HMk : Hid (MAt wk mb b o cap l) := HMr.out.sm hsk
        obtain ⟨vb, vo, vcap, hv, _, _, _, hvc⟩ := ints_hd hvi
        simp only [Value.slice.injEq] at hv
        obtain ⟨rfl, -, rfl⟩ := hv
        have HSk : Hid (Sm [] w wk) := HS.out.trans hsk
        have hownk := own_sm hown hsk
        simp only [List.length_cons, List.length_nil, Nat.zero_add] at *
        clear hvi hsk hown n0 d0
        go_upto_region 10 with fail
        go_region_law (first
          | (go_simp; go_at_call 49; refine (called_any l mb b o cap k _ ?_ hkl' HNM.out).mono ?_; refine HMk.out.sm ?_; (repeat (first | exact Sm.refl _ _ | refine Sm.alloc ?_ _ | refine Sm.drew ?_ | refine Sm.drewN ?_ _)); rintro e w5 ⟨q5, rfl, _, hs5⟩; have hvc5 := (Sm.trans (by (repeat (first | exact Sm.refl _ _ | refine Sm.alloc ?_ _ | refine Sm.drew ?_ | refine Sm.drewN ?_ _))) hs5).keeps hvc (by simp))
          | (go_simp; go_at_call 66; refine (HV.out _ ?_).mono ?_; refine HMk.out.sm ?_; (repeat (first | exact Sm.refl _ _ | refine Sm.alloc ?_ _ | refine Sm.drew ?_ | refine Sm.drewN ?_ _ | refine Sm.trans ?_ hs5)); rintro e w6 ⟨t6, v6, rfl, hs6⟩)
          | (go_simp; go_at_call 23; refine (loc_any l mb b o cap k _ ?_ hkl' hn HSK.out.1 HSK.out.2).mono ?_; refine HMk.out.sm ?_; (repeat (first | exact Sm.refl _ _ | refine Sm.alloc ?_ _ | refine Sm.drew ?_ | refine Sm.drewN ?_ _ | refine Sm.trans ?_ hs6 | refine Sm.trans ?_ hs5)); rintro e w7 ⟨rfl, rfl⟩)
          | (go_simp; go_at_call 109; refine (newArgument_any _ _ _ _ (obj_at (by simp)) rfl).mono ?_; intro e w8 h8; obtain ⟨q8, rfl, hs8⟩ := inPlace_go h8 (by simp); have hT8 : Sm [] wk w8 := (by (repeat (first | exact Sm.refl _ _ | refine Sm.alloc ?_ _ | refine Sm.drew ?_ | refine Sm.drewN ?_ _ | refine Sm.trans ?_ hs8 | refine Sm.trans ?_ hs6 | refine Sm.trans ?_ hs5))); have hown8 := own_sm hownk hT8; have hz8 : w.heap.size ≤ w8.heap.size := Nat.le_trans HSk.out.size hT8.size)
          | (refine app1s w.heap.size rfl _ _ _ rfl 259 _ 1 8 Tryz.underlying153 infoPtr_Arg rfl (show 0 < 1 by decide) (show 0 < 8 by decide) _ xs.length xs rfl hown8 _ rfl rfl (by simp [Value.oneCell']) (by omega) hz8 ?_; intro g gcap w9 q1 q2 q3 q4))
        all_goals
          have HN3 : Hid (Coll w 259 ks.length (.slice (some ⟨g, 0, none⟩) (xs.length + 1) gcap) (.int .i64 ((j : Int) + 1)) w9) := coll_next (wr := w8) hlt rfl hx (HSk.out.trans hT8) hown8 q2 q1
          clear q1 q2 q3 q4 hown8 hT8 hs8 hs6 hs5 hownk
          go_wp2_with fail
          go_roundw
          case rel => (first | refine ⟨_, _, _, _, ?_, rfl, rfl, rfl, rfl⟩ | skip); exact HN3.out
          case measure => simp [intOf]; omega
      · have e9 : (l[k].kind != 9) = true := by rw [← hkd]; simp [hk9]
        have HN3 : Hid (Coll w 259 ks.length _ (.int .i64 ((j : Int) + 1)) wr) := coll_same (wr := wr) hlt rfl hx hs hown
        clear hxc hs hmem hk9 hkd hown
        go_wp2_with fail
        go_roundw
        case rel => (first | refine ⟨_, _, _, _, ?_, rfl, rfl, rfl, rfl⟩ | skip); exact HN3.out
        case measure => simp [intOf]; omega
    · have y2 : ¬ ((j : Int) < (ks.length : Int)) := by omega
      obtain ⟨a2, c2, rfl⟩ := own_slice hown
      clear hown hs
      go_wp2_with fail
      go_ret
      exact ⟨_, _, _, rfl, HS.out⟩

set_option maxRecDepth 100000 in
set_option maxHeartbeats 4000000 in
theorem directives_any (l : List Nd) (mb b o cap kc : Nat) (a : Option Addr) (ks : List Nat) (w : World) (hm : MAt w mb b o cap l) (hd : Doc l) (hkl : ks.length ≤ 400) (hI : IntsAt w (.slice a ks.length kc) ks) (hk : ∀ k, k ∈ ks → k < l.length) :
    Calls Tryz.prog 46 #[.pointer (some ⟨mb, 0, none⟩), .slice a ks.length kc] w (MkSl w) := by
  have HKK : Hid (∀ k, k ∈ ks → k < l.length) := hk
  have HM1 : Hid (MAt w mb b o cap l) := hm
  have HD : Hid (Doc l) := hd
  have HI : Hid (IntsAt w (.slice a ks.length kc) ks) := hI
  have hn : l.length ≤ 2147483647 := by have := hd.tree.most; omega
  clear hk hm hd hI
  go_enter Tryz.func46, Tryz.ntmps46
  go_wp2_with fail
  go_loopw [5, 7, 11] (fun v _ u wr => Coll w 151 ks.length v u wr) (fun _ _ u _ => ks.length - (intOf u).toNat)
  case atStart => exact coll_start w _ _
  case round =>
    obtain ⟨j, xs, hj, rfl, hown, hx, hs⟩ := hrel
    have HS : Hid (Sm [] w wr) := hs
    have y1 : (0 : Int) ≤ (j : Int) := by omega
    by_cases hlt : j < ks.length
    · have y2 : (j : Int) < (ks.length : Int) := by omega
      obtain ⟨xb, xo, rfl, _, hxc⟩ := ints_at HI.out hlt
      have hxc' := hs.keeps hxc (by simp)
      have hmem := getD_memN hlt
      generalize ks.getD j 0 = k at *
      have hkl' := HKK.out k hmem
      have HMr : Hid (MAt wr mb b o cap l) := HM1.out.sm hs
      have z1 : (0 : Int) ≤ (k : Int) := by omega
      have z2 : (k : Int) < (l.length : Int) := by omega
      have n0 := (HMr.out.doc k hkl').c0
      have d0 := HMr.out.c0
      have hkd := kd_at hkl'
      by_cases hk9 : kd l k = 10
      · have HNM : Hid (nm l k ≠ ByteArray.empty) := (HD.out.frm k hkl').name (by omega)
        have HSK : Hid (1 ≤ sz l k ∧ k + sz l k ≤ l.length) := ⟨HD.out.tree.sz_pos hkl', HD.out.tree.sz_le hkl'⟩
        have HKD : Hid (∀ W, MAt W mb b o cap l → Calls Tryz.prog 20 #[.pointer (some ⟨mb, 0, none⟩), .int .i64 (k : Int)] W (KidsPost (kids l k) W)) := fun W h => mkids_any l mb b o cap k W h HD.out.tree hkl'
        have hk4 : (kids l k).length ≤ 400 := HD.out.tree.kids_len hkl'
        have HKk : Hid (∀ x, x ∈ kids l k → x < l.length) := fun x hx => (HD.out.tree.kid hkl' hx).2.1
        generalize kids l k = kk at *
        rw [← hkd, hk9] at n0
        clear hxc hs hmem hk9 hkd
        go_wp2_with fail
        refine (called_any l mb b o cap k _ HMr.out hkl' HNM.out).mono ?_
        rintro e w5 ⟨q5, rfl, _, hs5⟩
        have HM5 : Hid (MAt w5 mb b o cap l) := HMr.out.sm hs5
        go_wp2_with fail
        refine (HKD.out _ HM5.out).mono ?_
        rintro e w6 ⟨va, vc, rfl, hvi, hs6, _⟩
        have HM6 : Hid (MAt w6 mb b o cap l) := HM5.out.sm hs6
        have HVI : Hid (IntsAt w6 (.slice va kk.length vc) kk) := hvi
        clear hvi
        go_wp2_with fail
        refine (arguments_any l mb b o cap vc va kk _ HM6.out HD.out hk4 HVI.out HKk.out).mono ?_
        rintro e w7 ⟨aa, an, ac, rfl, hs7⟩
        have HM7 : Hid (MAt w7 mb b o cap l) := HM6.out.sm hs7
        have HT7 : Hid (Sm [] wr w7) := (hs5.trans hs6).trans hs7
        clear hs5 hs6 hs7 n0 d0
        go_wp2_with fail
        refine (loc_any l mb b o cap k _ HM7.out hkl' hn HSK.out.1 HSK.out.2).mono ?_
        rintro e wl ⟨rfl, rfl⟩
        go_wp2_with fail
        refine (newDirective_any _ _ _ _ _ _ _ _ (obj_at (by simp))).mono ?_
        intro e w8 h8
        obtain ⟨q8, rfl, hs8⟩ := copied_go h8
        have hT8 : Sm [] wr w8 := (HT7.out.alloc _).trans hs8
        have hown8 := own_sm hown hT8
        have hz8 : w.heap.size ≤ w8.heap.size := Nat.le_trans HS.out.size hT8.size
        have HT8 : Hid (Sm [] w w8) := HS.out.trans hT8
        clear h8 hs8 hT8 hown
        go_wp2_with (at_builtin; refine app1 _ rfl _ _ _ rfl 151 _ 1 8 Tryz.underlying49 infoPtr_Dir rfl (by omega) (by omega) _ xs.length xs rfl hown8 _ rfl rfl (by simp [Value.oneCell']) (by omega) hz8 ?_)
        intro g gcap w9 q1 q2 q3 q4
        have HN3 : Hid (Coll w 151 ks.length (.slice (some ⟨g, 0, none⟩) (xs.length + 1) gcap) (.int .i64 ((j : Int) + 1)) w9) := coll_next (wr := w8) hlt rfl hx HT8.out hown8 q2 q1
        clear q1 q2 q3 q4 hown8
        go_wp2_with fail
        go_roundw
        case rel => (first | refine ⟨_, _, _, ?_, rfl, rfl, rfl⟩ | skip); exact HN3.out
        case measure => simp [intOf]; omega
      · have e9 : (l[k].kind == 10) = false := by rw [← hkd]; simp [hk9]
        have HN3 : Hid (Coll w 151 ks.length _ (.int .i64 ((j : Int) + 1)) wr) := coll_same (wr := wr) hlt rfl hx hs hown
        clear hxc hs hmem hk9 hkd hown
        go_wp2_with fail
        go_roundw
        case rel => (first | refine ⟨_, _, _, ?_, rfl, rfl, rfl⟩ | skip); exact HN3.out
        case measure => simp [intOf]; omega
    · have y2 : ¬ ((j : Int) < (ks.length : Int)) := by omega
      obtain ⟨a2, c2, rfl⟩ := own_slice hown
      clear hown hs
      go_wp2_with fail
      go_ret
      exact ⟨_, _, _, rfl, HS.out⟩

end

section
open Go.RowKit
attribute [local go_sem ↓] Go.wp_at_zero Go.wp_at_succ

theorem infoSel : (Tryz.prog.info? 470).map (fun i => (i.zero, i.size, i.bytes)) = some (some .nilIface, 1, 16) := by kernel_rfl
def SelPost (l : List Nd) (ks : List Nat) (w : World) (e : Ending) (w' : World) : Prop := ∃ a : Option Addr, e = .returned (.pointer a) ∧ ((∃ x, x ∈ ks ∧ kd l x = 5) → ∃ q : Nat, a = some ⟨q, 0, none⟩) ∧ Sm [] w w'
theorem coll_end (l : List Nd) (ks : List Nat) (w : World) (h : ∀ x, x ∈ ks → kd l x ≠ 5) : SelPost l ks w (.returned (.pointer none)) w := ⟨none, rfl, fun ⟨x, h1, h2⟩ => absurd h2 (h x h1), Sm.refl _ _⟩

set_option maxRecDepth 100000 in
set_option maxHeartbeats 2000000 in
theorem selections_any (l : List Nd) (mb b o cap kc : Nat) (a : Option Addr) (ks : List Nat) (w : World) (hm : MAt w mb b o cap l) (hd : Doc l) (hkl : ks.length ≤ 400) (hI : IntsAt w (.slice a ks.length kc) ks) (hk : ∀ k, k ∈ ks → k < l.length)
    (ih : ∀ x W, x ∈ ks → kd l x = 5 → MAt W mb b o cap l → Calls Tryz.prog 110 #[.pointer (some ⟨mb, 0, none⟩), .int .i64 (x : Int)] W (PtrGo W)) :
    Calls Tryz.prog 70 #[.pointer (some ⟨mb, 0, none⟩), .slice a ks.length kc] w (SelPost l ks w) := by
  have HKK : Hid (∀ k, k ∈ ks → k < l.length) := hk
  have HM1 : Hid (MAt w mb b o cap l) := hm
  have HI : Hid (IntsAt w (.slice a ks.length kc) ks) := hI
  have IH : Hid (∀ x W, x ∈ ks → kd l x = 5 → MAt W mb b o cap l → Calls Tryz.prog 110 #[.pointer (some ⟨mb, 0, none⟩), .int .i64 (x : Int)] W (PtrGo W)) := ih
  have d0 := hm.c0
  clear hk hm hd hI ih
  go_enter Tryz.func70, Tryz.ntmps70
  go_wp2_with fail
  go_loop [6, 9] (fun _ u => ∃ j : Nat, j ≤ ks.length ∧ u = .int .i64 (j : Int) ∧ Hid (∀ i, i < j → kd l (ks.getD i 0) ≠ 5)) (fun _ u => ks.length - (intOf u).toNat)
  case atStart => exact ⟨0, Nat.zero_le _, rfl, fun i hi => by omega⟩
  case round =>
    obtain ⟨j, hj, rfl, hp⟩ := hrel
    have y1 : (0 : Int) ≤ (j : Int) := by omega
    by_cases hlt : j < ks.length
    · have y2 : (j : Int) < (ks.length : Int) := by omega
      obtain ⟨xb, xo, rfl, _, hxc⟩ := ints_at HI.out hlt
      have hmem := getD_memN hlt
      have HX : Hid (kd l (ks.getD j 0) ≠ 5 → ∀ i, i < j + 1 → kd l (ks.getD i 0) ≠ 5) := fun hq i hi => by
        by_cases e : i = j
        · subst e; exact hq
        · exact hp.out i (by omega)
      generalize ks.getD j 0 = k at *
      have hkl' := HKK.out k hmem
      have z1 : (0 : Int) ≤ (k : Int) := by omega
      have z2 : (k : Int) < (l.length : Int) := by omega
      have n0 := (HM1.out.doc k hkl').c0
      have hkd := kd_at hkl'
      by_cases h5 : kd l k = 5
      · have HC : Hid (Calls Tryz.prog 110 #[.pointer (some ⟨mb, 0, none⟩), .int .i64 (k : Int)] w (PtrGo w)) := IH.out k w hmem h5 HM1.out
        rw [← hkd, h5] at n0
        clear hkd h5 hmem
        go_wp2_with fail
        refine HC.out.mono ?_
        rintro e w2 ⟨q, rfl, hs2⟩
        have HS2 : Hid (Sm [] w w2) := hs2
        clear hs2
        go_wp2_with fail
        go_ret
        exact ⟨_, rfl, fun _ => ⟨q, rfl⟩, HS2.out⟩
      · have e5 : (l[k].kind == 5) = false := by rw [← hkd]; simp [h5]
        have HX2 := HX.out h5
        have HX3 : Hid (∀ i, i < j + 1 → kd l (ks.getD i 0) ≠ 5) := HX2
        clear hkd h5 hmem HX HX2
        go_wp2_with fail
        go_round
        case rel => exact ⟨j + 1, by omega, by go_num, HX3⟩
        case measure => simp [intOf]; omega
    · have y2 : ¬ ((j : Int) < (ks.length : Int)) := by omega
      have HA : Hid (∀ x, x ∈ ks → kd l x ≠ 5) := fun x hx => by
        obtain ⟨i, hi, rfl⟩ := List.mem_iff_getElem.1 hx
        have := hp.out i (by omega)
        simpa [List.getD_eq_getElem?_getD, hi] using this
      go_wp2_with fail
      go_ret
      exact coll_end l ks w HA.out

theorem must_any (l : List Nd) (mb b o cap kc : Nat) (a : Option Addr) (ks : List Nat) (w : World) (hm : MAt w mb b o cap l) (hd : Doc l) (hkl : ks.length ≤ 400) (hI : IntsAt w (.slice a ks.length kc) ks) (hk : ∀ k, k ∈ ks → k < l.length)
    (ih : ∀ x W, x ∈ ks → kd l x = 5 → MAt W mb b o cap l → Calls Tryz.prog 110 #[.pointer (some ⟨mb, 0, none⟩), .int .i64 (x : Int)] W (PtrGo W)) (hex : ∃ x, x ∈ ks ∧ kd l x = 5) :
    Calls Tryz.prog 47 #[.pointer (some ⟨mb, 0, none⟩), .slice a ks.length kc] w (PtrGo w) := by
  have HC : Hid (Calls Tryz.prog 70 #[.pointer (some ⟨mb, 0, none⟩), .slice a ks.length kc] w (SelPost l ks w)) := selections_any l mb b o cap kc a ks w hm hd hkl hI hk ih
  have HE : Hid (∃ x, x ∈ ks ∧ kd l x = 5) := hex
  clear hex hm hd hkl hI hk ih
  go_enter Tryz.func47, Tryz.ntmps47
  go_wp2_with fail
  refine HC.out.mono ?_
  rintro e w2 ⟨q, rfl, h1, hs2⟩
  obtain ⟨q, rfl⟩ := h1 HE.out
  have HS2 : Hid (Sm [] w w2) := hs2
  clear hs2 h1
  go_wp2_with fail
  go_ret
  exact ⟨q, rfl, HS2.out⟩

end

end Go.Proofs.YtigpnidffiaigaaGreat
