/- Walks: whether a list of nodes is a document. Walks: documents of operations and fragments; the operation by its name; what fits. -/
import Derived.Test.YtigpnidffiaigaaGreatProg
import Derived.BigRegion
import Derived.IntWalk
import Derived.Test.YtigpnidffiaigaaGreatQ39
import Derived.Test.YtigpnidffiaigaaGreatQ48
set_option linter.unusedVariables false
set_option linter.unusedSimpArgs false
namespace Go.Proofs.YtigpnidffiaigaaGreat

section
open Go.RowKit
attribute [local go_sem ↓] Go.wp_at_zero Go.wp_at_succ

structure RFrom (l : List Nd) : Prop where
  tree : Tree l
  shp : ∀ i, i < l.length → Shp l i
  frm : ∀ i, i < l.length → Frm l i
def RfPost (P : Prop) (w : World) (e : Ending) (w' : World) : Prop := ∃ b, e = .returned (.bool b) ∧ Sm [] w w' ∧ (b = true → P)
theorem rf_no {P : Prop} {w w' : World} (h : Sm [] w w') : RfPost P w (.returned (.bool false)) w' := ⟨false, rfl, h, fun h => by cases h⟩
def RfRel (l : List Nd) (w : World) (v u : Value) (wr : World) : Prop :=
  ∃ (i : Nat) (q : Int), i ≤ l.length ∧ u = .int .i64 (i : Int) ∧ v = .int .i64 q ∧ 0 ≤ q ∧ q ≤ 4000 ∧ (∀ j, j < i → Shp l j ∧ Frm l j) ∧ Sm [] w wr

theorem rightFrom_nil (a : Option Addr) (cap : Nat) (w : World) : Calls Tryz.prog 14 #[.slice a 0 cap] w fun e w' => e = .returned (.bool false) ∧ w' = w := by
  go_enter Tryz.func14, Tryz.ntmps14
  go_wp2_with fail
  go_ret
  exact ⟨rfl, rfl⟩

set_option maxRecDepth 100000 in
set_option maxHeartbeats 4000000 in
theorem rightFrom_any (l : List Nd) (b o cap : Nat) (w : World) (hd : DocAt w b o l) (hf : Fits l) (hw : Wf l) (hl : 0 < l.length) :
    Calls Tryz.prog 14 #[.slice (some ⟨b, o, none⟩) l.length cap] w (RfPost (RFrom l) w) := by
  have hn : l.length ≤ 2147483647 := hf.len
  have z0 : ((l.length : Int) == 0) = false := beq_eq_false_iff_ne.2 (by omega)
  have z1 : (0 : Int) < (l.length : Int) := by omega
  have z1' : 0 < l.length := hl
  have c0 := (hd 0 hl).c5
  have HW : Hid (Wf l) := hw
  have HD : Hid (DocAt w b o l) := hd
  have HF : Hid (Fits l) := hf
  have hs0 := sz_at hl
  have y := hw 0 hl
  simp only [Nat.zero_mul, Nat.add_zero] at c0
  clear hw hd hf
  by_cases c1 : 400 < l.length
  · have c1' : (400 : Int) < (l.length : Int) := by omega
    clear y hs0
    go_enter Tryz.func14, Tryz.ntmps14
    go_wp2_with fail
    go_ret
    exact rf_no (Sm.refl _ _)
  have c1' : ¬ ((400 : Int) < (l.length : Int)) := by omega
  by_cases c2 : l[0].size = (l.length : Int)
  · have HS0 : Hid (sz l 0 = l.length) := by unfold Hid; rw [hs0, c2]; omega
    have HSZ : Hid (Calls Tryz.prog 17 #[.slice (some ⟨b, o, none⟩) l.length cap, .int .i64 0, .int .i64 (l.length : Int), .int .i64 0] w (SizedPost l 0 (l.length : Int) w)) :=
      sized_any l b o cap hn HW.out 41 0 (l.length : Int) 0 w HD.out hl (by omega) (by omega) (by omega) (by omega) (by omega)
    rw [c2] at c0
    clear y hs0 c2
    go_enter Tryz.func14, Tryz.ntmps14
    go_wp2_with fail
    refine HSZ.out.mono ?_
    rintro e w1 ⟨q, rfl, hs1, hq⟩
    cases q with
    | false =>
      clear hq
      go_wp2_with fail
      go_ret
      exact rf_no hs1
    | true =>
      have HT : Hid (TreeIn l 0 l.length) := by obtain ⟨_, _, h⟩ := hq rfl; rw [HS0.out] at h; have h' : TreeIn l 0 l.length := (by simpa using h); exact h'
      have HTR : Hid (Tree l) := ⟨by omega, by omega, HT.out, HS0.out⟩
      have HD1 : Hid (DocAt w1 b o l) := HD.out.sm0 hs1
      have H1 : Hid (Sm [] w w1) := hs1
      clear hq c0 HSZ hs1
      go_wp2_with fail
      go_loopw [3, 4] (fun v u wr => RfRel l w1 v u wr) (fun _ u _ => l.length - (intOf u).toNat)
      case atStart => unfold RfRel; exact ⟨0, 0, by omega, rfl, rfl, by omega, by omega, (fun j hj => by omega), Sm.refl _ _⟩
      case round =>
        unfold RfRel at hrel
        obtain ⟨i, q, hi, rfl, rfl, q1, q2, hj, hsm⟩ := hrel
        have HJ : Hid (∀ j, j < i → Shp l j ∧ Frm l j) := hj
        have HM : Hid (Sm [] w1 wr) := hsm
        have y1 : (0 : Int) ≤ (i : Int) := by omega
        clear hj
        by_cases hlt : i < l.length
        · have y2 : (i : Int) < (l.length : Int) := by omega
          have HX : Hid (∀ W, Calls Tryz.prog 18 #[ndV l[i]] W (FormedPost (FrmN l[i]) W)) := fun W => formed_any l[i] W (HF.out.name i hlt) (HF.out.alias i hlt) (HF.out.text i hlt)
          have HFM : Hid (FrmN l[i] → Frm l i) := FrmN.frm hlt
          have HD2 : Hid (DocAt wr b o l) := HD1.out.sm0 hsm
          obtain ⟨n0, n1, n2, n3, n4, n5⟩ := HD2.out i hlt
          have s1 := HF.out.name i hlt
          have s2 := HF.out.alias i hlt
          have s3 := HF.out.text i hlt
          unfold ndV at HX
          clear hsm
          generalize l[i] = x at *
          obtain ⟨x0, x1, x2, x3, x4, x5⟩ := x
          dsimp only at *
          have w1' : IntKind.i64.wrap ((x3.size : Int) + (x1.size : Int)) = (x3.size : Int) + (x1.size : Int) := IntWalk.i64_in _ (by omega)
          have w2' : IntKind.i64.wrap ((x3.size : Int) + (x1.size : Int) + (x2.size : Int)) = (x3.size : Int) + (x1.size : Int) + (x2.size : Int) := IntWalk.i64_in _ (by omega)
          by_cases hc : (x3.size : Int) + (x1.size : Int) + (x2.size : Int) ≤ 4000
          · have hc1 : (x3.size : Int) + (x1.size : Int) + (x2.size : Int) < 4001 := by omega
            have hc2 : (x3.size : Int) + (x1.size : Int) + (x2.size : Int) ≤ 4001 := by omega
            generalize hmm : (x3.size : Int) + (x1.size : Int) + (x2.size : Int) = mm at *
            have w3' : IntKind.i64.wrap (q + mm) = q + mm := IntWalk.i64_in _ (by omega)
            have qm : 0 ≤ mm := by omega
            go_wp2_with fail
            go_quiet (fail)
            have HM1 : Hid (Sm [] w1 (wr.drewN nq)) := HM.out.drewN nq
            have HD3 : Hid (DocAt (wr.drewN nq) b o l) := HD2.out.sm0 ((Sm.refl _ _).drewN nq)
            have n0' : (wr.drewN nq).cell? ⟨b, o + i * 6, none⟩ = some (.int .i64 x0) := n0
            have n1' : (wr.drewN nq).cell? ⟨b, o + i * 6 + 1, none⟩ = some (.string x1) := n1
            have n2' : (wr.drewN nq).cell? ⟨b, o + i * 6 + 2, none⟩ = some (.string x2) := n2
            have n3' : (wr.drewN nq).cell? ⟨b, o + i * 6 + 3, none⟩ = some (.string x3) := n3
            have n4' : (wr.drewN nq).cell? ⟨b, o + i * 6 + 4, none⟩ = some (.int .i64 x4) := n4
            have n5' : (wr.drewN nq).cell? ⟨b, o + i * 6 + 5, none⟩ = some (.int .i64 x5) := n5
            clear n0 n1 n2 n3 n4 n5 w1' w2' w3' HM HD2 hmm hc1 hc2
            generalize wr.drewN nq = w2 at *
            by_cases hB : 4000 < q + mm
            · go_wp2_with fail
              go_ret
              exact rf_no (H1.out.trans HM1.out)
            · have hB' : q + mm ≤ 4000 := by omega
              go_wp2_with fail
              refine (HX.out _).mono ?_
              rintro e w3 ⟨f, rfl, hs3, hfp⟩
              have HM2 : Hid (Sm [] w1 w3) := HM1.out.trans hs3
              have HD4 : Hid (DocAt w3 b o l) := HD3.out.sm0 hs3
              cases f with
              | false =>
                clear hfp hs3
                go_wp2_with fail
                go_ret
                exact rf_no (H1.out.trans HM2.out)
              | true =>
                have HFR : Hid (Frm l i) := HFM.out (hfp rfl)
                clear hfp hs3 n0' n1' n2' n3' n4' n5'
                go_wp2_with fail
                refine (shaped_any l i b o cap _ HD4.out HT.out hlt hn).mono ?_
                rintro e w4 ⟨g, rfl, hs4, hsp⟩
                have HM3 : Hid (Sm [] w1 w4) := HM2.out.trans hs4
                cases g with
                | false =>
                  clear hsp hs4
                  go_wp2_with fail
                  go_ret
                  exact rf_no (H1.out.trans HM3.out)
                | true =>
                  have HSR : Hid (Shp l i) := hsp rfl
                  clear hsp hs4
                  go_wp2_with fail
                  go_roundw
                  case rel =>
                    (first | refine ⟨_, _, ?_, rfl, rfl⟩ | skip)
                    unfold RfRel
                    refine ⟨i + 1, q + mm, by omega, by go_num, rfl, by omega, hB', (fun j hj => ?_), HM3.out⟩
                    by_cases e : j = i
                    · subst e; exact ⟨HSR.out, HFR.out⟩
                    · exact HJ.out j (by omega)
                  case measure => simp [intOf]; omega
          · have hc1 : ¬ ((x3.size : Int) + (x1.size : Int) + (x2.size : Int) < 4001) := by omega
            have hc3 : (4001 : Int) ≤ (x3.size : Int) + (x1.size : Int) + (x2.size : Int) := by omega
            have w3' : IntKind.i64.wrap (q + 4001) = q + 4001 := IntWalk.i64_in _ (by omega)
            have w4' : IntKind.i64.wrap (q + ((x3.size : Int) + (x1.size : Int) + (x2.size : Int))) = q + ((x3.size : Int) + (x1.size : Int) + (x2.size : Int)) := IntWalk.i64_in _ (by omega)
            have hb1 : 4000 < q + 4001 := by omega
            have hb2 : 4000 < q + ((x3.size : Int) + (x1.size : Int) + (x2.size : Int)) := by omega
            go_wp2_with fail
            go_quiet (fail)
            go_wp2_with fail
            all_goals go_ret
            all_goals exact rf_no (H1.out.trans (HM.out.drewN _))
        · have y2 : ¬ ((i : Int) < (l.length : Int)) := by omega
          obtain rfl : i = l.length := by omega
          go_wp2_with fail
          go_ret
          exact ⟨true, rfl, H1.out.trans HM.out, fun _ => ⟨HTR.out, fun i hi => (HJ.out i hi).1, fun i hi => (HJ.out i hi).2⟩⟩
  · have c2' : (l[0].size != (l.length : Int)) = true := by simp [c2]
    have HS : Hid (l[0].size ≠ (l.length : Int)) := c2
    clear hs0 c2
    generalize l[0].size = q at *
    go_enter Tryz.func14, Tryz.ntmps14
    go_wp2_with fail
    go_ret
    exact rf_no (Sm.refl _ _)

end

section
open Go.RowKit

theorem anyDocument_nil (a : Option Addr) (cap : Nat) (w : World) : Calls Tryz.prog 9 #[.slice a 0 cap] w fun e w' => e = .returned (.bool false) ∧ w' = w := by
  have h := fun W => rightFrom_nil a cap W
  go_enter Tryz.func9, Tryz.ntmps9
  go_wp2_with (go_at_call 14; refine (h _).mono ?_; rintro e w' ⟨rfl, hww⟩; rw [hww]; clear hww w')
  go_ret
  exact ⟨rfl, rfl⟩
theorem documentRight_nil (a : Option Addr) (cap : Nat) (w : World) : Calls Tryz.prog 5 #[.slice a 0 cap] w fun e w' => e = .returned (.bool false) ∧ w' = w := by
  have h := fun W => anyDocument_nil a cap W
  go_enter Tryz.func5, Tryz.ntmps5
  go_wp2_with (go_at_call 9; refine (h _).mono ?_; rintro e w' ⟨rfl, hww⟩; rw [hww]; clear hww w')
  go_ret
  exact ⟨rfl, rfl⟩

set_option maxHeartbeats 1000000 in
theorem anyDocument_any (l : List Nd) (b o cap : Nat) (w : World) (hd : DocAt w b o l) (hf : Fits l) (hw : Wf l) (hl : 0 < l.length) :
    Calls Tryz.prog 9 #[.slice (some ⟨b, o, none⟩) l.length cap] w (RfPost (RFrom l ∧ kd l 0 = 1) w) := by
  have HR : Hid (Calls Tryz.prog 14 #[.slice (some ⟨b, o, none⟩) l.length cap] w (RfPost (RFrom l) w)) := rightFrom_any l b o cap w hd hf hw hl
  have z1 : (0 : Int) < (l.length : Int) := by omega
  have hk := kd_at hl
  have HD : Hid (DocAt w b o l) := hd
  clear hd hf hw
  go_enter Tryz.func9, Tryz.ntmps9
  go_wp2_with fail
  refine HR.out.mono ?_
  rintro e w1 ⟨q, rfl, hs, hq⟩
  have c0 := ((HD.out.sm0 hs) 0 hl).c0
  simp only [Nat.zero_mul, Nat.add_zero] at c0
  cases q with
  | false =>
    clear hq
    go_wp2_with fail
    go_ret
    exact rf_no hs
  | true =>
    have HQ : Hid (RFrom l) := hq rfl
    clear hq
    by_cases h1 : l[0].kind = 1
    · have HK : Hid (kd l 0 = 1) := hk.trans h1
      rw [h1] at c0
      clear hk h1
      go_wp2_with fail
      go_ret
      exact ⟨true, rfl, hs, fun _ => ⟨HQ.out, HK.out⟩⟩
    · have e1 : (l[0].kind == 1) = false := by simp [h1]
      clear hk h1
      go_wp2_with fail
      go_ret
      exact rf_no hs

theorem RFrom.ch {l : List Nd} (h : RFrom l) : Ch l (0 + 1) (0 + sz l 0) (kids l 0) := h.tree.ch (by have := h.tree.len; omega)

set_option maxHeartbeats 1000000 in
theorem documentRight_any (l : List Nd) (b o cap : Nat) (w : World) (hd : DocAt w b o l) (hf : Fits l) (hw : Wf l) (hl : 0 < l.length) :
    Calls Tryz.prog 5 #[.slice (some ⟨b, o, none⟩) l.length cap] w (RfPost (Right l) w) := by
  have HR : Hid (Calls Tryz.prog 9 #[.slice (some ⟨b, o, none⟩) l.length cap] w (RfPost (RFrom l ∧ kd l 0 = 1) w)) := anyDocument_any l b o cap w hd hf hw hl
  have hn : l.length ≤ 2147483647 := hf.len
  have z1 : (0 : Int) < (l.length : Int) := by omega
  have HD : Hid (DocAt w b o l) := hd
  clear hd hf hw
  go_enter Tryz.func5, Tryz.ntmps5
  go_wp2_with fail
  refine HR.out.mono ?_
  rintro e w1 ⟨q, rfl, hs, hq⟩
  cases q with
  | false =>
    clear hq
    go_wp2_with fail
    go_ret
    exact rf_no hs
  | true =>
    have HQ : Hid (RFrom l) := (hq rfl).1
    have HK : Hid (kd l 0 = 1) := (hq rfl).2
    clear hq
    have HC : Hid (Calls Tryz.prog 10 #[.slice (some ⟨b, o, none⟩) l.length cap, .int .i64 0] w1 fun e w' => ∃ v, e = .returned v ∧ IntsAt w' v (kids l 0) ∧ Sm [] w1 w') :=
      kids_any l 0 b o cap (kids l 0) w1 (HD.out.sm0 hs) hl hn HQ.out.ch (by rw [HQ.out.tree.root]; omega)
    have hkl : (kids l 0).length ≤ 400 := HQ.out.tree.kids_len hl
    have HM : Hid (∀ k, k ∈ kids l 0 → k < l.length) := fun k hk => (HQ.out.tree.kid hl hk).2.1
    obtain ⟨ks, hks⟩ : ∃ k, k = kids l 0 := ⟨_, rfl⟩
    rw [← hks] at HC hkl HM
    have HKS : Hid (ks = kids l 0) := hks
    clear hks
    go_wp2_with fail
    refine HC.out.mono ?_
    rintro e w2 ⟨v, rfl, ⟨a, kcap, rfl, hk1, hk2, hk3⟩, hs2⟩
    have HI : Hid (∀ i, i < ks.length → ∃ b o, a = some ⟨b, o, none⟩ ∧ b < w2.heap.size ∧ w2.cell? ⟨b, o + i, none⟩ = some (.int .i64 ((ks.getD i 0 : Nat) : Int))) := hk3
    have HD2 : Hid (DocAt w2 b o l) := (HD.out.sm0 hs).sm0 hs2
    unfold maxLen at hk2
    clear hk3 HC
    go_wp2_with fail
    go_loopw [4] (fun u wr => ∃ j : Nat, j ≤ ks.length ∧ u = .int .i64 (j : Int) ∧ wr = w2 ∧ Hid (∀ i, i < j → kd l (ks.getD i 0) = 2 ∨ kd l (ks.getD i 0) = 3)) (fun u _ => ks.length - (intOf u).toNat)
    case atStart => exact ⟨0, by omega, rfl, rfl, fun i hi => by omega⟩
    case round =>
      obtain ⟨j, hj, rfl, rfl, hp⟩ := hrel
      have z3 : (0 : Int) ≤ (j : Int) := by omega
      by_cases hlt : j < ks.length
      · have z4 : (j : Int) < (ks.length : Int) := by omega
        obtain ⟨kb, ko, rfl, hkb, hkc⟩ := HI.out j hlt
        have hkl' := HM.out _ (getD_memN hlt)
        have HX : Hid (∀ c, kd l (ks.getD j 0) = c → (c = 2 ∨ c = 3) → ∀ i, i < j + 1 → kd l (ks.getD i 0) = 2 ∨ kd l (ks.getD i 0) = 3) := fun c hc h2 i hi => by
          by_cases e : i = j
          · subst e; rw [hc]; exact h2
          · exact hp.out i (by omega)
        generalize ks.getD j 0 = k at *
        have z5 : (0 : Int) ≤ (k : Int) := by omega
        have z6 : (k : Int) < (l.length : Int) := by omega
        have ck := (HD2.out k hkl').c0
        have hkd := kd_at hkl'
        by_cases h2 : l[k].kind = 2
        · have HX2 := HX.out 2 (hkd.trans h2) (.inl rfl)
          have HX3 : Hid (∀ i, i < j + 1 → kd l (ks.getD i 0) = 2 ∨ kd l (ks.getD i 0) = 3) := HX2
          rw [h2] at ck
          clear h2 hkd HX2
          go_wp2_with fail
          go_roundw
          case rel => exact ⟨j + 1, by omega, by go_num, (by trivial), HX3⟩
          case measure => simp [intOf]; omega
        · have e2 : (l[k].kind != 2) = true := by simp [h2]
          by_cases h3 : l[k].kind = 3
          · have HX2 := HX.out 3 (hkd.trans h3) (.inr rfl)
            have HX3 : Hid (∀ i, i < j + 1 → kd l (ks.getD i 0) = 2 ∨ kd l (ks.getD i 0) = 3) := HX2
            rw [h3] at ck
            clear h2 h3 e2 hkd HX2
            go_wp2_with fail
            go_roundw
            case rel => exact ⟨j + 1, by omega, by go_num, (by trivial), HX3⟩
            case measure => simp [intOf]; omega
          · have e3 : (l[k].kind != 3) = true := by simp [h3]
            clear h2 h3 hkd
            go_wp2_with fail
            go_ret
            exact rf_no (hs.trans hs2)
      · have z4 : ¬ ((j : Int) < (ks.length : Int)) := by omega
        have HA : Hid (∀ a, a ∈ kids l 0 → kd l a = 2 ∨ kd l a = 3) := fun a ha => by
          rw [← HKS.out] at ha
          obtain ⟨i, hi, rfl⟩ := List.mem_iff_getElem.1 ha
          have := hp.out i (by omega)
          simpa [List.getD_eq_getElem?_getD, hi] using this
        go_wp2_with fail
        go_ret
        exact ⟨true, rfl, hs.trans hs2, fun _ => ⟨HQ.out.tree, HQ.out.shp, HQ.out.frm, HK.out, HA.out⟩⟩

end

end Go.Proofs.YtigpnidffiaigaaGreat
