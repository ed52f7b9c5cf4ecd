/- Walks: the execution: the operation. Walks: the law. The row: a list of nodes that came in. -/
import Derived.Test.YtigpnidffiaigaaGreatProg
import Derived.BigRegion
import Derived.Deep.RegionLaw
import Derived.Deep.Slices
import Derived.Deep.Fields
import Derived.ChangeSame
import Derived.OpenShut
import Derived.DataShut
import Derived.Test.YtigpnidffiaigaaGreatQ01
import Derived.Test.YtigpnidffiaigaaGreatQ51
set_option linter.unusedVariables false
set_option linter.unusedSimpArgs false
namespace Go.Proofs.YtigpnidffiaigaaGreat

section
open Go.RowKit
attribute [local go_sem ↓] Go.wp_at_zero Go.wp_at_succ

def GoPost (l : List Nd) (op : ByteArray) (ms : List Nat) (w : World) (e : Ending) (w' : World) : Prop :=
  Sm [] w w' ∧ ((∃ q k : Nat, ms.getLast? = some k ∧ (op = ByteArray.empty → ms.length ≤ 1) ∧ e = .returned (.tuple #[.iface 45 (.pointer (some ⟨q, 0, none⟩)), .bool true]) ∧ OpAt w' l k q true) ∨
    (e = .returned (.tuple #[.nilIface, .bool false]) ∧ (ms = [] ∨ (op = ByteArray.empty ∧ 2 ≤ ms.length))))
theorem Alien.sm0 {w w' : World} {X : List Nat} (h : Alien w X) (s : Sm [] w w') : Alien w' X := fun b hb => by
  obtain ⟨cs, T, h1, h2⟩ := h b hb
  exact ⟨cs, T, s.obj h1 (by simp), h2⟩
theorem DocV.sm {w w' : World} {l : List Nd} {ks : List Nat} {q : Nat} {cl : Nat → Bool} (h : DocV w l ks q cl) (s : Sm [] w w') : DocV w' l ks q cl := by
  obtain ⟨s1, lo, a, c, vs, h1, h2, h3, h4, h5, h6, h7⟩ := h
  refine ⟨s1, lo, a, c, vs, s.obj h1 (by simp), h2, h3, h4, fun j hj => ?_, fun g hg => (h6 g hg).sm0 s, fun j hj => (h7 j hj).sm s⟩
  obtain ⟨g, e1, e2⟩ := h5 j hj
  exact ⟨g, e1, s.keeps e2 (by simp)⟩
theorem opAt_back {w w' : World} {l : List Nd} {k q : Nat} {c : Bool} (h : OpAt w l k q c) (s : Sm [] w w') : OpAt w' l k q c := h.sm s

set_option maxRecDepth 100000 in
set_option maxHeartbeats 4000000 in
theorem graphqlOperationOf_any (l : List Nd) (op : ByteArray) (d : Nat) (w : World) (hv : DocV w l (kids l 0) d (fun _ => true)) (hop : op.size ≤ 2147483647) (hkl : (kids l 0).length ≤ 400) (hfr : ∀ k, k ∈ kids l 0 → kd l k = 3 → nm l k ≠ ByteArray.empty) (hnm : ∀ k, k ∈ kids l 0 → (nm l k).size ≤ 2147483647) :
    Calls Tryz.prog 13 #[zSch, .pointer (some ⟨d, 0, none⟩), .string op] w (GoPost l op (opsOf l op) w) := by
  have HV : Hid (DocV w l (kids l 0) d (fun _ => true)) := hv
  have HC : Hid (∀ W, DocV W l (kids l 0) d (fun _ => true) → Calls Tryz.prog 16 #[zPar d op] W (EcPost l op (opsOf l op) W)) := fun W h => ec_any l op d W h hop hkl hfr hnm
  clear hv hkl hfr hnm
  generalize opsOf l op = ms at *
  unfold zSch
  go_enter Tryz.func13, Tryz.ntmps13
  go_wp2_with fail
  refine (HC.out _ (HV.out.sm (sm_allc _ _))).mono ?_
  rintro e w2 ⟨hs, ⟨q, k, cx, hl, ho, rfl, hc, hoa⟩ | ⟨t, v, rfl, hno⟩⟩
  · have HP : Hid (GoPost l op ms w (.returned (.tuple #[.iface 45 (.pointer (some ⟨q, 0, none⟩)), .bool true])) w2) := ⟨(sm_allc _ _).trans hs, .inl ⟨q, k, hl, ho, rfl, hoa.sm hs⟩⟩
    clear hl ho hoa hs
    go_wp2_with fail
    go_ret2
    exact HP.out
  · have HP : Hid (GoPost l op ms w (.returned (.tuple #[.nilIface, .bool false])) w2) := ⟨(sm_allc _ _).trans hs, .inr ⟨rfl, hno⟩⟩
    clear hno hs
    go_wp2_with fail
    go_ret2
    exact HP.out

/-- the document while its operations are cleared -/
structure DocB (w : World) (l : List Nd) (ks : List Nat) (d n j : Nat) (s1 : ByteArray) (lo a : Option Addr) (c : Nat) (vs : List Value) : Prop where
  obj : w.heap[d]? = some (.cells #[.string s1, .pointer lo, .slice a ks.length c] 42 (0, 0))
  le : ks.length ≤ c
  most : c ≤ maxLen
  len : vs.length = ks.length
  cells : ∀ i, i < ks.length → ∃ g, a = some ⟨g, 0, none⟩ ∧ w.cell? ⟨g, i, none⟩ = some (vs.getD i .nilIface)
  alien : ∀ g, a = some ⟨g, 0, none⟩ → Alien w [g]
  defs : ∀ i, i < ks.length → DefAt w l (ks.getD i 0) (vs.getD i .nilIface) (decide (i < j)) ∧ NewOp l (ks.getD i 0) (vs.getD i .nilIface) n

theorem set_far {w : World} {q b : Nat} {v : Value} {cs cs' : Array Value} {T : TypeId} (hq : w.heap[q]? = some (.cells cs' 52 (0, 0))) (h : w.heap[b]? = some (.cells cs T (0, 0))) (hT : T ≠ 52) : b ∉ [q] := by
  intro hb
  simp at hb
  subst hb
  rw [h] at hq
  simp only [Option.some.injEq, Obj.cells.injEq] at hq
  exact hT hq.2.1
theorem set_sm (w : World) (q : Nat) (v : Value) : Sm [q] w (w.setCell ⟨q, 4, none⟩ v) := (Sm.refl [q] w).setCell (.inr (by simp)) v
theorem NameV.set4 {w : World} {q : Nat} {v u : Value} {cs' : Array Value} {s : ByteArray} (hq : w.heap[q]? = some (.cells cs' 52 (0, 0))) (h : NameV w v s) : NameV (w.setCell ⟨q, 4, none⟩ u) v s := by
  rcases h with h | ⟨h1, b, k, lo, h2, h3⟩
  · exact .inl h
  · exact .inr ⟨h1, b, k, lo, h2, (set_sm w q u).obj h3 (set_far (v := u) hq h3 (by decide))⟩
theorem OpAt.set4 {w : World} {l : List Nd} {k q q' : Nat} {c : Bool} {cs' : Array Value} (hq : w.heap[q]? = some (.cells cs' 52 (0, 0))) (h : OpAt w l k q' c) : OpAt (w.setCell ⟨q, 4, none⟩ (.slice none 0 0)) l k q' c := by
  obtain ⟨s1, op, lo, na, va, da, vn, vc, dn, dc, sq, h1, h2, h3, h4⟩ := h
  have e3 := (set_sm w q (.slice none 0 0)).obj h3 (set_far (v := .nilIface) hq h3 (by decide))
  by_cases hqq : q' = q
  · subst hqq
    have e1 := obj_setCell h1 4 (.slice none 0 0)
    exact ⟨s1, op, lo, na, none, da, 0, 0, dn, dc, sq, e1, h2.set4 hq, e3, fun _ => ⟨rfl, rfl, rfl⟩⟩
  · exact ⟨s1, op, lo, na, va, da, vn, vc, dn, dc, sq, (set_sm w q _).obj h1 (by simpa using hqq), h2.set4 hq, e3, h4⟩
theorem OpAt.self4 {w : World} {l : List Nd} {k q : Nat} {c : Bool} (h : OpAt w l k q c) : OpAt (w.setCell ⟨q, 4, none⟩ (.slice none 0 0)) l k q true := by
  obtain ⟨s1, op, lo, na, va, da, vn, vc, dn, dc, sq, h1, h2, h3, h4⟩ := h
  have e1 := obj_setCell h1 4 (.slice none 0 0)
  exact ⟨s1, op, lo, na, none, da, 0, 0, dn, dc, sq, e1, h2.set4 h1, (set_sm w q _).obj h3 (set_far (v := .nilIface) h1 h3 (by decide)), fun _ => ⟨rfl, rfl, rfl⟩⟩
theorem FrAt.set4 {w : World} {l : List Nd} {k q q' : Nat} {cs' : Array Value} (hq : w.heap[q]? = some (.cells cs' 52 (0, 0))) (h : FrAt w l k q') : FrAt (w.setCell ⟨q, 4, none⟩ (.slice none 0 0)) l k q' := by
  obtain ⟨cs, na, h1, h2, h3⟩ := h
  exact ⟨cs, na, (set_sm w q _).obj h1 (set_far (v := .nilIface) hq h1 (by decide)), h2, h3.set4 hq⟩
theorem DocB.skip {w : World} {l : List Nd} {ks : List Nat} {d n j : Nat} {s1 : ByteArray} {lo a : Option Addr} {c : Nat} {vs : List Value} (h : DocB w l ks d n j s1 lo a c vs) (hk : kd l (ks.getD j 0) = 3) : DocB w l ks d n (j + 1) s1 lo a c vs := by
  refine ⟨h.obj, h.le, h.most, h.len, h.cells, h.alien, fun i hi => ⟨?_, (h.defs i hi).2⟩⟩
  by_cases e : i = j
  · subst e
    rcases (h.defs i hi).1 with ⟨h1, _⟩ | h1
    · rw [hk] at h1; cases h1
    · exact .inr h1
  · have e1 : decide (i < j + 1) = decide (i < j) := by by_cases h1 : i < j <;> simp [h1] <;> omega
    rw [e1]
    exact (h.defs i hi).1
theorem DocB.clear {w : World} {l : List Nd} {ks : List Nat} {d n j q : Nat} {s1 : ByteArray} {lo a : Option Addr} {c : Nat} {vs : List Value} (h : DocB w l ks d n j s1 lo a c vs) (hj : j < ks.length) (hk : kd l (ks.getD j 0) = 2) (hv : vs.getD j .nilIface = .iface 45 (.pointer (some ⟨q, 0, none⟩))) :
    DocB (w.setCell ⟨q, 4, none⟩ (.slice none 0 0)) l ks d n (j + 1) s1 lo a c vs := by
  have hop : OpAt w l (ks.getD j 0) q (decide (j < j)) := by
    rcases (h.defs j hj).1 with ⟨_, q', h2, h3⟩ | ⟨h1, _⟩
    · rw [hv] at h2
      simp only [Value.iface.injEq, Value.pointer.injEq, Option.some.injEq, Addr.mk.injEq] at h2
      obtain ⟨_, rfl, _⟩ := h2
      exact h3
    · rw [hk] at h1; cases h1
  have hop' := hop
  obtain ⟨x1, x2, x3, x4, x5, x6, x7, x8, x9, x10, x11, hq, _⟩ := hop'
  refine ⟨(set_sm w q _).obj h.obj (set_far (v := .nilIface) hq h.obj (by decide)), h.le, h.most, h.len, fun i hi => ?_, fun g hg b hb => ?_, fun i hi => ⟨?_, (h.defs i hi).2⟩⟩
  · obtain ⟨g, e1, e2⟩ := h.cells i hi
    obtain ⟨cs, T, e3, e4, _⟩ := h.alien g e1 g (by simp)
    exact ⟨g, e1, (set_sm w q _).keeps e2 (set_far (v := .nilIface) hq e3 e4)⟩
  · obtain ⟨cs, T, e3, e4, e5⟩ := h.alien g hg b hb
    exact ⟨cs, T, (set_sm w q _).obj e3 (set_far (v := .nilIface) hq e3 e4), e4, e5⟩
  · by_cases e : i = j
    · subst e
      exact .inl ⟨hk, q, hv, by have e1 : decide (i < i + 1) = true := by simp
                                rw [e1]; exact hop.self4⟩
    · have e1 : decide (i < j + 1) = decide (i < j) := by by_cases h1 : i < j <;> simp [h1] <;> omega
      rw [e1]
      rcases (h.defs i hi).1 with ⟨h1, q', h2, h3⟩ | ⟨h1, q', h2, h3⟩
      · exact .inl ⟨h1, q', h2, h3.set4 hq⟩
      · exact .inr ⟨h1, q', h2, h3.set4 hq⟩
theorem DocB.whole {w : World} {l : List Nd} {ks : List Nat} {d n : Nat} {s1 : ByteArray} {lo a : Option Addr} {c : Nat} {vs : List Value} (h : DocB w l ks d n ks.length s1 lo a c vs) : DocV w l ks d (fun _ => true) :=
  ⟨s1, lo, a, c, vs, h.obj, h.le, h.most, h.len, h.cells, h.alien, fun i hi => by have := (h.defs i hi).1; rwa [decide_eq_true hi] at this⟩
def ClRel (l : List Nd) (ks : List Nat) (w : World) (d : Nat) (s1 : ByteArray) (lo a : Option Addr) (c : Nat) (vs : List Value) (u : Value) (wr : World) : Prop :=
  ∃ j : Nat, j ≤ ks.length ∧ u = .int .i64 (j : Int) ∧ Sm [] w wr ∧ DocB wr l ks d w.heap.size j s1 lo a c vs

def OpPost (l : List Nd) (op : ByteArray) (ms : List Nat) (w : World) (e : Ending) (w' : World) : Prop :=
  Sm [] w w' ∧ ((∃ k : Nat, ms.getLast? = some k ∧ (op = ByteArray.empty → ms.length ≤ 1) ∧ e = .returned (.tuple #[.int .i64 (k : Int), .bool true])) ∨
    (e = .returned (.tuple #[.int .i64 0, .bool false]) ∧ (ms = [] ∨ (op = ByteArray.empty ∧ 2 ≤ ms.length))))
theorem implOperationOf_any (l : List Nd) (op : ByteArray) (b o cap : Nat) (w : World) (hdoc : DocAt w b o l) (hr : Right l) (hf : Fits l) (hop : op.size ≤ 2147483647) :
    Calls Tryz.prog 7 #[.slice (some ⟨b, o, none⟩) l.length cap, .string op] w (OpPost l op (opsOf l op) w) := by
  have HD : Hid (DocAt w b o l) := hdoc
  have HR : Hid (Right l) := hr
  have hkl : (kids l 0).length ≤ 400 := hr.tree.kids_len hr.tree.len
  have hta1 := ta_op
  have hta3 := ta_no
  clear hdoc hr
  go_enter Tryz.func7, Tryz.ntmps7
  go_wp2_with fail
  refine (implDocument_any l b o cap w HD.out HR.out).mono ?_
  rintro e w1 ⟨d, rfl, ⟨s1, lo, a, c, vs, hobj, hc1, hc2, hvs, hcell, hal, hdef⟩, hs1⟩
  have HB1 : Hid (DocB w1 l (kids l 0) d w.heap.size 0 s1 lo a c vs) := ⟨hobj, hc1, hc2, hvs, hcell, hal, hdef⟩
  have HS1 : Hid (Sm [] w w1) := hs1
  have HKD : Hid (∀ k, k ∈ kids l 0 → kd l k = 3 → nm l k ≠ ByteArray.empty) := fun k hk h3 => (((HR.out.frm k (HR.out.tree.kid HR.out.tree.len hk).2.1).frag h3).1)
  have HNM : Hid (∀ k, k ∈ kids l 0 → (nm l k).size ≤ 2147483647) := fun k hk => by have h1 := (HR.out.tree.kid HR.out.tree.len hk).2.1; rw [nm_at h1]; exact hf.name k h1
  have HOP : Hid (op.size ≤ 2147483647) := hop
  have HGO : Hid (∀ W, DocV W l (kids l 0) d (fun _ => true) → Calls Tryz.prog 13 #[zSch, .pointer (some ⟨d, 0, none⟩), .string op] W (GoPost l op (opsOf l op) W)) := fun W h => graphqlOperationOf_any l op d W h HOP.out hkl HKD.out HNM.out
  have d2 : w1.cell? ⟨d, 2, none⟩ = some (.slice a (kids l 0).length c) := cell_of hobj rfl
  clear hcell hal hdef hobj hs1 hf HKD HNM
  generalize opsOf l op = ms at *
  generalize kids l 0 = ks at *
  go_wp2_with fail
  go_loopw [9, 10, 11, 25] (fun _ _ _ u wr => ClRel l ks w d s1 lo a c vs u wr) (fun _ _ _ u _ => ks.length - (intOf u).toNat)
  case atStart => exact ⟨0, Nat.zero_le _, rfl, HS1.out, HB1.out⟩
  case round =>
    unfold ClRel at hrel
    obtain ⟨j, hj, rfl, hs, hb⟩ := hrel
    have HS : Hid (Sm [] w wr) := hs
    have HB : Hid (DocB wr l ks d w.heap.size j s1 lo a c vs) := hb
    have y1 : (0 : Int) ≤ (j : Int) := by omega
    clear hs d2
    by_cases hlt : j < ks.length
    · have y2 : (j : Int) < (ks.length : Int) := by omega
      obtain ⟨g, rfl, hg⟩ := hb.cells j hlt
      have hbd := hb.defs j hlt
      clear hb
      rcases hbd.1 with ⟨hk2, q, hvq, hoa⟩ | ⟨hk3, q, hvq, hfa⟩
      · have HB2 : Hid (DocB (wr.setCell ⟨q, 4, none⟩ (.slice none 0 0)) l ks d w.heap.size (j + 1) s1 lo (some ⟨g, 0, none⟩) c vs) := HB.out.clear hlt hk2 hvq
        have hnq : w.heap.size ≤ q := hbd.2 hk2 _ _ hvq
        have HS2 : Hid (Sm [] w (wr.setCell ⟨q, 4, none⟩ (.slice none 0 0))) := HS.out.setCell (.inl hnq) _
        rw [hvq] at hg
        obtain ⟨x1, x2, x3, x4, x5, x6, x7, x8, x9, x10, x11, hq, _⟩ := hoa
        have q4 : wr.cell? ⟨q, 4, none⟩ = some (.slice x5 x7 x8) := cell_of hq rfl
        have f4 := free_of hq 4
        clear hbd hvq hk2 hq
        go_wp2_with fail
        go_roundw
        case rel => exact ⟨j + 1, hlt, by go_num, HS2.out, HB2.out⟩
        case measure => simp [intOf]; omega
      · have HB2 : Hid (DocB wr l ks d w.heap.size (j + 1) s1 lo (some ⟨g, 0, none⟩) c vs) := HB.out.skip hk3
        rw [hvq] at hg
        clear hbd hvq hk3 hfa
        go_wp2_with fail
        go_roundw
        case rel => exact ⟨j + 1, hlt, by go_num, HS.out, HB2.out⟩
        case measure => simp [intOf]; omega
    · have y2 : ¬ ((j : Int) < (ks.length : Int)) := by omega
      have hje : j = ks.length := by omega
      have HV : Hid (DocV wr l ks d (fun _ => true)) := by have := HB.out; rw [hje] at this; exact this.whole
      clear hb hje HB HB1
      go_wp2_with fail
      refine (HGO.out _ HV.out).mono ?_
      rintro e w2 ⟨hs2, ⟨q, k, hl, ho, rfl, hoa⟩ | ⟨rfl, hno⟩⟩
      · have HP : Hid (OpPost l op ms w (.returned (.tuple #[.int .i64 (k : Int), .bool true])) w2) := ⟨HS.out.trans hs2, .inl ⟨k, hl, ho, rfl⟩⟩
        obtain ⟨x1, x2, x3, x4, x5, x6, x7, x8, x9, x10, x11, hq, _, hlo, _⟩ := hoa
        have q1 : w2.cell? ⟨q, 1, none⟩ = some (.pointer (some ⟨x3, 0, none⟩)) := cell_of hq rfl
        have l0 : w2.cell? ⟨x3, 0, none⟩ = some (.int .i64 (k : Int)) := cell_of hlo rfl
        clear hq hlo hl ho hs2
        go_wp2_with fail
        refine (getLocOp_any q _ w2 q1).mono ?_
        rintro e w3 ⟨rfl, hw3⟩
        subst w3
        go_wp2_with fail
        go_ret2
        exact HP.out
      · have HP : Hid (OpPost l op ms w (.returned (.tuple #[.int .i64 0, .bool false])) w2) := ⟨HS.out.trans hs2, .inr ⟨rfl, hno⟩⟩
        clear hno hs2
        go_wp2_with fail
        go_ret2
        exact HP.out

end

section
open Go.RowKit

def TrueB (w : World) (e : Ending) (w' : World) : Prop := e = .returned (.bool true) ∧ Sm [] w w'
set_option maxHeartbeats 2000000 in
theorem law_nil (a : Option Addr) (cap : Nat) (op : ByteArray) (w : World) : Calls Tryz.prog 3 #[.slice a 0 cap, .string op] w (TrueB w) := by
  go_enter Tryz.func3, Tryz.ntmps3
  go_wp2_with fail
  refine (zzFits2_nil a cap w).mono ?_
  rintro e w1 ⟨b1, rfl, hs1⟩
  have HS1 : Hid (Sm [] w w1) := hs1
  clear hs1
  cases b1
  · go_wp2_with fail
    go_ret
    exact ⟨rfl, HS1.out⟩
  · by_cases h1 : 2147483647 < op.size
    · have y1 : (2147483647 : Int) < (op.size : Int) := by omega
      go_wp2_with fail
      go_ret
      exact ⟨rfl, HS1.out⟩
    · have y1 : ¬ ((2147483647 : Int) < (op.size : Int)) := by omega
      go_wp2_with fail
      refine (documentRight_nil a cap w1).mono ?_
      rintro e w2 ⟨rfl, hw2⟩
      subst w2
      go_wp2_with fail
      go_ret
      exact ⟨rfl, HS1.out⟩
theorem last_mem {ms : List Nat} {k : Nat} (h : ms.getLast? = some k) : lastI ms = (k : Int) := by unfold lastI; rw [h]
theorem one_ne {ms : List Nat} (h : ms.length = 1) : ms ≠ [] := by intro e; rw [e] at h; cases h
set_option maxHeartbeats 4000000 in
theorem law_any (l : List Nd) (b o cap : Nat) (op : ByteArray) (w : World) (hd : DocAt w b o l) (hw : Wf l) (hl : 0 < l.length) : Calls Tryz.prog 3 #[.slice (some ⟨b, o, none⟩) l.length cap, .string op] w (TrueB w) := by
  have HD : Hid (DocAt w b o l) := hd
  have HW : Hid (Wf l) := hw
  have HL : Hid (0 < l.length) := hl
  have HF : Hid (Calls Tryz.prog 4 #[.slice (some ⟨b, o, none⟩) l.length cap] w (FitPost l w)) := zzFits2_any l b o cap w hd hl
  clear hd hw hl
  go_enter Tryz.func3, Tryz.ntmps3
  go_wp2_with fail
  refine HF.out.mono ?_
  rintro e w1 ⟨b1, rfl, hs1, hfit⟩
  have HS1 : Hid (Sm [] w w1) := hs1
  have HFT : Hid (b1 = true → Fits l) := hfit
  clear hs1 hfit HF
  cases b1
  · go_wp2_with fail
    go_ret
    exact ⟨rfl, HS1.out⟩
  · have HFI : Hid (Fits l) := HFT.out rfl
    have HD1 : Hid (DocAt w1 b o l) := HD.out.sm0 HS1.out
    clear HFT
    by_cases h1 : 2147483647 < op.size
    · have y1 : (2147483647 : Int) < (op.size : Int) := by omega
      go_wp2_with fail
      go_ret
      exact ⟨rfl, HS1.out⟩
    · have y1 : ¬ ((2147483647 : Int) < (op.size : Int)) := by omega
      have HOS : Hid (op.size ≤ 2147483647) := by unfold Hid; omega
      go_wp2_with fail
      refine (documentRight_any l b o cap w1 HD1.out HFI.out HW.out HL.out).mono ?_
      rintro e w2 ⟨b2, rfl, hs2, hr⟩
      have HS2 : Hid (Sm [] w w2) := HS1.out.trans hs2
      have HRR : Hid (b2 = true → Right l) := hr
      clear hs2 hr
      cases b2
      · go_wp2_with fail
        go_ret
        exact ⟨rfl, HS2.out⟩
      · have HR : Hid (Right l) := HRR.out rfl
        have HD2 : Hid (DocAt w2 b o l) := HD.out.sm0 HS2.out
        clear HRR
        by_cases h3 : 30 < op.size
        · have y3 : (30 : Int) < (op.size : Int) := by omega
          go_wp2_with fail
          go_ret
          exact ⟨rfl, HS2.out⟩
        · have y3 : ¬ ((30 : Int) < (op.size : Int)) := by omega
          clear h1 h3
          go_wp2_with fail
          refine (operationAt_any l op b o cap w2 HD2.out HR.out HOS.out).mono ?_
          rintro e w3 ⟨hs3, hcase⟩
          have HS3 : Hid (Sm [] w w3) := HS2.out.trans hs3
          have HD3 : Hid (DocAt w3 b o l) := HD.out.sm0 HS3.out
          have HI : Hid (Calls Tryz.prog 7 #[.slice (some ⟨b, o, none⟩) l.length cap, .string op] w3 (OpPost l op (opsOf l op) w3)) := implOperationOf_any l op b o cap w3 HD3.out HR.out HFI.out HOS.out
          generalize opsOf l op = ms at *
          clear hs3 HD HD1 HD2 HD3
          rcases hcase with ⟨h1, rfl⟩ | ⟨h1, h2, rfl⟩ | ⟨h1, h2, rfl⟩
          · have H1 : Hid (ms.length = 1) := h1
            clear h1
            go_wp2_with fail
            refine HI.out.mono ?_
            rintro e w4 ⟨hs4, ⟨k, hk, _, rfl⟩ | ⟨rfl, hno⟩⟩
            · have HS4 : Hid (Sm [] w w4) := HS3.out.trans hs4
              rw [last_mem hk]
              clear hs4 hk
              go_wp2_with fail
              go_ret
              exact ⟨rfl, HS4.out⟩
            · exfalso
              have h1 := H1.out
              rcases hno with hno | ⟨_, hno⟩
              · exact one_ne h1 hno
              · omega
          · go_wp2_with fail
            go_ret
            exact ⟨rfl, HS3.out⟩
          · have H1 : Hid (ms.length ≠ 1) := h1
            have H2 : Hid (op = ByteArray.empty ∨ ms.length = 0) := h2
            clear h1 h2
            go_wp2_with fail
            refine HI.out.mono ?_
            rintro e w4 ⟨hs4, ⟨k, hk, ho, rfl⟩ | ⟨rfl, hno⟩⟩
            · exfalso
              have h1 := H1.out
              have hne : ms ≠ [] := by intro e; rw [e] at hk; cases hk
              have hpos : 0 < ms.length := List.length_pos_iff.2 hne
              rcases H2.out with h2 | h2
              · have := ho h2; omega
              · omega
            · have HS4 : Hid (Sm [] w w4) := HS3.out.trans hs4
              clear hs4 hno
              go_wp2_with fail
              go_ret
              exact ⟨rfl, HS4.out⟩

end

section
open Go.ChangeShapes Go.WideShapes Go.Deep

section
variable {H : Type} {enc : TypeId × Value → H} {P : Program} {w : World} {base : Nat} {spare : Nat → Bool} {held : Bool}
theorem open_nodes {t e : TypeId} {fs : Array Field} {fuel : Nat} {cs : List Value} {x : DataW H × List MemPlace} (ht : P.underlying t = some (.slice e)) (he : P.underlying e = some (.struct fs))
    (hone : oneCellFields P fs = true) (hC : P.cellsOf e = fs.size) (h : DataW.trod enc P w base spare held fuel t cs = some x) :
    cs = [.slice none 0 0] ∨ ∃ (a : Addr) (len cap : Nat), cs = [.slice (some a) len cap] ∧
      ∀ i, i < len → ∃ n : Nat, ∀ (j : Nat) (f : Field), fs[j]? = some f → ∃ (v : Value) (y : DataW H × List MemPlace), w.cell? (a.add (i * fs.size + j)) = some v ∧ DataW.trod enc P w base spare held n f.type [v] = some y := by
  rcases open_slice ht h with h0 | ⟨a, len, cap, m, n, D, Pl, hcs, hb, hl, hm, hmm, hx, hi⟩
  · exact .inl h0.1
  · refine .inr ⟨a, len, cap, hcs, fun i him => ?_⟩
    have him2 : i < m := by rw [hmm]; split <;> omega
    obtain ⟨cs', hc, ht'⟩ := hi i him2
    rw [hC] at hc
    obtain ⟨ys, n', hn', hy, hlen, hyl, hf⟩ := DataW.trod_struct he ht'
    obtain ⟨_, hcl, hat⟩ := World.cells?_some hc
    refine ⟨n', fun j f hj => ?_⟩
    obtain ⟨ho, hk⟩ := hone_of hone j f hj
    have hjl : j < fs.size := (Array.getElem?_eq_some_iff.1 hj).1
    have hcell := hat j hjl
    have hv : cs'[j]? = some (cs'[j]'(by omega)) := List.getElem?_eq_getElem (by omega)
    have h1 := hf j f hj
    rw [ho, hk] at h1
    have hone' : (cs'.drop j).take 1 = [cs'[j]'(by omega)] := by
      rw [List.drop_eq_getElem_cons (by omega)]
      rfl
    rw [hone'] at h1
    have hys : ys[j]? = some (ys[j]'(by omega)) := List.getElem?_eq_getElem (by omega)
    refine ⟨_, _, ?_, h1.trans hys⟩
    rw [← Go.Deep.add_add, hcell, hv]
end

theorem int_in {n : Int} (h : (Lit.int .i64 n).wf = true) : -9223372036854775808 ≤ n ∧ n ≤ 9223372036854775807 := (Lit.wf_int_iff .i64 n).1 h
theorem doc_in {H : Type} {enc : TypeId × Value → H} {W : World} {base : Nat} {spare : Nat → Bool} {held : Bool} {fuel : Nat} {cs : List Value} {x : DataW H × List MemPlace}
    (h : DataW.trod enc Tryz.prog W base spare held fuel 22 cs = some x) :
    (∃ a cap, cs = [.slice a 0 cap]) ∨ ∃ (b o cap : Nat) (l : List Nd), cs = [.slice (some ⟨b, o, none⟩) l.length cap] ∧ 0 < l.length ∧ DocAt W b o l ∧ Wf l := by
  rcases open_nodes Tryz.underlying22 Tryz.underlying31 (by kernel_rfl) (by kernel_rfl) h with h0 | ⟨a, len, cap, hcs, hel⟩
  · exact .inl ⟨_, _, h0⟩
  · by_cases hl : len = 0
    · subst hl
      exact .inl ⟨_, _, hcs⟩
    · right
      obtain ⟨b, off, spot⟩ := a
      have hspot : spot = none := by
        obtain ⟨n, hf⟩ := hel 0 (by omega)
        obtain ⟨v, y, hc, _⟩ := hf 0 _ rfl
        simpa [Addr.add] using World.cell?_spot hc
      subst hspot
      have ha : ∀ n, (⟨b, off, none⟩ : Addr).add n = ⟨b, off + n, none⟩ := fun n => by unfold Addr.add; split <;> simp_all
      have hall : ∀ i : Nat, ∃ n : Nd, i < len → NodeAt W b (off + i * 6) n ∧ -9223372036854775808 ≤ n.kind ∧ n.kind ≤ 9223372036854775807 ∧ -9223372036854775808 ≤ n.size ∧ n.size ≤ 9223372036854775807 ∧ -9223372036854775808 ≤ n.flag ∧ n.flag ≤ 9223372036854775807 := by
        intro i
        by_cases hi : i < len
        · obtain ⟨n, hf⟩ := hel i hi
          obtain ⟨v0, y0, c0, t0⟩ := hf 0 _ rfl
          obtain ⟨v1, y1, c1, t1⟩ := hf 1 _ rfl
          obtain ⟨v2, y2, c2, t2⟩ := hf 2 _ rfl
          obtain ⟨v3, y3, c3, t3⟩ := hf 3 _ rfl
          obtain ⟨v4, y4, c4, t4⟩ := hf 4 _ rfl
          obtain ⟨v5, y5, c5, t5⟩ := hf 5 _ rfl
          obtain ⟨z0, e0, _, g0⟩ := DataW.trod_int Tryz.underlying3 t0
          obtain ⟨z1, e1, _, g1⟩ := DataW.trod_string Tryz.underlying9 t1
          obtain ⟨z2, e2, _, g2⟩ := DataW.trod_string Tryz.underlying9 t2
          obtain ⟨z3, e3, _, g3⟩ := DataW.trod_string Tryz.underlying9 t3
          obtain ⟨z4, e4, _, g4⟩ := DataW.trod_int Tryz.underlying3 t4
          obtain ⟨z5, e5, _, g5⟩ := DataW.trod_int Tryz.underlying3 t5
          simp only [List.cons.injEq, and_true] at e0 e1 e2 e3 e4 e5
          subst e0 e1 e2 e3 e4 e5
          rw [ha] at c0 c1 c2 c3 c4 c5
          have w0 := int_in g0
          have w4 := int_in g4
          have w5 := int_in g5
          refine ⟨⟨z0, z1, z2, z3, z4, z5⟩, fun _ => ⟨⟨c0, ?_, ?_, ?_, ?_, ?_⟩, w0.1, w0.2, w5.1, w5.2, w4.1, w4.2⟩⟩
          · rw [Nat.add_assoc]; exact c1
          · rw [Nat.add_assoc]; exact c2
          · rw [Nat.add_assoc]; exact c3
          · rw [Nat.add_assoc]; exact c4
          · rw [Nat.add_assoc]; exact c5
        · exact ⟨⟨0, ByteArray.empty, ByteArray.empty, ByteArray.empty, 0, 0⟩, fun h => absurd h hi⟩
      obtain ⟨f, hf⟩ := Classical.axiomOfChoice hall
      refine ⟨b, off, cap, (List.range len).map f, by simpa using hcs, by simp; omega, fun i hi => ?_, fun i hi => ?_⟩
      · have hi2 : i < len := by simpa using hi
        have := (hf i hi2).1
        simpa using this
      · have hi2 : i < len := by simpa using hi
        have := (hf i hi2).2
        simpa using this

end

end Go.Proofs.YtigpnidffiaigaaGreat
