/- Walks: the execution: the context. -/
import Derived.Test.YtigpnidffiaigaaGreatProg
import Derived.BigRegion
import Derived.Deep.RegionLaw
import Derived.Deep.QuietTactic
import Derived.BigQuiet
import Derived.Maps.Own
import Derived.Test.YtigpnidffiaigaaGreatQ50
set_option linter.unusedVariables false
set_option linter.unusedSimpArgs false
namespace Go.Proofs.YtigpnidffiaigaaGreat

section
open Go.RowKit
attribute [local go_sem ↓] Go.wp_at_zero Go.wp_at_succ

theorem ta_op (W : World) (q : Nat) : (Instr.typeAssert (.iface 45 (.pointer (some ⟨q, 0, none⟩))) 44 45 true).run Tryz.prog W = .ok (.tuple #[.pointer (some ⟨q, 0, none⟩), .bool true]) W := by kernel_rfl
theorem ta_fr (W : World) (q : Nat) : (Instr.typeAssert (.iface 97 (.pointer (some ⟨q, 0, none⟩))) 44 97 true).run Tryz.prog W = .ok (.tuple #[.pointer (some ⟨q, 0, none⟩), .bool true]) W := by kernel_rfl
theorem ta_no (W : World) (q : Nat) : (Instr.typeAssert (.iface 97 (.pointer (some ⟨q, 0, none⟩))) 44 45 true).run Tryz.prog W = .ok (.tuple #[.pointer none, .bool false]) W := by kernel_rfl
/-- the empty schema, and what the context is made of -/
def zSch : Value := .agg #[.map none, .slice none 0 0, .pointer none, .pointer none, .pointer none, .map none, .map none, .pointer none]
def zPar (d : Nat) (op : ByteArray) : Value := .agg #[.map none, .slice none 0 0, .pointer none, .pointer none, .pointer none, .map none, .map none, .pointer none, .nilIface, .pointer (some ⟨d, 0, none⟩), .string op, .map none, .pointer none]
/-- the call's own map -/
def OwnM (w : World) (mb n : Nat) : Prop := ∃ D, w.ownsMap (H := Unit) Tryz.prog 9 (fun _ => some (.map [], [])) mb n D
/-- the operations among the first j -/
noncomputable def opsJ (l : List Nd) (op : ByteArray) (ks : List Nat) (j : Nat) : List Nat := ((ks.take j).filter fun k => decide (kd l k = 2)).filter (asked l op)
theorem opsJ_all (l : List Nd) (op : ByteArray) : opsJ l op (kids l 0) (kids l 0).length = opsOf l op := by unfold opsJ opsOf; rw [List.take_length]
theorem take_snoc (ks : List Nat) {j : Nat} (h : j < ks.length) : ks.take (j + 1) = ks.take j ++ [ks.getD j 0] := by
  rw [List.take_add_one, List.getD_eq_getElem?_getD, List.getElem?_eq_getElem h]; rfl
theorem opsJ_no {l : List Nd} {op : ByteArray} {ks : List Nat} {j : Nat} (h : j < ks.length) (hn : kd l (ks.getD j 0) ≠ 2 ∨ asked l op (ks.getD j 0) = false) : opsJ l op ks (j + 1) = opsJ l op ks j := by
  unfold opsJ
  rw [take_snoc ks h, List.filter_append, List.filter_append]
  generalize ks.getD j 0 = k at *
  by_cases hk : kd l k = 2
  · rcases hn with hn | hn
    · exact absurd hk hn
    · simp [hk, hn]
  · simp [hk]
theorem opsJ_yes {l : List Nd} {op : ByteArray} {ks : List Nat} {j : Nat} (h : j < ks.length) (hk : kd l (ks.getD j 0) = 2) (hn : asked l op (ks.getD j 0) = true) : opsJ l op ks (j + 1) = opsJ l op ks j ++ [ks.getD j 0] := by
  unfold opsJ
  rw [take_snoc ks h, List.filter_append, List.filter_append]
  generalize ks.getD j 0 = k at *
  simp [hk, hn]
theorem opsJ_le {l : List Nd} {op : ByteArray} {ks : List Nat} {i j : Nat} (h : i ≤ j) : (opsJ l op ks i).length ≤ (opsJ l op ks j).length := by
  unfold opsJ
  have e : ks.take i = (ks.take j).take i := by rw [List.take_take, Nat.min_eq_left h]
  have h1 : (ks.take i).Sublist (ks.take j) := by rw [e]; exact List.take_sublist _ _
  exact ((h1.filter _).filter _).length_le

/-- the operation that is chosen so far -/
def Sel (l : List Nd) (op : ByteArray) (ms : List Nat) (w : World) (v : Value) : Prop :=
  (ms = [] ∧ v = .pointer none) ∨ ∃ q k : Nat, ms.getLast? = some k ∧ v = .pointer (some ⟨q, 0, none⟩) ∧ OpAt w l k q true
def EcRel (l : List Nd) (op : ByteArray) (ks : List Nat) (w w1 : World) (v u : Value) (wr : World) : Prop :=
  ∃ j : Nat, j ≤ ks.length ∧ u = .int .i64 (j : Int) ∧ Sm [] w wr ∧ Sm [w.heap.size + 1 + 1] w1 wr ∧ OwnM wr (w.heap.size + 1 + 1) j ∧ Sel l op (opsJ l op ks j) w v ∧ (op = ByteArray.empty → (opsJ l op ks j).length ≤ 1)
def EcPost (l : List Nd) (op : ByteArray) (ms : List Nat) (w : World) (e : Ending) (w' : World) : Prop :=
  Sm [] w w' ∧ ((∃ q k cx : Nat, ms.getLast? = some k ∧ (op = ByteArray.empty → ms.length ≤ 1) ∧ e = .returned (.tuple #[.pointer (some ⟨cx, 0, none⟩), .nilIface]) ∧ w'.cell? ⟨cx, 10, none⟩ = some (.iface 45 (.pointer (some ⟨q, 0, none⟩))) ∧ OpAt w l k q true) ∨
    (∃ t v, e = .returned (.tuple #[.pointer none, .iface t v]) ∧ (ms = [] ∨ (op = ByteArray.empty ∧ 2 ≤ ms.length))))

def parO (d : Nat) (op : ByteArray) : Obj := .cells #[.map none, .slice none 0 0, .pointer none, .pointer none, .pointer none, .map none, .map none, .pointer none, .nilIface, .pointer (some ⟨d, 0, none⟩), .string op, .map none, .pointer none] 82 (0, 0)
def ctxO : Obj := .cells #[.map none, .slice none 0 0, .pointer none, .pointer none, .pointer none, .map none, .map none, .pointer none, .map none, .nilIface, .nilIface, .map none, .slice none 0 0] 86 (0, 0)
def w3 (w : World) (d : Nat) (op : ByteArray) : World := ((w.alloc (parO d op)).alloc ctxO).alloc (.map #[] 0)
theorem w3_sm (w : World) (d : Nat) (op : ByteArray) : Sm [] w (w3 w d op) := ((sm_allc _ _).trans (sm_allc _ _)).trans (sm_allc _ _)
theorem w3_size (w : World) (d : Nat) (op : ByteArray) : (w3 w d op).heap.size = w.heap.size + 3 := by simp [w3]
theorem w3_par (w : World) (d : Nat) (op : ByteArray) : (w3 w d op).heap[w.heap.size]? = some (parO d op) := (sm_allc _ _).obj ((sm_allc _ _).obj (obj_alloc w (parO d op)) (by simp)) (by simp)
theorem w3_ctx (w : World) (d : Nat) (op : ByteArray) : (w3 w d op).heap[w.heap.size + 1]? = some ctxO := (sm_allc _ _).obj (by have := obj_alloc (w.alloc (parO d op)) ctxO; simpa using this) (by simp)
theorem par_at {w wr : World} {d : Nat} {op : ByteArray} (h : Sm [w.heap.size + 1 + 1] (w3 w d op) wr) : wr.heap[w.heap.size]? = some (parO d op) := h.obj (w3_par w d op) (by simp; omega)
theorem ctx_at {w wr : World} {d : Nat} {op : ByteArray} (h : Sm [w.heap.size + 1 + 1] (w3 w d op) wr) : wr.heap[w.heap.size + 1]? = some ctxO := h.obj (w3_ctx w d op) (by simp)
theorem ecRel_start (l : List Nd) (op : ByteArray) (ks : List Nat) (w : World) (d : Nat) : EcRel l op ks w (w3 w d op) (.pointer none) (.int .i64 0) (w3 w d op) :=
  ⟨0, Nat.zero_le _, rfl, w3_sm w d op, Sm.refl _ _, ⟨_, by have := World.ownsMap_made (H := Unit) ((w.alloc (parO d op)).alloc ctxO) Tryz.prog 9 (fun _ => some (.map [], [])); simpa [w3] using this⟩, .inl ⟨rfl, rfl⟩, fun _ => by simp [opsJ]⟩
theorem sel_yes {l : List Nd} {op : ByteArray} {ks : List Nat} {j q : Nat} {w : World} (h : j < ks.length) (hk : kd l (ks.getD j 0) = 2) (hn : asked l op (ks.getD j 0) = true) (ho : OpAt w l (ks.getD j 0) q true) : Sel l op (opsJ l op ks (j + 1)) w (.pointer (some ⟨q, 0, none⟩)) :=
  .inr ⟨q, ks.getD j 0, by rw [opsJ_yes h hk hn]; simp, rfl, ho⟩
theorem sel_no {l : List Nd} {op : ByteArray} {ks : List Nat} {j : Nat} {w : World} {v : Value} (h : j < ks.length) (hn : kd l (ks.getD j 0) ≠ 2 ∨ asked l op (ks.getD j 0) = false) (ho : Sel l op (opsJ l op ks j) w v) : Sel l op (opsJ l op ks (j + 1)) w v := by
  rw [opsJ_no h hn]; exact ho
theorem ownM_drewN {w : World} {mb n m k : Nat} (h : OwnM w mb n) (hm : n ≤ m) : OwnM (w.drewN k) mb m := by
  obtain ⟨D, h⟩ := h
  exact ⟨D, (h.kept (row := none) ⟨rfl, rfl, rfl, Nat.le_refl _, fun _ _ _ => rfl⟩ (by simp)).mono hm⟩
theorem ecRel_next {l : List Nd} {op : ByteArray} {ks : List Nat} {w w1 wr : World} {j nq : Nat} {v u : Value} (h : j < ks.length) (hu : u = .int .i64 ((j : Int) + 1)) (hs : Sm [] w wr) (hs1 : Sm [w.heap.size + 1 + 1] w1 wr) (ho : OwnM wr (w.heap.size + 1 + 1) j)
    (hsel : Sel l op (opsJ l op ks (j + 1)) w v) (hone : op = ByteArray.empty → (opsJ l op ks (j + 1)).length ≤ 1) : EcRel l op ks w w1 v u (wr.drewN nq) :=
  ⟨j + 1, h, by rw [hu]; push_cast; rfl, hs.drewN _, hs1.drewN _, ownM_drewN ho (by omega), hsel, hone⟩
theorem ecRel_map {l : List Nd} {op : ByteArray} {ks : List Nat} {w w1 wr w9 : World} {j : Nat} {v u : Value} (h : j < ks.length) (hu : u = .int .i64 ((j : Int) + 1)) (hs : Sm [] w wr) (hs1 : Sm [w.heap.size + 1 + 1] w1 wr) (ho : OwnM w9 (w.heap.size + 1 + 1) (j + 1)) (hg : wr.grownBy w9 (some (w.heap.size + 1 + 1)))
    (hsel : Sel l op (opsJ l op ks (j + 1)) w v) (hone : op = ByteArray.empty → (opsJ l op ks (j + 1)).length ≤ 1) : EcRel l op ks w w1 v u w9 :=
  ⟨j + 1, h, by rw [hu]; push_cast; rfl, hs.grown hg (fun b e => by cases e; exact .inl (by omega)), hs1.grown hg (fun b e => by cases e; exact .inr (by simp)), ho, hsel, hone⟩
theorem ec_two {l : List Nd} {op : ByteArray} {ks ms : List Nat} {w w' : World} {j k0 : Nat} {t : TypeId} {v : Value} (h : j < ks.length) (hall : opsJ l op ks ks.length = ms) (hk : kd l (ks.getD j 0) = 2) (hn : asked l op (ks.getD j 0) = true) (hl : (opsJ l op ks j).getLast? = some k0) (he : op = ByteArray.empty) (hs : Sm [] w w') :
    EcPost l op ms w (.returned (.tuple #[.pointer none, .iface t v])) w' := by
  refine ⟨hs, .inr ⟨t, v, rfl, .inr ⟨he, ?_⟩⟩⟩
  have h1 := opsJ_le (l := l) (op := op) (ks := ks) (i := j + 1) (j := ks.length) h
  rw [hall, opsJ_yes h hk hn] at h1
  have h2 : opsJ l op ks j ≠ [] := by intro e; rw [e] at hl; cases hl
  have h3 : 0 < (opsJ l op ks j).length := List.length_pos_iff.2 h2
  simp at h1
  omega
theorem ec_done {l : List Nd} {op : ByteArray} {ms : List Nat} {w w2 : World} {k0 q0 : Nat} {m8 m11 : Value} (hT : Sm [] w w2) (hc : w2.heap[w.heap.size + 1]? = some ctxO) (hl : ms.getLast? = some k0) (ho : op = ByteArray.empty → ms.length ≤ 1) (hoa : OpAt w l k0 q0 true) :
    EcPost l op ms w (.returned (.tuple #[.pointer (some ⟨w.heap.size + 1, 0, none⟩), .nilIface])) ((((((((((((w2.setCell ⟨w.heap.size + 1, 0, none⟩ (.map none)).setCell ⟨w.heap.size + 1, 1, none⟩ (.slice none 0 0)).setCell ⟨w.heap.size + 1, 2, none⟩ (.pointer none)).setCell ⟨w.heap.size + 1, 3, none⟩ (.pointer none)).setCell ⟨w.heap.size + 1, 4, none⟩ (.pointer none)).setCell ⟨w.heap.size + 1, 5, none⟩ (.map none)).setCell ⟨w.heap.size + 1, 6, none⟩ (.map none)).setCell ⟨w.heap.size + 1, 7, none⟩ (.pointer none)).setCell ⟨w.heap.size + 1, 8, none⟩ (m8)).setCell ⟨w.heap.size + 1, 9, none⟩ (.nilIface)).setCell ⟨w.heap.size + 1, 10, none⟩ (.iface 45 (.pointer (some ⟨q0, 0, none⟩)))).setCell ⟨w.heap.size + 1, 11, none⟩ (m11)) := by
  unfold ctxO at hc
  have h0 := obj_setCell hc 0 (.map none)
  have h1 := obj_setCell h0 1 (.slice none 0 0)
  have h2 := obj_setCell h1 2 (.pointer none)
  have h3 := obj_setCell h2 3 (.pointer none)
  have h4 := obj_setCell h3 4 (.pointer none)
  have h5 := obj_setCell h4 5 (.map none)
  have h6 := obj_setCell h5 6 (.map none)
  have h7 := obj_setCell h6 7 (.pointer none)
  have h8 := obj_setCell h7 8 (m8)
  have h9 := obj_setCell h8 9 (.nilIface)
  have h10 := obj_setCell h9 10 (.iface 45 (.pointer (some ⟨q0, 0, none⟩)))
  have h11 := obj_setCell h10 11 (m11)
  exact ⟨((((((((((((hT.setCell (.inl (by show w.heap.size ≤ w.heap.size + 1; omega)) _).setCell (.inl (by show w.heap.size ≤ w.heap.size + 1; omega)) _).setCell (.inl (by show w.heap.size ≤ w.heap.size + 1; omega)) _).setCell (.inl (by show w.heap.size ≤ w.heap.size + 1; omega)) _).setCell (.inl (by show w.heap.size ≤ w.heap.size + 1; omega)) _).setCell (.inl (by show w.heap.size ≤ w.heap.size + 1; omega)) _).setCell (.inl (by show w.heap.size ≤ w.heap.size + 1; omega)) _).setCell (.inl (by show w.heap.size ≤ w.heap.size + 1; omega)) _).setCell (.inl (by show w.heap.size ≤ w.heap.size + 1; omega)) _).setCell (.inl (by show w.heap.size ≤ w.heap.size + 1; omega)) _).setCell (.inl (by show w.heap.size ≤ w.heap.size + 1; omega)) _).setCell (.inl (by show w.heap.size ≤ w.heap.size + 1; omega)) _), .inl ⟨q0, k0, w.heap.size + 1, hl, ho, rfl, cell_of h11 rfl, hoa⟩⟩
set_option maxRecDepth 100000 in
set_option maxHeartbeats 8000000 in
theorem ec_any (l : List Nd) (op : ByteArray) (d : Nat) (w : World) (hv : DocV w l (kids l 0) d (fun _ => true)) (hop : op.size ≤ 2147483647) (hkl : (kids l 0).length ≤ 400) (hfr : ∀ k, k ∈ kids l 0 → kd l k = 3 → nm l k ≠ ByteArray.empty) (hnm : ∀ k, k ∈ kids l 0 → (nm l k).size ≤ 2147483647) :
    Calls Tryz.prog 16 #[zPar d op] w (EcPost l op (opsOf l op) w) := by
  obtain ⟨s1, lo, a, c, vs, hobj, hc1, hc2, hvs, hcell, hal, hdef⟩ := hv
  have HALL : Hid (opsJ l op (kids l 0) (kids l 0).length = opsOf l op) := opsJ_all l op
  generalize opsOf l op = ms at *
  generalize kids l 0 = ks at *
  have HFR : Hid (∀ k, k ∈ ks → kd l k = 3 → nm l k ≠ ByteArray.empty) := hfr
  have HNM : Hid (∀ k, k ∈ ks → (nm l k).size ≤ 2147483647) := hnm
  have HCELL : Hid (∀ j, j < ks.length → ∃ g, a = some ⟨g, 0, none⟩ ∧ w.cell? ⟨g, j, none⟩ = some (vs.getD j .nilIface)) := hcell
  have HDEF : Hid (∀ j, j < ks.length → DefAt w l (ks.getD j 0) (vs.getD j .nilIface) true) := hdef
  have HOBJ : Hid (w.heap[d]? = some (.cells #[.string s1, .pointer lo, .slice a ks.length c] 42 (0, 0))) := hobj
  have d2 : w.cell? ⟨d, 2, none⟩ = some (.slice a ks.length c) := cell_of hobj rfl
  have d2a := fun o => (sm_allc w o).keeps d2 (by simp)
  have d2b := fun o o' => (sm_allc (w.alloc o) o').keeps (d2a o) (by simp)
  have d2c := fun o o' o'' => (sm_allc ((w.alloc o).alloc o') o'').keeps (d2b o o') (by simp)
  clear hfr hnm hcell hdef hobj hal
  have hmm := @run_makeMap Tryz.prog
  have hta1 := ta_op
  have hta2 := ta_fr
  have hta3 := ta_no
  unfold zPar
  go_enter Tryz.func16, Tryz.ntmps16
  go_wp2_with fail
  go_loopw [5, 8, 9, 10, 11, 12, 24] (fun v _ _ _ _ _ u wr => EcRel l op ks w (w3 w d op) v u wr) (fun _ _ _ _ _ _ u _ => ks.length - (intOf u).toNat)
  case atStart => exact ecRel_start l op ks w d
  case round =>
    unfold EcRel at hrel
    obtain ⟨j, hj, rfl, hs, hs1, ⟨D, hown⟩, hsel, hone⟩ := hrel
    have HS : Hid (Sm [] w wr) := hs
    have HS1 : Hid (Sm [w.heap.size + 1 + 1] (w3 w d op) wr) := hs1
    have HOWN : Hid (World.ownsMap wr (H := Unit) Tryz.prog 9 (fun _ => some (.map [], [])) (w.heap.size + 1 + 1) j D) := hown
    have HONE : Hid (op = ByteArray.empty → (opsJ l op ks j).length ≤ 1) := hone
    have hpar := par_at hs1
    have p9 : wr.cell? ⟨w.heap.size, 9, none⟩ = some (.pointer (some ⟨d, 0, none⟩)) := cell_of hpar rfl
    have p10 : wr.cell? ⟨w.heap.size, 10, none⟩ = some (.string op) := cell_of hpar rfl
    have y1 : (0 : Int) ≤ (j : Int) := by omega
    clear hown hs hs1 hone
    by_cases hlt : j < ks.length
    · have y2 : (j : Int) < (ks.length : Int) := by omega
      obtain ⟨g, rfl, hg0⟩ := HCELL.out j hlt
      have hg := HS.out.keeps hg0 (by simp)
      have hmem := getD_memN hlt
      rcases HDEF.out j hlt with ⟨hk2, q, hvq, hoa⟩ | ⟨hk3, q, hvq, hfa⟩
      · rw [hvq] at hg hg0
        have HK2 : Hid (kd l (ks.getD j 0) = 2) := hk2
        have HOA : Hid (OpAt w l (ks.getD j 0) q true) := hoa
        obtain ⟨t1, t2, tl, na, va, da, vn, vc, dn, dc, sq, ho1, ho2, ho3, ho4⟩ := hoa
        have q3 : wr.cell? ⟨q, 3, none⟩ = some (.pointer na) := cell_of (HS.out.obj ho1 (by simp)) rfl
        have HNV : Hid (NameV w (.pointer na) (nm l (ks.getD j 0))) := ho2
        clear ho1 ho2 ho3 ho4 hvq hk2
        by_cases h0 : op = ByteArray.empty
        · have HAS : Hid (asked l op (ks.getD j 0) = true) := by unfold Hid asked; exact decide_eq_true (.inl h0)
          obtain rfl : op = ⟨#[]⟩ := h0
          rcases hsel with ⟨hm0, rfl⟩ | ⟨q0, k0, hl0, rfl, _⟩
          · have HSEL : Hid (Sel l ⟨#[]⟩ (opsJ l ⟨#[]⟩ ks (j + 1)) w (.pointer (some ⟨q, 0, none⟩))) := sel_yes hlt HK2.out HAS.out HOA.out
            have HONE1 : Hid ((⟨#[]⟩ : ByteArray) = ByteArray.empty → (opsJ l ⟨#[]⟩ ks (j + 1)).length ≤ 1) := fun _ => by rw [opsJ_yes hlt HK2.out HAS.out, hm0]; simp
            clear hm0
            go_upto_region 14 with fail
            go_quiet (fail)
            go_wp2_with fail
            go_roundw
            case rel => exact ecRel_next hlt (by go_num) HS.out HS1.out ⟨D, HOWN.out⟩ HSEL.out HONE1.out
            case measure => simp [intOf]; omega
          · have HL0 : Hid ((opsJ l ⟨#[]⟩ ks j).getLast? = some k0) := hl0
            clear hl0
            go_wp2_with fail
            refine (errorsNew_any _ _).mono ?_
            rintro e w2 ⟨t9, v9, rfl, hs9⟩
            have HP : Hid (EcPost l ⟨#[]⟩ ms w (.returned (.tuple #[.pointer none, .iface t9 v9])) w2) := ec_two hlt HALL.out HK2.out HAS.out HL0.out rfl (HS.out.trans hs9)
            clear hs9
            go_wp2_with fail
            go_ret2
            exact HP.out
        · have HE : Hid (op ≠ ByteArray.empty) := h0
          have HSEL0 : Hid (Sel l op (opsJ l op ks j) w _) := hsel
          have HONE1 : Hid (∀ P : Prop, op = ByteArray.empty → P) := fun P h => absurd h h0
          have e0 : ¬ op.toList = [] := ne_list h0
          have e0b : op.toList.isEmpty = false := by simpa using e0
          have e0c : decide (op.toList = []) = false := by simpa using e0
          have hgn : ∀ n, Calls Tryz.prog 25 #[.pointer (some ⟨q, 0, none⟩)] (wr.drewN n) (fun e w' => e = .returned (.pointer na) ∧ w' = wr.drewN n) := fun n => getNameOp_any q na _ q3
          rcases HNV.out with ⟨hn0, hna⟩ | ⟨hn0, nb, kk, lo2, hna, hnb⟩
          · simp only [Value.pointer.injEq] at hna
            subst hna
            have HAS : Hid (asked l op (ks.getD j 0) = false) := by
              unfold Hid asked
              rw [hn0]
              exact decide_eq_false (by intro h; rcases h with h | h; exact h0 h; exact h0 h.symm)
            have HSEL : Hid (Sel l op (opsJ l op ks (j + 1)) w _) := sel_no hlt (.inr HAS.out) hsel
            clear h0 hn0 hsel
            go_upto_region 14 with fail
            go_quiet ((go_at_call 25; exact Calls.quiet_of_same (hgn _)))
            go_wp2_with fail
            go_roundw
            case rel => exact ecRel_next hlt (by go_num) HS.out HS1.out ⟨D, HOWN.out⟩ HSEL.out (HONE1.out _)
            case measure => simp [intOf]; omega
          · simp only [Value.pointer.injEq] at hna
            subst hna
            have n2 : wr.cell? ⟨nb, 2, none⟩ = some (.string (nm l (ks.getD j 0))) := cell_of (HS.out.obj hnb (by simp)) rfl
            by_cases hq : nm l (ks.getD j 0) = op
            · have HAS : Hid (asked l op (ks.getD j 0) = true) := by unfold Hid asked; exact decide_eq_true (.inr hq)
              rw [hq] at n2
              have HSEL : Hid (Sel l op (opsJ l op ks (j + 1)) w (.pointer (some ⟨q, 0, none⟩))) := sel_yes hlt HK2.out HAS.out HOA.out
              clear h0 hn0 hsel hq hnb
              go_upto_region 14 with fail
              go_quiet ((go_at_call 25; exact Calls.quiet_of_same (hgn _)))
              go_wp2_with fail
              go_roundw
              case rel => exact ecRel_next hlt (by go_num) HS.out HS1.out ⟨D, HOWN.out⟩ HSEL.out (HONE1.out _)
              case measure => simp [intOf]; omega
            · have HAS : Hid (asked l op (ks.getD j 0) = false) := by
                unfold Hid asked
                exact decide_eq_false (by intro h; rcases h with h | h; exact h0 h; exact hq h)
              have HSEL : Hid (Sel l op (opsJ l op ks (j + 1)) w _) := sel_no hlt (.inr HAS.out) hsel
              have e1 : ((nm l (ks.getD j 0)).toList == op.toList) = false := by rw [beq_bytes]; first | exact decide_eq_false hq | exact beq_eq_false_iff_ne.2 hq
              have e2 : ¬ (nm l (ks.getD j 0)).toList = op.toList := by simpa using e1
              generalize nm l (ks.getD j 0) = nmk at *
              clear h0 hn0 hsel hq hnb
              go_upto_region 14 with fail
              go_quiet ((go_at_call 25; exact Calls.quiet_of_same (hgn _)))
              go_wp2_with fail
              go_roundw
              case rel => exact ecRel_next hlt (by go_num) HS.out HS1.out ⟨D, HOWN.out⟩ HSEL.out (HONE1.out _)
              case measure => simp [intOf]; omega
      · rw [hvq] at hg hg0
        have hn0 := HFR.out _ hmem hk3
        have hsz := HNM.out _ hmem
        have HSEL : Hid (Sel l op (opsJ l op ks (j + 1)) w _) := sel_no hlt (.inl (by rw [hk3]; decide)) hsel
        have HONE1 : Hid (op = ByteArray.empty → (opsJ l op ks (j + 1)).length ≤ 1) := by rw [opsJ_no hlt (.inl (by rw [hk3]; decide))]; exact HONE.out
        obtain ⟨fcs, na, hf1, hf2, hf3⟩ := hfa
        have q3 : wr.cell? ⟨q, 3, none⟩ = some (.pointer na) := cell_of (HS.out.obj hf1 (by simp)) hf2
        rcases hf3 with ⟨hx0, hna⟩ | ⟨_, nb, kk, lo2, hna, hnb⟩
        · exact absurd hx0 hn0
        · simp only [Value.pointer.injEq] at hna
          subst hna
          have n2 : wr.cell? ⟨nb, 2, none⟩ = some (.string (nm l (ks.getD j 0))) := cell_of (HS.out.obj hnb (by simp)) rfl
          generalize nm l (ks.getD j 0) = nmk at *
          have e0 : ¬ nmk.toList = [] := ne_list hn0
          have e0b : nmk.toList.isEmpty = false := by simpa using e0
          obtain ⟨kl, hkey⟩ : ∃ kl, keyOf Tryz.prog 9 (.string nmk) = some kl := ⟨_, Go.WideMaps.keyOf_string_mk Tryz.underlying9 (by unfold maxLen; omega)⟩
          clear hn0 hsel hnb hf1 hf2 hk3 hvq
          go_wp2_with fail
          refine (getNameFr_any q _ _ q3).mono ?_
          rintro e w2 ⟨rfl, hw2⟩
          subst w2
          go_wp2_with fail
          refine (getNameFr_any q _ _ q3).mono ?_
          rintro e w2 ⟨rfl, hw2⟩
          subst w2
          go_wp2_with fail
          refine (getNameFr_any q _ _ q3).mono ?_
          rintro e w2 ⟨rfl, hw2⟩
          subst w2
          go_wp2_with (first | (at_mapUpdate; refine wpList_mapUpdate_own _ rfl _ _ _ 83 rfl 9 _ (Go.Maps.string_keyed Tryz.underlying9) Tryz.underlying83 _ (w.heap.size + 1 + 1) j D rfl HOWN.out (by unfold maxLen; omega) _ _ kl rfl rfl hkey _ [] rfl ?_) | go_in)
          intro w9 hown9 hgr9
          have HN9 : Hid (∀ v u, u = Value.int .i64 ((j : Int) + 1) → Sel l op (opsJ l op ks (j + 1)) w v → EcRel l op ks w (w3 w d op) v u w9) := fun v u hu hsl => ecRel_map hlt hu HS.out HS1.out ⟨_, hown9⟩ hgr9 hsl HONE1.out
          clear hown9 hgr9 q3 n2 hg p9 p10
          go_wp2_with fail
          go_roundw
          case rel => exact HN9.out _ _ (by go_num) HSEL.out
          case measure => simp [intOf]; omega
    · have y2 : ¬ ((j : Int) < (ks.length : Int)) := by omega
      have hj2 : j = ks.length := by omega
      have HMS : Hid (opsJ l op ks j = ms) := by rw [hj2]; exact HALL.out
      clear HALL hj2
      rcases hsel with ⟨hm0, rfl⟩ | ⟨q0, k0, hl0, rfl, hoa⟩
      · have HM0 : Hid (ms = []) := by rw [← HMS.out]; exact hm0
        have HP : Hid (∀ w2 t v, Sm [] wr w2 → EcPost l op ms w (.returned (.tuple #[.pointer none, .iface t v])) w2) := fun w2 t v h => ⟨HS.out.trans h, .inr ⟨t, v, rfl, .inl HM0.out⟩⟩
        clear hm0
        by_cases h0 : op = ByteArray.empty
        · obtain rfl : op = ⟨#[]⟩ := h0
          go_wp2_with fail
          refine (errorsNew_any _ _).mono ?_
          rintro e w2 ⟨t9, v9, rfl, hs9⟩
          have HQ := HP.out _ t9 v9 hs9
          clear hs9
          go_wp2_with fail
          go_ret2
          exact HQ
        · have e0 : ¬ op.toList = [] := ne_list h0
          have e0b : op.toList.isEmpty = false := by simpa using e0
          clear h0
          go_wp2_with fail
          refine (errorsNew_any _ _).mono ?_
          rintro e w2 ⟨t9, v9, rfl, hs9⟩
          have HQ := HP.out _ t9 v9 hs9
          clear hs9
          go_wp2_with fail
          go_ret2
          exact HQ
      · have HL0 : Hid (ms.getLast? = some k0) := by rw [← HMS.out]; exact hl0
        have HONE2 : Hid (op = ByteArray.empty → ms.length ≤ 1) := by rw [← HMS.out]; exact HONE.out
        have HOA : Hid (OpAt w l k0 q0 true) := hoa
        obtain ⟨t1, t2, tl, na, va, da, vn, vc, dn, dc, sq, ho1, ho2, ho3, ho4⟩ := hoa
        obtain ⟨rfl, rfl, rfl⟩ := ho4 rfl
        have q4 : wr.cell? ⟨q0, 4, none⟩ = some (.slice none 0 0) := cell_of (HS.out.obj ho1 (by simp)) rfl
        clear ho1 ho2 ho3 ho4 hl0 HMS HOWN HCELL HDEF
        have pz0 : wr.cell? ⟨w.heap.size, 0, none⟩ = some (.map none) := cell_of hpar rfl
        have pz1 : wr.cell? ⟨w.heap.size, 1, none⟩ = some (.slice none 0 0) := cell_of hpar rfl
        have pz2 : wr.cell? ⟨w.heap.size, 2, none⟩ = some (.pointer none) := cell_of hpar rfl
        have pz3 : wr.cell? ⟨w.heap.size, 3, none⟩ = some (.pointer none) := cell_of hpar rfl
        have pz4 : wr.cell? ⟨w.heap.size, 4, none⟩ = some (.pointer none) := cell_of hpar rfl
        have pz5 : wr.cell? ⟨w.heap.size, 5, none⟩ = some (.map none) := cell_of hpar rfl
        have pz6 : wr.cell? ⟨w.heap.size, 6, none⟩ = some (.map none) := cell_of hpar rfl
        have pz7 : wr.cell? ⟨w.heap.size, 7, none⟩ = some (.pointer none) := cell_of hpar rfl
        have pz8 : wr.cell? ⟨w.heap.size, 8, none⟩ = some .nilIface := cell_of hpar rfl
        have pz11 : wr.cell? ⟨w.heap.size, 11, none⟩ = some (.map none) := cell_of hpar rfl
        have hctx := ctx_at HS1.out
        go_upto_region 27 with fail
        go_region_law (first
          | (go_simp; go_at_call 28; refine (getVars_any q0 none 0 0 _ (by exact q4)).mono ?_; rintro e w2 ⟨rfl, hw2⟩; subst w2)
          | (go_simp; go_at_call 27; refine (getVariableValues_nil _ _ _ _ _).mono ?_; rintro e w2 ⟨ma, rfl, hs2⟩))
        all_goals
          have hT2 : Sm [] wr w2 := ((Sm.refl [] wr).drew).trans hs2
          have hpar2 := hT2.obj hpar (by simp)
          have hctx2 := hT2.obj hctx (by simp)
          have HCX : Hid (w2.heap[w.heap.size + 1]? = some ctxO) := hctx2
          have HT2 : Hid (Sm [] w w2) := HS.out.trans hT2
          clear pz0 pz1 pz2 pz3 pz4 pz5 pz6 pz7 pz8 pz11 p9 p10 q4 hT2 hs2
          have pz0 : w2.cell? ⟨w.heap.size, 0, none⟩ = some (.map none) := cell_of hpar2 rfl
          have pz1 : w2.cell? ⟨w.heap.size, 1, none⟩ = some (.slice none 0 0) := cell_of hpar2 rfl
          have pz2 : w2.cell? ⟨w.heap.size, 2, none⟩ = some (.pointer none) := cell_of hpar2 rfl
          have pz3 : w2.cell? ⟨w.heap.size, 3, none⟩ = some (.pointer none) := cell_of hpar2 rfl
          have pz4 : w2.cell? ⟨w.heap.size, 4, none⟩ = some (.pointer none) := cell_of hpar2 rfl
          have pz5 : w2.cell? ⟨w.heap.size, 5, none⟩ = some (.map none) := cell_of hpar2 rfl
          have pz6 : w2.cell? ⟨w.heap.size, 6, none⟩ = some (.map none) := cell_of hpar2 rfl
          have pz7 : w2.cell? ⟨w.heap.size, 7, none⟩ = some (.pointer none) := cell_of hpar2 rfl
          have pz8 : w2.cell? ⟨w.heap.size, 8, none⟩ = some .nilIface := cell_of hpar2 rfl
          have pc0 : w2.cell? ⟨w.heap.size + 1, 0, none⟩ = some (.map none) := cell_of hctx2 rfl
          have pc1 : w2.cell? ⟨w.heap.size + 1, 1, none⟩ = some (.slice none 0 0) := cell_of hctx2 rfl
          have pc2 : w2.cell? ⟨w.heap.size + 1, 2, none⟩ = some (.pointer none) := cell_of hctx2 rfl
          have pc3 : w2.cell? ⟨w.heap.size + 1, 3, none⟩ = some (.pointer none) := cell_of hctx2 rfl
          have pc4 : w2.cell? ⟨w.heap.size + 1, 4, none⟩ = some (.pointer none) := cell_of hctx2 rfl
          have pc5 : w2.cell? ⟨w.heap.size + 1, 5, none⟩ = some (.map none) := cell_of hctx2 rfl
          have pc6 : w2.cell? ⟨w.heap.size + 1, 6, none⟩ = some (.map none) := cell_of hctx2 rfl
          have pc7 : w2.cell? ⟨w.heap.size + 1, 7, none⟩ = some (.pointer none) := cell_of hctx2 rfl
          have pc8 : w2.cell? ⟨w.heap.size + 1, 8, none⟩ = some (.map none) := cell_of hctx2 rfl
          have pc9 : w2.cell? ⟨w.heap.size + 1, 9, none⟩ = some (.nilIface) := cell_of hctx2 rfl
          have pc10 : w2.cell? ⟨w.heap.size + 1, 10, none⟩ = some (.nilIface) := cell_of hctx2 rfl
          have pc11 : w2.cell? ⟨w.heap.size + 1, 11, none⟩ = some (.map none) := cell_of hctx2 rfl
          have pc12 : w2.cell? ⟨w.heap.size + 1, 12, none⟩ = some (.slice none 0 0) := cell_of hctx2 rfl
          have pf := free_of hctx2
          clear hpar hctx hpar2 hctx2
          go_wp2_with fail
          go_ret2
          exact ec_done HT2.out HCX.out HL0.out HONE2.out HOA.out

end

end Go.Proofs.YtigpnidffiaigaaGreat
