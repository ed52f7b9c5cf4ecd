/- Walks: the maker: definitions. -/
import Derived.Test.YtigpnidffiaigaaGreatProg
import Derived.BigRegion
import Derived.Deep.RegionHeld3
import Derived.Deep.CutRange
import Derived.Deep.RegionLaw
import Derived.Deep.AppendLies
import Derived.Test.YtigpnidffiaigaaGreatQ20
import Derived.Test.YtigpnidffiaigaaGreatQ21
set_option linter.unusedVariables false
set_option linter.unusedSimpArgs false
namespace Go.Proofs.YtigpnidffiaigaaGreat

section
open Go.RowKit
attribute [local go_sem ↓] Go.wp_at_zero Go.wp_at_succ

/-- an operation in memory -/
def OpAt (w : World) (l : List Nd) (k q : Nat) (cleared : Bool) : Prop := ∃ (s op : ByteArray) (lo : Nat) (na : Option Addr) (va da : Option Addr) (vn vc dn dc sq : Nat),
  w.heap[q]? = some (.cells #[.string s, .pointer (some ⟨lo, 0, none⟩), .string op, .pointer na, .slice va vn vc, .slice da dn dc, .pointer (some ⟨sq, 0, none⟩)] 52 (0, 0)) ∧ NameV w (.pointer na) (nm l k) ∧
  w.heap[lo]? = some (.cells (locC l k) 68 (0, 0)) ∧ (cleared = true → va = none ∧ vn = 0 ∧ vc = 0)
/-- a fragment in memory -/
def FrAt (w : World) (l : List Nd) (k q : Nat) : Prop := ∃ (cs : Array Value) (na : Option Addr), w.heap[q]? = some (.cells cs 119 (0, 0)) ∧ cs[3]? = some (.pointer na) ∧ NameV w (.pointer na) (nm l k)
/-- a definition in memory -/
def DefAt (w : World) (l : List Nd) (k : Nat) (v : Value) (cleared : Bool) : Prop :=
  (kd l k = 2 ∧ ∃ q : Nat, v = .iface 45 (.pointer (some ⟨q, 0, none⟩)) ∧ OpAt w l k q cleared) ∨ (kd l k = 3 ∧ ∃ q : Nat, v = .iface 97 (.pointer (some ⟨q, 0, none⟩)) ∧ FrAt w l k q)
/-- an operation is new -/
def NewOp (l : List Nd) (k : Nat) (v : Value) (n : Nat) : Prop := kd l k = 2 → ∀ (t : TypeId) (q : Nat), v = .iface t (.pointer (some ⟨q, 0, none⟩)) → n ≤ q
def DefPost (l : List Nd) (k : Nat) (w : World) (e : Ending) (w' : World) : Prop := ∃ t v, e = .returned (.iface t v) ∧ DefAt w' l k (.iface t v) false ∧ NewOp l k (.iface t v) w.heap.size ∧ Sm [] w w'
theorem OpAt.sm {w w' : World} {l : List Nd} {k q : Nat} {c : Bool} (h : OpAt w l k q c) (s : Sm [] w w') : OpAt w' l k q c := by
  obtain ⟨s1, op, lo, na, va, da, vn, vc, dn, dc, sq, h1, h2, h3, h4⟩ := h
  exact ⟨s1, op, lo, na, va, da, vn, vc, dn, dc, sq, s.obj h1 (by simp), h2.sm s, s.obj h3 (by simp), h4⟩
theorem FrAt.sm {w w' : World} {l : List Nd} {k q : Nat} (h : FrAt w l k q) (s : Sm [] w w') : FrAt w' l k q := by
  obtain ⟨cs, na, h1, h2, h3⟩ := h
  exact ⟨cs, na, s.obj h1 (by simp), h2, h3.sm s⟩
theorem DefAt.sm {w w' : World} {l : List Nd} {k : Nat} {v : Value} {c : Bool} (h : DefAt w l k v c) (s : Sm [] w w') : DefAt w' l k v c := by
  rcases h with ⟨h1, q, h2, h3⟩ | ⟨h1, q, h2, h3⟩
  · exact .inl ⟨h1, q, h2, h3.sm s⟩
  · exact .inr ⟨h1, q, h2, h3.sm s⟩
theorem inPlace_obj {W w' : World} {cs : Array Value} {T : TypeId} {k : Nat} {e : Ending} (h : InPlace k (W.alloc (.cells cs T (0, 0))) e w') (hk : W.heap.size = k) :
    e = .returned (.pointer (some ⟨k, 0, none⟩)) ∧ ∃ s : ByteArray, Sm [] W w' ∧ w'.heap[k]? = some (.cells (cs.setIfInBounds 0 (.string s)) T (0, 0)) := by
  obtain ⟨h1, s, rfl⟩ := h
  exact ⟨h1, s, ((Sm.refl _ _).alloc _).setCell (.inl (by simp [hk])) _, obj_setCell (obj_at hk) 0 _⟩

set_option maxRecDepth 100000 in
set_option maxHeartbeats 8000000 in
theorem def_query (l : List Nd) (mb b o cap i : Nat) (w : World) (hm : MAt w mb b o cap l) (hd : Doc l) (hi : i < l.length) (hk : kd l i = 2) (htx : tx l i = wQuery) :
    Calls Tryz.prog 21 #[.pointer (some ⟨mb, 0, none⟩), .int .i64 (i : Int)] w (DefPost l i w) := by
  have c0 := hm.c0
  obtain ⟨n0, n1, n2, n3, n4, n5⟩ := hm.doc i hi
  rw [← kd_at hi, hk] at n0
  rw [← nm_at hi] at n1
  rw [← tx_at hi] at n3
  obtain ⟨x1, hx1⟩ : ∃ x, x = nm l i := ⟨_, rfl⟩
  obtain ⟨x3, hx3⟩ : ∃ x, x = tx l i := ⟨_, rfl⟩
  rw [← hx1] at n1
  rw [← hx3] at n3
  generalize l[i].alias = x2 at *
  generalize l[i].flag = x4 at *
  generalize l[i].size = x5 at *
  have HX1 : Hid (x1 = nm l i) := hx1
  have HX3 : Hid (x3 = tx l i) := hx3
  have HK : Hid (∀ W, MAt W mb b o cap l → Calls Tryz.prog 20 #[.pointer (some ⟨mb, 0, none⟩), .int .i64 (i : Int)] W (KidsPost (kids l i) W)) := fun W h => mkids_any l mb b o cap i W h hd.tree hi
  obtain ⟨ks, hks⟩ : ∃ ks, ks = kids l i := ⟨_, rfl⟩
  rw [← hks] at HK
  have HKS : Hid (ks = kids l i) := hks
  have HSZ : Hid (1 ≤ sz l i ∧ i + sz l i ≤ l.length) := ⟨hd.tree.sz_pos hi, hd.tree.sz_le hi⟩
  have hn : l.length ≤ 2147483647 := by have := hd.tree.most; omega
  have z1 : (0 : Int) ≤ (i : Int) := by omega
  have z2 : (i : Int) < (l.length : Int) := by omega
  have HM : Hid (MAt w mb b o cap l) := hm
  have HD : Hid (Doc l) := hd
  have HKD : Hid (kd l i = 2) := hk
  have hne0 := World.new_ne _ _ c0
  have hne1 := World.new_ne _ _ n0
  clear hk hm hd hx1 hx3 hks
  obtain rfl : x3 = ⟨#[113, 117, 101, 114, 121]⟩ := by rw [HX3.out, htx]; rfl
  clear htx
  go_enter Tryz.func21, Tryz.ntmps21
  go_upto_region 1 with fail
  go_cut [5, 6] from 7 to 16 (fun p k wx => XCut w ks ⟨2, x1, x2, ⟨#[113, 117, 101, 114, 121]⟩, x4, x5⟩ p k wx)
  case first =>
    go_region_held3 (fun W => W.cell? ⟨mb, 0, none⟩ = some (.slice (some ⟨b, o, none⟩) l.length cap) ∧ W.cell? ⟨b, o + i * 6, none⟩ = some (.int .i64 2) ∧ W.cell? ⟨b, o + i * 6 + 1, none⟩ = some (.string x1) ∧ W.cell? ⟨b, o + i * 6 + 2, none⟩ = some (.string x2) ∧ W.cell? ⟨b, o + i * 6 + 3, none⟩ = some (.string ⟨#[113, 117, 101, 114, 121]⟩) ∧ W.cell? ⟨b, o + i * 6 + 4, none⟩ = some (.int .i64 x4) ∧ W.cell? ⟨b, o + i * 6 + 5, none⟩ = some (.int .i64 x5)) (go_keep)
      (first
        | (go_at_call 20; refine (HK.out _ ?_).mono ?_; refine HM.out.sm ?_; (repeat (first | exact Sm.refl _ _ | refine Sm.alloc ?_ _ | refine Sm.drew ?_ | refine Sm.drewN ?_ _)); rintro e w2 ⟨a, kc, rfl, hints, hs2, hge⟩; have hT : Sm [] w w2 := (by refine Sm.trans ?_ hs2; (repeat (first | exact Sm.refl _ _ | refine Sm.alloc ?_ _ | refine Sm.drew ?_ | refine Sm.drewN ?_ _))); have g0 := hT.keeps c0 (by simp); have g1 := hT.keeps n0 (by simp); have g2 := hT.keeps n1 (by simp); have g3 := hT.keeps n2 (by simp); have g4 := hT.keeps n3 (by simp); have g5 := hT.keeps n4 (by simp); have g6 := hT.keeps n5 (by simp); have hz := hs2.obj (obj_alloc _ _) (by simp); have q0 := cell_of hz (i := 0) rfl; have q1 := cell_of hz (i := 1) rfl; have q2 := cell_of hz (i := 2) rfl; have q3 := cell_of hz (i := 3) rfl; have q4 := cell_of hz (i := 4) rfl; have q5 := cell_of hz (i := 5) rfl; have r0 := free_of hz 0; have r1 := free_of hz 1; have r2 := free_of hz 2; have r3 := free_of hz 3; have r4 := free_of hz 4; have r5 := free_of hz 5)
        | (go_at_call 20; refine (HK.out _ ?_).mono ?_; refine HM.out.sm ?_; (repeat (first | exact Sm.refl _ _ | refine Sm.alloc ?_ _ | refine Sm.drew ?_ | refine Sm.drewN ?_ _)); rintro e w2 ⟨a, kc, rfl, hints, hs2, hge⟩; have hT : Sm [] w w2 := (by refine Sm.trans ?_ hs2; (repeat (first | exact Sm.refl _ _ | refine Sm.alloc ?_ _ | refine Sm.drew ?_ | refine Sm.drewN ?_ _))); have g0 := hT.keeps c0 (by simp); have g1 := hT.keeps n0 (by simp); have g2 := hT.keeps n1 (by simp); have g3 := hT.keeps n2 (by simp); have g4 := hT.keeps n3 (by simp); have g5 := hT.keeps n4 (by simp); have g6 := hT.keeps n5 (by simp)))
    all_goals
      go_wp2_with fail
      go_meet
      first
      | exact xcut_a hT hints _ _ _ _ _ _
      | exact xcut_b hT hints hz (Nat.le_refl _) hge (by simp) _ _ _ _ _ _
  case rest =>
    obtain ⟨nb, a, kc, rfl, rfl, hints, hN, hT, hnb⟩ := hcut
    have HM1 : Hid (MAt wc mb b o cap l) := HM.out.sm hT
    have HT : Hid (Sm [] w wc) := hT
    have HI : Hid (IntsAt wc (.slice a ks.length kc) ks) := hints
    have HN : Hid (wc.heap[nb]? = some (.cells #[.int .i64 2, .string x1, .string x2, .string ⟨#[113, 117, 101, 114, 121]⟩, .int .i64 x4, .int .i64 x5] 31 (0, 0))) := hN
    have p0 : wc.cell? ⟨nb, 0, none⟩ = some (.int .i64 2) := cell_of hN rfl
    have p1 : wc.cell? ⟨nb, 1, none⟩ = some (.string x1) := cell_of hN rfl
    have p3 : wc.cell? ⟨nb, 3, none⟩ = some (.string ⟨#[113, 117, 101, 114, 121]⟩) := cell_of hN rfl
    have p4 : wc.cell? ⟨nb, 4, none⟩ = some (.int .i64 x4) := cell_of hN rfl
    have d2 := HM1.out.c2
    clear hints hN hT c0 n0 n1 n2 n3 n4 n5
    have f2 := HM1.out.f2
    have HKk : Hid (∀ x, x ∈ ks → x < l.length) := fun x hx => (HD.out.tree.kid hi (by rw [← HKS.out]; exact hx)).2.1
    have hk4 : ks.length ≤ 400 := by rw [HKS.out]; exact HD.out.tree.kids_len hi
    have HSEL : Hid (∀ x W, x ∈ ks → kd l x = 5 → MAt W mb b o cap l → Calls Tryz.prog 110 #[.pointer (some ⟨mb, 0, none⟩), .int .i64 (x : Int)] W (PtrGo W)) := fun x W hx h5 hW => by
      have h1 := HD.out.tree.kid hi (a := x) (by rw [← HKS.out]; exact hx)
      exact set_any l mb b o cap HD.out l.length x W (by omega) hW h1.2.1 h5
    have HEX : Hid (∃ x, x ∈ ks ∧ kd l x = 5) := by obtain ⟨x, h1, h2⟩ := (HD.out.shp i hi).sel (.inl HKD.out); exact ⟨x, by rw [HKS.out]; exact h1, h2⟩
    have HSA : Hid (Sm [] wc (wc.setCell ⟨mb, 2, none⟩ (.bool false))) := HM1.out.again (Sm.refl _ _)
    go_upto_region 5 with fail
    have HS0 : Hid (Sm [] w (wc.setCell ⟨mb, 2, none⟩ (.bool false))) := HT.out.trans HSA.out
    have HM2 : Hid (MAt (wc.setCell ⟨mb, 2, none⟩ (.bool false)) mb b o cap l) := HM1.out.sm HSA.out
    have HI2 : Hid (IntsAt (wc.setCell ⟨mb, 2, none⟩ (.bool false)) (.slice a ks.length kc) ks) := HI.out.sm0 HSA.out
    have p3' := HSA.out.keeps p3 (by simp)
    clear p0 p1 p3 p4 d2 f2
    generalize wc.setCell ⟨mb, 2, none⟩ (.bool false) = wd at *
    go_region_law (first
      | (go_simp; go_at_call 44; refine (perhaps_any l mb b o cap i _ ?_ hi).mono ?_; refine HM2.out.sm ?_; (repeat (first | exact Sm.refl _ _ | refine Sm.alloc ?_ _ | refine Sm.drew ?_ | refine Sm.drewN ?_ _)); rintro e w2 ⟨na, rfl, hna, _, _, hs2⟩; have hT2 : Sm [] wd w2 := (by refine Sm.trans ?_ hs2; (repeat (first | exact Sm.refl _ _ | refine Sm.alloc ?_ _ | refine Sm.drew ?_ | refine Sm.drewN ?_ _))); have g2 := hT2.keeps p3' (by simp))
      | (go_simp; go_at_call 45; refine (variables_any l mb b o cap kc a ks _ ?_ HD.out hk4 ?_ HKk.out).mono ?_; exact HM2.out.sm hT2; exact HI2.out.sm0 hT2; rintro e w3 ⟨va, vn, vc, rfl, hs3⟩; have hT3 := hT2.trans hs3; have g3 := hT3.keeps p3' (by simp))
      | (go_simp; go_at_call 46; refine (directives_any l mb b o cap kc a ks _ ?_ HD.out hk4 ?_ HKk.out).mono ?_; exact HM2.out.sm hT3; exact HI2.out.sm0 hT3; rintro e w4 ⟨da, dn, dc, rfl, hs4⟩; have hT4 := hT3.trans hs4; have g4 := hT4.keeps p3' (by simp))
      | (go_simp; go_at_call 47; refine (must_any l mb b o cap kc a ks _ ?_ HD.out hk4 ?_ HKk.out HSEL.out HEX.out).mono ?_; exact HM2.out.sm hT4; exact HI2.out.sm0 hT4; rintro e w5 ⟨sq, rfl, hs5⟩; have hT5 := hT4.trans hs5; have g5 := hT5.keeps p3' (by simp); have g5a := fun o => (sm_allc w5 o).keeps g5 (by simp))
      | (go_simp; go_at_call 23; refine (loc_any l mb b o cap i _ ?_ hi hn HSZ.out.1 HSZ.out.2).mono ?_; exact HM2.out.sm hT5; rintro e w6 ⟨rfl, rfl⟩)
      | (go_simp; go_at_call 43; refine (newOperationDefinition_any _ _ _ _ (obj_at (by simp)) rfl).mono ?_; intro e w8 h8; obtain ⟨rfl, s8, hs8, hq8⟩ := inPlace_obj h8 (by simp)))
    all_goals
      have hlo := hs8.obj (obj_alloc w5 (.cells (locC l i) 68 (0, 0))) (by simp)
      have hT8 : Sm [] w w8 := (HS0.out.trans (hT5.alloc _)).trans hs8
      have hnv : NameV w8 (.pointer na) (nm l i) := hna.sm (((hs3.trans hs4).trans hs5).trans (((Sm.refl _ _).alloc _).trans hs8))
      have hnw : w.heap.size ≤ w5.heap.size + 1 := by have := (HS0.out.trans hT5).size; omega
      have HP : Hid (DefPost l i w (.returned (.iface 45 (.pointer (some ⟨w5.heap.size + 1, 0, none⟩)))) w8) := ⟨_, _, rfl, .inl ⟨HKD.out, _, rfl, s8, _, _, _, _, _, _, _, _, _, _, hq8, hnv, hlo, fun h => by cases h⟩, (fun _ t q h => by cases h; exact hnw), hT8⟩
      clear hlo hT8 hnv hq8 hs8 h8 hna hs2 hs3 hs4 hs5 hT2 hT3 hT4 hT5
      go_wp2_with fail
      go_ret
      exact HP.out

set_option maxRecDepth 100000 in
set_option maxHeartbeats 8000000 in
theorem def_mutation (l : List Nd) (mb b o cap i : Nat) (w : World) (hm : MAt w mb b o cap l) (hd : Doc l) (hi : i < l.length) (hk : kd l i = 2) (htx : tx l i = wMutation) :
    Calls Tryz.prog 21 #[.pointer (some ⟨mb, 0, none⟩), .int .i64 (i : Int)] w (DefPost l i w) := by
  have c0 := hm.c0
  obtain ⟨n0, n1, n2, n3, n4, n5⟩ := hm.doc i hi
  rw [← kd_at hi, hk] at n0
  rw [← nm_at hi] at n1
  rw [← tx_at hi] at n3
  obtain ⟨x1, hx1⟩ : ∃ x, x = nm l i := ⟨_, rfl⟩
  obtain ⟨x3, hx3⟩ : ∃ x, x = tx l i := ⟨_, rfl⟩
  rw [← hx1] at n1
  rw [← hx3] at n3
  generalize l[i].alias = x2 at *
  generalize l[i].flag = x4 at *
  generalize l[i].size = x5 at *
  have HX1 : Hid (x1 = nm l i) := hx1
  have HX3 : Hid (x3 = tx l i) := hx3
  have HK : Hid (∀ W, MAt W mb b o cap l → Calls Tryz.prog 20 #[.pointer (some ⟨mb, 0, none⟩), .int .i64 (i : Int)] W (KidsPost (kids l i) W)) := fun W h => mkids_any l mb b o cap i W h hd.tree hi
  obtain ⟨ks, hks⟩ : ∃ ks, ks = kids l i := ⟨_, rfl⟩
  rw [← hks] at HK
  have HKS : Hid (ks = kids l i) := hks
  have HSZ : Hid (1 ≤ sz l i ∧ i + sz l i ≤ l.length) := ⟨hd.tree.sz_pos hi, hd.tree.sz_le hi⟩
  have hn : l.length ≤ 2147483647 := by have := hd.tree.most; omega
  have z1 : (0 : Int) ≤ (i : Int) := by omega
  have z2 : (i : Int) < (l.length : Int) := by omega
  have HM : Hid (MAt w mb b o cap l) := hm
  have HD : Hid (Doc l) := hd
  have HKD : Hid (kd l i = 2) := hk
  have hne0 := World.new_ne _ _ c0
  have hne1 := World.new_ne _ _ n0
  clear hk hm hd hx1 hx3 hks
  obtain rfl : x3 = ⟨#[109, 117, 116, 97, 116, 105, 111, 110]⟩ := by rw [HX3.out, htx]; rfl
  clear htx
  go_enter Tryz.func21, Tryz.ntmps21
  go_upto_region 1 with fail
  go_cut [5, 6] from 7 to 16 (fun p k wx => XCut w ks ⟨2, x1, x2, ⟨#[109, 117, 116, 97, 116, 105, 111, 110]⟩, x4, x5⟩ p k wx)
  case first =>
    go_region_held3 (fun W => W.cell? ⟨mb, 0, none⟩ = some (.slice (some ⟨b, o, none⟩) l.length cap) ∧ W.cell? ⟨b, o + i * 6, none⟩ = some (.int .i64 2) ∧ W.cell? ⟨b, o + i * 6 + 1, none⟩ = some (.string x1) ∧ W.cell? ⟨b, o + i * 6 + 2, none⟩ = some (.string x2) ∧ W.cell? ⟨b, o + i * 6 + 3, none⟩ = some (.string ⟨#[109, 117, 116, 97, 116, 105, 111, 110]⟩) ∧ W.cell? ⟨b, o + i * 6 + 4, none⟩ = some (.int .i64 x4) ∧ W.cell? ⟨b, o + i * 6 + 5, none⟩ = some (.int .i64 x5)) (go_keep)
      (first
        | (go_at_call 20; refine (HK.out _ ?_).mono ?_; refine HM.out.sm ?_; (repeat (first | exact Sm.refl _ _ | refine Sm.alloc ?_ _ | refine Sm.drew ?_ | refine Sm.drewN ?_ _)); rintro e w2 ⟨a, kc, rfl, hints, hs2, hge⟩; have hT : Sm [] w w2 := (by refine Sm.trans ?_ hs2; (repeat (first | exact Sm.refl _ _ | refine Sm.alloc ?_ _ | refine Sm.drew ?_ | refine Sm.drewN ?_ _))); have g0 := hT.keeps c0 (by simp); have g1 := hT.keeps n0 (by simp); have g2 := hT.keeps n1 (by simp); have g3 := hT.keeps n2 (by simp); have g4 := hT.keeps n3 (by simp); have g5 := hT.keeps n4 (by simp); have g6 := hT.keeps n5 (by simp); have hz := hs2.obj (obj_alloc _ _) (by simp); have q0 := cell_of hz (i := 0) rfl; have q1 := cell_of hz (i := 1) rfl; have q2 := cell_of hz (i := 2) rfl; have q3 := cell_of hz (i := 3) rfl; have q4 := cell_of hz (i := 4) rfl; have q5 := cell_of hz (i := 5) rfl; have r0 := free_of hz 0; have r1 := free_of hz 1; have r2 := free_of hz 2; have r3 := free_of hz 3; have r4 := free_of hz 4; have r5 := free_of hz 5)
        | (go_at_call 20; refine (HK.out _ ?_).mono ?_; refine HM.out.sm ?_; (repeat (first | exact Sm.refl _ _ | refine Sm.alloc ?_ _ | refine Sm.drew ?_ | refine Sm.drewN ?_ _)); rintro e w2 ⟨a, kc, rfl, hints, hs2, hge⟩; have hT : Sm [] w w2 := (by refine Sm.trans ?_ hs2; (repeat (first | exact Sm.refl _ _ | refine Sm.alloc ?_ _ | refine Sm.drew ?_ | refine Sm.drewN ?_ _))); have g0 := hT.keeps c0 (by simp); have g1 := hT.keeps n0 (by simp); have g2 := hT.keeps n1 (by simp); have g3 := hT.keeps n2 (by simp); have g4 := hT.keeps n3 (by simp); have g5 := hT.keeps n4 (by simp); have g6 := hT.keeps n5 (by simp)))
    all_goals
      go_wp2_with fail
      go_meet
      first
      | exact xcut_a hT hints _ _ _ _ _ _
      | exact xcut_b hT hints hz (Nat.le_refl _) hge (by simp) _ _ _ _ _ _
  case rest =>
    obtain ⟨nb, a, kc, rfl, rfl, hints, hN, hT, hnb⟩ := hcut
    have HM1 : Hid (MAt wc mb b o cap l) := HM.out.sm hT
    have HT : Hid (Sm [] w wc) := hT
    have HI : Hid (IntsAt wc (.slice a ks.length kc) ks) := hints
    have HN : Hid (wc.heap[nb]? = some (.cells #[.int .i64 2, .string x1, .string x2, .string ⟨#[109, 117, 116, 97, 116, 105, 111, 110]⟩, .int .i64 x4, .int .i64 x5] 31 (0, 0))) := hN
    have p0 : wc.cell? ⟨nb, 0, none⟩ = some (.int .i64 2) := cell_of hN rfl
    have p1 : wc.cell? ⟨nb, 1, none⟩ = some (.string x1) := cell_of hN rfl
    have p3 : wc.cell? ⟨nb, 3, none⟩ = some (.string ⟨#[109, 117, 116, 97, 116, 105, 111, 110]⟩) := cell_of hN rfl
    have p4 : wc.cell? ⟨nb, 4, none⟩ = some (.int .i64 x4) := cell_of hN rfl
    have d2 := HM1.out.c2
    clear hints hN hT c0 n0 n1 n2 n3 n4 n5
    have f2 := HM1.out.f2
    have HKk : Hid (∀ x, x ∈ ks → x < l.length) := fun x hx => (HD.out.tree.kid hi (by rw [← HKS.out]; exact hx)).2.1
    have hk4 : ks.length ≤ 400 := by rw [HKS.out]; exact HD.out.tree.kids_len hi
    have HSEL : Hid (∀ x W, x ∈ ks → kd l x = 5 → MAt W mb b o cap l → Calls Tryz.prog 110 #[.pointer (some ⟨mb, 0, none⟩), .int .i64 (x : Int)] W (PtrGo W)) := fun x W hx h5 hW => by
      have h1 := HD.out.tree.kid hi (a := x) (by rw [← HKS.out]; exact hx)
      exact set_any l mb b o cap HD.out l.length x W (by omega) hW h1.2.1 h5
    have HEX : Hid (∃ x, x ∈ ks ∧ kd l x = 5) := by obtain ⟨x, h1, h2⟩ := (HD.out.shp i hi).sel (.inl HKD.out); exact ⟨x, by rw [HKS.out]; exact h1, h2⟩
    have HSA : Hid (Sm [] wc (wc.setCell ⟨mb, 2, none⟩ (.bool false))) := HM1.out.again (Sm.refl _ _)
    go_upto_region 5 with fail
    have HS0 : Hid (Sm [] w (wc.setCell ⟨mb, 2, none⟩ (.bool false))) := HT.out.trans HSA.out
    have HM2 : Hid (MAt (wc.setCell ⟨mb, 2, none⟩ (.bool false)) mb b o cap l) := HM1.out.sm HSA.out
    have HI2 : Hid (IntsAt (wc.setCell ⟨mb, 2, none⟩ (.bool false)) (.slice a ks.length kc) ks) := HI.out.sm0 HSA.out
    have p3' := HSA.out.keeps p3 (by simp)
    clear p0 p1 p3 p4 d2 f2
    generalize wc.setCell ⟨mb, 2, none⟩ (.bool false) = wd at *
    go_region_law (first
      | (go_simp; go_at_call 44; refine (perhaps_any l mb b o cap i _ ?_ hi).mono ?_; refine HM2.out.sm ?_; (repeat (first | exact Sm.refl _ _ | refine Sm.alloc ?_ _ | refine Sm.drew ?_ | refine Sm.drewN ?_ _)); rintro e w2 ⟨na, rfl, hna, _, _, hs2⟩; have hT2 : Sm [] wd w2 := (by refine Sm.trans ?_ hs2; (repeat (first | exact Sm.refl _ _ | refine Sm.alloc ?_ _ | refine Sm.drew ?_ | refine Sm.drewN ?_ _))); have g2 := hT2.keeps p3' (by simp))
      | (go_simp; go_at_call 45; refine (variables_any l mb b o cap kc a ks _ ?_ HD.out hk4 ?_ HKk.out).mono ?_; exact HM2.out.sm hT2; exact HI2.out.sm0 hT2; rintro e w3 ⟨va, vn, vc, rfl, hs3⟩; have hT3 := hT2.trans hs3; have g3 := hT3.keeps p3' (by simp))
      | (go_simp; go_at_call 46; refine (directives_any l mb b o cap kc a ks _ ?_ HD.out hk4 ?_ HKk.out).mono ?_; exact HM2.out.sm hT3; exact HI2.out.sm0 hT3; rintro e w4 ⟨da, dn, dc, rfl, hs4⟩; have hT4 := hT3.trans hs4; have g4 := hT4.keeps p3' (by simp))
      | (go_simp; go_at_call 47; refine (must_any l mb b o cap kc a ks _ ?_ HD.out hk4 ?_ HKk.out HSEL.out HEX.out).mono ?_; exact HM2.out.sm hT4; exact HI2.out.sm0 hT4; rintro e w5 ⟨sq, rfl, hs5⟩; have hT5 := hT4.trans hs5; have g5 := hT5.keeps p3' (by simp); have g5a := fun o => (sm_allc w5 o).keeps g5 (by simp))
      | (go_simp; go_at_call 23; refine (loc_any l mb b o cap i _ ?_ hi hn HSZ.out.1 HSZ.out.2).mono ?_; exact HM2.out.sm hT5; rintro e w6 ⟨rfl, rfl⟩)
      | (go_simp; go_at_call 43; refine (newOperationDefinition_any _ _ _ _ (obj_at (by simp)) rfl).mono ?_; intro e w8 h8; obtain ⟨rfl, s8, hs8, hq8⟩ := inPlace_obj h8 (by simp)))
    all_goals
      have hlo := hs8.obj (obj_alloc w5 (.cells (locC l i) 68 (0, 0))) (by simp)
      have hT8 : Sm [] w w8 := (HS0.out.trans (hT5.alloc _)).trans hs8
      have hnv : NameV w8 (.pointer na) (nm l i) := hna.sm (((hs3.trans hs4).trans hs5).trans (((Sm.refl _ _).alloc _).trans hs8))
      have hnw : w.heap.size ≤ w5.heap.size + 1 := by have := (HS0.out.trans hT5).size; omega
      have HP : Hid (DefPost l i w (.returned (.iface 45 (.pointer (some ⟨w5.heap.size + 1, 0, none⟩)))) w8) := ⟨_, _, rfl, .inl ⟨HKD.out, _, rfl, s8, _, _, _, _, _, _, _, _, _, _, hq8, hnv, hlo, fun h => by cases h⟩, (fun _ t q h => by cases h; exact hnw), hT8⟩
      clear hlo hT8 hnv hq8 hs8 h8 hna hs2 hs3 hs4 hs5 hT2 hT3 hT4 hT5
      go_wp2_with fail
      go_ret
      exact HP.out

set_option maxRecDepth 100000 in
set_option maxHeartbeats 8000000 in
theorem def_subscription (l : List Nd) (mb b o cap i : Nat) (w : World) (hm : MAt w mb b o cap l) (hd : Doc l) (hi : i < l.length) (hk : kd l i = 2) (htx : tx l i = wSubscription) :
    Calls Tryz.prog 21 #[.pointer (some ⟨mb, 0, none⟩), .int .i64 (i : Int)] w (DefPost l i w) := by
  have c0 := hm.c0
  obtain ⟨n0, n1, n2, n3, n4, n5⟩ := hm.doc i hi
  rw [← kd_at hi, hk] at n0
  rw [← nm_at hi] at n1
  rw [← tx_at hi] at n3
  obtain ⟨x1, hx1⟩ : ∃ x, x = nm l i := ⟨_, rfl⟩
  obtain ⟨x3, hx3⟩ : ∃ x, x = tx l i := ⟨_, rfl⟩
  rw [← hx1] at n1
  rw [← hx3] at n3
  generalize l[i].alias = x2 at *
  generalize l[i].flag = x4 at *
  generalize l[i].size = x5 at *
  have HX1 : Hid (x1 = nm l i) := hx1
  have HX3 : Hid (x3 = tx l i) := hx3
  have HK : Hid (∀ W, MAt W mb b o cap l → Calls Tryz.prog 20 #[.pointer (some ⟨mb, 0, none⟩), .int .i64 (i : Int)] W (KidsPost (kids l i) W)) := fun W h => mkids_any l mb b o cap i W h hd.tree hi
  obtain ⟨ks, hks⟩ : ∃ ks, ks = kids l i := ⟨_, rfl⟩
  rw [← hks] at HK
  have HKS : Hid (ks = kids l i) := hks
  have HSZ : Hid (1 ≤ sz l i ∧ i + sz l i ≤ l.length) := ⟨hd.tree.sz_pos hi, hd.tree.sz_le hi⟩
  have hn : l.length ≤ 2147483647 := by have := hd.tree.most; omega
  have z1 : (0 : Int) ≤ (i : Int) := by omega
  have z2 : (i : Int) < (l.length : Int) := by omega
  have HM : Hid (MAt w mb b o cap l) := hm
  have HD : Hid (Doc l) := hd
  have HKD : Hid (kd l i = 2) := hk
  have hne0 := World.new_ne _ _ c0
  have hne1 := World.new_ne _ _ n0
  clear hk hm hd hx1 hx3 hks
  obtain rfl : x3 = ⟨#[115, 117, 98, 115, 99, 114, 105, 112, 116, 105, 111, 110]⟩ := by rw [HX3.out, htx]; rfl
  clear htx
  go_enter Tryz.func21, Tryz.ntmps21
  go_upto_region 1 with fail
  go_cut [5, 6] from 7 to 16 (fun p k wx => XCut w ks ⟨2, x1, x2, ⟨#[115, 117, 98, 115, 99, 114, 105, 112, 116, 105, 111, 110]⟩, x4, x5⟩ p k wx)
  case first =>
    go_region_held3 (fun W => W.cell? ⟨mb, 0, none⟩ = some (.slice (some ⟨b, o, none⟩) l.length cap) ∧ W.cell? ⟨b, o + i * 6, none⟩ = some (.int .i64 2) ∧ W.cell? ⟨b, o + i * 6 + 1, none⟩ = some (.string x1) ∧ W.cell? ⟨b, o + i * 6 + 2, none⟩ = some (.string x2) ∧ W.cell? ⟨b, o + i * 6 + 3, none⟩ = some (.string ⟨#[115, 117, 98, 115, 99, 114, 105, 112, 116, 105, 111, 110]⟩) ∧ W.cell? ⟨b, o + i * 6 + 4, none⟩ = some (.int .i64 x4) ∧ W.cell? ⟨b, o + i * 6 + 5, none⟩ = some (.int .i64 x5)) (go_keep)
      (first
        | (go_at_call 20; refine (HK.out _ ?_).mono ?_; refine HM.out.sm ?_; (repeat (first | exact Sm.refl _ _ | refine Sm.alloc ?_ _ | refine Sm.drew ?_ | refine Sm.drewN ?_ _)); rintro e w2 ⟨a, kc, rfl, hints, hs2, hge⟩; have hT : Sm [] w w2 := (by refine Sm.trans ?_ hs2; (repeat (first | exact Sm.refl _ _ | refine Sm.alloc ?_ _ | refine Sm.drew ?_ | refine Sm.drewN ?_ _))); have g0 := hT.keeps c0 (by simp); have g1 := hT.keeps n0 (by simp); have g2 := hT.keeps n1 (by simp); have g3 := hT.keeps n2 (by simp); have g4 := hT.keeps n3 (by simp); have g5 := hT.keeps n4 (by simp); have g6 := hT.keeps n5 (by simp); have hz := hs2.obj (obj_alloc _ _) (by simp); have q0 := cell_of hz (i := 0) rfl; have q1 := cell_of hz (i := 1) rfl; have q2 := cell_of hz (i := 2) rfl; have q3 := cell_of hz (i := 3) rfl; have q4 := cell_of hz (i := 4) rfl; have q5 := cell_of hz (i := 5) rfl; have r0 := free_of hz 0; have r1 := free_of hz 1; have r2 := free_of hz 2; have r3 := free_of hz 3; have r4 := free_of hz 4; have r5 := free_of hz 5)
        | (go_at_call 20; refine (HK.out _ ?_).mono ?_; refine HM.out.sm ?_; (repeat (first | exact Sm.refl _ _ | refine Sm.alloc ?_ _ | refine Sm.drew ?_ | refine Sm.drewN ?_ _)); rintro e w2 ⟨a, kc, rfl, hints, hs2, hge⟩; have hT : Sm [] w w2 := (by refine Sm.trans ?_ hs2; (repeat (first | exact Sm.refl _ _ | refine Sm.alloc ?_ _ | refine Sm.drew ?_ | refine Sm.drewN ?_ _))); have g0 := hT.keeps c0 (by simp); have g1 := hT.keeps n0 (by simp); have g2 := hT.keeps n1 (by simp); have g3 := hT.keeps n2 (by simp); have g4 := hT.keeps n3 (by simp); have g5 := hT.keeps n4 (by simp); have g6 := hT.keeps n5 (by simp)))
    all_goals
      go_wp2_with fail
      go_meet
      first
      | exact xcut_a hT hints _ _ _ _ _ _
      | exact xcut_b hT hints hz (Nat.le_refl _) hge (by simp) _ _ _ _ _ _
  case rest =>
    obtain ⟨nb, a, kc, rfl, rfl, hints, hN, hT, hnb⟩ := hcut
    have HM1 : Hid (MAt wc mb b o cap l) := HM.out.sm hT
    have HT : Hid (Sm [] w wc) := hT
    have HI : Hid (IntsAt wc (.slice a ks.length kc) ks) := hints
    have HN : Hid (wc.heap[nb]? = some (.cells #[.int .i64 2, .string x1, .string x2, .string ⟨#[115, 117, 98, 115, 99, 114, 105, 112, 116, 105, 111, 110]⟩, .int .i64 x4, .int .i64 x5] 31 (0, 0))) := hN
    have p0 : wc.cell? ⟨nb, 0, none⟩ = some (.int .i64 2) := cell_of hN rfl
    have p1 : wc.cell? ⟨nb, 1, none⟩ = some (.string x1) := cell_of hN rfl
    have p3 : wc.cell? ⟨nb, 3, none⟩ = some (.string ⟨#[115, 117, 98, 115, 99, 114, 105, 112, 116, 105, 111, 110]⟩) := cell_of hN rfl
    have p4 : wc.cell? ⟨nb, 4, none⟩ = some (.int .i64 x4) := cell_of hN rfl
    have d2 := HM1.out.c2
    clear hints hN hT c0 n0 n1 n2 n3 n4 n5
    have f2 := HM1.out.f2
    have HKk : Hid (∀ x, x ∈ ks → x < l.length) := fun x hx => (HD.out.tree.kid hi (by rw [← HKS.out]; exact hx)).2.1
    have hk4 : ks.length ≤ 400 := by rw [HKS.out]; exact HD.out.tree.kids_len hi
    have HSEL : Hid (∀ x W, x ∈ ks → kd l x = 5 → MAt W mb b o cap l → Calls Tryz.prog 110 #[.pointer (some ⟨mb, 0, none⟩), .int .i64 (x : Int)] W (PtrGo W)) := fun x W hx h5 hW => by
      have h1 := HD.out.tree.kid hi (a := x) (by rw [← HKS.out]; exact hx)
      exact set_any l mb b o cap HD.out l.length x W (by omega) hW h1.2.1 h5
    have HEX : Hid (∃ x, x ∈ ks ∧ kd l x = 5) := by obtain ⟨x, h1, h2⟩ := (HD.out.shp i hi).sel (.inl HKD.out); exact ⟨x, by rw [HKS.out]; exact h1, h2⟩
    have HSA : Hid (Sm [] wc (wc.setCell ⟨mb, 2, none⟩ (.bool false))) := HM1.out.again (Sm.refl _ _)
    go_upto_region 5 with fail
    have HS0 : Hid (Sm [] w (wc.setCell ⟨mb, 2, none⟩ (.bool false))) := HT.out.trans HSA.out
    have HM2 : Hid (MAt (wc.setCell ⟨mb, 2, none⟩ (.bool false)) mb b o cap l) := HM1.out.sm HSA.out
    have HI2 : Hid (IntsAt (wc.setCell ⟨mb, 2, none⟩ (.bool false)) (.slice a ks.length kc) ks) := HI.out.sm0 HSA.out
    have p3' := HSA.out.keeps p3 (by simp)
    clear p0 p1 p3 p4 d2 f2
    generalize wc.setCell ⟨mb, 2, none⟩ (.bool false) = wd at *
    go_region_law (first
      | (go_simp; go_at_call 44; refine (perhaps_any l mb b o cap i _ ?_ hi).mono ?_; refine HM2.out.sm ?_; (repeat (first | exact Sm.refl _ _ | refine Sm.alloc ?_ _ | refine Sm.drew ?_ | refine Sm.drewN ?_ _)); rintro e w2 ⟨na, rfl, hna, _, _, hs2⟩; have hT2 : Sm [] wd w2 := (by refine Sm.trans ?_ hs2; (repeat (first | exact Sm.refl _ _ | refine Sm.alloc ?_ _ | refine Sm.drew ?_ | refine Sm.drewN ?_ _))); have g2 := hT2.keeps p3' (by simp))
      | (go_simp; go_at_call 45; refine (variables_any l mb b o cap kc a ks _ ?_ HD.out hk4 ?_ HKk.out).mono ?_; exact HM2.out.sm hT2; exact HI2.out.sm0 hT2; rintro e w3 ⟨va, vn, vc, rfl, hs3⟩; have hT3 := hT2.trans hs3; have g3 := hT3.keeps p3' (by simp))
      | (go_simp; go_at_call 46; refine (directives_any l mb b o cap kc a ks _ ?_ HD.out hk4 ?_ HKk.out).mono ?_; exact HM2.out.sm hT3; exact HI2.out.sm0 hT3; rintro e w4 ⟨da, dn, dc, rfl, hs4⟩; have hT4 := hT3.trans hs4; have g4 := hT4.keeps p3' (by simp))
      | (go_simp; go_at_call 47; refine (must_any l mb b o cap kc a ks _ ?_ HD.out hk4 ?_ HKk.out HSEL.out HEX.out).mono ?_; exact HM2.out.sm hT4; exact HI2.out.sm0 hT4; rintro e w5 ⟨sq, rfl, hs5⟩; have hT5 := hT4.trans hs5; have g5 := hT5.keeps p3' (by simp); have g5a := fun o => (sm_allc w5 o).keeps g5 (by simp))
      | (go_simp; go_at_call 23; refine (loc_any l mb b o cap i _ ?_ hi hn HSZ.out.1 HSZ.out.2).mono ?_; exact HM2.out.sm hT5; rintro e w6 ⟨rfl, rfl⟩)
      | (go_simp; go_at_call 43; refine (newOperationDefinition_any _ _ _ _ (obj_at (by simp)) rfl).mono ?_; intro e w8 h8; obtain ⟨rfl, s8, hs8, hq8⟩ := inPlace_obj h8 (by simp)))
    all_goals
      have hlo := hs8.obj (obj_alloc w5 (.cells (locC l i) 68 (0, 0))) (by simp)
      have hT8 : Sm [] w w8 := (HS0.out.trans (hT5.alloc _)).trans hs8
      have hnv : NameV w8 (.pointer na) (nm l i) := hna.sm (((hs3.trans hs4).trans hs5).trans (((Sm.refl _ _).alloc _).trans hs8))
      have hnw : w.heap.size ≤ w5.heap.size + 1 := by have := (HS0.out.trans hT5).size; omega
      have HP : Hid (DefPost l i w (.returned (.iface 45 (.pointer (some ⟨w5.heap.size + 1, 0, none⟩)))) w8) := ⟨_, _, rfl, .inl ⟨HKD.out, _, rfl, s8, _, _, _, _, _, _, _, _, _, _, hq8, hnv, hlo, fun h => by cases h⟩, (fun _ t q h => by cases h; exact hnw), hT8⟩
      clear hlo hT8 hnv hq8 hs8 h8 hna hs2 hs3 hs4 hs5 hT2 hT3 hT4 hT5
      go_wp2_with fail
      go_ret
      exact HP.out

set_option maxRecDepth 100000 in
set_option maxHeartbeats 8000000 in
theorem def_frag (l : List Nd) (mb b o cap i : Nat) (w : World) (hm : MAt w mb b o cap l) (hd : Doc l) (hi : i < l.length) (hk : kd l i = 3) :
    Calls Tryz.prog 21 #[.pointer (some ⟨mb, 0, none⟩), .int .i64 (i : Int)] w (DefPost l i w) := by
  have HNM : Hid (nm l i ≠ ByteArray.empty) := ((hd.frm i hi).frag hk).1
  have HTX : Hid (tx l i ≠ ByteArray.empty) := ((hd.frm i hi).frag hk).2
  have c0 := hm.c0
  obtain ⟨n0, n1, n2, n3, n4, n5⟩ := hm.doc i hi
  rw [← kd_at hi, hk] at n0
  rw [← nm_at hi] at n1
  rw [← tx_at hi] at n3
  obtain ⟨x1, hx1⟩ : ∃ x, x = nm l i := ⟨_, rfl⟩
  obtain ⟨x3, hx3⟩ : ∃ x, x = tx l i := ⟨_, rfl⟩
  rw [← hx1] at n1
  rw [← hx3] at n3
  generalize l[i].alias = x2 at *
  generalize l[i].flag = x4 at *
  generalize l[i].size = x5 at *
  have HX1 : Hid (x1 = nm l i) := hx1
  have HX3 : Hid (x3 = tx l i) := hx3
  have HK : Hid (∀ W, MAt W mb b o cap l → Calls Tryz.prog 20 #[.pointer (some ⟨mb, 0, none⟩), .int .i64 (i : Int)] W (KidsPost (kids l i) W)) := fun W h => mkids_any l mb b o cap i W h hd.tree hi
  obtain ⟨ks, hks⟩ : ∃ ks, ks = kids l i := ⟨_, rfl⟩
  rw [← hks] at HK
  have HKS : Hid (ks = kids l i) := hks
  have HSZ : Hid (1 ≤ sz l i ∧ i + sz l i ≤ l.length) := ⟨hd.tree.sz_pos hi, hd.tree.sz_le hi⟩
  have hn : l.length ≤ 2147483647 := by have := hd.tree.most; omega
  have z1 : (0 : Int) ≤ (i : Int) := by omega
  have z2 : (i : Int) < (l.length : Int) := by omega
  have HM : Hid (MAt w mb b o cap l) := hm
  have HD : Hid (Doc l) := hd
  have HKD : Hid (kd l i = 3) := hk
  have hne0 := World.new_ne _ _ c0
  have hne1 := World.new_ne _ _ n0
  clear hk hm hd hx1 hx3 hks
  go_enter Tryz.func21, Tryz.ntmps21
  go_upto_region 1 with fail
  go_cut [5, 6] from 7 to 16 (fun p k wx => XCut w ks ⟨3, x1, x2, x3, x4, x5⟩ p k wx)
  case first =>
    go_region_held3 (fun W => W.cell? ⟨mb, 0, none⟩ = some (.slice (some ⟨b, o, none⟩) l.length cap) ∧ W.cell? ⟨b, o + i * 6, none⟩ = some (.int .i64 3) ∧ W.cell? ⟨b, o + i * 6 + 1, none⟩ = some (.string x1) ∧ W.cell? ⟨b, o + i * 6 + 2, none⟩ = some (.string x2) ∧ W.cell? ⟨b, o + i * 6 + 3, none⟩ = some (.string x3) ∧ W.cell? ⟨b, o + i * 6 + 4, none⟩ = some (.int .i64 x4) ∧ W.cell? ⟨b, o + i * 6 + 5, none⟩ = some (.int .i64 x5)) (go_keep)
      (first
        | (go_at_call 20; refine (HK.out _ ?_).mono ?_; refine HM.out.sm ?_; (repeat (first | exact Sm.refl _ _ | refine Sm.alloc ?_ _ | refine Sm.drew ?_ | refine Sm.drewN ?_ _)); rintro e w2 ⟨a, kc, rfl, hints, hs2, hge⟩; have hT : Sm [] w w2 := (by refine Sm.trans ?_ hs2; (repeat (first | exact Sm.refl _ _ | refine Sm.alloc ?_ _ | refine Sm.drew ?_ | refine Sm.drewN ?_ _))); have g0 := hT.keeps c0 (by simp); have g1 := hT.keeps n0 (by simp); have g2 := hT.keeps n1 (by simp); have g3 := hT.keeps n2 (by simp); have g4 := hT.keeps n3 (by simp); have g5 := hT.keeps n4 (by simp); have g6 := hT.keeps n5 (by simp); have hz := hs2.obj (obj_alloc _ _) (by simp); have q0 := cell_of hz (i := 0) rfl; have q1 := cell_of hz (i := 1) rfl; have q2 := cell_of hz (i := 2) rfl; have q3 := cell_of hz (i := 3) rfl; have q4 := cell_of hz (i := 4) rfl; have q5 := cell_of hz (i := 5) rfl; have r0 := free_of hz 0; have r1 := free_of hz 1; have r2 := free_of hz 2; have r3 := free_of hz 3; have r4 := free_of hz 4; have r5 := free_of hz 5)
        | (go_at_call 20; refine (HK.out _ ?_).mono ?_; refine HM.out.sm ?_; (repeat (first | exact Sm.refl _ _ | refine Sm.alloc ?_ _ | refine Sm.drew ?_ | refine Sm.drewN ?_ _)); rintro e w2 ⟨a, kc, rfl, hints, hs2, hge⟩; have hT : Sm [] w w2 := (by refine Sm.trans ?_ hs2; (repeat (first | exact Sm.refl _ _ | refine Sm.alloc ?_ _ | refine Sm.drew ?_ | refine Sm.drewN ?_ _))); have g0 := hT.keeps c0 (by simp); have g1 := hT.keeps n0 (by simp); have g2 := hT.keeps n1 (by simp); have g3 := hT.keeps n2 (by simp); have g4 := hT.keeps n3 (by simp); have g5 := hT.keeps n4 (by simp); have g6 := hT.keeps n5 (by simp)))
    all_goals
      go_wp2_with fail
      go_meet
      first
      | exact xcut_a hT hints _ _ _ _ _ _
      | exact xcut_b hT hints hz (Nat.le_refl _) hge (by simp) _ _ _ _ _ _
  case rest =>
    obtain ⟨nb, a, kc, rfl, rfl, hints, hN, hT, hnb⟩ := hcut
    have HM1 : Hid (MAt wc mb b o cap l) := HM.out.sm hT
    have HT : Hid (Sm [] w wc) := hT
    have HI : Hid (IntsAt wc (.slice a ks.length kc) ks) := hints
    have HN : Hid (wc.heap[nb]? = some (.cells #[.int .i64 3, .string x1, .string x2, .string x3, .int .i64 x4, .int .i64 x5] 31 (0, 0))) := hN
    have p0 : wc.cell? ⟨nb, 0, none⟩ = some (.int .i64 3) := cell_of hN rfl
    have p1 : wc.cell? ⟨nb, 1, none⟩ = some (.string x1) := cell_of hN rfl
    have p3 : wc.cell? ⟨nb, 3, none⟩ = some (.string x3) := cell_of hN rfl
    have p4 : wc.cell? ⟨nb, 4, none⟩ = some (.int .i64 x4) := cell_of hN rfl
    have d2 := HM1.out.c2
    clear hints hN hT c0 n0 n1 n2 n3 n4 n5
    have f2 := HM1.out.f2
    have HKk : Hid (∀ x, x ∈ ks → x < l.length) := fun x hx => (HD.out.tree.kid hi (by rw [← HKS.out]; exact hx)).2.1
    have hk4 : ks.length ≤ 400 := by rw [HKS.out]; exact HD.out.tree.kids_len hi
    have HSEL : Hid (∀ x W, x ∈ ks → kd l x = 5 → MAt W mb b o cap l → Calls Tryz.prog 110 #[.pointer (some ⟨mb, 0, none⟩), .int .i64 (x : Int)] W (PtrGo W)) := fun x W hx h5 hW => by
      have h1 := HD.out.tree.kid hi (a := x) (by rw [← HKS.out]; exact hx)
      exact set_any l mb b o cap HD.out l.length x W (by omega) hW h1.2.1 h5
    have HEX : Hid (∃ x, x ∈ ks ∧ kd l x = 5) := by obtain ⟨x, h1, h2⟩ := (HD.out.shp i hi).sel (.inr (.inl HKD.out)); exact ⟨x, by rw [HKS.out]; exact h1, h2⟩
    have HSA : Hid (Sm [] wc (wc.setCell ⟨mb, 2, none⟩ (.bool false))) := HM1.out.again (Sm.refl _ _)
    have e0 : ¬ x3.toList = [] := ne_nil (by rw [HX3.out]; exact HTX.out)
    have e1 : x3.toList.isEmpty = false := by simpa using e0
    have HS0 : Hid (Sm [] w (wc.setCell ⟨mb, 2, none⟩ (.bool false))) := HT.out.trans HSA.out
    have HM2 : Hid (MAt (wc.setCell ⟨mb, 2, none⟩ (.bool false)) mb b o cap l) := HM1.out.sm HSA.out
    have HI2 : Hid (IntsAt (wc.setCell ⟨mb, 2, none⟩ (.bool false)) (.slice a ks.length kc) ks) := HI.out.sm0 HSA.out
    go_wp2_with fail
    refine (called_any l mb b o cap i _ HM2.out hi HNM.out).mono ?_
    rintro e w2 ⟨nq, rfl, hna, hs2⟩
    have HNA : Hid (NameV w2 (.pointer (some ⟨nq, 0, none⟩)) (nm l i)) := hna
    have HM3 : Hid (MAt w2 mb b o cap l) := HM2.out.sm hs2
    have HI3 : Hid (IntsAt w2 (.slice a ks.length kc) ks) := HI2.out.sm0 hs2
    have HS2 : Hid (Sm [] w w2) := HS0.out.trans hs2
    clear hna hs2
    go_wp2_with fail
    refine (condition_any l mb b o cap i _ HM3.out hi).mono ?_
    rintro e w3 ⟨ca, rfl, hs3⟩
    have HM4 : Hid (MAt w3 mb b o cap l) := HM3.out.sm hs3
    have HI4 : Hid (IntsAt w3 (.slice a ks.length kc) ks) := HI3.out.sm0 hs3
    have HS3 : Hid (Sm [] w2 w3) := hs3
    clear hs3
    go_wp2_with fail
    refine (directives_any l mb b o cap kc a ks _ HM4.out HD.out hk4 HI4.out HKk.out).mono ?_
    rintro e w4 ⟨da, dn, dc, rfl, hs4⟩
    have HM5 : Hid (MAt w4 mb b o cap l) := HM4.out.sm hs4
    have HI5 : Hid (IntsAt w4 (.slice a ks.length kc) ks) := HI4.out.sm0 hs4
    have HS4 : Hid (Sm [] w2 w4) := HS3.out.trans hs4
    clear hs4
    go_wp2_with fail
    refine (must_any l mb b o cap kc a ks _ HM5.out HD.out hk4 HI5.out HKk.out HSEL.out HEX.out).mono ?_
    rintro e w5 ⟨sq, rfl, hs5⟩
    have HM6 : Hid (MAt w5 mb b o cap l) := HM5.out.sm hs5
    have HS5 : Hid (Sm [] w2 w5) := HS4.out.trans hs5
    clear hs5
    go_wp2_with fail
    refine (loc_any l mb b o cap i _ HM6.out hi hn HSZ.out.1 HSZ.out.2).mono ?_
    rintro e w6 ⟨rfl, rfl⟩
    go_wp2_with fail
    refine (newFragmentDefinition_any _ _ _ _ _ _ _ _ _ _ _ _ _ _ (obj_at (by simp))).mono ?_
    rintro e w8 ⟨s8, rfl, rfl⟩
    go_wp2_with fail
    go_ret
    have sm : Sm [] w2 _ := (((HS5.out.alloc (.cells (locC l i) 68 (0, 0))).alloc (.cells #[.string ⟨#[]⟩, .pointer (some ⟨w5.heap.size, 0, none⟩), .string ⟨#[]⟩, .pointer (some ⟨nq, 0, none⟩), .slice none 0 0, .pointer ca, .slice da dn dc, .pointer (some ⟨sq, 0, none⟩)] 119 (0, 0))).alloc (.cells #[.string s8, .pointer (some ⟨w5.heap.size, 0, none⟩), .string ⟨#[]⟩, .pointer (some ⟨nq, 0, none⟩), .slice none 0 0, .pointer ca, .slice da dn dc, .pointer (some ⟨sq, 0, none⟩)] 119 (0, 0))).drew
    exact ⟨_, _, rfl, .inr ⟨HKD.out, _, rfl, _, _, obj_drew (obj_at (by simp)), rfl, HNA.out.sm sm⟩, (fun h => by rw [HKD.out] at h; cases h), HS2.out.trans sm⟩

theorem definition_any (l : List Nd) (mb b o cap i : Nat) (w : World) (hm : MAt w mb b o cap l) (hd : Doc l) (hi : i < l.length) (hk : kd l i = 2 ∨ kd l i = 3) : Calls Tryz.prog 21 #[.pointer (some ⟨mb, 0, none⟩), .int .i64 (i : Int)] w (DefPost l i w) := by
  rcases hk with hk | hk
  · rcases (hd.frm i hi).op hk with h | h | h
    · exact def_query l mb b o cap i w hm hd hi hk h
    · exact def_mutation l mb b o cap i w hm hd hi hk h
    · exact def_subscription l mb b o cap i w hm hd hi hk h
  · exact def_frag l mb b o cap i w hm hd hi hk

end

end Go.Proofs.YtigpnidffiaigaaGreat
