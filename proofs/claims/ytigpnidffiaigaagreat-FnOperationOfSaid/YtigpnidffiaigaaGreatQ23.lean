/- Walks: the maker: the document. -/
import Derived.Test.YtigpnidffiaigaaGreatProg
import Derived.BigRegion
import Derived.Deep.RegionLaw
import Derived.Deep.AppendLies
import Derived.Test.YtigpnidffiaigaaGreatQ22
set_option linter.unusedVariables false
set_option linter.unusedSimpArgs false
namespace Go.Proofs.YtigpnidffiaigaaGreat

section
open Go.RowKit
attribute [local go_sem ↓] Go.wp_at_zero Go.wp_at_succ

theorem infoNode : (Tryz.prog.info? 44).map (fun i => (i.zero, i.size, i.bytes)) = some (some .nilIface, 1, 16) := by kernel_rfl

/-- blocks of other types than those of definitions -/
def Alien (w : World) (X : List Nat) : Prop := ∀ b, b ∈ X → ∃ cs T, w.heap[b]? = some (.cells cs T (0, 0)) ∧ T ≠ 52 ∧ T ≠ 96 ∧ T ≠ 68 ∧ T ≠ 119
theorem Alien.far {w : World} {X : List Nat} (h : Alien w X) {q : Nat} {cs : Array Value} {T : TypeId} (hq : w.heap[q]? = some (.cells cs T (0, 0))) (hT : T = 52 ∨ T = 96 ∨ T = 68 ∨ T = 119) : q ∉ X := fun hx => by
  obtain ⟨cs', T', h1, h2, h3, h4, h5⟩ := h q hx
  rw [hq] at h1
  simp only [Option.some.injEq, Obj.cells.injEq] at h1
  obtain ⟨_, rfl, _⟩ := h1
  rcases hT with h | h | h | h
  · exact h2 h
  · exact h3 h
  · exact h4 h
  · exact h5 h
theorem NameV.smX {X : List Nat} {w w' : World} {v : Value} {s : ByteArray} (h : NameV w v s) (hs : Sm X w w') (hx : Alien w X) : NameV w' v s := by
  rcases h with h | ⟨h1, b, k, lo, h2, h3⟩
  · exact .inl h
  · exact .inr ⟨h1, b, k, lo, h2, hs.obj h3 (hx.far h3 (.inr (.inl rfl)))⟩
theorem DefAt.smX {X : List Nat} {w w' : World} {l : List Nd} {k : Nat} {v : Value} {c : Bool} (h : DefAt w l k v c) (s : Sm X w w') (hx : Alien w X) : DefAt w' l k v c := by
  rcases h with ⟨h1, q, h2, s1, op, lo, na, va, da, vn, vc, dn, dc, sq, g1, g2, g3, g4⟩ | ⟨h1, q, h2, cs, na, g1, g2, g3⟩
  · exact .inl ⟨h1, q, h2, s1, op, lo, na, va, da, vn, vc, dn, dc, sq, s.obj g1 (hx.far g1 (.inl rfl)), g2.smX s hx, s.obj g3 (hx.far g3 (.inr (.inr (.inl rfl)))), g4⟩
  · exact .inr ⟨h1, q, h2, cs, na, s.obj g1 (hx.far g1 (.inr (.inr (.inr rfl)))), g2, g3.smX s hx⟩

theorem copied_obj {W w' : World} {o : Obj} {T : TypeId} {rest : List Value} {e : Ending} {k : Nat} (h : Copied T rest (W.alloc o) e w') (hk : W.heap.size = k) :
    ∃ s : ByteArray, e = .returned (.pointer (some ⟨k + 1, 0, none⟩)) ∧ Sm [] W w' ∧ w'.heap[k + 1]? = some (.cells (Value.string s :: rest).toArray T (0, 0)) := by
  subst hk
  obtain ⟨s, h1, rfl⟩ := h
  refine ⟨s, by rw [h1]; simp, (((Sm.refl _ _).alloc _).drew).alloc _, obj_at (by simp)⟩
theorem copied_obj' {W w' : World} {o : Obj} {T : TypeId} {rest : List Value} {e : Ending} {k : Nat} (h : Copied T rest (W.alloc o).drew e w') (hk : W.heap.size = k) :
    ∃ s : ByteArray, e = .returned (.pointer (some ⟨k + 1, 0, none⟩)) ∧ Sm [] W w' ∧ w'.heap[k + 1]? = some (.cells (Value.string s :: rest).toArray T (0, 0)) := by
  subst hk
  obtain ⟨s, h1, rfl⟩ := h
  refine ⟨s, by rw [h1]; simp, (((Sm.refl _ _).alloc _).drew.drew).alloc _, obj_at (by simp)⟩

def DocRel (l : List Nd) (kz : List Nat) (w w1 : World) (g : Nat) (v u : Value) (wr : World) : Prop :=
  ∃ (j : Nat) (xs : List Value), j ≤ kz.length ∧ u = .int .i64 (j : Int) ∧ wr.ownsRow w.heap.size 44 1 v xs.length xs ∧ xs.length = j ∧ Sm [] w wr ∧ Sm [w.heap.size] w1 wr ∧ (∀ b, v.ownBlock = some b → b = w.heap.size ∨ w1.heap.size ≤ b) ∧
    (∀ i, i < j → DefAt wr l (kz.getD i 0) (xs.getD i .nilIface) false ∧ NewOp l (kz.getD i 0) (xs.getD i .nilIface) w.heap.size) ∧ g = kz.length - j
theorem docRel_start {l : List Nd} {kz : List Nat} {w w1 : World} (h : Sm [] (w.alloc (.cells #[] 44 (0, 0))) w1) : DocRel l kz w w1 kz.length (.slice (some ⟨w.heap.size, 0, none⟩) 0 0) (.int .i64 0) w1 :=
  ⟨0, [], Nat.zero_le _, rfl, own_sm (own_empty w _ _ _ (Nat.le_refl _) rfl) h, rfl, ((Sm.refl _ _).alloc _).trans h, Sm.refl _ _, (fun b hb => by simp [Value.ownBlock] at hb; exact .inl hb.symm), (fun i hi => by omega), rfl⟩
theorem own_alien {w : World} {base n : Nat} {v : Value} {xs : List Value} (h : w.ownsRow base 44 1 v n xs) : ∀ b, v.ownBlock = some b → Alien w [b] := by
  intro b hb
  rcases h.2 with ⟨rfl, _⟩ | ⟨g, cap, cur, rfl, _, hh, _⟩
  · cases hb
  · simp only [Value.ownBlock, Option.some.injEq] at hb
    subst hb
    intro b' hb'
    simp at hb'
    subst hb'
    exact ⟨cur, _, hh, by decide, by decide, by decide, by decide⟩
theorem grown_def {w w' : World} {base n : Nat} {v z : Value} {xs : List Value} {l : List Nd} {k : Nat} {c : Bool} (h : DefAt w l k z c) (hown : w.ownsRow base 44 1 v n xs) (hg : w.grownBy w' v.ownBlock) : DefAt w' l k z c := by
  cases hb : v.ownBlock with
  | none => exact h.sm ((Sm.refl _ _).grown (row := none) (by rw [← hb]; exact hg) (fun b e => by cases e))
  | some g => exact h.smX (X := [g]) ((Sm.refl _ _).grown (row := some g) (by rw [← hb]; exact hg) (fun b e => by cases e; exact .inr (by simp))) (own_alien hown g hb)
theorem docRel_next {l : List Nd} {kz : List Nat} {w w1 W w' : World} {j g cap : Nat} {v u z : Value} {xs : List Value} (hj : j < kz.length) (hu : u = .int .i64 ((j : Int) + 1)) (hx : xs.length = j) (ht : Sm [] w W) (ht1 : Sm [w.heap.size] w1 W) (hown : W.ownsRow w.heap.size 44 1 v xs.length xs)
    (hg : W.grownBy w' v.ownBlock) (hv : ∀ b, v.ownBlock = some b → b = w.heap.size ∨ w1.heap.size ≤ b) (hat : v.ownBlock = some g ∨ g = W.heap.size + 1) (h : w'.ownsRow w.heap.size 44 1 (.slice (some ⟨g, 0, none⟩) (xs.length + 1) cap) (xs.length + 1) (xs ++ [z]))
    (hd : ∀ i, i < j → DefAt W l (kz.getD i 0) (xs.getD i .nilIface) false ∧ NewOp l (kz.getD i 0) (xs.getD i .nilIface) w.heap.size) (hz : DefAt W l (kz.getD j 0) z false) (hzn : NewOp l (kz.getD j 0) z w.heap.size) : DocRel l kz w w1 (kz.length - (j + 1)) (.slice (some ⟨g, 0, none⟩) (xs.length + 1) cap) u w' := by
  refine ⟨j + 1, xs ++ [z], hj, by rw [hu]; push_cast; rfl, by simpa using h, by simp [hx], ht.grown hg (fun b hb => .inl (hown.lt b hb).1), ht1.grown hg (fun b hb => by rcases hv b hb with h | h; exact .inr (by simp [h]); exact .inl h), ?_, ?_, rfl⟩
  · intro b hb
    simp [Value.ownBlock] at hb
    subst hb
    rcases hat with h | h
    · exact hv _ h
    · have := ht1.size; exact .inr (by omega)
  · intro i hi
    by_cases e : i = j
    · subst e
      have e1 : (xs ++ [z]).getD i .nilIface = z := by simp [List.getD_eq_getElem?_getD, ← hx]
      rw [e1]
      exact ⟨grown_def hz hown hg, hzn⟩
    · have e1 : (xs ++ [z]).getD i .nilIface = xs.getD i .nilIface := by
        simp only [List.getD_eq_getElem?_getD]
        rw [List.getElem?_append_left (by omega)]
      rw [e1]
      exact ⟨grown_def (hd i (by omega)).1 hown hg, (hd i (by omega)).2⟩

/-- a document in memory: its definitions -/
def DocV (w : World) (l : List Nd) (ks : List Nat) (q : Nat) (cleared : Nat → Bool) : Prop :=
  ∃ (s : ByteArray) (lo : Option Addr) (a : Option Addr) (c : Nat) (vs : List Value), w.heap[q]? = some (.cells #[.string s, .pointer lo, .slice a ks.length c] 42 (0, 0)) ∧ ks.length ≤ c ∧ c ≤ maxLen ∧ vs.length = ks.length ∧
    (∀ j, j < ks.length → ∃ g, a = some ⟨g, 0, none⟩ ∧ w.cell? ⟨g, j, none⟩ = some (vs.getD j .nilIface)) ∧ (∀ g, a = some ⟨g, 0, none⟩ → Alien w [g]) ∧ ∀ j, j < ks.length → DefAt w l (ks.getD j 0) (vs.getD j .nilIface) (cleared j)
/-- .. and its operations are new -/
def DocN (w : World) (l : List Nd) (ks : List Nat) (q : Nat) (n : Nat) : Prop :=
  ∃ (s : ByteArray) (lo : Option Addr) (a : Option Addr) (c : Nat) (vs : List Value), w.heap[q]? = some (.cells #[.string s, .pointer lo, .slice a ks.length c] 42 (0, 0)) ∧ ks.length ≤ c ∧ c ≤ maxLen ∧ vs.length = ks.length ∧
    (∀ j, j < ks.length → ∃ g, a = some ⟨g, 0, none⟩ ∧ w.cell? ⟨g, j, none⟩ = some (vs.getD j .nilIface)) ∧ (∀ g, a = some ⟨g, 0, none⟩ → Alien w [g]) ∧ ∀ j, j < ks.length → DefAt w l (ks.getD j 0) (vs.getD j .nilIface) false ∧ NewOp l (ks.getD j 0) (vs.getD j .nilIface) n
def DocPost (l : List Nd) (w : World) (e : Ending) (w' : World) : Prop := ∃ q : Nat, e = .returned (.tuple #[.pointer (some ⟨q, 0, none⟩), .bool true]) ∧ DocN w' l (kids l 0) q w.heap.size ∧ Sm [] w w'

theorem size_alloc (w : World) (o : Obj) : (w.alloc o).heap.size = w.heap.size + 1 := by simp
theorem own_read {w : World} {base n c : Nat} {T : TypeId} {a : Option Addr} {xs : List Value} (h : w.ownsRow base T 1 (.slice a n c) n xs) : xs.length = n ∧ n ≤ c ∧ c ≤ maxLen ∧ (∀ j, j < n → ∃ g, a = some ⟨g, 0, none⟩ ∧ w.cell? ⟨g, j, none⟩ = some (xs.getD j .nilIface)) ∧ (∀ g, a = some ⟨g, 0, none⟩ → ∃ cs, w.heap[g]? = some (.cells cs T (0, 0))) := by
  obtain ⟨h0, h | ⟨g, cap, cur, hv, hb, hh, h1, h2, h3, h4⟩⟩ := h
  · obtain ⟨h, rfl⟩ := h
    simp only [Value.slice.injEq] at h
    obtain ⟨rfl, _, rfl⟩ := h
    exact ⟨by simpa using h0, Nat.le_refl _, by decide, fun j hj => by omega, fun g hg => by cases hg⟩
  · simp only [Value.slice.injEq] at hv
    obtain ⟨rfl, _, rfl⟩ := hv
    refine ⟨by simpa using h0, h1, h2, fun j hj => ⟨g, rfl, ?_⟩, fun g' hg' => ?_⟩
    · have e1 : cur[j]? = some (xs.getD j .nilIface) := by
        rw [← h4, List.getD_eq_getElem?_getD, List.getElem?_take]
        have : j < n * 1 := by omega
        rw [if_pos this]
        have hj2 : j < cur.size := by omega
        simp [hj2]
      exact cell_of hh e1
    · simp only [Option.some.injEq, Addr.mk.injEq] at hg'
      exact ⟨cur, by rw [← hg'.1]; exact hh⟩
theorem docV_of {w wr w8 : World} {l : List Nd} {ks : List Nat} {a2 : Option Addr} {c2 q lo : Nat} {s8 : ByteArray} {xs : List Value} (hown : wr.ownsRow w.heap.size 44 1 (.slice a2 xs.length c2) xs.length xs) (hx : ks.length = xs.length)
    (hs : Sm [] wr w8) (hd : ∀ i, i < xs.length → DefAt wr l (ks.getD i 0) (xs.getD i .nilIface) false ∧ NewOp l (ks.getD i 0) (xs.getD i .nilIface) w.heap.size) (hq : w8.heap[q]? = some (.cells #[.string s8, .pointer (some ⟨lo, 0, none⟩), .slice a2 xs.length c2] 42 (0, 0))) :
    DocN w8 l ks q w.heap.size := by
  obtain ⟨h1, h2, h3, h4, h5⟩ := own_read hown
  refine ⟨s8, _, a2, c2, xs, by rw [hx]; exact hq, by rw [hx]; exact h2, h3, hx.symm, fun j hj => ?_, fun g hg => ?_, fun j hj => ⟨(hd j (by omega)).1.sm hs, (hd j (by omega)).2⟩⟩
  · obtain ⟨g, e1, e2⟩ := h4 j (by omega)
    exact ⟨g, e1, hs.keeps e2 (by simp)⟩
  · obtain ⟨cs, e⟩ := h5 g hg
    intro b hb
    simp at hb
    subst hb
    exact ⟨cs, _, hs.obj e (by simp), by decide, by decide, by decide, by decide⟩
set_option maxRecDepth 100000 in
set_option maxHeartbeats 8000000 in
theorem document_step (l : List Nd) (mb b o cap : Nat) (w : World) (hm : MAt w mb b o cap l) (hd : Doc l) (hk1 : kd l 0 = 1) (hdf : ∀ a, a ∈ kids l 0 → kd l a = 2 ∨ kd l a = 3) :
    Calls Tryz.prog 15 #[.pointer (some ⟨mb, 0, none⟩)] w (DocPost l w) := by
  have HM0 : Hid (MAt w mb b o cap l) := hm
  have HD : Hid (Doc l) := hd
  have hi : 0 < l.length := hd.tree.len
  have HSZI : Hid (1 ≤ sz l 0 ∧ 0 + sz l 0 ≤ l.length) := ⟨hd.tree.sz_pos hi, by rw [hd.tree.root]; omega⟩
  have hn : l.length ≤ 2147483647 := by have := hd.tree.most; omega
  have HKI : Hid (∀ W, MAt W mb b o cap l → Calls Tryz.prog 20 #[.pointer (some ⟨mb, 0, none⟩), .int .i64 0] W (KidsPost (kids l 0) W)) := fun W h => mkids_any l mb b o cap 0 W h hd.tree hi
  have HKK : Hid (∀ k, k ∈ kids l 0 → k < l.length ∧ (kd l k = 2 ∨ kd l k = 3)) := fun k h => ⟨(hd.tree.kid hi h).2.1, hdf k h⟩
  have hkl : (kids l 0).length ≤ 400 := hd.tree.kids_len hi
  have c0 := hm.c0
  have n0 := (hm.doc 0 hi).c0
  have n5 := (hm.doc 0 hi).c5
  rw [← kd_at hi, hk1] at n0
  rw [size_cast hi HSZI.out.1, hd.tree.root] at n5
  simp only [Nat.zero_mul, Nat.add_zero] at n0 n5
  have z0 : ((l.length : Int) == 0) = false := beq_eq_false_iff_ne.2 (by omega)
  obtain ⟨kz, hkz⟩ : ∃ kz, kz = kids l 0 := ⟨_, rfl⟩
  rw [← hkz] at HKI HKK hkl
  have HKZ : Hid (kz = kids l 0) := hkz
  clear hm hd hk1 hdf hkz
  go_enter Tryz.func15, Tryz.ntmps15
  go_wp2_with fail
  refine (HKI.out _ (HM0.out.sm ((Sm.refl _ _).alloc _))).mono ?_
  rintro e w1 ⟨za, zc, rfl, hzi, hs1, hzg⟩
  have HZI : Hid (IntsAt w1 (.slice za kz.length zc) kz) := hzi
  have HS1 : Hid (Sm [] (w.alloc (.cells #[] 44 (0, 0))) w1) := hs1
  have HZG : Hid (∀ b o, za = some ⟨b, o, none⟩ → w.heap.size + 1 ≤ b) := fun b o h => by have := hzg b o h; simpa using this
  clear hzi hs1 hzg
  go_wp2_with fail
  go_loopg [5, 7, 8, 36] kz.length (fun g v _ _ u wr => DocRel l kz w w1 g v u wr)
  case atStart => exact docRel_start HS1.out
  case round =>
    unfold DocRel at hrel
    obtain ⟨j, xs, hj, rfl, hown, rfl, hs, hs1, hvb, hdd, rfl⟩ := hrel
    have HS : Hid (Sm [] w wr) := hs
    have HS2 : Hid (Sm [w.heap.size] w1 wr) := hs1
    have HVB : Hid (∀ b, _ = some b → b = w.heap.size ∨ w1.heap.size ≤ b) := hvb
    have HM : Hid (MAt wr mb b o cap l) := HM0.out.sm hs
    have HDD : Hid (∀ i, i < xs.length → DefAt wr l (kz.getD i 0) (xs.getD i .nilIface) false ∧ NewOp l (kz.getD i 0) (xs.getD i .nilIface) w.heap.size) := hdd
    have y1 : (0 : Int) ≤ (xs.length : Int) := by omega
    clear hdd
    by_cases hlt : xs.length < kz.length
    · have y2 : (xs.length : Int) < (kz.length : Int) := by omega
      obtain ⟨xb, xo, rfl, _, hxc⟩ := ints_at (ints_keep HZI.out hs1 HZG.out) hlt
      have hmem := getD_memN hlt
      have HKD : Hid (∃ k, k = kz.getD xs.length 0) := ⟨_, rfl⟩
      obtain ⟨k, hk⟩ := HKD
      rw [← hk] at hxc hmem
      have HKJ : Hid (k = kz.getD xs.length 0) := hk
      obtain ⟨hkl2, hkk⟩ := HKK.out k hmem
      have z1 : (0 : Int) ≤ (k : Int) := by omega
      have z2 : (k : Int) < (l.length : Int) := by omega
      have HC : Hid (Calls Tryz.prog 21 #[.pointer (some ⟨mb, 0, none⟩), .int .i64 (k : Int)] wr (DefPost l k wr)) := definition_any l mb b o cap k wr HM.out HD.out hkl2 hkk
      have hkz : kz.length - xs.length ≤ 400 := by omega
      clear hs hs1 hmem hvb hk hkk c0 n0 n5
      go_wp2_with fail
      refine HC.out.mono ?_
      rintro e w8 ⟨t8, v8, rfl, hz, hzn, hs8⟩
      have HZN : Hid (NewOp l (kz.getD xs.length 0) (.iface t8 v8) w.heap.size) := by rw [← HKJ.out]; exact fun h2 t q h => Nat.le_trans HS.out.size (hzn h2 t q h)
      have HZ : Hid (DefAt w8 l (kz.getD xs.length 0) (.iface t8 v8) false) := by rw [← HKJ.out]; exact hz
      have d2 := (HM.out.sm hs8).c2
      have hown8 := own_sm hown hs8
      have HDD8 : Hid (∀ i, i < xs.length → DefAt w8 l (kz.getD i 0) (xs.getD i .nilIface) false ∧ NewOp l (kz.getD i 0) (xs.getD i .nilIface) w.heap.size) := fun i h => ⟨(HDD.out i h).1.sm hs8, (HDD.out i h).2⟩
      have HT8 : Hid (Sm [] w w8) := HS.out.trans hs8
      have HT9 : Hid (Sm [w.heap.size] w1 w8) := HS2.out.trans hs8.of_nil
      have hz8 : w.heap.size ≤ w8.heap.size := HT8.out.size
      clear hown hz hzn hs8
      go_wp2_with (at_builtin; refine app1 _ rfl _ _ _ rfl 44 _ 1 16 Tryz.underlying40 infoNode rfl (by omega) (by omega) _ xs.length xs rfl hown8 _ rfl rfl (by simp [Value.oneCell']) (by omega) hz8 ?_)
      intro g gcap w9 q1 q2 q3 q4
      have HN3 : Hid (DocRel l kz w w1 (kz.length - (xs.length + 1)) (.slice (some ⟨g, 0, none⟩) (xs.length + 1) gcap) (.int .i64 ((xs.length : Int) + 1)) w9) := docRel_next hlt rfl rfl HT8.out HT9.out hown8 q2 HVB.out q3 q1 HDD8.out HZ.out HZN.out
      clear q1 q2 q3 q4 hown8
      go_wp2_with fail
      go_roundg (kz.length - (xs.length + 1))
      case measure => omega
      case rel => exact HN3.out
    · have y2 : ¬ ((xs.length : Int) < (kz.length : Int)) := by omega
      obtain ⟨a2, c2, rfl⟩ := own_slice hown
      have HOWN : Hid (World.ownsRow wr w.heap.size 44 1 (.slice a2 xs.length c2) xs.length xs) := hown
      have HMD : Hid (MAt wr.drew mb b o cap l) := HM.out.sm ((Sm.refl _ _).drew)
      have d2 := HM.out.c2
      have d2a := fun o => (sm_allc wr o).keeps d2 (by simp)
      have d2b := fun o o' => (sm_allc (wr.alloc o) o').keeps (d2a o) (by simp)
      have hxe : kz.length = xs.length := by omega
      clear hown hs hs1 hvb c0 n0 n5
      go_upto_region 13 with fail
      go_region_law (first
        | (go_simp; go_at_call 23; refine (loc_any l mb b o cap 0 _ HMD.out hi hn HSZI.out.1 HSZI.out.2).mono ?_; rintro e w6 ⟨rfl, rfl⟩)
        | (go_simp; go_at_call 22; refine (newDocument_any _ _ _ _ _ _ _ (obj_drew (obj_at (size_alloc _ _)))).mono ?_; intro e w8 h8; obtain ⟨s8, rfl, hs8, hq8⟩ := copied_obj' h8 rfl; have d2c := hs8.keeps (d2a _) (by simp)))
      all_goals
        have HP : Hid (DocPost l w (.returned (.tuple #[.pointer (some ⟨(wr.alloc (.cells (locC l 0) 68 (0, 0))).heap.size + 1, 0, none⟩), .bool true])) w8) := ⟨_, rfl, by rw [← HKZ.out]; exact docV_of HOWN.out hxe ((sm_allc _ _).trans hs8) HDD.out hq8, HS.out.trans ((sm_allc _ _).trans hs8)⟩
        clear hq8 hs8 h8
        go_wp2_with fail
        go_ret2
        simpa using HP.out

theorem implDocument_any (l : List Nd) (b o cap : Nat) (w : World) (hdoc : DocAt w b o l) (hr : Right l) :
    Calls Tryz.prog 12 #[.slice (some ⟨b, o, none⟩) l.length cap] w (DocPost l w) := by
  have HD : Hid (DocAt w b o l) := hdoc
  have HR : Hid (Right l) := hr
  clear hdoc hr
  go_enter Tryz.func12, Tryz.ntmps12
  go_wp2_with fail
  refine (document_step l w.heap.size b o cap _ ⟨obj_alloc _ _, HD.out.sm0 (sm_allc _ _)⟩ ⟨HR.out.tree, HR.out.shp, HR.out.frm⟩ HR.out.doc HR.out.defs).mono ?_
  rintro e w' ⟨q, rfl, hv, hs⟩
  have HV : Hid (DocN w' l (kids l 0) q w.heap.size) := by
    obtain ⟨s1, lo, a, c, vs, h1, h2, h3, h4, h5, h6, h7⟩ := hv
    exact ⟨s1, lo, a, c, vs, h1, h2, h3, h4, h5, h6, fun j hj => ⟨(h7 j hj).1, fun h8 t q h9 => Nat.le_trans (sm_allc w _).size ((h7 j hj).2 h8 t q h9)⟩⟩
  have HS : Hid (Sm [] w w') := (sm_allc _ _).trans hs
  clear hv hs
  go_wp2_with fail
  go_ret2
  exact ⟨q, rfl, HV.out, HS.out⟩

end

end Go.Proofs.YtigpnidffiaigaaGreat
