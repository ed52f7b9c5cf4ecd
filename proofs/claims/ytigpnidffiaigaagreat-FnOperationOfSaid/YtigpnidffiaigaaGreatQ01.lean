/- Plain words on memory: what a call leaves as it was; blocks that are known whole. Plain words: tokens, nodes, the reference's grammar as functions over tokens. No Go, no memory. Plain words: lists of nodes that are trees; what a document's nodes are held to. No Go, no memory. Plain words on memory: lists of places, lists of nodes. -/
import Derived.WalkKit
import Derived.ProofKit
import Derived.KernelRfl
import Derived.WalkLawsBesides
import Derived.WalkSpells
import Derived.Handy
import Derived.Deep.RegionHeld3
import Derived.Deep.DrawnRows
import Derived.Deep.AppendLies
import Derived.Deep.LoopGhost
import Derived.Deep.QuietTactic
import Derived.BigQuiet
import Derived.Test.YtigpnidffiaigaaGreatProg
set_option linter.unusedVariables false
set_option linter.unusedSimpArgs false
namespace Go.Proofs.YtigpnidffiaigaaGreat

section
open Go.RowKit

/-- From world w to world w' nothing that was there has turned but in the blocks that X names. -/
structure Sm (X : List Nat) (w w' : World) : Prop where
  os : w'.os = w.os
  tape : w'.tape = w.tape
  output : w'.output = w.output
  size : w.heap.size ≤ w'.heap.size
  block : ∀ k, k < w.heap.size → k ∉ X → w'.heap[k]? = w.heap[k]?

variable {X Y : List Nat} {w a b c w1 w2 w3 : World}

theorem Sm.refl (X : List Nat) (w : World) : Sm X w w := ⟨rfl, rfl, rfl, Nat.le_refl _, fun _ _ _ => rfl⟩
theorem Sm.trans (h : Sm X a b) (k : Sm X b c) : Sm X a c :=
  ⟨k.os.trans h.os, k.tape.trans h.tape, k.output.trans h.output, Nat.le_trans h.size k.size, fun i hi hx => (k.block i (Nat.lt_of_lt_of_le hi h.size) hx).trans (h.block i hi hx)⟩
theorem Sm.mono (h : Sm X a b) (hx : ∀ k, k ∈ X → k ∈ Y) : Sm Y a b := ⟨h.os, h.tape, h.output, h.size, fun i hi hy => h.block i hi fun e => hy (hx i e)⟩
theorem Sm.of_nil (h : Sm [] a b) : Sm X a b := h.mono (fun k e => by cases e)
/-- A call that may write block p alone, p being new to the one who looks. -/
theorem Sm.forget (h : Sm Y b c) (k : Sm X a b) (hy : ∀ p, p ∈ Y → p ∈ X ∨ a.heap.size ≤ p) : Sm X a c :=
  ⟨h.os.trans k.os, h.tape.trans k.tape, h.output.trans k.output, Nat.le_trans k.size h.size, fun i hi hx =>
    (h.block i (Nat.lt_of_lt_of_le hi k.size) fun e => (hy i e).elim hx (by omega)).trans (k.block i hi hx)⟩
theorem Sm.drew (h : Sm X a b) : Sm X a b.drew := ⟨h.os, h.tape, h.output, h.size, h.block⟩
theorem Sm.drewN (h : Sm X a b) (n : Nat) : Sm X a (b.drewN n) := ⟨h.os, h.tape, h.output, h.size, h.block⟩
theorem Sm.of_drew (h : Sm X a.drew b) : Sm X a b := ⟨h.os, h.tape, h.output, h.size, h.block⟩
theorem Sm.alloc (h : Sm X a b) (o : Obj) : Sm X a (b.alloc o) :=
  h.trans ⟨rfl, rfl, rfl, by simp, fun k hk _ => Below.heap_alloc _ _ _ hk⟩
theorem Sm.setCell (h : Sm X a b) {p : Addr} (hp : a.heap.size ≤ p.block ∨ p.block ∈ X) (u : Value) : Sm X a (b.setCell p u) :=
  ⟨h.os, h.tape, h.output, by simpa using h.size, fun k hk hx => (Below.heap_setCell _ _ _ _ (fun e => by rcases hp with hp | hp; omega; exact hx (e ▸ hp))).trans (h.block k hk hx)⟩
theorem Sm.of_below (h : Below a.heap.size a b) : Sm X a b := ⟨h.os, h.tape, h.output, h.size, fun k hk _ => h.block k hk⟩
theorem Sm.below (h : Sm [] a b) : Below a.heap.size a b := ⟨h.os, h.tape, h.output, h.size, fun k hk => h.block k hk (by simp)⟩
theorem Sm.grown {row : Option Nat} (h : Sm X a b) (hg : b.grownBy c row) (hr : ∀ k, row = some k → a.heap.size ≤ k ∨ k ∈ X) : Sm X a c :=
  ⟨hg.os.trans h.os, hg.tape.trans h.tape, hg.output.trans h.output, Nat.le_trans h.size hg.size, fun k hk hx =>
    (hg.block k (Nat.lt_of_lt_of_le hk h.size) (fun e => by rcases hr k e.symm with h' | h'; omega; exact hx h')).trans (h.block k hk hx)⟩
/-- A store that stores what was there. -/
theorem setCell_same {w : World} {p : Addr} {u : Value} (h : w.cell? p = some u) (k : Nat) : (w.setCell p u).heap[k]? = w.heap[k]? := by
  simp only [World.setCell, Array.getElem?_modify]
  split
  · rename_i hk
    subst hk
    unfold World.cell? at h
    cases hb : w.heap[p.block]? with
    | none => rfl
    | some o =>
      simp only [hb] at h
      cases o with
      | cells cs e f =>
        simp only [Option.map_some]
        congr 2
        cases hs : p.spot.isSome with
        | true => simp
        | false =>
          simp only [hs] at h
          have h' : cs[p.off]? = some u := by simpa using h
          obtain ⟨hlt, he⟩ := Array.getElem?_eq_some_iff.1 h'
          simp only [Bool.false_eq_true, if_false]
          rw [Array.setIfInBounds_def, dif_pos hlt, ← he, Array.set_getElem_self]
      | _ => rfl
  · rfl
theorem Sm.setCell_same (h : Sm X a b) {p : Addr} {u : Value} (hc : b.cell? p = some u) : Sm X a (b.setCell p u) :=
  ⟨h.os, h.tape, h.output, by simpa using h.size, fun k hk hx => (Go.Proofs.YtigpnidffiaigaaGreat.setCell_same hc k).trans (h.block k hk hx)⟩

theorem Sm.cell (h : Sm X a b) {p : Addr} (hp : p.block < a.heap.size) (hx : p.block ∉ X) : b.cell? p = a.cell? p := World.cell?_of_block (w := a) (h.block _ hp hx)
theorem Sm.froz (h : Sm X a b) {p : Addr} (hp : p.block < a.heap.size) (hx : p.block ∉ X) : b.frozen? p = a.frozen? p := World.frozen?_of_block (w := a) (h.block _ hp hx)
theorem Sm.keeps (h : Sm X a b) {p : Addr} {v : Value} (hc : a.cell? p = some v) (hx : p.block ∉ X) : b.cell? p = some v := (h.cell (World.block_lt_of_cell? a _ hc) hx).trans hc
theorem Sm.obj (h : Sm X a b) {k : Nat} {o : Obj} (hc : a.heap[k]? = some o) (hx : k ∉ X) : b.heap[k]? = some o := (h.block k (lt_of_block hc) hx).trans hc

theorem cell_of {w : World} {k : Nat} {cs : Array Value} {t : TypeId} {i : Nat} {v : Value} (h : w.heap[k]? = some (.cells cs t (0, 0))) (hi : cs[i]? = some v) : w.cell? ⟨k, i, none⟩ = some v := by
  simp [World.cell?, h, hi]
theorem free_of {w : World} {k : Nat} {cs : Array Value} {t : TypeId} (h : w.heap[k]? = some (.cells cs t (0, 0))) (i : Nat) : w.frozen? ⟨k, i, none⟩ = false := by
  simp [World.frozen?, h]
theorem obj_alloc (w : World) (o : Obj) : (w.alloc o).heap[w.heap.size]? = some o := heap_alloc_new w o
theorem obj_alloc_old {w : World} {k : Nat} {o' : Obj} (h : w.heap[k]? = some o') (o : Obj) : (w.alloc o).heap[k]? = some o' := by
  rw [Below.heap_alloc _ _ _ (lt_of_block h)]; exact h
theorem obj_setCell {w : World} {k : Nat} {cs : Array Value} {t : TypeId} {f : Nat × Nat} (h : w.heap[k]? = some (.cells cs t f)) (i : Nat) (v : Value) :
    (w.setCell ⟨k, i, none⟩ v).heap[k]? = some (.cells (cs.setIfInBounds i v) t f) := by
  simp [World.setCell, Array.getElem?_modify, h]
theorem obj_setCell_other {w : World} {k : Nat} {o : Obj} (h : w.heap[k]? = some o) {p : Addr} (hp : k ≠ p.block) (v : Value) : (w.setCell p v).heap[k]? = some o := by
  rw [Below.heap_setCell _ _ _ _ hp]; exact h

theorem beq_bytes (a b : ByteArray) : (a.toList == b.toList) = decide (a = b) := by
  rw [Bool.eq_iff_iff, beq_iff_eq, decide_eq_true_iff, ByteArray.toList_eq, ByteArray.toList_eq]
  exact ⟨fun h => Go.WideShapes.bytes_inj h, fun h => by rw [h]⟩

/-! ### append of one element -/
section
variable {P : Program} {ops : Array Oper} {rest : List Oper} {o : Oper} {ac : Act} {Q : Exit → Act → World → Prop} {W : World}
theorem grownBy_alloc_then {row : Option Nat} {ob : Obj} {w' : World} (h : (W.alloc ob).grownBy w' row) : W.grownBy w' row :=
  World.grownBy.trans (World.grownBy_alloc W _ _) h
theorem app1 (base : Nat) (hgd : o.guard = none) (s x : Operand) (t : TypeId)
    (ho : o.op = .call { callee := .builtin .append, args := #[s, x], argTypes := #[t, t] })
    (e : TypeId) (z : Value) (size bytes : Nat) (ht : P.underlying t = some (.slice e)) (hinfo : (P.info? e).map (fun i => (i.zero, i.size, i.bytes)) = some (some z, size, bytes))
    (hz : z.cells.size = size) (hsz : 0 < size) (hby : 0 < bytes) (v : Value) (n : Nat) (xs : List Value) (hs : ac.eval s = v) (hown : W.ownsRow base e size v n xs)
    (cs : Array Value) (hx : ac.eval x = .slice (some ⟨W.heap.size, 0, none⟩) 1 1) (hcs : cs.size = size) (h1 : ∀ u ∈ cs.toList, u.oneCell' = true)
    (hbytes : (n + 1) * bytes ≤ 140737488355328) (hbase : base ≤ W.heap.size)
    (h : ∀ g cap w', w'.ownsRow base e size (.slice (some ⟨g, 0, none⟩) (n + 1) cap) (n + 1) (xs ++ cs.toList) → W.grownBy w' v.ownBlock → (v.ownBlock = some g ∨ g = W.heap.size + 1) → g < w'.heap.size →
      wpList P ops Q rest (ac.put o.dst (.slice (some ⟨g, 0, none⟩) (n + 1) cap)) w') :
    wpList P ops Q (o :: rest) ac (W.alloc (.cells cs e)) := by
  obtain ⟨i0, hi, hzz⟩ := Option.map_eq_some_iff.1 hinfo
  simp only [Prod.mk.injEq] at hzz
  obtain ⟨hz0, hz1, hz2⟩ := hzz
  have hn : n + 1 ≤ 140737488355328 := Nat.le_trans (Nat.le_mul_of_pos_right _ hby) hbytes
  refine wpList_append_lies (W.alloc (.cells cs e)) hgd s x t ho base e i0 z size bytes ht hi hz0 hz1 hz2 hz hsz v n xs hs (hown.alloc _) ⟨W.heap.size, 0, none⟩ 1 1 cs.toList hx (by simpa using hcs)
    (World.news_of_block (heap_alloc_new W _)) h1 (by omega) (by simp only [maxLen]; omega) hbytes (by simp; omega) (W.heap.size + 1) (by simp) ?_
  intro g cap w' h2 h3 h4 h5
  exact h g cap w' h2 (grownBy_alloc_then h3) h4 h5
end

end

section
/-- A token, as the reference and the package have it. -/
structure Tok where
  kind : Int
  val : ByteArray
  start : Nat
  stop : Nat

/-- A node of a document. -/
structure Nd where
  kind : Int
  name : ByteArray := ByteArray.empty
  alias : ByteArray := ByteArray.empty
  text : ByteArray := ByteArray.empty
  flag : Int := 0
  size : Int := 0

def bs (l : List UInt8) : ByteArray := ⟨l.toArray⟩

/-- 'Made': a node with kids. -/
def made (n : Nd) (kids : List (List Nd)) : List Nd := { n with size := (kids.flatten.length : Int) + 1 } :: kids.flatten

theorem made_length (n : Nd) (kids : List (List Nd)) : (made n kids).length = kids.flatten.length + 1 := by simp [made]

def kEnd : Int := 1
/- words -/
def wQuery : ByteArray := bs [113, 117, 101, 114, 121]
def wMutation : ByteArray := bs [109, 117, 116, 97, 116, 105, 111, 110]
def wSubscription : ByteArray := bs [115, 117, 98, 115, 99, 114, 105, 112, 116, 105, 111, 110]
def wFragment : ByteArray := bs [102, 114, 97, 103, 109, 101, 110, 116]
def wExtend : ByteArray := bs [101, 120, 116, 101, 110, 100]
def wSchema : ByteArray := bs [115, 99, 104, 101, 109, 97]
def wScalar : ByteArray := bs [115, 99, 97, 108, 97, 114]
def wType : ByteArray := bs [116, 121, 112, 101]
def wInterface : ByteArray := bs [105, 110, 116, 101, 114, 102, 97, 99, 101]
def wUnion : ByteArray := bs [117, 110, 105, 111, 110]
def wEnum : ByteArray := bs [101, 110, 117, 109]
def wInput : ByteArray := bs [105, 110, 112, 117, 116]
def wDirective : ByteArray := bs [100, 105, 114, 101, 99, 116, 105, 118, 101]
def wOn : ByteArray := bs [111, 110]
def wImplements : ByteArray := bs [105, 109, 112, 108, 101, 109, 101, 110, 116, 115]
def wRepeatable : ByteArray := bs [114, 101, 112, 101, 97, 116, 97, 98, 108, 101]
def wTrue : ByteArray := bs [116, 114, 117, 101]
def wFalse : ByteArray := bs [102, 97, 108, 115, 101]
def wNull : ByteArray := bs [110, 117, 108, 108]

/-! ### The reference's parser -/

structure Ps where
  pos : Nat
  deep : Nat
  wrong : Nat
  bad : Bool
  unsure : Bool

def SM (α : Type) := Ps → α × Ps
def SM.ret {α} (a : α) : SM α := fun p => (a, p)
def SM.bind {α β} (x : SM α) (f : α → SM β) : SM β := fun p => f (x p).1 (x p).2
instance : Monad SM where
  pure := SM.ret
  bind := SM.bind

theorem sm_bind {α β} (x : SM α) (f : α → SM β) (p : Ps) : (x >>= f) p = f (x p).1 (x p).2 := rfl
theorem sm_pure {α} (a : α) (p : Ps) : (pure a : SM α) p = (a, p) := rfl

section spec
variable (l : List Tok)

def kindAt (i : Nat) : Int := (l[i]?.map (·.kind)).getD 1
def valAt (i : Nat) : ByteArray := (l[i]?.map (·.val)).getD ByteArray.empty

def sKind (ahead : Nat) : SM Int := fun p => (kindAt l (p.pos + ahead), p)
def sBad : SM Bool := fun p => (p.bad, p)
def failP (p : Ps) : Ps := if p.bad then p else { p with bad := true, wrong := p.pos }
def sFail : SM (List Nd) := fun p => ([], failP p)
def sUnsure (b : Bool) : SM Unit := fun p => ((), { p with unsure := p.unsure || b })
def sMove : SM Unit := fun p => ((), { p with pos := p.pos + 1 })
def sBack : SM Unit := fun p => ((), { p with pos := p.pos - 1 })
def sSome (e : Int) : SM Unit := fun p => if p.bad = false ∧ kindAt l p.pos = e then ((), failP { p with pos := p.pos - 1 }) else ((), p)
def sTaken (k : Int) : SM Bool := fun p => if p.bad = true ∨ kindAt l p.pos ≠ k then (false, p) else (true, { p with pos := p.pos + 1 })
def sMust (k : Int) : SM Unit := fun p => if (sTaken l k p).1 then ((), (sTaken l k p).2) else ((), failP p)
def sWord (ahead : Nat) (s : ByteArray) : SM Bool := fun p => (decide (kindAt l (p.pos + ahead) = 15 ∧ valAt l (p.pos + ahead) = s), p)
def sName : SM ByteArray := fun p => if p.bad = true ∨ kindAt l p.pos ≠ 15 then (ByteArray.empty, failP p) else (valAt l p.pos, { p with pos := p.pos + 1 })
def sText : SM Unit := fun p => ((), { p with unsure := p.unsure || decide (kindAt l p.pos = 18) || decide (kindAt l p.pos = 19) })
def sEnter : SM Bool := fun p => if p.deep + 1 > 60 then (false, failP { p with deep := p.deep + 1, unsure := true }) else (!p.bad, { p with deep := p.deep + 1 })
def sLeave : SM Unit := fun p => ((), { p with deep := p.deep - 1 })

/-- what a node has of a token that is a value alone -/
def sDescription : SM (List Nd) := fun p =>
  (made { kind := 23, text := valAt l p.pos, flag := if kindAt l p.pos = 19 then 1 else 0 } [], { p with pos := p.pos + 1 })
def sDescribed : SM (List Nd) := fun p => if kindAt l p.pos ≠ 18 ∧ kindAt l p.pos ≠ 19 then ([], p) else sDescription l p

/-- a loop 'for !bad && !taken(end)' -/
def sUntil (e : Int) (item : SM (List Nd)) : Nat → List (List Nd) → SM (List (List Nd))
  | 0, acc => pure acc
  | m + 1, acc => fun p =>
    if p.bad then (acc, p)
    else if (sTaken l e p).1 then (acc, (sTaken l e p).2)
    else sUntil e item m (acc ++ [(item p).1]) (item p).2
/-- a loop 'for many := 0; !bad && (many == 0 || !taken(end)); many++': its first round -/
def sFirst (e : Int) (item : SM (List Nd)) (m : Nat) (acc : List (List Nd)) : SM (List (List Nd)) := fun p =>
  if p.bad then (acc, p) else sUntil l e item m (acc ++ [(item p).1]) (item p).2
/-- a loop 'for taken(sign)' -/
def sWhile (k : Int) (item : SM (List Nd)) : Nat → List (List Nd) → SM (List (List Nd))
  | 0, acc => pure acc
  | m + 1, acc => fun p =>
    if (sTaken l k p).1 then sWhile k item m (acc ++ [(item (sTaken l k p).2).1]) (item (sTaken l k p).2).2
    else (acc, p)

/-- how many rounds a loop has at most -/
def many : Nat := l.length + 2

/-- a value -/
def sValue : Nat → Bool → SM (List Nd)
  | 0, _ => pure []
  | n + 1, fixed => do
    if (← sEnter) = true then
      let out ← (fun p =>
        if l.length ≤ p.pos then sFail p else
        if kindAt l p.pos = 3 then (if fixed then sFail p else (do sMove; let s ← sName l; pure (made { kind := 11, name := s } [])) p) else
        if kindAt l p.pos = 16 then (made { kind := 12, text := valAt l p.pos } [], { p with pos := p.pos + 1 }) else
        if kindAt l p.pos = 17 then (made { kind := 13, text := valAt l p.pos } [], { p with pos := p.pos + 1 }) else
        if kindAt l p.pos = 18 then (made { kind := 14, text := valAt l p.pos, flag := 0 } [], { p with pos := p.pos + 1 }) else
        if kindAt l p.pos = 19 then (made { kind := 14, text := valAt l p.pos, flag := 1 } [], { p with pos := p.pos + 1 }) else
        if kindAt l p.pos = 15 then
          (if valAt l p.pos = wTrue then (made { kind := 15, flag := 1 } [], { p with pos := p.pos + 1 }) else
           if valAt l p.pos = wFalse then (made { kind := 15 } [], { p with pos := p.pos + 1 }) else
           if valAt l p.pos = wNull then sFail { p with pos := p.pos + 1, unsure := true } else
           (made { kind := 16, name := valAt l p.pos } [], { p with pos := p.pos + 1 })) else
        if kindAt l p.pos = 10 then
          (do sMove; let kids ← sUntil l 11 (sValue n fixed) (many l) []; pure (made { kind := 17 } kids)) p else
        if kindAt l p.pos = 12 then
          (do sMove
              let kids ← sUntil l 14 (do let s ← sName l; sMust l 7; let v ← sValue n fixed; pure (made { kind := 19, name := s } [v])) (many l) []
              pure (made { kind := 18 } kids)) p else
        sFail p : SM (List Nd))
      sLeave
      pure out
    else pure []

/-- a type -/
def sTyped : Nat → SM (List Nd)
  | 0 => pure []
  | n + 1 => do
    if (← sEnter) = true then
      let k ← sKind l 0
      sUnsure (decide (k ≠ 15) && decide (k ≠ 10))
      let out ← (do
        if (← sTaken l 10) = true then
          let x ← sTyped n
          let k ← sKind l 0
          sUnsure (decide (k ≠ 11))
          sMust l 11
          pure (made { kind := 21 } [x])
        else
          let s ← sName l
          pure (made { kind := 20, name := s } []) : SM (List Nd))
      let out ← (do if (← sTaken l 2) = true then pure (made { kind := 22 } [out]) else pure out : SM (List Nd))
      sLeave
      pure out
    else pure []

def sArguments (fixed : Bool) : SM (List Nd) := do
  if (← sTaken l 4) = true then
    sSome l 5
    let out ← sFirst l 5 (do let s ← sName l; sMust l 7; let v ← sValue l 62 fixed; pure (made { kind := 9, name := s } [v])) (many l) []
    pure out.flatten
  else pure []

/-- whether a variable stands in the brackets that come next -/
def asksAt : Nat → Nat → Bool
  | 0, _ => false
  | m + 1, i => if kindAt l i = 1 ∨ kindAt l i = 5 then false else if kindAt l i = 3 then true else asksAt m (i + 1)
def sAsks : SM Bool := fun p => (decide (kindAt l p.pos = 4) && asksAt l (many l) p.pos, p)

def sDirectives (fixed : Bool) : SM (List Nd) := do
  let out ← sWhile l 9 (do
    let s ← sName l
    let a ← sAsks l
    sUnsure (fixed && a)
    let v ← sArguments l false
    pure (made { kind := 10, name := s } [v])) (many l) []
  pure out.flatten

/-- a selection, behind which selections are read by 'sub' -/
def sSelection (sub : SM (List Nd)) : SM (List Nd) := do
  if (← sTaken l 6) = true then
    let k ← sKind l 0
    let on ← sWord l 0 wOn
    if k = 15 ∧ on = false then
      let s ← sName l
      let d ← sDirectives l false
      pure (made { kind := 7, name := s } [d])
    else
      sText l
      let on ← sWord l 0 wOn
      let t ← (if on = true then (do sMove; sName l) else pure ByteArray.empty : SM ByteArray)
      let d ← sDirectives l false
      let x ← sub
      pure (made { kind := 8, text := t } [d, x])
  else
    let n ← sName l
    let (a, n) ← (do if (← sTaken l 7) = true then (do let m ← sName l; pure (n, m)) else pure (ByteArray.empty, n) : SM (ByteArray × ByteArray))
    let args ← sArguments l false
    let dirs ← sDirectives l false
    let x ← (fun p => if p.bad = false ∧ kindAt l p.pos = 12 then sub p else ([], p) : SM (List Nd))
    pure (made { kind := 6, name := n, alias := a } [args, dirs, x])

def sSelections : Nat → SM (List Nd)
  | 0 => pure []
  | n + 1 => do
    if (← sEnter) = true then
      sMust l 12
      sSome l 14
      let kids ← sFirst l 14 (sSelection l (sSelections n)) (many l) []
      sLeave
      pure (made { kind := 5 } kids)
    else pure []

def sVariables : SM (List Nd) := do
  if (← sTaken l 4) = true then
    sSome l 5
    let out ← sFirst l 5 (do
      sMust l 3
      let s ← sName l
      sMust l 7
      let k ← sTyped l 62
      let v ← (do if (← sTaken l 8 ) = true then sValue l 62 true else pure [] : SM (List Nd))
      let q ← sKind l 0
      sUnsure (decide (q = 9))
      pure (made { kind := 4, name := s } [k, v])) (many l) []
    pure out.flatten
  else pure []

/-- the body of a definition -/
def sBody (b e : Int) : SM Bool := fun p =>
  if p.bad then (false, p)
  else if kindAt l p.pos ≠ b ∨ kindAt l (p.pos + 1) = e then (false, failP { p with unsure := true })
  else (true, { p with pos := p.pos + 1 })

def isOpWord (s : ByteArray) : Bool := decide (s = wQuery) || decide (s = wMutation) || decide (s = wSubscription)

/-- the rounds of a schema: they may end with a refusal, and then nothing is returned -/
def sOpTypes : Nat → Bool → List (List Nd) → SM (Option (List (List Nd)))
  | 0, _, acc => pure (some acc)
  | m + 1, first, acc => fun p =>
    if p.bad then (some acc, p)
    else if first = false ∧ (sTaken l 14 p).1 = true then (some acc, (sTaken l 14 p).2)
    else
      let p := if first then p else (sTaken l 14 p).2
      let t := (sName l p).1
      let p := (sName l p).2
      if isOpWord t then
        let p := (sMust l 7 p).2
        let n := (sName l p).1
        let p := (sName l p).2
        sOpTypes m false (acc ++ [made { kind := 25, text := t, name := n } []]) p
      else (none, failP { p with pos := p.pos - 1 })

def sSchema (text : List Nd) : SM (List Nd) := do
  let d ← sDirectives l true
  sMust l 12
  sSome l 14
  match ← sOpTypes l (many l) true [text, d] with
  | some kids => pure (made { kind := 24 } kids)
  | none => pure []

def sInputs (b e : Int) : SM (List Nd) := do
  if (← sBody l b e) = true then
    let out ← sFirst l e (do
      let text ← sDescribed l
      let s ← sName l
      sMust l 7
      let k ← sTyped l 62
      let v ← (do if (← sTaken l 8) = true then sValue l 62 true else pure [] : SM (List Nd))
      let d ← sDirectives l true
      pure (made { kind := 30, name := s } [text, k, v, d])) (many l) []
    pure out.flatten
  else pure []

def sFields : SM (List Nd) := do
  if (← sBody l 12 14) = true then
    let out ← sFirst l 14 (do
      let text ← sDescribed l
      let s ← sName l
      let q ← sKind l 0
      let args ← (if q = 4 then sInputs l 4 5 else pure [] : SM (List Nd))
      sMust l 7
      let k ← sTyped l 62
      let d ← sDirectives l true
      pure (made { kind := 29, name := s } [text, args, k, d])) (many l) []
    pure out.flatten
  else pure []

def sNamed (k : Int) : SM (List Nd) := do
  let s ← sName l
  pure (made { kind := k, name := s } [])

def sObject (text : List Nd) : SM (List Nd) := do
  let n ← sName l
  sText l
  let imp ← sWord l 0 wImplements
  let kids ← (if imp = true then (do
      sMove
      let _ ← sTaken l 20
      let k ← sNamed l 28
      sWhile l 20 (sNamed l 28) (many l) [text, k]) else pure [text] : SM (List (List Nd)))
  let d ← sDirectives l true
  let f ← sFields l
  pure (made { kind := 27, name := n } (kids ++ [d, f]))

def sUnion (text : List Nd) : SM (List Nd) := do
  let n ← sName l
  let d ← sDirectives l true
  let b ← sBad
  let q ← sKind l 0
  if b = false ∧ q ≠ 8 then (do sUnsure true; sFail) else
  sMust l 8
  let q ← sKind l 0
  sUnsure (decide (q = 13))
  let _ ← sTaken l 13
  let k ← sNamed l 33
  let kids ← sWhile l 13 (sNamed l 33) (many l) [text, d, k]
  pure (made { kind := 32, name := n } kids)

def sEnumDef (text : List Nd) : SM (List Nd) := do
  let n ← sName l
  let d ← sDirectives l true
  if (← sBody l 12 14) = true then
    let kids ← sFirst l 14 (do
      let about ← sDescribed l
      let s ← sName l
      sUnsure (decide (s = wTrue) || decide (s = wFalse) || decide (s = wNull))
      let d ← sDirectives l true
      pure (made { kind := 35, name := s } [about, d])) (many l) [text, d]
    pure (made { kind := 34, name := n } kids)
  else pure []

def places : List ByteArray := [
  bs [81, 85, 69, 82, 89], bs [77, 85, 84, 65, 84, 73, 79, 78], bs [83, 85, 66, 83, 67, 82, 73, 80, 84, 73, 79, 78], bs [70, 73, 69, 76, 68],
  bs [70, 82, 65, 71, 77, 69, 78, 84, 95, 68, 69, 70, 73, 78, 73, 84, 73, 79, 78], bs [70, 82, 65, 71, 77, 69, 78, 84, 95, 83, 80, 82, 69, 65, 68],
  bs [73, 78, 76, 73, 78, 69, 95, 70, 82, 65, 71, 77, 69, 78, 84], bs [86, 65, 82, 73, 65, 66, 76, 69, 95, 68, 69, 70, 73, 78, 73, 84, 73, 79, 78],
  bs [83, 67, 72, 69, 77, 65], bs [83, 67, 65, 76, 65, 82], bs [79, 66, 74, 69, 67, 84], bs [70, 73, 69, 76, 68, 95, 68, 69, 70, 73, 78, 73, 84, 73, 79, 78],
  bs [65, 82, 71, 85, 77, 69, 78, 84, 95, 68, 69, 70, 73, 78, 73, 84, 73, 79, 78], bs [73, 78, 84, 69, 82, 70, 65, 67, 69], bs [85, 78, 73, 79, 78], bs [69, 78, 85, 77],
  bs [69, 78, 85, 77, 95, 86, 65, 76, 85, 69], bs [73, 78, 80, 85, 84, 95, 79, 66, 74, 69, 67, 84], bs [73, 78, 80, 85, 84, 95, 70, 73, 69, 76, 68, 95, 68, 69, 70, 73, 78, 73, 84, 73, 79, 78]]

def sLocation : SM (List Nd) := do
  let s ← sName l
  sUnsure (!places.any fun x => decide (x = s))
  pure (made { kind := 38, name := s } [])

def sDefined (text : List Nd) : SM (List Nd) := do
  sMust l 9
  let n ← sName l
  let q ← sKind l 0
  let kids ← (if q = 4 then (do let i ← sInputs l 4 5; pure [text, i]) else pure [text] : SM (List (List Nd)))
  let r ← sWord l 0 wRepeatable
  sUnsure r
  sText l
  let on ← sWord l 0 wOn
  if on = false then sFail else
  sMove
  let q ← sKind l 0
  sUnsure (decide (q = 13))
  let _ ← sTaken l 13
  let k ← sLocation l
  let kids ← sWhile l 13 (sLocation l) (many l) (kids ++ [k])
  pure (made { kind := 37, name := n } kids)

def sOperation : SM (List Nd) := do
  let t ← sName l
  let q ← sKind l 0
  let n ← (if q = 15 then sName l else pure ByteArray.empty : SM ByteArray)
  let v ← sVariables l
  let d ← sDirectives l false
  let x ← sSelections l 62
  pure (made { kind := 2, text := t, name := n } [v, d, x])

def sFragmentDef : SM (List Nd) := do
  let on ← sWord l 0 wOn
  if on = true then sFail else
  let n ← sName l
  let q ← sKind l 0
  sUnsure (decide (q = 4))
  sText l
  let on ← sWord l 0 wOn
  if on = false then sFail else
  sMove
  let t ← sName l
  let d ← sDirectives l false
  let x ← sSelections l 62
  pure (made { kind := 3, name := n, text := t } [d, x])

def sDefinition : SM (List Nd) := do
  let q ← sKind l 0
  if q = 12 then (do let x ← sSelections l 62; pure (made { kind := 2, text := wQuery, flag := 1 } [x])) else
  let text ← (if q = 18 ∨ q = 19 then sDescription l else pure [] : SM (List Nd))
  let q ← sKind l 0
  if q ≠ 15 then sFail else
  fun p =>
  let w := valAt l p.pos
  if (isOpWord w || decide (w = wFragment) || decide (w = wExtend)) && !text.isEmpty then sFail { p with pos := p.pos - 1 } else
  (do
    sUnsure (decide (w = wSchema) && !text.isEmpty)
    let w ← sName l
    if isOpWord w then (do sBack; sOperation l) else
    if w = wFragment then sFragmentDef l else
    if w = wSchema then sSchema l text else
    if w = wScalar then (do let n ← sName l; let d ← sDirectives l true; pure (made { kind := 26, name := n } [text, d])) else
    if w = wType then sObject l text else
    if w = wInterface then (do
      let n ← sName l
      let imp ← sWord l 0 wImplements
      sUnsure imp
      let d ← sDirectives l true
      let f ← sFields l
      pure (made { kind := 31, name := n } [text, d, f])) else
    if w = wUnion then sUnion l text else
    if w = wEnum then sEnumDef l text else
    if w = wInput then (do let n ← sName l; let d ← sDirectives l true; let i ← sInputs l 12 14; pure (made { kind := 36, name := n } [text, d, i])) else
    if w = wDirective then sDefined l text else
    if w = wExtend then (do
      let t ← sWord l 0 wType
      sUnsure (!t)
      if t = false then sFail else
      sMove
      let o ← sObject l []
      pure (made { kind := 39 } [o])) else
    (do sBack; sFail) : SM (List Nd)) p

def sDefinitions : Nat → List (List Nd) → SM (List (List Nd))
  | 0, acc => pure acc
  | m + 1, acc => fun p =>
    if p.bad = false ∧ p.pos < l.length then sDefinitions m (acc ++ [(sDefinition l p).1]) (sDefinition l p).2 else (acc, p)

def sDocument : SM (List Nd) := do
  let kids ← sDefinitions l (many l) []
  if kids.isEmpty then (do sUnsure true; sFail) else pure (made { kind := 1 } kids)

def ps0 : Ps := ⟨0, 0, 0, false, false⟩

end spec

end

section
def sz (l : List Nd) (i : Nat) : Nat := ((l[i]?.map Nd.size).getD 0).toNat
def kd (l : List Nd) (i : Nat) : Int := (l[i]?.map Nd.kind).getD 0
def nm (l : List Nd) (i : Nat) : ByteArray := (l[i]?.map Nd.name).getD ByteArray.empty
def tx (l : List Nd) (i : Nat) : ByteArray := (l[i]?.map Nd.text).getD ByteArray.empty

theorem sz_at {l : List Nd} {i : Nat} (h : i < l.length) : sz l i = l[i].size.toNat := by simp [sz, h]
theorem kd_at {l : List Nd} {i : Nat} (h : i < l.length) : kd l i = l[i].kind := by simp [kd, h]
theorem nm_at {l : List Nd} {i : Nat} (h : i < l.length) : nm l i = l[i].name := by simp [nm, h]
theorem tx_at {l : List Nd} {i : Nat} (h : i < l.length) : tx l i = l[i].text := by simp [tx, h]

/-- the places ks are the nodes that fill a stretch, one behind the other -/
def Ch (l : List Nd) (k e : Nat) : List Nat → Prop
  | [] => k = e
  | a :: ks => a = k ∧ 1 ≤ sz l k ∧ k + sz l k ≤ e ∧ Ch l (k + sz l k) e ks

theorem Ch.le {l : List Nd} {e : Nat} {ks : List Nat} : ∀ {k : Nat}, Ch l k e ks → k + ks.length ≤ e := by
  induction ks with
  | nil => intro k h; simp only [Ch] at h; simp; omega
  | cons a ks ih => intro k h; obtain ⟨_, h1, h2, h3⟩ := h; have := ih h3; simp; omega
theorem Ch.append {l : List Nd} {m e : Nat} {xs ys : List Nat} : ∀ {k : Nat}, Ch l k m xs → Ch l m e ys → Ch l k e (xs ++ ys) := by
  induction xs with
  | nil => intro k h g; simp only [Ch] at h; subst h; exact g
  | cons a xs ih =>
    intro k h g
    obtain ⟨h0, h1, h2, h3⟩ := h
    have := g.le
    exact ⟨h0, h1, by omega, ih h3 g⟩
theorem Ch.one {l : List Nd} {k : Nat} (h : 1 ≤ sz l k) : Ch l k (k + sz l k) [k] := ⟨rfl, h, Nat.le_refl _, rfl⟩
theorem Ch.uniq {l : List Nd} {e : Nat} {xs : List Nat} : ∀ {k : Nat} {ys : List Nat}, Ch l k e xs → Ch l k e ys → xs = ys := by
  induction xs with
  | nil =>
    intro k ys h g
    simp only [Ch] at h
    cases ys with
    | nil => rfl
    | cons b ys => obtain ⟨_, g1, g2, g3⟩ := g; omega
  | cons a xs ih =>
    intro k ys h g
    obtain ⟨h0, h1, h2, h3⟩ := h
    cases ys with
    | nil => simp only [Ch] at g; omega
    | cons b ys => obtain ⟨g0, _, _, g3⟩ := g; rw [h0, g0, ih h3 g3]
theorem Ch.mem {l : List Nd} {e : Nat} {ks : List Nat} : ∀ {k : Nat}, Ch l k e ks → ∀ a, a ∈ ks → k ≤ a ∧ a < e ∧ 1 ≤ sz l a ∧ a + sz l a ≤ e := by
  induction ks with
  | nil => intro k h a ha; cases ha
  | cons b ks ih =>
    intro k h a ha
    obtain ⟨h0, h1, h2, h3⟩ := h
    cases ha with
    | head => subst h0; omega
    | tail _ ha => have := ih h3 a ha; omega

/-- the places from a to b are nodes, each with all beneath it -/
def TreeIn (l : List Nd) (a b : Nat) : Prop := ∀ i, a ≤ i → i < b → 1 ≤ sz l i ∧ i + sz l i ≤ b ∧ ∃ ks, Ch l (i + 1) (i + sz l i) ks

open Classical in
/-- a node's kids -/
noncomputable def kids (l : List Nd) (i : Nat) : List Nat := if h : ∃ ks, Ch l (i + 1) (i + sz l i) ks then h.choose else []
theorem kids_ch {l : List Nd} {i : Nat} (h : ∃ ks, Ch l (i + 1) (i + sz l i) ks) : Ch l (i + 1) (i + sz l i) (kids l i) := by
  unfold kids
  rw [dif_pos h]
  exact h.choose_spec
theorem kids_eq {l : List Nd} {i : Nat} {ks : List Nat} (h : Ch l (i + 1) (i + sz l i) ks) : kids l i = ks := (kids_ch ⟨ks, h⟩).uniq h

/-- a whole tree: no longer than what is looked at -/
structure Tree (l : List Nd) : Prop where
  len : 1 ≤ l.length
  most : l.length ≤ 400
  all : TreeIn l 0 l.length
  root : sz l 0 = l.length

theorem Tree.ch {l : List Nd} (h : Tree l) {i : Nat} (hi : i < l.length) : Ch l (i + 1) (i + sz l i) (kids l i) := kids_ch (h.all i (Nat.zero_le _) hi).2.2
theorem Tree.sz_pos {l : List Nd} (h : Tree l) {i : Nat} (hi : i < l.length) : 1 ≤ sz l i := (h.all i (Nat.zero_le _) hi).1
theorem Tree.sz_le {l : List Nd} (h : Tree l) {i : Nat} (hi : i < l.length) : i + sz l i ≤ l.length := (h.all i (Nat.zero_le _) hi).2.1
theorem Tree.kid {l : List Nd} (h : Tree l) {i a : Nat} (hi : i < l.length) (ha : a ∈ kids l i) : i < a ∧ a < l.length ∧ a + sz l a ≤ i + sz l i ∧ 1 ≤ sz l a := by
  have h1 := (h.ch hi).mem a ha
  have h2 := h.sz_le hi
  omega
theorem Tree.kids_len {l : List Nd} (h : Tree l) {i : Nat} (hi : i < l.length) : (kids l i).length ≤ 400 := by
  have h1 := (h.ch hi).le
  have h2 := h.sz_le hi
  have h3 := h.most
  omega

def isT (c : Int) : Prop := 20 ≤ c ∧ c ≤ 22
def isV (c : Int) : Prop := 11 ≤ c ∧ c ≤ 18

/-- what the reference holds a node's kids to, as far as it is wanted -/
structure Shp (l : List Nd) (i : Nat) : Prop where
  sel : kd l i = 2 ∨ kd l i = 3 ∨ kd l i = 8 → ∃ a, a ∈ kids l i ∧ kd l a = 5
  var : kd l i = 4 → ∃ a, isT (kd l a) ∧ (kids l i = [a] ∨ ∃ b, isV (kd l b) ∧ kids l i = [a, b])
  sels : kd l i = 5 → ∀ a, a ∈ kids l i → kd l a = 6 ∨ kd l a = 7 ∨ kd l a = 8
  arg : kd l i = 9 ∨ kd l i = 19 → ∃ a, isV (kd l a) ∧ kids l i = [a]
  list : kd l i = 17 → ∀ a, a ∈ kids l i → isV (kd l a)
  obj : kd l i = 18 → ∀ a, a ∈ kids l i → kd l a = 19
  tlist : kd l i = 21 → ∃ a, isT (kd l a) ∧ kids l i = [a]
  tnon : kd l i = 22 → ∃ a, isT (kd l a) ∧ kd l a ≠ 22 ∧ kids l i = [a]

/-- what the reference holds a node's fields to, as far as it is wanted -/
structure Frm (l : List Nd) (i : Nat) : Prop where
  op : kd l i = 2 → tx l i = wQuery ∨ tx l i = wMutation ∨ tx l i = wSubscription
  frag : kd l i = 3 → nm l i ≠ ByteArray.empty ∧ tx l i ≠ ByteArray.empty
  name : kd l i = 4 ∨ kd l i = 6 ∨ kd l i = 7 ∨ kd l i = 9 ∨ kd l i = 10 ∨ kd l i = 11 ∨ kd l i = 19 ∨ kd l i = 20 → nm l i ≠ ByteArray.empty

/-- a document -/
structure Right (l : List Nd) : Prop where
  tree : Tree l
  shp : ∀ i, i < l.length → Shp l i
  frm : ∀ i, i < l.length → Frm l i
  doc : kd l 0 = 1
  defs : ∀ a, a ∈ kids l 0 → kd l a = 2 ∨ kd l a = 3

end

section
open Go.RowKit

/-- a slice of places -/
def IntsAt (w : World) (v : Value) (ks : List Nat) : Prop :=
  ∃ (a : Option Addr) (cap : Nat), v = .slice a ks.length cap ∧ ks.length ≤ cap ∧ cap ≤ maxLen ∧
    ∀ i, i < ks.length → ∃ b o, a = some ⟨b, o, none⟩ ∧ b < w.heap.size ∧ w.cell? ⟨b, o + i, none⟩ = some (.int .i64 ((ks.getD i 0 : Nat) : Int))

def intC (ks : List Nat) : List Value := ks.map fun (k : Nat) => Value.int .i64 (k : Int)
theorem intC_append (a b : List Nat) : intC (a ++ b) = intC a ++ intC b := by simp [intC]
theorem intC_len (a : List Nat) : (intC a).length = a.length := by simp [intC]

theorem intsAt_own {w : World} {base n : Nat} {v : Value} {ks : List Nat} (h : w.ownsRow base 3 1 v n (intC ks)) : IntsAt w v ks := by
  have hn : n = ks.length := by have := h.1; simp [intC] at this; omega
  subst hn
  have h' := h
  rcases h.2 with ⟨rfl, h0⟩ | ⟨g, cap, cur, rfl, hb, hh, h1, h2, h3, h4⟩
  · refine ⟨none, 0, by rw [h0], by omega, by simp [maxLen], fun i hi => by omega⟩
  · refine ⟨_, cap, rfl, h1, h2, fun i hi => ⟨g, 0, rfl, lt_of_block hh, ?_⟩⟩
    have := h'.cells (g := g) rfl i (.int .i64 ((ks.getD i 0 : Nat) : Int)) (by simp [intC, List.getElem?_eq_getElem hi, List.getD_eq_getElem?_getD])
    have ha : (⟨g, 0, none⟩ : Addr).add i = ⟨g, 0 + i, none⟩ := by unfold Addr.add; split <;> simp_all
    rwa [ha] at this
theorem IntsAt.sm {X : List Nat} {w w' : World} {v : Value} {ks : List Nat} (h : IntsAt w v ks) (s : Sm X w w') (hx : ∀ b o n c, v = .slice (some ⟨b, o, none⟩) n c → b ∉ X) : IntsAt w' v ks := by
  obtain ⟨a, cap, rfl, h1, h2, h3⟩ := h
  refine ⟨a, cap, rfl, h1, h2, fun i hi => ?_⟩
  obtain ⟨b, o, rfl, hb, hc⟩ := h3 i hi
  exact ⟨b, o, rfl, Nat.lt_of_lt_of_le hb s.size, s.keeps hc (hx b o _ _ rfl)⟩
theorem IntsAt.sm0 {w w' : World} {v : Value} {ks : List Nat} (h : IntsAt w v ks) (s : Sm [] w w') : IntsAt w' v ks := h.sm s (by simp)

/-- a node in memory -/
structure NodeAt (w : World) (b o : Nat) (n : Nd) : Prop where
  c0 : w.cell? ⟨b, o, none⟩ = some (.int .i64 n.kind)
  c1 : w.cell? ⟨b, o + 1, none⟩ = some (.string n.name)
  c2 : w.cell? ⟨b, o + 2, none⟩ = some (.string n.alias)
  c3 : w.cell? ⟨b, o + 3, none⟩ = some (.string n.text)
  c4 : w.cell? ⟨b, o + 4, none⟩ = some (.int .i64 n.flag)
  c5 : w.cell? ⟨b, o + 5, none⟩ = some (.int .i64 n.size)
def DocAt (w : World) (b o : Nat) (l : List Nd) : Prop := ∀ i (h : i < l.length), NodeAt w b (o + i * 6) l[i]
theorem NodeAt.sm {X : List Nat} {w w' : World} {b o : Nat} {n : Nd} (h : NodeAt w b o n) (s : Sm X w w') (hx : b ∉ X) : NodeAt w' b o n :=
  ⟨s.keeps h.c0 hx, s.keeps h.c1 hx, s.keeps h.c2 hx, s.keeps h.c3 hx, s.keeps h.c4 hx, s.keeps h.c5 hx⟩
theorem DocAt.sm {X : List Nat} {w w' : World} {b o : Nat} {l : List Nd} (h : DocAt w b o l) (s : Sm X w w') (hx : b ∉ X) : DocAt w' b o l := fun i hi => (h i hi).sm s hx
theorem DocAt.sm0 {w w' : World} {b o : Nat} {l : List Nd} (h : DocAt w b o l) (s : Sm [] w w') : DocAt w' b o l := h.sm s (by simp)
theorem DocAt.lt {w : World} {b o : Nat} {l : List Nd} (h : DocAt w b o l) (hl : 0 < l.length) : b < w.heap.size := World.block_lt_of_cell? w _ (h 0 hl).c0

/-- the fields of a list of nodes fit -/
structure Fits (l : List Nd) : Prop where
  len : l.length ≤ 2147483647
  name : ∀ i (h : i < l.length), l[i].name.size ≤ 2147483647
  alias : ∀ i (h : i < l.length), l[i].alias.size ≤ 2147483647
  text : ∀ i (h : i < l.length), l[i].text.size ≤ 2147483647
/-- what is read are 64-bit numbers -/
def Wf (l : List Nd) : Prop := ∀ i (h : i < l.length), -9223372036854775808 ≤ l[i].kind ∧ l[i].kind ≤ 9223372036854775807 ∧ -9223372036854775808 ≤ l[i].size ∧ l[i].size ≤ 9223372036854775807 ∧ -9223372036854775808 ≤ l[i].flag ∧ l[i].flag ≤ 9223372036854775807

end

end Go.Proofs.YtigpnidffiaigaaGreat
