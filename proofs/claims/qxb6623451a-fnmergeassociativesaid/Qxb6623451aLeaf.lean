/-
  THE LEAVES: zzValAtB1 (17), addMember (18), addItem (19), zzMaxB1 (12).
-/
import Derived.Test.Qxb6623451aRows
import Derived.Test.Qxb6623451aPlain
import Derived.WalkKit
import Derived.WalkSpells
import Derived.WalkLawsBesides
import Derived.Maps.RangeWalk
namespace Go.Proofs.Qxb6623451a
open Go.RowKit Go.Maps Go.WideMaps
set_option linter.unusedVariables false

theorem law9 : Keyed Try.prog 9 := string_keyed Try.underlying9
theorem law3 : Keyed Try.prog 3 := int_keyed Try.underlying3
theorem zero4 (w : World) : (zeroValue 4).run Try.prog w = .ok (.bool false) w := by kernel_rfl

/-- The cells of a slice that is only read. -/
def RowOf (w : World) (a : Option Addr) (len : Nat) (f : Nat → Value) : Prop :=
  ∀ i, i < len → ∃ b off, a = some ⟨b, off, none⟩ ∧ w.cell? ⟨b, off + i, none⟩ = some (f i)

theorem cell_lt {w : World} {a : Addr} {v : Value} (h : w.cell? a = some v) : a.block < w.heap.size := by
  apply Classical.byContradiction
  intro hn
  have e : w.heap[a.block]? = none := Array.getElem?_eq_none (by omega)
  simp [World.cell?, e] at h

theorem RowOf.below {w w' : World} {a : Option Addr} {len : Nat} {f : Nat → Value} (h : RowOf w a len f) (hb : Below w.heap.size w w') : RowOf w' a len f := by
  intro i hi
  obtain ⟨b, off, e, hc⟩ := h i hi
  exact ⟨b, off, e, (hb.cell (p := ⟨b, off + i, none⟩) (cell_lt hc)).trans hc⟩

/-- Block b is a map with keys of type k and bools, of at most n entries, that holds just what f says. -/
def Holds (w : World) (k : TypeId) (b n : Nat) (f : Lit → Option Bool) : Prop :=
  ∃ D : DataW Unit, w.ownsMap Try.prog k (plainElem Try.prog 4) b n D ∧ Rep D f

theorem Holds.kept {w w' : World} {k : TypeId} {b n : Nat} {f : Lit → Option Bool} {row : Option Nat} (h : Holds w k b n f) (hg : w.grownBy w' row) (hne : some b ≠ row) : Holds w' k b n f := by
  obtain ⟨D, ho, hr⟩ := h
  exact ⟨D, ho.kept hg hne, hr⟩

theorem Holds.mono {w : World} {k : TypeId} {b n n' : Nat} {f : Lit → Option Bool} (h : Holds w k b n f) (hn : n ≤ n') : Holds w k b n' f := by
  obtain ⟨D, ho, hr⟩ := h
  exact ⟨D, ho.mono hn, hr⟩

theorem Holds.lt {w : World} {k : TypeId} {b n : Nat} {f : Lit → Option Bool} (h : Holds w k b n f) : b < w.heap.size := by
  obtain ⟨D, ho, hr⟩ := h
  exact ho.lt

theorem Holds.block {w w' : World} {k : TypeId} {b n : Nat} {f : Lit → Option Bool} (h : Holds w k b n f) (hb : w'.heap[b]? = w.heap[b]?) : Holds w' k b n f := by
  obtain ⟨D, ⟨es, clock, h1, h2, h3, h4⟩, hr⟩ := h
  exact ⟨D, ⟨es, clock, hb.trans h1, h2, h3, h4⟩, hr⟩

theorem holds_made (w : World) (k : TypeId) : Holds (w.alloc (.map #[] 0)) k w.heap.size 0 emp := ⟨.map [], World.ownsMap_made _ _ _ _, rep_empty⟩

def valAt (vs : Nat → Bool) (len i : Nat) : Bool := if i < len then vs i else true

set_option maxHeartbeats 400000 in
theorem valAt_any (a : Option Addr) (len cap : Nat) (vs : Nat → Bool) (i : Nat) (w : World) (hr : RowOf w a len (fun j => .bool (vs j))) (hl : len ≤ maxLen) (hi : i ≤ maxLen) :
    Calls Try.prog 17 #[.slice a len cap, .int .i64 i] w fun e w' => e = .returned (.bool (valAt vs len i)) ∧ w' = w := by
  unfold maxLen at hl hi
  by_cases h : i < len
  · have e : valAt vs len i = vs i := by simp [valAt, h]
    rw [e]
    obtain ⟨b, off, rfl, hc⟩ := hr i h
    clear hr e
    go_enter Try.func17, Try.ntmps17
    go_wp2
    go_ret
    exact ⟨rfl, rfl⟩
  · have e : valAt vs len i = true := by simp [valAt, h]
    rw [e]
    clear hr e
    go_enter Try.func17, Try.ntmps17
    go_wp2
    go_ret
    exact ⟨rfl, rfl⟩

set_option maxHeartbeats 400000 in
theorem max_any (x y : Int) (w : World) :
    Calls Try.prog 12 #[.int .i64 x, .int .i64 y] w fun e w' => e = .returned (.int .i64 (max x y)) ∧ w' = w := by
  by_cases h : y < x
  · rw [show max x y = x from by omega]
    go_enter Try.func12, Try.ntmps12
    go_wp2
    go_ret
    exact ⟨rfl, rfl⟩
  · rw [show max x y = y from by omega]
    go_enter Try.func12, Try.ntmps12
    go_wp2
    go_ret
    exact ⟨rfl, rfl⟩

/-- A cell of block eb is set, a block is laid, the new block is written. -/
theorem made_in (w : World) (eb o : Nat) (u v : Value) (w1 : World) (hc : w.cell? ⟨eb, o, none⟩ = some u) (hg1 : ((w.setCell ⟨eb, o, none⟩ v).alloc (.map #[] 0)).grownBy w1 (some w.heap.size)) :
    w.grownBy w1 (some eb) ∧ w1.cell? ⟨eb, o, none⟩ = some v ∧ (∀ o', o' ≠ o → w1.cell? ⟨eb, o', none⟩ = w.cell? ⟨eb, o', none⟩) ∧ ∀ o', w1.frozen? ⟨eb, o', none⟩ = w.frozen? ⟨eb, o', none⟩ := by
  have hlt := cell_lt hc
  have hlt' : eb < w.heap.size := hlt
  have e1 : w.grownBy (w.setCell ⟨eb, o, none⟩ v) (some eb) :=
    ⟨rfl, rfl, rfl, by simp, fun k hk hne => RowKit.Below.heap_setCell _ _ _ _ (fun e => hne (by rw [e]))⟩
  have e2 : w.grownBy ((w.setCell ⟨eb, o, none⟩ v).alloc (.map #[] 0)) (some eb) := e1.trans (World.grownBy_alloc _ _ _)
  have hb : w1.heap[eb]? = (w.setCell ⟨eb, o, none⟩ v).heap[eb]? := by
    rw [hg1.block eb (by simp; omega) (fun e => by have := Option.some.inj e; omega)]
    exact RowKit.Below.heap_alloc _ _ _ (by simpa using hlt')
  refine ⟨e2.andThen hg1 (fun j hj => .inl (by cases hj; exact Nat.le_refl _)), ?_, fun o' ho' => ?_, fun o' => ?_⟩
  · rw [World.cell?_of_block (w := w.setCell ⟨eb, o, none⟩ v) (a := ⟨eb, o, none⟩) hb]
    exact World.cell?_setCell_same _ _ _ hc
  · rw [World.cell?_of_block (w := w.setCell ⟨eb, o, none⟩ v) (a := ⟨eb, o', none⟩) hb]
    exact World.cell?_setCell_other _ _ _ _ (fun e => ho' (congrArg Addr.off e).symm)
  · rw [World.frozen?_of_block (w := w.setCell ⟨eb, o, none⟩ v) (a := ⟨eb, o', none⟩) hb]
    exact World.frozen?_setCell _ _ _ _

set_option maxHeartbeats 400000 in
theorem addM_some (eb b n : Nat) (f : Lit → Option Bool) (s : ByteArray) (w : World) (hc : w.cell? ⟨eb, 0, none⟩ = some (.map (some b))) (hM : Holds w 9 b n f) (hn : n < maxLen) (hs : s.size ≤ maxLen) :
    Calls Try.prog 18 #[.pointer (some ⟨eb, 0, none⟩), .string s] w fun e w' => e = .returned (.tuple #[]) ∧ Holds w' 9 b (n + 1) (upd f (.string s.data.toList) true) ∧ w.grownBy w' (some b) := by
  obtain ⟨D, ho, hr⟩ := hM
  have q27 : ∀ (w : World) (r : Option Nat), (binOp .eql 27 (.map r) (.map none)).run Try.prog w = .ok (.bool r.isNone) w := fun w r => run_eql_map_nil w _ _ _ r Try.underlying27
  go_enter Try.func18, Try.ntmps18
  go_wp2_with (at_mapUpdate; refine wpList_mapUpdate_own _ rfl _ _ _ 27 rfl 9 4 law9 Try.underlying27 _ b n _ rfl ho hn _ _ _ rfl rfl (keyOf_string_mk Try.underlying9 hs) _ [] (plainElem_bool Try.underlying4 true) ?_; intro w1 ho1 hg1)
  go_end0
  exact ⟨rfl, ⟨_, ho1, rep_put (k := .string s.data.toList) hr ho.isMap trivial true⟩, hg1⟩

set_option maxHeartbeats 400000 in
theorem addM_nil (eb : Nat) (s : ByteArray) (w : World) (hc : w.cell? ⟨eb, 0, none⟩ = some (.map none)) (hf : w.frozen? ⟨eb, 0, none⟩ = false) (hs : s.size ≤ maxLen) :
    Calls Try.prog 18 #[.pointer (some ⟨eb, 0, none⟩), .string s] w fun e w' => e = .returned (.tuple #[]) ∧ Holds w' 9 w.heap.size 1 (upd emp (.string s.data.toList) true) ∧ w.grownBy w' (some eb) ∧
      w'.cell? ⟨eb, 0, none⟩ = some (.map (some w.heap.size)) ∧ (∀ o, o ≠ 0 → w'.cell? ⟨eb, o, none⟩ = w.cell? ⟨eb, o, none⟩) ∧ ∀ o, w'.frozen? ⟨eb, o, none⟩ = w.frozen? ⟨eb, o, none⟩ := by
  have hlt := cell_lt hc
  have q27 : ∀ (w : World) (r : Option Nat), (binOp .eql 27 (.map r) (.map none)).run Try.prog w = .ok (.bool r.isNone) w := fun w r => run_eql_map_nil w _ _ _ r Try.underlying27
  have hmm := @run_makeMap Try.prog
  have ho : ((w.setCell ⟨eb, 0, none⟩ (.map (some w.heap.size))).alloc (.map #[] 0)).ownsMap (H := Unit) Try.prog 9 (plainElem Try.prog 4) w.heap.size 0 (.map []) := by
    have h := World.ownsMap_made (H := Unit) (w.setCell ⟨eb, 0, none⟩ (.map (some w.heap.size))) Try.prog 9 (plainElem Try.prog 4)
    rw [World.size_setCell] at h
    exact h
  go_enter Try.func18, Try.ntmps18
  go_wp2_with (at_mapUpdate; refine wpList_mapUpdate_own _ rfl _ _ _ 27 rfl 9 4 law9 Try.underlying27 _ w.heap.size 0 _ rfl ho (by decide) _ _ _ rfl rfl (keyOf_string_mk Try.underlying9 hs) _ [] (plainElem_bool Try.underlying4 true) ?_; intro w1 ho1 hg1)
  go_end0
  obtain ⟨r1, r2, r3, r4⟩ := made_in w eb 0 _ _ w1 hc hg1
  exact ⟨rfl, ⟨_, ho1, rep_put (k := .string s.data.toList) rep_empty ho.isMap trivial true⟩, r1, r2, r3, r4⟩

set_option maxHeartbeats 400000 in
theorem addI_some (eb b n : Nat) (f : Lit → Option Bool) (x : Int) (w : World) (hc : w.cell? ⟨eb, 2, none⟩ = some (.map (some b))) (hM : Holds w 3 b n f) (hn : n < maxLen) (hx : (Lit.int .i64 x).wf = true) :
    Calls Try.prog 19 #[.pointer (some ⟨eb, 0, none⟩), .int .i64 x] w fun e w' => e = .returned (.tuple #[]) ∧ Holds w' 3 b (n + 1) (upd f (.int .i64 x) true) ∧ w.grownBy w' (some b) := by
  obtain ⟨D, ho, hr⟩ := hM
  have q28 : ∀ (w : World) (r : Option Nat), (binOp .eql 28 (.map r) (.map none)).run Try.prog w = .ok (.bool r.isNone) w := fun w r => run_eql_map_nil w _ _ _ r Try.underlying28
  go_enter Try.func19, Try.ntmps19
  go_wp2_with (at_mapUpdate; refine wpList_mapUpdate_own _ rfl _ _ _ 28 rfl 3 4 law3 Try.underlying28 _ b n _ rfl ho hn _ _ _ rfl rfl (keyOf_int_mk Try.underlying3 hx) _ [] (plainElem_bool Try.underlying4 true) ?_; intro w1 ho1 hg1)
  go_end0
  exact ⟨rfl, ⟨_, ho1, rep_put (k := .int .i64 x) hr ho.isMap trivial true⟩, hg1⟩

set_option maxHeartbeats 400000 in
theorem addI_nil (eb : Nat) (x : Int) (w : World) (hc : w.cell? ⟨eb, 2, none⟩ = some (.map none)) (hf : w.frozen? ⟨eb, 2, none⟩ = false) (hx : (Lit.int .i64 x).wf = true) :
    Calls Try.prog 19 #[.pointer (some ⟨eb, 0, none⟩), .int .i64 x] w fun e w' => e = .returned (.tuple #[]) ∧ Holds w' 3 w.heap.size 1 (upd emp (.int .i64 x) true) ∧ w.grownBy w' (some eb) ∧
      w'.cell? ⟨eb, 2, none⟩ = some (.map (some w.heap.size)) ∧ (∀ o, o ≠ 2 → w'.cell? ⟨eb, o, none⟩ = w.cell? ⟨eb, o, none⟩) ∧ ∀ o, w'.frozen? ⟨eb, o, none⟩ = w.frozen? ⟨eb, o, none⟩ := by
  have hlt := cell_lt hc
  have q28 : ∀ (w : World) (r : Option Nat), (binOp .eql 28 (.map r) (.map none)).run Try.prog w = .ok (.bool r.isNone) w := fun w r => run_eql_map_nil w _ _ _ r Try.underlying28
  have hmm := @run_makeMap Try.prog
  have ho : ((w.setCell ⟨eb, 2, none⟩ (.map (some w.heap.size))).alloc (.map #[] 0)).ownsMap (H := Unit) Try.prog 3 (plainElem Try.prog 4) w.heap.size 0 (.map []) := by
    have h := World.ownsMap_made (H := Unit) (w.setCell ⟨eb, 2, none⟩ (.map (some w.heap.size))) Try.prog 3 (plainElem Try.prog 4)
    rw [World.size_setCell] at h
    exact h
  go_enter Try.func19, Try.ntmps19
  go_wp2_with (at_mapUpdate; refine wpList_mapUpdate_own _ rfl _ _ _ 28 rfl 3 4 law3 Try.underlying28 _ w.heap.size 0 _ rfl ho (by decide) _ _ _ rfl rfl (keyOf_int_mk Try.underlying3 hx) _ [] (plainElem_bool Try.underlying4 true) ?_; intro w1 ho1 hg1)
  go_end0
  obtain ⟨r1, r2, r3, r4⟩ := made_in w eb 2 _ _ w1 hc hg1
  exact ⟨rfl, ⟨_, ho1, rep_put (k := .int .i64 x) rep_empty ho.isMap trivial true⟩, r1, r2, r3, r4⟩

end Go.Proofs.Qxb6623451a
