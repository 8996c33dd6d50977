/-
  The dense order is the compare; laws of the rows that a copy lays.
-/
import Derived.Test.Qxb6623506aAbove
import Derived.Laws.CopyOwn
import Derived.Deep.OwnRows
import Derived.Deep.Cut
import Derived.Deep.CutRange
namespace Go.Proofs.Qxb6623506a
open Go.RowKit
set_option linter.unusedVariables false

theorem cAt_at (p c : Nat → Int) (q : Int) : ∀ (n i : Nat), cAt p c n i q = at_ (vlist p c n i) q
  | 0, _ => rfl
  | n + 1, i => by
    show (if p i = q then c i else cAt p c n (i + 1) q) = if p i = q then c i else at_ (vlist p c n (i + 1)) q
    rw [cAt_at p c q n (i + 1)]

theorem allAt_some (p c p2 c2 : Nat → Int) (l2 : Nat) : ∀ (n i : Nat), allAt p c p2 c2 l2 n i = !someAbove (vlist p c n i) (vlist p2 c2 l2 0)
  | 0, _ => rfl
  | n + 1, i => by
    show (if cAt p2 c2 l2 0 (p i) < c i then false else allAt p c p2 c2 l2 n (i + 1)) = !(decide (at_ (vlist p2 c2 l2 0) (p i) < c i) || someAbove (vlist p c n (i + 1)) (vlist p2 c2 l2 0))
    rw [cAt_at, allAt_some p c p2 c2 l2 n (i + 1)]
    by_cases h : at_ (vlist p2 c2 l2 0) (p i) < c i
    · simp [h]
    · simp [h]

theorem mem_vlist (p c : Nat → Int) (a : Int × Int) : ∀ (n i : Nat), a ∈ vlist p c n i → ∃ j, i ≤ j ∧ j < i + n ∧ a = (p j, c j)
  | 0, _, h => by cases h
  | n + 1, i, h => by
    rcases List.mem_cons.1 h with e | h2
    · exact ⟨i, Nat.le_refl _, by omega, e⟩
    · obtain ⟨j, h3, h4, e⟩ := mem_vlist p c a n (i + 1) h2
      exact ⟨j, by omega, by omega, e⟩

theorem rise_lt (p : Nat → Int) (n : Nat) (h : ∀ i, 0 < i → i < n → p (i - 1) < p i) : ∀ (d i : Nat), i + d + 1 < n → p i < p (i + d + 1)
  | 0, i, hd => h (i + 1) (by omega) hd
  | d + 1, i, hd => Int.lt_trans (rise_lt p n h d i (by omega)) (h (i + d + 1 + 1) (by omega) hd)

theorem rising_vlist (p c : Nat → Int) (N : Nat) (h : ∀ i, 0 < i → i < N → p (i - 1) < p i) : ∀ (n i : Nat), i + n ≤ N → Rising (vlist p c n i)
  | 0, _, _ => trivial
  | n + 1, i, hn => by
    refine ⟨fun b hb => ?_, rising_vlist p c N h n (i + 1) (by omega)⟩
    obtain ⟨j, h1, h2, rfl⟩ := mem_vlist p c b n (i + 1) hb
    have := rise_lt p N h (j - (i + 1)) i (by omega)
    rw [show i + (j - (i + 1)) + 1 = j by omega] at this
    exact this

theorem rising_of (p c : Nat → Int) (n : Nat) (h : WF p c n) : Rising (vlist p c n 0) := rising_vlist p c n h.2 n 0 (by omega)
theorem pos_of (p c : Nat → Int) (n : Nat) (h : WF p c n) (hc : ∀ i, i < n → 0 ≤ c i) : Pos (vlist p c n 0) := by
  intro a ha
  obtain ⟨j, h1, h2, rfl⟩ := mem_vlist p c a n 0 ha
  have h3 := h.1 j (by omega)
  have h4 := hc j (by omega)
  show 0 < c j
  omega

section
variable (p c p2 c2 : Nat → Int) (n n2 : Nat) (h : WF p c n) (hc : ∀ i, i < n → 0 ≤ c i) (h2 : WF p2 c2 n2) (hc2 : ∀ i, i < n2 → 0 ≤ c2 i)
include h hc h2 hc2
theorem cmp_dense : cmpF p c n p2 c2 n2 = denseF (allAt p c p2 c2 n2 n 0) (allAt p2 c2 p c n n2 0) := by
  unfold cmpF
  rw [above_iff _ _ (rising_of p2 c2 n2 h2) (pos_of p2 c2 n2 h2 hc2) (rising_of p c n h), above_iff _ _ (rising_of p c n h) (pos_of p c n h hc) (rising_of p2 c2 n2 h2), dense_compare, allAt_some, allAt_some]
theorem cmp_mirror : cmpF p2 c2 n2 p c n = mirrorF (denseF (allAt p c p2 c2 n2 n 0) (allAt p2 c2 p c n n2 0)) := by
  unfold cmpF
  rw [above_iff _ _ (rising_of p2 c2 n2 h2) (pos_of p2 c2 n2 h2 hc2) (rising_of p c n h), above_iff _ _ (rising_of p c n h) (pos_of p c n h hc) (rising_of p2 c2 n2 h2), allAt_some, allAt_some]
  exact mirror_compare _ _
end

theorem info3 : (Try.prog.info? 3).map (fun i => (i.zero, i.size, i.bytes)) = some (some (.int .i64 0), 1, 8) := by kernel_rfl
theorem info28 : (Try.prog.info? 28).map (fun i => (i.zero, i.size, i.bytes)) = some (some (.int .u64 0), 1, 8) := by kernel_rfl
theorem size3 : (Try.prog.info? 3).map (·.size) = some 1 := by kernel_rfl
theorem size28 : (Try.prog.info? 28).map (·.size) = some 1 := by kernel_rfl

/-- The cells that go over. -/
def lay (f : Nat → Value) (n : Nat) : List Value := (List.range n).map f

theorem lay_length (f : Nat → Value) (n : Nat) : (lay f n).length = n := by simp [lay]
theorem lay_at (f : Nat → Value) (n j : Nat) (v : Value) (h : (lay f n)[j]? = some v) : j < n ∧ v = f j := by
  have hj : j < (lay f n).length := (List.getElem?_eq_some_iff.1 h).1
  rw [lay_length] at hj
  refine ⟨hj, ?_⟩
  simp [lay, hj] at h
  exact h.symm

theorem copied {w : World} {g n : Nat} {f : Nat → Value} {z : Value} {t : TypeId} (h : w.heap[g]? = some (.cells (splice (List.replicate n z) 0 (lay f n)).toArray t (0, 0))) : RowOf w (some ⟨g, 0, none⟩) n f := by
  intro i hi
  refine ⟨g, 0, rfl, ?_⟩
  have e : (splice (List.replicate n z) 0 (lay f n)) = lay f n := by simp [splice, lay_length]
  rw [e] at h
  have h2 : (lay f n)[i]? = some (f i) := by simp [lay, hi]
  simp [World.cell?, h, h2]

theorem made_row (w : World) (z : Value) (n : Nat) (e : TypeId) : (w.alloc (.cells (madeCells #[z] n) e)).heap[w.heap.size]? = some (.cells (List.replicate n z).toArray e (0, 0)) := by
  have h : madeCells #[z] n = (List.replicate n z).toArray := by
    rw [← toList_madeCells_one]
  rw [h]
  show (w.heap.push _)[w.heap.size]? = _
  simp

theorem src_pos {w w' : World} {x : Addr} {n : Nat} {f : Nat → Value} (h : RowOf w (some x) n f) (hb : Below w.heap.size w w') (g : Nat) :
    0 < (lay f n).length → (some ⟨g, 0, none⟩ : Option Addr) = some ⟨g, 0, none⟩ ∧ ∃ ad, some x = some ad ∧ ∀ j v, (lay f n)[j]? = some v → w'.cell? (ad.add j) = some v := by
  intro _
  refine ⟨rfl, x, rfl, fun j v hj => ?_⟩
  obtain ⟨hlt, rfl⟩ := lay_at f n j v hj
  obtain ⟨b, off, e, hc⟩ := (h.below hb) j hlt
  obtain rfl := Option.some.inj e
  rw [Addr.add_lit]
  exact hc

theorem one_ints (p : Nat → Int) (n : Nat) : ∀ v ∈ lay (ints p) n, v.oneCell' = true := by
  intro v hv
  obtain ⟨i, _, rfl⟩ := List.mem_map.1 hv
  rfl
theorem one_cnts (p : Nat → Int) (n : Nat) : ∀ v ∈ lay (cnts p) n, v.oneCell' = true := by
  intro v hv
  obtain ⟨i, _, rfl⟩ := List.mem_map.1 hv
  rfl

end Go.Proofs.Qxb6623506a
