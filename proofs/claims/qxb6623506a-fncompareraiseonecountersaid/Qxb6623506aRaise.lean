/-
  zzRaise (12).
-/
import Derived.Test.Qxb6623506aRaiseP
namespace Go.Proofs.Qxb6623506a
open Go.RowKit
set_option linter.unusedVariables false

def fsts (acc : Vec) : List Value := acc.map (fun a => .int .i64 a.1)
def snds (acc : Vec) : List Value := acc.map (fun a => .int .u64 a.2)

/-- The two rows that the function lays. -/
def StR (w0 W : World) (g1 g2 cap m : Nat) (acc : Vec) : Prop :=
  W.ownsRow w0.heap.size 3 1 (.slice (some ⟨g1, 0, none⟩) m cap) m (fsts acc) ∧ W.ownsRow w0.heap.size 28 1 (.slice (some ⟨g2, 0, none⟩) m cap) m (snds acc) ∧ Below w0.heap.size w0 W ∧ g1 ≠ g2

theorem one_new (W : World) (v : Value) (t : TypeId) : ∀ j u, [v][j]? = some u → (W.alloc (Obj.cells #[v] t)).cell? ((⟨W.heap.size, 0, none⟩ : Addr).add j) = some u := by
  intro j u h
  cases j with
  | zero =>
    have e : v = u := by simpa using h
    rw [Addr.add_lit, ← e]
    exact (World.cell?_alloc_at _ _ _ _ rfl).trans rfl
  | succ j => simp at h

theorem own_ge {w : World} {base e size g n cap : Nat} {xs : List Value} (h : w.ownsRow base e size (.slice (some ⟨g, 0, none⟩) n cap) n xs) : base ≤ g := by
  rcases h.2 with ⟨h', _⟩ | ⟨g', cap', cur, h', hb, hg, _⟩
  · simp at h'
  · simp only [Value.slice.injEq, Option.some.injEq, Addr.mk.injEq, and_true, true_and] at h'
    obtain ⟨rfl, rfl⟩ := h'
    exact hb

theorem push {w0 W : World} {g1 g2 cap m : Nat} {acc : Vec} (h : StR w0 W g1 g2 cap m acc) (hm : m < cap) (x y : Int) :
    ∃ W2 W3, (Builtin.append_ #[22, 22] 22 #[.slice (some ⟨g1, 0, none⟩) m cap, .slice (some ⟨W.heap.size, 0, none⟩) 1 1]).run Try.prog (W.alloc (Obj.cells #[.int .i64 x] 3)) = .ok (.slice (some ⟨g1, 0, none⟩) (m + 1) cap) W2 ∧
      (Builtin.append_ #[23, 23] 23 #[.slice (some ⟨g2, 0, none⟩) m cap, .slice (some ⟨W2.heap.size, 0, none⟩) 1 1]).run Try.prog (W2.alloc (Obj.cells #[.int .u64 y] 28)) = .ok (.slice (some ⟨g2, 0, none⟩) (m + 1) cap) W3 ∧
      Hid (Below w0.heap.size w0 W2) ∧ Hid (StR w0 W3 g1 g2 cap (m + 1) (acc ++ [(x, y)])) := by
  obtain ⟨o1, o2, hb, hne⟩ := h
  obtain ⟨i3, hi3, _, hs3, _⟩ := info_parts info3
  obtain ⟨i28, hi28, _, hs28, _⟩ := info_parts info28
  have l1 := own_lt o1
  have l2 := own_lt o2
  have hg1 : w0.heap.size ≤ g1 := own_ge o1
  have hg2 : w0.heap.size ≤ g2 := own_ge o2
  have hbA : Below w0.heap.size w0 (W.alloc (Obj.cells #[.int .i64 x] 3)) := hb.alloc hb.size _
  obtain ⟨W2, r1, q1, gr1⟩ := run_append_fits (P := Try.prog) (W.alloc (Obj.cells #[.int .i64 x] 3)) w0.heap.size 22 22 3 i3 1 Try.underlying22 hi3 hs3 g1 m cap (fsts acc) (o1.alloc _) ⟨W.heap.size, 0, none⟩ 1 1 [.int .i64 x] rfl (one_new W _ _) (by simp [Value.oneCell']) (by omega)
  have hb2 : Below w0.heap.size w0 W2 := hbA.grown gr1 hbA.size (fun k e => by cases e; exact hg1)
  have o2' : W2.ownsRow w0.heap.size 28 1 (.slice (some ⟨g2, 0, none⟩) m cap) m (snds acc) := (o2.alloc _).kept gr1 (.inr (by
    show some g2 ≠ some g1
    intro e
    cases e
    exact hne rfl))
  have hbB : Below w0.heap.size w0 (W2.alloc (Obj.cells #[.int .u64 y] 28)) := hb2.alloc hb2.size _
  obtain ⟨W3, r2, q2, gr2⟩ := run_append_fits (P := Try.prog) (W2.alloc (Obj.cells #[.int .u64 y] 28)) w0.heap.size 23 23 28 i28 1 Try.underlying23 hi28 hs28 g2 m cap (snds acc) (o2'.alloc _) ⟨W2.heap.size, 0, none⟩ 1 1 [.int .u64 y] rfl (one_new W2 _ _) (by simp [Value.oneCell']) (by omega)
  have hb3 : Below w0.heap.size w0 W3 := hbB.grown gr2 hbB.size (fun k e => by cases e; exact hg2)
  have q1' : W3.ownsRow w0.heap.size 3 1 (.slice (some ⟨g1, 0, none⟩) (m + 1) cap) (m + 1) (fsts acc ++ [.int .i64 x]) := (q1.alloc _).kept gr2 (.inr (by
    show some g1 ≠ some g2
    intro e
    cases e
    exact hne rfl))
  refine ⟨W2, W3, r1, r2, hb2, ?_, ?_, hb3, hne⟩
  · have e : fsts (acc ++ [(x, y)]) = fsts acc ++ [.int .i64 x] := by simp [fsts]
    rw [e]
    exact q1'
  · have e : snds (acc ++ [(x, y)]) = snds acc ++ [.int .u64 y] := by simp [snds]
    rw [e]
    exact q2

end Go.Proofs.Qxb6623506a
