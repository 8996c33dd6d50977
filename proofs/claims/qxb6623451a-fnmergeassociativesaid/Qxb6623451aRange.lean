/-
  'for k := range m' OVER A MAP THAT MAY BE nil; the state of e.merge(o) between two steps.
-/
import Derived.Test.Qxb6623451aMake
namespace Go.Proofs.Qxb6623451a
open Go.RowKit Go.Maps Go.WideMaps
set_option linter.unusedVariables false

/-- A map value, nil or not, that holds just what f says. -/
def IsMp (w : World) (k : TypeId) (m : Option Nat) (n : Nat) (f : Lit → Option Bool) : Prop := (m = none ∧ f = emp) ∨ ∃ b, m = some b ∧ Holds w k b n f

/-- Block r is an iterator. -/
def IsIter (w : World) (r : Nat) : Prop := ∃ m a s c, w.heap[r]? = some (.mapIter m a s c)

def RangesO (w : World) (k : TypeId) (m : Option Nat) (r n : Nat) (g : Lit → Option Bool) (left : Lit → Bool) (cnt : Nat) : Prop :=
  (m = none ∧ cnt = 0 ∧ (∀ kl, left kl = false) ∧ w.heap[r]? = some (.mapIter none 0 #[] 0)) ∨
  ∃ b D, m = some b ∧ w.ranges (H := Unit) Try.prog k (plainElem Try.prog 4) b r n D left cnt ∧ Rep D g

def leftO (w : World) (m : Option Nat) (r : Nat) : Nat := match m with | some b => w.rangeLeft b r | none => 0

theorem RangesO.left_eq {w : World} {k : TypeId} {m : Option Nat} {r n : Nat} {g : Lit → Option Bool} {left : Lit → Bool} {cnt : Nat} (h : RangesO w k m r n g left cnt) : leftO w m r = cnt := by
  rcases h with ⟨rfl, rfl, _⟩ | ⟨b, D, rfl, h, _⟩
  · rfl
  · exact h.left_eq

theorem RangesO.iter {w : World} {k : TypeId} {m : Option Nat} {r n : Nat} {g : Lit → Option Bool} {left : Lit → Bool} {cnt : Nat} (h : RangesO w k m r n g left cnt) : IsIter w r := by
  rcases h with ⟨rfl, rfl, _, h⟩ | ⟨b, D, rfl, h, _⟩
  · exact ⟨_, _, _, _, h⟩
  · obtain ⟨es, clock, since, seen, c0, hb, _, _, _, hr, _⟩ := h
    exact ⟨_, _, _, _, hr⟩

theorem IsIter.lt {w : World} {r : Nat} (h : IsIter w r) : r < w.heap.size := by
  obtain ⟨m, a, s, c, h⟩ := h
  exact (Array.getElem?_eq_some_iff.1 h).1

theorem RangesO.kept {w w' : World} {k : TypeId} {m : Option Nat} {r n : Nat} {g : Lit → Option Bool} {left : Lit → Bool} {cnt : Nat} {row : Option Nat} (h : RangesO w k m r n g left cnt) (hg : w.grownBy w' row) (hm : ∀ b, m = some b → some b ≠ row) (hr : some r ≠ row) : RangesO w' k m r n g left cnt := by
  have hlt := h.iter.lt
  rcases h with ⟨rfl, rfl, hl, h⟩ | ⟨b, D, rfl, h, hD⟩
  · exact .inl ⟨rfl, rfl, hl, (hg.block r hlt hr).trans h⟩
  · exact .inr ⟨b, D, rfl, h.kept hg (hm b rfl) hr, hD⟩

theorem IsMp.kept {w w' : World} {k : TypeId} {m : Option Nat} {n : Nat} {f : Lit → Option Bool} {row : Option Nat} (h : IsMp w k m n f) (hg : w.grownBy w' row) (hm : ∀ b, m = some b → some b ≠ row) : IsMp w' k m n f := by
  rcases h with ⟨rfl, rfl⟩ | ⟨b, rfl, h⟩
  · exact .inl ⟨rfl, rfl⟩
  · exact .inr ⟨b, rfl, h.kept hg (hm b rfl)⟩

theorem IsMp.mono {w : World} {k : TypeId} {m : Option Nat} {n n' : Nat} {f : Lit → Option Bool} (h : IsMp w k m n f) (hn : n ≤ n') : IsMp w k m n' f := by
  rcases h with ⟨rfl, rfl⟩ | ⟨b, rfl, h⟩
  · exact .inl ⟨rfl, rfl⟩
  · exact .inr ⟨b, rfl, h.mono hn⟩

theorem IsMp.lt {w : World} {k : TypeId} {m : Option Nat} {n : Nat} {f : Lit → Option Bool} (h : IsMp w k m n f) : ∀ b, m = some b → b < w.heap.size := by
  intro b hb
  rcases h with ⟨rfl, rfl⟩ | ⟨b', rfl, h⟩
  · cases hb
  · cases hb; exact h.lt

theorem Holds.ne_cell {w : World} {k : TypeId} {b n : Nat} {f : Lit → Option Bool} (h : Holds w k b n f) {c o : Nat} {v : Value} (hc : w.cell? ⟨c, o, none⟩ = some v) : b ≠ c := by
  obtain ⟨D, ⟨es, clock, hb, _⟩, _⟩ := h
  intro e
  subst e
  simp [World.cell?, hb] at hc

theorem IsMp.ne_cell {w : World} {k : TypeId} {m : Option Nat} {n : Nat} {f : Lit → Option Bool} (h : IsMp w k m n f) {c o : Nat} {v : Value} (hc : w.cell? ⟨c, o, none⟩ = some v) : ∀ b, m = some b → b ≠ c := by
  intro b hb
  rcases h with ⟨rfl, rfl⟩ | ⟨b', rfl, h⟩
  · cases hb
  · cases hb; exact h.ne_cell hc

theorem IsMp.ne_iter {w : World} {k : TypeId} {m : Option Nat} {n : Nat} {f : Lit → Option Bool} (h : IsMp w k m n f) {r : Nat} (hr : IsIter w r) : ∀ b, m = some b → b ≠ r := by
  intro b hb
  rcases h with ⟨rfl, rfl⟩ | ⟨b', rfl, D, ⟨es, clock, hb', _⟩, _⟩
  · cases hb
  · cases hb
    obtain ⟨m, a, s, c, h⟩ := hr
    intro e
    subst e
    rw [hb'] at h
    cases h

theorem IsIter.ne_cell {w : World} {r : Nat} (hr : IsIter w r) {c o : Nat} {v : Value} (hc : w.cell? ⟨c, o, none⟩ = some v) : r ≠ c := by
  obtain ⟨m, a, s, c, h⟩ := hr
  intro e
  subst e
  simp [World.cell?, h] at hc

theorem keyOf_string_inv {P : Program} {k : TypeId} (hk : P.underlying k = some .string) {key : Value} {kl : Lit} (h : keyOf P k key = some kl) : ∃ s : ByteArray, key = .string s ∧ kl = .string s.data.toList ∧ s.size ≤ maxLen := by
  cases key <;> simp [keyOf, hk, mapKey] at h
  obtain ⟨hw, rfl⟩ := h
  exact ⟨_, rfl, rfl, hw⟩

theorem plainElem_bool_inv {P : Program} {e : TypeId} (he : P.underlying e = some .bool) {v : Value} {z : DataW Unit × List MemPlace} (h : plainElem P e v = some z) : ∃ c, v = .bool c ∧ z = (.lit (.bool c), []) := by
  unfold plainElem at h
  rw [he] at h
  cases v <;> simp at h
  exact ⟨_, rfl, h.symm⟩

section
variable (w : World) {ops : Array Oper} {rest : List Oper} {o : Oper} {a : Act} {Q : Exit → Act → World → Prop}

theorem wpList_range_opt (hg : o.guard = none) (m : Operand) (t : TypeId) (hop : o.op = Op.range t m) (k : TypeId) (K : Keyed Try.prog k) (ht : Try.prog.underlying t = some (.map k 4)) (mo : Option Nat) (n : Nat) (g : Lit → Option Bool)
    (hm : a.eval m = .map mo) (h : IsMp w k mo n g)
    (hK : ∀ w' cnt left, RangesO w' k mo w.heap.size n g left cnt → (∀ kl, left kl = (g kl).isSome) → cnt ≤ n → w.grownBy w' none → w'.heap.size = w.heap.size + 1 → wpList Try.prog ops Q rest (a.put o.dst (.pointer (some ⟨w.heap.size, 0, none⟩))) w') :
    wpList Try.prog ops Q (o :: rest) a w := by
  rcases h with ⟨rfl, rfl⟩ | ⟨b, rfl, D, ho, hr⟩
  · refine wpList_plain hg fun K' hK' => ?_
    have hrun := run_range_nilMap (P := Try.prog) w t k 4 ht
    unfold Oper.wp
    simp [execOp, hop, hm, hrun, Result.andThen]
    exact hK' _ _ (hK _ 0 (fun _ => false) (.inl ⟨rfl, rfl, fun _ => rfl, (MapKept.heap_alloc w _).1⟩) (fun _ => rfl) (Nat.zero_le _) (World.grownBy_alloc _ _ _) (by simp))
  · refine wpList_range_own w hg m t hop k 4 K ht _ b n D hm ho (fun w' h1 h2 h3 => ?_)
    exact hK w' _ _ (.inr ⟨b, D, rfl, h1, hr⟩) (fun kl => (hr kl).1) ho.size_le h2 h3

theorem run_next_nil {r : Nat} (h : w.heap[r]? = some (.mapIter none 0 #[] 0)) (ty : TypeId) : (Instr.next (.pointer (some ⟨r, 0, none⟩)) false ty).run Try.prog w = .ok (.tuple #[.bool false]) w := by
  simp only [Instr.next, getObj, Sem.run_bind, Sem.run, h, Result.andThen]
  rfl

theorem wpList_next_opt {α : Type} (hg : o.guard = none) (it : Operand) (hop : o.op = Op.next it false) (k : TypeId) (K : Keyed Try.prog k) (mkK : α → Value) (mkL : α → Lit)
    (invK : ∀ key kl, keyOf Try.prog k key = some kl → ∃ x, key = mkK x ∧ kl = mkL x) (m : Option Nat) (r n : Nat) (g : Lit → Option Bool) (left : Lit → Bool) (cnt : Nat)
    (hit : a.eval it = .pointer (some ⟨r, 0, none⟩)) (h : RangesO w k m r n g left cnt)
    (hDone : cnt = 0 → (∀ kl, left kl = false) → wpList Try.prog ops Q rest (a.put o.dst (.tuple #[.bool false])) w)
    (hMore : ∀ (x : α) (c : Value) (w' : World) (cnt' : Nat), keyOf Try.prog k (mkK x) = some (mkL x) → (g (mkL x)).isSome = true → RangesO w' k m r n g (fun z => left z && !z.sameKey (mkL x)) cnt' → cnt' < cnt →
      w.grownBy w' (some r) → w'.heap.size = w.heap.size → (Instr.entry (.pointer (some ⟨r, 0, none⟩))).run Try.prog w' = .ok (.tuple #[mkK x, c]) w' → wpList Try.prog ops Q rest (a.put o.dst (.tuple #[.bool true, mkK x, c])) w') :
    wpList Try.prog ops Q (o :: rest) a w := by
  rcases h with ⟨rfl, rfl, hl, h⟩ | ⟨b, D, rfl, h, hD⟩
  · refine wpList_plain hg fun K' hK' => ?_
    have hrun := run_next_nil w h o.type
    unfold Oper.wp
    simp [execOp, hop, hit, hrun, Result.andThen]
    exact hK' _ _ (hDone rfl hl)
  · refine wpList_next_ranges (β := Bool) w hg it hop k K (plainElem Try.prog 4) mkK Value.bool (fun key kl hk => ?_) (fun v y hv => ?_) b r n D left cnt hit h hDone (fun x c kl y w' cnt' hkey hlk hv hat hrg hlt hgr hsz hen => ?_)
    · obtain ⟨x, e, _⟩ := invK key kl hk
      exact ⟨x, e⟩
    · obtain ⟨c, e, _⟩ := plainElem_bool_inv Try.underlying4 hv
      exact ⟨c, e⟩
    · obtain ⟨x', e1, e2⟩ := invK _ _ hkey
      have hx : keyOf Try.prog k (mkK x) = some (mkL x') := by rw [hkey, e2]
      have hh : Maps.has D kl = true := has_true_of_atKey hat
      rw [(hD kl).1, e2] at hh
      rw [e2] at hrg
      rw [e1] at hen ⊢
      exact hMore x' (.bool c) w' cnt' (by rw [← e1]; exact hx) hh (.inr ⟨b, D, rfl, hrg, hD⟩) hlt hgr hsz hen
end

end Go.Proofs.Qxb6623451a
