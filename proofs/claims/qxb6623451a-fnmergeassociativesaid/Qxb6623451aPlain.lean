/-
  MAPS AS FUNCTIONS: what a map[K]bool holds, key by key. No Go text.
-/
import Derived.Maps.Ext
import Derived.Maps.OwnSet
namespace Go.Proofs.Qxb6623451a
open Go.Maps

/-- Key by key: the datum D holds just what f says. -/
def Rep (D : DataW Unit) (f : Lit → Option Bool) : Prop :=
  ∀ k, Maps.has D k = (f k).isSome ∧ ∀ z v, f k = some v → D.atKey k z = .lit (.bool v)

def upd (f : Lit → Option Bool) (k : Lit) (v : Bool) : Lit → Option Bool := fun x => if x.sameKey k then some v else f x
def emp : Lit → Option Bool := fun _ => none

theorem rep_empty : Rep (.map []) emp := fun _ => ⟨rfl, fun _ _ h => by cases h⟩

theorem rep_put {D : DataW Unit} {f : Lit → Option Bool} (h : Rep D f) (hm : IsMap D) {k : Lit} (hk : WideAt.IsKeyLit k) (v : Bool) : Rep (D.put k (.lit (.bool v))) (upd f k v) := by
  intro x
  by_cases e : x = k
  · subst e
    have hs := WideAt.sameKey_self hk
    refine ⟨by rw [has_put_same hm hk]; simp [upd, hs], fun z u hu => ?_⟩
    rw [atKey_put_same hm hk]
    simp [upd, hs] at hu
    rw [hu]
  · have hs := sameKey_ne e
    refine ⟨by rw [has_put_other e]; simp [upd, hs, (h x).1], fun z u hu => ?_⟩
    rw [atKey_put_other e]
    simp [upd, hs] at hu
    exact (h x).2 z u hu

theorem rep_ext {D D' : DataW Unit} {f g : Lit → Option Bool} (h : Rep D f) (h' : Rep D' g) (c : Canon D) (c' : Canon D') (hfg : ∀ k, f k = g k) : D = D' := by
  refine Maps.ext c c' (fun k => by rw [(h k).1, (h' k).1, hfg]) (fun k z hk => ?_)
  rw [(h k).1] at hk
  obtain ⟨v, hv⟩ := Option.isSome_iff_exists.1 hk
  rw [(h k).2 z v hv, (h' k).2 z v (by rw [← hfg]; exact hv)]

/-- The entries (ks i, vs i), lo <= i < lo + n, a later one wins. -/
def memb (ks : Nat → Lit) (vs : Nat → Bool) (lo : Nat) : Nat → Lit → Option Bool
  | 0 => emp
  | n + 1 => upd (memb ks vs lo n) (ks (lo + n)) (vs (lo + n))

/-- f, with each key ks i, i < n, marked. -/
def over (f : Lit → Option Bool) (ks : Nat → Lit) : Nat → Lit → Option Bool
  | 0 => f
  | n + 1 => upd (over f ks n) (ks n) true

def keyIn (ks : Nat → Lit) (lo : Nat) : Nat → Lit → Bool
  | 0, _ => false
  | n + 1, x => x.sameKey (ks (lo + n)) || keyIn ks lo n x

/-- f, with each key of g marked. -/
def union (f g : Lit → Option Bool) : Lit → Option Bool := fun k => if (g k).isSome then some true else f k

theorem memb_some (ks : Nat → Lit) (vs : Nat → Bool) (lo n : Nat) (x : Lit) : (memb ks vs lo n x).isSome = keyIn ks lo n x := by
  induction n with
  | zero => rfl
  | succ n ih =>
    simp only [memb, upd, keyIn]
    cases x.sameKey (ks (lo + n)) <;> simp [ih]

theorem over_eq (f : Lit → Option Bool) (ks : Nat → Lit) (n : Nat) (x : Lit) : over f ks n x = if keyIn ks 0 n x then some true else f x := by
  induction n with
  | zero => simp [over, keyIn]
  | succ n ih =>
    simp only [over, upd, keyIn, Nat.zero_add]
    cases x.sameKey (ks n) <;> simp [ih]

theorem keyIn_split (ks : Nat → Lit) (lo a b : Nat) (x : Lit) : keyIn ks lo (a + b) x = (keyIn ks lo a x || keyIn ks (lo + a) b x) := by
  induction b with
  | zero => simp [keyIn]
  | succ b ih =>
    rw [← Nat.add_assoc]
    simp only [keyIn, ih, Nat.add_assoc]
    cases x.sameKey (ks (lo + (a + b))) <;> simp

theorem keyIn_at (ks : Nat → Lit) (lo n j : Nat) (hj : j < n) (hk : WideAt.IsKeyLit (ks (lo + j))) : keyIn ks lo n (ks (lo + j)) = true := by
  induction n with
  | zero => omega
  | succ n ih =>
    simp only [keyIn]
    by_cases e : j = n
    · subst e; rw [WideAt.sameKey_self hk]; rfl
    · rw [ih (by omega)]; simp

theorem union_eq (f g : Lit → Option Bool) (x : Lit) : union f g x = if (g x).isSome then some true else f x := rfl

theorem union_some (f g : Lit → Option Bool) (x : Lit) : (union f g x).isSome = ((g x).isSome || (f x).isSome) := by
  unfold union
  cases (g x).isSome <;> simp

/-- What the loop over g leaves, while 'left' is still to come. -/
def part (f g : Lit → Option Bool) (left : Lit → Bool) : Lit → Option Bool := fun k => if (g k).isSome && !left k then some true else f k

theorem part_start {f g : Lit → Option Bool} {left : Lit → Bool} (h : ∀ k, left k = (g k).isSome) : part f g left = f := by
  funext k
  unfold part
  rw [h]
  cases (g k).isSome <;> simp

theorem part_end {f g : Lit → Option Bool} {left : Lit → Bool} (h : ∀ k, left k = false) : part f g left = union f g := by
  funext k
  simp [part, h, union]

theorem part_step {f g : Lit → Option Bool} {left : Lit → Bool} {kl : Lit} (hk : (g kl).isSome = true) : part f g (fun z => left z && !z.sameKey kl) = upd (part f g left) kl true := by
  funext k
  unfold part upd
  by_cases e : k = kl
  · subst e
    cases hs : k.sameKey k <;> simp [hk, hs]
  · simp [sameKey_ne e]

end Go.Proofs.Qxb6623451a
