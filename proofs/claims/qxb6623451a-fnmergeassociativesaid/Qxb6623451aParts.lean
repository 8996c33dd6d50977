/-
  THE PARTS AS THE LAWS MEET THEM: records, nil or not.
-/
import Derived.Test.Qxb6623451aSame
namespace Go.Proofs.Qxb6623451a
open Go.RowKit Go.Maps Go.WideMaps
set_option linter.unusedVariables false

/-- A call has made the map m (nil just where 'nl') in memory of its own. -/
def Made (k : TypeId) (w w' : World) (m : Option Nat) (n : Nat) (f : Lit → Option Bool) (nl : Prop) : Prop :=
  IsMp w' k m n f ∧ (m = none ↔ nl) ∧ (∀ b, m = some b → w.heap.size ≤ b ∧ b < w'.heap.size) ∧ Below w.heap.size w w'

/-- zzMembersB1, nil or not. -/
theorem members_c (a av : Option Addr) (len cap lv cv : Nat) (lo hi : Nat) (ss : Nat → ByteArray) (vs : Nat → Bool) (w : World) (hn : a = none → len = 0)
    (hr : RowOf w a len (fun j => .string (ss j))) (hv : RowOf w av lv (fun j => .bool (vs j))) (hs : ∀ j, j < len → (ss j).size ≤ maxLen) (hl : len ≤ 65536) (hlv : lv ≤ 65536) (hlo : lo ≤ hi) (hhi : hi ≤ len) :
    Calls Try.prog 8 #[.slice a len cap, .slice av lv cv, .int .i64 lo, .int .i64 hi] w
      fun e w' => ∃ m, e = .returned (.map m) ∧ Made 9 w w' m (hi - lo) (memb (strKeys ss) (valAt vs lv) lo (hi - lo)) (a = none) := by
  rcases a with _ | ad
  · obtain rfl := hn rfl
    have e : hi - lo = 0 := by omega
    refine (members_nil cap lv cv av lo hi w).mono ?_
    rintro e' w' ⟨rfl, rfl⟩
    rw [e]
    exact ⟨none, rfl, .inl ⟨rfl, rfl⟩, by simp, (fun b hb => by cases hb), Below.refl _ _⟩
  · refine (members_any ad len cap lv cv av lo hi ss vs w hr hv hs hl hlv hlo hhi).mono ?_
    rintro e' w' ⟨rfl, hM, hb⟩
    exact ⟨_, rfl, .inr ⟨_, rfl, hM⟩, by simp, (fun b hb' => by cases hb'; exact ⟨Nat.le_refl _, hM.lt⟩), hb⟩

/-- zzItemsB1, nil or not. -/
theorem items_c (a av : Option Addr) (len cap lv cv : Nat) (lo hi : Nat) (ss : Nat → Int) (vs : Nat → Bool) (w : World) (hn : a = none → len = 0)
    (hr : RowOf w a len (fun j => .int .i64 (ss j))) (hv : RowOf w av lv (fun j => .bool (vs j))) (hs : ∀ j, j < len → (Lit.int .i64 (ss j)).wf = true) (hl : len ≤ 65536) (hlv : lv ≤ 65536) (hlo : lo ≤ hi) (hhi : hi ≤ len) :
    Calls Try.prog 9 #[.slice a len cap, .slice av lv cv, .int .i64 lo, .int .i64 hi] w
      fun e w' => ∃ m, e = .returned (.map m) ∧ Made 3 w w' m (hi - lo) (memb (intKeys ss) (valAt vs lv) lo (hi - lo)) (a = none) := by
  rcases a with _ | ad
  · obtain rfl := hn rfl
    have e : hi - lo = 0 := by omega
    refine (items_nil cap lv cv av lo hi w).mono ?_
    rintro e' w' ⟨rfl, rfl⟩
    rw [e]
    exact ⟨none, rfl, .inl ⟨rfl, rfl⟩, by simp, (fun b hb => by cases hb), Below.refl _ _⟩
  · refine (items_any ad len cap lv cv av lo hi ss vs w hr hv hs hl hlv hlo hhi).mono ?_
    rintro e' w' ⟨rfl, hM, hb⟩
    exact ⟨_, rfl, .inr ⟨_, rfl, hM⟩, by simp, (fun b hb' => by cases hb'; exact ⟨Nat.le_refl _, hM.lt⟩), hb⟩

theorem same_c (got : Option Nat) (wb n n' : Nat) (wn : Bool) (f g : Lit → Option Bool) (aa ab ac : Option Addr) (la ca lb cb lc cc : Nat) (sa sb sc : Nat → ByteArray) (w : World)
    (hG : IsMp w 9 got n f) (hW : Holds w 9 wb n' g) (hwn : got = none ↔ wn = true) (hfg : ∀ k, f k = g k) (ra : RowOf w aa la (fun j => .string (sa j))) (rb : RowOf w ab lb (fun j => .string (sb j))) (rc : RowOf w ac lc (fun j => .string (sc j)))
    (za : ∀ j, j < la → (sa j).size ≤ maxLen) (zb : ∀ j, j < lb → (sb j).size ≤ maxLen) (zc : ∀ j, j < lc → (sc j).size ≤ maxLen)
    (ka : ∀ j, j < la → (g (strKeys sa j)).isSome = true) (kb : ∀ j, j < lb → (g (strKeys sb j)).isSome = true) (kc : ∀ j, j < lc → (g (strKeys sc j)).isSome = true)
    (ma : la ≤ 65536) (mb : lb ≤ 65536) (mc : lc ≤ 65536) :
    Calls Try.prog 13 #[.map got, .map (some wb), .bool wn, .slice aa la ca, .slice ab lb cb, .slice ac lc cc] w fun e w' => e = .returned (.bool true) ∧ w' = w := by
  rcases hG with ⟨rfl, rfl⟩ | ⟨b, rfl, hG⟩
  · obtain rfl := hwn.1 rfl
    have z : ∀ (l : Nat) (s : Nat → ByteArray), (∀ j, j < l → (g (strKeys s j)).isSome = true) → l = 0 := fun l s h => by
      apply Classical.byContradiction
      intro hl
      have := h 0 (by omega)
      rw [← hfg] at this
      cases this
    obtain rfl := z la sa ka
    obtain rfl := z lb sb kb
    obtain rfl := z lc sc kc
    exact same_nil wb n' g aa ab ac ca cb cc w hW (fun k => (hfg k).symm)
  · have e : wn = false := by
      cases wn
      · rfl
      · cases hwn.2 rfl
    subst e
    exact same_some b wb n n' f g aa ab ac la ca lb cb lc cc sa sb sc w hG hW hfg ra rb rc za zb zc ka kb kc ma mb mc

theorem sameI_c (got : Option Nat) (wb n n' : Nat) (wn : Bool) (f g : Lit → Option Bool) (aa ab ac : Option Addr) (la ca lb cb lc cc : Nat) (sa sb sc : Nat → Int) (w : World)
    (hG : IsMp w 3 got n f) (hW : Holds w 3 wb n' g) (hwn : got = none ↔ wn = true) (hfg : ∀ k, f k = g k) (ra : RowOf w aa la (fun j => .int .i64 (sa j))) (rb : RowOf w ab lb (fun j => .int .i64 (sb j))) (rc : RowOf w ac lc (fun j => .int .i64 (sc j)))
    (za : ∀ j, j < la → (Lit.int .i64 (sa j)).wf = true) (zb : ∀ j, j < lb → (Lit.int .i64 (sb j)).wf = true) (zc : ∀ j, j < lc → (Lit.int .i64 (sc j)).wf = true)
    (ka : ∀ j, j < la → (g (intKeys sa j)).isSome = true) (kb : ∀ j, j < lb → (g (intKeys sb j)).isSome = true) (kc : ∀ j, j < lc → (g (intKeys sc j)).isSome = true)
    (ma : la ≤ 65536) (mb : lb ≤ 65536) (mc : lc ≤ 65536) :
    Calls Try.prog 14 #[.map got, .map (some wb), .bool wn, .slice aa la ca, .slice ab lb cb, .slice ac lc cc] w fun e w' => e = .returned (.bool true) ∧ w' = w := by
  rcases hG with ⟨rfl, rfl⟩ | ⟨b, rfl, hG⟩
  · obtain rfl := hwn.1 rfl
    have z : ∀ (l : Nat) (s : Nat → Int), (∀ j, j < l → (g (intKeys s j)).isSome = true) → l = 0 := fun l s h => by
      apply Classical.byContradiction
      intro hl
      have := h 0 (by omega)
      rw [← hfg] at this
      cases this
    obtain rfl := z la sa ka
    obtain rfl := z lb sb kb
    obtain rfl := z lc sc kc
    exact sameI_nil wb n' g aa ab ac ca cb cc w hW (fun k => (hfg k).symm)
  · have e : wn = false := by
      cases wn
      · rfl
      · cases hwn.2 rfl
    subst e
    exact sameI_some b wb n n' f g aa ab ac la ca lb cb lc cc sa sb sc w hG hW hfg ra rb rc za zb zc ka kb kc ma mb mc

theorem IsMp.below {w w' : World} {k : TypeId} {m : Option Nat} {n : Nat} {f : Lit → Option Bool} {B : Nat} (h : IsMp w k m n f) (hb : Below B w w') (hB : ∀ b, m = some b → b < B) : IsMp w' k m n f := by
  rcases h with ⟨rfl, rfl⟩ | ⟨b, rfl, h⟩
  · exact .inl ⟨rfl, rfl⟩
  · exact .inr ⟨b, rfl, h.block (hb.block b (hB b rfl))⟩

/-- A record: its two maps lie in blocks from lo to hi. -/
structure Rec (w : World) (lo hi : Nat) (m i : Option Nat) (n1 n2 : Nat) (f g : Lit → Option Bool) : Prop where
  hm : IsMp w 9 m n1 f
  hi3 : IsMp w 3 i n2 g
  ap : Ap m i
  bm : ∀ b, m = some b → lo ≤ b ∧ b < hi
  bi : ∀ b, i = some b → lo ≤ b ∧ b < hi

theorem Rec.lift {w w' : World} {lo hi : Nat} {m i : Option Nat} {n1 n2 : Nat} {f g : Lit → Option Bool} {B : Nat} (h : Rec w lo hi m i n1 n2 f g) (hb : Below B w w') (hB : hi ≤ B) : Rec w' lo hi m i n1 n2 f g :=
  { h with hm := h.hm.below hb (fun b e => by have := h.bm b e; omega), hi3 := h.hi3.below hb (fun b e => by have := h.bi b e; omega) }

theorem rec_of {w w1 w2 : World} {m i : Option Nat} {n1 n2 : Nat} {f g : Lit → Option Bool} {p q : Prop} (h1 : Made 9 w w1 m n1 f p) (h2 : Made 3 w1 w2 i n2 g q) : Rec w2 w.heap.size w2.heap.size m i n1 n2 f g ∧ Below w.heap.size w w2 := by
  obtain ⟨a1, a2, a3, a4⟩ := h1
  obtain ⟨b1, b2, b3, b4⟩ := h2
  have s1 := a4.size
  have s2 := b4.size
  refine ⟨⟨a1.below b4 (fun b e => (a3 b e).2), b1, fun b e e' => ?_, fun b e => ?_, fun b e => ?_⟩, a4.trans (b4.mono s1)⟩
  · have := a3 b e; have := b3 b e'; omega
  · have := a3 b e; omega
  · have := b3 b e; omega

theorem zz_rec {w : World} {lo1 hi1 lo2 hi2 : Nat} {em ei om oi : Option Nat} {el ol : Int} {nE nI mO mI : Nat} {fE fI gO gI : Lit → Option Bool}
    (he : Rec w lo1 hi1 em ei nE nI fE fI) (ho : Rec w lo2 hi2 om oi mO mI gO gI) (hd : hi1 ≤ lo2 ∨ hi2 ≤ lo1) (hl : lo1 ≤ w.heap.size) (hn1 : nE + mO < maxLen) (hn2 : nI + mI < maxLen) :
    Calls Try.prog 7 #[.map em, .int .i64 el, .map ei, .map om, .int .i64 ol, .map oi] w fun e w' => ∃ rm ri, e = .returned (.tuple #[.map rm, .int .i64 (max el ol), .map ri]) ∧
      Rec w' lo1 w'.heap.size rm ri (nE + mO) (nI + mI) (union fE gO) (union fI gI) ∧ NilAs rm em gO ∧ NilAs ri ei gI ∧ Below lo1 w w' := by
  have dis : ∀ (x y : Option Nat), (∀ b, x = some b → lo1 ≤ b ∧ b < hi1) → (∀ b, y = some b → lo2 ≤ b ∧ b < hi2) → Ap x y := fun x y hx hy b e e' => by
    have := hx b e; have := hy b e'; omega
  refine (zz_any w lo1 em ei om oi el ol nE nI mO mI fE fI gO gI he.hm he.hi3 ho.hm ho.hi3 (dis _ _ he.bm ho.bm) he.ap (dis _ _ he.bm ho.bi) (dis _ _ he.bi ho.bm) (dis _ _ he.bi ho.bi) hl
    (fun b e => (he.bm b e).1) (fun b e => (he.bi b e).1) hn1 hn2).mono ?_
  rintro e w' ⟨rm, ri, rfl, h1, h2, h3, h4, h5, h6, h7, h8⟩
  exact ⟨rm, ri, rfl, ⟨h1, h2, h3, fun b e => ⟨h4 b e, h1.lt b e⟩, fun b e => ⟨h5 b e, h2.lt b e⟩⟩, h6, h7, h8⟩

theorem nil_iff {w : World} {k : TypeId} {rm em : Option Nat} {n : Nat} {f g : Lit → Option Bool} (h : IsMp w k rm n (union f g)) (hn : NilAs rm em g) : rm = none ↔ em = none ∧ ∀ k, (g k).isSome = false := by
  constructor
  · intro hr
    refine ⟨Classical.byContradiction fun he => hn.1 he hr, fun k => ?_⟩
    rcases h with ⟨_, h⟩ | ⟨b, e, _⟩
    · have := congrFun h k
      unfold union emp at this
      cases hg : (g k).isSome
      · rfl
      · rw [hg] at this; cases this
    · rw [hr] at e; cases e
  · rintro ⟨he, hg⟩
    apply Classical.byContradiction
    intro hr
    rcases hn.2 hr with h | ⟨k, hk⟩
    · exact h he
    · rw [hg k] at hk; cases hk

theorem memb_none {ks : Nat → Lit} {vs : Nat → Bool} {lo n : Nat} (hk : ∀ i, WideAt.IsKeyLit (ks i)) : (∀ k, (memb ks vs lo n k).isSome = false) ↔ n = 0 := by
  constructor
  · intro h
    apply Classical.byContradiction
    intro hn
    have h1 := h (ks (lo + 0))
    rw [memb_some, keyIn_at ks lo n 0 (by omega) (hk _)] at h1
    cases h1
  · rintro rfl k
    rfl

theorem key_s (ss : Nat → ByteArray) (i : Nat) : WideAt.IsKeyLit (strKeys ss i) := trivial
theorem key_i (xs : Nat → Int) (i : Nat) : WideAt.IsKeyLit (intKeys xs i) := trivial

end Go.Proofs.Qxb6623451a
