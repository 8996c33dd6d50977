/-
  zzVec (14).
-/
import Derived.Test.Qxb6623506aDense
import Derived.OwnWalk
import Derived.RegionTactic
import Derived.BigRegion
namespace Go.Proofs.Qxb6623506a
open Go.RowKit
set_option linter.unusedVariables false

theorem info39 : (Try.prog.info? 39).map (fun i => (i.zero, i.size, i.bytes)) = some (some (.agg #[.int .i64 0, .int .u64 0]), 2, 16) := by kernel_rfl

/-- The pairs lie in the row. -/
def Pairs (xs : List Value) (p c : Nat → Int) (k : Nat) : Prop := ∀ i, i < k → xs[i * 2]? = some (.int .i64 (p i)) ∧ xs[i * 2 + 1]? = some (.int .u64 (c i))

theorem pairs_set {xs : List Value} {p c : Nat → Int} {k : Nat} (h : Pairs xs p c k) (hl : k * 2 + 1 < xs.length) : Pairs ((xs.set (k * 2) (.int .i64 (p k))).set (k * 2 + 1) (.int .u64 (c k))) p c (k + 1) := by
  intro i hi
  by_cases e : i = k
  · subst e
    constructor
    · rw [List.getElem?_set_ne (by omega), List.getElem?_set_self (by omega)]
    · rw [List.getElem?_set_self (by simpa using hl)]
  · obtain ⟨h1, h2⟩ := h i (by omega)
    constructor
    · rw [List.getElem?_set_ne (by omega), List.getElem?_set_ne (by omega), h1]
    · rw [List.getElem?_set_ne (by omega), List.getElem?_set_ne (by omega), h2]

theorem own_lt {w : World} {base e size g n cap : Nat} {xs : List Value} (h : w.ownsRow base e size (.slice (some ⟨g, 0, none⟩) n cap) n xs) : g < w.heap.size := by
  rcases h.2 with ⟨h', _⟩ | ⟨g', cap', cur, h', _, hg, _⟩
  · simp at h'
  · simp only [Value.slice.injEq, Option.some.injEq, Addr.mk.injEq, and_true, true_and] at h'
    obtain ⟨rfl, rfl⟩ := h'
    exact (Array.getElem?_eq_some_iff.1 hg).1

theorem own_has {w : World} {base e size g n cap : Nat} {xs : List Value} (h : w.ownsRow base e size (.slice (some ⟨g, 0, none⟩) n cap) n xs) (j : Nat) (hj : j < n * size) : ∃ o, w.cell? ⟨g, j, none⟩ = some o := by
  rw [h.cellAt j hj]
  have : j < xs.length := by rw [h.1]; exact hj
  exact ⟨_, List.getElem?_eq_getElem this⟩

set_option maxHeartbeats 2000000 in
theorem vec_any (ap ac : Option Addr) (len k0 k1 : Nat) (p c : Nat → Int) (w : World) (hp : RowOf w ap len (ints p)) (hc : RowOf w ac len (cnts c)) (hl : len ≤ 4097) :
    Calls Try.prog 14 #[.slice ap len k0, .slice ac len k1] w fun e w' => e = .returned (.slice (some ⟨w.heap.size, 0, none⟩) len len) ∧ Below w.heap.size w w' ∧ w.heap.size < w'.heap.size ∧ ∃ xs, w'.ownsRow w.heap.size 39 2 (.slice (some ⟨w.heap.size, 0, none⟩) len len) len xs ∧ Pairs xs p c len := by
  obtain ⟨i0, hi, hz0, hz1, hz2⟩ := info_parts info39
  go_enter Try.func14, Try.ntmps14
  go_wp2_with (first
    | (at_make; refine wpList_make_full _ rfl _ _ 35 rfl w.heap.size 39 i0 (.agg #[.int .i64 0, .int .u64 0]) 2 Try.underlying35 hi hz0 hz1 .i64 .i64 _ _ len rfl rfl rfl rfl (by rw [hz2]; omega) (by unfold maxLen; omega) (Nat.le_refl _) ?_; intro w0 hown0 hgrow0))
  have HB0 : Hid (Below w.heap.size w w0) := (Below.refl _ _).grown hgrow0 (Nat.le_refl _) (fun k h => by cases h)
  have HS0 : Hid (w.heap.size < w0.heap.size) := own_lt hown0
  have HO0 : Hid (w0.ownsRow w.heap.size 39 2 (Value.slice (some { block := w.heap.size, off := 0 }) len len) len (madeCells (Value.agg #[Value.int IntKind.i64 0, Value.int IntKind.u64 0]).cells (len * 2)).toList) := hown0
  clear hown0 hgrow0 hi hz0 hz1 hz2
  go_loopw [7] (fun i wr => ∃ k : Nat, k ≤ len ∧ i = .int .i64 k ∧ Hid (Below w.heap.size w wr) ∧ Hid (w.heap.size < wr.heap.size) ∧ ∃ xs, Hid (wr.ownsRow w.heap.size 39 2 (.slice (some ⟨w.heap.size, 0, none⟩) len len) len xs) ∧ Hid (Pairs xs p c k)) (fun i _ => len - (intOf i).toNat)
  case atStart => exact ⟨0, Nat.zero_le _, rfl, HB0, HS0, _, HO0, fun i hi => absurd hi (Nat.not_lt_zero _)⟩
  case round =>
    obtain ⟨k, hk, rfl, HB, HS, xs, HO, HP⟩ := hrel
    by_cases hlt : k < len
    · obtain ⟨b, off, e0, hcp⟩ := hp.below HB.out k hlt
      obtain ⟨b2, off2, e1, hcc⟩ := hc.below HB.out k hlt
      subst e0
      subst e1
      have hcp' : wr.cell? ⟨b, off + k, none⟩ = some (.int .i64 (p k)) := hcp
      have hcc' : wr.cell? ⟨b2, off2 + k, none⟩ = some (.int .u64 (c k)) := hcc
      obtain ⟨o1, ho1⟩ := own_has HO.out (k * 2) (by omega)
      obtain ⟨o2, ho2⟩ := own_has HO.out (k * 2 + 1) (by omega)
      have hf1 := HO.out.frozenAt (k * 2)
      have hf2 := HO.out.frozenAt (k * 2 + 1)
      clear hcp hcc hp hc
      go_wp2_with fail
      have HO2 : Hid (((wr.setCell ⟨w.heap.size, k * 2, none⟩ (.int .i64 (p k))).setCell ⟨w.heap.size, k * 2 + 1, none⟩ (.int .u64 (c k))).drew.ownsRow w.heap.size 39 2 (.slice (some ⟨w.heap.size, 0, none⟩) len len) len ((xs.set (k * 2) (.int .i64 (p k))).set (k * 2 + 1) (.int .u64 (c k)))) :=
        ((HO.out.stored (k * 2) (.int .i64 (p k))).1.stored (k * 2 + 1) (.int .u64 (c k))).1
      have HB2 : Hid (Below w.heap.size w ((wr.setCell ⟨w.heap.size, k * 2, none⟩ (.int .i64 (p k))).setCell ⟨w.heap.size, k * 2 + 1, none⟩ (.int .u64 (c k))).drew) :=
        ((HB.out.setCell (p := ⟨w.heap.size, k * 2, none⟩) (Nat.le_refl _) _).setCell (p := ⟨w.heap.size, k * 2 + 1, none⟩) (Nat.le_refl _) _).drew
      have HP2 : Hid (Pairs ((xs.set (k * 2) (.int .i64 (p k))).set (k * 2 + 1) (.int .u64 (c k))) p c (k + 1)) := pairs_set HP.out (by have := HO.out.1; omega)
      have HS2 : Hid (w.heap.size < ((wr.setCell ⟨w.heap.size, k * 2, none⟩ (.int .i64 (p k))).setCell ⟨w.heap.size, k * 2 + 1, none⟩ (.int .u64 (c k))).drew.heap.size) := own_lt HO2.out
      go_region
      generalize ((wr.setCell ⟨w.heap.size, k * 2, none⟩ (.int .i64 (p k))).setCell ⟨w.heap.size, k * 2 + 1, none⟩ (.int .u64 (c k))).drew = W2 at HO2 HB2 HS2 ⊢
      generalize ((xs.set (k * 2) (.int .i64 (p k))).set (k * 2 + 1) (.int .u64 (c k))) = xs2 at HO2 HP2
      go_wp2
      go_roundw
      case rel => exact ⟨k + 1, by omega, by go_num, HB2, HS2, xs2, HO2, HP2⟩
      case measure => simp [intOf]; omega
    · go_wp2
      go_ret
      have e : k = len := by omega
      exact ⟨rfl, HB.out, HS.out, xs, HO.out, by rw [← e]; exact HP.out⟩

end Go.Proofs.Qxb6623506a
