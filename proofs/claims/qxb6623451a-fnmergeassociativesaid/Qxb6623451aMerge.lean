/-
  merge (16), ZZMerge (7).
-/
import Derived.Test.Qxb6623451aState
import Derived.RegionTactic
import Derived.ChangeAlike
namespace Go.Proofs.Qxb6623451a
open Go.RowKit Go.Maps Go.WideMaps
set_option linter.unusedVariables false

theorem inv9 (key : Value) (kl : Lit) (h : keyOf Try.prog 9 key = some kl) : ∃ s : ByteArray, key = .string s ∧ kl = .string s.data.toList := by
  obtain ⟨s, e1, e2, _⟩ := keyOf_string_inv Try.underlying9 h
  exact ⟨s, e1, e2⟩
theorem inv3 (key : Value) (kl : Lit) (h : keyOf Try.prog 3 key = some kl) : ∃ x : Int, key = .int .i64 x ∧ kl = .int .i64 x := by
  obtain ⟨s, e1, e2, _⟩ := Maps.keyOf_int_inv Try.underlying3 h
  exact ⟨s, e1, e2⟩
theorem len9 (s : ByteArray) (kl : Lit) (h : keyOf Try.prog 9 (.string s) = some kl) : s.size ≤ maxLen := by
  obtain ⟨s', e1, e2, h3⟩ := keyOf_string_inv Try.underlying9 h
  cases e1; exact h3
theorem wf3 (x : Int) (kl : Lit) (h : keyOf Try.prog 3 (.int .i64 x) = some kl) : (Lit.int .i64 x).wf = true := by
  obtain ⟨s', e1, e2, h3⟩ := Maps.keyOf_int_inv Try.underlying3 h
  cases e1; exact h3

/-- The record is nil just where it was nil and nothing came. -/
def NilAs (r e : Option Nat) (g : Lit → Option Bool) : Prop := (e ≠ none → r ≠ none) ∧ (r ≠ none → e ≠ none ∨ ∃ k, (g k).isSome = true)

set_option maxHeartbeats 1000000 in
theorem merge_ge {w : World} {B eb ob : Nat} {em ei om oi : Option Nat} {el ol : Int} {nE nI mO mI : Nat} {fE fI gO gI : Lit → Option Bool}
    (S : St w B eb ob em ei om oi el ol nE nI mO mI fE fI gO gI) (hn1 : nE + mO < maxLen) (hn2 : nI + mI < maxLen) (hle : ol ≤ el) :
    Calls Try.prog 16 #[.pointer (some ⟨eb, 0, none⟩), .pointer (some ⟨ob, 0, none⟩)] w fun e w' => e = .returned (.tuple #[]) ∧
      ∃ rm ri, St w' B eb ob rm ri om oi el ol (nE + mO) (nI + mI) mO mI (union fE gO) (union fI gI) gO gI ∧ Below B w w' ∧ NilAs rm em gO ∧ NilAs ri ei gI := by
  have c0 := S.bo.1
  have hBw := S.bw
  go_enter Try.func16, Try.ntmps16
  go_wp2_with (at_range; refine wpList_range_opt _ rfl _ 27 rfl 9 law9 Try.underlying27 om mO gO rfl S.hom ?_; intro w0 cnt0 left0 hrg0 hl0 hc0 hg0 hs0)
  go_frame
  clear c0
  go_loopw [4] (fun _ wr => ∃ left cnt em', RangesO wr 9 om w.heap.size mO gO left cnt ∧ cnt ≤ mO ∧ St wr B eb ob em' ei om oi el ol (nE + (mO - cnt)) nI mO mI (part fE gO left) fI gO gI ∧ Below B w wr ∧ NilAs em' em gO)
    (fun _ wr => leftO wr om w.heap.size)
  case atStart =>
    have S0 := S.grown hg0
    refine ⟨left0, cnt0, em, hrg0, hc0, ?_, (Below.refl _ _).grown hg0 S.bw (fun j hj => by cases hj), fun h => h, fun h => .inl h⟩
    rw [part_start hl0]
    exact { S0 with hem := S0.hem.mono (by omega) }
  case round =>
    clear S hg0 hs0 hl0 hrg0 hc0
    obtain ⟨left, cnt, em1, hrg, hcs, S, hnx, hnil⟩ := hrel
    go_wp2_with (at_next; refine wpList_next_opt _ rfl _ rfl 9 law9 Value.string (fun s => .string s.data.toList) inv9 om w.heap.size mO gO _ _ rfl hrg ?_ ?_)
    · intro hcnt0 hl0
      have c1 := S.be.2.1
      have c2 := S.bo.2.1
      have c3 := S.be.2.2.2 1
      have c4 := S.bo.2.2.1
      rw [part_end hl0] at S
      subst hcnt0
      clear hl0
      obtain ⟨S3, hg3⟩ := S.lead el
      replace S3 := S3.drew
      go_wp2
      go_region
      go_wp2_with (at_range; refine wpList_range_opt _ rfl _ 28 rfl 3 law3 Try.underlying28 oi mI gI rfl S3.hoi ?_; intro w4 cnt4 left4 hrg4 hl4 hc4 hg4 hs4)
      go_frame
      have hnx3 : Below B w (wr.setCell ⟨eb, 1, none⟩ (.int .i64 el)).drew := (S.below hg3 (.inl rfl) hnx).drew
      have hz : B ≤ (wr.setCell ⟨eb, 1, none⟩ (.int .i64 el)).drew.heap.size := S3.bw
      generalize hW : (wr.setCell ⟨eb, 1, none⟩ (.int .i64 el)).drew = W at *
      clear hW c1 c2 c3 c4 S hg3 hrg hnx hle
      go_loopw [5] (fun _ wr => ∃ left cnt ei', RangesO wr 3 oi W.heap.size mI gI left cnt ∧ cnt ≤ mI ∧ St wr B eb ob em1 ei' om oi el ol (nE + mO) (nI + (mI - cnt)) mO mI (union fE gO) (part fI gI left) gO gI ∧ Below B w wr ∧ NilAs ei' ei gI)
        (fun _ wr => leftO wr oi W.heap.size)
      case atStart =>
        have S0 := S3.grown hg4
        refine ⟨left4, cnt4, ei, hrg4, hc4, ?_, hnx3.grown hg4 hz (fun j hj => by cases hj), fun h => h, fun h => .inl h⟩
        rw [part_start hl4]
        exact { S0 with hei := S0.hei.mono (by omega) }
      case round =>
        clear S3 hg4 hs4 hl4 hrg4 hc4 hnx3
        obtain ⟨left, cnt, ei1, hrg, hcs, S, hnx, hnil2⟩ := hrel
        go_wp2_with (at_next; refine wpList_next_opt _ rfl _ rfl 3 law3 (Value.int .i64) (Lit.int .i64) inv3 oi W.heap.size mI gI _ _ rfl hrg ?_ ?_)
        · intro hcnt0 hl0
          go_wp2
          go_end0
          rw [part_end hl0] at S
          subst hcnt0
          exact ⟨rfl, em1, ei1, S, hnx, hnil, hnil2⟩
        · intro x c w1 cnt1 hkey hgx hrg1 hlt hg1 hs1 hen
          have S1 := S.iter hrg.iter hg1
          have hxl := wf3 x _ hkey
          go_wp2_with (go_at_call 19; refine (addI_st S1 x hxl (by omega)).mono ?_; rintro e w2 ⟨rfl, ei2, row, hnn, S2, hg2, hrow⟩)
          have hrg2 := S1.rowI hg2 hrow hrg1
          go_roundw
          case rel =>
            refine ⟨_, cnt1, ei2, hrg2, by omega, ?_, S1.below hg2 (hrow.elim .inl (fun h => .inr (.inr h))) (hnx.grown hg1 S.bw (fun j hj => by cases hj; exact hz)), ⟨fun _ => hnn, fun _ => .inr ⟨_, hgx⟩⟩⟩
            rw [part_step hgx]
            exact { S2 with hei := S2.hei.mono (by omega) }
          case measure => rw [hrg2.left_eq, hrg.left_eq]; exact hlt
    · intro x c w1 cnt1 hkey hgx hrg1 hlt hg1 hs1 hen
      have S1 := S.iter hrg.iter hg1
      have hxl := len9 x _ hkey
      go_wp2_with (go_at_call 18; refine (addM_st S1 x hxl (by omega)).mono ?_; rintro e w2 ⟨rfl, em2, row, hnn, S2, hg2, hrow⟩)
      have hrg2 := S1.rowM hg2 hrow hrg1
      go_roundw
      case rel =>
        refine ⟨_, cnt1, em2, hrg2, by omega, ?_, S1.below hg2 (hrow.elim .inl (fun h => .inr (.inl h))) (hnx.grown hg1 S.bw (fun j hj => by cases hj; exact hBw)), ⟨fun _ => hnn, fun _ => .inr ⟨_, hgx⟩⟩⟩
        rw [part_step hgx]
        exact { S2 with hem := S2.hem.mono (by omega) }
      case measure => rw [hrg2.left_eq, hrg.left_eq]; exact hlt


set_option maxHeartbeats 1000000 in
theorem merge_le {w : World} {B eb ob : Nat} {em ei om oi : Option Nat} {el ol : Int} {nE nI mO mI : Nat} {fE fI gO gI : Lit → Option Bool}
    (S : St w B eb ob em ei om oi el ol nE nI mO mI fE fI gO gI) (hn1 : nE + mO < maxLen) (hn2 : nI + mI < maxLen) (hle : el < ol) :
    Calls Try.prog 16 #[.pointer (some ⟨eb, 0, none⟩), .pointer (some ⟨ob, 0, none⟩)] w fun e w' => e = .returned (.tuple #[]) ∧
      ∃ rm ri, St w' B eb ob rm ri om oi ol ol (nE + mO) (nI + mI) mO mI (union fE gO) (union fI gI) gO gI ∧ Below B w w' ∧ NilAs rm em gO ∧ NilAs ri ei gI := by
  have c0 := S.bo.1
  have hBw := S.bw
  go_enter Try.func16, Try.ntmps16
  go_wp2_with (at_range; refine wpList_range_opt _ rfl _ 27 rfl 9 law9 Try.underlying27 om mO gO rfl S.hom ?_; intro w0 cnt0 left0 hrg0 hl0 hc0 hg0 hs0)
  go_frame
  clear c0
  go_loopw [4] (fun _ wr => ∃ left cnt em', RangesO wr 9 om w.heap.size mO gO left cnt ∧ cnt ≤ mO ∧ St wr B eb ob em' ei om oi el ol (nE + (mO - cnt)) nI mO mI (part fE gO left) fI gO gI ∧ Below B w wr ∧ NilAs em' em gO)
    (fun _ wr => leftO wr om w.heap.size)
  case atStart =>
    have S0 := S.grown hg0
    refine ⟨left0, cnt0, em, hrg0, hc0, ?_, (Below.refl _ _).grown hg0 S.bw (fun j hj => by cases hj), fun h => h, fun h => .inl h⟩
    rw [part_start hl0]
    exact { S0 with hem := S0.hem.mono (by omega) }
  case round =>
    clear S hg0 hs0 hl0 hrg0 hc0
    obtain ⟨left, cnt, em1, hrg, hcs, S, hnx, hnil⟩ := hrel
    go_wp2_with (at_next; refine wpList_next_opt _ rfl _ rfl 9 law9 Value.string (fun s => .string s.data.toList) inv9 om w.heap.size mO gO _ _ rfl hrg ?_ ?_)
    · intro hcnt0 hl0
      have c1 := S.be.2.1
      have c2 := S.bo.2.1
      have c3 := S.be.2.2.2 1
      have c4 := S.bo.2.2.1
      rw [part_end hl0] at S
      subst hcnt0
      clear hl0
      obtain ⟨S3, hg3⟩ := S.lead ol
      replace S3 := S3.drew
      go_wp2
      go_region
      go_wp2_with (at_range; refine wpList_range_opt _ rfl _ 28 rfl 3 law3 Try.underlying28 oi mI gI rfl S3.hoi ?_; intro w4 cnt4 left4 hrg4 hl4 hc4 hg4 hs4)
      go_frame
      have hnx3 : Below B w (wr.setCell ⟨eb, 1, none⟩ (.int .i64 ol)).drew := (S.below hg3 (.inl rfl) hnx).drew
      have hz : B ≤ (wr.setCell ⟨eb, 1, none⟩ (.int .i64 ol)).drew.heap.size := S3.bw
      generalize hW : (wr.setCell ⟨eb, 1, none⟩ (.int .i64 ol)).drew = W at *
      clear hW c1 c2 c3 c4 S hg3 hrg hnx hle
      go_loopw [5] (fun _ wr => ∃ left cnt ei', RangesO wr 3 oi W.heap.size mI gI left cnt ∧ cnt ≤ mI ∧ St wr B eb ob em1 ei' om oi ol ol (nE + mO) (nI + (mI - cnt)) mO mI (union fE gO) (part fI gI left) gO gI ∧ Below B w wr ∧ NilAs ei' ei gI)
        (fun _ wr => leftO wr oi W.heap.size)
      case atStart =>
        have S0 := S3.grown hg4
        refine ⟨left4, cnt4, ei, hrg4, hc4, ?_, hnx3.grown hg4 hz (fun j hj => by cases hj), fun h => h, fun h => .inl h⟩
        rw [part_start hl4]
        exact { S0 with hei := S0.hei.mono (by omega) }
      case round =>
        clear S3 hg4 hs4 hl4 hrg4 hc4 hnx3
        obtain ⟨left, cnt, ei1, hrg, hcs, S, hnx, hnil2⟩ := hrel
        go_wp2_with (at_next; refine wpList_next_opt _ rfl _ rfl 3 law3 (Value.int .i64) (Lit.int .i64) inv3 oi W.heap.size mI gI _ _ rfl hrg ?_ ?_)
        · intro hcnt0 hl0
          go_wp2
          go_end0
          rw [part_end hl0] at S
          subst hcnt0
          exact ⟨rfl, em1, ei1, S, hnx, hnil, hnil2⟩
        · intro x c w1 cnt1 hkey hgx hrg1 hlt hg1 hs1 hen
          have S1 := S.iter hrg.iter hg1
          have hxl := wf3 x _ hkey
          go_wp2_with (go_at_call 19; refine (addI_st S1 x hxl (by omega)).mono ?_; rintro e w2 ⟨rfl, ei2, row, hnn, S2, hg2, hrow⟩)
          have hrg2 := S1.rowI hg2 hrow hrg1
          go_roundw
          case rel =>
            refine ⟨_, cnt1, ei2, hrg2, by omega, ?_, S1.below hg2 (hrow.elim .inl (fun h => .inr (.inr h))) (hnx.grown hg1 S.bw (fun j hj => by cases hj; exact hz)), ⟨fun _ => hnn, fun _ => .inr ⟨_, hgx⟩⟩⟩
            rw [part_step hgx]
            exact { S2 with hei := S2.hei.mono (by omega) }
          case measure => rw [hrg2.left_eq, hrg.left_eq]; exact hlt
    · intro x c w1 cnt1 hkey hgx hrg1 hlt hg1 hs1 hen
      have S1 := S.iter hrg.iter hg1
      have hxl := len9 x _ hkey
      go_wp2_with (go_at_call 18; refine (addM_st S1 x hxl (by omega)).mono ?_; rintro e w2 ⟨rfl, em2, row, hnn, S2, hg2, hrow⟩)
      have hrg2 := S1.rowM hg2 hrow hrg1
      go_roundw
      case rel =>
        refine ⟨_, cnt1, em2, hrg2, by omega, ?_, S1.below hg2 (hrow.elim .inl (fun h => .inr (.inl h))) (hnx.grown hg1 S.bw (fun j hj => by cases hj; exact hBw)), ⟨fun _ => hnn, fun _ => .inr ⟨_, hgx⟩⟩⟩
        rw [part_step hgx]
        exact { S2 with hem := S2.hem.mono (by omega) }
      case measure => rw [hrg2.left_eq, hrg.left_eq]; exact hlt


theorem merge_any {w : World} {B eb ob : Nat} {em ei om oi : Option Nat} {el ol : Int} {nE nI mO mI : Nat} {fE fI gO gI : Lit → Option Bool}
    (S : St w B eb ob em ei om oi el ol nE nI mO mI fE fI gO gI) (hn1 : nE + mO < maxLen) (hn2 : nI + mI < maxLen) :
    Calls Try.prog 16 #[.pointer (some ⟨eb, 0, none⟩), .pointer (some ⟨ob, 0, none⟩)] w fun e w' => e = .returned (.tuple #[]) ∧
      ∃ rm ri, St w' B eb ob rm ri om oi (max el ol) ol (nE + mO) (nI + mI) mO mI (union fE gO) (union fI gI) gO gI ∧ Below B w w' ∧ NilAs rm em gO ∧ NilAs ri ei gI := by
  by_cases hle : el < ol
  · rw [show max el ol = ol from by omega]
    exact merge_le S hn1 hn2 hle
  · rw [show max el ol = el from by omega]
    exact merge_ge S hn1 hn2 (by omega)

end Go.Proofs.Qxb6623451a
