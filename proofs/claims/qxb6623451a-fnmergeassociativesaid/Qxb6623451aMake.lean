/-
  zzMembersB1 (8), zzItemsB1 (9).
-/
import Derived.Test.Qxb6623451aLeaf
import Derived.Deep.RegionWith
namespace Go.Proofs.Qxb6623451a
open Go.RowKit Go.Maps Go.WideMaps
set_option linter.unusedVariables false

def strKeys (ss : Nat → ByteArray) : Nat → Lit := fun i => .string (ss i).data.toList
def intKeys (xs : Nat → Int) : Nat → Lit := fun i => .int .i64 (xs i)

theorem memb_step (ks : Nat → Lit) (vs : Nat → Bool) (lo j : Nat) (h : lo ≤ j) : memb ks vs lo (j + 1 - lo) = upd (memb ks vs lo (j - lo)) (ks j) (vs j) := by
  rw [show j + 1 - lo = (j - lo) + 1 from by omega]
  simp only [memb]
  rw [show lo + (j - lo) = j from by omega]

set_option maxHeartbeats 400000 in
theorem members_nil (cap lv cv : Nat) (av : Option Addr) (lo hi : Int) (w : World) :
    Calls Try.prog 8 #[.slice none 0 cap, .slice av lv cv, .int .i64 lo, .int .i64 hi] w fun e w' => e = .returned (.map none) ∧ w' = w := by
  have q22 : ∀ (w : World) (a : Option Addr) (n c : Nat), (binOp .eql 22 (.slice a n c) (.slice none 0 0)).run Try.prog w = .ok (.bool a.isNone) w := fun w a n c => Lib.run_eql_slice_nil w _ _ a n c 0 0 Try.underlying22
  go_enter Try.func8, Try.ntmps8
  go_wp2
  go_ret
  exact ⟨rfl, rfl⟩

set_option maxHeartbeats 400000 in
theorem members_any (ad : Addr) (len cap lv cv : Nat) (av : Option Addr) (lo hi : Nat) (ss : Nat → ByteArray) (vs : Nat → Bool) (w : World)
    (hr : RowOf w (some ad) len (fun j => .string (ss j))) (hv : RowOf w av lv (fun j => .bool (vs j))) (hs : ∀ j, j < len → (ss j).size ≤ maxLen) (hl : len ≤ 65536) (hlv : lv ≤ 65536) (hlo : lo ≤ hi) (hhi : hi ≤ len) :
    Calls Try.prog 8 #[.slice (some ad) len cap, .slice av lv cv, .int .i64 lo, .int .i64 hi] w
      fun e w' => e = .returned (.map (some w.heap.size)) ∧ Holds w' 9 w.heap.size (hi - lo) (memb (strKeys ss) (valAt vs lv) lo (hi - lo)) ∧ Below w.heap.size w w' := by
  have q22 : ∀ (w : World) (a : Option Addr) (n c : Nat), (binOp .eql 22 (.slice a n c) (.slice none 0 0)).run Try.prog w = .ok (.bool a.isNone) w := fun w a n c => Lib.run_eql_slice_nil w _ _ a n c 0 0 Try.underlying22
  have hmm := @run_makeMap Try.prog
  go_enter Try.func8, Try.ntmps8
  go_wp2
  go_loopw [10] (fun i wr => ∃ j : Nat, lo ≤ j ∧ j ≤ hi ∧ i = .int .i64 j ∧ Holds wr 9 w.heap.size (j - lo) (memb (strKeys ss) (valAt vs lv) lo (j - lo)) ∧ Below w.heap.size w wr)
    (fun i _ => hi - (intOf i).toNat)
  case atStart =>
    refine ⟨lo, Nat.le_refl _, hlo, rfl, ?_, (Below.refl _ _).alloc (Nat.le_refl _) _⟩
    rw [Nat.sub_self]
    exact holds_made w 9
  case round =>
    obtain ⟨j, hj1, hj2, rfl, hM, hnx⟩ := hrel
    by_cases hlt : j < hi
    · obtain ⟨b, off, e, hc⟩ := (hr.below hnx) j (by omega)
      cases e
      obtain ⟨D, ho, hrep⟩ := hM
      obtain ⟨s, hsn⟩ : ∃ s, s = ss j := ⟨_, rfl⟩
      obtain ⟨v, hvn⟩ : ∃ v, v = valAt vs lv j := ⟨_, rfl⟩
      have hss : s.size ≤ maxLen := by rw [hsn]; exact hs j (by omega)
      have hc' : wr.drew.cell? ⟨b, off + j, none⟩ = some (.string s) := by rw [hsn]; exact hc
      have hval : Calls Try.prog 17 #[.slice av lv cv, .int .i64 j] wr.drew fun e w' => e = .returned (.bool v) ∧ w' = wr.drew := by
        rw [hvn]
        exact valAt_any av lv cv vs j _ (hv.below hnx.drew) (by unfold maxLen; omega) (by unfold maxLen; omega)
      obtain ⟨w2, hrun, ho2, hg2⟩ := World.ownsMap.update (w := wr.drew) (val := .bool v) ho.drew law9 Try.underlying27 (by unfold maxLen; omega) (keyOf_string_mk Try.underlying9 hss) (plainElem_bool Try.underlying4 v)
      have hM2 : Holds w2 9 w.heap.size (j + 1 - lo) (memb (strKeys ss) (valAt vs lv) lo (j + 1 - lo)) := by
        have hk : strKeys ss j = .string s.data.toList := by rw [hsn]; rfl
        rw [memb_step _ _ _ _ hj1, hk, ← hvn]
        exact ⟨_, ho2.mono (by omega), rep_put (k := .string s.data.toList) hrep ho.isMap trivial v⟩
      have hnx2 : Below w.heap.size w w2 := (hnx.drew).grown hg2 hnx.size (fun j hj => by cases hj; exact Nat.le_refl _)
      clear ho2 hg2 hrep ho hsn hvn hv hs
      have hjl : (j : Int) < (len : Int) := by omega
      go_wp2
      go_region_with (go_at_call 17; refine hval.mono ?_; rintro e w' ⟨rfl, rfl⟩)
      all_goals
        go_wp2
        go_roundw
        case rel => exact ⟨j + 1, by omega, by omega, by go_num, hM2, hnx2⟩
        case measure => simp [intOf]; omega
    · go_wp2
      go_ret
      have e : j = hi := by omega
      subst e
      exact ⟨rfl, hM, hnx⟩

set_option maxHeartbeats 400000 in
theorem items_nil (cap lv cv : Nat) (av : Option Addr) (lo hi : Int) (w : World) :
    Calls Try.prog 9 #[.slice none 0 cap, .slice av lv cv, .int .i64 lo, .int .i64 hi] w fun e w' => e = .returned (.map none) ∧ w' = w := by
  have q24 : ∀ (w : World) (a : Option Addr) (n c : Nat), (binOp .eql 24 (.slice a n c) (.slice none 0 0)).run Try.prog w = .ok (.bool a.isNone) w := fun w a n c => Lib.run_eql_slice_nil w _ _ a n c 0 0 Try.underlying24
  go_enter Try.func9, Try.ntmps9
  go_wp2
  go_ret
  exact ⟨rfl, rfl⟩

set_option maxHeartbeats 400000 in
theorem items_any (ad : Addr) (len cap lv cv : Nat) (av : Option Addr) (lo hi : Nat) (ss : Nat → Int) (vs : Nat → Bool) (w : World)
    (hr : RowOf w (some ad) len (fun j => .int .i64 (ss j))) (hv : RowOf w av lv (fun j => .bool (vs j))) (hs : ∀ j, j < len → (Lit.int .i64 (ss j)).wf = true) (hl : len ≤ 65536) (hlv : lv ≤ 65536) (hlo : lo ≤ hi) (hhi : hi ≤ len) :
    Calls Try.prog 9 #[.slice (some ad) len cap, .slice av lv cv, .int .i64 lo, .int .i64 hi] w
      fun e w' => e = .returned (.map (some w.heap.size)) ∧ Holds w' 3 w.heap.size (hi - lo) (memb (intKeys ss) (valAt vs lv) lo (hi - lo)) ∧ Below w.heap.size w w' := by
  have q24 : ∀ (w : World) (a : Option Addr) (n c : Nat), (binOp .eql 24 (.slice a n c) (.slice none 0 0)).run Try.prog w = .ok (.bool a.isNone) w := fun w a n c => Lib.run_eql_slice_nil w _ _ a n c 0 0 Try.underlying24
  have hmm := @run_makeMap Try.prog
  go_enter Try.func9, Try.ntmps9
  go_wp2
  go_loopw [10] (fun i wr => ∃ j : Nat, lo ≤ j ∧ j ≤ hi ∧ i = .int .i64 j ∧ Holds wr 3 w.heap.size (j - lo) (memb (intKeys ss) (valAt vs lv) lo (j - lo)) ∧ Below w.heap.size w wr)
    (fun i _ => hi - (intOf i).toNat)
  case atStart =>
    refine ⟨lo, Nat.le_refl _, hlo, rfl, ?_, (Below.refl _ _).alloc (Nat.le_refl _) _⟩
    rw [Nat.sub_self]
    exact holds_made w 3
  case round =>
    obtain ⟨j, hj1, hj2, rfl, hM, hnx⟩ := hrel
    by_cases hlt : j < hi
    · obtain ⟨b, off, e, hc⟩ := (hr.below hnx) j (by omega)
      cases e
      obtain ⟨D, ho, hrep⟩ := hM
      obtain ⟨s, hsn⟩ : ∃ s, s = ss j := ⟨_, rfl⟩
      obtain ⟨v, hvn⟩ : ∃ v, v = valAt vs lv j := ⟨_, rfl⟩
      have hss : (Lit.int .i64 s).wf = true := by rw [hsn]; exact hs j (by omega)
      have hc' : wr.drew.cell? ⟨b, off + j, none⟩ = some (.int .i64 s) := by rw [hsn]; exact hc
      have hval : Calls Try.prog 17 #[.slice av lv cv, .int .i64 j] wr.drew fun e w' => e = .returned (.bool v) ∧ w' = wr.drew := by
        rw [hvn]
        exact valAt_any av lv cv vs j _ (hv.below hnx.drew) (by unfold maxLen; omega) (by unfold maxLen; omega)
      obtain ⟨w2, hrun, ho2, hg2⟩ := World.ownsMap.update (w := wr.drew) (val := .bool v) ho.drew law3 Try.underlying28 (by unfold maxLen; omega) (keyOf_int_mk Try.underlying3 hss) (plainElem_bool Try.underlying4 v)
      have hM2 : Holds w2 3 w.heap.size (j + 1 - lo) (memb (intKeys ss) (valAt vs lv) lo (j + 1 - lo)) := by
        have hk : intKeys ss j = .int .i64 s := by rw [hsn]; rfl
        rw [memb_step _ _ _ _ hj1, hk, ← hvn]
        exact ⟨_, ho2.mono (by omega), rep_put (k := .int .i64 s) hrep ho.isMap trivial v⟩
      have hnx2 : Below w.heap.size w w2 := (hnx.drew).grown hg2 hnx.size (fun j hj => by cases hj; exact Nat.le_refl _)
      clear ho2 hg2 hrep ho hsn hvn hv hs
      have hjl : (j : Int) < (len : Int) := by omega
      go_wp2
      go_region_with (go_at_call 17; refine hval.mono ?_; rintro e w' ⟨rfl, rfl⟩)
      all_goals
        go_wp2
        go_roundw
        case rel => exact ⟨j + 1, by omega, by omega, by go_num, hM2, hnx2⟩
        case measure => simp [intOf]; omega
    · go_wp2
      go_ret
      have e : j = hi := by omega
      subst e
      exact ⟨rfl, hM, hnx⟩


set_option maxHeartbeats 1000000 in
theorem want_members (a aa ab av : Option Addr) (l0 cap la ca lb cb lv cv : Nat) (ss : Nat → ByteArray) (sa sb : Nat → ByteArray) (vs : Nat → Bool) (w : World)
    (hr : RowOf w a l0 (fun j => .string (ss j))) (hv : RowOf w av lv (fun j => .bool (vs j))) (hra : RowOf w aa la (fun j => .string (sa j))) (hrb : RowOf w ab lb (fun j => .string (sb j)))
    (hs : ∀ j, j < l0 → (ss j).size ≤ maxLen) (hsa : ∀ j, j < la → (sa j).size ≤ maxLen) (hsb : ∀ j, j < lb → (sb j).size ≤ maxLen) (hl : l0 ≤ 65536) (hlv : lv ≤ 65536) (hla : la ≤ 65536) (hlb : lb ≤ 65536) :
    Calls Try.prog 10 #[.slice a l0 cap, .slice av lv cv, .slice aa la ca, .slice ab lb cb] w
      fun e w' => e = .returned (.map (some w.heap.size)) ∧ Holds w' 9 w.heap.size (l0 + la + lb) (over (over (memb (strKeys ss) (valAt vs lv) 0 l0) (strKeys sa) la) (strKeys sb) lb) ∧ Below w.heap.size w w' := by
  have hmm := @run_makeMap Try.prog
  go_enter Try.func10, Try.ntmps10
  go_wp2
  go_loopw [10] (fun i wr => ∃ j : Nat, j ≤ l0 ∧ i = .int .i64 j ∧ Holds wr 9 w.heap.size j (memb (strKeys ss) (valAt vs lv) 0 j) ∧ Below w.heap.size w wr)
    (fun i _ => l0 - (intOf i).toNat)
  case atStart => exact ⟨0, Nat.zero_le _, rfl, holds_made w 9, (Below.refl _ _).alloc (Nat.le_refl _) _⟩
  case round =>
    obtain ⟨j, hj2, rfl, hM, hnx⟩ := hrel
    by_cases hlt : j < l0
    · obtain ⟨b, off, rfl, hc⟩ := (hr.below hnx) j (by omega)
      obtain ⟨D, ho, hrep⟩ := hM
      obtain ⟨s, hsn⟩ : ∃ s, s = ss j := ⟨_, rfl⟩
      obtain ⟨v, hvn⟩ : ∃ v, v = valAt vs lv j := ⟨_, rfl⟩
      have hss : s.size ≤ maxLen := by rw [hsn]; exact hs j (by omega)
      have hc' : wr.drew.cell? ⟨b, off + j, none⟩ = some (.string s) := by rw [hsn]; exact hc
      have hval : Calls Try.prog 17 #[.slice av lv cv, .int .i64 j] wr.drew fun e w' => e = .returned (.bool v) ∧ w' = wr.drew := by
        rw [hvn]
        exact valAt_any av lv cv vs j _ (hv.below hnx.drew) (by unfold maxLen; omega) (by unfold maxLen; omega)
      obtain ⟨w2, hrun, ho2, hg2⟩ := World.ownsMap.update (w := wr.drew) (val := .bool v) ho.drew law9 Try.underlying27 (by unfold maxLen; omega) (keyOf_string_mk Try.underlying9 hss) (plainElem_bool Try.underlying4 v)
      have hM2 : Holds w2 9 w.heap.size (j + 1) (memb (strKeys ss) (valAt vs lv) 0 (j + 1)) := by
        have hk : strKeys ss j = .string s.data.toList := by rw [hsn]; rfl
        have hm := memb_step (strKeys ss) (valAt vs lv) 0 j (Nat.zero_le _)
        rw [Nat.sub_zero, Nat.sub_zero, hk, ← hvn] at hm
        rw [hm]
        exact ⟨_, ho2, rep_put (k := .string s.data.toList) hrep ho.isMap trivial v⟩
      have hnx2 : Below w.heap.size w w2 := (hnx.drew).grown hg2 hnx.size (fun j hj => by cases hj; exact Nat.le_refl _)
      clear ho2 hg2 hrep ho hsn hvn hv hs
      have hjl : (j : Int) < (l0 : Int) := by omega
      go_wp2
      go_region_with (go_at_call 17; refine hval.mono ?_; rintro e w' ⟨rfl, rfl⟩)
      all_goals
        go_wp2
        go_roundw
        case rel => exact ⟨j + 1, by omega, by go_num, hM2, hnx2⟩
        case measure => simp [intOf]; omega
    · obtain ⟨j0, rfl⟩ : ∃ j0, j0 = j := ⟨_, rfl⟩
      have e : j0 = l0 := by omega
      subst e
      clear hlt hj2
      go_wp2
      go_loopw [11] (fun i wr => ∃ j : Nat, j ≤ la ∧ i = .int .i64 j ∧ Holds wr 9 w.heap.size (j0 + j) (over (memb (strKeys ss) (valAt vs lv) 0 j0) (strKeys sa) j) ∧ Below w.heap.size w wr) (fun i _ => la - (intOf i).toNat)
      case atStart => exact ⟨0, Nat.zero_le _, rfl, hM, hnx⟩
      case round =>
        obtain ⟨j, hj2, rfl, hM, hnx⟩ := hrel
        by_cases hlt : j < la
        · obtain ⟨b, off, rfl, hc⟩ := (hra.below hnx) j (by omega)
          obtain ⟨D, ho, hrep⟩ := hM
          obtain ⟨s, hsn⟩ : ∃ s, s = sa j := ⟨_, rfl⟩
          have hss : s.size ≤ maxLen := by rw [hsn]; exact hsa j hlt
          have hc' : wr.cell? ⟨b, off + j, none⟩ = some (.string s) := by rw [hsn]; exact hc
          have hk : strKeys sa j = .string s.data.toList := by rw [hsn]; rfl
          have hK : Hid (strKeys sa j = .string s.data.toList) := hk
          clear hsn hk hc
          go_wp2_with (at_mapUpdate; refine wpList_mapUpdate_own _ rfl _ _ _ 27 rfl 9 4 law9 Try.underlying27 _ w.heap.size _ _ rfl ho (by unfold maxLen; omega) _ _ _ rfl rfl (keyOf_string_mk Try.underlying9 hss) _ [] (plainElem_bool Try.underlying4 true) ?_; intro w1 ho1 hg1; go_frame)
          go_wp2
          go_roundw
          case rel =>
            refine ⟨j + 1, by omega, by go_num, ⟨_, ho1, ?_⟩, hnx.grown hg1 hnx.size (fun j hj => by cases hj; exact Nat.le_refl _)⟩
            simp only [over]
            rw [hK.out]
            exact rep_put (k := .string s.data.toList) hrep ho.isMap trivial true
          case measure => simp [intOf]; omega
        · obtain ⟨j1, rfl⟩ : ∃ j1, j1 = j := ⟨_, rfl⟩
          have e : j1 = la := by omega
          subst e
          clear hlt hj2
          go_wp2
          go_loopw [12] (fun i wr => ∃ j : Nat, j ≤ lb ∧ i = .int .i64 j ∧ Holds wr 9 w.heap.size (j0 + j1 + j) (over (over (memb (strKeys ss) (valAt vs lv) 0 j0) (strKeys sa) j1) (strKeys sb) j) ∧ Below w.heap.size w wr) (fun i _ => lb - (intOf i).toNat)
          case atStart => exact ⟨0, Nat.zero_le _, rfl, hM, hnx⟩
          case round =>
            obtain ⟨j, hj2, rfl, hM, hnx⟩ := hrel
            by_cases hlt : j < lb
            · obtain ⟨b, off, rfl, hc⟩ := (hrb.below hnx) j (by omega)
              obtain ⟨D, ho, hrep⟩ := hM
              obtain ⟨s, hsn⟩ : ∃ s, s = sb j := ⟨_, rfl⟩
              have hss : s.size ≤ maxLen := by rw [hsn]; exact hsb j hlt
              have hc' : wr.cell? ⟨b, off + j, none⟩ = some (.string s) := by rw [hsn]; exact hc
              have hk : strKeys sb j = .string s.data.toList := by rw [hsn]; rfl
              have hK : Hid (strKeys sb j = .string s.data.toList) := hk
              clear hsn hk hc
              go_wp2_with (at_mapUpdate; refine wpList_mapUpdate_own _ rfl _ _ _ 27 rfl 9 4 law9 Try.underlying27 _ w.heap.size _ _ rfl ho (by unfold maxLen; omega) _ _ _ rfl rfl (keyOf_string_mk Try.underlying9 hss) _ [] (plainElem_bool Try.underlying4 true) ?_; intro w1 ho1 hg1; go_frame)
              go_wp2
              go_roundw
              case rel =>
                refine ⟨j + 1, by omega, by go_num, ⟨_, ho1, ?_⟩, hnx.grown hg1 hnx.size (fun j hj => by cases hj; exact Nat.le_refl _)⟩
                simp only [over]
                rw [hK.out]
                exact rep_put (k := .string s.data.toList) hrep ho.isMap trivial true
              case measure => simp [intOf]; omega
            · have e : j = lb := by omega
              subst e
              go_wp2
              go_ret
              exact ⟨rfl, hM, hnx⟩

set_option maxHeartbeats 1000000 in
theorem want_items (a aa ab av : Option Addr) (l0 cap la ca lb cb lv cv : Nat) (ss : Nat → Int) (sa sb : Nat → Int) (vs : Nat → Bool) (w : World)
    (hr : RowOf w a l0 (fun j => .int .i64 (ss j))) (hv : RowOf w av lv (fun j => .bool (vs j))) (hra : RowOf w aa la (fun j => .int .i64 (sa j))) (hrb : RowOf w ab lb (fun j => .int .i64 (sb j)))
    (hs : ∀ j, j < l0 → (Lit.int .i64 (ss j)).wf = true) (hsa : ∀ j, j < la → (Lit.int .i64 (sa j)).wf = true) (hsb : ∀ j, j < lb → (Lit.int .i64 (sb j)).wf = true) (hl : l0 ≤ 65536) (hlv : lv ≤ 65536) (hla : la ≤ 65536) (hlb : lb ≤ 65536) :
    Calls Try.prog 11 #[.slice a l0 cap, .slice av lv cv, .slice aa la ca, .slice ab lb cb] w
      fun e w' => e = .returned (.map (some w.heap.size)) ∧ Holds w' 3 w.heap.size (l0 + la + lb) (over (over (memb (intKeys ss) (valAt vs lv) 0 l0) (intKeys sa) la) (intKeys sb) lb) ∧ Below w.heap.size w w' := by
  have hmm := @run_makeMap Try.prog
  go_enter Try.func11, Try.ntmps11
  go_wp2
  go_loopw [10] (fun i wr => ∃ j : Nat, j ≤ l0 ∧ i = .int .i64 j ∧ Holds wr 3 w.heap.size j (memb (intKeys ss) (valAt vs lv) 0 j) ∧ Below w.heap.size w wr)
    (fun i _ => l0 - (intOf i).toNat)
  case atStart => exact ⟨0, Nat.zero_le _, rfl, holds_made w 3, (Below.refl _ _).alloc (Nat.le_refl _) _⟩
  case round =>
    obtain ⟨j, hj2, rfl, hM, hnx⟩ := hrel
    by_cases hlt : j < l0
    · obtain ⟨b, off, rfl, hc⟩ := (hr.below hnx) j (by omega)
      obtain ⟨D, ho, hrep⟩ := hM
      obtain ⟨s, hsn⟩ : ∃ s, s = ss j := ⟨_, rfl⟩
      obtain ⟨v, hvn⟩ : ∃ v, v = valAt vs lv j := ⟨_, rfl⟩
      have hss : (Lit.int .i64 s).wf = true := by rw [hsn]; exact hs j (by omega)
      have hc' : wr.drew.cell? ⟨b, off + j, none⟩ = some (.int .i64 s) := by rw [hsn]; exact hc
      have hval : Calls Try.prog 17 #[.slice av lv cv, .int .i64 j] wr.drew fun e w' => e = .returned (.bool v) ∧ w' = wr.drew := by
        rw [hvn]
        exact valAt_any av lv cv vs j _ (hv.below hnx.drew) (by unfold maxLen; omega) (by unfold maxLen; omega)
      obtain ⟨w2, hrun, ho2, hg2⟩ := World.ownsMap.update (w := wr.drew) (val := .bool v) ho.drew law3 Try.underlying28 (by unfold maxLen; omega) (keyOf_int_mk Try.underlying3 hss) (plainElem_bool Try.underlying4 v)
      have hM2 : Holds w2 3 w.heap.size (j + 1) (memb (intKeys ss) (valAt vs lv) 0 (j + 1)) := by
        have hk : intKeys ss j = .int .i64 s := by rw [hsn]; rfl
        have hm := memb_step (intKeys ss) (valAt vs lv) 0 j (Nat.zero_le _)
        rw [Nat.sub_zero, Nat.sub_zero, hk, ← hvn] at hm
        rw [hm]
        exact ⟨_, ho2, rep_put (k := .int .i64 s) hrep ho.isMap trivial v⟩
      have hnx2 : Below w.heap.size w w2 := (hnx.drew).grown hg2 hnx.size (fun j hj => by cases hj; exact Nat.le_refl _)
      clear ho2 hg2 hrep ho hsn hvn hv hs
      have hjl : (j : Int) < (l0 : Int) := by omega
      go_wp2
      go_region_with (go_at_call 17; refine hval.mono ?_; rintro e w' ⟨rfl, rfl⟩)
      all_goals
        go_wp2
        go_roundw
        case rel => exact ⟨j + 1, by omega, by go_num, hM2, hnx2⟩
        case measure => simp [intOf]; omega
    · obtain ⟨j0, rfl⟩ : ∃ j0, j0 = j := ⟨_, rfl⟩
      have e : j0 = l0 := by omega
      subst e
      clear hlt hj2
      go_wp2
      go_loopw [11] (fun i wr => ∃ j : Nat, j ≤ la ∧ i = .int .i64 j ∧ Holds wr 3 w.heap.size (j0 + j) (over (memb (intKeys ss) (valAt vs lv) 0 j0) (intKeys sa) j) ∧ Below w.heap.size w wr) (fun i _ => la - (intOf i).toNat)
      case atStart => exact ⟨0, Nat.zero_le _, rfl, hM, hnx⟩
      case round =>
        obtain ⟨j, hj2, rfl, hM, hnx⟩ := hrel
        by_cases hlt : j < la
        · obtain ⟨b, off, rfl, hc⟩ := (hra.below hnx) j (by omega)
          obtain ⟨D, ho, hrep⟩ := hM
          obtain ⟨s, hsn⟩ : ∃ s, s = sa j := ⟨_, rfl⟩
          have hss : (Lit.int .i64 s).wf = true := by rw [hsn]; exact hsa j hlt
          have hc' : wr.cell? ⟨b, off + j, none⟩ = some (.int .i64 s) := by rw [hsn]; exact hc
          have hk : intKeys sa j = .int .i64 s := by rw [hsn]; rfl
          have hK : Hid (intKeys sa j = .int .i64 s) := hk
          clear hsn hk hc
          go_wp2_with (at_mapUpdate; refine wpList_mapUpdate_own _ rfl _ _ _ 28 rfl 3 4 law3 Try.underlying28 _ w.heap.size _ _ rfl ho (by unfold maxLen; omega) _ _ _ rfl rfl (keyOf_int_mk Try.underlying3 hss) _ [] (plainElem_bool Try.underlying4 true) ?_; intro w1 ho1 hg1; go_frame)
          go_wp2
          go_roundw
          case rel =>
            refine ⟨j + 1, by omega, by go_num, ⟨_, ho1, ?_⟩, hnx.grown hg1 hnx.size (fun j hj => by cases hj; exact Nat.le_refl _)⟩
            simp only [over]
            rw [hK.out]
            exact rep_put (k := .int .i64 s) hrep ho.isMap trivial true
          case measure => simp [intOf]; omega
        · obtain ⟨j1, rfl⟩ : ∃ j1, j1 = j := ⟨_, rfl⟩
          have e : j1 = la := by omega
          subst e
          clear hlt hj2
          go_wp2
          go_loopw [12] (fun i wr => ∃ j : Nat, j ≤ lb ∧ i = .int .i64 j ∧ Holds wr 3 w.heap.size (j0 + j1 + j) (over (over (memb (intKeys ss) (valAt vs lv) 0 j0) (intKeys sa) j1) (intKeys sb) j) ∧ Below w.heap.size w wr) (fun i _ => lb - (intOf i).toNat)
          case atStart => exact ⟨0, Nat.zero_le _, rfl, hM, hnx⟩
          case round =>
            obtain ⟨j, hj2, rfl, hM, hnx⟩ := hrel
            by_cases hlt : j < lb
            · obtain ⟨b, off, rfl, hc⟩ := (hrb.below hnx) j (by omega)
              obtain ⟨D, ho, hrep⟩ := hM
              obtain ⟨s, hsn⟩ : ∃ s, s = sb j := ⟨_, rfl⟩
              have hss : (Lit.int .i64 s).wf = true := by rw [hsn]; exact hsb j hlt
              have hc' : wr.cell? ⟨b, off + j, none⟩ = some (.int .i64 s) := by rw [hsn]; exact hc
              have hk : intKeys sb j = .int .i64 s := by rw [hsn]; rfl
              have hK : Hid (intKeys sb j = .int .i64 s) := hk
              clear hsn hk hc
              go_wp2_with (at_mapUpdate; refine wpList_mapUpdate_own _ rfl _ _ _ 28 rfl 3 4 law3 Try.underlying28 _ w.heap.size _ _ rfl ho (by unfold maxLen; omega) _ _ _ rfl rfl (keyOf_int_mk Try.underlying3 hss) _ [] (plainElem_bool Try.underlying4 true) ?_; intro w1 ho1 hg1; go_frame)
              go_wp2
              go_roundw
              case rel =>
                refine ⟨j + 1, by omega, by go_num, ⟨_, ho1, ?_⟩, hnx.grown hg1 hnx.size (fun j hj => by cases hj; exact Nat.le_refl _)⟩
                simp only [over]
                rw [hK.out]
                exact rep_put (k := .int .i64 s) hrep ho.isMap trivial true
              case measure => simp [intOf]; omega
            · have e : j = lb := by omega
              subst e
              go_wp2
              go_ret
              exact ⟨rfl, hM, hnx⟩

end Go.Proofs.Qxb6623451a
