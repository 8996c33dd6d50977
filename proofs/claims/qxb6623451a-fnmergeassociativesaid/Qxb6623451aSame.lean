/-
  zzSameMembersB1 (13), zzSameItemsB1 (14): true where the two records hold the same.
-/
import Derived.Test.Qxb6623451aZZ
namespace Go.Proofs.Qxb6623451a
open Go.RowKit Go.Maps Go.WideMaps
set_option linter.unusedVariables false

theorem Holds.look {w : World} {k t : TypeId} {b n : Nat} {f : Lit → Option Bool} (h : Holds w k b n f) (K : Keyed Try.prog k) (ht : Try.prog.underlying t = some (.map k 4)) {key : Value} {kl : Lit} (hkey : keyOf Try.prog k key = some kl) {v : Bool} (hf : f kl = some v) :
    (Instr.lookup t (.map (some b)) key true).run Try.prog w = .ok (.tuple #[.bool v, .bool true]) w ∧ (Instr.lookup t (.map (some b)) key false).run Try.prog w = .ok (.bool v) w := by
  obtain ⟨D, ho, hr⟩ := h
  have hz := zero4 w
  have hzd : plainElem (H := Unit) Try.prog 4 (.bool false) = some (.lit (.bool false), []) := plainElem_bool Try.underlying4 false
  obtain ⟨v1, p1, e1, r1⟩ := ho.look_ok K ht hz hzd hkey
  obtain ⟨v2, p2, e2, r2⟩ := ho.lookup K ht hz hzd hkey
  rw [(hr kl).2 _ v hf] at r1 r2
  obtain ⟨c1, rfl, h1⟩ := plainElem_bool_inv Try.underlying4 r1
  obtain ⟨c2, rfl, h2⟩ := plainElem_bool_inv Try.underlying4 r2
  simp at h1 h2
  rw [e1, e2, (hr kl).1, hf, ← h1.1, ← h2.1]
  exact ⟨rfl, rfl⟩

theorem same_size {w : World} {k : TypeId} {b b' n n' : Nat} {f g : Lit → Option Bool} (K : Keyed Try.prog k) {D D' : DataW Unit} (h : w.ownsMap Try.prog k (plainElem Try.prog 4) b n D) (h' : w.ownsMap Try.prog k (plainElem Try.prog 4) b' n' D') (r : Rep D f) (r' : Rep D' g) (hfg : ∀ k, f k = g k) : D = D' :=
  rep_ext r r' (h.canon K) (h'.canon K) hfg

theorem empty_size {w : World} {k : TypeId} {b n : Nat} {g : Lit → Option Bool} (K : Keyed Try.prog k) {D : DataW Unit} (h : w.ownsMap Try.prog k (plainElem Try.prog 4) b n D) (r : Rep D g) (hg : ∀ k, g k = none) : Maps.size D = 0 := by
  have e : D = .map [] := rep_ext r rep_empty (h.canon K) canon_empty (fun k => hg k)
  rw [e]
  rfl

set_option maxHeartbeats 1000000 in
theorem same_some (gb wb n n' : Nat) (f g : Lit → Option Bool) (aa ab ac : Option Addr) (la ca lb cb lc cc : Nat) (sa sb sc : Nat → ByteArray) (w : World)
    (hG : Holds w 9 gb n f) (hW : Holds w 9 wb n' g) (hfg : ∀ k, f k = g k) (ra : RowOf w aa la (fun j => .string (sa j))) (rb : RowOf w ab lb (fun j => .string (sb j))) (rc : RowOf w ac lc (fun j => .string (sc j)))
    (za : ∀ j, j < la → (sa j).size ≤ maxLen) (zb : ∀ j, j < lb → (sb j).size ≤ maxLen) (zc : ∀ j, j < lc → (sc j).size ≤ maxLen)
    (ka : ∀ j, j < la → (g (strKeys sa j)).isSome = true) (kb : ∀ j, j < lb → (g (strKeys sb j)).isSome = true) (kc : ∀ j, j < lc → (g (strKeys sc j)).isSome = true)
    (ma : la ≤ 65536) (mb : lb ≤ 65536) (mc : lc ≤ 65536) :
    Calls Try.prog 13 #[.map (some gb), .map (some wb), .bool false, .slice aa la ca, .slice ab lb cb, .slice ac lc cc] w fun e w' => e = .returned (.bool true) ∧ w' = w := by
  have q27 : ∀ (w : World) (r : Option Nat), (binOp .eql 27 (.map r) (.map none)).run Try.prog w = .ok (.bool r.isNone) w := fun w r => run_eql_map_nil w _ _ _ r Try.underlying27
  obtain ⟨D, hoG, hrG⟩ := hG
  obtain ⟨D', hoW, hrW⟩ := hW
  obtain rfl := same_size law9 hoG hoW hrG hrW hfg
  have hG : Holds w 9 gb n f := ⟨D, hoG, hrG⟩
  have hW : Holds w 9 wb n' g := ⟨D, hoW, hrW⟩
  clear hrG hrW
  go_enter Try.func13, Try.ntmps13
  go_wp2_with (first | (at_len; refine wpList_len_own _ rfl _ 27 rfl 9 4 Try.underlying27 _ gb n D rfl hoG ?_; clear hoG) | (at_len; refine wpList_len_own _ rfl _ 27 rfl 9 4 Try.underlying27 _ wb n' D rfl hoW ?_; clear hoW) | go_in)
  go_loop [13] (fun i => ∃ j : Nat, j ≤ la ∧ i = .int .i64 j) (fun i => la - (intOf i).toNat)
  case atStart => exact ⟨0, Nat.zero_le _, rfl⟩
  case round =>
    obtain ⟨j, hj, rfl⟩ := hrel
    by_cases hlt : j < la
    · obtain ⟨b, off, rfl, hc⟩ := ra j hlt
      obtain ⟨s, hsn⟩ : ∃ s, s = sa j := ⟨_, rfl⟩
      have hss : s.size ≤ maxLen := by rw [hsn]; exact za j hlt
      have hc' : w.cell? ⟨b, off + j, none⟩ = some (.string s) := by rw [hsn]; exact hc
      obtain ⟨v, hv⟩ := Option.isSome_iff_exists.1 (ka j hlt)
      have hk : strKeys sa j = .string s.data.toList := by rw [hsn]; rfl
      rw [hk] at hv
      obtain ⟨e1, e2⟩ := hG.look law9 Try.underlying27 (keyOf_string_mk Try.underlying9 hss) (hfg _ ▸ hv)
      obtain ⟨e3, e4⟩ := hW.look law9 Try.underlying27 (keyOf_string_mk Try.underlying9 hss) hv
      clear hsn hk hc hv e2 e3
      go_wp2
      go_round
      case rel => exact ⟨j + 1, by omega, by go_num⟩
      case measure => simp [intOf]; omega
    · clear hj
      go_wp2
      go_loop [16] (fun i => ∃ j : Nat, j ≤ lb ∧ i = .int .i64 j) (fun i => lb - (intOf i).toNat)
      case atStart => exact ⟨0, Nat.zero_le _, rfl⟩
      case round =>
        obtain ⟨j, hj, rfl⟩ := hrel
        by_cases hlt : j < lb
        · obtain ⟨b, off, rfl, hc⟩ := rb j hlt
          obtain ⟨s, hsn⟩ : ∃ s, s = sb j := ⟨_, rfl⟩
          have hss : s.size ≤ maxLen := by rw [hsn]; exact zb j hlt
          have hc' : w.cell? ⟨b, off + j, none⟩ = some (.string s) := by rw [hsn]; exact hc
          obtain ⟨v, hv⟩ := Option.isSome_iff_exists.1 (kb j hlt)
          have hk : strKeys sb j = .string s.data.toList := by rw [hsn]; rfl
          rw [hk] at hv
          obtain ⟨e1, e2⟩ := hG.look law9 Try.underlying27 (keyOf_string_mk Try.underlying9 hss) (hfg _ ▸ hv)
          obtain ⟨e3, e4⟩ := hW.look law9 Try.underlying27 (keyOf_string_mk Try.underlying9 hss) hv
          clear hsn hk hc hv e2 e3
          go_wp2
          go_round
          case rel => exact ⟨j + 1, by omega, by go_num⟩
          case measure => simp [intOf]; omega
        · clear hj
          go_wp2
          go_loop [19] (fun i => ∃ j : Nat, j ≤ lc ∧ i = .int .i64 j) (fun i => lc - (intOf i).toNat)
          case atStart => exact ⟨0, Nat.zero_le _, rfl⟩
          case round =>
            obtain ⟨j, hj, rfl⟩ := hrel
            by_cases hlt : j < lc
            · obtain ⟨b, off, rfl, hc⟩ := rc j hlt
              obtain ⟨s, hsn⟩ : ∃ s, s = sc j := ⟨_, rfl⟩
              have hss : s.size ≤ maxLen := by rw [hsn]; exact zc j hlt
              have hc' : w.cell? ⟨b, off + j, none⟩ = some (.string s) := by rw [hsn]; exact hc
              obtain ⟨v, hv⟩ := Option.isSome_iff_exists.1 (kc j hlt)
              have hk : strKeys sc j = .string s.data.toList := by rw [hsn]; rfl
              rw [hk] at hv
              obtain ⟨e1, e2⟩ := hG.look law9 Try.underlying27 (keyOf_string_mk Try.underlying9 hss) (hfg _ ▸ hv)
              obtain ⟨e3, e4⟩ := hW.look law9 Try.underlying27 (keyOf_string_mk Try.underlying9 hss) hv
              clear hsn hk hc hv e2 e3
              go_wp2
              go_round
              case rel => exact ⟨j + 1, by omega, by go_num⟩
              case measure => simp [intOf]; omega
            · clear hj
              go_wp2
              go_ret
              exact ⟨rfl, rfl⟩

set_option maxHeartbeats 1000000 in
theorem same_nil (wb n' : Nat) (g : Lit → Option Bool) (aa ab ac : Option Addr) (ca cb cc : Nat) (w : World)
    (hW : Holds w 9 wb n' g) (hg : ∀ k, g k = none) :
    Calls Try.prog 13 #[.map none, .map (some wb), .bool true, .slice aa 0 ca, .slice ab 0 cb, .slice ac 0 cc] w fun e w' => e = .returned (.bool true) ∧ w' = w := by
  have q27 : ∀ (w : World) (r : Option Nat), (binOp .eql 27 (.map r) (.map none)).run Try.prog w = .ok (.bool r.isNone) w := fun w r => run_eql_map_nil w _ _ _ r Try.underlying27
  obtain ⟨D', hoW, hrW⟩ := hW
  have hsz := empty_size law9 hoW hrW hg
  have hl0 : ∀ ty, (Builtin.len_ #[27] ty #[.map none]).run Try.prog w = .ok (.int .i64 0) w := fun ty => Maps.len_nil (P := Try.prog) (w := w) Try.underlying27 ty
  have hl1 : ∀ ty, (Builtin.len_ #[27] ty #[.map (some wb)]).run Try.prog w = .ok (.int .i64 0) w := fun ty => by rw [hoW.len Try.underlying27 ty, hsz]; rfl
  clear hsz hrW
  go_enter Try.func13, Try.ntmps13
  go_wp2
  refine wp_loop_rounds 1 ?_
  rw [rounds_succ]
  go_wp2
  refine wp_loop_rounds 1 ?_
  rw [rounds_succ]
  go_wp2
  refine wp_loop_rounds 1 ?_
  rw [rounds_succ]
  go_wp2
  go_ret
  exact ⟨rfl, rfl⟩

set_option maxHeartbeats 1000000 in
theorem sameI_some (gb wb n n' : Nat) (f g : Lit → Option Bool) (aa ab ac : Option Addr) (la ca lb cb lc cc : Nat) (sa sb sc : Nat → Int) (w : World)
    (hG : Holds w 3 gb n f) (hW : Holds w 3 wb n' g) (hfg : ∀ k, f k = g k) (ra : RowOf w aa la (fun j => .int .i64 (sa j))) (rb : RowOf w ab lb (fun j => .int .i64 (sb j))) (rc : RowOf w ac lc (fun j => .int .i64 (sc j)))
    (za : ∀ j, j < la → (Lit.int .i64 (sa j)).wf = true) (zb : ∀ j, j < lb → (Lit.int .i64 (sb j)).wf = true) (zc : ∀ j, j < lc → (Lit.int .i64 (sc j)).wf = true)
    (ka : ∀ j, j < la → (g (intKeys sa j)).isSome = true) (kb : ∀ j, j < lb → (g (intKeys sb j)).isSome = true) (kc : ∀ j, j < lc → (g (intKeys sc j)).isSome = true)
    (ma : la ≤ 65536) (mb : lb ≤ 65536) (mc : lc ≤ 65536) :
    Calls Try.prog 14 #[.map (some gb), .map (some wb), .bool false, .slice aa la ca, .slice ab lb cb, .slice ac lc cc] w fun e w' => e = .returned (.bool true) ∧ w' = w := by
  have q28 : ∀ (w : World) (r : Option Nat), (binOp .eql 28 (.map r) (.map none)).run Try.prog w = .ok (.bool r.isNone) w := fun w r => run_eql_map_nil w _ _ _ r Try.underlying28
  obtain ⟨D, hoG, hrG⟩ := hG
  obtain ⟨D', hoW, hrW⟩ := hW
  obtain rfl := same_size law3 hoG hoW hrG hrW hfg
  have hG : Holds w 3 gb n f := ⟨D, hoG, hrG⟩
  have hW : Holds w 3 wb n' g := ⟨D, hoW, hrW⟩
  clear hrG hrW
  go_enter Try.func14, Try.ntmps14
  go_wp2_with (first | (at_len; refine wpList_len_own _ rfl _ 28 rfl 3 4 Try.underlying28 _ gb n D rfl hoG ?_; clear hoG) | (at_len; refine wpList_len_own _ rfl _ 28 rfl 3 4 Try.underlying28 _ wb n' D rfl hoW ?_; clear hoW) | go_in)
  go_loop [13] (fun i => ∃ j : Nat, j ≤ la ∧ i = .int .i64 j) (fun i => la - (intOf i).toNat)
  case atStart => exact ⟨0, Nat.zero_le _, rfl⟩
  case round =>
    obtain ⟨j, hj, rfl⟩ := hrel
    by_cases hlt : j < la
    · obtain ⟨b, off, rfl, hc⟩ := ra j hlt
      obtain ⟨s, hsn⟩ : ∃ s, s = sa j := ⟨_, rfl⟩
      have hss : (Lit.int .i64 s).wf = true := by rw [hsn]; exact za j hlt
      have hc' : w.cell? ⟨b, off + j, none⟩ = some (.int .i64 s) := by rw [hsn]; exact hc
      obtain ⟨v, hv⟩ := Option.isSome_iff_exists.1 (ka j hlt)
      have hk : intKeys sa j = .int .i64 s := by rw [hsn]; rfl
      rw [hk] at hv
      obtain ⟨e1, e2⟩ := hG.look law3 Try.underlying28 (keyOf_int_mk Try.underlying3 hss) (hfg _ ▸ hv)
      obtain ⟨e3, e4⟩ := hW.look law3 Try.underlying28 (keyOf_int_mk Try.underlying3 hss) hv
      clear hsn hk hc hv e2 e3
      go_wp2
      go_round
      case rel => exact ⟨j + 1, by omega, by go_num⟩
      case measure => simp [intOf]; omega
    · clear hj
      go_wp2
      go_loop [16] (fun i => ∃ j : Nat, j ≤ lb ∧ i = .int .i64 j) (fun i => lb - (intOf i).toNat)
      case atStart => exact ⟨0, Nat.zero_le _, rfl⟩
      case round =>
        obtain ⟨j, hj, rfl⟩ := hrel
        by_cases hlt : j < lb
        · obtain ⟨b, off, rfl, hc⟩ := rb j hlt
          obtain ⟨s, hsn⟩ : ∃ s, s = sb j := ⟨_, rfl⟩
          have hss : (Lit.int .i64 s).wf = true := by rw [hsn]; exact zb j hlt
          have hc' : w.cell? ⟨b, off + j, none⟩ = some (.int .i64 s) := by rw [hsn]; exact hc
          obtain ⟨v, hv⟩ := Option.isSome_iff_exists.1 (kb j hlt)
          have hk : intKeys sb j = .int .i64 s := by rw [hsn]; rfl
          rw [hk] at hv
          obtain ⟨e1, e2⟩ := hG.look law3 Try.underlying28 (keyOf_int_mk Try.underlying3 hss) (hfg _ ▸ hv)
          obtain ⟨e3, e4⟩ := hW.look law3 Try.underlying28 (keyOf_int_mk Try.underlying3 hss) hv
          clear hsn hk hc hv e2 e3
          go_wp2
          go_round
          case rel => exact ⟨j + 1, by omega, by go_num⟩
          case measure => simp [intOf]; omega
        · clear hj
          go_wp2
          go_loop [19] (fun i => ∃ j : Nat, j ≤ lc ∧ i = .int .i64 j) (fun i => lc - (intOf i).toNat)
          case atStart => exact ⟨0, Nat.zero_le _, rfl⟩
          case round =>
            obtain ⟨j, hj, rfl⟩ := hrel
            by_cases hlt : j < lc
            · obtain ⟨b, off, rfl, hc⟩ := rc j hlt
              obtain ⟨s, hsn⟩ : ∃ s, s = sc j := ⟨_, rfl⟩
              have hss : (Lit.int .i64 s).wf = true := by rw [hsn]; exact zc j hlt
              have hc' : w.cell? ⟨b, off + j, none⟩ = some (.int .i64 s) := by rw [hsn]; exact hc
              obtain ⟨v, hv⟩ := Option.isSome_iff_exists.1 (kc j hlt)
              have hk : intKeys sc j = .int .i64 s := by rw [hsn]; rfl
              rw [hk] at hv
              obtain ⟨e1, e2⟩ := hG.look law3 Try.underlying28 (keyOf_int_mk Try.underlying3 hss) (hfg _ ▸ hv)
              obtain ⟨e3, e4⟩ := hW.look law3 Try.underlying28 (keyOf_int_mk Try.underlying3 hss) hv
              clear hsn hk hc hv e2 e3
              go_wp2
              go_round
              case rel => exact ⟨j + 1, by omega, by go_num⟩
              case measure => simp [intOf]; omega
            · clear hj
              go_wp2
              go_ret
              exact ⟨rfl, rfl⟩

set_option maxHeartbeats 1000000 in
theorem sameI_nil (wb n' : Nat) (g : Lit → Option Bool) (aa ab ac : Option Addr) (ca cb cc : Nat) (w : World)
    (hW : Holds w 3 wb n' g) (hg : ∀ k, g k = none) :
    Calls Try.prog 14 #[.map none, .map (some wb), .bool true, .slice aa 0 ca, .slice ab 0 cb, .slice ac 0 cc] w fun e w' => e = .returned (.bool true) ∧ w' = w := by
  have q28 : ∀ (w : World) (r : Option Nat), (binOp .eql 28 (.map r) (.map none)).run Try.prog w = .ok (.bool r.isNone) w := fun w r => run_eql_map_nil w _ _ _ r Try.underlying28
  obtain ⟨D', hoW, hrW⟩ := hW
  have hsz := empty_size law3 hoW hrW hg
  have hl0 : ∀ ty, (Builtin.len_ #[28] ty #[.map none]).run Try.prog w = .ok (.int .i64 0) w := fun ty => Maps.len_nil (P := Try.prog) (w := w) Try.underlying28 ty
  have hl1 : ∀ ty, (Builtin.len_ #[28] ty #[.map (some wb)]).run Try.prog w = .ok (.int .i64 0) w := fun ty => by rw [hoW.len Try.underlying28 ty, hsz]; rfl
  clear hsz hrW
  go_enter Try.func14, Try.ntmps14
  go_wp2
  refine wp_loop_rounds 1 ?_
  rw [rounds_succ]
  go_wp2
  refine wp_loop_rounds 1 ?_
  rw [rounds_succ]
  go_wp2
  refine wp_loop_rounds 1 ?_
  rw [rounds_succ]
  go_wp2
  go_ret
  exact ⟨rfl, rfl⟩

end Go.Proofs.Qxb6623451a
