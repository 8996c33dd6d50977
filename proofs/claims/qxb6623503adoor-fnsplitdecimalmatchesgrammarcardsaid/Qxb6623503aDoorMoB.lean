/-
  zzModelSplitDecimal (5): its ways with an exponent behind 69.
-/
import Derived.Test.Qxb6623503aDoorMo
namespace Go.Proofs.Qxb6623503aDoor
open Go.RowKit
set_option linter.unusedVariables false

set_option maxRecDepth 100000 in
set_option maxHeartbeats 4000000 in
theorem mo_69_nil (S MS T EV : ByteArray) (lm e : Bytes) (x : Int) (Rs : Res) (w : World)
    (hS : S.size ≤ 1048576) (hl : MS.size = lm.length) (hl2 : lm.length ≤ 1048576) (hlt : lm.length < S.size) (iS : ∀ h, ((S[lm.length]'h).toNat : Int) = 69) (x0 : S.extract 0 lm.length = MS) (x1 : S.extract (lm.length + 1) S.size = T) (cS : ∀ (k : Nat) (c : UInt8), lm[k]? = some c → (∀ h, ((S[k]'h).toNat : Int) = (c.toNat : Int)) ∧ ((c.toNat : Int) == 101) = false ∧ ((c.toNat : Int) == 69) = false) (cM : ∀ (k : Nat) (c : UInt8), lm[k]? = some c → (∀ h, ((MS[k]'h).toNat : Int) = (c.toNat : Int))) (hF : Hid (okB lm = false ∨ digs lm = [] → Rs = failed)) (mT : T.size ≤ 1048576) (sT : T.size = 0) (hEn : e = []) (hF2 : Hid (e = [] ∨ e.all isD = false → Rs = failed)) (hK : Hid (okB lm = true → ¬ digs lm = [] → ¬ e = [] → e.all isD = true → Rs = (digs lm, ((min (magF 0 e) bnd : Nat) : Int) - (fracN lm : Int), true))) :
    Calls Tryd.prog 5 #[.string S] w fun e w' => e = .returned (.tuple #[.string (bs Rs.1), .int .i64 Rs.2.1, .bool Rs.2.2]) ∧ Below w.heap.size w w' := by
  obtain ⟨i0, hi, hz0, hz1, hz2⟩ := info_parts info5
  have CS : Hid (∀ (k : Nat) (c : UInt8), lm[k]? = some c → (∀ h, ((S[k]'h).toNat : Int) = (c.toNat : Int)) ∧ ((c.toNat : Int) == 101) = false ∧ ((c.toNat : Int) == 69) = false) := cS
  clear cS
  have CM : Hid (∀ (k : Nat) (c : UInt8), lm[k]? = some c → (∀ h, ((MS[k]'h).toNat : Int) = (c.toNat : Int))) := cM
  clear cM
  go_enter Tryd.func5, Tryd.ntmps5
  go_wp2
  go_loop [5, 6] (fun m i => m = .int .i64 S.size ∧ ∃ k : Nat, k ≤ lm.length ∧ i = .int .i64 k) (fun _ i => lm.length - (intOf i).toNat)
  case atStart => exact ⟨rfl, 0, Nat.zero_le _, rfl⟩
  case round =>
    obtain ⟨rfl, k, hk, rfl⟩ := hrel
    by_cases hkl : k < lm.length
    · obtain ⟨c, hc⟩ : ∃ c, lm[k]? = some c := ⟨_, List.getElem?_eq_getElem hkl⟩
      obtain ⟨kb, e1, e2⟩ := CS.out k c hc
      clear hc
      go_wp2
      go_round
      case rel => exact ⟨rfl, k + 1, by omega, by go_num⟩
      case measure => simp [intOf]; omega
    · obtain rfl : k = lm.length := by omega
      clear hkl hk
      go_wp2_with (at_make; refine wpList_make_own _ rfl _ _ 25 rfl w.heap.size 5 i0 (.int .u8 0) 1 Tryd.underlying25 hi hz0 hz1 _ _ _ lm.length rfl rfl (by first | rfl | simp) (by rw [hz2]; omega) (by unfold maxLen; omega) (Nat.le_refl _) ?_; intro w1 hown hg1)
      have hB1 : Below w.heap.size w w1 := (Below.refl _ _).grown hg1 (Nat.le_refl _) (fun j hj => by cases hj)
      clear hg1
      go_loopw [8, 9, 10, 11] (fun v d f i wr => ∃ (k D F n g cap : Nat), k ≤ lm.length ∧ i = .int .i64 k ∧ d = .int .i64 D ∧ f = .int .i64 F ∧ v = .slice (some ⟨g, 0, none⟩) n cap ∧ wr.ownsRow w.heap.size 5 1 (.slice (some ⟨g, 0, none⟩) n cap) n ((digs (lm.take k)).map bv) ∧
          Hid (D = dots (lm.take k) ∧ F = fracN (lm.take k) ∧ n = (digs (lm.take k)).length ∧ okB (lm.take k) = true) ∧ D ≤ 1 ∧ F ≤ k ∧ n ≤ k ∧ Below w.heap.size w wr) (fun _ _ _ i _ => lm.length - (intOf i).toNat)
      case atStart => exact ⟨0, 0, 0, 0, w.heap.size, lm.length, Nat.zero_le _, rfl, rfl, rfl, rfl, hown, ⟨rfl, rfl, rfl, rfl⟩, by omega, by omega, by omega, hB1⟩
      case round =>
        clear hown hB1
        obtain ⟨k, D, F, n, g, cap, hk, rfl, rfl, rfl, rfl, hown, HI, hD, hFk, hnk, hnx⟩ := hrel
        by_cases hkl : k < lm.length
        · obtain ⟨c, hc⟩ : ∃ c, lm[k]? = some c := ⟨_, List.getElem?_eq_getElem hkl⟩
          have kb := CM.out k c hc
          have HC : Hid (lm[k]? = some c) := hc
          clear hc
          by_cases h46 : (c.toNat : Int) = 46
          · have h46n : c.toNat = 46 := by omega
            by_cases hD0 : D = 0
            · subst hD0
              have RI : Hid (1 = dots (lm.take (k + 1)) ∧ F = fracN (lm.take (k + 1)) ∧ n = (digs (lm.take (k + 1))).length ∧ okB (lm.take (k + 1)) = true) := st_dot HI.out HC.out h46n
              have hown' : wr.ownsRow w.heap.size 5 1 (.slice (some ⟨g, 0, none⟩) n cap) n ((digs (lm.take (k + 1))).map bv) := by rw [dg_dot HC.out h46n]; exact hown
              clear hown HI HC h46n
              go_wp2
              go_roundw
              case rel => exact ⟨k + 1, 1, F, n, g, cap, by omega, by go_num, rfl, rfl, rfl, hown', RI, by omega, by omega, by omega, hnx⟩
              case measure => simp [intOf]; omega
            · obtain rfl : D = 1 := by omega
              have HR : Hid (Rs = failed) := hF.out (.inl (ok_bad HC.out (dot_not_D h46n) (.inr (by have := HI.out.1; omega))))
              clear hF hK hown HI HC h46n hF2
              go_wp2
              go_ret3
              exact ⟨ret_fail HR.out, hnx⟩
          · have b46 : ((c.toNat : Int) == 46) = false := by simp; omega
            by_cases hd : 48 ≤ (c.toNat : Int) ∧ (c.toNat : Int) ≤ 57
            · have hdig : isD c = true := by simp [isD]; omega
              obtain ⟨d1, d2⟩ := hd
              by_cases hD0 : D = 0
              · subst hD0
                have RI : Hid (0 = dots (lm.take (k + 1)) ∧ F = fracN (lm.take (k + 1)) ∧ n + 1 = (digs (lm.take (k + 1))).length ∧ okB (lm.take (k + 1)) = true) := st_dig0 HI.out HC.out hdig
                have ED : Hid ((digs (lm.take (k + 1))).map bv = (digs (lm.take k)).map bv ++ [.int .u8 (c.toNat : Int)]) := dg_dig HC.out hdig
                clear HI HC hdig h46
                go_wp2_with (at_builtin; refine wpList_append_own _ rfl _ _ 25 rfl w.heap.size 5 i0 (.int .u8 0) 1 1 Tryd.underlying25 hi hz0 hz1 hz2 rfl (by decide) _ _ _ rfl (hown.alloc _) ⟨wr.heap.size, 0, none⟩ 1 1 [.int .u8 (c.toNat : Int)] rfl rfl (cell_one_new _ _ _) (ints_oneCell .u8 [(c.toNat : Int)]) (by unfold maxLen; omega) (by omega) (by have := hnx.size; simp; omega) ?_; intro v' w2 hown2 hgrow hnil; obtain ⟨g', cap', hv'⟩ := own_form hown2 (fun e => by have := hnil.1 e; simp at this); subst hv')
                have R1 := own_next hown hown2 hgrow hnx ED.out
                clear hown hown2 hgrow hnil
                go_wp2
                go_roundw
                case rel => exact ⟨k + 1, 0, F, n + 1, g', cap', by omega, by go_num, rfl, rfl, rfl, R1.1, RI, by omega, by omega, by omega, R1.2⟩
                case measure => simp [intOf]; omega
              · obtain rfl : D = 1 := by omega
                have RI : Hid (1 = dots (lm.take (k + 1)) ∧ F + 1 = fracN (lm.take (k + 1)) ∧ n + 1 = (digs (lm.take (k + 1))).length ∧ okB (lm.take (k + 1)) = true) := st_dig1 HI.out HC.out hdig
                have ED : Hid ((digs (lm.take (k + 1))).map bv = (digs (lm.take k)).map bv ++ [.int .u8 (c.toNat : Int)]) := dg_dig HC.out hdig
                clear HI HC hdig h46
                go_wp2_with (at_builtin; refine wpList_append_own _ rfl _ _ 25 rfl w.heap.size 5 i0 (.int .u8 0) 1 1 Tryd.underlying25 hi hz0 hz1 hz2 rfl (by decide) _ _ _ rfl (hown.alloc _) ⟨wr.heap.size, 0, none⟩ 1 1 [.int .u8 (c.toNat : Int)] rfl rfl (cell_one_new _ _ _) (ints_oneCell .u8 [(c.toNat : Int)]) (by unfold maxLen; omega) (by omega) (by have := hnx.size; simp; omega) ?_; intro v' w2 hown2 hgrow hnil; obtain ⟨g', cap', hv'⟩ := own_form hown2 (fun e => by have := hnil.1 e; simp at this); subst hv')
                have R1 := own_next hown hown2 hgrow hnx ED.out
                clear hown hown2 hgrow hnil
                go_wp2
                go_roundw
                case rel => exact ⟨k + 1, 1, F + 1, n + 1, g', cap', by omega, by go_num, by go_num, by go_num, rfl, R1.1, RI, by omega, by omega, by omega, R1.2⟩
                case measure => simp [intOf]; omega
            · have hdig : isD c = false := by simp [isD]; omega
              have HR : Hid (Rs = failed) := hF.out (.inl (ok_bad HC.out hdig (.inl (by omega))))
              clear hF hK hown HI HC hdig hF2
              rcases (show (c.toNat : Int) < 48 ∨ 57 < (c.toNat : Int) by omega) with hb | hb
              · clear hd h46
                go_wp2
                go_ret3
                exact ⟨ret_fail HR.out, hnx⟩
              · clear hd h46
                go_wp2
                go_ret3
                exact ⟨ret_fail HR.out, hnx⟩
        · obtain rfl : k = lm.length := by omega
          rw [List.take_length] at hown HI
          have hconv := conv_own hown
          clear hkl hk
          by_cases hn0 : n = 0
          · have HR : Hid (Rs = failed) := hF.out (.inr (by have := HI.out.2.2.1; exact List.eq_nil_of_length_eq_zero (by omega)))
            clear hF hK hown HI hF2 hconv
            subst hn0
            go_wp2
            go_ret3
            exact ⟨ret_fail HR.out, hnx⟩
          have hnz : ((n : Int) == 0) = false := by simp; omega
          have hok := HI.out.2.2.2
          have hne : ¬ digs lm = [] := fun e => by have := HI.out.2.2.1; rw [e] at this; simp at this; omega
          have HFr : Hid (F = fracN lm) := HI.out.2.1
          have HR : Hid (Rs = failed) := hF2.out (.inl (by exact hEn))
          clear hF hK hF2 hown HI HFr hok hne hn0 hconv
          go_wp2
          go_ret3
          exact ⟨ret_fail HR.out, hnx⟩

set_option maxRecDepth 100000 in
set_option maxHeartbeats 4000000 in
theorem mo_69_neg (S MS T EV : ByteArray) (lm e : Bytes) (x : Int) (Rs : Res) (w : World)
    (hS : S.size ≤ 1048576) (hl : MS.size = lm.length) (hl2 : lm.length ≤ 1048576) (hlt : lm.length < S.size) (iS : ∀ h, ((S[lm.length]'h).toNat : Int) = 69) (x0 : S.extract 0 lm.length = MS) (x1 : S.extract (lm.length + 1) S.size = T) (cS : ∀ (k : Nat) (c : UInt8), lm[k]? = some c → (∀ h, ((S[k]'h).toNat : Int) = (c.toNat : Int)) ∧ ((c.toNat : Int) == 101) = false ∧ ((c.toNat : Int) == 69) = false) (cM : ∀ (k : Nat) (c : UInt8), lm[k]? = some c → (∀ h, ((MS[k]'h).toNat : Int) = (c.toNat : Int))) (hF : Hid (okB lm = false ∨ digs lm = [] → Rs = failed)) (mT : T.size ≤ 1048576) (sT : 0 < T.size) (iT : ∀ h, ((T[0]'h).toNat : Int) = 45) (tT : T.extract 1 T.size = EV) (hE : EV.size = e.length) (hE2 : e.length ≤ 1048576) (cE : ∀ (k : Nat) (c : UInt8), e[k]? = some c → (∀ h, ((EV[k]'h).toNat : Int) = (c.toNat : Int))) (hF2 : Hid (e = [] ∨ e.all isD = false → Rs = failed)) (hK : Hid (okB lm = true → ¬ digs lm = [] → ¬ e = [] → e.all isD = true → Rs = (digs lm, -((min (magF 0 e) bnd : Nat) : Int) - (fracN lm : Int), true))) :
    Calls Tryd.prog 5 #[.string S] w fun e w' => e = .returned (.tuple #[.string (bs Rs.1), .int .i64 Rs.2.1, .bool Rs.2.2]) ∧ Below w.heap.size w w' := by
  obtain ⟨i0, hi, hz0, hz1, hz2⟩ := info_parts info5
  have CS : Hid (∀ (k : Nat) (c : UInt8), lm[k]? = some c → (∀ h, ((S[k]'h).toNat : Int) = (c.toNat : Int)) ∧ ((c.toNat : Int) == 101) = false ∧ ((c.toNat : Int) == 69) = false) := cS
  clear cS
  have CM : Hid (∀ (k : Nat) (c : UInt8), lm[k]? = some c → (∀ h, ((MS[k]'h).toNat : Int) = (c.toNat : Int))) := cM
  clear cM
  have CE : Hid (∀ (k : Nat) (c : UInt8), e[k]? = some c → (∀ h, ((EV[k]'h).toNat : Int) = (c.toNat : Int))) := cE
  clear cE
  go_enter Tryd.func5, Tryd.ntmps5
  go_wp2
  go_loop [5, 6] (fun m i => m = .int .i64 S.size ∧ ∃ k : Nat, k ≤ lm.length ∧ i = .int .i64 k) (fun _ i => lm.length - (intOf i).toNat)
  case atStart => exact ⟨rfl, 0, Nat.zero_le _, rfl⟩
  case round =>
    obtain ⟨rfl, k, hk, rfl⟩ := hrel
    by_cases hkl : k < lm.length
    · obtain ⟨c, hc⟩ : ∃ c, lm[k]? = some c := ⟨_, List.getElem?_eq_getElem hkl⟩
      obtain ⟨kb, e1, e2⟩ := CS.out k c hc
      clear hc
      go_wp2
      go_round
      case rel => exact ⟨rfl, k + 1, by omega, by go_num⟩
      case measure => simp [intOf]; omega
    · obtain rfl : k = lm.length := by omega
      clear hkl hk
      go_wp2_with (at_make; refine wpList_make_own _ rfl _ _ 25 rfl w.heap.size 5 i0 (.int .u8 0) 1 Tryd.underlying25 hi hz0 hz1 _ _ _ lm.length rfl rfl (by first | rfl | simp) (by rw [hz2]; omega) (by unfold maxLen; omega) (Nat.le_refl _) ?_; intro w1 hown hg1)
      have hB1 : Below w.heap.size w w1 := (Below.refl _ _).grown hg1 (Nat.le_refl _) (fun j hj => by cases hj)
      clear hg1
      go_loopw [8, 9, 10, 11] (fun v d f i wr => ∃ (k D F n g cap : Nat), k ≤ lm.length ∧ i = .int .i64 k ∧ d = .int .i64 D ∧ f = .int .i64 F ∧ v = .slice (some ⟨g, 0, none⟩) n cap ∧ wr.ownsRow w.heap.size 5 1 (.slice (some ⟨g, 0, none⟩) n cap) n ((digs (lm.take k)).map bv) ∧
          Hid (D = dots (lm.take k) ∧ F = fracN (lm.take k) ∧ n = (digs (lm.take k)).length ∧ okB (lm.take k) = true) ∧ D ≤ 1 ∧ F ≤ k ∧ n ≤ k ∧ Below w.heap.size w wr) (fun _ _ _ i _ => lm.length - (intOf i).toNat)
      case atStart => exact ⟨0, 0, 0, 0, w.heap.size, lm.length, Nat.zero_le _, rfl, rfl, rfl, rfl, hown, ⟨rfl, rfl, rfl, rfl⟩, by omega, by omega, by omega, hB1⟩
      case round =>
        clear hown hB1
        obtain ⟨k, D, F, n, g, cap, hk, rfl, rfl, rfl, rfl, hown, HI, hD, hFk, hnk, hnx⟩ := hrel
        by_cases hkl : k < lm.length
        · obtain ⟨c, hc⟩ : ∃ c, lm[k]? = some c := ⟨_, List.getElem?_eq_getElem hkl⟩
          have kb := CM.out k c hc
          have HC : Hid (lm[k]? = some c) := hc
          clear hc
          by_cases h46 : (c.toNat : Int) = 46
          · have h46n : c.toNat = 46 := by omega
            by_cases hD0 : D = 0
            · subst hD0
              have RI : Hid (1 = dots (lm.take (k + 1)) ∧ F = fracN (lm.take (k + 1)) ∧ n = (digs (lm.take (k + 1))).length ∧ okB (lm.take (k + 1)) = true) := st_dot HI.out HC.out h46n
              have hown' : wr.ownsRow w.heap.size 5 1 (.slice (some ⟨g, 0, none⟩) n cap) n ((digs (lm.take (k + 1))).map bv) := by rw [dg_dot HC.out h46n]; exact hown
              clear hown HI HC h46n
              go_wp2
              go_roundw
              case rel => exact ⟨k + 1, 1, F, n, g, cap, by omega, by go_num, rfl, rfl, rfl, hown', RI, by omega, by omega, by omega, hnx⟩
              case measure => simp [intOf]; omega
            · obtain rfl : D = 1 := by omega
              have HR : Hid (Rs = failed) := hF.out (.inl (ok_bad HC.out (dot_not_D h46n) (.inr (by have := HI.out.1; omega))))
              clear hF hK hown HI HC h46n hF2
              go_wp2
              go_ret3
              exact ⟨ret_fail HR.out, hnx⟩
          · have b46 : ((c.toNat : Int) == 46) = false := by simp; omega
            by_cases hd : 48 ≤ (c.toNat : Int) ∧ (c.toNat : Int) ≤ 57
            · have hdig : isD c = true := by simp [isD]; omega
              obtain ⟨d1, d2⟩ := hd
              by_cases hD0 : D = 0
              · subst hD0
                have RI : Hid (0 = dots (lm.take (k + 1)) ∧ F = fracN (lm.take (k + 1)) ∧ n + 1 = (digs (lm.take (k + 1))).length ∧ okB (lm.take (k + 1)) = true) := st_dig0 HI.out HC.out hdig
                have ED : Hid ((digs (lm.take (k + 1))).map bv = (digs (lm.take k)).map bv ++ [.int .u8 (c.toNat : Int)]) := dg_dig HC.out hdig
                clear HI HC hdig h46
                go_wp2_with (at_builtin; refine wpList_append_own _ rfl _ _ 25 rfl w.heap.size 5 i0 (.int .u8 0) 1 1 Tryd.underlying25 hi hz0 hz1 hz2 rfl (by decide) _ _ _ rfl (hown.alloc _) ⟨wr.heap.size, 0, none⟩ 1 1 [.int .u8 (c.toNat : Int)] rfl rfl (cell_one_new _ _ _) (ints_oneCell .u8 [(c.toNat : Int)]) (by unfold maxLen; omega) (by omega) (by have := hnx.size; simp; omega) ?_; intro v' w2 hown2 hgrow hnil; obtain ⟨g', cap', hv'⟩ := own_form hown2 (fun e => by have := hnil.1 e; simp at this); subst hv')
                have R1 := own_next hown hown2 hgrow hnx ED.out
                clear hown hown2 hgrow hnil
                go_wp2
                go_roundw
                case rel => exact ⟨k + 1, 0, F, n + 1, g', cap', by omega, by go_num, rfl, rfl, rfl, R1.1, RI, by omega, by omega, by omega, R1.2⟩
                case measure => simp [intOf]; omega
              · obtain rfl : D = 1 := by omega
                have RI : Hid (1 = dots (lm.take (k + 1)) ∧ F + 1 = fracN (lm.take (k + 1)) ∧ n + 1 = (digs (lm.take (k + 1))).length ∧ okB (lm.take (k + 1)) = true) := st_dig1 HI.out HC.out hdig
                have ED : Hid ((digs (lm.take (k + 1))).map bv = (digs (lm.take k)).map bv ++ [.int .u8 (c.toNat : Int)]) := dg_dig HC.out hdig
                clear HI HC hdig h46
                go_wp2_with (at_builtin; refine wpList_append_own _ rfl _ _ 25 rfl w.heap.size 5 i0 (.int .u8 0) 1 1 Tryd.underlying25 hi hz0 hz1 hz2 rfl (by decide) _ _ _ rfl (hown.alloc _) ⟨wr.heap.size, 0, none⟩ 1 1 [.int .u8 (c.toNat : Int)] rfl rfl (cell_one_new _ _ _) (ints_oneCell .u8 [(c.toNat : Int)]) (by unfold maxLen; omega) (by omega) (by have := hnx.size; simp; omega) ?_; intro v' w2 hown2 hgrow hnil; obtain ⟨g', cap', hv'⟩ := own_form hown2 (fun e => by have := hnil.1 e; simp at this); subst hv')
                have R1 := own_next hown hown2 hgrow hnx ED.out
                clear hown hown2 hgrow hnil
                go_wp2
                go_roundw
                case rel => exact ⟨k + 1, 1, F + 1, n + 1, g', cap', by omega, by go_num, by go_num, by go_num, rfl, R1.1, RI, by omega, by omega, by omega, R1.2⟩
                case measure => simp [intOf]; omega
            · have hdig : isD c = false := by simp [isD]; omega
              have HR : Hid (Rs = failed) := hF.out (.inl (ok_bad HC.out hdig (.inl (by omega))))
              clear hF hK hown HI HC hdig hF2
              rcases (show (c.toNat : Int) < 48 ∨ 57 < (c.toNat : Int) by omega) with hb | hb
              · clear hd h46
                go_wp2
                go_ret3
                exact ⟨ret_fail HR.out, hnx⟩
              · clear hd h46
                go_wp2
                go_ret3
                exact ⟨ret_fail HR.out, hnx⟩
        · obtain rfl : k = lm.length := by omega
          rw [List.take_length] at hown HI
          have hconv := conv_own hown
          clear hkl hk
          by_cases hn0 : n = 0
          · have HR : Hid (Rs = failed) := hF.out (.inr (by have := HI.out.2.2.1; exact List.eq_nil_of_length_eq_zero (by omega)))
            clear hF hK hown HI hF2 hconv
            subst hn0
            go_wp2
            go_ret3
            exact ⟨ret_fail HR.out, hnx⟩
          have hnz : ((n : Int) == 0) = false := by simp; omega
          have hok := HI.out.2.2.2
          have hne : ¬ digs lm = [] := fun e => by have := HI.out.2.2.1; rw [e] at this; simp at this; omega
          have HFr : Hid (F = fracN lm) := HI.out.2.1
          have HK : Hid (¬ e = [] → e.all isD = true → Rs = (digs lm, -((min (magF 0 e) bnd : Nat) : Int) - (F : Int), true)) := by intro h1 h2; have h := hK.out hok hne h1 h2; rw [← HFr.out] at h; exact h
          clear hF hK hown HI HFr hok hne hn0
          by_cases he0 : e.length = 0
          · have HR : Hid (Rs = failed) := hF2.out (.inl (List.eq_nil_of_length_eq_zero he0))
            clear HK hF2 hconv
            go_wp2
            go_ret3
            exact ⟨ret_fail HR.out, hnx⟩
          have hez : ((e.length : Int) == 0) = false := by simp; exact fun h => he0 (by rw [h]; rfl)
          have hen : ¬ e = [] := fun h => he0 (by rw [h]; rfl)
          clear he0
          go_wp2
          go_loop [16, 17] (fun m i => ∃ (k M : Nat), k ≤ e.length ∧ i = .int .i64 k ∧ m = .int .i64 M ∧ Hid (M = magF 0 (e.take k) ∧ (e.take k).all isD = true) ∧ M ≤ 10486000) (fun _ i => e.length - (intOf i).toNat)
          case atStart => exact ⟨0, 0, Nat.zero_le _, rfl, rfl, ⟨rfl, rfl⟩, by omega⟩
          case round =>
            obtain ⟨k, M, hk, rfl, rfl, HI, hM⟩ := hrel
            by_cases hkl : k < e.length
            · obtain ⟨c, hc⟩ : ∃ c, e[k]? = some c := ⟨_, List.getElem?_eq_getElem hkl⟩
              have kb := CE.out k c hc
              have HC : Hid (e[k]? = some c) := hc
              clear hc
              by_cases hd : 48 ≤ (c.toNat : Int) ∧ (c.toNat : Int) ≤ 57
              · have hdig : isD c = true := by simp [isD]; omega
                obtain ⟨d1, d2⟩ := hd
                by_cases hb : M ≤ 1048576
                · have RI : Hid (M * 10 + (c.toNat - 48) = magF 0 (e.take (k + 1)) ∧ (e.take (k + 1)).all isD = true) := mg_add HI.out HC.out hdig hb
                  clear HI HC hdig HK hF2 hconv
                  go_wp2
                  go_round
                  case rel => exact ⟨k + 1, M * 10 + (c.toNat - 48), by omega, by go_num, by go_num, RI, by omega⟩
                  case measure => simp [intOf]; omega
                · have RI : Hid (M = magF 0 (e.take (k + 1)) ∧ (e.take (k + 1)).all isD = true) := mg_keep HI.out HC.out hdig hb
                  clear HI HC hdig HK hF2 hconv
                  go_wp2
                  go_round
                  case rel => exact ⟨k + 1, M, by omega, by go_num, rfl, RI, hM⟩
                  case measure => simp [intOf]; omega
              · have hdig : isD c = false := by simp [isD]; omega
                have HR : Hid (Rs = failed) := hF2.out (.inr (all_bad HC.out hdig))
                clear HI HC hdig HK hF2 hconv
                rcases (show (c.toNat : Int) < 48 ∨ 57 < (c.toNat : Int) by omega) with hb | hb
                · clear hd
                  go_wp2
                  go_ret3
                  exact ⟨ret_fail HR.out, hnx⟩
                · clear hd
                  go_wp2
                  go_ret3
                  exact ⟨ret_fail HR.out, hnx⟩
            · obtain rfl : k = e.length := by omega
              rw [List.take_length] at HI
              have hR := HK.out hen HI.out.2
              rw [← HI.out.1] at hR
              clear HK hF2 HI hkl hk hen
              by_cases hb : M ≤ 1048576
              · have em : ((min M bnd : Nat) : Int) = M := by have : bnd = 1048576 := rfl; omega
                rw [em] at hR
                have HR : Hid (Rs = _) := hR
                clear hR em
                go_wp2
                go_ret3
                exact ⟨ret_of HR.out, hnx⟩
              · have em : ((min M bnd : Nat) : Int) = 1048576 := by have : bnd = 1048576 := rfl; omega
                rw [em] at hR
                have HR : Hid (Rs = _) := hR
                clear hR em
                go_wp2
                go_ret3
                exact ⟨ret_of HR.out, hnx⟩

set_option maxRecDepth 100000 in
set_option maxHeartbeats 4000000 in
theorem mo_69_pos (S MS T EV : ByteArray) (lm e : Bytes) (x : Int) (Rs : Res) (w : World)
    (hS : S.size ≤ 1048576) (hl : MS.size = lm.length) (hl2 : lm.length ≤ 1048576) (hlt : lm.length < S.size) (iS : ∀ h, ((S[lm.length]'h).toNat : Int) = 69) (x0 : S.extract 0 lm.length = MS) (x1 : S.extract (lm.length + 1) S.size = T) (cS : ∀ (k : Nat) (c : UInt8), lm[k]? = some c → (∀ h, ((S[k]'h).toNat : Int) = (c.toNat : Int)) ∧ ((c.toNat : Int) == 101) = false ∧ ((c.toNat : Int) == 69) = false) (cM : ∀ (k : Nat) (c : UInt8), lm[k]? = some c → (∀ h, ((MS[k]'h).toNat : Int) = (c.toNat : Int))) (hF : Hid (okB lm = false ∨ digs lm = [] → Rs = failed)) (mT : T.size ≤ 1048576) (sT : 0 < T.size) (iT : ∀ h, ((T[0]'h).toNat : Int) = 43) (tT : T.extract 1 T.size = EV) (hE : EV.size = e.length) (hE2 : e.length ≤ 1048576) (cE : ∀ (k : Nat) (c : UInt8), e[k]? = some c → (∀ h, ((EV[k]'h).toNat : Int) = (c.toNat : Int))) (hF2 : Hid (e = [] ∨ e.all isD = false → Rs = failed)) (hK : Hid (okB lm = true → ¬ digs lm = [] → ¬ e = [] → e.all isD = true → Rs = (digs lm, ((min (magF 0 e) bnd : Nat) : Int) - (fracN lm : Int), true))) :
    Calls Tryd.prog 5 #[.string S] w fun e w' => e = .returned (.tuple #[.string (bs Rs.1), .int .i64 Rs.2.1, .bool Rs.2.2]) ∧ Below w.heap.size w w' := by
  obtain ⟨i0, hi, hz0, hz1, hz2⟩ := info_parts info5
  have CS : Hid (∀ (k : Nat) (c : UInt8), lm[k]? = some c → (∀ h, ((S[k]'h).toNat : Int) = (c.toNat : Int)) ∧ ((c.toNat : Int) == 101) = false ∧ ((c.toNat : Int) == 69) = false) := cS
  clear cS
  have CM : Hid (∀ (k : Nat) (c : UInt8), lm[k]? = some c → (∀ h, ((MS[k]'h).toNat : Int) = (c.toNat : Int))) := cM
  clear cM
  have CE : Hid (∀ (k : Nat) (c : UInt8), e[k]? = some c → (∀ h, ((EV[k]'h).toNat : Int) = (c.toNat : Int))) := cE
  clear cE
  go_enter Tryd.func5, Tryd.ntmps5
  go_wp2
  go_loop [5, 6] (fun m i => m = .int .i64 S.size ∧ ∃ k : Nat, k ≤ lm.length ∧ i = .int .i64 k) (fun _ i => lm.length - (intOf i).toNat)
  case atStart => exact ⟨rfl, 0, Nat.zero_le _, rfl⟩
  case round =>
    obtain ⟨rfl, k, hk, rfl⟩ := hrel
    by_cases hkl : k < lm.length
    · obtain ⟨c, hc⟩ : ∃ c, lm[k]? = some c := ⟨_, List.getElem?_eq_getElem hkl⟩
      obtain ⟨kb, e1, e2⟩ := CS.out k c hc
      clear hc
      go_wp2
      go_round
      case rel => exact ⟨rfl, k + 1, by omega, by go_num⟩
      case measure => simp [intOf]; omega
    · obtain rfl : k = lm.length := by omega
      clear hkl hk
      go_wp2_with (at_make; refine wpList_make_own _ rfl _ _ 25 rfl w.heap.size 5 i0 (.int .u8 0) 1 Tryd.underlying25 hi hz0 hz1 _ _ _ lm.length rfl rfl (by first | rfl | simp) (by rw [hz2]; omega) (by unfold maxLen; omega) (Nat.le_refl _) ?_; intro w1 hown hg1)
      have hB1 : Below w.heap.size w w1 := (Below.refl _ _).grown hg1 (Nat.le_refl _) (fun j hj => by cases hj)
      clear hg1
      go_loopw [8, 9, 10, 11] (fun v d f i wr => ∃ (k D F n g cap : Nat), k ≤ lm.length ∧ i = .int .i64 k ∧ d = .int .i64 D ∧ f = .int .i64 F ∧ v = .slice (some ⟨g, 0, none⟩) n cap ∧ wr.ownsRow w.heap.size 5 1 (.slice (some ⟨g, 0, none⟩) n cap) n ((digs (lm.take k)).map bv) ∧
          Hid (D = dots (lm.take k) ∧ F = fracN (lm.take k) ∧ n = (digs (lm.take k)).length ∧ okB (lm.take k) = true) ∧ D ≤ 1 ∧ F ≤ k ∧ n ≤ k ∧ Below w.heap.size w wr) (fun _ _ _ i _ => lm.length - (intOf i).toNat)
      case atStart => exact ⟨0, 0, 0, 0, w.heap.size, lm.length, Nat.zero_le _, rfl, rfl, rfl, rfl, hown, ⟨rfl, rfl, rfl, rfl⟩, by omega, by omega, by omega, hB1⟩
      case round =>
        clear hown hB1
        obtain ⟨k, D, F, n, g, cap, hk, rfl, rfl, rfl, rfl, hown, HI, hD, hFk, hnk, hnx⟩ := hrel
        by_cases hkl : k < lm.length
        · obtain ⟨c, hc⟩ : ∃ c, lm[k]? = some c := ⟨_, List.getElem?_eq_getElem hkl⟩
          have kb := CM.out k c hc
          have HC : Hid (lm[k]? = some c) := hc
          clear hc
          by_cases h46 : (c.toNat : Int) = 46
          · have h46n : c.toNat = 46 := by omega
            by_cases hD0 : D = 0
            · subst hD0
              have RI : Hid (1 = dots (lm.take (k + 1)) ∧ F = fracN (lm.take (k + 1)) ∧ n = (digs (lm.take (k + 1))).length ∧ okB (lm.take (k + 1)) = true) := st_dot HI.out HC.out h46n
              have hown' : wr.ownsRow w.heap.size 5 1 (.slice (some ⟨g, 0, none⟩) n cap) n ((digs (lm.take (k + 1))).map bv) := by rw [dg_dot HC.out h46n]; exact hown
              clear hown HI HC h46n
              go_wp2
              go_roundw
              case rel => exact ⟨k + 1, 1, F, n, g, cap, by omega, by go_num, rfl, rfl, rfl, hown', RI, by omega, by omega, by omega, hnx⟩
              case measure => simp [intOf]; omega
            · obtain rfl : D = 1 := by omega
              have HR : Hid (Rs = failed) := hF.out (.inl (ok_bad HC.out (dot_not_D h46n) (.inr (by have := HI.out.1; omega))))
              clear hF hK hown HI HC h46n hF2
              go_wp2
              go_ret3
              exact ⟨ret_fail HR.out, hnx⟩
          · have b46 : ((c.toNat : Int) == 46) = false := by simp; omega
            by_cases hd : 48 ≤ (c.toNat : Int) ∧ (c.toNat : Int) ≤ 57
            · have hdig : isD c = true := by simp [isD]; omega
              obtain ⟨d1, d2⟩ := hd
              by_cases hD0 : D = 0
              · subst hD0
                have RI : Hid (0 = dots (lm.take (k + 1)) ∧ F = fracN (lm.take (k + 1)) ∧ n + 1 = (digs (lm.take (k + 1))).length ∧ okB (lm.take (k + 1)) = true) := st_dig0 HI.out HC.out hdig
                have ED : Hid ((digs (lm.take (k + 1))).map bv = (digs (lm.take k)).map bv ++ [.int .u8 (c.toNat : Int)]) := dg_dig HC.out hdig
                clear HI HC hdig h46
                go_wp2_with (at_builtin; refine wpList_append_own _ rfl _ _ 25 rfl w.heap.size 5 i0 (.int .u8 0) 1 1 Tryd.underlying25 hi hz0 hz1 hz2 rfl (by decide) _ _ _ rfl (hown.alloc _) ⟨wr.heap.size, 0, none⟩ 1 1 [.int .u8 (c.toNat : Int)] rfl rfl (cell_one_new _ _ _) (ints_oneCell .u8 [(c.toNat : Int)]) (by unfold maxLen; omega) (by omega) (by have := hnx.size; simp; omega) ?_; intro v' w2 hown2 hgrow hnil; obtain ⟨g', cap', hv'⟩ := own_form hown2 (fun e => by have := hnil.1 e; simp at this); subst hv')
                have R1 := own_next hown hown2 hgrow hnx ED.out
                clear hown hown2 hgrow hnil
                go_wp2
                go_roundw
                case rel => exact ⟨k + 1, 0, F, n + 1, g', cap', by omega, by go_num, rfl, rfl, rfl, R1.1, RI, by omega, by omega, by omega, R1.2⟩
                case measure => simp [intOf]; omega
              · obtain rfl : D = 1 := by omega
                have RI : Hid (1 = dots (lm.take (k + 1)) ∧ F + 1 = fracN (lm.take (k + 1)) ∧ n + 1 = (digs (lm.take (k + 1))).length ∧ okB (lm.take (k + 1)) = true) := st_dig1 HI.out HC.out hdig
                have ED : Hid ((digs (lm.take (k + 1))).map bv = (digs (lm.take k)).map bv ++ [.int .u8 (c.toNat : Int)]) := dg_dig HC.out hdig
                clear HI HC hdig h46
                go_wp2_with (at_builtin; refine wpList_append_own _ rfl _ _ 25 rfl w.heap.size 5 i0 (.int .u8 0) 1 1 Tryd.underlying25 hi hz0 hz1 hz2 rfl (by decide) _ _ _ rfl (hown.alloc _) ⟨wr.heap.size, 0, none⟩ 1 1 [.int .u8 (c.toNat : Int)] rfl rfl (cell_one_new _ _ _) (ints_oneCell .u8 [(c.toNat : Int)]) (by unfold maxLen; omega) (by omega) (by have := hnx.size; simp; omega) ?_; intro v' w2 hown2 hgrow hnil; obtain ⟨g', cap', hv'⟩ := own_form hown2 (fun e => by have := hnil.1 e; simp at this); subst hv')
                have R1 := own_next hown hown2 hgrow hnx ED.out
                clear hown hown2 hgrow hnil
                go_wp2
                go_roundw
                case rel => exact ⟨k + 1, 1, F + 1, n + 1, g', cap', by omega, by go_num, by go_num, by go_num, rfl, R1.1, RI, by omega, by omega, by omega, R1.2⟩
                case measure => simp [intOf]; omega
            · have hdig : isD c = false := by simp [isD]; omega
              have HR : Hid (Rs = failed) := hF.out (.inl (ok_bad HC.out hdig (.inl (by omega))))
              clear hF hK hown HI HC hdig hF2
              rcases (show (c.toNat : Int) < 48 ∨ 57 < (c.toNat : Int) by omega) with hb | hb
              · clear hd h46
                go_wp2
                go_ret3
                exact ⟨ret_fail HR.out, hnx⟩
              · clear hd h46
                go_wp2
                go_ret3
                exact ⟨ret_fail HR.out, hnx⟩
        · obtain rfl : k = lm.length := by omega
          rw [List.take_length] at hown HI
          have hconv := conv_own hown
          clear hkl hk
          by_cases hn0 : n = 0
          · have HR : Hid (Rs = failed) := hF.out (.inr (by have := HI.out.2.2.1; exact List.eq_nil_of_length_eq_zero (by omega)))
            clear hF hK hown HI hF2 hconv
            subst hn0
            go_wp2
            go_ret3
            exact ⟨ret_fail HR.out, hnx⟩
          have hnz : ((n : Int) == 0) = false := by simp; omega
          have hok := HI.out.2.2.2
          have hne : ¬ digs lm = [] := fun e => by have := HI.out.2.2.1; rw [e] at this; simp at this; omega
          have HFr : Hid (F = fracN lm) := HI.out.2.1
          have HK : Hid (¬ e = [] → e.all isD = true → Rs = (digs lm, ((min (magF 0 e) bnd : Nat) : Int) - (F : Int), true)) := by intro h1 h2; have h := hK.out hok hne h1 h2; rw [← HFr.out] at h; exact h
          clear hF hK hown HI HFr hok hne hn0
          by_cases he0 : e.length = 0
          · have HR : Hid (Rs = failed) := hF2.out (.inl (List.eq_nil_of_length_eq_zero he0))
            clear HK hF2 hconv
            go_wp2
            go_ret3
            exact ⟨ret_fail HR.out, hnx⟩
          have hez : ((e.length : Int) == 0) = false := by simp; exact fun h => he0 (by rw [h]; rfl)
          have hen : ¬ e = [] := fun h => he0 (by rw [h]; rfl)
          clear he0
          go_wp2
          go_loop [16, 17] (fun m i => ∃ (k M : Nat), k ≤ e.length ∧ i = .int .i64 k ∧ m = .int .i64 M ∧ Hid (M = magF 0 (e.take k) ∧ (e.take k).all isD = true) ∧ M ≤ 10486000) (fun _ i => e.length - (intOf i).toNat)
          case atStart => exact ⟨0, 0, Nat.zero_le _, rfl, rfl, ⟨rfl, rfl⟩, by omega⟩
          case round =>
            obtain ⟨k, M, hk, rfl, rfl, HI, hM⟩ := hrel
            by_cases hkl : k < e.length
            · obtain ⟨c, hc⟩ : ∃ c, e[k]? = some c := ⟨_, List.getElem?_eq_getElem hkl⟩
              have kb := CE.out k c hc
              have HC : Hid (e[k]? = some c) := hc
              clear hc
              by_cases hd : 48 ≤ (c.toNat : Int) ∧ (c.toNat : Int) ≤ 57
              · have hdig : isD c = true := by simp [isD]; omega
                obtain ⟨d1, d2⟩ := hd
                by_cases hb : M ≤ 1048576
                · have RI : Hid (M * 10 + (c.toNat - 48) = magF 0 (e.take (k + 1)) ∧ (e.take (k + 1)).all isD = true) := mg_add HI.out HC.out hdig hb
                  clear HI HC hdig HK hF2 hconv
                  go_wp2
                  go_round
                  case rel => exact ⟨k + 1, M * 10 + (c.toNat - 48), by omega, by go_num, by go_num, RI, by omega⟩
                  case measure => simp [intOf]; omega
                · have RI : Hid (M = magF 0 (e.take (k + 1)) ∧ (e.take (k + 1)).all isD = true) := mg_keep HI.out HC.out hdig hb
                  clear HI HC hdig HK hF2 hconv
                  go_wp2
                  go_round
                  case rel => exact ⟨k + 1, M, by omega, by go_num, rfl, RI, hM⟩
                  case measure => simp [intOf]; omega
              · have hdig : isD c = false := by simp [isD]; omega
                have HR : Hid (Rs = failed) := hF2.out (.inr (all_bad HC.out hdig))
                clear HI HC hdig HK hF2 hconv
                rcases (show (c.toNat : Int) < 48 ∨ 57 < (c.toNat : Int) by omega) with hb | hb
                · clear hd
                  go_wp2
                  go_ret3
                  exact ⟨ret_fail HR.out, hnx⟩
                · clear hd
                  go_wp2
                  go_ret3
                  exact ⟨ret_fail HR.out, hnx⟩
            · obtain rfl : k = e.length := by omega
              rw [List.take_length] at HI
              have hR := HK.out hen HI.out.2
              rw [← HI.out.1] at hR
              clear HK hF2 HI hkl hk hen
              by_cases hb : M ≤ 1048576
              · have em : ((min M bnd : Nat) : Int) = M := by have : bnd = 1048576 := rfl; omega
                rw [em] at hR
                have HR : Hid (Rs = _) := hR
                clear hR em
                go_wp2
                go_ret3
                exact ⟨ret_of HR.out, hnx⟩
              · have em : ((min M bnd : Nat) : Int) = 1048576 := by have : bnd = 1048576 := rfl; omega
                rw [em] at hR
                have HR : Hid (Rs = _) := hR
                clear hR em
                go_wp2
                go_ret3
                exact ⟨ret_of HR.out, hnx⟩

set_option maxRecDepth 100000 in
set_option maxHeartbeats 4000000 in
theorem mo_69_bare (S MS T EV : ByteArray) (lm e : Bytes) (x : Int) (Rs : Res) (w : World)
    (hS : S.size ≤ 1048576) (hl : MS.size = lm.length) (hl2 : lm.length ≤ 1048576) (hlt : lm.length < S.size) (iS : ∀ h, ((S[lm.length]'h).toNat : Int) = 69) (x0 : S.extract 0 lm.length = MS) (x1 : S.extract (lm.length + 1) S.size = T) (cS : ∀ (k : Nat) (c : UInt8), lm[k]? = some c → (∀ h, ((S[k]'h).toNat : Int) = (c.toNat : Int)) ∧ ((c.toNat : Int) == 101) = false ∧ ((c.toNat : Int) == 69) = false) (cM : ∀ (k : Nat) (c : UInt8), lm[k]? = some c → (∀ h, ((MS[k]'h).toNat : Int) = (c.toNat : Int))) (hF : Hid (okB lm = false ∨ digs lm = [] → Rs = failed)) (mT : T.size ≤ 1048576) (sT : 0 < T.size) (iT : ∀ h, ((T[0]'h).toNat : Int) = x) (y1 : (x == 43) = false) (y2 : (x == 45) = false) (hE : T.size = e.length) (hE2 : e.length ≤ 1048576) (cE : ∀ (k : Nat) (c : UInt8), e[k]? = some c → (∀ h, ((T[k]'h).toNat : Int) = (c.toNat : Int))) (hF2 : Hid (e = [] ∨ e.all isD = false → Rs = failed)) (hK : Hid (okB lm = true → ¬ digs lm = [] → ¬ e = [] → e.all isD = true → Rs = (digs lm, ((min (magF 0 e) bnd : Nat) : Int) - (fracN lm : Int), true))) :
    Calls Tryd.prog 5 #[.string S] w fun e w' => e = .returned (.tuple #[.string (bs Rs.1), .int .i64 Rs.2.1, .bool Rs.2.2]) ∧ Below w.heap.size w w' := by
  obtain ⟨i0, hi, hz0, hz1, hz2⟩ := info_parts info5
  have CS : Hid (∀ (k : Nat) (c : UInt8), lm[k]? = some c → (∀ h, ((S[k]'h).toNat : Int) = (c.toNat : Int)) ∧ ((c.toNat : Int) == 101) = false ∧ ((c.toNat : Int) == 69) = false) := cS
  clear cS
  have CM : Hid (∀ (k : Nat) (c : UInt8), lm[k]? = some c → (∀ h, ((MS[k]'h).toNat : Int) = (c.toNat : Int))) := cM
  clear cM
  have CE : Hid (∀ (k : Nat) (c : UInt8), e[k]? = some c → (∀ h, ((T[k]'h).toNat : Int) = (c.toNat : Int))) := cE
  clear cE
  go_enter Tryd.func5, Tryd.ntmps5
  go_wp2
  go_loop [5, 6] (fun m i => m = .int .i64 S.size ∧ ∃ k : Nat, k ≤ lm.length ∧ i = .int .i64 k) (fun _ i => lm.length - (intOf i).toNat)
  case atStart => exact ⟨rfl, 0, Nat.zero_le _, rfl⟩
  case round =>
    obtain ⟨rfl, k, hk, rfl⟩ := hrel
    by_cases hkl : k < lm.length
    · obtain ⟨c, hc⟩ : ∃ c, lm[k]? = some c := ⟨_, List.getElem?_eq_getElem hkl⟩
      obtain ⟨kb, e1, e2⟩ := CS.out k c hc
      clear hc
      go_wp2
      go_round
      case rel => exact ⟨rfl, k + 1, by omega, by go_num⟩
      case measure => simp [intOf]; omega
    · obtain rfl : k = lm.length := by omega
      clear hkl hk
      go_wp2_with (at_make; refine wpList_make_own _ rfl _ _ 25 rfl w.heap.size 5 i0 (.int .u8 0) 1 Tryd.underlying25 hi hz0 hz1 _ _ _ lm.length rfl rfl (by first | rfl | simp) (by rw [hz2]; omega) (by unfold maxLen; omega) (Nat.le_refl _) ?_; intro w1 hown hg1)
      have hB1 : Below w.heap.size w w1 := (Below.refl _ _).grown hg1 (Nat.le_refl _) (fun j hj => by cases hj)
      clear hg1
      go_loopw [8, 9, 10, 11] (fun v d f i wr => ∃ (k D F n g cap : Nat), k ≤ lm.length ∧ i = .int .i64 k ∧ d = .int .i64 D ∧ f = .int .i64 F ∧ v = .slice (some ⟨g, 0, none⟩) n cap ∧ wr.ownsRow w.heap.size 5 1 (.slice (some ⟨g, 0, none⟩) n cap) n ((digs (lm.take k)).map bv) ∧
          Hid (D = dots (lm.take k) ∧ F = fracN (lm.take k) ∧ n = (digs (lm.take k)).length ∧ okB (lm.take k) = true) ∧ D ≤ 1 ∧ F ≤ k ∧ n ≤ k ∧ Below w.heap.size w wr) (fun _ _ _ i _ => lm.length - (intOf i).toNat)
      case atStart => exact ⟨0, 0, 0, 0, w.heap.size, lm.length, Nat.zero_le _, rfl, rfl, rfl, rfl, hown, ⟨rfl, rfl, rfl, rfl⟩, by omega, by omega, by omega, hB1⟩
      case round =>
        clear hown hB1
        obtain ⟨k, D, F, n, g, cap, hk, rfl, rfl, rfl, rfl, hown, HI, hD, hFk, hnk, hnx⟩ := hrel
        by_cases hkl : k < lm.length
        · obtain ⟨c, hc⟩ : ∃ c, lm[k]? = some c := ⟨_, List.getElem?_eq_getElem hkl⟩
          have kb := CM.out k c hc
          have HC : Hid (lm[k]? = some c) := hc
          clear hc
          by_cases h46 : (c.toNat : Int) = 46
          · have h46n : c.toNat = 46 := by omega
            by_cases hD0 : D = 0
            · subst hD0
              have RI : Hid (1 = dots (lm.take (k + 1)) ∧ F = fracN (lm.take (k + 1)) ∧ n = (digs (lm.take (k + 1))).length ∧ okB (lm.take (k + 1)) = true) := st_dot HI.out HC.out h46n
              have hown' : wr.ownsRow w.heap.size 5 1 (.slice (some ⟨g, 0, none⟩) n cap) n ((digs (lm.take (k + 1))).map bv) := by rw [dg_dot HC.out h46n]; exact hown
              clear hown HI HC h46n
              go_wp2
              go_roundw
              case rel => exact ⟨k + 1, 1, F, n, g, cap, by omega, by go_num, rfl, rfl, rfl, hown', RI, by omega, by omega, by omega, hnx⟩
              case measure => simp [intOf]; omega
            · obtain rfl : D = 1 := by omega
              have HR : Hid (Rs = failed) := hF.out (.inl (ok_bad HC.out (dot_not_D h46n) (.inr (by have := HI.out.1; omega))))
              clear hF hK hown HI HC h46n hF2
              go_wp2
              go_ret3
              exact ⟨ret_fail HR.out, hnx⟩
          · have b46 : ((c.toNat : Int) == 46) = false := by simp; omega
            by_cases hd : 48 ≤ (c.toNat : Int) ∧ (c.toNat : Int) ≤ 57
            · have hdig : isD c = true := by simp [isD]; omega
              obtain ⟨d1, d2⟩ := hd
              by_cases hD0 : D = 0
              · subst hD0
                have RI : Hid (0 = dots (lm.take (k + 1)) ∧ F = fracN (lm.take (k + 1)) ∧ n + 1 = (digs (lm.take (k + 1))).length ∧ okB (lm.take (k + 1)) = true) := st_dig0 HI.out HC.out hdig
                have ED : Hid ((digs (lm.take (k + 1))).map bv = (digs (lm.take k)).map bv ++ [.int .u8 (c.toNat : Int)]) := dg_dig HC.out hdig
                clear HI HC hdig h46
                go_wp2_with (at_builtin; refine wpList_append_own _ rfl _ _ 25 rfl w.heap.size 5 i0 (.int .u8 0) 1 1 Tryd.underlying25 hi hz0 hz1 hz2 rfl (by decide) _ _ _ rfl (hown.alloc _) ⟨wr.heap.size, 0, none⟩ 1 1 [.int .u8 (c.toNat : Int)] rfl rfl (cell_one_new _ _ _) (ints_oneCell .u8 [(c.toNat : Int)]) (by unfold maxLen; omega) (by omega) (by have := hnx.size; simp; omega) ?_; intro v' w2 hown2 hgrow hnil; obtain ⟨g', cap', hv'⟩ := own_form hown2 (fun e => by have := hnil.1 e; simp at this); subst hv')
                have R1 := own_next hown hown2 hgrow hnx ED.out
                clear hown hown2 hgrow hnil
                go_wp2
                go_roundw
                case rel => exact ⟨k + 1, 0, F, n + 1, g', cap', by omega, by go_num, rfl, rfl, rfl, R1.1, RI, by omega, by omega, by omega, R1.2⟩
                case measure => simp [intOf]; omega
              · obtain rfl : D = 1 := by omega
                have RI : Hid (1 = dots (lm.take (k + 1)) ∧ F + 1 = fracN (lm.take (k + 1)) ∧ n + 1 = (digs (lm.take (k + 1))).length ∧ okB (lm.take (k + 1)) = true) := st_dig1 HI.out HC.out hdig
                have ED : Hid ((digs (lm.take (k + 1))).map bv = (digs (lm.take k)).map bv ++ [.int .u8 (c.toNat : Int)]) := dg_dig HC.out hdig
                clear HI HC hdig h46
                go_wp2_with (at_builtin; refine wpList_append_own _ rfl _ _ 25 rfl w.heap.size 5 i0 (.int .u8 0) 1 1 Tryd.underlying25 hi hz0 hz1 hz2 rfl (by decide) _ _ _ rfl (hown.alloc _) ⟨wr.heap.size, 0, none⟩ 1 1 [.int .u8 (c.toNat : Int)] rfl rfl (cell_one_new _ _ _) (ints_oneCell .u8 [(c.toNat : Int)]) (by unfold maxLen; omega) (by omega) (by have := hnx.size; simp; omega) ?_; intro v' w2 hown2 hgrow hnil; obtain ⟨g', cap', hv'⟩ := own_form hown2 (fun e => by have := hnil.1 e; simp at this); subst hv')
                have R1 := own_next hown hown2 hgrow hnx ED.out
                clear hown hown2 hgrow hnil
                go_wp2
                go_roundw
                case rel => exact ⟨k + 1, 1, F + 1, n + 1, g', cap', by omega, by go_num, by go_num, by go_num, rfl, R1.1, RI, by omega, by omega, by omega, R1.2⟩
                case measure => simp [intOf]; omega
            · have hdig : isD c = false := by simp [isD]; omega
              have HR : Hid (Rs = failed) := hF.out (.inl (ok_bad HC.out hdig (.inl (by omega))))
              clear hF hK hown HI HC hdig hF2
              rcases (show (c.toNat : Int) < 48 ∨ 57 < (c.toNat : Int) by omega) with hb | hb
              · clear hd h46
                go_wp2
                go_ret3
                exact ⟨ret_fail HR.out, hnx⟩
              · clear hd h46
                go_wp2
                go_ret3
                exact ⟨ret_fail HR.out, hnx⟩
        · obtain rfl : k = lm.length := by omega
          rw [List.take_length] at hown HI
          have hconv := conv_own hown
          clear hkl hk
          by_cases hn0 : n = 0
          · have HR : Hid (Rs = failed) := hF.out (.inr (by have := HI.out.2.2.1; exact List.eq_nil_of_length_eq_zero (by omega)))
            clear hF hK hown HI hF2 hconv
            subst hn0
            go_wp2
            go_ret3
            exact ⟨ret_fail HR.out, hnx⟩
          have hnz : ((n : Int) == 0) = false := by simp; omega
          have hok := HI.out.2.2.2
          have hne : ¬ digs lm = [] := fun e => by have := HI.out.2.2.1; rw [e] at this; simp at this; omega
          have HFr : Hid (F = fracN lm) := HI.out.2.1
          have HK : Hid (¬ e = [] → e.all isD = true → Rs = (digs lm, ((min (magF 0 e) bnd : Nat) : Int) - (F : Int), true)) := by intro h1 h2; have h := hK.out hok hne h1 h2; rw [← HFr.out] at h; exact h
          clear hF hK hown HI HFr hok hne hn0
          by_cases he0 : e.length = 0
          · have HR : Hid (Rs = failed) := hF2.out (.inl (List.eq_nil_of_length_eq_zero he0))
            clear HK hF2 hconv
            go_wp2
            go_ret3
            exact ⟨ret_fail HR.out, hnx⟩
          have hez : ((e.length : Int) == 0) = false := by simp; exact fun h => he0 (by rw [h]; rfl)
          have hen : ¬ e = [] := fun h => he0 (by rw [h]; rfl)
          clear he0
          go_wp2
          go_loop [16, 17] (fun m i => ∃ (k M : Nat), k ≤ e.length ∧ i = .int .i64 k ∧ m = .int .i64 M ∧ Hid (M = magF 0 (e.take k) ∧ (e.take k).all isD = true) ∧ M ≤ 10486000) (fun _ i => e.length - (intOf i).toNat)
          case atStart => exact ⟨0, 0, Nat.zero_le _, rfl, rfl, ⟨rfl, rfl⟩, by omega⟩
          case round =>
            obtain ⟨k, M, hk, rfl, rfl, HI, hM⟩ := hrel
            by_cases hkl : k < e.length
            · obtain ⟨c, hc⟩ : ∃ c, e[k]? = some c := ⟨_, List.getElem?_eq_getElem hkl⟩
              have kb := CE.out k c hc
              have HC : Hid (e[k]? = some c) := hc
              clear hc
              by_cases hd : 48 ≤ (c.toNat : Int) ∧ (c.toNat : Int) ≤ 57
              · have hdig : isD c = true := by simp [isD]; omega
                obtain ⟨d1, d2⟩ := hd
                by_cases hb : M ≤ 1048576
                · have RI : Hid (M * 10 + (c.toNat - 48) = magF 0 (e.take (k + 1)) ∧ (e.take (k + 1)).all isD = true) := mg_add HI.out HC.out hdig hb
                  clear HI HC hdig HK hF2 hconv
                  go_wp2
                  go_round
                  case rel => exact ⟨k + 1, M * 10 + (c.toNat - 48), by omega, by go_num, by go_num, RI, by omega⟩
                  case measure => simp [intOf]; omega
                · have RI : Hid (M = magF 0 (e.take (k + 1)) ∧ (e.take (k + 1)).all isD = true) := mg_keep HI.out HC.out hdig hb
                  clear HI HC hdig HK hF2 hconv
                  go_wp2
                  go_round
                  case rel => exact ⟨k + 1, M, by omega, by go_num, rfl, RI, hM⟩
                  case measure => simp [intOf]; omega
              · have hdig : isD c = false := by simp [isD]; omega
                have HR : Hid (Rs = failed) := hF2.out (.inr (all_bad HC.out hdig))
                clear HI HC hdig HK hF2 hconv
                rcases (show (c.toNat : Int) < 48 ∨ 57 < (c.toNat : Int) by omega) with hb | hb
                · clear hd
                  go_wp2
                  go_ret3
                  exact ⟨ret_fail HR.out, hnx⟩
                · clear hd
                  go_wp2
                  go_ret3
                  exact ⟨ret_fail HR.out, hnx⟩
            · obtain rfl : k = e.length := by omega
              rw [List.take_length] at HI
              have hR := HK.out hen HI.out.2
              rw [← HI.out.1] at hR
              clear HK hF2 HI hkl hk hen
              by_cases hb : M ≤ 1048576
              · have em : ((min M bnd : Nat) : Int) = M := by have : bnd = 1048576 := rfl; omega
                rw [em] at hR
                have HR : Hid (Rs = _) := hR
                clear hR em
                go_wp2
                go_ret3
                exact ⟨ret_of HR.out, hnx⟩
              · have em : ((min M bnd : Nat) : Int) = 1048576 := by have : bnd = 1048576 := rfl; omega
                rw [em] at hR
                have HR : Hid (Rs = _) := hR
                clear hR em
                go_wp2
                go_ret3
                exact ⟨ret_of HR.out, hnx⟩

end Go.Proofs.Qxb6623503aDoor
