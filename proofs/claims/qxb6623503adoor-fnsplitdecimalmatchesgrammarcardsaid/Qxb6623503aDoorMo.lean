/-
  zzModelSplitDecimal (5): its ways.
-/
import Derived.Test.Qxb6623503aDoorModelP
import Derived.Test.Qxb6623503aDoorSplit
namespace Go.Proofs.Qxb6623503aDoor
open Go.RowKit
set_option linter.unusedVariables false

theorem st_dot {lm : Bytes} {k F n : Nat} {c : UInt8} (h : 0 = dots (lm.take k) ∧ F = fracN (lm.take k) ∧ n = (digs (lm.take k)).length ∧ okB (lm.take k) = true) (hc : lm[k]? = some c) (h46 : c.toNat = 46) :
    1 = dots (lm.take (k + 1)) ∧ F = fracN (lm.take (k + 1)) ∧ n = (digs (lm.take (k + 1))).length ∧ okB (lm.take (k + 1)) = true := by
  obtain ⟨h1, h2, h3, h4⟩ := h
  rw [take_snoc lm k c hc, dots_snoc, if_pos h46, digs_snoc, dot_not_D h46, fracN_snoc_dot _ _ h46 h1.symm]
  refine ⟨by omega, by rw [h2, fracN_zero _ h1.symm], by simpa using h3, ok_snoc h4 (.inr ⟨h46, h1.symm⟩)⟩
theorem dg_dot {lm : Bytes} {k : Nat} {c : UInt8} (hc : lm[k]? = some c) (h46 : c.toNat = 46) : digs (lm.take (k + 1)) = digs (lm.take k) := by
  rw [take_snoc lm k c hc, digs_snoc, dot_not_D h46]
  simp
theorem dg_dig {lm : Bytes} {k : Nat} {c : UInt8} (hc : lm[k]? = some c) (hd : isD c = true) : (digs (lm.take (k + 1))).map bv = (digs (lm.take k)).map bv ++ [.int .u8 (c.toNat : Int)] := by
  rw [take_snoc lm k c hc, digs_snoc, if_pos hd, List.map_append]
  rfl
theorem st_dig0 {lm : Bytes} {k F n : Nat} {c : UInt8} (h : 0 = dots (lm.take k) ∧ F = fracN (lm.take k) ∧ n = (digs (lm.take k)).length ∧ okB (lm.take k) = true) (hc : lm[k]? = some c) (hd : isD c = true) :
    0 = dots (lm.take (k + 1)) ∧ F = fracN (lm.take (k + 1)) ∧ n + 1 = (digs (lm.take (k + 1))).length ∧ okB (lm.take (k + 1)) = true := by
  obtain ⟨h1, h2, h3, h4⟩ := h
  rw [take_snoc lm k c hc, dots_snoc, if_neg (isD_not_dot hd), digs_snoc, if_pos hd, fracN_snoc_digit _ _ hd, if_pos h1.symm]
  refine ⟨by omega, by omega, by simp [h3], ok_snoc h4 (.inl hd)⟩
theorem st_dig1 {lm : Bytes} {k F n : Nat} {c : UInt8} (h : 1 = dots (lm.take k) ∧ F = fracN (lm.take k) ∧ n = (digs (lm.take k)).length ∧ okB (lm.take k) = true) (hc : lm[k]? = some c) (hd : isD c = true) :
    1 = dots (lm.take (k + 1)) ∧ F + 1 = fracN (lm.take (k + 1)) ∧ n + 1 = (digs (lm.take (k + 1))).length ∧ okB (lm.take (k + 1)) = true := by
  obtain ⟨h1, h2, h3, h4⟩ := h
  rw [take_snoc lm k c hc, dots_snoc, if_neg (isD_not_dot hd), digs_snoc, if_pos hd, fracN_snoc_digit _ _ hd, if_neg (by omega)]
  refine ⟨by omega, by omega, by simp [h3], ok_snoc h4 (.inl hd)⟩
theorem mg_add {e : Bytes} {k M : Nat} {c : UInt8} (h : M = magF 0 (e.take k) ∧ (e.take k).all isD = true) (hc : e[k]? = some c) (hd : isD c = true) (hb : M ≤ 1048576) :
    M * 10 + (c.toNat - 48) = magF 0 (e.take (k + 1)) ∧ (e.take (k + 1)).all isD = true := by
  refine ⟨?_, all_snoc hc hd h.2⟩
  rw [take_snoc e k c hc, magF_snoc, ← h.1, magS_digit, if_pos hb]
theorem mg_keep {e : Bytes} {k M : Nat} {c : UInt8} (h : M = magF 0 (e.take k) ∧ (e.take k).all isD = true) (hc : e[k]? = some c) (hd : isD c = true) (hb : ¬ M ≤ 1048576) :
    M = magF 0 (e.take (k + 1)) ∧ (e.take (k + 1)).all isD = true := by
  refine ⟨?_, all_snoc hc hd h.2⟩
  rw [take_snoc e k c hc, magF_snoc, ← h.1, magS_digit, if_neg hb]
theorem own_next {w wr w2 : World} {o : Obj} {g g' cap cap' n m : Nat} {xs ys : List Value} (hown : wr.ownsRow w.heap.size 5 1 (.slice (some ⟨g, 0, none⟩) n cap) n xs) (hown2 : w2.ownsRow w.heap.size 5 1 (.slice (some ⟨g', 0, none⟩) m cap') m ys)
    (hg : (wr.alloc o).grownBy w2 (Value.ownBlock (.slice (some ⟨g, 0, none⟩) n cap))) (hnx : Below w.heap.size w wr) {zs : List Value} (he : zs = ys) : w2.ownsRow w.heap.size 5 1 (.slice (some ⟨g', 0, none⟩) m cap') m zs ∧ Below w.heap.size w w2 := by
  refine ⟨by rw [he]; exact hown2, ?_⟩
  have hge : w.heap.size ≤ g := by
    obtain ⟨_, h⟩ := hown
    rcases h with ⟨h1, _⟩ | ⟨g1, cap1, cur, h1, h2, _⟩
    · cases h1
    · cases h1; exact h2
  exact (hnx.alloc hnx.size _).grown hg (by have := hnx.size; simp; omega) (fun j hj => by cases hj; exact hge)

set_option maxRecDepth 100000 in
set_option maxHeartbeats 4000000 in
theorem mo_N (S : ByteArray) (lm : Bytes) (x : Int) (Rs : Res) (w : World)
    (hS : S.size ≤ 1048576) (hl : S.size = lm.length) (hl2 : lm.length ≤ 1048576) (cS : ∀ (k : Nat) (c : UInt8), lm[k]? = some c → (∀ h, ((S[k]'h).toNat : Int) = (c.toNat : Int)) ∧ ((c.toNat : Int) == 101) = false ∧ ((c.toNat : Int) == 69) = false) (hF : Hid (okB lm = false ∨ digs lm = [] → Rs = failed)) (hK : Hid (okB lm = true → ¬ digs lm = [] → Rs = (digs lm, -(fracN lm : Int), true))) :
    Calls Tryd.prog 5 #[.string S] w fun e w' => e = .returned (.tuple #[.string (bs Rs.1), .int .i64 Rs.2.1, .bool Rs.2.2]) ∧ Below w.heap.size w w' := by
  obtain ⟨i0, hi, hz0, hz1, hz2⟩ := info_parts info5
  have CS : Hid (∀ (k : Nat) (c : UInt8), lm[k]? = some c → (∀ h, ((S[k]'h).toNat : Int) = (c.toNat : Int)) ∧ ((c.toNat : Int) == 101) = false ∧ ((c.toNat : Int) == 69) = false) := cS
  clear cS
  have x0 : S.extract 0 lm.length = S := by rw [← hl]; exact ByteArray.extract_zero_size
  go_enter Tryd.func5, Tryd.ntmps5
  go_wp2
  go_loop [5, 6] (fun m i => m = .int .i64 lm.length ∧ ∃ k : Nat, k ≤ lm.length ∧ i = .int .i64 k) (fun _ i => lm.length - (intOf i).toNat)
  case atStart => exact ⟨rfl, 0, Nat.zero_le _, rfl⟩
  case round =>
    obtain ⟨rfl, k, hk, rfl⟩ := hrel
    by_cases hkl : k < lm.length
    · obtain ⟨c, hc⟩ : ∃ c, lm[k]? = some c := ⟨_, List.getElem?_eq_getElem hkl⟩
      obtain ⟨kb, e1, e2⟩ := CS.out k c hc
      clear hc
      go_wp2
      go_round
      case rel => exact ⟨rfl, k + 1, by omega, by go_num⟩
      case measure => simp [intOf]; omega
    · obtain rfl : k = lm.length := by omega
      clear hkl hk
      go_wp2_with (at_make; refine wpList_make_own _ rfl _ _ 25 rfl w.heap.size 5 i0 (.int .u8 0) 1 Tryd.underlying25 hi hz0 hz1 _ _ _ lm.length rfl rfl (by first | rfl | simp) (by rw [hz2]; omega) (by unfold maxLen; omega) (Nat.le_refl _) ?_; intro w1 hown hg1)
      have hB1 : Below w.heap.size w w1 := (Below.refl _ _).grown hg1 (Nat.le_refl _) (fun j hj => by cases hj)
      clear hg1
      go_loopw [8, 9, 10, 11] (fun v d f i wr => ∃ (k D F n g cap : Nat), k ≤ lm.length ∧ i = .int .i64 k ∧ d = .int .i64 D ∧ f = .int .i64 F ∧ v = .slice (some ⟨g, 0, none⟩) n cap ∧ wr.ownsRow w.heap.size 5 1 (.slice (some ⟨g, 0, none⟩) n cap) n ((digs (lm.take k)).map bv) ∧
          Hid (D = dots (lm.take k) ∧ F = fracN (lm.take k) ∧ n = (digs (lm.take k)).length ∧ okB (lm.take k) = true) ∧ D ≤ 1 ∧ F ≤ k ∧ n ≤ k ∧ Below w.heap.size w wr) (fun _ _ _ i _ => lm.length - (intOf i).toNat)
      case atStart => exact ⟨0, 0, 0, 0, w.heap.size, lm.length, Nat.zero_le _, rfl, rfl, rfl, rfl, hown, ⟨rfl, rfl, rfl, rfl⟩, by omega, by omega, by omega, hB1⟩
      case round =>
        clear hown hB1
        obtain ⟨k, D, F, n, g, cap, hk, rfl, rfl, rfl, rfl, hown, HI, hD, hFk, hnk, hnx⟩ := hrel
        by_cases hkl : k < lm.length
        · obtain ⟨c, hc⟩ : ∃ c, lm[k]? = some c := ⟨_, List.getElem?_eq_getElem hkl⟩
          have kb := (CS.out k c hc).1
          have HC : Hid (lm[k]? = some c) := hc
          clear hc
          by_cases h46 : (c.toNat : Int) = 46
          · have h46n : c.toNat = 46 := by omega
            by_cases hD0 : D = 0
            · subst hD0
              have RI : Hid (1 = dots (lm.take (k + 1)) ∧ F = fracN (lm.take (k + 1)) ∧ n = (digs (lm.take (k + 1))).length ∧ okB (lm.take (k + 1)) = true) := st_dot HI.out HC.out h46n
              have hown' : wr.ownsRow w.heap.size 5 1 (.slice (some ⟨g, 0, none⟩) n cap) n ((digs (lm.take (k + 1))).map bv) := by rw [dg_dot HC.out h46n]; exact hown
              clear hown HI HC h46n
              go_wp2
              go_roundw
              case rel => exact ⟨k + 1, 1, F, n, g, cap, by omega, by go_num, rfl, rfl, rfl, hown', RI, by omega, by omega, by omega, hnx⟩
              case measure => simp [intOf]; omega
            · obtain rfl : D = 1 := by omega
              have HR : Hid (Rs = failed) := hF.out (.inl (ok_bad HC.out (dot_not_D h46n) (.inr (by have := HI.out.1; omega))))
              clear hF hK hown HI HC h46n
              go_wp2
              go_ret3
              exact ⟨ret_fail HR.out, hnx⟩
          · have b46 : ((c.toNat : Int) == 46) = false := by simp; omega
            by_cases hd : 48 ≤ (c.toNat : Int) ∧ (c.toNat : Int) ≤ 57
            · have hdig : isD c = true := by simp [isD]; omega
              obtain ⟨d1, d2⟩ := hd
              by_cases hD0 : D = 0
              · subst hD0
                have RI : Hid (0 = dots (lm.take (k + 1)) ∧ F = fracN (lm.take (k + 1)) ∧ n + 1 = (digs (lm.take (k + 1))).length ∧ okB (lm.take (k + 1)) = true) := st_dig0 HI.out HC.out hdig
                have ED : Hid ((digs (lm.take (k + 1))).map bv = (digs (lm.take k)).map bv ++ [.int .u8 (c.toNat : Int)]) := dg_dig HC.out hdig
                clear HI HC hdig h46
                go_wp2_with (at_builtin; refine wpList_append_own _ rfl _ _ 25 rfl w.heap.size 5 i0 (.int .u8 0) 1 1 Tryd.underlying25 hi hz0 hz1 hz2 rfl (by decide) _ _ _ rfl (hown.alloc _) ⟨wr.heap.size, 0, none⟩ 1 1 [.int .u8 (c.toNat : Int)] rfl rfl (cell_one_new _ _ _) (ints_oneCell .u8 [(c.toNat : Int)]) (by unfold maxLen; omega) (by omega) (by have := hnx.size; simp; omega) ?_; intro v' w2 hown2 hgrow hnil; obtain ⟨g', cap', hv'⟩ := own_form hown2 (fun e => by have := hnil.1 e; simp at this); subst hv')
                have R1 := own_next hown hown2 hgrow hnx ED.out
                clear hown hown2 hgrow hnil
                go_wp2
                go_roundw
                case rel => exact ⟨k + 1, 0, F, n + 1, g', cap', by omega, by go_num, rfl, rfl, rfl, R1.1, RI, by omega, by omega, by omega, R1.2⟩
                case measure => simp [intOf]; omega
              · obtain rfl : D = 1 := by omega
                have RI : Hid (1 = dots (lm.take (k + 1)) ∧ F + 1 = fracN (lm.take (k + 1)) ∧ n + 1 = (digs (lm.take (k + 1))).length ∧ okB (lm.take (k + 1)) = true) := st_dig1 HI.out HC.out hdig
                have ED : Hid ((digs (lm.take (k + 1))).map bv = (digs (lm.take k)).map bv ++ [.int .u8 (c.toNat : Int)]) := dg_dig HC.out hdig
                clear HI HC hdig h46
                go_wp2_with (at_builtin; refine wpList_append_own _ rfl _ _ 25 rfl w.heap.size 5 i0 (.int .u8 0) 1 1 Tryd.underlying25 hi hz0 hz1 hz2 rfl (by decide) _ _ _ rfl (hown.alloc _) ⟨wr.heap.size, 0, none⟩ 1 1 [.int .u8 (c.toNat : Int)] rfl rfl (cell_one_new _ _ _) (ints_oneCell .u8 [(c.toNat : Int)]) (by unfold maxLen; omega) (by omega) (by have := hnx.size; simp; omega) ?_; intro v' w2 hown2 hgrow hnil; obtain ⟨g', cap', hv'⟩ := own_form hown2 (fun e => by have := hnil.1 e; simp at this); subst hv')
                have R1 := own_next hown hown2 hgrow hnx ED.out
                clear hown hown2 hgrow hnil
                go_wp2
                go_roundw
                case rel => exact ⟨k + 1, 1, F + 1, n + 1, g', cap', by omega, by go_num, by go_num, by go_num, rfl, R1.1, RI, by omega, by omega, by omega, R1.2⟩
                case measure => simp [intOf]; omega
            · have hdig : isD c = false := by simp [isD]; omega
              have HR : Hid (Rs = failed) := hF.out (.inl (ok_bad HC.out hdig (.inl (by omega))))
              clear hF hK hown HI HC hdig
              rcases (show (c.toNat : Int) < 48 ∨ 57 < (c.toNat : Int) by omega) with hb | hb
              · clear hd h46
                go_wp2
                go_ret3
                exact ⟨ret_fail HR.out, hnx⟩
              · clear hd h46
                go_wp2
                go_ret3
                exact ⟨ret_fail HR.out, hnx⟩
        · obtain rfl : k = lm.length := by omega
          rw [List.take_length] at hown HI
          have hconv := conv_own hown
          clear hkl hk
          by_cases hn0 : n = 0
          · have HR : Hid (Rs = failed) := hF.out (.inr (by have := HI.out.2.2.1; exact List.eq_nil_of_length_eq_zero (by omega)))
            clear hF hK hown HI hconv
            subst hn0
            go_wp2
            go_ret3
            exact ⟨ret_fail HR.out, hnx⟩
          have hnz : ((n : Int) == 0) = false := by simp; omega
          have hok := HI.out.2.2.2
          have hne : ¬ digs lm = [] := fun e => by have := HI.out.2.2.1; rw [e] at this; simp at this; omega
          have HFr : Hid (F = fracN lm) := HI.out.2.1
          have HR : Hid (Rs = (digs lm, -(F : Int), true)) := by have h := hK.out hok hne; rw [← HFr.out] at h; exact h
          clear hF hK hown HI HFr hok hne hn0
          go_wp2
          go_ret3
          exact ⟨ret_of HR.out, hnx⟩

end Go.Proofs.Qxb6623503aDoor
