/-
  splitDecimal (7), ZZsplitDecimal (6): every string of at most 2^20 bytes.
-/
import Derived.Test.Qxb6623503aDoorAsm
namespace Go.Proofs.Qxb6623503aDoor
open Go.RowKit
set_option linter.unusedVariables false

theorem not46 {c : UInt8} {t : Bytes} (h : ¬ c.toNat = 46) : frac (c :: t) = [] ∧ rest2 (c :: t) = c :: t := by simp [frac, rest2, h]
theorem is46 {c : UInt8} {t : Bytes} (h : c.toNat = 46) : frac (c :: t) = lead t ∧ rest2 (c :: t) = tail t := by simp [frac, rest2, h]
theorem notE_beq {c : UInt8} (h : isE c = false) : ((c.toNat : Int) == 101) = false ∧ ((c.toNat : Int) == 69) = false ∧ ((c.toNat : Int) != 101) = true ∧ ((c.toNat : Int) != 69) = true := by
  have h1 : ¬ (c.toNat = 101 ∨ c.toNat = 69) := fun hc => by rw [(isE_iff c).2 hc] at h; cases h
  exact ⟨beq_no (by omega), beq_no (by omega), bne_yes (by omega), bne_yes (by omega)⟩

theorem split_any (l : Bytes) (w : World) (hl : l.length ≤ 1048576) (hV : VarOk w) :
    Calls Tryd.prog 7 #[.string (bs l)] w fun e w' => e = .returned (.tuple #[.string (bs (splitRes l).1), .int .i64 (splitRes l).2.1, .bool (splitRes l).2.2]) ∧ Below w.heap.size w w' := by
  have q1 := lead_any l w (by omega)
  have lw : (lead l).length ≤ 1048576 := by have := lead_le l; omega
  have lt1 : (tail l).length ≤ 1048576 := by have := tail_le l; omega
  rw [split_tail]
  rcases nil_or (tail l) with ht | ⟨c, t, ht⟩
  · rw [ht] at q1 ⊢
    by_cases hw : lead l = []
    · rw [hw] at q1 ⊢
      exact sn_A_fail_nil (bs l) (bs []) (bs []) _ w em_list (sz_le (by decide)) em_list em_emp (sz_le (by decide)) q1 (tr_fail0 rfl rfl)
    · exact sn_A_nil (bs l) (bs (lead l)) (bs []) (lead l) _ w em_list (sz_le (by decide)) (ne_list hw) (ne_emp hw) (sz_le lw) q1 (cat_nil _)
        (show tailRes (lead l) [] [] = _ by rw [tr_nil (fun h => hw h.1)]; simp)
  · have hnd := tail_head l ht
    rw [ht] at q1 lt1 ⊢
    have lt2 : t.length + 1 ≤ 1048576 := by simpa using lt1
    by_cases h46 : c.toNat = 46
    · obtain ⟨ef, er⟩ := is46 (t := t) h46
      rw [ef, er]
      have q2 := fun W => lead_any t W (by omega)
      have lf : (lead t).length ≤ 1048576 := by have := lead_le t; omega
      have lr : (tail t).length ≤ 1048576 := by have := tail_le t; omega
      by_cases hw : lead l = []
      · rw [hw] at q1 ⊢
        by_cases hf : lead t = []
        · rw [hf] at q2 ⊢
          exact sn_B_fail (bs l) (bs []) (bs (c :: t)) (bs t) (bs []) (bs (tail t)) _ w (ne_list (by simp)) (ne_emp (by simp)) (sz_pos _ _) (sz_le (by simp; omega)) (hd_is _ _ 46 h46) (cut1 _ _) em_list em_emp (sz_le (by decide)) em_list em_emp (sz_le (by decide)) q1 q2 (tr_fail0 rfl rfl)
        · rcases nil_or (tail t) with ht2 | ⟨x, u, ht2⟩
          · rw [ht2] at q2 ⊢
            exact sn_B1_nil (bs l) (bs []) (bs (c :: t)) (bs t) (bs (lead t)) (bs []) ([] ++ lead t) _ w (ne_list (by simp)) (ne_emp (by simp)) (sz_pos _ _) (sz_le (by simp; omega)) (hd_is _ _ 46 h46) (cut1 _ _) em_list (sz_le (by decide)) em_list em_emp (sz_le (by decide)) (ne_list hf) (ne_emp hf) (sz_le lf) q1 q2 (bsa _ _)
              (show tailRes [] (lead t) [] = _ by rw [tr_nil (fun h => hf h.2), bs_size]; simp)
          · rw [ht2] at q2 lr ⊢
            have lu : u.length + 1 ≤ 1048576 := by simpa using lr
            cases hx : isE x
            · obtain ⟨n1, n2, n3, n4⟩ := notE_beq hx
              exact sn_B1_notE46 (bs l) (bs []) (bs (c :: t)) (bs t) (bs (lead t)) (bs (x :: u)) x.toNat _ w (ne_list (by simp)) (ne_emp (by simp)) (sz_pos _ _) (sz_le (by simp; omega)) (hd_is _ _ 46 h46) (cut1 _ _) (ne_list (by simp)) (ne_emp (by simp)) (sz_pos _ _) (sz_le (by simp; omega)) (hd_is _ _ _ rfl) n1 n2 n3 n4 em_list em_emp (sz_le (by decide)) (ne_list hf) (ne_emp hf) (sz_le lf) q1 q2 (tr_notE (fun h => hf h.2) hx)
            · rw [tr_E (fun h => hf h.2) hx]
              exact exp_B1 l [] c t (lead t) x u w h46 rfl hf (by decide) lt2 lf lu hx hV q1 q2
      · rcases nil_or (tail t) with ht2 | ⟨x, u, ht2⟩
        · rw [ht2] at q2 ⊢
          exact sn_B2_nil (bs l) (bs (lead l)) (bs (c :: t)) (bs t) (bs (lead t)) (bs []) (lead l ++ lead t) _ w (ne_list (by simp)) (ne_emp (by simp)) (sz_pos _ _) (sz_le (by simp; omega)) (hd_is _ _ 46 h46) (cut1 _ _) em_list (sz_le (by decide)) (ne_list hw) (ne_emp hw) (sz_le lw) (sz_le lf) q1 q2 (bsa _ _)
            (show tailRes (lead l) (lead t) [] = _ by rw [tr_nil (fun h => hw h.1), bs_size]; simp)
        · rw [ht2] at q2 lr ⊢
          have lu : u.length + 1 ≤ 1048576 := by simpa using lr
          cases hx : isE x
          · obtain ⟨n1, n2, n3, n4⟩ := notE_beq hx
            exact sn_B2_notE46 (bs l) (bs (lead l)) (bs (c :: t)) (bs t) (bs (lead t)) (bs (x :: u)) x.toNat _ w (ne_list (by simp)) (ne_emp (by simp)) (sz_pos _ _) (sz_le (by simp; omega)) (hd_is _ _ 46 h46) (cut1 _ _) (ne_list (by simp)) (ne_emp (by simp)) (sz_pos _ _) (sz_le (by simp; omega)) (hd_is _ _ _ rfl) n1 n2 n3 n4 (ne_list hw) (ne_emp hw) (sz_le lw) (sz_le lf) q1 q2 (tr_notE (fun h => hw h.1) hx)
          · rw [tr_E (fun h => hw h.1) hx]
            exact exp_B2 l (lead l) c t (lead t) x u w h46 hw lw lt2 lf lu hx hV q1 q2
    · obtain ⟨ef, er⟩ := not46 (t := t) h46
      rw [ef, er]
      have h46' : ((c.toNat : Int) == 46) = false := beq_no (by omega)
      by_cases hw : lead l = []
      · rw [hw] at q1 ⊢
        exact sn_A_fail (bs l) (bs []) (bs (c :: t)) c.toNat _ w (ne_list (by simp)) (ne_emp (by simp)) (sz_pos _ _) (sz_le (by simp; omega)) (hd_is _ _ _ rfl) h46' em_list em_emp (sz_le (by decide)) q1 (tr_fail0 rfl rfl)
      · cases hx : isE c
        · obtain ⟨n1, n2, n3, n4⟩ := notE_beq hx
          exact sn_A_notE (bs l) (bs (lead l)) (bs (c :: t)) c.toNat _ w (ne_list (by simp)) (ne_emp (by simp)) (sz_pos _ _) (sz_le (by simp; omega)) (hd_is _ _ _ rfl) h46' n1 n2 n3 n4 (ne_list hw) (ne_emp hw) (sz_le lw) q1 (tr_notE (fun h => hw h.1) hx)
        · rw [tr_E (fun h => hw h.1) hx, List.append_nil]
          exact exp_A l (lead l) c t w hw lw lt2 hx hV q1

set_option maxHeartbeats 1000000 in
theorem zz_any (L S : ByteArray) (x : Int) (b : Bool) (w : World)
    (q : Calls Tryd.prog 7 #[.string L] w fun e w' => e = .returned (.tuple #[.string S, .int .i64 x, .bool b]) ∧ Below w.heap.size w w') :
    Calls Tryd.prog 6 #[.string L] w fun e w' => e = .returned (.tuple #[.string S, .int .i64 x, .bool b]) ∧ Below w.heap.size w w' := by
  go_enter Tryd.func6, Tryd.ntmps6
  go_wp2_with fail
  refine q.mono ?_
  rintro e w1 ⟨rfl, hb⟩
  go_wp2
  go_ret3
  exact ⟨rfl, hb⟩

end Go.Proofs.Qxb6623503aDoor
