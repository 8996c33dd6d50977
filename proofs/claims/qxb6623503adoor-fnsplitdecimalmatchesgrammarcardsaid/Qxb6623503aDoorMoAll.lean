/-
  zzModelSplitDecimal (5): every string of at most 2^20 bytes.
-/
import Derived.Test.Qxb6623503aDoorMoA
import Derived.Test.Qxb6623503aDoorMoB
import Derived.Test.Qxb6623503aDoorSplitAll
namespace Go.Proofs.Qxb6623503aDoor
open Go.RowKit
set_option linter.unusedVariables false

theorem mant_aft (l : Bytes) : l = mant l ++ aft l := (List.takeWhile_append_dropWhile (p := fun c => !isE c) (l := l)).symm
theorem mant_notE (l : Bytes) : ∀ c ∈ mant l, isE c = false := fun c hc => by
  have := List.all_eq_true.1 (List.all_takeWhile (p := fun c => !isE c) (l := l)) c hc
  simpa using this
theorem aft_head (l : Bytes) {c : UInt8} {t : Bytes} (h : aft l = c :: t) : isE c = true := by
  unfold aft at h
  have := List.head?_dropWhile_not (fun c => !isE c) l
  rw [h] at this
  simpa using this

theorem at_mant (l : Bytes) (k : Nat) (c : UInt8) (h : (mant l)[k]? = some c) : l[k]? = some c := by
  have hk : k < (mant l).length := (List.getElem?_eq_some_iff.1 h).1
  have h2 : (mant l ++ aft l)[k]? = some c := by rw [List.getElem?_append_left hk]; exact h
  rw [← mant_aft l] at h2
  exact h2
theorem at_aft (l : Bytes) {c : UInt8} {t : Bytes} (h : aft l = c :: t) : l[(mant l).length]? = some c := by
  have h2 : (mant l ++ aft l)[(mant l).length]? = some c := by
    rw [List.getElem?_append_right (Nat.le_refl _), Nat.sub_self, h]
    rfl
  rw [← mant_aft l] at h2
  exact h2
theorem len_aft (l : Bytes) {c : UInt8} {t : Bytes} (h : aft l = c :: t) : l.length = (mant l).length + (t.length + 1) := by
  have := congrArg List.length (mant_aft l)
  rw [List.length_append, h, List.length_cons] at this
  exact this
theorem cutA (l : Bytes) : (bs l).extract 0 (mant l).length = bs (mant l) := by
  rw [bs_take]
  have h : (mant l ++ aft l).take (mant l).length = mant l := List.take_left
  rw [← mant_aft l] at h
  rw [h]
theorem cutB (l : Bytes) {c : UInt8} {t : Bytes} (h : aft l = c :: t) : (bs l).extract ((mant l).length + 1) (bs l).size = bs t := by
  rw [bs_size, bs_drop]
  have h1 : (mant l ++ aft l).drop ((mant l).length + 1) = t := by
    rw [← List.drop_drop, List.drop_left, h]
    rfl
  rw [← mant_aft l] at h1
  rw [h1]
theorem bytes_of (l : Bytes) (k : Nat) (c : UInt8) (h : l[k]? = some c) : ∀ hh, (((bs l)[k]'hh).toNat : Int) = (c.toNat : Int) := fun hh => bs_get l k hh c h

theorem mr_fail {l : Bytes} (h : okB (mant l) = false ∨ digs (mant l) = []) : modelRes l = failed := if_pos h
theorem mr_nil {l : Bytes} (h1 : okB (mant l) = true) (h2 : ¬ digs (mant l) = []) (ha : aft l = []) : modelRes l = (digs (mant l), -(fracN (mant l) : Int), true) := by
  unfold modelRes
  rw [if_neg (fun h => h.elim (fun h => by rw [h1] at h; cases h) h2), ha]
  simp
theorem mr_e {l : Bytes} (h1 : okB (mant l) = true) (h2 : ¬ digs (mant l) = []) {c : UInt8} {t : Bytes} (ha : aft l = c :: t) : modelRes l = expoM (digs (mant l)) (fracN (mant l)) t := by
  unfold modelRes
  rw [if_neg (fun h => h.elim (fun h => by rw [h1] at h; cases h) h2), ha]
theorem mr_e_fail {l : Bytes} {c : UInt8} {t e : Bytes} {b : Bool} (ha : aft l = c :: t) (hu : unsigned t = e ∧ negOf t = b) (h : e = [] ∨ e.all isD = false) : modelRes l = failed := by
  by_cases h1 : okB (mant l) = false ∨ digs (mant l) = []
  · exact mr_fail h1
  · have h2 : okB (mant l) = true := by
      cases ho : okB (mant l)
      · exact absurd (.inl ho) h1
      · rfl
    rw [mr_e h2 (fun h => h1 (.inr h)) ha]
    unfold expoM
    rw [hu.1, if_pos h]
theorem mr_e_ok {l : Bytes} {c : UInt8} {t e : Bytes} {b : Bool} (ha : aft l = c :: t) (hu : unsigned t = e ∧ negOf t = b) (h1 : okB (mant l) = true) (h2 : ¬ digs (mant l) = []) (h3 : ¬ e = []) (h4 : e.all isD = true) :
    modelRes l = (digs (mant l), signed b ((min (magF 0 e) bnd : Nat) : Int) - (fracN (mant l) : Int), true) := by
  rw [mr_e h1 h2 ha]
  unfold expoM
  rw [hu.1, hu.2, if_neg (fun h => h.elim h3 (fun h => by rw [h4] at h; cases h))]

theorem model_any (l : Bytes) (w : World) (hl : l.length ≤ 1048576) :
    Calls Tryd.prog 5 #[.string (bs l)] w fun e w' => e = .returned (.tuple #[.string (bs (modelRes l).1), .int .i64 (modelRes l).2.1, .bool (modelRes l).2.2]) ∧ Below w.heap.size w w' := by
  have hS : (bs l).size ≤ 1048576 := sz_le hl
  have cS : ∀ (k : Nat) (c : UInt8), (mant l)[k]? = some c → (∀ h, (((bs l)[k]'h).toNat : Int) = (c.toNat : Int)) ∧ ((c.toNat : Int) == 101) = false ∧ ((c.toNat : Int) == 69) = false := fun k c h => by
    have hn := notE_beq (mant_notE l c (List.mem_of_getElem? h))
    exact ⟨bytes_of l k c (at_mant l k c h), hn.1, hn.2.1⟩
  rcases nil_or (aft l) with ha | ⟨c, t, ha⟩
  · have hm : mant l = l := by have := mant_aft l; rw [ha, List.append_nil] at this; exact this.symm
    exact mo_N (bs l) (mant l) 0 _ w hS (by rw [hm]; exact bs_size l) (by rw [hm]; exact hl) cS (fun h => mr_fail h) (fun h1 h2 => mr_nil h1 h2 ha)
  · have hlen := len_aft l ha
    have hE := (isE_iff c).1 (aft_head l ha)
    have cM : ∀ (k : Nat) (c : UInt8), (mant l)[k]? = some c → (∀ h, (((bs (mant l))[k]'h).toNat : Int) = (c.toNat : Int)) := fun k c h => bytes_of _ k c h
    have hlt : (mant l).length < (bs l).size := by rw [bs_size]; omega
    have iS : ∀ h, (((bs l)[(mant l).length]'h).toNat : Int) = (c.toNat : Int) := bytes_of l _ c (at_aft l ha)
    have mT : (bs t).size ≤ 1048576 := sz_le (by omega)
    rcases hE with h1 | h1
    · rcases nil_or t with rfl | ⟨x, u, rfl⟩
      · exact mo_101_nil (bs l) (bs (mant l)) (bs []) (bs []) (mant l) [] 0 _ w hS (bs_size _) (by omega) hlt (fun h => (iS h).trans (by rw [h1]; rfl)) (cutA l) (cutB l ha) cS cM (fun h => mr_fail h) mT (bs_size _) rfl (fun h => mr_e_fail ha uns_nil h) (fun a b c d => (mr_e_ok ha uns_nil a b c d).trans (by simp [signed]))
      · by_cases hx : x.toNat = 45
        · exact mo_101_neg (bs l) (bs (mant l)) (bs (x :: u)) (bs u) (mant l) u 0 _ w hS (bs_size _) (by omega) hlt (fun h => (iS h).trans (by rw [h1]; rfl)) (cutA l) (cutB l ha) cS cM (fun h => mr_fail h) mT (sz_pos _ _) (hd_is _ _ 45 hx) (cut1 _ _) (bs_size _) (by have h := hlen; simp at h ⊢ <;> omega) (fun k c h => bytes_of _ k c h) (fun h => mr_e_fail ha (uns_neg hx) h) (fun a b c d => (mr_e_ok ha (uns_neg hx) a b c d).trans (by simp [signed]))
        · by_cases hx2 : x.toNat = 43
          · exact mo_101_pos (bs l) (bs (mant l)) (bs (x :: u)) (bs u) (mant l) u 0 _ w hS (bs_size _) (by omega) hlt (fun h => (iS h).trans (by rw [h1]; rfl)) (cutA l) (cutB l ha) cS cM (fun h => mr_fail h) mT (sz_pos _ _) (hd_is _ _ 43 hx2) (cut1 _ _) (bs_size _) (by have h := hlen; simp at h ⊢ <;> omega) (fun k c h => bytes_of _ k c h) (fun h => mr_e_fail ha (uns_pos hx2) h) (fun a b c d => (mr_e_ok ha (uns_pos hx2) a b c d).trans (by simp [signed]))
          · exact mo_101_bare (bs l) (bs (mant l)) (bs (x :: u)) (bs []) (mant l) (x :: u) x.toNat _ w hS (bs_size _) (by omega) hlt (fun h => (iS h).trans (by rw [h1]; rfl)) (cutA l) (cutB l ha) cS cM (fun h => mr_fail h) mT (sz_pos _ _) (hd_is _ _ _ rfl) (beq_no (by omega)) (beq_no (by omega)) (bs_size _) (by have h := hlen; simp at h ⊢ <;> omega) (fun k c h => bytes_of _ k c h) (fun h => mr_e_fail ha (uns_bare hx hx2) h) (fun a b c d => (mr_e_ok ha (uns_bare hx hx2) a b c d).trans (by simp [signed]))
    · rcases nil_or t with rfl | ⟨x, u, rfl⟩
      · exact mo_69_nil (bs l) (bs (mant l)) (bs []) (bs []) (mant l) [] 0 _ w hS (bs_size _) (by omega) hlt (fun h => (iS h).trans (by rw [h1]; rfl)) (cutA l) (cutB l ha) cS cM (fun h => mr_fail h) mT (bs_size _) rfl (fun h => mr_e_fail ha uns_nil h) (fun a b c d => (mr_e_ok ha uns_nil a b c d).trans (by simp [signed]))
      · by_cases hx : x.toNat = 45
        · exact mo_69_neg (bs l) (bs (mant l)) (bs (x :: u)) (bs u) (mant l) u 0 _ w hS (bs_size _) (by omega) hlt (fun h => (iS h).trans (by rw [h1]; rfl)) (cutA l) (cutB l ha) cS cM (fun h => mr_fail h) mT (sz_pos _ _) (hd_is _ _ 45 hx) (cut1 _ _) (bs_size _) (by have h := hlen; simp at h ⊢ <;> omega) (fun k c h => bytes_of _ k c h) (fun h => mr_e_fail ha (uns_neg hx) h) (fun a b c d => (mr_e_ok ha (uns_neg hx) a b c d).trans (by simp [signed]))
        · by_cases hx2 : x.toNat = 43
          · exact mo_69_pos (bs l) (bs (mant l)) (bs (x :: u)) (bs u) (mant l) u 0 _ w hS (bs_size _) (by omega) hlt (fun h => (iS h).trans (by rw [h1]; rfl)) (cutA l) (cutB l ha) cS cM (fun h => mr_fail h) mT (sz_pos _ _) (hd_is _ _ 43 hx2) (cut1 _ _) (bs_size _) (by have h := hlen; simp at h ⊢ <;> omega) (fun k c h => bytes_of _ k c h) (fun h => mr_e_fail ha (uns_pos hx2) h) (fun a b c d => (mr_e_ok ha (uns_pos hx2) a b c d).trans (by simp [signed]))
          · exact mo_69_bare (bs l) (bs (mant l)) (bs (x :: u)) (bs []) (mant l) (x :: u) x.toNat _ w hS (bs_size _) (by omega) hlt (fun h => (iS h).trans (by rw [h1]; rfl)) (cutA l) (cutB l ha) cS cM (fun h => mr_fail h) mT (sz_pos _ _) (hd_is _ _ _ rfl) (beq_no (by omega)) (beq_no (by omega)) (bs_size _) (by have h := hlen; simp at h ⊢ <;> omega) (fun k c h => bytes_of _ k c h) (fun h => mr_e_fail ha (uns_bare hx hx2) h) (fun a b c d => (mr_e_ok ha (uns_bare hx hx2) a b c d).trans (by simp [signed]))

end Go.Proofs.Qxb6623503aDoor
