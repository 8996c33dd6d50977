/-
  splitDecimal (7), ZZsplitDecimal (6), at every string of at most 2^20 bytes.
-/
import Derived.Test.Qxb6623503aDoorWaysN
import Derived.Test.Qxb6623503aDoorWaysA
import Derived.Test.Qxb6623503aDoorWaysB1
import Derived.Test.Qxb6623503aDoorWaysB2
namespace Go.Proofs.Qxb6623503aDoor
open Go.RowKit
set_option linter.unusedVariables false

theorem ne_list {l : Bytes} (h : ¬ l = []) : ¬ (bs l).toList = [] := by rw [bsl]; exact h
theorem ne_emp {l : Bytes} (h : ¬ l = []) : (bs l).toList.isEmpty = false := by rw [bsl]; simpa using h
theorem em_list : (bs []).toList = [] := bsl []
theorem em_emp : (bs []).toList.isEmpty = true := by rw [bsl]; rfl
theorem sz_le {l : Bytes} (h : l.length ≤ 1048576) : (bs l).size ≤ 1048576 := by rw [bs_size]; exact h
theorem sz_pos (c : UInt8) (t : Bytes) : 0 < (bs (c :: t)).size := by rw [bs_size]; simp
theorem cut1 (c : UInt8) (t : Bytes) : (bs (c :: t)).extract 1 (bs (c :: t)).size = bs t := by rw [bs_size]; exact bsx c t
theorem hd_is (c : UInt8) (t : Bytes) (v : Nat) (h : c.toNat = v) : ∀ hh, (((bs (c :: t))[0]'hh).toNat : Int) = (v : Int) := fun hh => by rw [bsi, h]
theorem cat_nil (l : Bytes) : bs l ++ ⟨#[]⟩ = bs l := by
  have h := bsa l []
  rw [List.append_nil] at h
  exact h
theorem isE_iff (c : UInt8) : isE c = true ↔ c.toNat = 101 ∨ c.toNat = 69 := by simp [isE]
theorem beq_no {n v : Int} (h : ¬ n = v) : (n == v) = false := by simp; omega
theorem bne_yes {n v : Int} (h : ¬ n = v) : (n != v) = true := by simp; omega

/-- What is asked of the world: strconv.ErrRange holds some value of an interface's type. -/
def VarOk (w : World) : Prop := ∃ ev, w.cell? ⟨1, 0, none⟩ = some ev ∧ (ev = .nilIface ∨ ∃ te pe, ev = .iface te pe)

theorem cell_lt {w : World} {a : Addr} {v : Value} (h : w.cell? a = some v) : a.block < w.heap.size := by
  apply Classical.byContradiction
  intro hn
  have e : w.heap[a.block]? = none := Array.getElem?_eq_none (by omega)
  simp [World.cell?, e] at h

theorem VarOk.below {w W : World} (h : VarOk w) (hb : Below w.heap.size w W) : VarOk W := by
  obtain ⟨ev, h1, h2⟩ := h
  exact ⟨ev, (hb.cell (p := ⟨1, 0, none⟩) (cell_lt h1)).trans h1, h2⟩

/-- The exponent's digits: what the calls on them give. -/
theorem q4_of (e : Bytes) (w : World) (he : e.length ≤ 1048576) (hV : VarOk w) : ¬ (bs (lead e)).toList = [] → (bs (tail e)).toList = [] → ∀ W : World, Below w.heap.size w W → Calls Tryd.prog 9 #[.string (bs (lead e))] W fun r w' => (∃ (x : Int) (er : Value), r = .returned (.tuple #[.int .i64 x, er]) ∧ 0 ≤ x ∧ Hid (min x 1048576 = ((min (valF 0 e) bnd : Nat) : Int))) ∧ Below W.heap.size W w' := by
  intro h1 h2 W hW
  rw [bsl] at h1 h2
  have hl := lead_all h2
  obtain ⟨ev, k1, k2⟩ := hV.below hW
  rw [hl] at h1 ⊢
  exact atoi_any e W ((tail_nil_iff e).1 h2) h1 he ev k1 k2

theorem uns_nil : unsigned [] = [] ∧ negOf [] = false := ⟨rfl, rfl⟩
theorem uns_neg {x : UInt8} {u : Bytes} (h : x.toNat = 45) : unsigned (x :: u) = u ∧ negOf (x :: u) = true := by
  simp [unsigned, negOf, h]
theorem uns_pos {x : UInt8} {u : Bytes} (h : x.toNat = 43) : unsigned (x :: u) = u ∧ negOf (x :: u) = false := by
  simp [unsigned, negOf, h]
theorem uns_bare {x : UInt8} {u : Bytes} (h : ¬ x.toNat = 45) (h' : ¬ x.toNat = 43) : unsigned (x :: u) = x :: u ∧ negOf (x :: u) = false := by
  simp [unsigned, negOf, h, h']

theorem expo_fail_of {d : Bytes} {n : Nat} {t e : Bytes} {b : Bool} (hu : unsigned t = e ∧ negOf t = b) : (bs (lead e)).toList = [] ∨ ¬ (bs (tail e)).toList = [] → expo d n t = failed := by
  intro h
  rw [bsl, bsl, ← hu.1] at h
  exact ex_fail h
theorem expo_ok_of {d : Bytes} {n : Nat} {t e : Bytes} {b : Bool} (hu : unsigned t = e ∧ negOf t = b) : ¬ (bs (lead e)).toList = [] → (bs (tail e)).toList = [] → expo d n t = (d, signed b ((min (valF 0 e) bnd : Nat) : Int) - n, true) := by
  intro h1 h2
  rw [bsl, ← hu.1] at h1 h2
  have h := ex_ok (d := d) (n := n) h1 h2
  rw [hu.1, hu.2] at h
  exact h

theorem lead_le (l : Bytes) : (lead l).length ≤ l.length := by have := lead_len l; omega
theorem tail_le (l : Bytes) : (tail l).length ≤ l.length := by have := lead_len l; omega

theorem exp_A (l wh : Bytes) (c : UInt8) (t : Bytes) (w : World) (hwh : ¬ wh = []) (lw : wh.length ≤ 1048576) (lt : t.length + 1 ≤ 1048576) (hc : isE c = true) (hV : VarOk w)
    (q1 : Calls Tryd.prog 8 #[.string (bs l)] w fun e w' => (e = .returned (.tuple #[.string (bs wh), .string (bs (c :: t))])) ∧ ∃ nq, w' = w.drewN nq) :
    Calls Tryd.prog 7 #[.string (bs l)] w fun e w' => e = .returned (.tuple #[.string (bs (expo wh 0 t).1), .int .i64 (expo wh 0 t).2.1, .bool (expo wh 0 t).2.2]) ∧ Below w.heap.size w w' := by
  rcases (isE_iff c).1 hc with h1 | h1
  · rcases nil_or t with rfl | ⟨x, u, rfl⟩
    · exact sp_A_101_nil (bs l) (bs wh) (bs (c :: [])) (bs []) (bs []) (bs (lead [])) (bs (tail [])) c.toNat 0 wh _ _ w (ne_list (by simp)) (ne_emp (by simp)) (sz_pos _ _) (sz_le (by have h := lt; simp at h ⊢ <;> omega)) (hd_is _ _ 101 h1) (cut1 _ _) em_list (sz_le (by decide)) (ne_list hwh) (sz_le lw) q1 (fun W => lead_any [] W (by have h := lt; simp at h ⊢ <;> omega)) (q4_of [] w (by have h := lt; simp at h ⊢ <;> omega) hV) (expo_fail_of uns_nil) (cat_nil _) (fun a b => (expo_ok_of uns_nil a b).trans (by simp [signed]))
    · by_cases hx : x.toNat = 45
      · exact sp_A_101_neg (bs l) (bs wh) (bs (c :: x :: u)) (bs (x :: u)) (bs u) (bs (lead u)) (bs (tail u)) c.toNat x.toNat wh _ _ w (ne_list (by simp)) (ne_emp (by simp)) (sz_pos _ _) (sz_le (by have h := lt; simp at h ⊢ <;> omega)) (hd_is _ _ 101 h1) (cut1 _ _) (ne_list (by simp)) (ne_emp (by simp)) (sz_pos _ _) (sz_le (by have h := lt; simp at h ⊢ <;> omega)) (hd_is _ _ 45 hx) (cut1 _ _) (ne_list hwh) (sz_le lw) q1 (fun W => lead_any u W (by have h := lt; simp at h ⊢ <;> omega)) (q4_of u w (by have h := lt; simp at h ⊢ <;> omega) hV) (expo_fail_of (uns_neg hx)) (cat_nil _) (fun a b => (expo_ok_of (uns_neg hx) a b).trans (by simp [signed]))
      · by_cases hx2 : x.toNat = 43
        · exact sp_A_101_pos (bs l) (bs wh) (bs (c :: x :: u)) (bs (x :: u)) (bs u) (bs (lead u)) (bs (tail u)) c.toNat x.toNat wh _ _ w (ne_list (by simp)) (ne_emp (by simp)) (sz_pos _ _) (sz_le (by have h := lt; simp at h ⊢ <;> omega)) (hd_is _ _ 101 h1) (cut1 _ _) (ne_list (by simp)) (ne_emp (by simp)) (sz_pos _ _) (sz_le (by have h := lt; simp at h ⊢ <;> omega)) (hd_is _ _ 43 hx2) (cut1 _ _) (ne_list hwh) (sz_le lw) q1 (fun W => lead_any u W (by have h := lt; simp at h ⊢ <;> omega)) (q4_of u w (by have h := lt; simp at h ⊢ <;> omega) hV) (expo_fail_of (uns_pos hx2)) (cat_nil _) (fun a b => (expo_ok_of (uns_pos hx2) a b).trans (by simp [signed]))
        · exact sp_A_101_bare (bs l) (bs wh) (bs (c :: x :: u)) (bs (x :: u)) (bs []) (bs (lead (x :: u))) (bs (tail (x :: u))) c.toNat x.toNat wh _ _ w (ne_list (by simp)) (ne_emp (by simp)) (sz_pos _ _) (sz_le (by have h := lt; simp at h ⊢ <;> omega)) (hd_is _ _ 101 h1) (cut1 _ _) (ne_list (by simp)) (ne_emp (by simp)) (sz_pos _ _) (sz_le (by have h := lt; simp at h ⊢ <;> omega)) (hd_is _ _ _ rfl) (beq_no (by omega)) (beq_no (by omega)) (ne_list hwh) (sz_le lw) q1 (fun W => lead_any (x :: u) W (by have h := lt; simp at h ⊢ <;> omega)) (q4_of (x :: u) w (by have h := lt; simp at h ⊢ <;> omega) hV) (expo_fail_of (uns_bare hx hx2)) (cat_nil _) (fun a b => (expo_ok_of (uns_bare hx hx2) a b).trans (by simp [signed]))
  · rcases nil_or t with rfl | ⟨x, u, rfl⟩
    · exact sp_A_69_nil (bs l) (bs wh) (bs (c :: [])) (bs []) (bs []) (bs (lead [])) (bs (tail [])) c.toNat 0 wh _ _ w (ne_list (by simp)) (ne_emp (by simp)) (sz_pos _ _) (sz_le (by have h := lt; simp at h ⊢ <;> omega)) (hd_is _ _ 69 h1) (cut1 _ _) em_list (sz_le (by decide)) (ne_list hwh) (sz_le lw) q1 (fun W => lead_any [] W (by have h := lt; simp at h ⊢ <;> omega)) (q4_of [] w (by have h := lt; simp at h ⊢ <;> omega) hV) (expo_fail_of uns_nil) (cat_nil _) (fun a b => (expo_ok_of uns_nil a b).trans (by simp [signed]))
    · by_cases hx : x.toNat = 45
      · exact sp_A_69_neg (bs l) (bs wh) (bs (c :: x :: u)) (bs (x :: u)) (bs u) (bs (lead u)) (bs (tail u)) c.toNat x.toNat wh _ _ w (ne_list (by simp)) (ne_emp (by simp)) (sz_pos _ _) (sz_le (by have h := lt; simp at h ⊢ <;> omega)) (hd_is _ _ 69 h1) (cut1 _ _) (ne_list (by simp)) (ne_emp (by simp)) (sz_pos _ _) (sz_le (by have h := lt; simp at h ⊢ <;> omega)) (hd_is _ _ 45 hx) (cut1 _ _) (ne_list hwh) (sz_le lw) q1 (fun W => lead_any u W (by have h := lt; simp at h ⊢ <;> omega)) (q4_of u w (by have h := lt; simp at h ⊢ <;> omega) hV) (expo_fail_of (uns_neg hx)) (cat_nil _) (fun a b => (expo_ok_of (uns_neg hx) a b).trans (by simp [signed]))
      · by_cases hx2 : x.toNat = 43
        · exact sp_A_69_pos (bs l) (bs wh) (bs (c :: x :: u)) (bs (x :: u)) (bs u) (bs (lead u)) (bs (tail u)) c.toNat x.toNat wh _ _ w (ne_list (by simp)) (ne_emp (by simp)) (sz_pos _ _) (sz_le (by have h := lt; simp at h ⊢ <;> omega)) (hd_is _ _ 69 h1) (cut1 _ _) (ne_list (by simp)) (ne_emp (by simp)) (sz_pos _ _) (sz_le (by have h := lt; simp at h ⊢ <;> omega)) (hd_is _ _ 43 hx2) (cut1 _ _) (ne_list hwh) (sz_le lw) q1 (fun W => lead_any u W (by have h := lt; simp at h ⊢ <;> omega)) (q4_of u w (by have h := lt; simp at h ⊢ <;> omega) hV) (expo_fail_of (uns_pos hx2)) (cat_nil _) (fun a b => (expo_ok_of (uns_pos hx2) a b).trans (by simp [signed]))
        · exact sp_A_69_bare (bs l) (bs wh) (bs (c :: x :: u)) (bs (x :: u)) (bs []) (bs (lead (x :: u))) (bs (tail (x :: u))) c.toNat x.toNat wh _ _ w (ne_list (by simp)) (ne_emp (by simp)) (sz_pos _ _) (sz_le (by have h := lt; simp at h ⊢ <;> omega)) (hd_is _ _ 69 h1) (cut1 _ _) (ne_list (by simp)) (ne_emp (by simp)) (sz_pos _ _) (sz_le (by have h := lt; simp at h ⊢ <;> omega)) (hd_is _ _ _ rfl) (beq_no (by omega)) (beq_no (by omega)) (ne_list hwh) (sz_le lw) q1 (fun W => lead_any (x :: u) W (by have h := lt; simp at h ⊢ <;> omega)) (q4_of (x :: u) w (by have h := lt; simp at h ⊢ <;> omega) hV) (expo_fail_of (uns_bare hx hx2)) (cat_nil _) (fun a b => (expo_ok_of (uns_bare hx hx2) a b).trans (by simp [signed]))

theorem exp_B1 (l wh : Bytes) (p : UInt8) (r fr : Bytes) (c : UInt8) (t : Bytes) (w : World) (hp : p.toNat = 46) (hwh : wh = []) (hfr : ¬ fr = []) (lw : wh.length ≤ 1048576) (lr : r.length + 1 ≤ 1048576) (lf : fr.length ≤ 1048576) (lt : t.length + 1 ≤ 1048576) (hc : isE c = true) (hV : VarOk w)
    (q1 : Calls Tryd.prog 8 #[.string (bs l)] w fun e w' => (e = .returned (.tuple #[.string (bs wh), .string (bs (p :: r))])) ∧ ∃ nq, w' = w.drewN nq)
    (q2 : ∀ W : World, Calls Tryd.prog 8 #[.string (bs r)] W fun e w' => (e = .returned (.tuple #[.string (bs fr), .string (bs (c :: t))])) ∧ ∃ nq, w' = W.drewN nq) :
    Calls Tryd.prog 7 #[.string (bs l)] w fun e w' => e = .returned (.tuple #[.string (bs (expo (wh ++ fr) fr.length t).1), .int .i64 (expo (wh ++ fr) fr.length t).2.1, .bool (expo (wh ++ fr) fr.length t).2.2]) ∧ Below w.heap.size w w' := by
  subst hwh
  rcases (isE_iff c).1 hc with h1 | h1
  · rcases nil_or t with rfl | ⟨x, u, rfl⟩
    · exact sp_B1_101_nil (bs l) (bs []) (bs (c :: [])) (bs []) (bs []) (bs (lead [])) (bs (tail [])) c.toNat 0 (bs (p :: r)) (bs r) (bs fr) 46 ([] ++ fr) _ _ w (ne_list (by simp)) (ne_emp (by simp)) (sz_pos _ _) (sz_le (by have h := lt; simp at h ⊢ <;> omega)) (hd_is _ _ 101 h1) (cut1 _ _) em_list (sz_le (by decide)) (ne_list (by simp)) (ne_emp (by simp)) (sz_pos _ _) (sz_le (by simp; omega)) (hd_is _ _ 46 hp) (cut1 _ _) em_list em_emp (ne_list hfr) (ne_emp hfr) (sz_le lw) (sz_le lf) q1 q2 (fun W => lead_any [] W (by have h := lt; simp at h ⊢ <;> omega)) (q4_of [] w (by have h := lt; simp at h ⊢ <;> omega) hV) (expo_fail_of uns_nil) (bsa _ _) (fun a b => (expo_ok_of uns_nil a b).trans (by simp [signed, bs_size]))
    · by_cases hx : x.toNat = 45
      · exact sp_B1_101_neg (bs l) (bs []) (bs (c :: x :: u)) (bs (x :: u)) (bs u) (bs (lead u)) (bs (tail u)) c.toNat x.toNat (bs (p :: r)) (bs r) (bs fr) 46 ([] ++ fr) _ _ w (ne_list (by simp)) (ne_emp (by simp)) (sz_pos _ _) (sz_le (by have h := lt; simp at h ⊢ <;> omega)) (hd_is _ _ 101 h1) (cut1 _ _) (ne_list (by simp)) (ne_emp (by simp)) (sz_pos _ _) (sz_le (by have h := lt; simp at h ⊢ <;> omega)) (hd_is _ _ 45 hx) (cut1 _ _) (ne_list (by simp)) (ne_emp (by simp)) (sz_pos _ _) (sz_le (by simp; omega)) (hd_is _ _ 46 hp) (cut1 _ _) em_list em_emp (ne_list hfr) (ne_emp hfr) (sz_le lw) (sz_le lf) q1 q2 (fun W => lead_any u W (by have h := lt; simp at h ⊢ <;> omega)) (q4_of u w (by have h := lt; simp at h ⊢ <;> omega) hV) (expo_fail_of (uns_neg hx)) (bsa _ _) (fun a b => (expo_ok_of (uns_neg hx) a b).trans (by simp [signed, bs_size]))
      · by_cases hx2 : x.toNat = 43
        · exact sp_B1_101_pos (bs l) (bs []) (bs (c :: x :: u)) (bs (x :: u)) (bs u) (bs (lead u)) (bs (tail u)) c.toNat x.toNat (bs (p :: r)) (bs r) (bs fr) 46 ([] ++ fr) _ _ w (ne_list (by simp)) (ne_emp (by simp)) (sz_pos _ _) (sz_le (by have h := lt; simp at h ⊢ <;> omega)) (hd_is _ _ 101 h1) (cut1 _ _) (ne_list (by simp)) (ne_emp (by simp)) (sz_pos _ _) (sz_le (by have h := lt; simp at h ⊢ <;> omega)) (hd_is _ _ 43 hx2) (cut1 _ _) (ne_list (by simp)) (ne_emp (by simp)) (sz_pos _ _) (sz_le (by simp; omega)) (hd_is _ _ 46 hp) (cut1 _ _) em_list em_emp (ne_list hfr) (ne_emp hfr) (sz_le lw) (sz_le lf) q1 q2 (fun W => lead_any u W (by have h := lt; simp at h ⊢ <;> omega)) (q4_of u w (by have h := lt; simp at h ⊢ <;> omega) hV) (expo_fail_of (uns_pos hx2)) (bsa _ _) (fun a b => (expo_ok_of (uns_pos hx2) a b).trans (by simp [signed, bs_size]))
        · exact sp_B1_101_bare (bs l) (bs []) (bs (c :: x :: u)) (bs (x :: u)) (bs []) (bs (lead (x :: u))) (bs (tail (x :: u))) c.toNat x.toNat (bs (p :: r)) (bs r) (bs fr) 46 ([] ++ fr) _ _ w (ne_list (by simp)) (ne_emp (by simp)) (sz_pos _ _) (sz_le (by have h := lt; simp at h ⊢ <;> omega)) (hd_is _ _ 101 h1) (cut1 _ _) (ne_list (by simp)) (ne_emp (by simp)) (sz_pos _ _) (sz_le (by have h := lt; simp at h ⊢ <;> omega)) (hd_is _ _ _ rfl) (beq_no (by omega)) (beq_no (by omega)) (ne_list (by simp)) (ne_emp (by simp)) (sz_pos _ _) (sz_le (by simp; omega)) (hd_is _ _ 46 hp) (cut1 _ _) em_list em_emp (ne_list hfr) (ne_emp hfr) (sz_le lw) (sz_le lf) q1 q2 (fun W => lead_any (x :: u) W (by have h := lt; simp at h ⊢ <;> omega)) (q4_of (x :: u) w (by have h := lt; simp at h ⊢ <;> omega) hV) (expo_fail_of (uns_bare hx hx2)) (bsa _ _) (fun a b => (expo_ok_of (uns_bare hx hx2) a b).trans (by simp [signed, bs_size]))
  · rcases nil_or t with rfl | ⟨x, u, rfl⟩
    · exact sp_B1_69_nil (bs l) (bs []) (bs (c :: [])) (bs []) (bs []) (bs (lead [])) (bs (tail [])) c.toNat 0 (bs (p :: r)) (bs r) (bs fr) 46 ([] ++ fr) _ _ w (ne_list (by simp)) (ne_emp (by simp)) (sz_pos _ _) (sz_le (by have h := lt; simp at h ⊢ <;> omega)) (hd_is _ _ 69 h1) (cut1 _ _) em_list (sz_le (by decide)) (ne_list (by simp)) (ne_emp (by simp)) (sz_pos _ _) (sz_le (by simp; omega)) (hd_is _ _ 46 hp) (cut1 _ _) em_list em_emp (ne_list hfr) (ne_emp hfr) (sz_le lw) (sz_le lf) q1 q2 (fun W => lead_any [] W (by have h := lt; simp at h ⊢ <;> omega)) (q4_of [] w (by have h := lt; simp at h ⊢ <;> omega) hV) (expo_fail_of uns_nil) (bsa _ _) (fun a b => (expo_ok_of uns_nil a b).trans (by simp [signed, bs_size]))
    · by_cases hx : x.toNat = 45
      · exact sp_B1_69_neg (bs l) (bs []) (bs (c :: x :: u)) (bs (x :: u)) (bs u) (bs (lead u)) (bs (tail u)) c.toNat x.toNat (bs (p :: r)) (bs r) (bs fr) 46 ([] ++ fr) _ _ w (ne_list (by simp)) (ne_emp (by simp)) (sz_pos _ _) (sz_le (by have h := lt; simp at h ⊢ <;> omega)) (hd_is _ _ 69 h1) (cut1 _ _) (ne_list (by simp)) (ne_emp (by simp)) (sz_pos _ _) (sz_le (by have h := lt; simp at h ⊢ <;> omega)) (hd_is _ _ 45 hx) (cut1 _ _) (ne_list (by simp)) (ne_emp (by simp)) (sz_pos _ _) (sz_le (by simp; omega)) (hd_is _ _ 46 hp) (cut1 _ _) em_list em_emp (ne_list hfr) (ne_emp hfr) (sz_le lw) (sz_le lf) q1 q2 (fun W => lead_any u W (by have h := lt; simp at h ⊢ <;> omega)) (q4_of u w (by have h := lt; simp at h ⊢ <;> omega) hV) (expo_fail_of (uns_neg hx)) (bsa _ _) (fun a b => (expo_ok_of (uns_neg hx) a b).trans (by simp [signed, bs_size]))
      · by_cases hx2 : x.toNat = 43
        · exact sp_B1_69_pos (bs l) (bs []) (bs (c :: x :: u)) (bs (x :: u)) (bs u) (bs (lead u)) (bs (tail u)) c.toNat x.toNat (bs (p :: r)) (bs r) (bs fr) 46 ([] ++ fr) _ _ w (ne_list (by simp)) (ne_emp (by simp)) (sz_pos _ _) (sz_le (by have h := lt; simp at h ⊢ <;> omega)) (hd_is _ _ 69 h1) (cut1 _ _) (ne_list (by simp)) (ne_emp (by simp)) (sz_pos _ _) (sz_le (by have h := lt; simp at h ⊢ <;> omega)) (hd_is _ _ 43 hx2) (cut1 _ _) (ne_list (by simp)) (ne_emp (by simp)) (sz_pos _ _) (sz_le (by simp; omega)) (hd_is _ _ 46 hp) (cut1 _ _) em_list em_emp (ne_list hfr) (ne_emp hfr) (sz_le lw) (sz_le lf) q1 q2 (fun W => lead_any u W (by have h := lt; simp at h ⊢ <;> omega)) (q4_of u w (by have h := lt; simp at h ⊢ <;> omega) hV) (expo_fail_of (uns_pos hx2)) (bsa _ _) (fun a b => (expo_ok_of (uns_pos hx2) a b).trans (by simp [signed, bs_size]))
        · exact sp_B1_69_bare (bs l) (bs []) (bs (c :: x :: u)) (bs (x :: u)) (bs []) (bs (lead (x :: u))) (bs (tail (x :: u))) c.toNat x.toNat (bs (p :: r)) (bs r) (bs fr) 46 ([] ++ fr) _ _ w (ne_list (by simp)) (ne_emp (by simp)) (sz_pos _ _) (sz_le (by have h := lt; simp at h ⊢ <;> omega)) (hd_is _ _ 69 h1) (cut1 _ _) (ne_list (by simp)) (ne_emp (by simp)) (sz_pos _ _) (sz_le (by have h := lt; simp at h ⊢ <;> omega)) (hd_is _ _ _ rfl) (beq_no (by omega)) (beq_no (by omega)) (ne_list (by simp)) (ne_emp (by simp)) (sz_pos _ _) (sz_le (by simp; omega)) (hd_is _ _ 46 hp) (cut1 _ _) em_list em_emp (ne_list hfr) (ne_emp hfr) (sz_le lw) (sz_le lf) q1 q2 (fun W => lead_any (x :: u) W (by have h := lt; simp at h ⊢ <;> omega)) (q4_of (x :: u) w (by have h := lt; simp at h ⊢ <;> omega) hV) (expo_fail_of (uns_bare hx hx2)) (bsa _ _) (fun a b => (expo_ok_of (uns_bare hx hx2) a b).trans (by simp [signed, bs_size]))

theorem exp_B2 (l wh : Bytes) (p : UInt8) (r fr : Bytes) (c : UInt8) (t : Bytes) (w : World) (hp : p.toNat = 46) (hwh : ¬ wh = []) (lw : wh.length ≤ 1048576) (lr : r.length + 1 ≤ 1048576) (lf : fr.length ≤ 1048576) (lt : t.length + 1 ≤ 1048576) (hc : isE c = true) (hV : VarOk w)
    (q1 : Calls Tryd.prog 8 #[.string (bs l)] w fun e w' => (e = .returned (.tuple #[.string (bs wh), .string (bs (p :: r))])) ∧ ∃ nq, w' = w.drewN nq)
    (q2 : ∀ W : World, Calls Tryd.prog 8 #[.string (bs r)] W fun e w' => (e = .returned (.tuple #[.string (bs fr), .string (bs (c :: t))])) ∧ ∃ nq, w' = W.drewN nq) :
    Calls Tryd.prog 7 #[.string (bs l)] w fun e w' => e = .returned (.tuple #[.string (bs (expo (wh ++ fr) fr.length t).1), .int .i64 (expo (wh ++ fr) fr.length t).2.1, .bool (expo (wh ++ fr) fr.length t).2.2]) ∧ Below w.heap.size w w' := by
  rcases (isE_iff c).1 hc with h1 | h1
  · rcases nil_or t with rfl | ⟨x, u, rfl⟩
    · exact sp_B2_101_nil (bs l) (bs wh) (bs (c :: [])) (bs []) (bs []) (bs (lead [])) (bs (tail [])) c.toNat 0 (bs (p :: r)) (bs r) (bs fr) 46 (wh ++ fr) _ _ w (ne_list (by simp)) (ne_emp (by simp)) (sz_pos _ _) (sz_le (by have h := lt; simp at h ⊢ <;> omega)) (hd_is _ _ 101 h1) (cut1 _ _) em_list (sz_le (by decide)) (ne_list (by simp)) (ne_emp (by simp)) (sz_pos _ _) (sz_le (by simp; omega)) (hd_is _ _ 46 hp) (cut1 _ _) (ne_list hwh) (ne_emp hwh) (sz_le lw) (sz_le lf) q1 q2 (fun W => lead_any [] W (by have h := lt; simp at h ⊢ <;> omega)) (q4_of [] w (by have h := lt; simp at h ⊢ <;> omega) hV) (expo_fail_of uns_nil) (bsa _ _) (fun a b => (expo_ok_of uns_nil a b).trans (by simp [signed, bs_size]))
    · by_cases hx : x.toNat = 45
      · exact sp_B2_101_neg (bs l) (bs wh) (bs (c :: x :: u)) (bs (x :: u)) (bs u) (bs (lead u)) (bs (tail u)) c.toNat x.toNat (bs (p :: r)) (bs r) (bs fr) 46 (wh ++ fr) _ _ w (ne_list (by simp)) (ne_emp (by simp)) (sz_pos _ _) (sz_le (by have h := lt; simp at h ⊢ <;> omega)) (hd_is _ _ 101 h1) (cut1 _ _) (ne_list (by simp)) (ne_emp (by simp)) (sz_pos _ _) (sz_le (by have h := lt; simp at h ⊢ <;> omega)) (hd_is _ _ 45 hx) (cut1 _ _) (ne_list (by simp)) (ne_emp (by simp)) (sz_pos _ _) (sz_le (by simp; omega)) (hd_is _ _ 46 hp) (cut1 _ _) (ne_list hwh) (ne_emp hwh) (sz_le lw) (sz_le lf) q1 q2 (fun W => lead_any u W (by have h := lt; simp at h ⊢ <;> omega)) (q4_of u w (by have h := lt; simp at h ⊢ <;> omega) hV) (expo_fail_of (uns_neg hx)) (bsa _ _) (fun a b => (expo_ok_of (uns_neg hx) a b).trans (by simp [signed, bs_size]))
      · by_cases hx2 : x.toNat = 43
        · exact sp_B2_101_pos (bs l) (bs wh) (bs (c :: x :: u)) (bs (x :: u)) (bs u) (bs (lead u)) (bs (tail u)) c.toNat x.toNat (bs (p :: r)) (bs r) (bs fr) 46 (wh ++ fr) _ _ w (ne_list (by simp)) (ne_emp (by simp)) (sz_pos _ _) (sz_le (by have h := lt; simp at h ⊢ <;> omega)) (hd_is _ _ 101 h1) (cut1 _ _) (ne_list (by simp)) (ne_emp (by simp)) (sz_pos _ _) (sz_le (by have h := lt; simp at h ⊢ <;> omega)) (hd_is _ _ 43 hx2) (cut1 _ _) (ne_list (by simp)) (ne_emp (by simp)) (sz_pos _ _) (sz_le (by simp; omega)) (hd_is _ _ 46 hp) (cut1 _ _) (ne_list hwh) (ne_emp hwh) (sz_le lw) (sz_le lf) q1 q2 (fun W => lead_any u W (by have h := lt; simp at h ⊢ <;> omega)) (q4_of u w (by have h := lt; simp at h ⊢ <;> omega) hV) (expo_fail_of (uns_pos hx2)) (bsa _ _) (fun a b => (expo_ok_of (uns_pos hx2) a b).trans (by simp [signed, bs_size]))
        · exact sp_B2_101_bare (bs l) (bs wh) (bs (c :: x :: u)) (bs (x :: u)) (bs []) (bs (lead (x :: u))) (bs (tail (x :: u))) c.toNat x.toNat (bs (p :: r)) (bs r) (bs fr) 46 (wh ++ fr) _ _ w (ne_list (by simp)) (ne_emp (by simp)) (sz_pos _ _) (sz_le (by have h := lt; simp at h ⊢ <;> omega)) (hd_is _ _ 101 h1) (cut1 _ _) (ne_list (by simp)) (ne_emp (by simp)) (sz_pos _ _) (sz_le (by have h := lt; simp at h ⊢ <;> omega)) (hd_is _ _ _ rfl) (beq_no (by omega)) (beq_no (by omega)) (ne_list (by simp)) (ne_emp (by simp)) (sz_pos _ _) (sz_le (by simp; omega)) (hd_is _ _ 46 hp) (cut1 _ _) (ne_list hwh) (ne_emp hwh) (sz_le lw) (sz_le lf) q1 q2 (fun W => lead_any (x :: u) W (by have h := lt; simp at h ⊢ <;> omega)) (q4_of (x :: u) w (by have h := lt; simp at h ⊢ <;> omega) hV) (expo_fail_of (uns_bare hx hx2)) (bsa _ _) (fun a b => (expo_ok_of (uns_bare hx hx2) a b).trans (by simp [signed, bs_size]))
  · rcases nil_or t with rfl | ⟨x, u, rfl⟩
    · exact sp_B2_69_nil (bs l) (bs wh) (bs (c :: [])) (bs []) (bs []) (bs (lead [])) (bs (tail [])) c.toNat 0 (bs (p :: r)) (bs r) (bs fr) 46 (wh ++ fr) _ _ w (ne_list (by simp)) (ne_emp (by simp)) (sz_pos _ _) (sz_le (by have h := lt; simp at h ⊢ <;> omega)) (hd_is _ _ 69 h1) (cut1 _ _) em_list (sz_le (by decide)) (ne_list (by simp)) (ne_emp (by simp)) (sz_pos _ _) (sz_le (by simp; omega)) (hd_is _ _ 46 hp) (cut1 _ _) (ne_list hwh) (ne_emp hwh) (sz_le lw) (sz_le lf) q1 q2 (fun W => lead_any [] W (by have h := lt; simp at h ⊢ <;> omega)) (q4_of [] w (by have h := lt; simp at h ⊢ <;> omega) hV) (expo_fail_of uns_nil) (bsa _ _) (fun a b => (expo_ok_of uns_nil a b).trans (by simp [signed, bs_size]))
    · by_cases hx : x.toNat = 45
      · exact sp_B2_69_neg (bs l) (bs wh) (bs (c :: x :: u)) (bs (x :: u)) (bs u) (bs (lead u)) (bs (tail u)) c.toNat x.toNat (bs (p :: r)) (bs r) (bs fr) 46 (wh ++ fr) _ _ w (ne_list (by simp)) (ne_emp (by simp)) (sz_pos _ _) (sz_le (by have h := lt; simp at h ⊢ <;> omega)) (hd_is _ _ 69 h1) (cut1 _ _) (ne_list (by simp)) (ne_emp (by simp)) (sz_pos _ _) (sz_le (by have h := lt; simp at h ⊢ <;> omega)) (hd_is _ _ 45 hx) (cut1 _ _) (ne_list (by simp)) (ne_emp (by simp)) (sz_pos _ _) (sz_le (by simp; omega)) (hd_is _ _ 46 hp) (cut1 _ _) (ne_list hwh) (ne_emp hwh) (sz_le lw) (sz_le lf) q1 q2 (fun W => lead_any u W (by have h := lt; simp at h ⊢ <;> omega)) (q4_of u w (by have h := lt; simp at h ⊢ <;> omega) hV) (expo_fail_of (uns_neg hx)) (bsa _ _) (fun a b => (expo_ok_of (uns_neg hx) a b).trans (by simp [signed, bs_size]))
      · by_cases hx2 : x.toNat = 43
        · exact sp_B2_69_pos (bs l) (bs wh) (bs (c :: x :: u)) (bs (x :: u)) (bs u) (bs (lead u)) (bs (tail u)) c.toNat x.toNat (bs (p :: r)) (bs r) (bs fr) 46 (wh ++ fr) _ _ w (ne_list (by simp)) (ne_emp (by simp)) (sz_pos _ _) (sz_le (by have h := lt; simp at h ⊢ <;> omega)) (hd_is _ _ 69 h1) (cut1 _ _) (ne_list (by simp)) (ne_emp (by simp)) (sz_pos _ _) (sz_le (by have h := lt; simp at h ⊢ <;> omega)) (hd_is _ _ 43 hx2) (cut1 _ _) (ne_list (by simp)) (ne_emp (by simp)) (sz_pos _ _) (sz_le (by simp; omega)) (hd_is _ _ 46 hp) (cut1 _ _) (ne_list hwh) (ne_emp hwh) (sz_le lw) (sz_le lf) q1 q2 (fun W => lead_any u W (by have h := lt; simp at h ⊢ <;> omega)) (q4_of u w (by have h := lt; simp at h ⊢ <;> omega) hV) (expo_fail_of (uns_pos hx2)) (bsa _ _) (fun a b => (expo_ok_of (uns_pos hx2) a b).trans (by simp [signed, bs_size]))
        · exact sp_B2_69_bare (bs l) (bs wh) (bs (c :: x :: u)) (bs (x :: u)) (bs []) (bs (lead (x :: u))) (bs (tail (x :: u))) c.toNat x.toNat (bs (p :: r)) (bs r) (bs fr) 46 (wh ++ fr) _ _ w (ne_list (by simp)) (ne_emp (by simp)) (sz_pos _ _) (sz_le (by have h := lt; simp at h ⊢ <;> omega)) (hd_is _ _ 69 h1) (cut1 _ _) (ne_list (by simp)) (ne_emp (by simp)) (sz_pos _ _) (sz_le (by have h := lt; simp at h ⊢ <;> omega)) (hd_is _ _ _ rfl) (beq_no (by omega)) (beq_no (by omega)) (ne_list (by simp)) (ne_emp (by simp)) (sz_pos _ _) (sz_le (by simp; omega)) (hd_is _ _ 46 hp) (cut1 _ _) (ne_list hwh) (ne_emp hwh) (sz_le lw) (sz_le lf) q1 q2 (fun W => lead_any (x :: u) W (by have h := lt; simp at h ⊢ <;> omega)) (q4_of (x :: u) w (by have h := lt; simp at h ⊢ <;> omega) hV) (expo_fail_of (uns_bare hx hx2)) (bsa _ _) (fun a b => (expo_ok_of (uns_bare hx hx2) a b).trans (by simp [signed, bs_size]))

end Go.Proofs.Qxb6623503aDoor
