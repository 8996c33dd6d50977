/-
  zzRaise (12): the walk.
-/
import Derived.Test.Qxb6623506aRaise
namespace Go.Proofs.Qxb6623506a
open Go.RowKit
set_option linter.unusedVariables false

theorem raise_cons (q d : Int) (done : Bool) (a : Int × Int) (r : Vec) : raiseL q d done (a :: r) = (if done = false ∧ q < a.1 ∧ 0 < d then [(q, d)] else []) ++ (if a.1 = q then (q, IntKind.u64.wrap (a.2 + d)) else a) :: raiseL q d (done || decide (q < a.1) || decide (a.1 = q)) r := rfl

/-- The loop's relation. -/
def RaiseR (w : World) (p c : Nat → Int) (q d : Int) (n g1 g2 : Nat) (s10 s11 s12 s13 : Value) (wr : World) : Prop :=
  ∃ (i m : Nat) (B : Bool) (acc : Vec), i ≤ n ∧ s13 = .int .i64 i ∧ s12 = .bool B ∧ s10 = .slice (some ⟨g1, 0, none⟩) m (n + 1) ∧ s11 = .slice (some ⟨g2, 0, none⟩) m (n + 1) ∧ m ≤ i + 1 ∧ (B = false → m ≤ i) ∧ StR w wr g1 g2 (n + 1) m acc ∧ raiseL q d false (vlist p c n 0) = acc ++ raiseL q d B (vlist p c (n - i) i)

/-- What zzRaise hands back. -/
def RaiseOut (w : World) (p c : Nat → Int) (q d : Int) (n : Nat) (e : Ending) (w' : World) : Prop :=
  ∃ g1 g2 m, e = .returned (.tuple #[.slice (some ⟨g1, 0, none⟩) m (n + 1), .slice (some ⟨g2, 0, none⟩) m (n + 1)]) ∧ m ≤ n + 1 ∧ StR w w' g1 g2 (n + 1) m (raiseL q d false (vlist p c n 0))

section
variable (q d : Int) (a : Int × Int) (r acc : Vec)
theorem step_ins (h : q < a.1) (hd : 0 < d) : acc ++ raiseL q d false (a :: r) = ((acc ++ [(q, d)]) ++ [(a.1, a.2)]) ++ raiseL q d true r := by
  have h2 : ¬ a.1 = q := by omega
  rw [raise_cons, if_pos ⟨rfl, h, hd⟩, if_neg h2]
  have e : (false || decide (q < a.1) || decide (a.1 = q)) = true := by simp [h]
  rw [e]
  simp
theorem step_pass (h : q < a.1) (hd : ¬ 0 < d) : acc ++ raiseL q d false (a :: r) = (acc ++ [(a.1, a.2)]) ++ raiseL q d true r := by
  have h2 : ¬ a.1 = q := by omega
  rw [raise_cons, if_neg (fun k => hd k.2.2), if_neg h2]
  have e : (false || decide (q < a.1) || decide (a.1 = q)) = true := by simp [h]
  rw [e]
  simp
theorem step_hit (B : Bool) (h : a.1 = q) : acc ++ raiseL q d B (a :: r) = (acc ++ [(q, IntKind.u64.wrap (a.2 + d))]) ++ raiseL q d true r := by
  rw [raise_cons, if_neg (fun k => by omega), if_pos h]
  have e : (B || decide (q < a.1) || decide (a.1 = q)) = true := by simp [h]
  rw [e]
  simp
theorem step_miss (h : ¬ q < a.1) (h2 : ¬ a.1 = q) : acc ++ raiseL q d false (a :: r) = (acc ++ [(a.1, a.2)]) ++ raiseL q d false r := by
  rw [raise_cons, if_neg (fun k => h k.2.1), if_neg h2]
  have e : (false || decide (q < a.1) || decide (a.1 = q)) = false := by simp [h, h2]
  rw [e]
  simp
theorem step_after (h2 : ¬ a.1 = q) : acc ++ raiseL q d true (a :: r) = (acc ++ [(a.1, a.2)]) ++ raiseL q d true r := by
  rw [raise_cons, if_neg (fun k => by cases k.1), if_neg h2]
  have e : (true || decide (q < a.1) || decide (a.1 = q)) = true := rfl
  rw [e]
  simp
end

theorem wpList_append_eq {ops : Array Oper} {rest : List Oper} {o : Oper} {a : Act} {Q : Exit → Act → World → Prop} {w : World} (hg : o.guard = none) (s x : Operand) (t : TypeId)
    (hop : o.op = Op.call { callee := Callee.builtin Builtin.append, args := #[s, x], argTypes := #[t, t] }) (ht : o.type = t) (vs vx v : Value) (hs : a.eval s = vs) (hx : a.eval x = vx) (W2 : World)
    (hrun : (Builtin.append_ #[t, t] t #[vs, vx]).run Try.prog w = .ok v W2) (hK : wpList Try.prog ops Q rest (a.put o.dst v) W2) : wpList Try.prog ops Q (o :: rest) a w := by
  refine wpList_plain hg fun K hK' => ?_
  unfold Oper.wp
  simp [execOp, hop, ht, resolve, invoke, builtin, hs, hx, hrun, Result.andThen]
  exact hK' _ _ hK

set_option maxRecDepth 100000 in
set_option maxHeartbeats 4000000 in
theorem raise_any (a0 a1 : Option Addr) (n k0 k1 : Nat) (p c : Nat → Int) (q d : Int) (w : World) (h0 : RowOf w a0 n (ints p)) (h1 : RowOf w a1 n (cnts c)) (hl : n ≤ 4096) :
    Calls Try.prog 12 #[.slice a0 n k0, .slice a1 n k1, .int .i64 q, .int .u64 d] w fun e w' => RaiseOut w p c q d n e w' := by
  obtain ⟨i3, hi3, hz3, hs3, hb3⟩ := info_parts info3
  obtain ⟨i28, hi28, hz28, hs28, hb28⟩ := info_parts info28
  go_enter Try.func12, Try.ntmps12
  go_wp2_with (first
    | (at_make; refine wpList_make_own _ rfl _ _ 22 rfl w.heap.size 3 i3 (.int .i64 0) 1 Try.underlying22 hi3 hz3 hs3 .i64 .i64 _ (n + 1) rfl rfl (by omega) (by rw [hb3]; omega) (by unfold maxLen; omega) (Nat.le_refl _) ?_; intro w0 hown0 hgrow0)
    | (at_make; refine wpList_make_own _ rfl _ _ 23 rfl w.heap.size 28 i28 (.int .u64 0) 1 Try.underlying23 hi28 hz28 hs28 .i64 .i64 _ (n + 1) rfl rfl (by omega) (by rw [hb28]; omega) (by unfold maxLen; omega) (Nat.le_of_lt (own_lt hown0)) ?_; intro w1 hown1 hgrow1))
  have hsz : w.heap.size < w0.heap.size := own_lt hown0
  have hB0 : Below w.heap.size w w0 := (Below.refl _ _).grown hgrow0 (Nat.le_refl _) (fun k h => by cases h)
  have HST : Hid (StR w w1 w.heap.size w0.heap.size (n + 1) 0 []) := ⟨hown0.kept hgrow1 (.inr (by show some w.heap.size ≠ none; intro e; cases e)), hown1, hB0.grown hgrow1 hB0.size (fun k h => by cases h), by omega⟩
  generalize w0.heap.size = g2 at HST ⊢
  obtain ⟨g1, hg1⟩ : ∃ g1, g1 = w.heap.size := ⟨_, rfl⟩
  rw [← hg1] at HST ⊢
  clear hg1 hown0 hgrow0 hown1 hgrow1 hsz hB0 hi3 hz3 hs3 hb3 hi28 hz28 hs28 hb28
  go_loopw [10, 11, 12, 13] (fun s10 s11 s12 s13 wr => RaiseR w p c q d n g1 g2 s10 s11 s12 s13 wr) (fun _ _ _ s13 _ => n - (intOf s13).toNat)
  case atStart => exact ⟨0, 0, false, [], Nat.zero_le _, rfl, rfl, rfl, rfl, Nat.zero_le _, fun _ => Nat.zero_le _, HST.out, rfl⟩
  case round =>
    obtain ⟨i, m, B, acc, hi, rfl, rfl, rfl, rfl, hm, HM, hst, heq⟩ := hrel
    have HS : Hid (StR w wr g1 g2 (n + 1) m acc) := hst
    have HE : Hid (raiseL q d false (vlist p c n 0) = acc ++ raiseL q d B (vlist p c (n - i) i)) := heq
    have HM' : Hid (B = false → m ≤ i) := HM
    clear hst heq HST HM
    by_cases hlt : i < n
    · obtain ⟨b, off, rfl, hcp⟩ := h0 i hlt
      obtain ⟨b2, off2, rfl, hcc⟩ := h1 i hlt
      have lp : b < w.heap.size := cell_lt hcp
      have lc : b2 < w.heap.size := cell_lt hcc
      have HP : Hid (∀ W, Below w.heap.size w W → W.cell? ⟨b, off + i, none⟩ = some (.int .i64 (p i))) := fun W hW => (hW.cell (p := ⟨b, off + i, none⟩) lp).trans hcp
      have HC : Hid (∀ W, Below w.heap.size w W → W.cell? ⟨b2, off2 + i, none⟩ = some (.int .u64 (c i))) := fun W hW => (hW.cell (p := ⟨b2, off2 + i, none⟩) lc).trans hcc
      have HV : Hid (vlist p c (n - i) i = (p i, c i) :: vlist p c (n - (i + 1)) (i + 1)) := vlist_at p c n i hlt
      have hP0 := HP.out wr HS.out.2.2.1
      rw [HV.out] at HE
      clear hcp hcc lp lc h0 h1 HV
      cases B
      · have hmi : m ≤ i := HM'.out rfl
        clear HM'
        by_cases hq : q < p i
        · have hne : ¬ p i = q := by omega
          have hneb : (p i == q) = false := by simpa using hne
          by_cases hd : 0 < d
          · obtain ⟨X0, Y0, ea0, eb0, BX0, ST0⟩ := push HS.out (by omega) q d
            have hPx0 := HP.out Y0 ST0.out.2.2.1
            have hCx0 := HC.out X0 BX0.out
            obtain ⟨X1, Y1, ea1, eb1, BX1, ST1⟩ := push ST0.out (by omega) (p i) (c i)
            have hPx1 := HP.out Y1 ST1.out.2.2.1
            have hCx1 := HC.out X1 BX1.out
            have HE2 : Hid (raiseL q d false (vlist p c n 0) = _) := HE.out.trans (step_ins q d (p i, c i) _ acc hq hd)
            clear HE HP HC HS BX0 BX1 ST0
            go_wp2_with (first
              | (at_builtin; refine wpList_append_eq rfl (.tmp 40) (.tmp 42) 22 rfl rfl (.slice (some ⟨g1, 0, none⟩) m (n + 1)) (.slice (some ⟨wr.heap.size, 0, none⟩) 1 1) _ rfl rfl _ ea0 ?_)
              | (at_builtin; refine wpList_append_eq rfl (.tmp 44) (.tmp 46) 23 rfl rfl (.slice (some ⟨g2, 0, none⟩) m (n + 1)) (.slice (some ⟨X0.heap.size, 0, none⟩) 1 1) _ rfl rfl _ eb0 ?_)
              | (at_builtin; refine wpList_append_eq rfl (.tmp 67) (.tmp 72) 22 rfl rfl (.slice (some ⟨g1, 0, none⟩) (m + 1) (n + 1)) (.slice (some ⟨Y0.heap.size, 0, none⟩) 1 1) _ rfl rfl _ ea1 ?_)
              | (at_builtin; refine wpList_append_eq rfl (.tmp 74) (.tmp 79) 23 rfl rfl (.slice (some ⟨g2, 0, none⟩) (m + 1) (n + 1)) (.slice (some ⟨X1.heap.size, 0, none⟩) 1 1) _ rfl rfl _ eb1 ?_))
            go_roundw
            case rel => exact ⟨i + 1, m + 1 + 1, true, _, by omega, by go_num, rfl, rfl, rfl, by omega, by (intro h; first | omega | (cases h; done)), ST1.out, HE2.out⟩
            case measure => simp [intOf]; omega
          · obtain ⟨X0, Y0, ea0, eb0, BX0, ST0⟩ := push HS.out (by omega) (p i) (c i)
            have hPx0 := HP.out Y0 ST0.out.2.2.1
            have hCx0 := HC.out X0 BX0.out
            have HE2 : Hid (raiseL q d false (vlist p c n 0) = _) := HE.out.trans (step_pass q d (p i, c i) _ acc hq hd)
            clear HE HP HC HS BX0
            go_wp2_with (first
              | (at_builtin; refine wpList_append_eq rfl (.tmp 67) (.tmp 72) 22 rfl rfl (.slice (some ⟨g1, 0, none⟩) m (n + 1)) (.slice (some ⟨wr.heap.size, 0, none⟩) 1 1) _ rfl rfl _ ea0 ?_)
              | (at_builtin; refine wpList_append_eq rfl (.tmp 74) (.tmp 79) 23 rfl rfl (.slice (some ⟨g2, 0, none⟩) m (n + 1)) (.slice (some ⟨X0.heap.size, 0, none⟩) 1 1) _ rfl rfl _ eb0 ?_))
            go_roundw
            case rel => exact ⟨i + 1, m + 1, true, _, by omega, by go_num, rfl, rfl, rfl, by omega, by (intro h; first | omega | (cases h; done)), ST0.out, HE2.out⟩
            case measure => simp [intOf]; omega
        · by_cases he : p i = q
          · have heb : (p i == q) = true := by simpa using he
            clear hq
            obtain ⟨X0, Y0, ea0, eb0, BX0, ST0⟩ := push HS.out (by omega) q (IntKind.u64.wrap (c i + d))
            have hPx0 := HP.out Y0 ST0.out.2.2.1
            have hCx0 := HC.out X0 BX0.out
            have HE2 : Hid (raiseL q d false (vlist p c n 0) = _) := HE.out.trans (step_hit q d (p i, c i) _ acc false he)
            clear HE HP HC HS BX0
            go_wp2_with (first
              | (at_builtin; refine wpList_append_eq rfl (.tmp 54) (.tmp 56) 22 rfl rfl (.slice (some ⟨g1, 0, none⟩) m (n + 1)) (.slice (some ⟨wr.heap.size, 0, none⟩) 1 1) _ rfl rfl _ ea0 ?_)
              | (at_builtin; refine wpList_append_eq rfl (.tmp 58) (.tmp 65) 23 rfl rfl (.slice (some ⟨g2, 0, none⟩) m (n + 1)) (.slice (some ⟨X0.heap.size, 0, none⟩) 1 1) _ rfl rfl _ eb0 ?_))
            go_roundw
            case rel => exact ⟨i + 1, m + 1, true, _, by omega, by go_num, rfl, rfl, rfl, by omega, by (intro h; first | omega | (cases h; done)), ST0.out, HE2.out⟩
            case measure => simp [intOf]; omega
          · have heb : (p i == q) = false := by simpa using he
            obtain ⟨X0, Y0, ea0, eb0, BX0, ST0⟩ := push HS.out (by omega) (p i) (c i)
            have hPx0 := HP.out Y0 ST0.out.2.2.1
            have hCx0 := HC.out X0 BX0.out
            have HE2 : Hid (raiseL q d false (vlist p c n 0) = _) := HE.out.trans (step_miss q d (p i, c i) _ acc hq he)
            clear HE HP HC HS BX0
            go_wp2_with (first
              | (at_builtin; refine wpList_append_eq rfl (.tmp 67) (.tmp 72) 22 rfl rfl (.slice (some ⟨g1, 0, none⟩) m (n + 1)) (.slice (some ⟨wr.heap.size, 0, none⟩) 1 1) _ rfl rfl _ ea0 ?_)
              | (at_builtin; refine wpList_append_eq rfl (.tmp 74) (.tmp 79) 23 rfl rfl (.slice (some ⟨g2, 0, none⟩) m (n + 1)) (.slice (some ⟨X0.heap.size, 0, none⟩) 1 1) _ rfl rfl _ eb0 ?_))
            go_roundw
            case rel => exact ⟨i + 1, m + 1, false, _, by omega, by go_num, rfl, rfl, rfl, by omega, by (intro h; first | omega | (cases h; done)), ST0.out, HE2.out⟩
            case measure => simp [intOf]; omega
      · clear HM'
        by_cases he : p i = q
        · have heb : (p i == q) = true := by simpa using he
          obtain ⟨X0, Y0, ea0, eb0, BX0, ST0⟩ := push HS.out (by omega) q (IntKind.u64.wrap (c i + d))
          have hPx0 := HP.out Y0 ST0.out.2.2.1
          have hCx0 := HC.out X0 BX0.out
          have HE2 : Hid (raiseL q d false (vlist p c n 0) = _) := HE.out.trans (step_hit q d (p i, c i) _ acc true he)
          clear HE HP HC HS BX0
          go_wp2_with (first
            | (at_builtin; refine wpList_append_eq rfl (.tmp 54) (.tmp 56) 22 rfl rfl (.slice (some ⟨g1, 0, none⟩) m (n + 1)) (.slice (some ⟨wr.heap.size, 0, none⟩) 1 1) _ rfl rfl _ ea0 ?_)
            | (at_builtin; refine wpList_append_eq rfl (.tmp 58) (.tmp 65) 23 rfl rfl (.slice (some ⟨g2, 0, none⟩) m (n + 1)) (.slice (some ⟨X0.heap.size, 0, none⟩) 1 1) _ rfl rfl _ eb0 ?_))
          go_roundw
          case rel => exact ⟨i + 1, m + 1, true, _, by omega, by go_num, rfl, rfl, rfl, by omega, by (intro h; first | omega | (cases h; done)), ST0.out, HE2.out⟩
          case measure => simp [intOf]; omega
        · have heb : (p i == q) = false := by simpa using he
          obtain ⟨X0, Y0, ea0, eb0, BX0, ST0⟩ := push HS.out (by omega) (p i) (c i)
          have hPx0 := HP.out Y0 ST0.out.2.2.1
          have hCx0 := HC.out X0 BX0.out
          have HE2 : Hid (raiseL q d false (vlist p c n 0) = _) := HE.out.trans (step_after q d (p i, c i) _ acc he)
          clear HE HP HC HS BX0
          go_wp2_with (first
            | (at_builtin; refine wpList_append_eq rfl (.tmp 67) (.tmp 72) 22 rfl rfl (.slice (some ⟨g1, 0, none⟩) m (n + 1)) (.slice (some ⟨wr.heap.size, 0, none⟩) 1 1) _ rfl rfl _ ea0 ?_)
            | (at_builtin; refine wpList_append_eq rfl (.tmp 74) (.tmp 79) 23 rfl rfl (.slice (some ⟨g2, 0, none⟩) m (n + 1)) (.slice (some ⟨X0.heap.size, 0, none⟩) 1 1) _ rfl rfl _ eb0 ?_))
          go_roundw
          case rel => exact ⟨i + 1, m + 1, true, _, by omega, by go_num, rfl, rfl, rfl, by omega, by (intro h; first | omega | (cases h; done)), ST0.out, HE2.out⟩
          case measure => simp [intOf]; omega
    · have hin : i = n := by omega
      have e0 : vlist p c (n - i) i = [] := vlist_end p c n i (by omega)
      rw [e0] at HE
      clear e0 h0 h1
      cases B
      · have hmi : m ≤ i := HM'.out rfl
        clear HM'
        by_cases hd : 0 < d
        · obtain ⟨X0, Y0, ea0, eb0, BX0, ST0⟩ := push HS.out (by omega) q d
          have HF : Hid (raiseL q d false (vlist p c n 0) = acc ++ [(q, d)]) := by
            show _ = _
            rw [HE.out]
            simp [raiseL, hd]
          have HO : Hid (StR w Y0 g1 g2 (n + 1) (m + 1) (raiseL q d false (vlist p c n 0))) := by
            show StR _ _ _ _ _ _ _
            rw [HF.out]
            exact ST0.out
          clear HE HS BX0 ST0 HF
          go_wp2_with (first
            | (at_builtin; refine wpList_append_eq rfl (.tmp 87) (.tmp 89) 22 rfl rfl (.slice (some ⟨g1, 0, none⟩) m (n + 1)) (.slice (some ⟨wr.heap.size, 0, none⟩) 1 1) _ rfl rfl _ ea0 ?_)
            | (at_builtin; refine wpList_append_eq rfl (.tmp 91) (.tmp 93) 23 rfl rfl (.slice (some ⟨g2, 0, none⟩) m (n + 1)) (.slice (some ⟨X0.heap.size, 0, none⟩) 1 1) _ rfl rfl _ eb0 ?_))
          go_ret2
          exact ⟨g1, g2, m + 1, rfl, by omega, HO.out⟩
        · have HO : Hid (StR w wr g1 g2 (n + 1) m (raiseL q d false (vlist p c n 0))) := by
            show StR _ _ _ _ _ _ _
            rw [HE.out]
            simpa [raiseL, hd] using HS.out
          clear HE HS
          go_wp2_with fail
          go_ret2
          exact ⟨g1, g2, m, rfl, by omega, HO.out⟩
      · have HO : Hid (StR w wr g1 g2 (n + 1) m (raiseL q d false (vlist p c n 0))) := by
          show StR _ _ _ _ _ _ _
          rw [HE.out]
          simpa [raiseL] using HS.out
        clear HE HS HM'
        go_wp2_with fail
        go_ret2
        exact ⟨g1, g2, m, rfl, by omega, HO.out⟩

end Go.Proofs.Qxb6623506a
