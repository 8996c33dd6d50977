/-
  ZZMerge (7): the union of two records, in memory of its own.
-/
import Derived.Test.Qxb6623451aMerge
import Derived.Deep.QuietTactic
import Derived.BigQuiet
namespace Go.Proofs.Qxb6623451a
open Go.RowKit Go.Maps Go.WideMaps
set_option linter.unusedVariables false

def bx (m : Option Nat) (l : Int) (i : Option Nat) : Obj := .cells #[.map m, .int .i64 l, .map i] 41

theorem st_start (w : World) (B : Nat) (em ei om oi : Option Nat) (el ol : Int) (nE nI mO mI : Nat) (fE fI gO gI : Lit → Option Bool)
    (hem : IsMp w 9 em nE fE) (hei : IsMp w 3 ei nI fI) (hom : IsMp w 9 om mO gO) (hoi : IsMp w 3 oi mI gI)
    (d1 : Ap em om) (d2 : Ap em ei) (d3 : Ap em oi) (d4 : Ap ei om) (d5 : Ap ei oi) (bw : B ≤ w.heap.size) (bm : ∀ b, em = some b → B ≤ b) (bi : ∀ b, ei = some b → B ≤ b) :
    St ((w.alloc (bx em el ei)).alloc (bx om ol oi)) B w.heap.size (w.heap.size + 1) em ei om oi el ol nE nI mO mI fE fI gO gI := by
  have g1 : w.grownBy ((w.alloc (bx em el ei)).alloc (bx om ol oi)) none := (World.grownBy_alloc w _ _).trans (World.grownBy_alloc _ _ _)
  have e1 : (w.alloc (bx em el ei)).heap.size = w.heap.size + 1 := by simp
  have k1 : ∀ i, ((w.alloc (bx em el ei)).alloc (bx om ol oi)).cell? ⟨w.heap.size, i, none⟩ = #[Value.map em, .int .i64 el, .map ei][i]? := fun i => by
    rw [World.cell?_alloc_past _ _ _ (by rw [e1]; omega)]
    exact World.cell?_alloc_at _ _ _ _ rfl
  have k2 : ∀ i, ((w.alloc (bx em el ei)).alloc (bx om ol oi)).cell? ⟨w.heap.size + 1, i, none⟩ = #[Value.map om, .int .i64 ol, .map oi][i]? := fun i =>
    World.cell?_alloc_at _ _ _ _ e1.symm
  exact { be := ⟨k1 0, k1 1, k1 2, fun o => by
            rw [World.frozen?_alloc_past _ _ _ (by rw [e1]; omega)]
            exact World.frozen?_alloc_at _ _ _ _ rfl⟩
          bo := ⟨k2 0, k2 1, k2 2, fun o => World.frozen?_alloc_at _ _ _ _ e1.symm⟩
          ne := by omega
          hem := hem.kept g1 (by simp)
          hei := hei.kept g1 (by simp)
          hom := hom.kept g1 (by simp)
          hoi := hoi.kept g1 (by simp)
          d1 := d1
          d2 := d2
          d3 := d3
          d4 := d4
          d5 := d5
          bw := Nat.le_trans bw g1.size
          bb := bw
          bm := bm
          bi := bi }

set_option maxHeartbeats 1000000 in
theorem zz_any (w : World) (B : Nat) (em ei om oi : Option Nat) (el ol : Int) (nE nI mO mI : Nat) (fE fI gO gI : Lit → Option Bool)
    (hem : IsMp w 9 em nE fE) (hei : IsMp w 3 ei nI fI) (hom : IsMp w 9 om mO gO) (hoi : IsMp w 3 oi mI gI)
    (d1 : Ap em om) (d2 : Ap em ei) (d3 : Ap em oi) (d4 : Ap ei om) (d5 : Ap ei oi) (bw : B ≤ w.heap.size) (bm : ∀ b, em = some b → B ≤ b) (bi : ∀ b, ei = some b → B ≤ b)
    (hn1 : nE + mO < maxLen) (hn2 : nI + mI < maxLen) :
    Calls Try.prog 7 #[.map em, .int .i64 el, .map ei, .map om, .int .i64 ol, .map oi] w fun e w' => ∃ rm ri, e = .returned (.tuple #[.map rm, .int .i64 (max el ol), .map ri]) ∧
      IsMp w' 9 rm (nE + mO) (union fE gO) ∧ IsMp w' 3 ri (nI + mI) (union fI gI) ∧ Ap rm ri ∧ (∀ b, rm = some b → B ≤ b) ∧ (∀ b, ri = some b → B ≤ b) ∧ NilAs rm em gO ∧ NilAs ri ei gI ∧ Below B w w' := by
  have S0 := st_start w B em ei om oi el ol nE nI mO mI fE fI gO gI hem hei hom hoi d1 d2 d3 d4 d5 bw bm bi
  have hb0 : Below B w ((w.alloc (bx em el ei)).alloc (bx om ol oi)) := ((Below.refl _ _).alloc bw _).alloc (by simp; omega) _
  unfold bx at S0 hb0
  go_enter Try.func7, Try.ntmps7
  go_wp2_with (go_at_call 16; refine (merge_any S0 hn1 hn2).mono ?_; rintro e w1 ⟨rfl, rm, ri, S1, hb1, hnm, hni⟩)
  have c1 := S1.be.1
  have c2 := S1.be.2.1
  have c3 := S1.be.2.2.1
  go_quiet (fail)
  go_wp2
  go_ret3
  have hg : w1.grownBy (w1.drewN nq) none := ⟨rfl, rfl, rfl, Nat.le_refl _, fun _ _ _ => rfl⟩
  exact ⟨rm, ri, rfl, S1.hem.kept hg (by simp), S1.hei.kept hg (by simp), S1.d2, S1.bm, S1.bi, hnm, hni, (hb0.trans hb1).trans ⟨rfl, rfl, rfl, Nat.le_refl _, fun _ _ => rfl⟩⟩

end Go.Proofs.Qxb6623451a
