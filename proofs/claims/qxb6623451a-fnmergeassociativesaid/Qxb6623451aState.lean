/-
  THE STATE OF e.merge(o) BETWEEN TWO STEPS; addMember, addItem over it.
-/
import Derived.Test.Qxb6623451aRange
namespace Go.Proofs.Qxb6623451a
open Go.RowKit Go.Maps Go.WideMaps
set_option linter.unusedVariables false

/-- An 'evaluation' in block b. -/
def Box (w : World) (b : Nat) (m : Option Nat) (l : Int) (i : Option Nat) : Prop :=
  w.cell? ⟨b, 0, none⟩ = some (.map m) ∧ w.cell? ⟨b, 1, none⟩ = some (.int .i64 l) ∧ w.cell? ⟨b, 2, none⟩ = some (.map i) ∧ ∀ o, w.frozen? ⟨b, o, none⟩ = false

theorem Box.lt {w : World} {b : Nat} {m i : Option Nat} {l : Int} (h : Box w b m l i) : b < w.heap.size := cell_lt h.1

theorem Box.kept {w w' : World} {b : Nat} {m i : Option Nat} {l : Int} {row : Option Nat} (h : Box w b m l i) (hg : w.grownBy w' row) (hb : some b ≠ row) : Box w' b m l i := by
  have e := hg.block b h.lt hb
  refine ⟨?_, ?_, ?_, fun o => ?_⟩
  · rw [World.cell?_of_block (w := w) (a := ⟨b, 0, none⟩) e]; exact h.1
  · rw [World.cell?_of_block (w := w) (a := ⟨b, 1, none⟩) e]; exact h.2.1
  · rw [World.cell?_of_block (w := w) (a := ⟨b, 2, none⟩) e]; exact h.2.2.1
  · rw [World.frozen?_of_block (w := w) (a := ⟨b, o, none⟩) e]; exact h.2.2.2 o

/-- No block is both. -/
def Ap (x y : Option Nat) : Prop := ∀ b, x = some b → y ≠ some b

structure St (w : World) (B eb ob : Nat) (em ei om oi : Option Nat) (el ol : Int) (nE nI mO mI : Nat) (fE fI gO gI : Lit → Option Bool) : Prop where
  be : Box w eb em el ei
  bo : Box w ob om ol oi
  ne : eb ≠ ob
  hem : IsMp w 9 em nE fE
  hei : IsMp w 3 ei nI fI
  hom : IsMp w 9 om mO gO
  hoi : IsMp w 3 oi mI gI
  d1 : Ap em om
  d2 : Ap em ei
  d3 : Ap em oi
  d4 : Ap ei om
  d5 : Ap ei oi
  bw : B ≤ w.heap.size
  bb : B ≤ eb
  bm : ∀ b, em = some b → B ≤ b
  bi : ∀ b, ei = some b → B ≤ b

section
variable {w w' : World} {B eb ob : Nat} {em ei om oi : Option Nat} {el ol : Int} {nE nI mO mI : Nat} {fE fI gO gI : Lit → Option Bool}

/-- A block that is none of the state's has turned: the state stands. -/
theorem St.other (S : St w B eb ob em ei om oi el ol nE nI mO mI fE fI gO gI) {row : Option Nat} (hg : w.grownBy w' row) (h1 : some eb ≠ row) (h2 : some ob ≠ row)
    (h3 : ∀ b, em = some b → some b ≠ row) (h4 : ∀ b, ei = some b → some b ≠ row) (h5 : ∀ b, om = some b → some b ≠ row) (h6 : ∀ b, oi = some b → some b ≠ row) :
    St w' B eb ob em ei om oi el ol nE nI mO mI fE fI gO gI :=
  { S with be := S.be.kept hg h1, bo := S.bo.kept hg h2, hem := S.hem.kept hg h3, hei := S.hei.kept hg h4, hom := S.hom.kept hg h5, hoi := S.hoi.kept hg h6, bw := Nat.le_trans S.bw hg.size }

theorem St.grown (S : St w B eb ob em ei om oi el ol nE nI mO mI fE fI gO gI) (hg : w.grownBy w' none) : St w' B eb ob em ei om oi el ol nE nI mO mI fE fI gO gI :=
  S.other hg (by simp) (by simp) (by simp) (by simp) (by simp) (by simp)

theorem St.iter (S : St w B eb ob em ei om oi el ol nE nI mO mI fE fI gO gI) {r : Nat} (hr : IsIter w r) (hg : w.grownBy w' (some r)) : St w' B eb ob em ei om oi el ol nE nI mO mI fE fI gO gI :=
  S.other hg (fun e => hr.ne_cell S.be.1 (Option.some.inj e).symm) (fun e => hr.ne_cell S.bo.1 (Option.some.inj e).symm)
    (fun b hb e => S.hem.ne_iter hr b hb (Option.some.inj e)) (fun b hb e => S.hei.ne_iter hr b hb (Option.some.inj e)) (fun b hb e => S.hom.ne_iter hr b hb (Option.some.inj e)) (fun b hb e => S.hoi.ne_iter hr b hb (Option.some.inj e))

/-- What addMember leaves besides the state: the loop that is under way stands; nothing below B has turned. -/
theorem St.rowM (S : St w B eb ob em ei om oi el ol nE nI mO mI fE fI gO gI) {row : Option Nat} (hg : w.grownBy w' row) (hrow : row = some eb ∨ row = em) {r : Nat} {left : Lit → Bool} {cnt : Nat} (hr : RangesO w 9 om r mO gO left cnt) : RangesO w' 9 om r mO gO left cnt := by
  have hi := hr.iter
  refine hr.kept hg (fun b hb e => ?_) (fun e => ?_)
  · rcases hrow with h | h
    · rw [h] at e; exact S.hom.ne_cell S.be.1 b hb (Option.some.inj e)
    · rw [h] at e; exact S.d1 b e.symm hb
  · rcases hrow with h | h
    · rw [h] at e; exact hi.ne_cell S.be.1 (Option.some.inj e)
    · rw [h] at e; exact S.hem.ne_iter hi r e.symm rfl

theorem St.rowI (S : St w B eb ob em ei om oi el ol nE nI mO mI fE fI gO gI) {row : Option Nat} (hg : w.grownBy w' row) (hrow : row = some eb ∨ row = ei) {r : Nat} {left : Lit → Bool} {cnt : Nat} (hr : RangesO w 3 oi r mI gI left cnt) : RangesO w' 3 oi r mI gI left cnt := by
  have hi := hr.iter
  refine hr.kept hg (fun b hb e => ?_) (fun e => ?_)
  · rcases hrow with h | h
    · rw [h] at e; exact S.hoi.ne_cell S.be.1 b hb (Option.some.inj e)
    · rw [h] at e; exact S.d5 b e.symm hb
  · rcases hrow with h | h
    · rw [h] at e; exact hi.ne_cell S.be.1 (Option.some.inj e)
    · rw [h] at e; exact S.hei.ne_iter hi r e.symm rfl

theorem St.below (S : St w B eb ob em ei om oi el ol nE nI mO mI fE fI gO gI) {row : Option Nat} (hg : w.grownBy w' row) (hrow : row = some eb ∨ row = em ∨ row = ei) {w0 : World} (h0 : Below B w0 w) : Below B w0 w' :=
  h0.grown hg S.bw (fun j hj => by
    rcases hrow with h | h | h
    · rw [h] at hj; cases hj; exact S.bb
    · rw [h] at hj; exact S.bm j hj
    · rw [h] at hj; exact S.bi j hj)

theorem addM_st (S : St w B eb ob em ei om oi el ol nE nI mO mI fE fI gO gI) (s : ByteArray) (hs : s.size ≤ maxLen) (hn : nE < maxLen) :
    Calls Try.prog 18 #[.pointer (some ⟨eb, 0, none⟩), .string s] w fun e w' => e = .returned (.tuple #[]) ∧ ∃ em' row, em' ≠ none ∧ St w' B eb ob em' ei om oi el ol (nE + 1) nI mO mI (upd fE (.string s.data.toList) true) fI gO gI ∧ w.grownBy w' row ∧ (row = some eb ∨ row = em) := by
  rcases S.hem with ⟨rfl, rfl⟩ | ⟨b, rfl, hb⟩
  · refine (addM_nil eb s w S.be.1 (S.be.2.2.2 0) hs).mono ?_
    rintro e w' ⟨rfl, hM, hg, c0, c1, c2⟩
    have l1 := S.hom.lt
    have l2 := S.hei.lt
    have l3 := S.hoi.lt
    refine ⟨rfl, some w.heap.size, some eb, by simp, ?_, hg, .inl rfl⟩
    exact { be := ⟨c0, (c1 1 (by decide)).trans S.be.2.1, (c1 2 (by decide)).trans S.be.2.2.1, fun o => (c2 o).trans (S.be.2.2.2 o)⟩
            bo := S.bo.kept hg (fun e => S.ne (Option.some.inj e).symm)
            ne := S.ne
            hem := .inr ⟨_, rfl, hM.mono (by omega)⟩
            hei := S.hei.kept hg (fun b hb e => S.hei.ne_cell S.be.1 b hb (Option.some.inj e))
            hom := S.hom.kept hg (fun b hb e => S.hom.ne_cell S.be.1 b hb (Option.some.inj e))
            hoi := S.hoi.kept hg (fun b hb e => S.hoi.ne_cell S.be.1 b hb (Option.some.inj e))
            d1 := fun b hb e => by cases hb; have := l1 _ e; omega
            d2 := fun b hb e => by cases hb; have := l2 _ e; omega
            d3 := fun b hb e => by cases hb; have := l3 _ e; omega
            d4 := S.d4
            d5 := S.d5
            bw := Nat.le_trans S.bw hg.size
            bb := S.bb
            bm := fun b hb => by cases hb; exact S.bw
            bi := S.bi }
  · refine (addM_some eb b nE fE s w S.be.1 hb hn hs).mono ?_
    rintro e w' ⟨rfl, hM, hg⟩
    have hne := hb.ne_cell S.be.1
    have hno := hb.ne_cell S.bo.1
    refine ⟨rfl, some b, some b, by simp, ?_, hg, .inr rfl⟩
    exact { be := S.be.kept hg (fun e => hne (Option.some.inj e).symm)
            bo := S.bo.kept hg (fun e => hno (Option.some.inj e).symm)
            ne := S.ne
            hem := .inr ⟨_, rfl, hM⟩
            hei := S.hei.kept hg (fun c hc e => S.d2 b rfl (by rw [hc, e]))
            hom := S.hom.kept hg (fun c hc e => S.d1 b rfl (by rw [hc, e]))
            hoi := S.hoi.kept hg (fun c hc e => S.d3 b rfl (by rw [hc, e]))
            d1 := S.d1
            d2 := S.d2
            d3 := S.d3
            d4 := S.d4
            d5 := S.d5
            bw := Nat.le_trans S.bw hg.size
            bb := S.bb
            bm := S.bm
            bi := S.bi }

theorem addI_st (S : St w B eb ob em ei om oi el ol nE nI mO mI fE fI gO gI) (x : Int) (hx : (Lit.int .i64 x).wf = true) (hn : nI < maxLen) :
    Calls Try.prog 19 #[.pointer (some ⟨eb, 0, none⟩), .int .i64 x] w fun e w' => e = .returned (.tuple #[]) ∧ ∃ ei' row, ei' ≠ none ∧ St w' B eb ob em ei' om oi el ol nE (nI + 1) mO mI fE (upd fI (.int .i64 x) true) gO gI ∧ w.grownBy w' row ∧ (row = some eb ∨ row = ei) := by
  rcases S.hei with ⟨rfl, rfl⟩ | ⟨b, rfl, hb⟩
  · refine (addI_nil eb x w S.be.2.2.1 (S.be.2.2.2 2) hx).mono ?_
    rintro e w' ⟨rfl, hM, hg, c0, c1, c2⟩
    have l1 := S.hom.lt
    have l2 := S.hem.lt
    have l3 := S.hoi.lt
    refine ⟨rfl, some w.heap.size, some eb, by simp, ?_, hg, .inl rfl⟩
    exact { be := ⟨(c1 0 (by decide)).trans S.be.1, (c1 1 (by decide)).trans S.be.2.1, c0, fun o => (c2 o).trans (S.be.2.2.2 o)⟩
            bo := S.bo.kept hg (fun e => S.ne (Option.some.inj e).symm)
            ne := S.ne
            hem := S.hem.kept hg (fun b hb e => S.hem.ne_cell S.be.1 b hb (Option.some.inj e))
            hei := .inr ⟨_, rfl, hM.mono (by omega)⟩
            hom := S.hom.kept hg (fun b hb e => S.hom.ne_cell S.be.1 b hb (Option.some.inj e))
            hoi := S.hoi.kept hg (fun b hb e => S.hoi.ne_cell S.be.1 b hb (Option.some.inj e))
            d1 := S.d1
            d2 := fun b hb e => by cases e; have := l2 _ hb; omega
            d3 := S.d3
            d4 := fun b hb e => by cases hb; have := l1 _ e; omega
            d5 := fun b hb e => by cases hb; have := l3 _ e; omega
            bw := Nat.le_trans S.bw hg.size
            bb := S.bb
            bm := S.bm
            bi := fun b hb => by cases hb; exact S.bw }
  · refine (addI_some eb b nI fI x w S.be.2.2.1 hb hn hx).mono ?_
    rintro e w' ⟨rfl, hM, hg⟩
    have hne := hb.ne_cell S.be.1
    have hno := hb.ne_cell S.bo.1
    refine ⟨rfl, some b, some b, by simp, ?_, hg, .inr rfl⟩
    exact { be := S.be.kept hg (fun e => hne (Option.some.inj e).symm)
            bo := S.bo.kept hg (fun e => hno (Option.some.inj e).symm)
            ne := S.ne
            hem := S.hem.kept hg (fun c hc e => S.d2 c hc (by rw [e]))
            hei := .inr ⟨_, rfl, hM⟩
            hom := S.hom.kept hg (fun c hc e => S.d4 b rfl (by rw [hc, e]))
            hoi := S.hoi.kept hg (fun c hc e => S.d5 b rfl (by rw [hc, e]))
            d1 := S.d1
            d2 := S.d2
            d3 := S.d3
            d4 := S.d4
            d5 := S.d5
            bw := Nat.le_trans S.bw hg.size
            bb := S.bb
            bm := S.bm
            bi := S.bi }

/-- 'e.leading = ..' -/
theorem St.lead (S : St w B eb ob em ei om oi el ol nE nI mO mI fE fI gO gI) (x : Int) : St (w.setCell ⟨eb, 1, none⟩ (.int .i64 x)) B eb ob em ei om oi x ol nE nI mO mI fE fI gO gI ∧ w.grownBy (w.setCell ⟨eb, 1, none⟩ (.int .i64 x)) (some eb) := by
  have hg : w.grownBy (w.setCell ⟨eb, 1, none⟩ (.int .i64 x)) (some eb) := ⟨rfl, rfl, rfl, by simp, fun k hk hne => RowKit.Below.heap_setCell _ _ _ _ (fun e => hne (by rw [e]))⟩
  refine ⟨{ S with be := ⟨?_, ?_, ?_, fun o => ?_⟩
                   bo := S.bo.kept hg (fun e => S.ne (Option.some.inj e).symm)
                   hem := S.hem.kept hg (fun b hb e => S.hem.ne_cell S.be.1 b hb (Option.some.inj e))
                   hei := S.hei.kept hg (fun b hb e => S.hei.ne_cell S.be.1 b hb (Option.some.inj e))
                   hom := S.hom.kept hg (fun b hb e => S.hom.ne_cell S.be.1 b hb (Option.some.inj e))
                   hoi := S.hoi.kept hg (fun b hb e => S.hoi.ne_cell S.be.1 b hb (Option.some.inj e))
                   bw := Nat.le_trans S.bw hg.size }, hg⟩
  · exact (World.cell?_setCell_other _ _ _ _ (by simp)).trans S.be.1
  · exact World.cell?_setCell_same _ _ _ S.be.2.1
  · exact (World.cell?_setCell_other _ _ _ _ (by simp)).trans S.be.2.2.1
  · exact (World.frozen?_setCell _ _ _ _).trans (S.be.2.2.2 o)

theorem St.drew (S : St w B eb ob em ei om oi el ol nE nI mO mI fE fI gO gI) : St w.drew B eb ob em ei om oi el ol nE nI mO mI fE fI gO gI := S.grown ⟨rfl, rfl, rfl, Nat.le_refl _, fun _ _ _ => rfl⟩

end
end Go.Proofs.Qxb6623451a
