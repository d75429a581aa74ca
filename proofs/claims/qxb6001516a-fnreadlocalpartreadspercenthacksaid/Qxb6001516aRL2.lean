/-
  WALKS of seat b6001516a: what readLocalPart keeps in memory; one step of the plain reading.
-/
import Derived.Test.Qxb6001516aW9
namespace Go.Proofs.Qxb6001516a
open Go.RowKit
set_option linter.unusedVariables false

abbrev Hop := List UInt8 × List UInt8

theorem Try.info33 : (Try.prog.info? 33).map (fun i => (i.zero, i.size, i.bytes)) = some (some (.agg #[.string ⟨#[]⟩, .string ⟨#[]⟩]), 2, 32) := by kernel_rfl

/-- the hops as cells. -/
def hopCells (hs : List Hop) : List Value := hs.flatMap fun h => [.string ⟨h.1.toArray⟩, .string ⟨h.2.toArray⟩]

theorem hopCells_snoc (hs : List Hop) (a b : ByteArray) : hopCells hs ++ [.string a, .string b] = hopCells (hs ++ [(a.data.toList, b.data.toList)]) := by
  unfold hopCells
  rw [List.flatMap_append]
  simp

/-- the variable bangHop (block Bb), the hops' row behind it. -/
def RMem (w0 : World) (Bb : Nat) (wr : World) (v : Value) (hs : List Hop) (nm kd : ByteArray) : Prop :=
  w0.heap.size ≤ Bb ∧ wr.heap[Bb]? = some (.cells #[.string nm, .string kd] 33 (0, 0)) ∧ wr.ownsRow (Bb + 1) 33 2 v hs.length (hopCells hs) ∧ Below w0.heap.size w0 wr

theorem RMem.lt {w0 wr : World} {Bb : Nat} {v : Value} {hs : List Hop} {nm kd : ByteArray} (h : RMem w0 Bb wr v hs nm kd) : Bb < wr.heap.size := by
  by_cases hh : Bb < wr.heap.size
  · exact hh
  · have := h.2.1
    rw [Array.getElem?_eq_none (by omega)] at this; simp at this

theorem RMem.cell0 {w0 wr : World} {Bb : Nat} {v : Value} {hs : List Hop} {nm kd : ByteArray} (h : RMem w0 Bb wr v hs nm kd) : wr.cell? ⟨Bb, 0, none⟩ = some (.string nm) := by
  simp [World.cell?, h.2.1]
theorem RMem.cell1 {w0 wr : World} {Bb : Nat} {v : Value} {hs : List Hop} {nm kd : ByteArray} (h : RMem w0 Bb wr v hs nm kd) : wr.cell? ⟨Bb, 1, none⟩ = some (.string kd) := by
  simp [World.cell?, h.2.1]
theorem RMem.frozen {w0 wr : World} {Bb : Nat} {v : Value} {hs : List Hop} {nm kd : ByteArray} (h : RMem w0 Bb wr v hs nm kd) (j : Nat) : wr.frozen? ⟨Bb, j, none⟩ = false := by
  simp [World.frozen?, h.2.1]

theorem RMem.append {w0 wr w1 : World} {Bb : Nat} {v v' : Value} {hs : List Hop} {nm kd a b : ByteArray} {o : Obj} (h : RMem w0 Bb wr v hs nm kd)
    (hown : w1.ownsRow (Bb + 1) 33 2 v' (hs.length + 1) (hopCells hs ++ [.string a, .string b])) (hg : (wr.alloc o).grownBy w1 v.ownBlock) : RMem w0 Bb w1 v' (hs ++ [(a.data.toList, b.data.toList)]) nm kd := by
  have hlt := h.lt
  obtain ⟨h1, h2, h3, h4⟩ := h
  refine ⟨h1, ?_, ?_, ?_⟩
  · rw [hg.block Bb (by simp; omega) (fun e => by have := (h3.lt Bb e.symm).1; omega), Below.heap_alloc wr o Bb hlt, h2]
  · rw [hopCells_snoc] at hown
    rw [List.length_append]
    exact hown
  · exact (h4.alloc h4.size o).grown hg (by have := h4.size; simp; omega) (fun k hk => by have := (h3.lt k hk).1; omega)

theorem RMem.below {w0 wr w1 : World} {Bb : Nat} {v : Value} {hs : List Hop} {nm kd : ByteArray} (h : RMem w0 Bb wr v hs nm kd) (hb : Below wr.heap.size wr w1) : RMem w0 Bb w1 v hs nm kd := by
  have hlt := h.lt
  obtain ⟨h1, h2, h3, h4⟩ := h
  refine ⟨h1, by rw [hb.block Bb hlt, h2], ?_, h4.trans (hb.mono h4.size)⟩
  obtain ⟨hl, h⟩ := h3
  refine ⟨hl, ?_⟩
  rcases h with h | ⟨g, cap, cur, e1, e2, e3, e4⟩
  · exact .inl h
  · refine .inr ⟨g, cap, cur, e1, e2, ?_, e4⟩
    have : g < wr.heap.size := by
      by_cases hh : g < wr.heap.size
      · exact hh
      · rw [Array.getElem?_eq_none (by omega)] at e3; simp at e3
    rw [hb.block g this, e3]

theorem RMem.store {w0 wr : World} {Bb : Nat} {v : Value} {hs : List Hop} {nm kd : ByteArray} (h : RMem w0 Bb wr v hs nm kd) (nm' kd' : ByteArray) :
    RMem w0 Bb ((wr.setCell ⟨Bb, 0, none⟩ (.string nm')).setCell ⟨Bb, 1, none⟩ (.string kd')) v hs nm' kd' := by
  obtain ⟨h1, h2, h3, h4⟩ := h
  have e1 := heap_setCell_same wr Bb 0 _ 33 (.string nm') h2
  have e2 := heap_setCell_same _ Bb 1 _ 33 (.string kd') e1
  refine ⟨h1, ?_, ownsRow_setCell_below (ownsRow_setCell_below h3 (a := ⟨Bb, 0, none⟩) (by simp) _) (a := ⟨Bb, 1, none⟩) (by simp) _, (h4.setCell (p := ⟨Bb, 0, none⟩) h1 _).setCell (p := ⟨Bb, 1, none⟩) h1 _⟩
  rw [e2]; rfl

/-- the numbers of the loop. -/
def RInv (s : ByteArray) (pf : Bool) (res : List Hop × Nat × Nat) (l r l' r' : Nat) (hs : List Hop) : Prop :=
  l' ≤ l ∧ l ≤ r ∧ r ≤ r' ∧ r' ≤ s.size ∧ hs.length + (r - l) ≤ s.size ∧ ∃ f, Pl.rlF s.data.toList pf f l r l' r' hs = some res

theorem rinv_pct {s : ByteArray} {pf : Bool} {res : List Hop × Nat × Nat} {l r l' r' : Nat} {hs : List Hop} (h : RInv s pf res l r l' r' hs)
    (p1 : (Pl.pHop s.data.toList l' r).isEmpty = false) (p2 : (l : Int) < Pl.pPos s.data.toList l' r) (hb : pf = true ∨ ((Pl.bName s.data.toList l r').isEmpty = true ∨ ¬ Pl.bPos s.data.toList l r' + 1 < (r : Int))) :
    ∃ i : Nat, Pl.pPos s.data.toList l' r = (i : Int) ∧ l < i ∧ i < r ∧ RInv s pf res l i l r' (hs ++ [(Pl.pHop s.data.toList l' r, Pl.domain)]) := by
  obtain ⟨h1, h2, h3, h4, h5, f, h6⟩ := h
  have hi : ∃ i, Pl.lspI s.data.toList l' r = some i := by
    cases hc : Pl.lspI s.data.toList l' r with
    | none => simp [Pl.pPos, hc] at p2; omega
    | some i => exact ⟨i, rfl⟩
  obtain ⟨i, hi⟩ := hi
  obtain ⟨g1, g2, g3⟩ := Pl.lspI_range _ _ _ _ hi
  have e : Pl.pPos s.data.toList l' r = (i : Int) := by simp [Pl.pPos, hi]
  refine ⟨i, e, by omega, g2, Nat.le_refl _, by omega, by omega, h4, by rw [List.length_append]; simp only [List.length_cons, List.length_nil]; omega, ?_⟩
  cases f with
  | zero => simp [Pl.rlF] at h6
  | succ f =>
    refine ⟨f, ?_⟩
    unfold Pl.rlF at h6
    rw [if_pos] at h6
    · rw [e] at h6
      simpa using h6
    · rw [p1]
      rcases hb with hb | hb | hb
      · simp [p2, hb]
      · simp [p2, hb]
      · simp [p2, hb]

theorem rinv_bang {s : ByteArray} {pf : Bool} {res : List Hop × Nat × Nat} {l r l' r' : Nat} {hs : List Hop} (h : RInv s pf res l r l' r' hs)
    (b1 : (Pl.bName s.data.toList l r').isEmpty = false) (b2 : Pl.bPos s.data.toList l r' + 1 < (r : Int)) (hp : pf = false ∨ ((Pl.pHop s.data.toList l' r).isEmpty = true ∨ ¬ (l : Int) < Pl.pPos s.data.toList l' r)) :
    ∃ i : Nat, Pl.bPos s.data.toList l r' = (i : Int) ∧ l ≤ i ∧ i + 1 < r ∧ RInv s pf res (i + 1) r l' r (hs ++ [(Pl.bName s.data.toList l r', Pl.bKind s.data.toList l r')]) := by
  obtain ⟨h1, h2, h3, h4, h5, f, h6⟩ := h
  have hn : 0 ≤ Pl.bi s.data.toList l r' := by
    by_cases hn : 0 ≤ Pl.bi s.data.toList l r'
    · exact hn
    · simp [Pl.bName, Pl.bOk, hn] at b1
  obtain ⟨i, hi⟩ : ∃ i : Nat, Pl.bPos s.data.toList l r' = (i : Int) ∧ l ≤ i := by
    refine ⟨l + (Pl.bi s.data.toList l r').toNat, ?_, by omega⟩
    unfold Pl.bPos
    rw [if_neg (by omega)]
    omega
  refine ⟨i, hi.1, hi.2, by omega, by omega, by omega, Nat.le_refl _, by omega, by rw [List.length_append]; simp only [List.length_cons, List.length_nil]; omega, ?_⟩
  cases f with
  | zero => simp [Pl.rlF] at h6
  | succ f =>
    refine ⟨f, ?_⟩
    unfold Pl.rlF at h6
    rw [if_neg, if_pos] at h6
    · rw [hi.1] at h6
      rw [show ((i : Int) + 1).toNat = i + 1 by omega] at h6
      exact h6
    · simp [b1, b2]
    · rw [b1]
      rcases hp with hp | hp | hp
      · simp [b2, hp]
      · simp [hp]
      · simp only [hp, decide_false, Bool.and_false, Bool.false_and]; decide

theorem rinv_end {s : ByteArray} {pf : Bool} {res : List Hop × Nat × Nat} {l r l' r' : Nat} {hs : List Hop} (h : RInv s pf res l r l' r' hs)
    (hb : (Pl.bName s.data.toList l r').isEmpty = true ∨ ¬ Pl.bPos s.data.toList l r' + 1 < (r : Int)) (hp : (Pl.pHop s.data.toList l' r).isEmpty = true ∨ ¬ (l : Int) < Pl.pPos s.data.toList l' r) :
    res = (hs, l, r) := by
  obtain ⟨h1, h2, h3, h4, h5, f, h6⟩ := h
  cases f with
  | zero => simp [Pl.rlF] at h6
  | succ f =>
    unfold Pl.rlF at h6
    have e1 : (!(Pl.bName s.data.toList l r').isEmpty && decide (Pl.bPos s.data.toList l r' + 1 < (r : Int))) = false := by
      rcases hb with hb | hb
      · simp [hb]
      · simp only [hb, decide_false, Bool.and_false]
    have e2 : (!(Pl.pHop s.data.toList l' r).isEmpty && decide ((l : Int) < Pl.pPos s.data.toList l' r)) = false := by
      rcases hp with hp | hp
      · simp [hp]
      · simp only [hp, decide_false, Bool.and_false]
    rw [e1, e2] at h6
    simp only [Bool.false_and, Bool.false_eq_true, if_false, Option.some.injEq] at h6
    exact h6.symm

end Go.Proofs.Qxb6001516a
