/-
  WALKS of seat b6001400a, three: a row that '[]byte(s)' has laid: told by the list of its bytes.
-/
import Derived.Test.Qxb6001400aW2
namespace Go.Proofs.Qxb6001400a
open Go.RowKit
set_option linter.unusedVariables false

/-- block g is a row of bytes that begins with l; no cell of it is frozen. -/
def MRow (wr : World) (g : Nat) (l : List UInt8) : Prop :=
  ∃ C m, wr.heap[g]? = some (.cells C 5 (m, m + 1)) ∧ C.size = m ∧ l.length ≤ m ∧ ∀ j (h : j < l.length), C[j]? = some (.int .u8 (l[j].toNat : Int))

theorem MRow.cell {wr : World} {g : Nat} {l : List UInt8} (h : MRow wr g l) (j : Nat) (hj : j < l.length) : wr.cell? ⟨g, j, none⟩ = some (.int .u8 (l[j].toNat : Int)) := by
  obtain ⟨C, m, hg, hm, hl, hc⟩ := h
  rw [cell_of_row wr g j C 5 _ hg, hc j hj]

theorem MRow.frozen {wr : World} {g : Nat} {l : List UInt8} (h : MRow wr g l) (j : Nat) (hj : j < l.length) : wr.frozen? ⟨g, j, none⟩ = false := by
  obtain ⟨C, m, hg, hm, hl, hc⟩ := h
  simp [World.frozen?, hg]
  omega

theorem MRow.stored {wr : World} {g : Nat} {l : List UInt8} (h : MRow wr g l) (j : Nat) (b : UInt8) : MRow (wr.setCell ⟨g, j, none⟩ (.int .u8 (b.toNat : Int))) g (l.set j b) := by
  obtain ⟨C, m, hg, hm, hl, hc⟩ := h
  refine ⟨C.setIfInBounds j (.int .u8 (b.toNat : Int)), m, ?_, by simpa using hm, by simpa using hl, ?_⟩
  · rw [setCell_eq_setRow wr g j C 5 _ _ hg]
    exact setRow_heap wr g C _ 5 _ hg
  · intro k hk
    have hk' : k < l.length := by simpa using hk
    rw [Array.getElem?_setIfInBounds, List.getElem_set]
    by_cases e : j = k
    · subst e
      rw [if_pos rfl, if_pos (by omega), if_pos rfl]
    · rw [if_neg e, if_neg e]
      exact hc k hk'

theorem MRow.of_block {w w' : World} {g : Nat} {l : List UInt8} (h : MRow w g l) (e : w'.heap[g]? = w.heap[g]?) : MRow w' g l := by
  obtain ⟨C, m, hg, hr⟩ := h
  exact ⟨C, m, by rw [e, hg], hr⟩

theorem MRow.drew {w : World} {g : Nat} {l : List UInt8} (h : MRow w g l) : MRow w.drew g l := h

/-- what '[]byte(s)' lays. -/
theorem mrow_new (w : World) (s : ByteArray) (cap : Nat) : MRow (w.alloc (.cells (bytesRow s cap) 5 ((bytesRow s cap).size, (bytesRow s cap).size + 1))) w.heap.size s.data.toList := by
  refine ⟨_, _, heap_alloc_new w _, rfl, ?_, ?_⟩
  · simp [bytesRow]
  · intro j hj
    have hj' : j < s.data.size := by simpa using hj
    rw [bytesRow_at s cap j hj']
    simp

/-- 'string(b)' -/
theorem MRow.back {wr : World} {g : Nat} {l : List UInt8} (h : MRow wr g l) (cap : Nat) : (convert 27 9 (.slice (some ⟨g, 0, none⟩) l.length cap)).run Try.prog wr = .ok (.string ⟨l.toArray⟩) wr :=
  run_convert_bytes_back (P := Try.prog) wr 27 9 5 ⟨g, 0, none⟩ cap l Try.underlying27 Try.underlying5 Try.underlying9 (by
    intro j hj
    have ha : (⟨g, 0, none⟩ : Addr).add j = ⟨g, j, none⟩ := by unfold Addr.add; split <;> simp_all
    rw [ha]
    exact h.cell j hj)

end Go.Proofs.Qxb6001400a
