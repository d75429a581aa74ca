/-
  WALKS of seat b6001516a, four: a slice of bytes that the call itself makes by append, and the string of it.
-/
import Derived.Test.Qxb6001516aW3
import Derived.Laws.BytesArg
import Derived.Laws.IdiomStrings
namespace Go.Proofs.Qxb6001516a
open Go.RowKit
set_option linter.unusedVariables false

theorem Try.info5 : (Try.prog.info? 5).map (fun i => (i.zero, i.size, i.bytes)) = some (some (.int .u8 0), 1, 1) := by kernel_rfl

/-- the slice v is the call's own and holds the bytes l. -/
def Own (B : Nat) (w : World) (v : Value) (l : List UInt8) : Prop := w.ownsRow B 5 1 v l.length (Lib.byteCells l)

theorem Own.nil (B : Nat) (w : World) : Own B w (.slice none 0 0) [] := World.ownsRow_nil _ _ _ _

/-- it is a slice; its memory is younger than B. -/
theorem Own.shape {B : Nat} {w : World} {v : Value} {l : List UInt8} (h : Own B w v l) : (v = .slice none 0 0 ∧ l = []) ∨ ∃ g cap, v = .slice (some ⟨g, 0, none⟩) l.length cap ∧ B ≤ g := by
  rcases h.2 with ⟨h1, h2⟩ | ⟨g, cap, cur, h1, h2, _⟩
  · exact .inl ⟨h1, List.length_eq_zero_iff.1 h2⟩
  · exact .inr ⟨g, cap, h1, h2⟩

theorem Own.ownBlock_ge {B : Nat} {w : World} {v : Value} {l : List UInt8} (h : Own B w v l) : ∀ k, v.ownBlock = some k → B ≤ k := by
  intro k hk
  rcases h.shape with ⟨rfl, _⟩ | ⟨g, cap, rfl, hg⟩
  · simp [Value.ownBlock] at hk
  · simp [Value.ownBlock] at hk; omega

/-- it stays as it is where only younger memory turns. -/
theorem Own.below {B : Nat} {w w' : World} {v : Value} {l : List UInt8} (h : Own B w v l) (hb : Below w.heap.size w w') : Own B w' v l := by
  obtain ⟨hl, h⟩ := h
  refine ⟨hl, ?_⟩
  rcases h with h | ⟨g, cap, cur, h1, h2, h3, h4⟩
  · exact .inl h
  · refine .inr ⟨g, cap, cur, h1, h2, ?_, h4⟩
    have : g < w.heap.size := by
      by_cases hh : g < w.heap.size
      · exact hh
      · rw [Array.getElem?_eq_none (by omega)] at h3; simp at h3
    rw [hb.block g this, h3]

/-- 'string(v)' -/
theorem Own.back {B : Nat} {w : World} {v : Value} {l : List UInt8} (h : Own B w v l) : (convert 27 9 v).run Try.prog w = .ok (.string ⟨l.toArray⟩) w := by
  rcases h.shape with ⟨rfl, rfl⟩ | ⟨g, cap, rfl, hg⟩
  · exact run_convert_bytes_nil (P := Try.prog) w 27 5 Try.underlying27 Try.underlying5 0 0 9 Try.underlying9
  · refine run_convert_bytes_back (P := Try.prog) w 27 9 5 ⟨g, 0, none⟩ cap l Try.underlying27 Try.underlying5 Try.underlying9 (by
      intro j hj
      have ha : (⟨g, 0, none⟩ : Addr).add j = ⟨g, j, none⟩ := by unfold Addr.add; split <;> simp_all
      have hc := World.ownsRow.cellAt h j (by omega)
      rw [ha, hc]
      simp [Lib.byteCells, List.getElem?_eq_getElem hj])

/-- behind an append of the bytes m. -/
theorem Own.of_append {B : Nat} {w w1 : World} {v v' : Value} {l m : List UInt8} (h : w1.ownsRow B 5 1 v' (l.length + m.length) (Lib.byteCells l ++ Lib.byteCells m)) : Own B w1 v' (l ++ m) := by
  unfold Own
  rw [List.length_append]
  have e : Lib.byteCells (l ++ m) = Lib.byteCells l ++ Lib.byteCells m := by simp [Lib.byteCells]
  rw [e]; exact h

end Go.Proofs.Qxb6001516a
