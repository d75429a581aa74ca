/-
  A SLICE OF STRINGS THAT CAME IN, from its reading.
-/
import Derived.Test.Qxb6001516aW6
import Derived.ProofKit
import Derived.OpenShut
import Derived.SliceStrings
namespace Go.Proofs.Qxb6001516a
open Go.ChangeShapes Go.WideShapes Go.ChangeAt Go.RowKit
set_option linter.unusedVariables false

theorem strs_of {W : World} {x : Addr} {len cap : Nat} {ss : List ByteArray} (hl : len ≤ cap) (hm : cap ≤ maxLen) (hz : ss.length = cap)
    (hcell : ∀ i, i < ss.length → W.cell? (x.add i) = some (.string (ss.getD i ByteArray.empty))) (hws : ∀ s ∈ ss, s.size ≤ maxLen) : IsStrs W (some x) len (ss.take len) := by
  refine ⟨by rw [List.length_take]; omega, by omega, fun s hs => hws s (List.mem_of_mem_take hs), fun hne => ?_⟩
  have h0 := hcell 0 (by omega)
  obtain ⟨b, off, sp⟩ := x
  cases sp with
  | some j =>
    exfalso
    simp [Addr.add, World.cell?] at h0
    split at h0 <;> simp_all
  | none =>
    refine ⟨b, off, rfl, ?_, fun k hk => ?_⟩
    · have e : (⟨b, off, none⟩ : Addr).add 0 = ⟨b, off, none⟩ := rfl
      rw [e] at h0
      by_cases hlt : b < W.heap.size
      · exact hlt
      · have e : W.heap[b]? = none := Array.getElem?_eq_none (by omega)
        simp [World.cell?, e] at h0
    · simp only [List.length_take] at hk
      have h := hcell k (by omega)
      have e : (⟨b, off, none⟩ : Addr).add k = ⟨b, off + k, none⟩ := by unfold Addr.add; split <;> simp_all
      rw [e] at h
      rw [h]
      simp [List.getD, List.getElem?_eq_getElem (show k < ss.length by omega)]

theorem strs_nil (W : World) : IsStrs W none 0 [] := ⟨rfl, Nat.zero_le _, by simp, fun h => absurd rfl h⟩

theorem strs_open {H : Type} {enc : TypeId × Value → H} {W : World} {a0 : Option Addr} {len cap : Nat} {d : DataW H} {p : List MemPlace}
    (h : DataW.Trod enc Try.prog W 0 (fun _ => true) true 22 (.slice a0 len cap) d p) : ∃ ss, IsStrs W a0 len ss := by
  obtain ⟨fuel, hf⟩ := h
  rcases open_strings Try.underlying22 Try.underlying9 (by kernel_rfl) hf with ⟨hcs, _⟩ | ⟨x, l, c, ss, hcs, _, hl, hm, hz, _, hcell, hws⟩
  · simp [Value.cells] at hcs
    obtain ⟨rfl, rfl, rfl⟩ := hcs
    exact ⟨[], strs_nil W⟩
  · simp [Value.cells] at hcs
    obtain ⟨rfl, rfl, rfl⟩ := hcs
    exact ⟨_, strs_of hl hm (by simpa using hz) hcell hws⟩

end Go.Proofs.Qxb6001516a
