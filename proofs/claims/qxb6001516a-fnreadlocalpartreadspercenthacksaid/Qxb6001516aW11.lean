/-
  WALKS of seat b6001516a, eleven: what the two laws on paths share.
-/
import Derived.Test.Qxb6001516aNoStepW
import Derived.Test.Qxb6001516aW10
namespace Go.Proofs.Qxb6001516a
open Go.RowKit
set_option linter.unusedVariables false

/-- the names as lists of bytes -/
def nms (ss : List ByteArray) : List (List UInt8) := ss.map (·.data.toList)

theorem nms_take (ss : List ByteArray) (k : Nat) (h : k < ss.length) : nms (ss.take (k + 1)) = nms (ss.take k) ++ [ss[k].data.toList] := by
  unfold nms
  rw [List.take_succ_eq_append_getElem h, List.map_append]; rfl

theorem nms_plain {dots : Bool} {ss : List ByteArray} (h : ∀ j (h : j < ss.length), Pl.Plain dots ss[j].data.toList) : ∀ n ∈ nms ss, Pl.Plain dots n := by
  intro n hn
  unfold nms at hn
  obtain ⟨x, hx, rfl⟩ := List.mem_map.1 hn
  obtain ⟨j, hj, rfl⟩ := List.getElem_of_mem hx
  exact h j hj

theorem hasB_no {l : List UInt8} {c : UInt8} (h : hasB l c = false) : ∀ x ∈ l, x ≠ c := by
  intro x hx e
  unfold hasB at h
  rw [List.any_eq_false] at h
  exact h x hx (by simpa using e)

/-- the law's one row. -/
def One (w0 wr : World) (lo : Value) (L : List UInt8) : Prop := Own w0.heap.size wr lo L ∧ Below w0.heap.size w0 wr

theorem one_nil (w0 : World) : One w0 w0 (.slice none 0 0) [] := ⟨Own.nil _ _, Below.refl _ _⟩
theorem one_lo {w0 wr w1 : World} {lo v' : Value} {L m : List UInt8} (h : One w0 wr lo L) (hown : Own w0.heap.size w1 v' (L ++ m)) (hg : wr.grownBy w1 lo.ownBlock) : One w0 w1 v' (L ++ m) :=
  ⟨hown, h.2.grown hg h.2.size h.1.ownBlock_ge⟩
theorem one_alloc {w0 wr : World} {lo : Value} {L : List UInt8} (h : One w0 wr lo L) (o : Obj) : One w0 (wr.alloc o) lo L := ⟨h.1.alloc o, h.2.alloc h.2.size o⟩
theorem one_byte {w0 wr w1 : World} {lo v' : Value} {L : List UInt8} {o : Obj} (c : UInt8) (h : One w0 wr lo L)
    (hown : w1.ownsRow w0.heap.size 5 1 v' (L.length + 1) (Lib.byteCells L ++ [.int .u8 (c.toNat : Int)])) (hg : (wr.alloc o).grownBy w1 lo.ownBlock) : One w0 w1 v' (L ++ [c]) :=
  one_lo (one_alloc h o) (Own.of_append (w := wr) (v := lo) (m := [c]) hown) hg

/-- what is read back: the names, each with the kind, and the mailbox. -/
def Back (ss : List ByteArray) (s : ByteArray) (kd : ByteArray) (W : World) (e : Ending) (w' : World) : Prop :=
  ∃ a cap, e = .returned (.tuple #[.slice a ss.length cap, .string s]) ∧ Below W.heap.size W w' ∧
    (ss.length ≠ 0 → ∃ g, a = some ⟨g, 0, none⟩ ∧ ∀ k (h : k < ss.length), w'.cell? ⟨g, k * 2, none⟩ = some (.string ss[k]) ∧ w'.cell? ⟨g, k * 2 + 1, none⟩ = some (.string kd))

theorem read_call (ss : List ByteArray) (s : ByteArray) (kd X : List UInt8) (pf : Bool) (f l r : Nat) (hX : X.length ≤ 2097152)
    (hf : Pl.rlF X pf f 0 X.length 0 X.length [] = some ((nms ss).map (fun n => (n, kd)), l, r)) (hseg : Pl.seg X l r = s.data.toList) (W : World) :
    Calls Try.prog 12 #[.string ⟨X.toArray⟩, .bool pf, .slice none 0 0] W fun e w' => Back ss s ⟨kd.toArray⟩ W e w' := by
  refine (zzRead_any ⟨X.toArray⟩ pf f ((nms ss).map (fun n => (n, kd)), l, r) W (by rw [size_of_list]; exact hX) (by rw [size_of_list]; exact hf)).mono ?_
  rintro e w' ⟨v, rfl, hown, hb⟩
  have hl : ((nms ss).map (fun n => (n, kd))).length = ss.length := by simp [nms]
  have hex : (⟨X.toArray⟩ : ByteArray).extract l r = s := by
    have := seg_extract ⟨X.toArray⟩ l r
    rw [show (⟨X.toArray⟩ : ByteArray).data.toList = X from rfl, hseg] at this
    have h2 := Lib.mk_data ((⟨X.toArray⟩ : ByteArray).extract l r)
    rw [this, Lib.mk_data] at h2
    exact h2.symm
  obtain ⟨a, cap, rfl, hc⟩ := (hopsAt_of hown).shape
  refine ⟨a, cap, ?_, hb, fun h0 => ?_⟩
  · simp only [hl, hex]
  · obtain ⟨g, rfl, hg⟩ := hc (by rw [hl]; exact h0)
    refine ⟨g, rfl, fun k hk => ?_⟩
    have := hg k (by rw [hl]; exact hk)
    simp only [nms, List.map_map, List.getElem_map, Function.comp, Lib.mk_data] at this
    exact this

end Go.Proofs.Qxb6001516a
