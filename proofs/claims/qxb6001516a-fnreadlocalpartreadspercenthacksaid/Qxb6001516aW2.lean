/-
  WALKS of seat b6001516a, two: unquote.
-/
import Derived.Test.Qxb6001516aW1
import Derived.Test.Qxb6001516aShelf2
namespace Go.Proofs.Qxb6001516a
open Go.RowKit
set_option linter.unusedVariables false

/-- IndexByte < 0: the byte is nowhere. -/
theorem idx_none (l : List UInt8) (c : UInt8) : (Lib.indexByte l c < 0 → ∀ x ∈ l, x ≠ c) ∧ (¬ Lib.indexByte l c < 0 → ∃ x ∈ l, x = c) := by
  induction l with
  | nil => simp [Lib.indexByte]
  | cons b l ih =>
    have hge := Lib.indexByte_ge l c
    unfold Lib.indexByte
    by_cases hb : b = c
    · subst hb; simp
    · have hb' : (b == c) = false := by simpa using hb
      rw [hb']
      by_cases h1 : Lib.indexByte l c = -1
      · simp [h1, hb]
        have := ih.1 (by omega)
        intro x hx
        exact this x hx
      · simp only [Bool.false_eq_true, if_false, beq_iff_eq, h1]
        refine ⟨fun h => by omega, fun h => ?_⟩
        obtain ⟨x, hx, e⟩ := ih.2 (by omega)
        exact ⟨x, by simp [hx], e⟩

/-- a builder stays as it is where only younger memory turns. -/
theorem builder_below {T e : TypeId} {B b : Nat} {p : Value} {bs : List Value} {w w' : World} (h : Lib.BuilderAt T e B b p bs w) (hb : Below w.heap.size w w') : Lib.BuilderAt T e B b p bs w' := by
  obtain ⟨hB, v, hbk, hown, hne⟩ := h
  have lt : ∀ k o, w.heap[k]? = some o → k < w.heap.size := fun k o e => by
    by_cases h : k < w.heap.size
    · exact h
    · rw [Array.getElem?_eq_none (by omega)] at e; simp at e
  refine ⟨hB, v, by rw [hb.block b (lt b _ hbk), hbk], ?_, hne⟩
  obtain ⟨hl, h⟩ := hown
  refine ⟨hl, ?_⟩
  rcases h with h | ⟨g, cap, cur, h1, h2, h3, h4⟩
  · exact .inl h
  · exact .inr ⟨g, cap, cur, h1, h2, by rw [hb.block g (lt g _ h3), h3], h4⟩

theorem cells_snoc (d : List UInt8) (c : UInt8) : Lib.byteCells d ++ [.int .u8 (c.toNat : Int)] = Lib.byteCells (d ++ [c]) := by
  simp [Lib.byteCells]
theorem cells_len (d : List UInt8) : (Lib.byteCells d).length = d.length := by simp [Lib.byteCells]

set_option maxHeartbeats 1000000 in
theorem unquote_plain (q : ByteArray) (w : World) (hs : q.size ≤ 4194304) (hp : ∀ c ∈ q.data.toList, c ≠ 92) :
    Calls Try.prog 24 #[.string q] w fun e w' => e = .returned (.string ⟨(Pl.unq q.data.toList).toArray⟩) ∧ Below w.heap.size w w' := by
  rw [Pl.unq_plain _ hp, Lib.mk_data]
  have hi : Lib.indexByte q.data.toList (Int.toNat 92).toUInt8 < 0 := by
    by_cases h : Lib.indexByte q.data.toList 92 < 0
    · exact h
    · obtain ⟨x, hx, e⟩ := (idx_none q.data.toList 92).2 h
      exact absurd e (hp x hx)
  have hC := hide (Try.strings_IndexByte q 92 w)
  clear hp
  generalize Lib.indexByte q.data.toList (Int.toNat 92).toUInt8 = z at hi hC
  go_enter Try.func24, Try.ntmps24
  go_wp2_with fail
  refine (unhide hC).mono ?_
  rintro e w' ⟨rfl, rfl⟩
  go_wp2
  go_ret
  exact ⟨rfl, Below.refl _ _⟩

/-- the round's relation: so much is written, and what is left. -/
def UInv (q : ByteArray) (k : Nat) (d : List UInt8) : Prop :=
  k ≤ q.size ∧ d.length ≤ k ∧ d ++ Pl.unq (q.data.toList.drop k) = Pl.unq q.data.toList ∧ Pl.paired (q.data.toList.drop k) = true

theorem uinv_plain {q : ByteArray} {k : Nat} {d : List UInt8} (h : UInv q k d) (hlt : k < q.size) (hc : ¬ q[k].toNat = 92) : UInv q (k + 1) (d ++ [q[k]]) := by
  obtain ⟨h1, h2, h3, h4⟩ := h
  have hc' : q[k] ≠ 92 := fun e => hc ((byte_eq _ 92 (by omega)).2 e)
  rw [drop_at q k hlt] at h3 h4
  rw [Pl.unq_other _ _ hc'] at h3
  rw [Pl.paired_other _ _ hc'] at h4
  refine ⟨by omega, by simp only [List.length_append, List.length_cons, List.length_nil]; omega, by simpa using h3, h4⟩

theorem uinv_esc {q : ByteArray} {k : Nat} {d : List UInt8} (h : UInv q k d) (hlt : k < q.size) (hc : q[k].toNat = 92) : ∃ h2 : k + 1 < q.size, UInv q (k + 2) (d ++ [q[k + 1]]) := by
  obtain ⟨h1, h2, h3, h4⟩ := h
  have hc' : q[k] = 92 := (byte_eq _ 92 (by omega)).1 hc
  rw [drop_at q k hlt, hc'] at h3 h4
  by_cases hl : k + 1 < q.size
  · refine ⟨hl, ?_⟩
    rw [drop_at q (k + 1) hl] at h3 h4
    rw [Pl.unq_bs] at h3
    rw [Pl.paired_bs] at h4
    exact ⟨by omega, by simp only [List.length_append, List.length_cons, List.length_nil]; omega, by simpa using h3, h4⟩
  · rw [drop_end q (k + 1) (by omega), Pl.paired_bs1] at h4
    simp at h4

theorem uinv_end {q : ByteArray} {k : Nat} {d : List UInt8} (h : UInv q k d) (hge : ¬ k < q.size) : d = Pl.unq q.data.toList := by
  obtain ⟨h1, h2, h3, h4⟩ := h
  rw [drop_end q k (by omega)] at h3
  rw [← h3]; simp [Pl.unq]

set_option maxHeartbeats 1000000 in
theorem unquote_esc (q : ByteArray) (w : World) (hs : q.size ≤ 4194304) (hpair : Pl.paired q.data.toList = true) (hq : ∃ c ∈ q.data.toList, c = 92) :
    Calls Try.prog 24 #[.string q] w fun e w' => e = .returned (.string ⟨(Pl.unq q.data.toList).toArray⟩) ∧ Below w.heap.size w w' := by
  have hi : ¬ Lib.indexByte q.data.toList (Int.toNat 92).toUInt8 < 0 := by
    intro h
    obtain ⟨x, hx, e⟩ := hq
    exact (idx_none q.data.toList 92).1 h x hx e
  have hC := hide (Try.strings_IndexByte q 92 w)
  clear hq
  generalize Lib.indexByte q.data.toList (Int.toNat 92).toUInt8 = z at hi hC
  have HP := hide hpair
  clear hpair
  go_enter Try.func24, Try.ntmps24
  go_wp2_with fail
  refine (unhide hC).mono ?_
  rintro e w' ⟨rfl, rfl⟩
  go_wp2_with fail
  refine (Try.Builder_Grow_fresh w'.heap.size w'.heap.size q.size _ (Nat.le_refl _) (heap_alloc_new _ _) (by simp) (by omega)).mono ?_
  rintro e w1 ⟨rfl, hbd, hb1⟩
  have hb1' : Below w'.heap.size w' w1 := ((Below.refl _ w').alloc (Nat.le_refl _) _).trans hb1
  go_wp2
  go_loopw [4] (fun i wr => ∃ (k : Nat) (d : List UInt8), i = .int .i64 k ∧ Lib.BuilderAt 46 5 w'.heap.size w'.heap.size (.pointer (some ⟨w'.heap.size, 0, none⟩)) (Lib.byteCells d) wr ∧ Below w'.heap.size w' wr ∧ UInv q k d) (fun i _ => q.size - (intOf i).toNat)
  case atStart => exact ⟨0, [], rfl, hbd, hb1', by omega, by simp, by simp, unhide HP⟩
  case round =>
    clear hbd hb1 hb1'
    obtain ⟨k, d, rfl, hbd, hb, hinv⟩ := hrel
    have hdl : d.length ≤ k := hinv.2.1
    by_cases hlt : k < q.size
    · by_cases hc : q[k].toNat = 92
      · have q1 : (((q[k].toNat : Nat) : Int) == 92) = true := beq_iff_eq.2 (by omega)
        obtain ⟨h2, hn⟩ := uinv_esc hinv hlt hc
        clear hc hinv
        go_wp2_with fail
        refine (Try.Builder_WriteByte w'.heap.size w'.heap.size (Lib.byteCells d) _ _ (.inr hbd) (by rw [cells_len]; omega) hb.size).mono ?_
        rintro e w2 ⟨rfl, hbd2, hb2⟩
        rw [cells_snoc] at hbd2
        go_wp2
        go_roundw
        case rel => exact ⟨k + 2, _, by go_num, hbd2, hb.trans hb2, hn⟩
        case measure => simp [intOf]; omega
      · have q1 : (((q[k].toNat : Nat) : Int) == 92) = false := beq_eq_false_iff_ne.2 (by omega)
        have hn := uinv_plain hinv hlt hc
        clear hinv
        go_wp2_with fail
        refine (Try.Builder_WriteByte w'.heap.size w'.heap.size (Lib.byteCells d) _ _ (.inr hbd) (by rw [cells_len]; omega) hb.size).mono ?_
        rintro e w2 ⟨rfl, hbd2, hb2⟩
        rw [cells_snoc] at hbd2
        go_wp2
        go_roundw
        case rel => exact ⟨k + 1, _, by go_num, hbd2, hb.trans hb2, hn⟩
        case measure => simp [intOf]; omega
    · have hd := uinv_end hinv hlt
      clear hinv
      subst hd
      go_wp2_with fail
      refine (Try.Builder_String_any w'.heap.size w'.heap.size _ _ (.inr hbd) hb.size).mono ?_
      rintro e w2 ⟨rfl, hb2⟩
      go_wp2
      go_ret
      exact ⟨rfl, hb.trans hb2⟩

/-- unquote -/
theorem unquote_any (q : ByteArray) (w : World) (hs : q.size ≤ 4194304) (hpair : Pl.paired q.data.toList = true) :
    Calls Try.prog 24 #[.string q] w fun e w' => e = .returned (.string ⟨(Pl.unq q.data.toList).toArray⟩) ∧ Below w.heap.size w w' := by
  by_cases h : ∃ c ∈ q.data.toList, c = 92
  · exact unquote_esc q w hs hpair h
  · exact unquote_plain q w hs (fun c hc e => h ⟨c, hc, e⟩)

end Go.Proofs.Qxb6001516a
