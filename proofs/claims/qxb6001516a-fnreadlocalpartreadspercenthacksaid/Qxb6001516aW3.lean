/-
  WALKS of seat b6001516a, three: unquoteWords.
-/
import Derived.Test.Qxb6001516aW2
import Derived.ShutString
namespace Go.Proofs.Qxb6001516a
open Go.RowKit
set_option linter.unusedVariables false

theorem idx34 (s : ByteArray) : (Lib.indexByte s.data.toList (Int.toNat 34).toUInt8 < 0 → ∀ x ∈ s.data.toList, x ≠ 34) ∧ ((∀ x ∈ s.data.toList, x ≠ 34) → Lib.indexByte s.data.toList (Int.toNat 34).toUInt8 < 0) := by
  refine ⟨(idx_none s.data.toList 34).1, fun h => ?_⟩
  by_cases hh : Lib.indexByte s.data.toList 34 < 0
  · exact hh
  · obtain ⟨x, hx, e⟩ := (idx_none s.data.toList 34).2 hh
    exact absurd e (h x hx)

set_option maxHeartbeats 1000000 in
/-- no double quote: the text itself. -/
theorem words_none (s : ByteArray) (w : World) (hp : ∀ c ∈ s.data.toList, c ≠ 34) :
    Calls Try.prog 19 #[.string s] w fun e w' => e = .returned (.string s) ∧ Below w.heap.size w w' := by
  have hi := (idx34 s).2 hp
  have hC := hide (Try.strings_IndexByte s 34 w)
  clear hp
  generalize Lib.indexByte s.data.toList (Int.toNat 34).toUInt8 = z at hi hC
  go_enter Try.func19, Try.ntmps19
  go_wp2_with fail
  refine (unhide hC).mono ?_
  rintro e w' ⟨rfl, rfl⟩
  go_wp2
  go_ret
  exact ⟨rfl, Below.refl _ _⟩

/-- what a quoted string at place k says, in places. -/
theorem quoted_at {s : ByteArray} {k f : Nat} {o : List UInt8} (hlt : k < s.size) (hc : s[k].toNat = 34) (h : Pl.uqF f (s.data.toList.drop k) = some o) :
    ∃ (n g : Nat) (o' : List UInt8), cloF s (k + 1) = ((k + 1 + n : Nat) : Int) ∧ k + 1 + n < s.size ∧ Pl.uqF g (s.data.toList.drop (k + 1 + n + 1)) = some o' ∧
      o = Pl.unq (s.extract (k + 1) (k + 1 + n)).data.toList ++ o' ∧ Pl.paired (s.extract (k + 1) (k + 1 + n)).data.toList = true := by
  have hc' : s[k] = 34 := (byte_eq _ 34 (by omega)).1 hc
  rw [drop_at s k hlt, hc'] at h
  obtain ⟨g, n, o', rfl, h1, h2, h3⟩ := Pl.uqF_q h
  obtain ⟨h4, h5, h6⟩ := Pl.closeAt_spec _ _ n (Nat.le_refl _) h1
  simp only [List.length_drop, ← Lib.size_eq] at h4
  have e1 : (s.extract (k + 1) (k + 1 + n)).data.toList = (s.data.toList.drop (k + 1)).take n := by
    rw [Lib.extract_data]
    congr 1
    omega
  refine ⟨n, g, o', ?_, by omega, ?_, ?_, ?_⟩
  · unfold cloF
    rw [h1]
    simp
  · rw [List.drop_drop] at h2
    rw [show k + 1 + n + 1 = k + 1 + (n + 1) by omega]
    exact h2
  · rw [e1]; exact h3
  · rw [e1]; exact h6

set_option maxHeartbeats 1000000 in
/-- one quoted string. -/
theorem words_one (s : ByteArray) (n : Nat) (w : World) (hs : s.size ≤ 4194304) (hi : ¬ Lib.indexByte s.data.toList (Int.toNat 34).toUInt8 < 0) (h0 : 0 < s.size) (hq : s[0].toNat = 34) (hn : cloF s 1 = ((n + 1 : Nat) : Int)) (hsz : s.size = n + 2)
    (hp : Pl.paired (s.extract 1 (n + 1)).data.toList = true) :
    Calls Try.prog 19 #[.string s] w fun e w' => e = .returned (.string ⟨(Pl.unq (s.extract 1 (n + 1)).data.toList).toArray⟩) ∧ Below w.heap.size w w' := by
  have hC := hide (Try.strings_IndexByte s 34 w)
  generalize Lib.indexByte s.data.toList (Int.toNat 34).toUInt8 = z at hi hC
  have q0 : (((s[0].toNat : Nat) : Int) == 34) = true := beq_iff_eq.2 (by omega)
  have hcl := hide (closing_any s 0 0 w rfl hs (by omega))
  have HN := hide hn
  have HP := hide hp
  have hz2 : 2 ≤ s.size := by omega
  have HS := hide hsz
  clear hn hp hq hsz
  go_enter Try.func19, Try.ntmps19
  go_wp2_with fail
  refine (unhide hC).mono ?_
  rintro e w' ⟨rfl, rfl⟩
  go_wp2_with fail
  refine (unhide hcl).mono ?_
  rintro e w'' ⟨rfl, rfl⟩
  have e1 : cloF s (0 + 1) = ((s.size : Nat) : Int) - 1 := by have := unhide HN; have := unhide HS; simp only [Nat.zero_add]; omega
  rw [e1]
  clear e1
  go_wp2_with fail
  rw [show s.size - 1 = n + 1 from by have := unhide HS; omega]
  refine (unquote_any _ _ (by rw [ByteArray.size_extract]; omega) (unhide HP)).mono ?_
  rintro e w3 ⟨rfl, hb⟩
  generalize hu : (⟨(Pl.unq (s.extract 1 (n + 1)).data.toList).toArray⟩ : ByteArray) = u
  have HU := hide hu
  clear hu
  go_wp2
  go_ret
  rw [unhide HU]
  exact ⟨rfl, hb⟩

/-- the round's relation: so much is written, and what is left. -/
def WInv (s : ByteArray) (out : List UInt8) (k : Nat) (d : List UInt8) : Prop :=
  k ≤ s.size ∧ d.length ≤ k ∧ ∃ f o, Pl.uqF f (s.data.toList.drop k) = some o ∧ d ++ o = out

theorem winv_plain {s : ByteArray} {out d : List UInt8} {k : Nat} (h : WInv s out k d) (hlt : k < s.size) (hc : ¬ s[k].toNat = 34) : WInv s out (k + 1) (d ++ [s[k]]) := by
  obtain ⟨h1, h2, f, o, h3, h4⟩ := h
  have hc' : s[k] ≠ 34 := fun e => hc ((byte_eq _ 34 (by omega)).2 e)
  rw [drop_at s k hlt] at h3
  obtain ⟨g, o', rfl, h5, rfl⟩ := Pl.uqF_other h3 hc'
  exact ⟨by omega, by simp only [List.length_append, List.length_cons, List.length_nil]; omega, g, o', h5, by simpa using h4⟩

theorem winv_quote {s : ByteArray} {out d : List UInt8} {k : Nat} (h : WInv s out k d) (hlt : k < s.size) (hc : s[k].toNat = 34) :
    ∃ n, cloF s (k + 1) = ((k + 1 + n : Nat) : Int) ∧ k + 1 + n < s.size ∧ Pl.paired (s.extract (k + 1) (k + 1 + n)).data.toList = true ∧
      WInv s out (k + 1 + n + 1) (d ++ Pl.unq (s.extract (k + 1) (k + 1 + n)).data.toList) ∧ (Pl.unq (s.extract (k + 1) (k + 1 + n)).data.toList).length ≤ n := by
  obtain ⟨h1, h2, f, o, h3, h4⟩ := h
  obtain ⟨n, g, o', e1, e2, e3, e4, e5⟩ := quoted_at hlt hc h3
  have hl := Pl.unq_len _ (s.extract (k + 1) (k + 1 + n)).data.toList (Nat.le_refl _)
  have hl2 : (s.extract (k + 1) (k + 1 + n)).data.toList.length = n := by
    rw [← Lib.size_eq, ByteArray.size_extract]; omega
  refine ⟨n, e1, e2, e5, ⟨by omega, by rw [List.length_append]; omega, g, o', e3, by rw [← h4, e4, List.append_assoc]⟩, by omega⟩

theorem winv_end {s : ByteArray} {out d : List UInt8} {k : Nat} (h : WInv s out k d) (hge : ¬ k < s.size) : d = out := by
  obtain ⟨h1, h2, f, o, h3, h4⟩ := h
  rw [drop_end s k (by omega)] at h3
  rw [Pl.uqF_nil h3] at h4
  simpa using h4

theorem str_cells (l : List UInt8) (d : List UInt8) : Lib.byteCells d ++ Lib.strCells ⟨l.toArray⟩ = Lib.byteCells (d ++ l) := by
  show Lib.byteCells d ++ Lib.byteCells l = _
  simp [Lib.byteCells]

/-- the switch's second case says no. -/
def Many (s : ByteArray) : Prop := ∀ h0 : 0 < s.size, s[0].toNat = 34 → cloF s 1 ≠ ((s.size : Nat) : Int) - 1

set_option maxHeartbeats 2000000 in
theorem words_many (s : ByteArray) (out : List UInt8) (w : World) (hs : s.size ≤ 4194304) (hi : ¬ Lib.indexByte s.data.toList (Int.toNat 34).toUInt8 < 0) (h0 : 0 < s.size)
    (hinv0 : WInv s out 0 []) (hm : Many s) :
    Calls Try.prog 19 #[.string s] w fun e w' => e = .returned (.string ⟨out.toArray⟩) ∧ Below w.heap.size w w' := by
  have hC := hide (Try.strings_IndexByte s 34 w)
  generalize Lib.indexByte s.data.toList (Int.toNat 34).toUInt8 = z at hi hC
  have hcl := hide (closing_any s 0 0 w rfl hs (by omega))
  by_cases hq : s[0].toNat = 34
  · have q0 : (((s[0].toNat : Nat) : Int) == 34) = true := beq_iff_eq.2 (by omega)
    have hne := hm h0 hq
    clear hq hm
    have hb0 : (cloF s (0 + 1) == ((s.size : Nat) : Int) - 1) = false := beq_eq_false_iff_ne.2 hne
    clear hne
    generalize cloF s (0 + 1) = z1 at hb0 hcl
    have HB := hide hb0
    clear hb0
    go_enter Try.func19, Try.ntmps19
    go_wp2_with fail
    refine (unhide hC).mono ?_
    rintro e w' ⟨rfl, rfl⟩
    go_wp2_with fail
    refine (unhide hcl).mono ?_
    rintro e w'' ⟨rfl, rfl⟩
    have hb0 := unhide HB
    go_wp2_with fail
    refine (Try.Builder_Grow_fresh w''.heap.size w''.heap.size s.size _ (Nat.le_refl _) (heap_alloc_new _ _) (by simp) (by omega)).mono ?_
    rintro e w1 ⟨rfl, hbd, hb1⟩
    have hb1' : Below w''.heap.size w'' w1 := ((Below.refl _ w'').alloc (Nat.le_refl _) _).trans hb1
    go_wp2
    go_loopw [4] (fun i wr => ∃ (k : Nat) (d : List UInt8), i = .int .i64 k ∧ Lib.BuilderAt 46 5 w''.heap.size w''.heap.size (.pointer (some ⟨w''.heap.size, 0, none⟩)) (Lib.byteCells d) wr ∧ Below w''.heap.size w'' wr ∧ WInv s out k d) (fun i _ => s.size - (intOf i).toNat)
    case atStart => exact ⟨0, [], rfl, hbd, hb1', hinv0⟩
    case round =>
      clear hbd hb1 hb1' hinv0
      obtain ⟨k, d, rfl, hbd, hb, hinv⟩ := hrel
      have hdl : d.length ≤ k := hinv.2.1
      by_cases hlt : k < s.size
      · by_cases hc : s[k].toNat = 34
        · have q1 : (((s[k].toNat : Nat) : Int) != 34) = false := by simp; omega
          obtain ⟨n, e1, e2, e3, hn, hle⟩ := winv_quote hinv hlt hc
          clear hc hinv
          have E1 := hide e1
          have HN := hide hn
          clear e1 hn
          go_wp2_with fail
          refine (closing_any s k _ _ rfl hs (by omega)).mono ?_
          rintro e wz ⟨rfl, rfl⟩
          rw [unhide E1]
          go_wp2_with fail
          refine (unquote_any _ _ (by rw [ByteArray.size_extract]; omega) e3).mono ?_
          rintro e w4 ⟨rfl, hb4⟩
          have hbd4 := builder_below hbd hb4
          clear e3
          generalize Pl.unq (s.extract (k + 1) (k + 1 + n)).data.toList = l at HN hle ⊢
          have hb4' := hb.trans (hb4.mono hb.size)
          go_wp2_with fail
          refine (Try.Builder_WriteString w''.heap.size w''.heap.size (Lib.byteCells d) ⟨l.toArray⟩ _ (.inr hbd4) (by rw [cells_len, size_of_list]; omega) hb4'.size).mono ?_
          rintro e w5 ⟨rfl, hbd5, hb5⟩
          rw [str_cells] at hbd5
          go_wp2
          go_roundw
          case rel => exact ⟨k + 1 + n + 1, _, by go_num, hbd5, hb4'.trans hb5, unhide HN⟩
          case measure => simp [intOf]; omega
        · have q1 : (((s[k].toNat : Nat) : Int) != 34) = true := by simp; omega
          have hn := winv_plain hinv hlt hc
          have HN := hide hn
          clear hinv hn
          go_wp2_with fail
          refine (Try.Builder_WriteByte w''.heap.size w''.heap.size (Lib.byteCells d) _ _ (.inr hbd) (by rw [cells_len]; omega) hb.size).mono ?_
          rintro e w2 ⟨rfl, hbd2, hb2⟩
          rw [cells_snoc] at hbd2
          go_wp2
          go_roundw
          case rel => exact ⟨k + 1, _, by go_num, hbd2, hb.trans hb2, unhide HN⟩
          case measure => simp [intOf]; omega
      · have hd := winv_end hinv hlt
        clear hinv
        subst hd
        go_wp2_with fail
        refine (Try.Builder_String_any w''.heap.size w''.heap.size _ _ (.inr hbd) hb.size).mono ?_
        rintro e w2 ⟨rfl, hb2⟩
        go_wp2
        go_ret
        exact ⟨rfl, hb.trans hb2⟩
  · have q0 : (((s[0].toNat : Nat) : Int) == 34) = false := beq_eq_false_iff_ne.2 (by omega)
    clear hq hm hcl
    go_enter Try.func19, Try.ntmps19
    go_wp2_with fail
    refine (unhide hC).mono ?_
    rintro e w' ⟨rfl, rfl⟩
    go_wp2_with fail
    refine (Try.Builder_Grow_fresh w'.heap.size w'.heap.size s.size _ (Nat.le_refl _) (heap_alloc_new _ _) (by simp) (by omega)).mono ?_
    rintro e w1 ⟨rfl, hbd, hb1⟩
    have hb1' : Below w'.heap.size w' w1 := ((Below.refl _ w').alloc (Nat.le_refl _) _).trans hb1
    go_wp2
    go_loopw [4] (fun i wr => ∃ (k : Nat) (d : List UInt8), i = .int .i64 k ∧ Lib.BuilderAt 46 5 w'.heap.size w'.heap.size (.pointer (some ⟨w'.heap.size, 0, none⟩)) (Lib.byteCells d) wr ∧ Below w'.heap.size w' wr ∧ WInv s out k d) (fun i _ => s.size - (intOf i).toNat)
    case atStart => exact ⟨0, [], rfl, hbd, hb1', hinv0⟩
    case round =>
      clear hbd hb1 hb1' hinv0
      obtain ⟨k, d, rfl, hbd, hb, hinv⟩ := hrel
      have hdl : d.length ≤ k := hinv.2.1
      by_cases hlt : k < s.size
      · by_cases hc : s[k].toNat = 34
        · have q1 : (((s[k].toNat : Nat) : Int) != 34) = false := by simp; omega
          obtain ⟨n, e1, e2, e3, hn, hle⟩ := winv_quote hinv hlt hc
          clear hc hinv
          have E1 := hide e1
          have HN := hide hn
          clear e1 hn
          go_wp2_with fail
          refine (closing_any s k _ _ rfl hs (by omega)).mono ?_
          rintro e wz ⟨rfl, rfl⟩
          rw [unhide E1]
          go_wp2_with fail
          refine (unquote_any _ _ (by rw [ByteArray.size_extract]; omega) e3).mono ?_
          rintro e w4 ⟨rfl, hb4⟩
          have hbd4 := builder_below hbd hb4
          clear e3
          generalize Pl.unq (s.extract (k + 1) (k + 1 + n)).data.toList = l at HN hle ⊢
          have hb4' := hb.trans (hb4.mono hb.size)
          go_wp2_with fail
          refine (Try.Builder_WriteString w'.heap.size w'.heap.size (Lib.byteCells d) ⟨l.toArray⟩ _ (.inr hbd4) (by rw [cells_len, size_of_list]; omega) hb4'.size).mono ?_
          rintro e w5 ⟨rfl, hbd5, hb5⟩
          rw [str_cells] at hbd5
          go_wp2
          go_roundw
          case rel => exact ⟨k + 1 + n + 1, _, by go_num, hbd5, hb4'.trans hb5, unhide HN⟩
          case measure => simp [intOf]; omega
        · have q1 : (((s[k].toNat : Nat) : Int) != 34) = true := by simp; omega
          have hn := winv_plain hinv hlt hc
          have HN := hide hn
          clear hinv hn
          go_wp2_with fail
          refine (Try.Builder_WriteByte w'.heap.size w'.heap.size (Lib.byteCells d) _ _ (.inr hbd) (by rw [cells_len]; omega) hb.size).mono ?_
          rintro e w2 ⟨rfl, hbd2, hb2⟩
          rw [cells_snoc] at hbd2
          go_wp2
          go_roundw
          case rel => exact ⟨k + 1, _, by go_num, hbd2, hb.trans hb2, unhide HN⟩
          case measure => simp [intOf]; omega
      · have hd := winv_end hinv hlt
        clear hinv
        subst hd
        go_wp2_with fail
        refine (Try.Builder_String_any w'.heap.size w'.heap.size _ _ (.inr hbd) hb.size).mono ?_
        rintro e w2 ⟨rfl, hb2⟩
        go_wp2
        go_ret
        exact ⟨rfl, hb.trans hb2⟩

/-- unquoteWords -/
theorem words_any (s : ByteArray) (f : Nat) (out : List UInt8) (w : World) (hs : s.size ≤ 4194304) (h : Pl.uqF f s.data.toList = some out) :
    Calls Try.prog 19 #[.string s] w fun e w' => e = .returned (.string ⟨out.toArray⟩) ∧ Below w.heap.size w w' := by
  by_cases hp : ∀ c ∈ s.data.toList, c ≠ 34
  · have e := Pl.uqF_plain f _ _ hp h
    subst e
    rw [Lib.mk_data]
    exact words_none s w hp
  · have hi : ¬ Lib.indexByte s.data.toList (Int.toNat 34).toUInt8 < 0 := fun hh => hp ((idx34 s).1 hh)
    have h0 : 0 < s.size := by
      by_cases hz : 0 < s.size
      · exact hz
      · exfalso
        apply hp
        intro c hc
        have : s.data.toList = [] := List.length_eq_zero_iff.1 (by rw [← Lib.size_eq]; omega)
        rw [this] at hc
        simp at hc
    have hinv0 : WInv s out 0 [] := ⟨Nat.zero_le _, Nat.le_refl _, f, out, by simpa using h, rfl⟩
    by_cases hone : ∃ h0 : 0 < s.size, s[0].toNat = 34 ∧ cloF s 1 = ((s.size : Nat) : Int) - 1
    · obtain ⟨_, hq, hc⟩ := hone
      obtain ⟨n, g, o', e1, e2, e3, e4, e5⟩ := quoted_at (k := 0) (o := out) h0 hq (by simpa using h)
      simp only [Nat.zero_add] at e1 e2 e3 e4 e5
      have hsz : s.size = n + 2 := by omega
      have ho : o' = [] := by
        rw [drop_end s (1 + n + 1) (by omega)] at e3
        exact Pl.uqF_nil e3
      subst ho
      rw [show 1 + n = n + 1 by omega] at e4 e5
      rw [e4, List.append_nil]
      exact words_one s n w hs hi h0 hq (by rw [hc]; omega) hsz e5
    · exact words_many s out w hs hi h0 hinv0 (fun a b c => hone ⟨a, b, c⟩)

set_option maxHeartbeats 400000 in
/-- ZZunquoteWords -/
theorem zzWords_any (s : ByteArray) (f : Nat) (out : List UInt8) (w : World) (hs : s.size ≤ 4194304) (h : Pl.uqF f s.data.toList = some out) :
    Calls Try.prog 16 #[.string s] w fun e w' => e = .returned (.string ⟨out.toArray⟩) ∧ Below w.heap.size w w' := by
  have hC := hide (words_any s f out w hs h)
  clear h
  go_enter Try.func16, Try.ntmps16
  go_wp2_with fail
  refine (unhide hC).mono ?_
  rintro e w' ⟨rfl, hb⟩
  go_wp2
  go_ret
  exact ⟨rfl, hb⟩

end Go.Proofs.Qxb6001516a
