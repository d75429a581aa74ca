/-
  THE WALK of FnBlankLenStaysOnItsLine.
-/
import Derived.Test.Qxb6001684aW1
namespace Go.Proofs.Qxb6001684a
open Go.RowKit
set_option linter.unusedVariables false

/-- what the law asks of the number n. -/
structure Good (s : ByteArray) (n : Nat) : Prop where
  le : n ≤ s.size
  at_ : 1 < n → (h : n < s.size) → s[n].toNat = 10
  before : ∀ i (h : i < s.size), 1 ≤ i → i < n → ¬ s[i].toNat = 10

theorem good_of (s : ByteArray) (h0 : 0 < s.size) : Good s (Pl.bl s.data.toList) := by
  have hne : s.data.toList ≠ [] := List.length_pos_iff.1 (by rw [← Lib.size_eq]; exact h0)
  refine ⟨by have := Pl.bl_le s.data.toList hne; rwa [← Lib.size_eq] at this, fun h1 h => ?_, fun i h h1 h2 e => ?_⟩
  · have := Pl.bl_at s.data.toList (.inr h1) (by rw [← Lib.size_eq]; exact h)
    rw [at_get? s _ h] at this
    exact (byte_eq _ 10 (by omega)).2 (Option.some.inj this)
  · have := Pl.bl_before s.data.toList i h1 h2
    rw [at_get? s _ h] at this
    exact this (congrArg some ((byte_eq _ 10 (by omega)).1 e))
theorem good_hash (s : ByteArray) (h0 : 0 < s.size) (hc : s[0].toNat = 35) : 1 ≤ Pl.bl s.data.toList ∧ ∀ (h : Pl.bl s.data.toList < s.size), s[Pl.bl s.data.toList].toNat = 10 := by
  have hg : s.data.toList.getD 0 0 = 35 := by rw [at_getD s 0 h0]; exact (byte_eq _ 35 (by omega)).1 hc
  refine ⟨Pl.bl_hash_pos _ hg, fun h => ?_⟩
  have := Pl.bl_at s.data.toList (.inl hg) (by rw [← Lib.size_eq]; exact h)
  rw [at_get? s _ h] at this
  exact (byte_eq _ 10 (by omega)).2 (Option.some.inj this)
theorem good_sp (s : ByteArray) (h0 : 0 < s.size) (hc : s[0].toNat = 32 ∨ s[0].toNat = 9 ∨ s[0].toNat = 10 ∨ s[0].toNat = 13) : Pl.bl s.data.toList = 1 := by
  refine Pl.bl_sp _ ?_
  rw [at_getD s 0 h0]
  rcases hc with h | h | h | h
  · rw [(byte_eq _ 32 (by omega)).1 h]; rfl
  · rw [(byte_eq _ 9 (by omega)).1 h]; rfl
  · rw [(byte_eq _ 10 (by omega)).1 h]; rfl
  · rw [(byte_eq _ 13 (by omega)).1 h]; rfl
theorem good_other (s : ByteArray) (h0 : 0 < s.size) (h32 : ¬ s[0].toNat = 32) (h9 : ¬ s[0].toNat = 9) (h10 : ¬ s[0].toNat = 10) (h13 : ¬ s[0].toNat = 13) (h35 : ¬ s[0].toNat = 35) (h45 : ¬ s[0].toNat = 45) : Pl.bl s.data.toList = 0 := by
  have n1 : ¬ s[0] = 32 := fun e => h32 ((byte_eq _ 32 (by omega)).2 e)
  have n2 : ¬ s[0] = 9 := fun e => h9 ((byte_eq _ 9 (by omega)).2 e)
  have n3 : ¬ s[0] = 10 := fun e => h10 ((byte_eq _ 10 (by omega)).2 e)
  have n4 : ¬ s[0] = 13 := fun e => h13 ((byte_eq _ 13 (by omega)).2 e)
  have n5 : ¬ s[0] = 35 := fun e => h35 ((byte_eq _ 35 (by omega)).2 e)
  have n6 : ¬ s[0] = 45 := fun e => h45 ((byte_eq _ 45 (by omega)).2 e)
  have hg := at_getD s 0 h0
  exact Pl.bl_other _ (by rw [hg]; simp [Pl.isSp, n1, n2, n3, n4]) (by rw [hg]; exact n5) (by rw [hg]; exact n6)

/-- the last call: nothing behind a line break bears on it. -/
theorem good_app (s t : ByteArray) (h0 : 0 < s.size) (hn : ∀ j (h : j < s.size), ¬ s[j].toNat = 10) (x : ByteArray) (hx : x.data.toList = s.data.toList ++ 10 :: t.data.toList) : Pl.bl x.data.toList = Pl.bl s.data.toList := by
  have hne : s.data.toList ≠ [] := List.length_pos_iff.1 (by rw [← Lib.size_eq]; exact h0)
  rw [hx]
  refine Pl.bl_app _ _ hne (fun c hc e => ?_)
  obtain ⟨j, hj, rfl⟩ := List.getElem_of_mem hc
  have hj' : j < s.size := by simpa using hj
  exact hn j hj' ((byte_eq _ 10 (by omega)).2 e)

theorem blank_big (s t : ByteArray) (w : World) (hs : s.size ≤ maxLen) (ht : t.size ≤ maxLen) (h : 524288 < s.size ∨ 524288 < t.size ∨ s.size = 0) :
    Calls Try.prog 5 #[.string s, .string t] w fun e w' => e = .returned (.bool true) ∧ Below w.heap.size w w' := by
  have HS := hide hs
  have HT := hide ht
  unfold maxLen at hs ht
  by_cases h1 : 524288 < s.size
  · clear h
    go_enter Try.func5, Try.ntmps5
    go_wp2_with fail
    refine (bytes13_any s t _ (unhide HS) (unhide HT)).mono ?_
    rintro e w' ⟨b, rfl, rfl⟩
    cases b
    all_goals
      go_wp2
      go_ret
      exact ⟨rfl, Below.refl _ _⟩
  by_cases h2 : 524288 < t.size
  · clear h
    go_enter Try.func5, Try.ntmps5
    go_wp2_with fail
    refine (bytes13_any s t _ (unhide HS) (unhide HT)).mono ?_
    rintro e w' ⟨b, rfl, rfl⟩
    cases b
    all_goals
      go_wp2
      go_ret
      exact ⟨rfl, Below.refl _ _⟩
  have q : (((s.size : Nat) : Int) == 0) = true := beq_iff_eq.2 (by omega)
  clear h
  go_enter Try.func5, Try.ntmps5
  go_wp2_with fail
  refine (bytes13_any s t _ (unhide HS) (unhide HT)).mono ?_
  rintro e w' ⟨b, rfl, rfl⟩
  cases b
  all_goals
    go_wp2
    go_ret
    exact ⟨rfl, Below.refl _ _⟩

set_option maxHeartbeats 4000000 in
theorem blank_small (s t : ByteArray) (w : World) (h0 : 0 < s.size) (hs : s.size ≤ 524288) (ht : t.size ≤ 524288) :
    Calls Try.prog 5 #[.string s, .string t] w fun e w' => e = .returned (.bool true) ∧ Below w.heap.size w w' := by
  have HS := hide (show s.size ≤ maxLen by unfold maxLen; omega)
  have HT := hide (show t.size ≤ maxLen by unfold maxLen; omega)
  have z0 : (((s.size : Nat) : Int) == 0) = false := beq_eq_false_iff_ne.2 (by omega)
  have hG := good_of s h0
  have hH := good_hash s h0
  have hSp := good_sp s h0
  have hO := good_other s h0
  have HB := hide (fun w => zzBlank_any s w h0 (by omega))
  have HAPP := hide (fun (hn : ∀ j (h : j < s.size), ¬ s[j].toNat = 10) (x : ByteArray) (w : World) (hx : x.data.toList = s.data.toList ++ 10 :: t.data.toList) (hxs : 0 < x.size ∧ x.size ≤ 4194304) => show Calls Try.prog 14 #[.string x] w fun e w' => e = .returned (.int .i64 (Pl.bl s.data.toList : Nat)) ∧ w' = w by
    have := zzBlank_any x w hxs.1 hxs.2
    rw [good_app s t h0 hn x hx] at this
    exact this)
  generalize Pl.bl s.data.toList = n at hG hH hSp hO HB HAPP
  have hle := hG.le
  have HBF := hide hG.before
  have HAT := hide hG.at_
  clear hG
  by_cases c32 : s[0].toNat = 32
  · have hn := hSp (by omega)
    have hn1 : 1 ≤ n := by omega
    have hn2 : n ≤ 1 := by omega
    clear hH hSp hO HAT hn
    have q32 : (((s[0].toNat : Nat) : Int) == 32) = true := beq_iff_eq.2 (by omega)
    have p32 : (((s[0].toNat : Nat) : Int) != 32) = false := by simp only [bne, q32, Bool.not_true]
    have q9 : (((s[0].toNat : Nat) : Int) == 9) = false := beq_eq_false_iff_ne.2 (by omega)
    have p9 : (((s[0].toNat : Nat) : Int) != 9) = true := by simp only [bne, q9, Bool.not_false]
    have q10 : (((s[0].toNat : Nat) : Int) == 10) = false := beq_eq_false_iff_ne.2 (by omega)
    have p10 : (((s[0].toNat : Nat) : Int) != 10) = true := by simp only [bne, q10, Bool.not_false]
    have q13 : (((s[0].toNat : Nat) : Int) == 13) = false := beq_eq_false_iff_ne.2 (by omega)
    have p13 : (((s[0].toNat : Nat) : Int) != 13) = true := by simp only [bne, q13, Bool.not_false]
    have q35 : (((s[0].toNat : Nat) : Int) == 35) = false := beq_eq_false_iff_ne.2 (by omega)
    have p35 : (((s[0].toNat : Nat) : Int) != 35) = true := by simp only [bne, q35, Bool.not_false]
    have q45 : (((s[0].toNat : Nat) : Int) == 45) = false := beq_eq_false_iff_ne.2 (by omega)
    have p45 : (((s[0].toNat : Nat) : Int) != 45) = true := by simp only [bne, q45, Bool.not_false]
    clear c32
    all_goals
      go_enter Try.func5, Try.ntmps5
      go_wp2_with fail
      refine (bytes13_any s t _ (unhide HS) (unhide HT)).mono ?_
      rintro e w' ⟨b, rfl, rfl⟩
      cases b
      · go_wp2
        go_ret
        exact ⟨rfl, Below.refl _ _⟩
      go_wp2_with fail
      refine (unhide HB _).mono ?_
      rintro e w' ⟨rfl, rfl⟩
      go_wp2
      go_loop [7] (fun i => ∃ k : Nat, 1 ≤ k ∧ i = .int .i64 k) (fun i => n - (intOf i).toNat)
      case atStart => exact ⟨1, Nat.le_refl _, rfl⟩
      case round =>
        obtain ⟨k, hk, rfl⟩ := hrel
        by_cases hlt : k < n
        · first
            | (exfalso; omega)
            | (have hks : k < s.size := by omega
               have q : (((s[k].toNat : Nat) : Int) == 10) = false := beq_eq_false_iff_ne.2 (by have := unhide HBF k hks hk hlt; omega)
               go_wp2
               go_round
               case rel => exact ⟨k + 1, by omega, by go_num⟩
               case measure => simp [intOf]; omega)
        · clear hk
          go_wp2
          go_loop [8] (fun i => ∃ j : Nat, j ≤ s.size ∧ i = .int .i64 j ∧ Hid (∀ m (h : m < s.size), m < j → ¬ s[m].toNat = 10)) (fun i => s.size - (intOf i).toNat)
          case atStart => exact ⟨0, Nat.zero_le _, rfl, hide (fun m h hm => by omega)⟩
          case round =>
            obtain ⟨j, hj, rfl, HN⟩ := hrel
            by_cases hjl : j < s.size
            · by_cases h10 : s[j].toNat = 10
              · have q : (((s[j].toNat : Nat) : Int) == 10) = true := beq_iff_eq.2 (by omega)
                clear h10
                go_wp2
                go_ret
                exact ⟨rfl, Below.refl _ _⟩
              · have q : (((s[j].toNat : Nat) : Int) == 10) = false := beq_eq_false_iff_ne.2 (by omega)
                have HM := hide (show ∀ m (h : m < s.size), m < j + 1 → ¬ s[m].toNat = 10 from fun m h hm => by
                  by_cases e : m = j
                  · subst e; exact h10
                  · exact unhide HN m h (by omega))
                clear h10 HN
                go_wp2
                go_round
                case rel => exact ⟨j + 1, by omega, by go_num, unhide HM⟩
                case measure => simp [intOf]; omega
            · have HALL := hide (show ∀ m (h : m < s.size), ¬ s[m].toNat = 10 from fun m h => unhide HN m h (by omega))
              clear HN
              go_wp2_with fail
              refine (unhide HAPP (unhide HALL) _ _ ?_ ?_).mono ?_
              · simp
              · have e1 : (⟨#[10]⟩ : ByteArray).size = 1 := rfl
                simp only [ByteArray.size_append, e1]
                omega
              rintro e w' ⟨rfl, rfl⟩
              go_wp2
              go_ret
              exact ⟨by simp, Below.refl _ _⟩
  by_cases c9 : s[0].toNat = 9
  · have hn := hSp (by omega)
    have hn1 : 1 ≤ n := by omega
    have hn2 : n ≤ 1 := by omega
    clear hH hSp hO HAT hn
    have q32 : (((s[0].toNat : Nat) : Int) == 32) = false := beq_eq_false_iff_ne.2 (by omega)
    have p32 : (((s[0].toNat : Nat) : Int) != 32) = true := by simp only [bne, q32, Bool.not_false]
    have q9 : (((s[0].toNat : Nat) : Int) == 9) = true := beq_iff_eq.2 (by omega)
    have p9 : (((s[0].toNat : Nat) : Int) != 9) = false := by simp only [bne, q9, Bool.not_true]
    have q10 : (((s[0].toNat : Nat) : Int) == 10) = false := beq_eq_false_iff_ne.2 (by omega)
    have p10 : (((s[0].toNat : Nat) : Int) != 10) = true := by simp only [bne, q10, Bool.not_false]
    have q13 : (((s[0].toNat : Nat) : Int) == 13) = false := beq_eq_false_iff_ne.2 (by omega)
    have p13 : (((s[0].toNat : Nat) : Int) != 13) = true := by simp only [bne, q13, Bool.not_false]
    have q35 : (((s[0].toNat : Nat) : Int) == 35) = false := beq_eq_false_iff_ne.2 (by omega)
    have p35 : (((s[0].toNat : Nat) : Int) != 35) = true := by simp only [bne, q35, Bool.not_false]
    have q45 : (((s[0].toNat : Nat) : Int) == 45) = false := beq_eq_false_iff_ne.2 (by omega)
    have p45 : (((s[0].toNat : Nat) : Int) != 45) = true := by simp only [bne, q45, Bool.not_false]
    clear c9
    all_goals
      go_enter Try.func5, Try.ntmps5
      go_wp2_with fail
      refine (bytes13_any s t _ (unhide HS) (unhide HT)).mono ?_
      rintro e w' ⟨b, rfl, rfl⟩
      cases b
      · go_wp2
        go_ret
        exact ⟨rfl, Below.refl _ _⟩
      go_wp2_with fail
      refine (unhide HB _).mono ?_
      rintro e w' ⟨rfl, rfl⟩
      go_wp2
      go_loop [7] (fun i => ∃ k : Nat, 1 ≤ k ∧ i = .int .i64 k) (fun i => n - (intOf i).toNat)
      case atStart => exact ⟨1, Nat.le_refl _, rfl⟩
      case round =>
        obtain ⟨k, hk, rfl⟩ := hrel
        by_cases hlt : k < n
        · first
            | (exfalso; omega)
            | (have hks : k < s.size := by omega
               have q : (((s[k].toNat : Nat) : Int) == 10) = false := beq_eq_false_iff_ne.2 (by have := unhide HBF k hks hk hlt; omega)
               go_wp2
               go_round
               case rel => exact ⟨k + 1, by omega, by go_num⟩
               case measure => simp [intOf]; omega)
        · clear hk
          go_wp2
          go_loop [8] (fun i => ∃ j : Nat, j ≤ s.size ∧ i = .int .i64 j ∧ Hid (∀ m (h : m < s.size), m < j → ¬ s[m].toNat = 10)) (fun i => s.size - (intOf i).toNat)
          case atStart => exact ⟨0, Nat.zero_le _, rfl, hide (fun m h hm => by omega)⟩
          case round =>
            obtain ⟨j, hj, rfl, HN⟩ := hrel
            by_cases hjl : j < s.size
            · by_cases h10 : s[j].toNat = 10
              · have q : (((s[j].toNat : Nat) : Int) == 10) = true := beq_iff_eq.2 (by omega)
                clear h10
                go_wp2
                go_ret
                exact ⟨rfl, Below.refl _ _⟩
              · have q : (((s[j].toNat : Nat) : Int) == 10) = false := beq_eq_false_iff_ne.2 (by omega)
                have HM := hide (show ∀ m (h : m < s.size), m < j + 1 → ¬ s[m].toNat = 10 from fun m h hm => by
                  by_cases e : m = j
                  · subst e; exact h10
                  · exact unhide HN m h (by omega))
                clear h10 HN
                go_wp2
                go_round
                case rel => exact ⟨j + 1, by omega, by go_num, unhide HM⟩
                case measure => simp [intOf]; omega
            · have HALL := hide (show ∀ m (h : m < s.size), ¬ s[m].toNat = 10 from fun m h => unhide HN m h (by omega))
              clear HN
              go_wp2_with fail
              refine (unhide HAPP (unhide HALL) _ _ ?_ ?_).mono ?_
              · simp
              · have e1 : (⟨#[10]⟩ : ByteArray).size = 1 := rfl
                simp only [ByteArray.size_append, e1]
                omega
              rintro e w' ⟨rfl, rfl⟩
              go_wp2
              go_ret
              exact ⟨by simp, Below.refl _ _⟩
  by_cases c10 : s[0].toNat = 10
  · have hn := hSp (by omega)
    have hn1 : 1 ≤ n := by omega
    have hn2 : n ≤ 1 := by omega
    clear hH hSp hO HAT hn
    have q32 : (((s[0].toNat : Nat) : Int) == 32) = false := beq_eq_false_iff_ne.2 (by omega)
    have p32 : (((s[0].toNat : Nat) : Int) != 32) = true := by simp only [bne, q32, Bool.not_false]
    have q9 : (((s[0].toNat : Nat) : Int) == 9) = false := beq_eq_false_iff_ne.2 (by omega)
    have p9 : (((s[0].toNat : Nat) : Int) != 9) = true := by simp only [bne, q9, Bool.not_false]
    have q10 : (((s[0].toNat : Nat) : Int) == 10) = true := beq_iff_eq.2 (by omega)
    have p10 : (((s[0].toNat : Nat) : Int) != 10) = false := by simp only [bne, q10, Bool.not_true]
    have q13 : (((s[0].toNat : Nat) : Int) == 13) = false := beq_eq_false_iff_ne.2 (by omega)
    have p13 : (((s[0].toNat : Nat) : Int) != 13) = true := by simp only [bne, q13, Bool.not_false]
    have q35 : (((s[0].toNat : Nat) : Int) == 35) = false := beq_eq_false_iff_ne.2 (by omega)
    have p35 : (((s[0].toNat : Nat) : Int) != 35) = true := by simp only [bne, q35, Bool.not_false]
    have q45 : (((s[0].toNat : Nat) : Int) == 45) = false := beq_eq_false_iff_ne.2 (by omega)
    have p45 : (((s[0].toNat : Nat) : Int) != 45) = true := by simp only [bne, q45, Bool.not_false]
    clear c10
    all_goals
      go_enter Try.func5, Try.ntmps5
      go_wp2_with fail
      refine (bytes13_any s t _ (unhide HS) (unhide HT)).mono ?_
      rintro e w' ⟨b, rfl, rfl⟩
      cases b
      · go_wp2
        go_ret
        exact ⟨rfl, Below.refl _ _⟩
      go_wp2_with fail
      refine (unhide HB _).mono ?_
      rintro e w' ⟨rfl, rfl⟩
      go_wp2
      go_loop [7] (fun i => ∃ k : Nat, 1 ≤ k ∧ i = .int .i64 k) (fun i => n - (intOf i).toNat)
      case atStart => exact ⟨1, Nat.le_refl _, rfl⟩
      case round =>
        obtain ⟨k, hk, rfl⟩ := hrel
        by_cases hlt : k < n
        · first
            | (exfalso; omega)
            | (have hks : k < s.size := by omega
               have q : (((s[k].toNat : Nat) : Int) == 10) = false := beq_eq_false_iff_ne.2 (by have := unhide HBF k hks hk hlt; omega)
               go_wp2
               go_round
               case rel => exact ⟨k + 1, by omega, by go_num⟩
               case measure => simp [intOf]; omega)
        · clear hk
          go_wp2
          go_loop [8] (fun i => ∃ j : Nat, j ≤ s.size ∧ i = .int .i64 j ∧ Hid (∀ m (h : m < s.size), m < j → ¬ s[m].toNat = 10)) (fun i => s.size - (intOf i).toNat)
          case atStart => exact ⟨0, Nat.zero_le _, rfl, hide (fun m h hm => by omega)⟩
          case round =>
            obtain ⟨j, hj, rfl, HN⟩ := hrel
            by_cases hjl : j < s.size
            · by_cases h10 : s[j].toNat = 10
              · have q : (((s[j].toNat : Nat) : Int) == 10) = true := beq_iff_eq.2 (by omega)
                clear h10
                go_wp2
                go_ret
                exact ⟨rfl, Below.refl _ _⟩
              · have q : (((s[j].toNat : Nat) : Int) == 10) = false := beq_eq_false_iff_ne.2 (by omega)
                have HM := hide (show ∀ m (h : m < s.size), m < j + 1 → ¬ s[m].toNat = 10 from fun m h hm => by
                  by_cases e : m = j
                  · subst e; exact h10
                  · exact unhide HN m h (by omega))
                clear h10 HN
                go_wp2
                go_round
                case rel => exact ⟨j + 1, by omega, by go_num, unhide HM⟩
                case measure => simp [intOf]; omega
            · have HALL := hide (show ∀ m (h : m < s.size), ¬ s[m].toNat = 10 from fun m h => unhide HN m h (by omega))
              clear HN
              go_wp2_with fail
              refine (unhide HAPP (unhide HALL) _ _ ?_ ?_).mono ?_
              · simp
              · have e1 : (⟨#[10]⟩ : ByteArray).size = 1 := rfl
                simp only [ByteArray.size_append, e1]
                omega
              rintro e w' ⟨rfl, rfl⟩
              go_wp2
              go_ret
              exact ⟨by simp, Below.refl _ _⟩
  by_cases c13 : s[0].toNat = 13
  · have hn := hSp (by omega)
    have hn1 : 1 ≤ n := by omega
    have hn2 : n ≤ 1 := by omega
    clear hH hSp hO HAT hn
    have q32 : (((s[0].toNat : Nat) : Int) == 32) = false := beq_eq_false_iff_ne.2 (by omega)
    have p32 : (((s[0].toNat : Nat) : Int) != 32) = true := by simp only [bne, q32, Bool.not_false]
    have q9 : (((s[0].toNat : Nat) : Int) == 9) = false := beq_eq_false_iff_ne.2 (by omega)
    have p9 : (((s[0].toNat : Nat) : Int) != 9) = true := by simp only [bne, q9, Bool.not_false]
    have q10 : (((s[0].toNat : Nat) : Int) == 10) = false := beq_eq_false_iff_ne.2 (by omega)
    have p10 : (((s[0].toNat : Nat) : Int) != 10) = true := by simp only [bne, q10, Bool.not_false]
    have q13 : (((s[0].toNat : Nat) : Int) == 13) = true := beq_iff_eq.2 (by omega)
    have p13 : (((s[0].toNat : Nat) : Int) != 13) = false := by simp only [bne, q13, Bool.not_true]
    have q35 : (((s[0].toNat : Nat) : Int) == 35) = false := beq_eq_false_iff_ne.2 (by omega)
    have p35 : (((s[0].toNat : Nat) : Int) != 35) = true := by simp only [bne, q35, Bool.not_false]
    have q45 : (((s[0].toNat : Nat) : Int) == 45) = false := beq_eq_false_iff_ne.2 (by omega)
    have p45 : (((s[0].toNat : Nat) : Int) != 45) = true := by simp only [bne, q45, Bool.not_false]
    clear c13
    all_goals
      go_enter Try.func5, Try.ntmps5
      go_wp2_with fail
      refine (bytes13_any s t _ (unhide HS) (unhide HT)).mono ?_
      rintro e w' ⟨b, rfl, rfl⟩
      cases b
      · go_wp2
        go_ret
        exact ⟨rfl, Below.refl _ _⟩
      go_wp2_with fail
      refine (unhide HB _).mono ?_
      rintro e w' ⟨rfl, rfl⟩
      go_wp2
      go_loop [7] (fun i => ∃ k : Nat, 1 ≤ k ∧ i = .int .i64 k) (fun i => n - (intOf i).toNat)
      case atStart => exact ⟨1, Nat.le_refl _, rfl⟩
      case round =>
        obtain ⟨k, hk, rfl⟩ := hrel
        by_cases hlt : k < n
        · first
            | (exfalso; omega)
            | (have hks : k < s.size := by omega
               have q : (((s[k].toNat : Nat) : Int) == 10) = false := beq_eq_false_iff_ne.2 (by have := unhide HBF k hks hk hlt; omega)
               go_wp2
               go_round
               case rel => exact ⟨k + 1, by omega, by go_num⟩
               case measure => simp [intOf]; omega)
        · clear hk
          go_wp2
          go_loop [8] (fun i => ∃ j : Nat, j ≤ s.size ∧ i = .int .i64 j ∧ Hid (∀ m (h : m < s.size), m < j → ¬ s[m].toNat = 10)) (fun i => s.size - (intOf i).toNat)
          case atStart => exact ⟨0, Nat.zero_le _, rfl, hide (fun m h hm => by omega)⟩
          case round =>
            obtain ⟨j, hj, rfl, HN⟩ := hrel
            by_cases hjl : j < s.size
            · by_cases h10 : s[j].toNat = 10
              · have q : (((s[j].toNat : Nat) : Int) == 10) = true := beq_iff_eq.2 (by omega)
                clear h10
                go_wp2
                go_ret
                exact ⟨rfl, Below.refl _ _⟩
              · have q : (((s[j].toNat : Nat) : Int) == 10) = false := beq_eq_false_iff_ne.2 (by omega)
                have HM := hide (show ∀ m (h : m < s.size), m < j + 1 → ¬ s[m].toNat = 10 from fun m h hm => by
                  by_cases e : m = j
                  · subst e; exact h10
                  · exact unhide HN m h (by omega))
                clear h10 HN
                go_wp2
                go_round
                case rel => exact ⟨j + 1, by omega, by go_num, unhide HM⟩
                case measure => simp [intOf]; omega
            · have HALL := hide (show ∀ m (h : m < s.size), ¬ s[m].toNat = 10 from fun m h => unhide HN m h (by omega))
              clear HN
              go_wp2_with fail
              refine (unhide HAPP (unhide HALL) _ _ ?_ ?_).mono ?_
              · simp
              · have e1 : (⟨#[10]⟩ : ByteArray).size = 1 := rfl
                simp only [ByteArray.size_append, e1]
                omega
              rintro e w' ⟨rfl, rfl⟩
              go_wp2
              go_ret
              exact ⟨by simp, Below.refl _ _⟩
  by_cases c35 : s[0].toNat = 35
  · have hn1 : 1 ≤ n := (hH c35).1
    have HA := hide (hH c35).2
    clear hH hSp hO HAT
    have q32 : (((s[0].toNat : Nat) : Int) == 32) = false := beq_eq_false_iff_ne.2 (by omega)
    have p32 : (((s[0].toNat : Nat) : Int) != 32) = true := by simp only [bne, q32, Bool.not_false]
    have q9 : (((s[0].toNat : Nat) : Int) == 9) = false := beq_eq_false_iff_ne.2 (by omega)
    have p9 : (((s[0].toNat : Nat) : Int) != 9) = true := by simp only [bne, q9, Bool.not_false]
    have q10 : (((s[0].toNat : Nat) : Int) == 10) = false := beq_eq_false_iff_ne.2 (by omega)
    have p10 : (((s[0].toNat : Nat) : Int) != 10) = true := by simp only [bne, q10, Bool.not_false]
    have q13 : (((s[0].toNat : Nat) : Int) == 13) = false := beq_eq_false_iff_ne.2 (by omega)
    have p13 : (((s[0].toNat : Nat) : Int) != 13) = true := by simp only [bne, q13, Bool.not_false]
    have q35 : (((s[0].toNat : Nat) : Int) == 35) = true := beq_iff_eq.2 (by omega)
    have p35 : (((s[0].toNat : Nat) : Int) != 35) = false := by simp only [bne, q35, Bool.not_true]
    have q45 : (((s[0].toNat : Nat) : Int) == 45) = false := beq_eq_false_iff_ne.2 (by omega)
    have p45 : (((s[0].toNat : Nat) : Int) != 45) = true := by simp only [bne, q45, Bool.not_false]
    clear c32 c9 c10 c13 c35
    by_cases hlt : n < s.size
    · have r10 : (((s[n].toNat : Nat) : Int) != 10) = false := by
        have := unhide HA hlt
        simp only [this]
        rfl
      all_goals
        go_enter Try.func5, Try.ntmps5
        go_wp2_with fail
        refine (bytes13_any s t _ (unhide HS) (unhide HT)).mono ?_
        rintro e w' ⟨b, rfl, rfl⟩
        cases b
        · go_wp2
          go_ret
          exact ⟨rfl, Below.refl _ _⟩
        go_wp2_with fail
        refine (unhide HB _).mono ?_
        rintro e w' ⟨rfl, rfl⟩
        go_wp2
        go_loop [7] (fun i => ∃ k : Nat, 1 ≤ k ∧ i = .int .i64 k) (fun i => n - (intOf i).toNat)
        case atStart => exact ⟨1, Nat.le_refl _, rfl⟩
        case round =>
          obtain ⟨k, hk, rfl⟩ := hrel
          by_cases hlt : k < n
          · first
              | (exfalso; omega)
              | (have hks : k < s.size := by omega
                 have q : (((s[k].toNat : Nat) : Int) == 10) = false := beq_eq_false_iff_ne.2 (by have := unhide HBF k hks hk hlt; omega)
                 go_wp2
                 go_round
                 case rel => exact ⟨k + 1, by omega, by go_num⟩
                 case measure => simp [intOf]; omega)
          · clear hk
            go_wp2
            go_loop [8] (fun i => ∃ j : Nat, j ≤ s.size ∧ i = .int .i64 j ∧ Hid (∀ m (h : m < s.size), m < j → ¬ s[m].toNat = 10)) (fun i => s.size - (intOf i).toNat)
            case atStart => exact ⟨0, Nat.zero_le _, rfl, hide (fun m h hm => by omega)⟩
            case round =>
              obtain ⟨j, hj, rfl, HN⟩ := hrel
              by_cases hjl : j < s.size
              · by_cases h10 : s[j].toNat = 10
                · have q : (((s[j].toNat : Nat) : Int) == 10) = true := beq_iff_eq.2 (by omega)
                  clear h10
                  go_wp2
                  go_ret
                  exact ⟨rfl, Below.refl _ _⟩
                · have q : (((s[j].toNat : Nat) : Int) == 10) = false := beq_eq_false_iff_ne.2 (by omega)
                  have HM := hide (show ∀ m (h : m < s.size), m < j + 1 → ¬ s[m].toNat = 10 from fun m h hm => by
                    by_cases e : m = j
                    · subst e; exact h10
                    · exact unhide HN m h (by omega))
                  clear h10 HN
                  go_wp2
                  go_round
                  case rel => exact ⟨j + 1, by omega, by go_num, unhide HM⟩
                  case measure => simp [intOf]; omega
              · have HALL := hide (show ∀ m (h : m < s.size), ¬ s[m].toNat = 10 from fun m h => unhide HN m h (by omega))
                clear HN
                go_wp2_with fail
                refine (unhide HAPP (unhide HALL) _ _ ?_ ?_).mono ?_
                · simp
                · have e1 : (⟨#[10]⟩ : ByteArray).size = 1 := rfl
                  simp only [ByteArray.size_append, e1]
                  omega
                rintro e w' ⟨rfl, rfl⟩
                go_wp2
                go_ret
                exact ⟨by simp, Below.refl _ _⟩
    · all_goals
        go_enter Try.func5, Try.ntmps5
        go_wp2_with fail
        refine (bytes13_any s t _ (unhide HS) (unhide HT)).mono ?_
        rintro e w' ⟨b, rfl, rfl⟩
        cases b
        · go_wp2
          go_ret
          exact ⟨rfl, Below.refl _ _⟩
        go_wp2_with fail
        refine (unhide HB _).mono ?_
        rintro e w' ⟨rfl, rfl⟩
        go_wp2
        go_loop [7] (fun i => ∃ k : Nat, 1 ≤ k ∧ i = .int .i64 k) (fun i => n - (intOf i).toNat)
        case atStart => exact ⟨1, Nat.le_refl _, rfl⟩
        case round =>
          obtain ⟨k, hk, rfl⟩ := hrel
          by_cases hlt : k < n
          · first
              | (exfalso; omega)
              | (have hks : k < s.size := by omega
                 have q : (((s[k].toNat : Nat) : Int) == 10) = false := beq_eq_false_iff_ne.2 (by have := unhide HBF k hks hk hlt; omega)
                 go_wp2
                 go_round
                 case rel => exact ⟨k + 1, by omega, by go_num⟩
                 case measure => simp [intOf]; omega)
          · clear hk
            go_wp2
            go_loop [8] (fun i => ∃ j : Nat, j ≤ s.size ∧ i = .int .i64 j ∧ Hid (∀ m (h : m < s.size), m < j → ¬ s[m].toNat = 10)) (fun i => s.size - (intOf i).toNat)
            case atStart => exact ⟨0, Nat.zero_le _, rfl, hide (fun m h hm => by omega)⟩
            case round =>
              obtain ⟨j, hj, rfl, HN⟩ := hrel
              by_cases hjl : j < s.size
              · by_cases h10 : s[j].toNat = 10
                · have q : (((s[j].toNat : Nat) : Int) == 10) = true := beq_iff_eq.2 (by omega)
                  clear h10
                  go_wp2
                  go_ret
                  exact ⟨rfl, Below.refl _ _⟩
                · have q : (((s[j].toNat : Nat) : Int) == 10) = false := beq_eq_false_iff_ne.2 (by omega)
                  have HM := hide (show ∀ m (h : m < s.size), m < j + 1 → ¬ s[m].toNat = 10 from fun m h hm => by
                    by_cases e : m = j
                    · subst e; exact h10
                    · exact unhide HN m h (by omega))
                  clear h10 HN
                  go_wp2
                  go_round
                  case rel => exact ⟨j + 1, by omega, by go_num, unhide HM⟩
                  case measure => simp [intOf]; omega
              · have HALL := hide (show ∀ m (h : m < s.size), ¬ s[m].toNat = 10 from fun m h => unhide HN m h (by omega))
                clear HN
                go_wp2_with fail
                refine (unhide HAPP (unhide HALL) _ _ ?_ ?_).mono ?_
                · simp
                · have e1 : (⟨#[10]⟩ : ByteArray).size = 1 := rfl
                  simp only [ByteArray.size_append, e1]
                  omega
                rintro e w' ⟨rfl, rfl⟩
                go_wp2
                go_ret
                exact ⟨by simp, Below.refl _ _⟩
  by_cases c45 : s[0].toNat = 45
  · clear hH hSp hO
    have q32 : (((s[0].toNat : Nat) : Int) == 32) = false := beq_eq_false_iff_ne.2 (by omega)
    have p32 : (((s[0].toNat : Nat) : Int) != 32) = true := by simp only [bne, q32, Bool.not_false]
    have q9 : (((s[0].toNat : Nat) : Int) == 9) = false := beq_eq_false_iff_ne.2 (by omega)
    have p9 : (((s[0].toNat : Nat) : Int) != 9) = true := by simp only [bne, q9, Bool.not_false]
    have q10 : (((s[0].toNat : Nat) : Int) == 10) = false := beq_eq_false_iff_ne.2 (by omega)
    have p10 : (((s[0].toNat : Nat) : Int) != 10) = true := by simp only [bne, q10, Bool.not_false]
    have q13 : (((s[0].toNat : Nat) : Int) == 13) = false := beq_eq_false_iff_ne.2 (by omega)
    have p13 : (((s[0].toNat : Nat) : Int) != 13) = true := by simp only [bne, q13, Bool.not_false]
    have q35 : (((s[0].toNat : Nat) : Int) == 35) = false := beq_eq_false_iff_ne.2 (by omega)
    have p35 : (((s[0].toNat : Nat) : Int) != 35) = true := by simp only [bne, q35, Bool.not_false]
    have q45 : (((s[0].toNat : Nat) : Int) == 45) = true := beq_iff_eq.2 (by omega)
    have p45 : (((s[0].toNat : Nat) : Int) != 45) = false := by simp only [bne, q45, Bool.not_true]
    clear c32 c9 c10 c13 c35 c45
    by_cases hn1 : 1 < n
    · by_cases hlt : n < s.size
      · have r10 : (((s[n].toNat : Nat) : Int) != 10) = false := by
          have := unhide HAT hn1 hlt
          simp only [this]
          rfl
        all_goals
          go_enter Try.func5, Try.ntmps5
          go_wp2_with fail
          refine (bytes13_any s t _ (unhide HS) (unhide HT)).mono ?_
          rintro e w' ⟨b, rfl, rfl⟩
          cases b
          · go_wp2
            go_ret
            exact ⟨rfl, Below.refl _ _⟩
          go_wp2_with fail
          refine (unhide HB _).mono ?_
          rintro e w' ⟨rfl, rfl⟩
          go_wp2
          go_loop [7] (fun i => ∃ k : Nat, 1 ≤ k ∧ i = .int .i64 k) (fun i => n - (intOf i).toNat)
          case atStart => exact ⟨1, Nat.le_refl _, rfl⟩
          case round =>
            obtain ⟨k, hk, rfl⟩ := hrel
            by_cases hlt : k < n
            · first
                | (exfalso; omega)
                | (have hks : k < s.size := by omega
                   have q : (((s[k].toNat : Nat) : Int) == 10) = false := beq_eq_false_iff_ne.2 (by have := unhide HBF k hks hk hlt; omega)
                   go_wp2
                   go_round
                   case rel => exact ⟨k + 1, by omega, by go_num⟩
                   case measure => simp [intOf]; omega)
            · clear hk
              go_wp2
              go_loop [8] (fun i => ∃ j : Nat, j ≤ s.size ∧ i = .int .i64 j ∧ Hid (∀ m (h : m < s.size), m < j → ¬ s[m].toNat = 10)) (fun i => s.size - (intOf i).toNat)
              case atStart => exact ⟨0, Nat.zero_le _, rfl, hide (fun m h hm => by omega)⟩
              case round =>
                obtain ⟨j, hj, rfl, HN⟩ := hrel
                by_cases hjl : j < s.size
                · by_cases h10 : s[j].toNat = 10
                  · have q : (((s[j].toNat : Nat) : Int) == 10) = true := beq_iff_eq.2 (by omega)
                    clear h10
                    go_wp2
                    go_ret
                    exact ⟨rfl, Below.refl _ _⟩
                  · have q : (((s[j].toNat : Nat) : Int) == 10) = false := beq_eq_false_iff_ne.2 (by omega)
                    have HM := hide (show ∀ m (h : m < s.size), m < j + 1 → ¬ s[m].toNat = 10 from fun m h hm => by
                      by_cases e : m = j
                      · subst e; exact h10
                      · exact unhide HN m h (by omega))
                    clear h10 HN
                    go_wp2
                    go_round
                    case rel => exact ⟨j + 1, by omega, by go_num, unhide HM⟩
                    case measure => simp [intOf]; omega
                · have HALL := hide (show ∀ m (h : m < s.size), ¬ s[m].toNat = 10 from fun m h => unhide HN m h (by omega))
                  clear HN
                  go_wp2_with fail
                  refine (unhide HAPP (unhide HALL) _ _ ?_ ?_).mono ?_
                  · simp
                  · have e1 : (⟨#[10]⟩ : ByteArray).size = 1 := rfl
                    simp only [ByteArray.size_append, e1]
                    omega
                  rintro e w' ⟨rfl, rfl⟩
                  go_wp2
                  go_ret
                  exact ⟨by simp, Below.refl _ _⟩
      · all_goals
          go_enter Try.func5, Try.ntmps5
          go_wp2_with fail
          refine (bytes13_any s t _ (unhide HS) (unhide HT)).mono ?_
          rintro e w' ⟨b, rfl, rfl⟩
          cases b
          · go_wp2
            go_ret
            exact ⟨rfl, Below.refl _ _⟩
          go_wp2_with fail
          refine (unhide HB _).mono ?_
          rintro e w' ⟨rfl, rfl⟩
          go_wp2
          go_loop [7] (fun i => ∃ k : Nat, 1 ≤ k ∧ i = .int .i64 k) (fun i => n - (intOf i).toNat)
          case atStart => exact ⟨1, Nat.le_refl _, rfl⟩
          case round =>
            obtain ⟨k, hk, rfl⟩ := hrel
            by_cases hlt : k < n
            · first
                | (exfalso; omega)
                | (have hks : k < s.size := by omega
                   have q : (((s[k].toNat : Nat) : Int) == 10) = false := beq_eq_false_iff_ne.2 (by have := unhide HBF k hks hk hlt; omega)
                   go_wp2
                   go_round
                   case rel => exact ⟨k + 1, by omega, by go_num⟩
                   case measure => simp [intOf]; omega)
            · clear hk
              go_wp2
              go_loop [8] (fun i => ∃ j : Nat, j ≤ s.size ∧ i = .int .i64 j ∧ Hid (∀ m (h : m < s.size), m < j → ¬ s[m].toNat = 10)) (fun i => s.size - (intOf i).toNat)
              case atStart => exact ⟨0, Nat.zero_le _, rfl, hide (fun m h hm => by omega)⟩
              case round =>
                obtain ⟨j, hj, rfl, HN⟩ := hrel
                by_cases hjl : j < s.size
                · by_cases h10 : s[j].toNat = 10
                  · have q : (((s[j].toNat : Nat) : Int) == 10) = true := beq_iff_eq.2 (by omega)
                    clear h10
                    go_wp2
                    go_ret
                    exact ⟨rfl, Below.refl _ _⟩
                  · have q : (((s[j].toNat : Nat) : Int) == 10) = false := beq_eq_false_iff_ne.2 (by omega)
                    have HM := hide (show ∀ m (h : m < s.size), m < j + 1 → ¬ s[m].toNat = 10 from fun m h hm => by
                      by_cases e : m = j
                      · subst e; exact h10
                      · exact unhide HN m h (by omega))
                    clear h10 HN
                    go_wp2
                    go_round
                    case rel => exact ⟨j + 1, by omega, by go_num, unhide HM⟩
                    case measure => simp [intOf]; omega
                · have HALL := hide (show ∀ m (h : m < s.size), ¬ s[m].toNat = 10 from fun m h => unhide HN m h (by omega))
                  clear HN
                  go_wp2_with fail
                  refine (unhide HAPP (unhide HALL) _ _ ?_ ?_).mono ?_
                  · simp
                  · have e1 : (⟨#[10]⟩ : ByteArray).size = 1 := rfl
                    simp only [ByteArray.size_append, e1]
                    omega
                  rintro e w' ⟨rfl, rfl⟩
                  go_wp2
                  go_ret
                  exact ⟨by simp, Below.refl _ _⟩
    · all_goals
        go_enter Try.func5, Try.ntmps5
        go_wp2_with fail
        refine (bytes13_any s t _ (unhide HS) (unhide HT)).mono ?_
        rintro e w' ⟨b, rfl, rfl⟩
        cases b
        · go_wp2
          go_ret
          exact ⟨rfl, Below.refl _ _⟩
        go_wp2_with fail
        refine (unhide HB _).mono ?_
        rintro e w' ⟨rfl, rfl⟩
        go_wp2
        go_loop [7] (fun i => ∃ k : Nat, 1 ≤ k ∧ i = .int .i64 k) (fun i => n - (intOf i).toNat)
        case atStart => exact ⟨1, Nat.le_refl _, rfl⟩
        case round =>
          obtain ⟨k, hk, rfl⟩ := hrel
          by_cases hlt : k < n
          · first
              | (exfalso; omega)
              | (have hks : k < s.size := by omega
                 have q : (((s[k].toNat : Nat) : Int) == 10) = false := beq_eq_false_iff_ne.2 (by have := unhide HBF k hks hk hlt; omega)
                 go_wp2
                 go_round
                 case rel => exact ⟨k + 1, by omega, by go_num⟩
                 case measure => simp [intOf]; omega)
          · clear hk
            go_wp2
            go_loop [8] (fun i => ∃ j : Nat, j ≤ s.size ∧ i = .int .i64 j ∧ Hid (∀ m (h : m < s.size), m < j → ¬ s[m].toNat = 10)) (fun i => s.size - (intOf i).toNat)
            case atStart => exact ⟨0, Nat.zero_le _, rfl, hide (fun m h hm => by omega)⟩
            case round =>
              obtain ⟨j, hj, rfl, HN⟩ := hrel
              by_cases hjl : j < s.size
              · by_cases h10 : s[j].toNat = 10
                · have q : (((s[j].toNat : Nat) : Int) == 10) = true := beq_iff_eq.2 (by omega)
                  clear h10
                  go_wp2
                  go_ret
                  exact ⟨rfl, Below.refl _ _⟩
                · have q : (((s[j].toNat : Nat) : Int) == 10) = false := beq_eq_false_iff_ne.2 (by omega)
                  have HM := hide (show ∀ m (h : m < s.size), m < j + 1 → ¬ s[m].toNat = 10 from fun m h hm => by
                    by_cases e : m = j
                    · subst e; exact h10
                    · exact unhide HN m h (by omega))
                  clear h10 HN
                  go_wp2
                  go_round
                  case rel => exact ⟨j + 1, by omega, by go_num, unhide HM⟩
                  case measure => simp [intOf]; omega
              · have HALL := hide (show ∀ m (h : m < s.size), ¬ s[m].toNat = 10 from fun m h => unhide HN m h (by omega))
                clear HN
                go_wp2_with fail
                refine (unhide HAPP (unhide HALL) _ _ ?_ ?_).mono ?_
                · simp
                · have e1 : (⟨#[10]⟩ : ByteArray).size = 1 := rfl
                  simp only [ByteArray.size_append, e1]
                  omega
                rintro e w' ⟨rfl, rfl⟩
                go_wp2
                go_ret
                exact ⟨by simp, Below.refl _ _⟩
  have hn := hO c32 c9 c10 c13 c35 c45
  have n0 : (((n : Nat) : Int) != 0) = false := by rw [hn]; rfl
  have hn2 : n ≤ 0 := by omega
  clear hH hSp hO HAT hn
  have q32 : (((s[0].toNat : Nat) : Int) == 32) = false := beq_eq_false_iff_ne.2 (by omega)
  have p32 : (((s[0].toNat : Nat) : Int) != 32) = true := by simp only [bne, q32, Bool.not_false]
  have q9 : (((s[0].toNat : Nat) : Int) == 9) = false := beq_eq_false_iff_ne.2 (by omega)
  have p9 : (((s[0].toNat : Nat) : Int) != 9) = true := by simp only [bne, q9, Bool.not_false]
  have q10 : (((s[0].toNat : Nat) : Int) == 10) = false := beq_eq_false_iff_ne.2 (by omega)
  have p10 : (((s[0].toNat : Nat) : Int) != 10) = true := by simp only [bne, q10, Bool.not_false]
  have q13 : (((s[0].toNat : Nat) : Int) == 13) = false := beq_eq_false_iff_ne.2 (by omega)
  have p13 : (((s[0].toNat : Nat) : Int) != 13) = true := by simp only [bne, q13, Bool.not_false]
  have q35 : (((s[0].toNat : Nat) : Int) == 35) = false := beq_eq_false_iff_ne.2 (by omega)
  have p35 : (((s[0].toNat : Nat) : Int) != 35) = true := by simp only [bne, q35, Bool.not_false]
  have q45 : (((s[0].toNat : Nat) : Int) == 45) = false := beq_eq_false_iff_ne.2 (by omega)
  have p45 : (((s[0].toNat : Nat) : Int) != 45) = true := by simp only [bne, q45, Bool.not_false]
  clear c32 c9 c10 c13 c35 c45
  all_goals
    go_enter Try.func5, Try.ntmps5
    go_wp2_with fail
    refine (bytes13_any s t _ (unhide HS) (unhide HT)).mono ?_
    rintro e w' ⟨b, rfl, rfl⟩
    cases b
    · go_wp2
      go_ret
      exact ⟨rfl, Below.refl _ _⟩
    go_wp2_with fail
    refine (unhide HB _).mono ?_
    rintro e w' ⟨rfl, rfl⟩
    go_wp2
    go_loop [7] (fun i => ∃ k : Nat, 1 ≤ k ∧ i = .int .i64 k) (fun i => n - (intOf i).toNat)
    case atStart => exact ⟨1, Nat.le_refl _, rfl⟩
    case round =>
      obtain ⟨k, hk, rfl⟩ := hrel
      by_cases hlt : k < n
      · first
          | (exfalso; omega)
          | (have hks : k < s.size := by omega
             have q : (((s[k].toNat : Nat) : Int) == 10) = false := beq_eq_false_iff_ne.2 (by have := unhide HBF k hks hk hlt; omega)
             go_wp2
             go_round
             case rel => exact ⟨k + 1, by omega, by go_num⟩
             case measure => simp [intOf]; omega)
      · clear hk
        go_wp2
        go_loop [8] (fun i => ∃ j : Nat, j ≤ s.size ∧ i = .int .i64 j ∧ Hid (∀ m (h : m < s.size), m < j → ¬ s[m].toNat = 10)) (fun i => s.size - (intOf i).toNat)
        case atStart => exact ⟨0, Nat.zero_le _, rfl, hide (fun m h hm => by omega)⟩
        case round =>
          obtain ⟨j, hj, rfl, HN⟩ := hrel
          by_cases hjl : j < s.size
          · by_cases h10 : s[j].toNat = 10
            · have q : (((s[j].toNat : Nat) : Int) == 10) = true := beq_iff_eq.2 (by omega)
              clear h10
              go_wp2
              go_ret
              exact ⟨rfl, Below.refl _ _⟩
            · have q : (((s[j].toNat : Nat) : Int) == 10) = false := beq_eq_false_iff_ne.2 (by omega)
              have HM := hide (show ∀ m (h : m < s.size), m < j + 1 → ¬ s[m].toNat = 10 from fun m h hm => by
                by_cases e : m = j
                · subst e; exact h10
                · exact unhide HN m h (by omega))
              clear h10 HN
              go_wp2
              go_round
              case rel => exact ⟨j + 1, by omega, by go_num, unhide HM⟩
              case measure => simp [intOf]; omega
          · have HALL := hide (show ∀ m (h : m < s.size), ¬ s[m].toNat = 10 from fun m h => unhide HN m h (by omega))
            clear HN
            go_wp2_with fail
            refine (unhide HAPP (unhide HALL) _ _ ?_ ?_).mono ?_
            · simp
            · have e1 : (⟨#[10]⟩ : ByteArray).size = 1 := rfl
              simp only [ByteArray.size_append, e1]
              omega
            rintro e w' ⟨rfl, rfl⟩
            go_wp2
            go_ret
            exact ⟨by simp, Below.refl _ _⟩

end Go.Proofs.Qxb6001684a
