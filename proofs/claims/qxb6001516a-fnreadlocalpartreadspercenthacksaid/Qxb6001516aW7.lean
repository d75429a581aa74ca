/-
  WALKS of seat b6001516a, seven: isDomainLiteral, isHop.
-/
import Derived.Test.Qxb6001516aW6
import Derived.Test.Qxb6001516aRL
namespace Go.Proofs.Qxb6001516a
open Go.RowKit
set_option linter.unusedVariables false

theorem head_of (s : ByteArray) (h : 0 < s.size) : s.data.toList.head? = some s[0] := by
  rw [List.head?_eq_getElem?, List.getElem?_eq_getElem (by simpa using h)]
  rfl
theorem last_of (s : ByteArray) (h : 0 < s.size) : s.data.toList.getLast? = some (s[s.size - 1]) := by
  have hl : s.data.toList.length = s.size := (Lib.size_eq s).symm
  rw [List.getLast?_eq_getElem?, List.getElem?_eq_getElem (by omega)]
  simp only [hl]
  rfl

theorem dom_no0 (s : ByteArray) (h : s.size < 3) : Pl.isDom s.data.toList = false := by
  unfold Pl.isDom; rw [← Lib.size_eq]
  have : ¬ 3 ≤ s.size := by omega
  simp [this]
theorem dom_no1 (s : ByteArray) (h0 : 0 < s.size) (h : ¬ s[0].toNat = 91) : Pl.isDom s.data.toList = false := by
  unfold Pl.isDom; rw [head_of s h0]
  have : ¬ s[0] = 91 := fun e => h ((byte_eq _ 91 (by omega)).2 e)
  simp [this]
theorem dom_no2 (s : ByteArray) (h0 : 0 < s.size) (h : ¬ (s[s.size - 1]).toNat = 93) : Pl.isDom s.data.toList = false := by
  unfold Pl.isDom; rw [last_of s h0]
  have : ¬ s[s.size - 1] = 93 := fun e => h ((byte_eq _ 93 (by omega)).2 e)
  simp [this]
theorem dom_no3 (s : ByteArray) (k : Nat) (h1 : 1 ≤ k) (h2 : k < s.size) (h3 : k + 1 < s.size) (h : Pl.dtext s[k] = false) : Pl.isDom s.data.toList = false := by
  cases hd : Pl.isDom s.data.toList
  · rfl
  · unfold Pl.isDom at hd
    simp only [Bool.and_eq_true] at hd
    have := Pl.dom_mid hd.2 k h1 (by rw [← Lib.size_eq]; exact h3)
    rw [show s.data.toList[k]'(by rw [← Lib.size_eq]; exact h2) = s[k] from rfl, h] at this
    cases this
theorem dom_yes (s : ByteArray) (h : 3 ≤ s.size) (h1 : s[0].toNat = 91) (h2 : (s[s.size - 1]).toNat = 93) (h3 : ∀ k (hk : k + 1 < s.size), 1 ≤ k → Pl.dtext s[k] = true) : Pl.isDom s.data.toList = true := by
  unfold Pl.isDom
  rw [head_of s (by omega), last_of s (by omega), (byte_eq _ 91 (by omega)).1 h1, (byte_eq _ 93 (by omega)).1 h2, ← Lib.size_eq]
  have e := Pl.dom_of (h := s.data.toList) (fun k hk h1 => h3 k (by rw [← Lib.size_eq] at hk; exact hk) h1)
  rw [← Lib.size_eq] at e
  rw [e]
  simp [h]

theorem dtext_lo (c : UInt8) (h : c.toNat < 33) : Pl.dtext c = false := by
  have : ¬ 33 ≤ c.toNat := by omega
  simp [Pl.dtext, this]
theorem dtext_hi (c : UInt8) (h : 126 < c.toNat) : Pl.dtext c = false := by
  have : ¬ c.toNat ≤ 126 := by omega
  simp [Pl.dtext, this]

set_option maxHeartbeats 2000000 in
/-- isDomainLiteral -/
theorem dom_any (s : ByteArray) (w : World) (hs : s.size ≤ 4194304) :
    Calls Try.prog 35 #[.string s] w fun e w' => e = .returned (.bool (Pl.isDom s.data.toList)) ∧ w' = w := by
  by_cases z1 : s.size < 3
  · have FIN := hide (dom_no0 s z1)
    go_enter Try.func35, Try.ntmps35
    go_wp2
    go_ret
    exact ⟨ret_bool (unhide FIN).symm, rfl⟩
  have p0 : 0 < s.size := by omega
  by_cases z2 : s[0].toNat = 91
  · have q2 : (((s[0].toNat : Nat) : Int) != 91) = false := by simp; omega
    by_cases z3 : (s[s.size - 1]).toNat = 93
    · have q3 : (((s[s.size - 1].toNat : Nat) : Int) != 93) = false := by simp; omega
      have HY := hide (dom_yes s (by omega) z2 z3)
      clear z2 z3
      go_enter Try.func35, Try.ntmps35
      go_wp2
      go_loop [3] (fun i => ∃ k : Nat, 1 ≤ k ∧ k + 1 ≤ s.size ∧ i = .int .i64 k ∧ Hid (∀ j (hj : j + 1 < s.size), 1 ≤ j → j < k → Pl.dtext s[j] = true)) (fun i => s.size - (intOf i).toNat)
      case atStart => exact ⟨1, by omega, by omega, rfl, hide (fun j hj h1 h2 => by omega)⟩
      case round =>
        obtain ⟨k, hk1, hk2, rfl, HA⟩ := hrel
        by_cases hlt : k + 1 < s.size
        · have hlt' : k < s.size := by omega
          by_cases g1 : s[k].toNat < 33
          · have FIN := hide (dom_no3 s k hk1 hlt' hlt (dtext_lo _ g1))
            go_wp2
            go_ret
            exact ⟨ret_bool (unhide FIN).symm, rfl⟩
          by_cases g2 : 126 < s[k].toNat
          · have FIN := hide (dom_no3 s k hk1 hlt' hlt (dtext_hi _ g2))
            go_wp2
            go_ret
            exact ⟨ret_bool (unhide FIN).symm, rfl⟩
          by_cases g3 : s[k].toNat = 91
          · have q4 : (((s[k].toNat : Nat) : Int) == 91) = true := beq_iff_eq.2 (by omega)
            have FIN := hide (dom_no3 s k hk1 hlt' hlt (by rw [(byte_eq _ 91 (by omega)).1 g3]; decide))
            clear g3
            go_wp2
            go_ret
            exact ⟨ret_bool (unhide FIN).symm, rfl⟩
          have q4 : (((s[k].toNat : Nat) : Int) == 91) = false := beq_eq_false_iff_ne.2 (by omega)
          by_cases g4 : s[k].toNat = 93
          · have q5 : (((s[k].toNat : Nat) : Int) == 93) = true := beq_iff_eq.2 (by omega)
            have FIN := hide (dom_no3 s k hk1 hlt' hlt (by rw [(byte_eq _ 93 (by omega)).1 g4]; decide))
            clear g4
            go_wp2
            go_ret
            exact ⟨ret_bool (unhide FIN).symm, rfl⟩
          have q5 : (((s[k].toNat : Nat) : Int) == 93) = false := beq_eq_false_iff_ne.2 (by omega)
          by_cases g5 : s[k].toNat = 92
          · have q6 : (((s[k].toNat : Nat) : Int) == 92) = true := beq_iff_eq.2 (by omega)
            have FIN := hide (dom_no3 s k hk1 hlt' hlt (by rw [(byte_eq _ 92 (by omega)).1 g5]; decide))
            clear g5
            go_wp2
            go_ret
            exact ⟨ret_bool (unhide FIN).symm, rfl⟩
          have q6 : (((s[k].toNat : Nat) : Int) == 92) = false := beq_eq_false_iff_ne.2 (by omega)
          have HD := hide (show Pl.dtext s[k] = true by
            have n3 : ¬ s[k] = 91 := fun e => g3 ((byte_eq _ 91 (by omega)).2 e)
            have n4 : ¬ s[k] = 93 := fun e => g4 ((byte_eq _ 93 (by omega)).2 e)
            have n5 : ¬ s[k] = 92 := fun e => g5 ((byte_eq _ 92 (by omega)).2 e)
            have n1 : 33 ≤ s[k].toNat := by omega
            have n2 : s[k].toNat ≤ 126 := by omega
            simp [Pl.dtext, n1, n2, n3, n4, n5])
          go_wp2
          go_round
          case rel =>
            refine ⟨k + 1, by omega, by omega, by go_num, hide (fun j hj h1 h2 => ?_)⟩
            by_cases e : j = k
            · subst e; exact unhide HD
            · exact unhide HA j hj h1 (by omega)
          case measure => simp [intOf]; omega
        · have FIN := hide (unhide HY (fun j hj h1 => unhide HA j hj h1 (by omega)))
          go_wp2
          go_ret
          exact ⟨ret_bool (unhide FIN).symm, rfl⟩
    · have q3 : (((s[s.size - 1].toNat : Nat) : Int) != 93) = true := by simp; omega
      have FIN := hide (dom_no2 s p0 z3)
      clear z2
      go_enter Try.func35, Try.ntmps35
      go_wp2
      go_ret
      exact ⟨ret_bool (unhide FIN).symm, rfl⟩
  · have q2 : (((s[0].toNat : Nat) : Int) != 91) = true := by simp; omega
    have FIN := hide (dom_no1 s p0 z2)
    go_enter Try.func35, Try.ntmps35
    go_wp2
    go_ret
    exact ⟨ret_bool (unhide FIN).symm, rfl⟩

theorem hop_lit (s : ByteArray) (h0 : 0 < s.size) (h : s[0].toNat = 91) : Pl.isHopL s.data.toList = Pl.isDom s.data.toList := by
  unfold Pl.isHopL
  rw [head_of s h0, (byte_eq _ 91 (by omega)).1 h]; rfl
theorem hop_nolit (s : ByteArray) (h0 : 0 < s.size) (h : ¬ s[0].toNat = 91) : Pl.isHopL s.data.toList = s.data.toList.all Pl.hopCh := by
  unfold Pl.isHopL
  have : ¬ s[0] = 91 := fun e => h ((byte_eq _ 91 (by omega)).2 e)
  rw [head_of s h0, if_neg (by simpa using this)]
  have e : s.data.toList.isEmpty = false := by
    rw [List.isEmpty_eq_false_iff_exists_mem]
    exact ⟨s[0], List.getElem_mem (l := s.data.toList) (by simpa using h0)⟩
  rw [e]; rfl
theorem hop_no (s : ByteArray) (k : Nat) (hk : k < s.size) (h : Pl.hopCh s[k] = false) : s.data.toList.all Pl.hopCh = false := by
  rw [List.all_eq_false]
  exact ⟨s[k], List.getElem_mem (l := s.data.toList) (by simpa using hk), by simp [h]⟩
theorem hop_yes (s : ByteArray) (h : ∀ k (hk : k < s.size), Pl.hopCh s[k] = true) : s.data.toList.all Pl.hopCh = true := by
  rw [List.all_eq_true]
  intro c hc
  obtain ⟨k, hk, rfl⟩ := List.getElem_of_mem hc
  exact h k (by simpa using hk)

set_option maxHeartbeats 400000 in
theorem isHop_lit (s : ByteArray) (w : World) (hs : s.size ≤ 4194304) (h0 : 0 < s.size) (h : s[0].toNat = 91) :
    Calls Try.prog 29 #[.string s] w fun e w' => e = .returned (.bool (Pl.isHopL s.data.toList)) ∧ w' = w := by
  rw [hop_lit s h0 h]
  have q : (((s[0].toNat : Nat) : Int) == 91) = true := beq_iff_eq.2 (by omega)
  have e0 : s.toList.isEmpty = false := by
    rw [Lib.toList_data, List.isEmpty_eq_false_iff_exists_mem]
    exact ⟨s[0], List.getElem_mem (l := s.data.toList) (by simpa using h0)⟩
  clear h
  go_enter Try.func29, Try.ntmps29
  go_wp2_with (go_at_call 35; refine (dom_any _ _ hs).mono ?_; rintro e w' ⟨rfl, rfl⟩)
  go_ret
  exact ⟨rfl, rfl⟩

set_option maxHeartbeats 400000 in
theorem isHop_nil (s : ByteArray) (w : World) (h0 : ¬ 0 < s.size) :
    Calls Try.prog 29 #[.string s] w fun e w' => e = .returned (.bool (Pl.isHopL s.data.toList)) ∧ w' = w := by
  have e : s.data.toList = [] := List.length_eq_zero_iff.1 (by rw [← Lib.size_eq]; omega)
  have FIN := hide (show Pl.isHopL s.data.toList = false by rw [e]; rfl)
  have e0 : s.toList.isEmpty = true := by rw [Lib.toList_data, e]; rfl
  clear e
  go_enter Try.func29, Try.ntmps29
  go_wp2
  go_ret
  exact ⟨ret_bool (unhide FIN).symm, rfl⟩

set_option maxHeartbeats 2000000 in
theorem isHop_name (s : ByteArray) (w : World) (hs : s.size ≤ 4194304) (h0 : 0 < s.size) (h : ¬ s[0].toNat = 91) :
    Calls Try.prog 29 #[.string s] w fun e w' => e = .returned (.bool (Pl.isHopL s.data.toList)) ∧ w' = w := by
  have HE := hide (hop_nolit s h0 h)
  have q : (((s[0].toNat : Nat) : Int) == 91) = false := beq_eq_false_iff_ne.2 (by omega)
  have e0 : s.toList.isEmpty = false := by
    rw [Lib.toList_data, List.isEmpty_eq_false_iff_exists_mem]
    exact ⟨s[0], List.getElem_mem (l := s.data.toList) (by simpa using h0)⟩
  clear h
  go_enter Try.func29, Try.ntmps29
  go_wp2
  go_loop [3] (fun i => ∃ k : Nat, k ≤ s.size ∧ i = .int .i64 k ∧ Hid (∀ j (hj : j < s.size), j < k → Pl.hopCh s[j] = true)) (fun i => s.size - (intOf i).toNat)
  case atStart => exact ⟨0, Nat.zero_le _, rfl, hide (fun j hj h => by omega)⟩
  case round =>
    obtain ⟨k, hk, rfl, HA⟩ := hrel
    by_cases hlt : k < s.size
    · have HS := hide (show ∀ (hc : Pl.hopCh s[k] = true), ∀ j (hj : j < s.size), j < k + 1 → Pl.hopCh s[j] = true from fun hc j hj h => by
        by_cases e : j = k
        · subst e; exact hc
        · exact unhide HA j hj (by omega))
      have HNO := hide (hop_no s k hlt)
      clear HA
      by_cases a1 : 97 ≤ s[k].toNat ∧ s[k].toNat ≤ 122
      · have HC := hide (unhide HS (by simp [Pl.hopCh, a1]))
        obtain ⟨b1, b2⟩ := a1
        go_wp2
        go_round
        case rel => exact ⟨k + 1, by omega, by go_num, unhide HC⟩
        case measure => simp [intOf]; omega
      by_cases a2 : 65 ≤ s[k].toNat ∧ s[k].toNat ≤ 90
      · have HC := hide (unhide HS (by simp [Pl.hopCh, a2]))
        obtain ⟨b1, b2⟩ := a2
        clear a1
        go_wp2
        go_round
        case rel => exact ⟨k + 1, by omega, by go_num, unhide HC⟩
        case measure => simp [intOf]; omega
      by_cases a3 : 48 ≤ s[k].toNat ∧ s[k].toNat ≤ 57
      · have HC := hide (unhide HS (by simp [Pl.hopCh, a3]))
        obtain ⟨b1, b2⟩ := a3
        clear a1 a2
        go_wp2
        go_round
        case rel => exact ⟨k + 1, by omega, by go_num, unhide HC⟩
        case measure => simp [intOf]; omega
      by_cases a45 : s[k].toNat = 45
      · have HC := hide (unhide HS (by rw [(byte_eq _ 45 (by omega)).1 a45]; decide))
        have b1 : 45 ≤ s[k].toNat := by omega
        have b2 : s[k].toNat ≤ 45 := by omega
        have q45 : (((s[k].toNat : Nat) : Int) == 45) = true := beq_iff_eq.2 (by omega)
        clear a1 a2 a3 a45
        go_wp2
        go_round
        case rel => exact ⟨k + 1, by omega, by go_num, unhide HC⟩
        case measure => simp [intOf]; omega
      by_cases a46 : s[k].toNat = 46
      · have HC := hide (unhide HS (by rw [(byte_eq _ 46 (by omega)).1 a46]; decide))
        have b1 : 46 ≤ s[k].toNat := by omega
        have b2 : s[k].toNat ≤ 46 := by omega
        have q45 : (((s[k].toNat : Nat) : Int) == 45) = false := beq_eq_false_iff_ne.2 (by omega)
        have q46 : (((s[k].toNat : Nat) : Int) == 46) = true := beq_iff_eq.2 (by omega)
        clear a1 a2 a3 a46 a45
        go_wp2
        go_round
        case rel => exact ⟨k + 1, by omega, by go_num, unhide HC⟩
        case measure => simp [intOf]; omega
      by_cases a95 : s[k].toNat = 95
      · have HC := hide (unhide HS (by rw [(byte_eq _ 95 (by omega)).1 a95]; decide))
        have b1 : 95 ≤ s[k].toNat := by omega
        have b2 : s[k].toNat ≤ 95 := by omega
        have q45 : (((s[k].toNat : Nat) : Int) == 45) = false := beq_eq_false_iff_ne.2 (by omega)
        have q46 : (((s[k].toNat : Nat) : Int) == 46) = false := beq_eq_false_iff_ne.2 (by omega)
        have q95 : (((s[k].toNat : Nat) : Int) == 95) = true := beq_iff_eq.2 (by omega)
        clear a1 a2 a3 a95 a45 a46
        go_wp2
        go_round
        case rel => exact ⟨k + 1, by omega, by go_num, unhide HC⟩
        case measure => simp [intOf]; omega
      have HC := hide ((unhide HE).trans (unhide HNO (by
        have n45 : ¬ s[k] = 45 := fun e => a45 ((byte_eq _ 45 (by omega)).2 e)
        have n46 : ¬ s[k] = 46 := fun e => a46 ((byte_eq _ 46 (by omega)).2 e)
        have n95 : ¬ s[k] = 95 := fun e => a95 ((byte_eq _ 95 (by omega)).2 e)
        simp [Pl.hopCh, n45, n46, n95]
        omega)))
      have q45 : (((s[k].toNat : Nat) : Int) == 45) = false := beq_eq_false_iff_ne.2 (by omega)
      have q46 : (((s[k].toNat : Nat) : Int) == 46) = false := beq_eq_false_iff_ne.2 (by omega)
      have q95 : (((s[k].toNat : Nat) : Int) == 95) = false := beq_eq_false_iff_ne.2 (by omega)
      have cs : s[k].toNat < 48 ∨ (57 < s[k].toNat ∧ s[k].toNat < 65) ∨ (90 < s[k].toNat ∧ s[k].toNat < 97) ∨ 122 < s[k].toNat := by omega
      clear a1 a2 a3 a45 a46 a95
      rcases cs with c1 | ⟨c1, c2⟩ | ⟨c1, c2⟩ | c1
      all_goals
        go_wp2
        go_ret
        exact ⟨ret_bool (unhide HC).symm, rfl⟩
    · have FIN := hide ((unhide HE).trans (hop_yes s (fun j hj => unhide HA j hj (by omega))))
      go_wp2
      go_ret
      exact ⟨ret_bool (unhide FIN).symm, rfl⟩

/-- isHop -/
theorem isHop_any (s : ByteArray) (w : World) (hs : s.size ≤ 4194304) :
    Calls Try.prog 29 #[.string s] w fun e w' => e = .returned (.bool (Pl.isHopL s.data.toList)) ∧ w' = w := by
  by_cases h0 : 0 < s.size
  · by_cases h : s[0].toNat = 91
    · exact isHop_lit s w hs h0 h
    · exact isHop_name s w hs h0 h
  · exact isHop_nil s w h0

end Go.Proofs.Qxb6001516a
