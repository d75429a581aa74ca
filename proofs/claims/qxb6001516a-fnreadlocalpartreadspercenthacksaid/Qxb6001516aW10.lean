/-
  WALKS of seat b6001516a, ten: the two bounds over (names, mailbox); isPlainHopNameB1.
-/
import Derived.Test.Qxb6001516aW6
import Derived.Test.Qxb6001516aBangP
namespace Go.Proofs.Qxb6001516a
open Go.RowKit
set_option linter.unusedVariables false

theorem endB_some {e : Ending} {b : Bool} (h : e = .returned (.bool b)) : EndB e True := ⟨b, h, fun _ => trivial⟩

set_option maxHeartbeats 1000000 in
/-- zzBytes_FnReadLocalPartReadsBangPath -/
theorem bytes8_any (a0 : Option Addr) (len cap : Nat) (ss : List ByteArray) (s : ByteArray) (pf : Bool) (w : World) (hA : IsStrs w a0 len ss) (hs : s.size ≤ maxLen) :
    Calls Try.prog 8 #[.slice a0 len cap, .string s, .bool pf] w fun e w' => w' = w ∧ EndB e True := by
  obtain ⟨hl, hm, hsz, hcs⟩ := hA
  unfold maxLen at hm hs
  have HSZ := hide hsz
  have HCS := hide hcs
  clear hsz hcs
  by_cases hbig : 1048576 < len
  · go_enter Try.func8, Try.ntmps8
    go_wp2
    go_ret
    exact ⟨rfl, endB_some rfl⟩
  · go_enter Try.func8, Try.ntmps8
    go_wp2
    go_loop [7, 8] (fun z i => ∃ k n : Nat, k ≤ len ∧ i = .int .i64 k ∧ z = .int .i64 n ∧ n ≤ 1048576) (fun _ i => len - (intOf i).toNat)
    case atStart => exact ⟨0, len, Nat.zero_le _, rfl, by go_num, by omega⟩
    case round =>
      obtain ⟨k, n, hk, rfl, rfl, hn⟩ := hrel
      by_cases hlt : k < len
      · obtain ⟨b, off, rfl, hbl, hc⟩ := unhide HCS (by omega)
        have hck := hc k (by omega)
        have hsk : ss[k].size ≤ 9223372036854775807 := by have := unhide HSZ ss[k] (List.getElem_mem (by omega)); unfold maxLen at this; omega
        clear hc
        generalize ss[k] = sk at hck hsk
        by_cases h1 : 1048576 < sk.size
        · go_wp2
          go_ret
          exact ⟨rfl, endB_some rfl⟩
        · by_cases h2 : 1048576 < n + sk.size
          · go_wp2
            go_ret
            exact ⟨rfl, endB_some rfl⟩
          · go_wp2
            go_round
            case rel => exact ⟨k + 1, n + sk.size, by omega, by go_num, by go_num, by omega⟩
            case measure => simp [intOf]; omega
      · obtain rfl : k = len := by omega
        by_cases h1 : 1048576 < s.size
        · go_wp2
          go_ret
          exact ⟨rfl, endB_some rfl⟩
        · by_cases h2 : 1048576 < n + s.size
          · go_wp2
            go_ret
            exact ⟨rfl, endB_some rfl⟩
          · go_wp2
            go_ret
            exact ⟨rfl, endB_some rfl⟩

set_option maxHeartbeats 1000000 in
/-- zzBytes_FnReadLocalPartReadsPercentHack -/
theorem bytes13_any (a0 : Option Addr) (len cap : Nat) (ss : List ByteArray) (s : ByteArray) (pf : Bool) (w : World) (hA : IsStrs w a0 len ss) (hs : s.size ≤ maxLen) :
    Calls Try.prog 13 #[.string s, .slice a0 len cap, .bool pf] w fun e w' => w' = w ∧ EndB e True := by
  obtain ⟨hl, hm, hsz, hcs⟩ := hA
  unfold maxLen at hm hs
  have HSZ := hide hsz
  have HCS := hide hcs
  clear hsz hcs
  by_cases hb1 : 1048576 < s.size
  · go_enter Try.func13, Try.ntmps13
    go_wp2
    go_ret
    exact ⟨rfl, endB_some rfl⟩
  by_cases hbig : 1048576 < len
  · go_enter Try.func13, Try.ntmps13
    go_wp2
    go_ret
    exact ⟨rfl, endB_some rfl⟩
  by_cases hb2 : 1048576 < s.size + len
  · go_enter Try.func13, Try.ntmps13
    go_wp2
    go_ret
    exact ⟨rfl, endB_some rfl⟩
  · go_enter Try.func13, Try.ntmps13
    go_wp2
    go_loop [7, 8] (fun z i => ∃ k n : Nat, k ≤ len ∧ i = .int .i64 k ∧ z = .int .i64 n ∧ n ≤ 1048576) (fun _ i => len - (intOf i).toNat)
    case atStart => exact ⟨0, s.size + len, Nat.zero_le _, rfl, by go_num, by omega⟩
    case round =>
      obtain ⟨k, n, hk, rfl, rfl, hn⟩ := hrel
      by_cases hlt : k < len
      · obtain ⟨b, off, rfl, hbl, hc⟩ := unhide HCS (by omega)
        have hck := hc k (by omega)
        have hsk : ss[k].size ≤ 9223372036854775807 := by have := unhide HSZ ss[k] (List.getElem_mem (by omega)); unfold maxLen at this; omega
        clear hc
        generalize ss[k] = sk at hck hsk
        by_cases h1 : 1048576 < sk.size
        · go_wp2
          go_ret
          exact ⟨rfl, endB_some rfl⟩
        · by_cases h2 : 1048576 < n + sk.size
          · go_wp2
            go_ret
            exact ⟨rfl, endB_some rfl⟩
          · go_wp2
            go_round
            case rel => exact ⟨k + 1, n + sk.size, by omega, by go_num, by go_num, by omega⟩
            case measure => simp [intOf]; omega
      · obtain rfl : k = len := by omega
        go_wp2
        go_ret
        exact ⟨rfl, endB_some rfl⟩

theorem plain_yes (dots : Bool) (s : ByteArray) (h0 : 0 < s.size) (h : ∀ j (hj : j < s.size), Pl.plainCh dots s[j] = true) : Pl.Plain dots s.data.toList := by
  refine ⟨List.length_pos_iff.1 (by rw [← Lib.size_eq]; exact h0), fun c hc => ?_⟩
  obtain ⟨j, hj, rfl⟩ := List.getElem_of_mem hc
  exact h j (by simpa using hj)

set_option maxHeartbeats 2000000 in
/-- isPlainHopNameB1 -/
theorem plain_any (s : ByteArray) (dots : Bool) (w : World) (hs : s.size ≤ 4194304) :
    Calls Try.prog 11 #[.string s, .bool dots] w fun e w' => w' = w ∧ EndB e (Pl.Plain dots s.data.toList) := by
  by_cases h0 : s.size = 0
  · have q0 : (((s.size : Nat) : Int) == 0) = true := beq_iff_eq.2 (by omega)
    clear h0
    go_enter Try.func11, Try.ntmps11
    go_wp2
    go_ret
    exact ⟨rfl, endB_no rfl⟩
  have q0 : (((s.size : Nat) : Int) == 0) = false := beq_eq_false_iff_ne.2 (by omega)
  have h0' : 0 < s.size := by omega
  clear h0
  go_enter Try.func11, Try.ntmps11
  go_wp2
  go_loop [5] (fun i => ∃ k : Nat, k ≤ s.size ∧ i = .int .i64 k ∧ Hid (∀ j (hj : j < s.size), j < k → Pl.plainCh dots s[j] = true)) (fun i => s.size - (intOf i).toNat)
  case atStart => exact ⟨0, Nat.zero_le _, rfl, hide (fun j hj h => by omega)⟩
  case round =>
    obtain ⟨k, hk, rfl, HA⟩ := hrel
    by_cases hlt : k < s.size
    · have HS := hide (show ∀ (hc : Pl.plainCh dots s[k] = true), ∀ j (hj : j < s.size), j < k + 1 → Pl.plainCh dots s[j] = true from fun hc j hj h => by
        by_cases e : j = k
        · subst e; exact hc
        · exact unhide HA j hj (by omega))
      clear HA
      by_cases a1 : 97 ≤ s[k].toNat ∧ s[k].toNat ≤ 122
      · have HC := hide (unhide HS (by simp [Pl.plainCh, a1]))
        obtain ⟨b1, b2⟩ := a1
        go_wp2
        go_round
        case rel => exact ⟨k + 1, by omega, by go_num, unhide HC⟩
        case measure => simp [intOf]; omega
      by_cases a2 : 65 ≤ s[k].toNat ∧ s[k].toNat ≤ 90
      · have HC := hide (unhide HS (by simp [Pl.plainCh, a2]))
        obtain ⟨b1, b2⟩ := a2
        clear a1
        go_wp2
        go_round
        case rel => exact ⟨k + 1, by omega, by go_num, unhide HC⟩
        case measure => simp [intOf]; omega
      by_cases a3 : 48 ≤ s[k].toNat ∧ s[k].toNat ≤ 57
      · have HC := hide (unhide HS (by simp [Pl.plainCh, a3]))
        obtain ⟨b1, b2⟩ := a3
        clear a1 a2
        go_wp2
        go_round
        case rel => exact ⟨k + 1, by omega, by go_num, unhide HC⟩
        case measure => simp [intOf]; omega
      by_cases a45 : s[k].toNat = 45
      · have HC := hide (unhide HS (by rw [(byte_eq _ 45 (by omega)).1 a45]; cases dots <;> decide))
        have b1 : 45 ≤ s[k].toNat := by omega
        have b2 : s[k].toNat ≤ 45 := by omega
        have q45 : (((s[k].toNat : Nat) : Int) == 45) = true := beq_iff_eq.2 (by omega)
        clear a1 a2 a3 a45
        go_wp2
        go_round
        case rel => exact ⟨k + 1, by omega, by go_num, unhide HC⟩
        case measure => simp [intOf]; omega
      by_cases a95 : s[k].toNat = 95
      · have HC := hide (unhide HS (by rw [(byte_eq _ 95 (by omega)).1 a95]; cases dots <;> decide))
        have b1 : 95 ≤ s[k].toNat := by omega
        have b2 : s[k].toNat ≤ 95 := by omega
        have q45 : (((s[k].toNat : Nat) : Int) == 45) = false := beq_eq_false_iff_ne.2 (by omega)
        have q95 : (((s[k].toNat : Nat) : Int) == 95) = true := beq_iff_eq.2 (by omega)
        clear a1 a2 a3 a95 a45
        go_wp2
        go_round
        case rel => exact ⟨k + 1, by omega, by go_num, unhide HC⟩
        case measure => simp [intOf]; omega
      have q45 : (((s[k].toNat : Nat) : Int) == 45) = false := beq_eq_false_iff_ne.2 (by omega)
      have q95 : (((s[k].toNat : Nat) : Int) == 95) = false := beq_eq_false_iff_ne.2 (by omega)
      by_cases a46 : s[k].toNat = 46
      · have b1 : 46 ≤ s[k].toNat := by omega
        have b2 : s[k].toNat ≤ 46 := by omega
        have q46 : (((s[k].toNat : Nat) : Int) == 46) = true := beq_iff_eq.2 (by omega)
        have HB := hide ((byte_eq _ 46 (by omega)).1 a46)
        clear a1 a2 a3 a46 a45 a95
        cases dots
        · go_wp2
          go_ret
          exact ⟨rfl, endB_no rfl⟩
        · have HC := hide (unhide HS (by rw [unhide HB]; decide))
          go_wp2
          go_round
          case rel => exact ⟨k + 1, by omega, by go_num, unhide HC⟩
          case measure => simp [intOf]; omega
      have q46 : (((s[k].toNat : Nat) : Int) == 46) = false := beq_eq_false_iff_ne.2 (by omega)
      have cs : s[k].toNat < 48 ∨ (57 < s[k].toNat ∧ s[k].toNat < 65) ∨ (90 < s[k].toNat ∧ s[k].toNat < 97) ∨ 122 < s[k].toNat := by omega
      clear a1 a2 a3 a45 a46 a95
      rcases cs with c1 | ⟨c1, c2⟩ | ⟨c1, c2⟩ | c1
      all_goals
        go_wp2
        go_ret
        exact ⟨rfl, endB_no rfl⟩
    · have FIN := hide (plain_yes dots s h0' (fun j hj => unhide HA j hj (by omega)))
      go_wp2
      go_ret
      exact ⟨rfl, endB_yes rfl (unhide FIN)⟩

end Go.Proofs.Qxb6001516a
