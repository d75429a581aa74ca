/-
  WALKS of seat b6001516a, six: a slice of strings that came in: its bound, its size; holdsByteB1.
-/
import Derived.Test.Qxb6001516aW5
namespace Go.Proofs.Qxb6001516a
open Go.RowKit
set_option linter.unusedVariables false

/-- the slice (a0, len) that came in holds the strings ss. -/
def IsStrs (W : World) (a0 : Option Addr) (len : Nat) (ss : List ByteArray) : Prop :=
  ss.length = len ∧ len ≤ maxLen ∧ (∀ s ∈ ss, s.size ≤ maxLen) ∧
  (len ≠ 0 → ∃ b off, a0 = some ⟨b, off, none⟩ ∧ b < W.heap.size ∧ ∀ k (h : k < ss.length), W.cell? ⟨b, off + k, none⟩ = some (.string ss[k]))

theorem IsStrs.below {W W' : World} {a0 : Option Addr} {len : Nat} {ss : List ByteArray} (h : IsStrs W a0 len ss) (hb : Below W.heap.size W W') : IsStrs W' a0 len ss := by
  obtain ⟨h1, h2, h3, h4⟩ := h
  refine ⟨h1, h2, h3, fun hl => ?_⟩
  obtain ⟨b, off, e, hlt, hc⟩ := h4 hl
  exact ⟨b, off, e, Nat.lt_of_lt_of_le hlt hb.size, fun k hk => by rw [hb.cell (p := ⟨b, off + k, none⟩) hlt]; exact hc k hk⟩

def sumTo (ss : List ByteArray) (k : Nat) : Nat := ((ss.take k).map (·.size)).sum

theorem sumTo_zero (ss : List ByteArray) : sumTo ss 0 = 0 := by simp [sumTo]
theorem sumTo_succ (ss : List ByteArray) (k : Nat) (h : k < ss.length) : sumTo ss (k + 1) = sumTo ss k + ss[k].size := by
  unfold sumTo
  rw [List.take_succ_eq_append_getElem h, List.map_append, List.sum_append]
  rfl
theorem sumTo_mono (ss : List ByteArray) : ∀ (k d : Nat), sumTo ss k ≤ sumTo ss (k + d)
  | k, 0 => Nat.le_refl _
  | k, d + 1 => by
    have ih := sumTo_mono ss k d
    by_cases h : k + d < ss.length
    · rw [← Nat.add_assoc, sumTo_succ ss (k + d) h]; omega
    · have e : sumTo ss (k + (d + 1)) = sumTo ss (k + d) := by
        unfold sumTo
        rw [List.take_of_length_le (by omega), List.take_of_length_le (by omega)]
      omega
theorem elem_le (ss : List ByteArray) (k n : Nat) (h : k < ss.length) (hk : k < n) : ss[k].size ≤ sumTo ss n := by
  have := sumTo_mono ss (k + 1) (n - (k + 1))
  rw [sumTo_succ ss k h, show k + 1 + (n - (k + 1)) = n by omega] at this
  omega

/-- it returns some bool; where it is true, p holds. -/
def EndB (e : Ending) (p : Prop) : Prop := ∃ b, e = .returned (.bool b) ∧ (b = true → p)
theorem endB_no {e : Ending} {p : Prop} (h : e = .returned (.bool false)) : EndB e p := ⟨false, h, by intro h; cases h⟩
theorem endB_yes {e : Ending} {p : Prop} (h : e = .returned (.bool true)) (hp : p) : EndB e p := ⟨true, h, fun _ => hp⟩

set_option maxHeartbeats 1000000 in
/-- zzBytes_FnUnquoteWordsUndoesQuoting -/
theorem bytes15_any (a0 : Option Addr) (len cap : Nat) (ss : List ByteArray) (w : World) (hA : IsStrs w a0 len ss) :
    Calls Try.prog 15 #[.slice a0 len cap] w fun e w' => w' = w ∧ EndB e (len + sumTo ss len ≤ 1048576) := by
  obtain ⟨hl, hm, hsz, hcs⟩ := hA
  unfold maxLen at hm
  have HSZ := hide hsz
  have HCS := hide hcs
  clear hsz hcs
  by_cases hbig : 1048576 < len
  · go_enter Try.func15, Try.ntmps15
    go_wp2
    go_ret
    exact ⟨rfl, endB_no rfl⟩
  · go_enter Try.func15, Try.ntmps15
    go_wp2
    go_loop [3, 4] (fun z i => ∃ k n : Nat, k ≤ len ∧ i = .int .i64 k ∧ z = .int .i64 n ∧ n ≤ 1048576 ∧ Hid (n = len + sumTo ss k)) (fun _ i => len - (intOf i).toNat)
    case atStart => exact ⟨0, len, Nat.zero_le _, rfl, by go_num, by omega, hide (by rw [sumTo_zero]; rfl)⟩
    case round =>
      obtain ⟨k, n, hk, rfl, rfl, hn, HN⟩ := hrel
      by_cases hlt : k < len
      · obtain ⟨b, off, rfl, hbl, hc⟩ := unhide HCS (by omega)
        have hck := hc k (by omega)
        have hsk : ss[k].size ≤ 9223372036854775807 := by have := unhide HSZ ss[k] (List.getElem_mem (by omega)); unfold maxLen at this; omega
        have HS := hide (sumTo_succ ss k (by omega))
        clear hc
        generalize ss[k] = sk at hck hsk HS
        by_cases h1 : 1048576 < sk.size
        · go_wp2
          go_ret
          exact ⟨rfl, endB_no rfl⟩
        · by_cases h2 : 1048576 < n + sk.size
          · go_wp2
            go_ret
            exact ⟨rfl, endB_no rfl⟩
          · go_wp2
            go_round
            case rel => exact ⟨k + 1, n + sk.size, by omega, by go_num, by go_num, by omega, hide (by have := unhide HN; have := unhide HS; omega)⟩
            case measure => simp [intOf]; omega
      · obtain rfl : k = len := by omega
        go_wp2
        go_ret
        exact ⟨rfl, endB_yes rfl (by have := unhide HN; omega)⟩

/-- sizeOfWordsB1: an int from 0 to 2^20 + 1; where it is at most 2^20, so is the sum. -/
def EndN (e : Ending) (p : Prop) : Prop := ∃ n : Nat, e = .returned (.int .i64 (n : Int)) ∧ n ≤ 1048577 ∧ (n ≤ 1048576 → p)
theorem endN_mk {e : Ending} {p : Prop} {z : Int} (n : Nat) (h : e = .returned (.int .i64 z)) (hz : z = (n : Int)) (h1 : n ≤ 1048577) (h2 : n ≤ 1048576 → p) : EndN e p := by
  subst hz; exact ⟨n, h, h1, h2⟩

set_option maxHeartbeats 1000000 in
/-- sizeOfWordsB1 -/
theorem sizeOf_any (a0 : Option Addr) (len cap : Nat) (ss : List ByteArray) (w : World) (hA : IsStrs w a0 len ss) :
    Calls Try.prog 9 #[.slice a0 len cap] w fun e w' => w' = w ∧ EndN e (8 * len + sumTo ss len ≤ 1048576) := by
  obtain ⟨hl, hm, hsz, hcs⟩ := hA
  unfold maxLen at hm
  have HSZ := hide hsz
  have HCS := hide hcs
  clear hsz hcs
  by_cases hbig : 131072 < len
  · go_enter Try.func9, Try.ntmps9
    go_wp2
    go_ret
    exact ⟨rfl, endN_mk 1048577 rfl rfl (by omega) (by omega)⟩
  · go_enter Try.func9, Try.ntmps9
    go_wp2
    go_loop [3, 4] (fun z i => ∃ k n : Nat, k ≤ len ∧ i = .int .i64 k ∧ z = .int .i64 n ∧ n ≤ 1048576 ∧ Hid (n = 8 * len + sumTo ss k)) (fun _ i => len - (intOf i).toNat)
    case atStart => exact ⟨0, 8 * len, Nat.zero_le _, rfl, by go_num, by omega, hide (by rw [sumTo_zero]; rfl)⟩
    case round =>
      obtain ⟨k, n, hk, rfl, rfl, hn, HN⟩ := hrel
      by_cases hlt : k < len
      · obtain ⟨b, off, rfl, hbl, hc⟩ := unhide HCS (by omega)
        have hck := hc k (by omega)
        have hsk : ss[k].size ≤ 9223372036854775807 := by have := unhide HSZ ss[k] (List.getElem_mem (by omega)); unfold maxLen at this; omega
        have HS := hide (sumTo_succ ss k (by omega))
        clear hc
        generalize ss[k] = sk at hck hsk HS
        by_cases h1 : 1048576 - n < sk.size
        · go_wp2
          go_ret
          exact ⟨rfl, endN_mk 1048577 rfl rfl (by omega) (by omega)⟩
        · go_wp2
          go_round
          case rel => exact ⟨k + 1, n + sk.size, by omega, by go_num, by go_num, by omega, hide (by have := unhide HN; have := unhide HS; omega)⟩
          case measure => simp [intOf]; omega
      · obtain rfl : k = len := by omega
        go_wp2
        go_ret
        exact ⟨rfl, endN_mk n rfl rfl (by omega) (fun _ => by have := unhide HN; omega)⟩

def hasB (l : List UInt8) (c : UInt8) : Bool := l.any fun x => x == c

set_option maxHeartbeats 400000 in
/-- holdsByteB1 -/
theorem holds_any (s : ByteArray) (c : UInt8) (z : Int) (w : World) (hz : z = (c.toNat : Int)) (hs : s.size ≤ 4194304) :
    Calls Try.prog 10 #[.string s, .int .u8 z] w fun e w' => e = .returned (.bool (hasB s.data.toList c)) ∧ w' = w := by
  have HZ := hide hz
  clear hz
  go_enter Try.func10, Try.ntmps10
  go_wp2
  go_loop [5] (fun i => ∃ k : Nat, k ≤ s.size ∧ i = .int .i64 k ∧ Hid (∀ j (hj : j < s.size), j < k → ¬ s[j] = c)) (fun i => s.size - (intOf i).toNat)
  case atStart => exact ⟨0, Nat.zero_le _, rfl, hide (fun j hj h => by omega)⟩
  case round =>
    obtain ⟨k, hk, rfl, HA⟩ := hrel
    by_cases hlt : k < s.size
    · by_cases hd : s[k] = c
      · have q : (((s[k].toNat : Nat) : Int) == z) = true := beq_iff_eq.2 (by rw [hd, unhide HZ])
        have FIN := hide (show hasB s.data.toList c = true by
          unfold hasB
          rw [List.any_eq_true]
          exact ⟨s[k], List.getElem_mem (l := s.data.toList) (by simpa using hlt), by simpa using hd⟩)
        clear hd
        go_wp2
        go_ret
        exact ⟨ret_bool (unhide FIN).symm, rfl⟩
      · have q : (((s[k].toNat : Nat) : Int) == z) = false := beq_eq_false_iff_ne.2 (fun e => hd (UInt8.toNat_inj.1 (by have := unhide HZ; omega)))
        have HD := hide hd
        clear hd
        go_wp2
        go_round
        case rel =>
          refine ⟨k + 1, by omega, by go_num, hide (fun j hj h => ?_)⟩
          by_cases e : j = k
          · subst e; exact unhide HD
          · exact unhide HA j hj (by omega)
        case measure => simp [intOf]; omega
    · have FIN := hide (show hasB s.data.toList c = false by
        unfold hasB
        rw [List.any_eq_false]
        intro x hx
        obtain ⟨j, hj, rfl⟩ := List.getElem_of_mem hx
        have hj' : j < s.size := by simpa using hj
        intro e
        exact unhide HA j hj' (by omega) (eq_of_beq e))
      go_wp2
      go_ret
      exact ⟨ret_bool (unhide FIN).symm, rfl⟩

end Go.Proofs.Qxb6001516a
