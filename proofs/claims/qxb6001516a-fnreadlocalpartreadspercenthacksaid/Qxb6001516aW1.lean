/-
  WALKS of seat b6001516a, one: the bound on the length; closing.
-/
import Derived.Test.Qxb6001516aProg
import Derived.Test.Qxb6001516aPlain
import Derived.WalkKit
import Derived.WalkSpells
import Derived.Deep.Draws
import Derived.WalkSmall
namespace Go.Proofs.Qxb6001516a
open Go.RowKit
set_option linter.unusedVariables false

theorem hide {p : Prop} (h : p) : Hid p := h
theorem unhide {p : Prop} (h : Hid p) : p := h
theorem ret_bool {a b : Bool} (h : a = b) : Ending.returned (.bool a) = .returned (.bool b) := by rw [h]
theorem ret_int {k : IntKind} {a b : Int} (h : a = b) : Ending.returned (.int k a) = .returned (.int k b) := by rw [h]

set_option maxHeartbeats 400000 in
/-- zzBytes_FnUnquoteWordsDropsQuotesWhereNoBackslash -/
theorem bytes17_any (s : ByteArray) (w : World) (hs : s.size ≤ maxLen) :
    Calls Try.prog 17 #[.string s] w fun e w' => e = .returned (.bool (decide (s.size ≤ 1048576))) ∧ w' = w := by
  unfold maxLen at hs
  by_cases h1 : s.size ≤ 1048576
  all_goals
    go_enter Try.func17, Try.ntmps17
    go_wp2
    go_ret
    exact ⟨by simp [h1], rfl⟩

/-- closing, from place k on. -/
def cloF (s : ByteArray) (k : Nat) : Int := match Pl.closeAt (s.data.toList.drop k) with | none => -1 | some n => (k : Int) + n

theorem drop_at (s : ByteArray) (k : Nat) (h : k < s.size) : s.data.toList.drop k = s[k] :: s.data.toList.drop (k + 1) := by
  rw [List.drop_eq_getElem_cons (by simpa using h)]; rfl
theorem drop_end (s : ByteArray) (k : Nat) (h : s.size ≤ k) : s.data.toList.drop k = [] := List.drop_eq_nil_of_le (by simpa using h)

theorem cloF_end (s : ByteArray) (k : Nat) (h : s.size ≤ k) : cloF s k = -1 := by
  unfold cloF; rw [drop_end s k h]; rfl
theorem cloF_bs (s : ByteArray) (k : Nat) (h : k < s.size) (hc : s[k] = 92) : cloF s k = cloF s (k + 2) := by
  by_cases h2 : k + 1 < s.size
  · unfold cloF
    rw [drop_at s k h, drop_at s (k + 1) h2, hc, Pl.closeAt_bs]
    cases Pl.closeAt (List.drop (k + 2) s.data.toList) with
    | none => rfl
    | some n => simp only [Option.map_some]; omega
  · rw [cloF_end s (k + 2) (by omega)]
    unfold cloF
    rw [drop_at s k h, drop_end s (k + 1) (by omega), hc]
    rfl
theorem cloF_q (s : ByteArray) (k : Nat) (h : k < s.size) (hc : s[k] = 34) : cloF s k = k := by
  unfold cloF
  rw [drop_at s k h, hc, Pl.closeAt_q]
  simp
theorem cloF_other (s : ByteArray) (k : Nat) (h : k < s.size) (h1 : s[k] ≠ 92) (h2 : s[k] ≠ 34) : cloF s k = cloF s (k + 1) := by
  unfold cloF
  rw [drop_at s k h, Pl.closeAt_other _ _ h1 h2]
  cases Pl.closeAt (List.drop (k + 1) s.data.toList) with
  | none => rfl
  | some n => simp only [Option.map_some]; omega

theorem byte_eq (c : UInt8) (n : Nat) (hn : n < 256) : c.toNat = n ↔ c = UInt8.ofNat n := by
  rw [← UInt8.toNat_inj, UInt8.toNat_ofNat', Nat.mod_eq_of_lt (by simpa using hn)]

set_option maxHeartbeats 400000 in
/-- closing, at a double quote -/
theorem closing_any (s : ByteArray) (i : Nat) (z : Int) (w : World) (hz : z = (i : Int)) (hs : s.size ≤ 4194304) (hi : i ≤ s.size) :
    Calls Try.prog 23 #[.string s, .int .i64 z, .int .u8 34] w fun e w' => e = .returned (.int .i64 (cloF s (i + 1))) ∧ w' = w := by
  subst hz
  go_enter Try.func23, Try.ntmps23
  go_wp2
  go_loop [7] (fun j => ∃ k : Nat, k ≤ s.size + 1 ∧ j = .int .i64 k ∧ Hid (cloF s k = cloF s (i + 1))) (fun j => s.size + 2 - (intOf j).toNat)
  case atStart => exact ⟨i + 1, by omega, by go_num, hide rfl⟩
  case round =>
    obtain ⟨k, hk, rfl, hH⟩ := hrel
    by_cases hlt : k < s.size
    · by_cases h92 : s[k].toNat = 92
      · have q : (((s[k].toNat : Nat) : Int) == 92) = true := beq_iff_eq.2 (by omega)
        have H := hide ((cloF_bs s k hlt ((byte_eq _ 92 (by omega)).1 h92)).symm.trans (unhide hH))
        clear h92
        go_wp2
        go_round
        case rel => exact ⟨k + 2, by omega, by go_num, unhide H⟩
        case measure => simp [intOf]; omega
      · have q : (((s[k].toNat : Nat) : Int) == 92) = false := beq_eq_false_iff_ne.2 (by omega)
        by_cases h34 : s[k].toNat = 34
        · have q2 : (((s[k].toNat : Nat) : Int) == 34) = true := beq_iff_eq.2 (by omega)
          have H := hide ((cloF_q s k hlt ((byte_eq _ 34 (by omega)).1 h34)).symm.trans (unhide hH))
          clear h34
          go_wp2
          go_ret
          exact ⟨ret_int (unhide H), rfl⟩
        · have q2 : (((s[k].toNat : Nat) : Int) == 34) = false := beq_eq_false_iff_ne.2 (by omega)
          have H := hide ((cloF_other s k hlt (fun e => h92 ((byte_eq _ 92 (by omega)).2 e)) (fun e => h34 ((byte_eq _ 34 (by omega)).2 e))).symm.trans (unhide hH))
          go_wp2
          go_round
          case rel => exact ⟨k + 1, by omega, by go_num, unhide H⟩
          case measure => simp [intOf]; omega
    · have H := hide ((cloF_end s k (by omega)).symm.trans (unhide hH))
      go_wp2
      go_ret
      exact ⟨ret_int (unhide H), rfl⟩

end Go.Proofs.Qxb6001516a
