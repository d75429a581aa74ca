/-
  WALKS of seat b6001684a, one: isSpace, isLineComment, lineLen, blankLen; the bound.
-/
import Derived.Test.Qxb6001684aProg
import Derived.Test.Qxb6001684aPlain
import Derived.Test.Qxb6001684aShelf
import Derived.WalkKit
import Derived.WalkSpells
import Derived.Deep.Draws
import Derived.WalkSmall
namespace Go.Proofs.Qxb6001684a
open Go.RowKit
set_option linter.unusedVariables false

theorem hide {p : Prop} (h : p) : Hid p := h
theorem unhide {p : Prop} (h : Hid p) : p := h
theorem ret_bool {a b : Bool} (h : a = b) : Ending.returned (.bool a) = .returned (.bool b) := by rw [h]
theorem ret_int {k : IntKind} {a b : Int} (h : a = b) : Ending.returned (.int k a) = .returned (.int k b) := by rw [h]

theorem byte_eq (c : UInt8) (n : Nat) (h : n < 256) : c.toNat = n ↔ c = UInt8.ofNat n := by
  constructor
  · intro e
    apply UInt8.toNat_inj.1
    rw [e, UInt8.toNat_ofNat']
    omega
  · intro e
    rw [e, UInt8.toNat_ofNat']
    omega

theorem at_getD (s : ByteArray) (k : Nat) (h : k < s.size) : s.data.toList.getD k 0 = s[k] := by
  rw [List.getD_eq_getElem?_getD, List.getElem?_eq_getElem (by simpa using h)]
  rfl
theorem at_get? (s : ByteArray) (k : Nat) (h : k < s.size) : s.data.toList[k]? = some s[k] := by
  rw [List.getElem?_eq_getElem (by simpa using h)]
  rfl

set_option maxHeartbeats 400000 in
/-- zzBytes_FnBlankLenStaysOnItsLine -/
theorem bytes13_any (s t : ByteArray) (w : World) (hs : s.size ≤ maxLen) (ht : t.size ≤ maxLen) :
    Calls Try.prog 13 #[.string s, .string t] w fun e w' => ∃ b, e = .returned (.bool b) ∧ w' = w := by
  unfold maxLen at hs ht
  by_cases h1 : s.size ≤ 1048576 <;> by_cases h2 : t.size ≤ 1048576 <;> by_cases h3 : s.size + t.size ≤ 1048576
  all_goals first
    | (exfalso; omega)
    | (go_enter Try.func13, Try.ntmps13
       go_wp2
       go_ret
       exact ⟨_, rfl, rfl⟩)

set_option maxHeartbeats 400000 in
/-- isSpace -/
theorem isSpace_any (c : UInt8) (w : World) :
    Calls Try.prog 33 #[.int .u8 (c.toNat : Int)] w fun e w' => e = .returned (.bool (Pl.isSp c)) ∧ w' = w := by
  have hc := c.toNat_lt
  by_cases a1 : c.toNat = 32
  · have FIN := hide (show Pl.isSp c = true by rw [(byte_eq c 32 (by omega)).1 a1]; rfl)
    have q1 : (((c.toNat : Nat) : Int) == 32) = true := beq_iff_eq.2 (by omega)
    clear a1
    go_enter Try.func33, Try.ntmps33
    go_wp2
    go_ret
    exact ⟨ret_bool (unhide FIN).symm, rfl⟩
  have q1 : (((c.toNat : Nat) : Int) == 32) = false := beq_eq_false_iff_ne.2 (by omega)
  by_cases a2 : c.toNat = 9
  · have FIN := hide (show Pl.isSp c = true by rw [(byte_eq c 9 (by omega)).1 a2]; rfl)
    have q2 : (((c.toNat : Nat) : Int) == 9) = true := beq_iff_eq.2 (by omega)
    clear a1 a2
    go_enter Try.func33, Try.ntmps33
    go_wp2
    go_ret
    exact ⟨ret_bool (unhide FIN).symm, rfl⟩
  have q2 : (((c.toNat : Nat) : Int) == 9) = false := beq_eq_false_iff_ne.2 (by omega)
  by_cases a3 : c.toNat = 10
  · have FIN := hide (show Pl.isSp c = true by rw [(byte_eq c 10 (by omega)).1 a3]; rfl)
    have q3 : (((c.toNat : Nat) : Int) == 10) = true := beq_iff_eq.2 (by omega)
    clear a1 a2 a3
    go_enter Try.func33, Try.ntmps33
    go_wp2
    go_ret
    exact ⟨ret_bool (unhide FIN).symm, rfl⟩
  have q3 : (((c.toNat : Nat) : Int) == 10) = false := beq_eq_false_iff_ne.2 (by omega)
  by_cases a4 : c.toNat = 13
  · have FIN := hide (show Pl.isSp c = true by rw [(byte_eq c 13 (by omega)).1 a4]; rfl)
    have q4 : (((c.toNat : Nat) : Int) == 13) = true := beq_iff_eq.2 (by omega)
    clear a1 a2 a3 a4
    go_enter Try.func33, Try.ntmps33
    go_wp2
    go_ret
    exact ⟨ret_bool (unhide FIN).symm, rfl⟩
  have q4 : (((c.toNat : Nat) : Int) == 13) = false := beq_eq_false_iff_ne.2 (by omega)
  have FIN := hide (show Pl.isSp c = false by
    have n1 : ¬ c = 32 := fun e => a1 ((byte_eq c 32 (by omega)).2 e)
    have n2 : ¬ c = 9 := fun e => a2 ((byte_eq c 9 (by omega)).2 e)
    have n3 : ¬ c = 10 := fun e => a3 ((byte_eq c 10 (by omega)).2 e)
    have n4 : ¬ c = 13 := fun e => a4 ((byte_eq c 13 (by omega)).2 e)
    simp [Pl.isSp, n1, n2, n3, n4])
  clear a1 a2 a3 a4
  go_enter Try.func33, Try.ntmps33
  go_wp2
  go_ret
  exact ⟨ret_bool (unhide FIN).symm, rfl⟩

set_option maxHeartbeats 400000 in
/-- isLineComment -/
theorem isComment_any (s : ByteArray) (w : World) (h0 : 0 < s.size) (hs : s.size ≤ 4194304) :
    Calls Try.prog 34 #[.string s] w fun e w' => e = .returned (.bool (Pl.isCm s.data.toList)) ∧ w' = w := by
  have HG := hide (at_getD s 0 h0)
  by_cases a1 : s[0].toNat = 35
  · have FIN := hide (show Pl.isCm s.data.toList = true by unfold Pl.isCm; rw [unhide HG, (byte_eq _ 35 (by omega)).1 a1]; rfl)
    have q1 : (((s[0].toNat : Nat) : Int) == 35) = true := beq_iff_eq.2 (by omega)
    clear a1
    go_enter Try.func34, Try.ntmps34
    go_wp2
    go_ret
    exact ⟨ret_bool (unhide FIN).symm, rfl⟩
  have q1 : (((s[0].toNat : Nat) : Int) == 35) = false := beq_eq_false_iff_ne.2 (by omega)
  have HE := hide (show Pl.isCm s.data.toList = (Lib.hasPrefix s.data.toList [45, 45] && (s.data.toList.length == 2 || decide ((s.data.toList.getD 2 0).toNat ≤ 32))) by
    have n1 : ¬ s[0] = 35 := fun e => a1 ((byte_eq _ 35 (by omega)).2 e)
    have e : (s[0] == 35) = false := beq_eq_false_iff_ne.2 n1
    unfold Pl.isCm
    rw [unhide HG, e, Bool.false_or])
  clear a1
  have hp := Try.strings_HasPrefix s ⟨#[45, 45]⟩ w
  cases hh : Lib.hasPrefix s.data.toList [45, 45]
  · have HH := hide hh
    have FIN := hide (show Pl.isCm s.data.toList = false by rw [unhide HE, hh]; rfl)
    clear hh hp
    go_enter Try.func34, Try.ntmps34
    go_wp2_with fail
    refine (Try.strings_HasPrefix s ⟨#[45, 45]⟩ w).mono ?_
    rintro e w' ⟨rfl, rfl⟩
    rw [show (⟨#[45, 45]⟩ : ByteArray).data.toList = [45, 45] from rfl, unhide HH]
    go_wp2
    go_ret
    exact ⟨ret_bool (unhide FIN).symm, rfl⟩
  · have h2 : 2 ≤ s.size := by
      have := hh
      unfold Lib.hasPrefix at this
      rw [List.isPrefixOf_iff_prefix] at this
      have := this.length_le
      rw [← Lib.size_eq] at this
      simpa using this
    have HH := hide hh
    clear hh hp
    by_cases e2 : s.size = 2
    · have FIN := hide (show Pl.isCm s.data.toList = true by rw [unhide HE, unhide HH, ← Lib.size_eq, e2]; rfl)
      have q2 : (((s.size : Nat) : Int) == 2) = true := beq_iff_eq.2 (by omega)
      clear e2
      go_enter Try.func34, Try.ntmps34
      go_wp2_with fail
      refine (Try.strings_HasPrefix s ⟨#[45, 45]⟩ w).mono ?_
      rintro e w' ⟨rfl, rfl⟩
      rw [show (⟨#[45, 45]⟩ : ByteArray).data.toList = [45, 45] from rfl, unhide HH]
      go_wp2
      go_ret
      exact ⟨ret_bool (unhide FIN).symm, rfl⟩
    · have q2 : (((s.size : Nat) : Int) == 2) = false := beq_eq_false_iff_ne.2 (by omega)
      have h3 : 2 < s.size := by omega
      have FIN := hide (show Pl.isCm s.data.toList = decide (s[2].toNat ≤ 32) by
        have e : (s.size == 2) = false := beq_eq_false_iff_ne.2 e2
        rw [unhide HE, unhide HH, ← Lib.size_eq, e, at_getD s 2 h3]
        rfl)
      clear e2
      by_cases a32 : s[2].toNat ≤ 32
      all_goals
        go_enter Try.func34, Try.ntmps34
        go_wp2_with fail
        refine (Try.strings_HasPrefix s ⟨#[45, 45]⟩ w).mono ?_
        rintro e w' ⟨rfl, rfl⟩
        rw [show (⟨#[45, 45]⟩ : ByteArray).data.toList = [45, 45] from rfl, unhide HH]
        go_wp2
        go_ret
        exact ⟨ret_bool (by rw [unhide FIN]; simp; omega), rfl⟩

set_option maxHeartbeats 400000 in
/-- lineLen -/
theorem lineLen_any (s : ByteArray) (w : World) (hs : s.size ≤ 4194304) :
    Calls Try.prog 35 #[.string s] w fun e w' => e = .returned (.int .i64 (Pl.lineLn s.data.toList : Nat)) ∧ w' = w := by
  have hle := Pl.lineLn_le s.data.toList
  have hix := Pl.index_line s.data.toList
  rw [← Lib.size_eq] at hle hix
  by_cases hl : Pl.lineLn s.data.toList < s.size
  · rw [if_pos hl] at hix
    have HI := hide hix
    clear hix
    go_enter Try.func35, Try.ntmps35
    go_wp2_with fail
    refine (Try.strings_IndexByte s 10 w).mono ?_
    rintro e w' ⟨rfl, rfl⟩
    rw [show (Int.toNat 10).toUInt8 = 10 from rfl, unhide HI]
    go_wp2
    go_ret
    exact ⟨rfl, rfl⟩
  · rw [if_neg hl] at hix
    have HI := hide hix
    have HL := hide (show (s.size : Int) = (Pl.lineLn s.data.toList : Nat) by omega)
    clear hix hl hle
    go_enter Try.func35, Try.ntmps35
    go_wp2_with fail
    refine (Try.strings_IndexByte s 10 w).mono ?_
    rintro e w' ⟨rfl, rfl⟩
    rw [show (Int.toNat 10).toUInt8 = 10 from rfl, unhide HI]
    go_wp2
    go_ret
    exact ⟨ret_int (unhide HL), rfl⟩

set_option maxHeartbeats 400000 in
/-- blankLen -/
theorem blankLen_any (s : ByteArray) (w : World) (h0 : 0 < s.size) (hs : s.size ≤ 4194304) :
    Calls Try.prog 28 #[.string s] w fun e w' => e = .returned (.int .i64 (Pl.bl s.data.toList : Nat)) ∧ w' = w := by
  have HG := hide (at_getD s 0 h0)
  cases h1 : Pl.isSp s[0]
  · cases h2 : Pl.isCm s.data.toList
    · have FIN := hide (show Pl.bl s.data.toList = 0 by unfold Pl.bl; rw [unhide HG, h1, h2]; rfl)
      have H1 := hide h1
      have H2 := hide h2
      clear h1 h2
      go_enter Try.func28, Try.ntmps28
      go_wp2_with fail
      refine (isSpace_any s[0] w).mono ?_
      rintro e w' ⟨rfl, rfl⟩
      rw [unhide H1]
      go_wp2_with fail
      refine (isComment_any s _ h0 hs).mono ?_
      rintro e w' ⟨rfl, rfl⟩
      rw [unhide H2]
      go_wp2
      go_ret
      exact ⟨ret_int (by rw [unhide FIN]; rfl), rfl⟩
    · have FIN := hide (show Pl.bl s.data.toList = Pl.lineLn s.data.toList by unfold Pl.bl; rw [unhide HG, h1, h2]; rfl)
      have H1 := hide h1
      have H2 := hide h2
      clear h1 h2
      go_enter Try.func28, Try.ntmps28
      go_wp2_with fail
      refine (isSpace_any s[0] w).mono ?_
      rintro e w' ⟨rfl, rfl⟩
      rw [unhide H1]
      go_wp2_with fail
      refine (isComment_any s _ h0 hs).mono ?_
      rintro e w' ⟨rfl, rfl⟩
      rw [unhide H2]
      go_wp2_with fail
      refine (lineLen_any s _ hs).mono ?_
      rintro e w' ⟨rfl, rfl⟩
      go_wp2
      go_ret
      exact ⟨ret_int (by rw [unhide FIN]), rfl⟩
  · have FIN := hide (show Pl.bl s.data.toList = 1 by unfold Pl.bl; rw [unhide HG, h1]; rfl)
    have H1 := hide h1
    clear h1
    go_enter Try.func28, Try.ntmps28
    go_wp2_with fail
    refine (isSpace_any s[0] w).mono ?_
    rintro e w' ⟨rfl, rfl⟩
    rw [unhide H1]
    go_wp2
    go_ret
    exact ⟨ret_int (by rw [unhide FIN]; rfl), rfl⟩

set_option maxHeartbeats 400000 in
/-- ZZblankLen -/
theorem zzBlank_any (s : ByteArray) (w : World) (h0 : 0 < s.size) (hs : s.size ≤ 4194304) :
    Calls Try.prog 14 #[.string s] w fun e w' => e = .returned (.int .i64 (Pl.bl s.data.toList : Nat)) ∧ w' = w := by
  go_enter Try.func14, Try.ntmps14
  go_wp2_with fail
  refine (blankLen_any s w h0 hs).mono ?_
  rintro e w' ⟨rfl, rfl⟩
  go_wp2
  go_ret
  exact ⟨rfl, rfl⟩

end Go.Proofs.Qxb6001684a
