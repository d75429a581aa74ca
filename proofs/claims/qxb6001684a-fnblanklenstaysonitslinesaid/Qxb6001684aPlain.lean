/-
  THE PLAIN LAW of FnBlankLenStaysOnItsLine.
-/
import Derived.Lib.Bytealg
import Derived.Lib.Strings
namespace Go.Proofs.Qxb6001684a.Pl

def isSp (c : UInt8) : Bool := c == 32 || c == 9 || c == 10 || c == 13
def isCm (s : List UInt8) : Bool := s.getD 0 0 == 35 || (Lib.hasPrefix s [45, 45] && (s.length == 2 || decide ((s.getD 2 0).toNat ≤ 32)))
def lineLn (s : List UInt8) : Nat := (s.takeWhile (· != 10)).length
def bl (s : List UInt8) : Nat := if isSp (s.getD 0 0) then 1 else if isCm s then lineLn s else 0

theorem lineLn_nil : lineLn [] = 0 := rfl
theorem lineLn_brk (r : List UInt8) : lineLn (10 :: r) = 0 := by simp [lineLn]
theorem lineLn_cons (c : UInt8) (r : List UInt8) (h : c ≠ 10) : lineLn (c :: r) = lineLn r + 1 := by
  have : (c != 10) = true := by simpa using h
  simp [lineLn, this]

theorem lineLn_le : ∀ s : List UInt8, lineLn s ≤ s.length
  | [] => Nat.le_refl _
  | c :: r => by
    have ih := lineLn_le r
    by_cases h : c = 10
    · subst h; rw [lineLn_brk]; exact Nat.zero_le _
    · rw [lineLn_cons c r h, List.length_cons]; omega
theorem lineLn_at : ∀ s : List UInt8, lineLn s < s.length → s[lineLn s]? = some 10
  | [], h => by simp at h
  | c :: r, h => by
    by_cases e : c = 10
    · subst e; rw [lineLn_brk]; rfl
    · rw [lineLn_cons c r e] at h ⊢
      rw [List.getElem?_cons_succ]
      exact lineLn_at r (by simpa using h)
theorem lineLn_before : ∀ (s : List UInt8) (i : Nat), i < lineLn s → s[i]? ≠ some 10
  | [], i, h => by simp [lineLn] at h
  | c :: r, i, h => by
    by_cases e : c = 10
    · subst e; rw [lineLn_brk] at h; omega
    · rw [lineLn_cons c r e] at h
      cases i with
      | zero => simpa using e
      | succ i => rw [List.getElem?_cons_succ]; exact lineLn_before r i (by omega)
theorem lineLn_none : ∀ s : List UInt8, (∀ x ∈ s, x ≠ 10) → lineLn s = s.length
  | [], _ => rfl
  | c :: r, h => by rw [lineLn_cons c r (h c (by simp)), lineLn_none r (fun x hx => h x (by simp [hx])), List.length_cons]
theorem lineLn_app (t : List UInt8) : ∀ s : List UInt8, (∀ x ∈ s, x ≠ 10) → lineLn (s ++ 10 :: t) = s.length
  | [], _ => lineLn_brk t
  | c :: r, h => by rw [List.cons_append, lineLn_cons c _ (h c (by simp)), lineLn_app t r (fun x hx => h x (by simp [hx])), List.length_cons]

theorem index_line : ∀ s : List UInt8, Lib.indexByte s 10 = if lineLn s < s.length then (lineLn s : Int) else -1
  | [] => rfl
  | c :: r => by
    have ih := index_line r
    unfold Lib.indexByte
    by_cases h : c = 10
    · subst h; rw [lineLn_brk]; simp
    · have e : (c == 10) = false := by simpa using h
      rw [lineLn_cons c r h, e, ih, List.length_cons]
      by_cases hl : lineLn r < r.length
      · have hl' : lineLn r + 1 < r.length + 1 := by omega
        have n1 : ((lineLn r : Int) == -1) = false := beq_eq_false_iff_ne.2 (by omega)
        rw [if_pos hl, if_pos hl', n1]
        simp
      · have hl' : ¬ lineLn r + 1 < r.length + 1 := by omega
        rw [if_neg hl, if_neg hl']
        simp

theorem bl_sp (s : List UInt8) (h : isSp (s.getD 0 0) = true) : bl s = 1 := by unfold bl; rw [if_pos h]
theorem bl_hash (s : List UInt8) (h : s.getD 0 0 = 35) : bl s = lineLn s := by
  unfold bl isCm
  rw [h]; rfl
theorem bl_hash_pos (s : List UInt8) (h : s.getD 0 0 = 35) : 1 ≤ bl s := by
  rw [bl_hash s h]
  cases s with
  | nil => simp at h
  | cons c r =>
    have : c = 35 := by simpa using h
    subst this
    rw [lineLn_cons 35 r (by decide)]; omega
theorem bl_other (s : List UInt8) (h1 : isSp (s.getD 0 0) = false) (h2 : s.getD 0 0 ≠ 35) (h3 : s.getD 0 0 ≠ 45) : bl s = 0 := by
  have e : Lib.hasPrefix s [45, 45] = false := by
    cases s with
    | nil => rfl
    | cons c r =>
      have : ¬ c = 45 := by simpa using h3
      have : ((45 : UInt8) == c) = false := by simpa using fun e => this e.symm
      simp [Lib.hasPrefix, List.isPrefixOf, this]
  have e2 : (s.getD 0 0 == 35) = false := beq_eq_false_iff_ne.2 h2
  unfold bl isCm
  rw [h1, e, e2]; rfl
theorem bl_cases (s : List UInt8) : bl s = 1 ∨ bl s = lineLn s ∨ bl s = 0 := by
  unfold bl
  split
  · exact .inl rfl
  · split
    · exact .inr (.inl rfl)
    · exact .inr (.inr rfl)
theorem bl_le (s : List UInt8) (h : s ≠ []) : bl s ≤ s.length := by
  have h1 : 0 < s.length := List.length_pos_iff.2 h
  have h2 := lineLn_le s
  rcases bl_cases s with e | e | e <;> omega
theorem bl_at (s : List UInt8) (h : s.getD 0 0 = 35 ∨ 1 < bl s) (hl : bl s < s.length) : s[bl s]? = some 10 := by
  have e : bl s = lineLn s := by
    rcases h with h | h
    · exact bl_hash s h
    · rcases bl_cases s with e | e | e
      · omega
      · exact e
      · omega
  rw [e] at hl ⊢
  exact lineLn_at s hl
theorem bl_before (s : List UInt8) (i : Nat) (h1 : 1 ≤ i) (h2 : i < bl s) : s[i]? ≠ some 10 := by
  rcases bl_cases s with e | e | e
  · omega
  · rw [e] at h2; exact lineLn_before s i h2
  · omega

theorem cm_app (s t : List UInt8) (h : s ≠ []) : isCm (s ++ 10 :: t) = isCm s := by
  match s, h with
  | [c], _ => simp [isCm, Lib.hasPrefix, List.isPrefixOf]
  | [c, d], _ => simp [isCm, Lib.hasPrefix, List.isPrefixOf]
  | c :: d :: e :: r, _ => simp [isCm, Lib.hasPrefix, List.isPrefixOf]
theorem bl_app (s t : List UInt8) (h : s ≠ []) (hn : ∀ x ∈ s, x ≠ 10) : bl (s ++ 10 :: t) = bl s := by
  have e0 : (s ++ 10 :: t).getD 0 0 = s.getD 0 0 := by
    cases s with
    | nil => exact absurd rfl h
    | cons c r => rfl
  unfold bl
  rw [e0, cm_app s t h, lineLn_app t s hn, lineLn_none s hn]

end Go.Proofs.Qxb6001684a.Pl
