/-
  THE PLAIN LAWS of seat b6001516a, two: words written as a local part, one word after the other.
-/
import Derived.Test.Qxb6001516aPlain
namespace Go.Proofs.Qxb6001516a.Pl
set_option linter.unusedSimpArgs false

/-- one word: bare, or quoted. -/
def piece (q : Bool) (x : List UInt8) : List UInt8 := if q then 34 :: (esc x ++ [34]) else x

theorem par (n : Nat) : decide ((n + 1) % 2 = 1) = !decide (n % 2 = 1) := by
  rcases Nat.mod_two_eq_zero_or_one n with h | h <;> simp [h, Nat.add_mod]

theorem wr_snoc : ∀ (b : Bool) (l : List (List UInt8)) (x : List UInt8), wr b (l ++ [x]) = wr b l ++ piece (b ^^ decide (l.length % 2 = 1)) x
  | false, [], x => by simp [wr, piece]
  | true, [], x => by simp [wr, piece]
  | false, w :: l, x => by
    show w ++ wr true (l ++ [x]) = (w ++ wr true l) ++ _
    rw [wr_snoc true l x, List.append_assoc, List.length_cons, par l.length]
    cases decide (l.length % 2 = 1) <;> rfl
  | true, w :: l, x => by
    show 34 :: (esc w ++ 34 :: wr false (l ++ [x])) = (34 :: (esc w ++ 34 :: wr false l)) ++ _
    rw [wr_snoc false l x, List.length_cons, par l.length, List.cons_append, List.append_assoc, List.cons_append]
    cases decide (l.length % 2 = 1) <;> rfl

theorem esc_len : ∀ l : List UInt8, (esc l).length ≤ 2 * l.length
  | [] => by simp [esc]
  | c :: l => by
    have := esc_len l
    rw [esc_cons, List.length_append, List.length_cons]
    split <;> simp <;> omega

theorem wr_len : ∀ (b : Bool) (l : List (List UInt8)), (wr b l).length ≤ 2 * (l.map List.length).sum + 2 * l.length
  | b, [] => by cases b <;> simp [wr]
  | false, w :: l => by
    have := wr_len true l
    simp only [wr, List.length_append, List.map_cons, List.sum_cons, List.length_cons]
    omega
  | true, w :: l => by
    have := wr_len false l
    have := esc_len w
    simp only [wr, List.length_append, List.map_cons, List.sum_cons, List.length_cons]
    omega

theorem esc_snoc (l : List UInt8) (c : UInt8) : esc (l ++ [c]) = esc l ++ (if c = 34 ∨ c = 92 then [92, c] else [c]) := by
  simp [esc, List.flatMap_append]

/-- the words at even places bear no double quote: from the places. -/
theorem bareOk_of : ∀ (b : Bool) (l : List (List UInt8)), (∀ j (h : j < l.length), (j % 2 = 0 ↔ b = false) → ∀ c ∈ l[j], c ≠ 34) → bareOk b l = true
  | b, [], _ => by cases b <;> rfl
  | false, w :: l, h => by
    simp only [bareOk, Bool.and_eq_true, List.all_eq_true]
    refine ⟨fun c hc => by simpa using h 0 (by simp) (by simp) c hc, bareOk_of true l (fun j hj hp c hc => ?_)⟩
    exact h (j + 1) (by simp; omega) (by simp at hp ⊢; omega) c (by simpa using hc)
  | true, w :: l, h => by
    simp only [bareOk]
    refine bareOk_of false l (fun j hj hp c hc => ?_)
    exact h (j + 1) (by simp; omega) (by simp at hp ⊢; omega) c (by simpa using hc)

end Go.Proofs.Qxb6001516a.Pl
