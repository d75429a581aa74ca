/-
  THE PLAIN LAWS of seat b6001400a, two: which host a wildcard pattern allows.
-/
import Derived.Test.Qxb6001400aPlain
namespace Go.Proofs.Qxb6001400a.Pl
set_option linter.unusedSimpArgs false

def hasDot (l : List UInt8) : Bool := l.any fun c => c == 46

/-- the pattern star-dot-lx allows the host h. -/
def allow (h lx : List UInt8) : Bool := (cutD h).2.2 && (!(cutD h).1.isEmpty && ((cutD h).2.1 == lx))

theorem cutD_nodot : ∀ (l r : List UInt8), hasDot l = false → cutD (l ++ 46 :: r) = (l, r, true)
  | [], r, _ => by simp [cutD]
  | c :: l, r, h => by
    simp only [hasDot, List.any_cons, Bool.or_eq_false_iff] at h
    have hc : ¬ c = 46 := by simpa using h.1
    rw [List.cons_append]
    unfold cutD
    rw [if_neg hc, cutD_nodot l r h.2]

theorem cutD_dot : ∀ (l r : List UInt8), hasDot l = true → r.length < (cutD (l ++ 46 :: r)).2.1.length
  | [], r, h => by simp [hasDot] at h
  | c :: l, r, h => by
    rw [List.cons_append]
    unfold cutD
    by_cases hc : c = 46
    · rw [if_pos hc]; simp; omega
    · rw [if_neg hc]
      apply cutD_dot l r
      simpa [hasDot, hc] using h

theorem allow_label (l lp : List UInt8) : allow (l ++ 46 :: lp) lp = (!l.isEmpty && !hasDot l) := by
  unfold allow
  cases hd : hasDot l
  · rw [cutD_nodot l lp hd]; simp
  · have := cutD_dot l lp hd
    have hne : ((cutD (l ++ 46 :: lp)).2.1 == lp) = false := by
      rw [beq_eq_false_iff_ne]
      intro e
      rw [e] at this
      omega
    rw [hne]; simp

theorem allow_self (lp : List UInt8) : allow lp lp = false := by
  unfold allow
  cases h : (cutD lp).2.2
  · rfl
  · have := cutD_len lp h
    have hne : ((cutD lp).2.1 == lp) = false := by
      rw [beq_eq_false_iff_ne]
      intro e
      rw [e] at this
      omega
    rw [hne]; simp

theorem low_upp (l : List UInt8) : (l.map uppB).map lowB = l.map lowB := by
  rw [List.map_map]
  apply List.map_congr_left
  intro c _
  have h := of_all (fun c => lowB (uppB c) == lowB c) (by decide +kernel) c
  simpa using h

theorem low_star (l : List UInt8) : (42 :: 46 :: l).map lowB = 42 :: 46 :: l.map lowB := by
  simp only [List.map_cons]
  congr 1

theorem valid_len (l : List UInt8) (h : valid l = true) : l.length ≤ 253 := by
  simp [valid] at h
  exact h.1.2

end Go.Proofs.Qxb6001400a.Pl
