/-
  THE PLAIN LAWS of seat b6001516a, one: quoted strings in a local part, on lists of bytes. No Go in it.
-/
import Derived.Lib.IndexBytes
namespace Go.Proofs.Qxb6001516a.Pl
set_option linter.unusedSimpArgs false

/-- where the quoted string that has just been opened closes; a backslash (92) quotes what follows it; 34: the double quote. -/
def closeAt : List UInt8 → Option Nat
  | [] => none
  | c :: r => if c = 92 then (match r with | [] => none | _ :: r' => (closeAt r').map (· + 2)) else if c = 34 then some 0 else (closeAt r).map (· + 1)

/-- each backslash dropped, what follows it kept. -/
def unq : List UInt8 → List UInt8
  | [] => []
  | c :: r => if c = 92 then (match r with | [] => [] | x :: r' => x :: unq r') else c :: unq r

/-- no backslash stands alone at the end. -/
def paired : List UInt8 → Bool
  | [] => true
  | c :: r => if c = 92 then (match r with | [] => false | _ :: r' => paired r') else paired r

/-- the mailbox that a local part of words stands for; 'none': a quoted string that does not close. -/
def uqF : Nat → List UInt8 → Option (List UInt8)
  | _, [] => some []
  | 0, _ :: _ => none
  | f + 1, c :: r => if c = 34 then (match closeAt r with | none => none | some n => (uqF f (r.drop (n + 1))).map (unq (r.take n) ++ ·)) else (uqF f r).map (c :: ·)

theorem closeAt_bs (x : UInt8) (r : List UInt8) : closeAt (92 :: x :: r) = (closeAt r).map (· + 2) := by
  conv => lhs; unfold closeAt
  rw [if_pos rfl]
theorem closeAt_bs1 : closeAt [92] = none := rfl
theorem closeAt_q (r : List UInt8) : closeAt (34 :: r) = some 0 := by
  unfold closeAt
  rw [if_neg (by decide), if_pos rfl]
theorem closeAt_other (c : UInt8) (r : List UInt8) (h1 : c ≠ 92) (h2 : c ≠ 34) : closeAt (c :: r) = (closeAt r).map (· + 1) := by
  conv => lhs; unfold closeAt
  rw [if_neg h1, if_neg h2]
theorem unq_bs (x : UInt8) (r : List UInt8) : unq (92 :: x :: r) = x :: unq r := by
  conv => lhs; unfold unq
  rw [if_pos rfl]
theorem unq_other (c : UInt8) (r : List UInt8) (h1 : c ≠ 92) : unq (c :: r) = c :: unq r := by
  conv => lhs; unfold unq
  rw [if_neg h1]
theorem paired_bs (x : UInt8) (r : List UInt8) : paired (92 :: x :: r) = paired r := by
  conv => lhs; unfold paired
  rw [if_pos rfl]
theorem paired_bs1 : paired [92] = false := rfl
theorem paired_other (c : UInt8) (r : List UInt8) (h1 : c ≠ 92) : paired (c :: r) = paired r := by
  conv => lhs; unfold paired
  rw [if_neg h1]
theorem uqF_other {f : Nat} {c : UInt8} {r o : List UInt8} (h : uqF f (c :: r) = some o) (hc : c ≠ 34) : ∃ g o', f = g + 1 ∧ uqF g r = some o' ∧ o = c :: o' := by
  cases f with
  | zero => simp [uqF] at h
  | succ g =>
    unfold uqF at h
    rw [if_neg hc] at h
    simp only [Option.map_eq_some_iff] at h
    obtain ⟨o', ho, rfl⟩ := h
    exact ⟨g, o', rfl, ho, rfl⟩
theorem uqF_q {f : Nat} {r o : List UInt8} (h : uqF f (34 :: r) = some o) : ∃ g n o', f = g + 1 ∧ closeAt r = some n ∧ uqF g (r.drop (n + 1)) = some o' ∧ o = unq (r.take n) ++ o' := by
  cases f with
  | zero => simp [uqF] at h
  | succ g =>
    unfold uqF at h
    rw [if_pos rfl] at h
    cases hc : closeAt r with
    | none => rw [hc] at h; simp at h
    | some n =>
      rw [hc] at h
      simp only [Option.map_eq_some_iff] at h
      obtain ⟨o', ho, rfl⟩ := h
      exact ⟨g, n, o', rfl, rfl, ho, rfl⟩
theorem uqF_nil {f : Nat} {o : List UInt8} (h : uqF f [] = some o) : o = [] := by cases f <;> simpa [uqF] using h.symm

theorem closeAt_spec : ∀ (k : Nat) (l : List UInt8) (n : Nat), l.length ≤ k → closeAt l = some n → ∃ h : n < l.length, l[n] = 34 ∧ paired (l.take n) = true
  | 0, l, n, hk, h => by
    have : l = [] := List.length_eq_zero_iff.1 (by omega)
    subst this
    simp [closeAt] at h
  | k + 1, [], n, hk, h => by simp [closeAt] at h
  | k + 1, c :: r, n, hk, h => by
    unfold closeAt at h
    by_cases h92 : c = 92
    · rw [if_pos h92] at h
      match r, h with
      | [], h => simp at h
      | x :: r', h =>
        simp only [Option.map_eq_some_iff] at h
        obtain ⟨m, hm, rfl⟩ := h
        simp only [List.length_cons] at hk
        obtain ⟨a, b, d⟩ := closeAt_spec k r' m (by omega) hm
        refine ⟨by simp only [List.length_cons]; omega, by simpa using b, ?_⟩
        subst h92
        show paired (92 :: x :: r'.take m) = true
        unfold paired
        rw [if_pos rfl]
        exact d
    · rw [if_neg h92] at h
      by_cases h34 : c = 34
      · rw [if_pos h34] at h
        simp only [Option.some.injEq] at h
        subst h
        exact ⟨by simp, by simpa using h34, rfl⟩
      · rw [if_neg h34] at h
        simp only [Option.map_eq_some_iff] at h
        obtain ⟨m, hm, rfl⟩ := h
        simp only [List.length_cons] at hk
        obtain ⟨a, b, d⟩ := closeAt_spec k r m (by omega) hm
        refine ⟨by simp only [List.length_cons]; omega, by simpa using b, ?_⟩
        show paired (c :: r.take m) = true
        unfold paired
        rw [if_neg h92]
        exact d

theorem unq_len : ∀ (k : Nat) (l : List UInt8), l.length ≤ k → (unq l).length ≤ l.length
  | 0, l, hk => by
    have : l = [] := List.length_eq_zero_iff.1 (by omega)
    subst this
    simp [unq]
  | k + 1, [], hk => by simp [unq]
  | k + 1, c :: r, hk => by
    simp only [List.length_cons] at hk
    unfold unq
    by_cases h92 : c = 92
    · rw [if_pos h92]
      match r, hk with
      | [], hk => simp
      | x :: r', hk =>
        simp only [List.length_cons] at hk ⊢
        have := unq_len k r' (by omega)
        omega
    · rw [if_neg h92]
      have := unq_len k r (by omega)
      simp only [List.length_cons]
      omega

/-- where no backslash stands, nothing is dropped. -/
theorem unq_plain : ∀ l : List UInt8, (∀ c ∈ l, c ≠ 92) → unq l = l
  | [], _ => rfl
  | c :: r, h => by
    unfold unq
    rw [if_neg (h c (by simp)), unq_plain r (fun x hx => h x (by simp [hx]))]
theorem paired_plain : ∀ l : List UInt8, (∀ c ∈ l, c ≠ 92) → paired l = true
  | [], _ => rfl
  | c :: r, h => by
    unfold paired
    rw [if_neg (h c (by simp)), paired_plain r (fun x hx => h x (by simp [hx]))]

/-- where no double quote stands, the text stands for itself. -/
theorem uqF_plain : ∀ (f : Nat) (l : List UInt8) (o : List UInt8), (∀ c ∈ l, c ≠ 34) → uqF f l = some o → o = l
  | f, [], o, _, h => by cases f <;> simpa [uqF] using h.symm
  | 0, c :: r, o, _, h => by simp [uqF] at h
  | f + 1, c :: r, o, hp, h => by
    unfold uqF at h
    rw [if_neg (hp c (by simp))] at h
    simp only [Option.map_eq_some_iff] at h
    obtain ⟨o', ho, rfl⟩ := h
    rw [uqF_plain f r o' (fun x hx => hp x (by simp [hx])) ho]

theorem uqF_len : ∀ (f : Nat) (l : List UInt8) (o : List UInt8), uqF f l = some o → o.length ≤ l.length
  | f, [], o, h => by
    have : o = [] := by cases f <;> simpa [uqF] using h.symm
    subst this; simp
  | 0, c :: r, o, h => by simp [uqF] at h
  | f + 1, c :: r, o, h => by
    unfold uqF at h
    by_cases h34 : c = 34
    · rw [if_pos h34] at h
      cases hc : closeAt r with
      | none => rw [hc] at h; simp at h
      | some n =>
        rw [hc] at h
        simp only [Option.map_eq_some_iff] at h
        obtain ⟨o', ho, rfl⟩ := h
        have h1 := uqF_len f _ o' ho
        have h2 := unq_len _ (r.take n) (Nat.le_refl _)
        obtain ⟨h3, _, _⟩ := closeAt_spec _ r n (Nat.le_refl _) hc
        simp only [List.length_append, List.length_take, List.length_drop, List.length_cons] at *
        omega
    · rw [if_neg h34] at h
      simp only [Option.map_eq_some_iff] at h
      obtain ⟨o', ho, rfl⟩ := h
      have h1 := uqF_len f _ o' ho
      simp only [List.length_cons]
      omega

/-! ### A text with no backslash and an even number of double quotes -/
def noQ (l : List UInt8) : List UInt8 := l.filter fun c => c != 34

theorem closeAt_odd : ∀ l : List UInt8, (∀ c ∈ l, c ≠ 92) → (l.countP fun c => c == 34) % 2 = 1 →
    ∃ n, closeAt l = some n ∧ n < l.length ∧ (∀ c ∈ l.take n, c ≠ 34) ∧ ((l.drop (n + 1)).countP fun c => c == 34) % 2 = 0
  | [], _, h => by simp at h
  | c :: r, hb, h => by
    unfold closeAt
    rw [if_neg (hb c (by simp))]
    by_cases h34 : c = 34
    · rw [if_pos h34]
      refine ⟨0, rfl, by simp, by simp, ?_⟩
      subst h34
      simp only [List.countP_cons, beq_self_eq_true, if_true] at h
      simp only [Nat.zero_add, List.drop_succ_cons, List.drop_zero]
      omega
    · rw [if_neg h34]
      have hr : (r.countP fun c => c == 34) % 2 = 1 := by
        have e : (c == 34) = false := by simpa using h34
        simpa [List.countP_cons, e] using h
      obtain ⟨n, h1, h2, h3, h4⟩ := closeAt_odd r (fun x hx => hb x (by simp [hx])) hr
      refine ⟨n + 1, by rw [h1]; rfl, by simp only [List.length_cons]; omega, ?_, by simpa using h4⟩
      intro x hx
      simp only [List.take_succ_cons, List.mem_cons] at hx
      rcases hx with rfl | hx
      · exact h34
      · exact h3 x hx

theorem noQ_plain (l : List UInt8) (h : ∀ c ∈ l, c ≠ 34) : noQ l = l := by
  unfold noQ
  rw [List.filter_eq_self]
  intro c hc
  simpa using h c hc

theorem drops_quotes : ∀ (f : Nat) (l : List UInt8), l.length ≤ f → (∀ c ∈ l, c ≠ 92) → (l.countP fun c => c == 34) % 2 = 0 → uqF f l = some (noQ l)
  | f, [], _, _, _ => by cases f <;> rfl
  | 0, c :: r, hf, _, _ => by simp at hf
  | f + 1, c :: r, hf, hb, h => by
    simp only [List.length_cons] at hf
    unfold uqF
    by_cases h34 : c = 34
    · rw [if_pos h34]
      subst h34
      simp only [List.countP_cons, beq_self_eq_true, if_true] at h
      have hbr : ∀ x ∈ r, x ≠ 92 := fun x hx => hb x (by simp [hx])
      obtain ⟨n, h1, h2, h3, h4⟩ := closeAt_odd r hbr (by omega)
      rw [h1]
      have hd := drops_quotes f (r.drop (n + 1)) (by simp only [List.length_drop]; omega) (fun x hx => hbr x (List.mem_of_mem_drop hx)) h4
      simp only [hd, Option.map_some]
      congr 1
      rw [unq_plain _ (fun x hx => hbr x (List.mem_of_mem_take hx))]
      have hg : r[n] = 34 := by
        obtain ⟨_, e, _⟩ := closeAt_spec _ r n (Nat.le_refl _) h1
        exact e
      have hsp : r = r.take n ++ 34 :: r.drop (n + 1) := by
        conv => lhs; rw [← List.take_append_drop n r]
        rw [List.drop_eq_getElem_cons h2, hg]
      have e1 : noQ (34 :: r) = noQ r := by simp [noQ]
      rw [e1]
      conv => rhs; rw [hsp]
      unfold noQ
      rw [List.filter_append]
      have e2 : List.filter (fun c => c != 34) (r.take n) = r.take n := noQ_plain _ h3
      rw [e2]
      simp
    · rw [if_neg h34]
      have e : (c == 34) = false := by simpa using h34
      have hd := drops_quotes f r (by omega) (fun x hx => hb x (by simp [hx])) (by simpa [List.countP_cons, e] using h)
      simp [hd, noQ, h34]

/-! ### Words written as a local part -/
/-- a backslash ahead of each double quote and backslash. -/
def esc (l : List UInt8) : List UInt8 := l.flatMap fun c => if c = 34 ∨ c = 92 then [92, c] else [c]

theorem esc_cons (c : UInt8) (l : List UInt8) : esc (c :: l) = (if c = 34 ∨ c = 92 then [92, c] else [c]) ++ esc l := rfl

theorem closeAt_esc : ∀ (l t : List UInt8), closeAt (esc l ++ 34 :: t) = some (esc l).length
  | [], t => by
    show closeAt (34 :: t) = some 0
    unfold closeAt
    rw [if_neg (by decide), if_pos rfl]
  | c :: l, t => by
    rw [esc_cons]
    by_cases h : c = 34 ∨ c = 92
    · rw [if_pos h]
      show closeAt (92 :: c :: (esc l ++ 34 :: t)) = _
      unfold closeAt
      simp [closeAt_esc l t]
    · rw [if_neg h]
      show closeAt (c :: (esc l ++ 34 :: t)) = _
      unfold closeAt
      have h1 : ¬ c = 34 := fun e => h (.inl e)
      have h2 : ¬ c = 92 := fun e => h (.inr e)
      simp [closeAt_esc l t, h1, h2]

theorem unq_esc : ∀ l : List UInt8, unq (esc l) = l
  | [] => rfl
  | c :: l => by
    rw [esc_cons]
    by_cases h : c = 34 ∨ c = 92
    · rw [if_pos h]
      show unq (92 :: c :: esc l) = _
      unfold unq
      simp [unq_esc l]
    · rw [if_neg h]
      show unq (c :: esc l) = _
      unfold unq
      have h2 : ¬ c = 92 := fun e => h (.inr e)
      simp [unq_esc l, h2]

/-- the words from an even (bare) | odd (quoted) place on, written. -/
def wr : Bool → List (List UInt8) → List UInt8
  | _, [] => []
  | false, w :: ws => w ++ wr true ws
  | true, w :: ws => 34 :: (esc w ++ 34 :: wr false ws)

/-- the words at bare places bear no double quote. -/
def bareOk : Bool → List (List UInt8) → Bool
  | _, [] => true
  | false, w :: ws => w.all (fun c => c != 34) && bareOk true ws
  | true, _ :: ws => bareOk false ws

theorem uqF_bare : ∀ (w t : List UInt8) (f : Nat) (o : List UInt8), (∀ c ∈ w, c ≠ 34) → uqF f t = some o → uqF (f + w.length) (w ++ t) = some (w ++ o)
  | [], t, f, o, _, h => by simpa using h
  | c :: w, t, f, o, hb, h => by
    have := uqF_bare w t f o (fun x hx => hb x (by simp [hx])) h
    show uqF (f + (w.length + 1)) (c :: (w ++ t)) = _
    rw [← Nat.add_assoc]
    unfold uqF
    rw [if_neg (hb c (by simp)), this]
    rfl

theorem undoes_quoting : ∀ (b : Bool) (ws : List (List UInt8)), bareOk b ws = true → ∃ f, uqF f (wr b ws) = some ws.flatten
  | b, [], _ => ⟨0, by cases b <;> rfl⟩
  | false, w :: ws, h => by
    simp only [bareOk, Bool.and_eq_true] at h
    obtain ⟨f, hf⟩ := undoes_quoting true ws h.2
    refine ⟨f + w.length, ?_⟩
    have hb : ∀ c ∈ w, c ≠ 34 := fun c hc => by simpa using List.all_eq_true.1 h.1 c hc
    exact uqF_bare w _ f _ hb hf
  | true, w :: ws, h => by
    simp only [bareOk] at h
    obtain ⟨f, hf⟩ := undoes_quoting false ws h
    refine ⟨f + 1, ?_⟩
    unfold wr uqF
    rw [if_pos rfl, closeAt_esc]
    have e1 : (esc w ++ 34 :: wr false ws).drop ((esc w).length + 1) = wr false ws := by
      rw [List.drop_append]
      simp
    have e2 : (esc w ++ 34 :: wr false ws).take (esc w).length = esc w := List.take_left
    simp only [e1, e2, hf, Option.map_some, unq_esc, List.flatten_cons]

end Go.Proofs.Qxb6001516a.Pl
