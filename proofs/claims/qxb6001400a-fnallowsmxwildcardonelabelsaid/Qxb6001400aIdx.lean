/-
  PLAIN LAWS of seat b6001400a: where strings.IndexFunc finds the first rune of a kind of ASCII characters: by bytes.
-/
import Derived.Test.Qxb6001400aPlain
import Derived.Shelf.GgClosure.StringsIndexFunc
namespace Go.Proofs.Qxb6001400a.Pl
set_option linter.unusedSimpArgs false

theorem get_bang (s : ByteArray) (i : Nat) (h : i < s.size) : s.get! i = s[i] := by
  have h' : i < s.data.size := h
  show s.data[i]! = s.data[i]
  rw [getElem!_pos s.data i h']

/-- a byte below 128 is its own rune. -/
theorem decode_low (s : ByteArray) (i : Nat) (h : i < s.size) (hb : s[i].toNat < 128) : Utf8.decode s i = (s[i].toNat, 1) := by
  unfold Utf8.decode
  simp only [Nat.add_zero, get_bang s i h]
  rw [if_pos hb]

/-- a byte of 128 or more opens a rune of 128 or more, all of whose bytes are so. -/
theorem decode_high (s : ByteArray) (i : Nat) (h : i < s.size) (hb : 128 ≤ s[i].toNat) :
    128 ≤ (Utf8.decode s i).1 ∧ 1 ≤ (Utf8.decode s i).2 ∧ ∀ k (hk : i + k < s.size), k < (Utf8.decode s i).2 → 128 ≤ s[i + k].toNat := by
  have key : ∀ r n, Utf8.decode s i = (r, n) → 128 ≤ r ∧ 1 ≤ n ∧ ∀ k, k < n → 128 ≤ (s.get! (i + k)).toNat := by
    intro r n hr
    unfold Utf8.decode at hr
    simp only [Nat.add_zero, get_bang s i h] at hr
    rw [if_neg (by omega)] at hr
    have one : ∀ k, k < 1 → 128 ≤ (s.get! (i + k)).toNat := by
      intro k hk
      obtain rfl : k = 0 := by omega
      simp only [Nat.add_zero, get_bang s i h]; exact hb
    have h0 : 128 ≤ (s.get! (i + 0)).toNat := one 0 (by omega)
    split at hr
    · rename_i c1
      simp only [Bool.and_eq_true, beq_iff_eq, decide_eq_true_eq] at c1
      split at hr
      · obtain ⟨rfl, rfl⟩ := Prod.mk.inj hr
        refine ⟨by omega, by omega, ?_⟩
        intro k hk
        have h1 : 128 ≤ (s.get! (i + 1)).toNat := by omega
        match k, hk with
        | 0, _ => exact h0
        | 1, _ => exact h1
      · obtain ⟨rfl, rfl⟩ := Prod.mk.inj hr
        exact ⟨by decide, by omega, one⟩
    · split at hr
      · rename_i c1
        simp only [Bool.and_eq_true, beq_iff_eq, decide_eq_true_eq] at c1
        split at hr
        · rename_i c2
          simp only [Bool.and_eq_true, decide_eq_true_eq] at c2
          obtain ⟨rfl, rfl⟩ := Prod.mk.inj hr
          refine ⟨by omega, by omega, ?_⟩
          intro k hk
          have h1 : 128 ≤ (s.get! (i + 1)).toNat := by omega
          have h2 : 128 ≤ (s.get! (i + 2)).toNat := by omega
          match k, hk with
          | 0, _ => exact h0
          | 1, _ => exact h1
          | 2, _ => exact h2
        · obtain ⟨rfl, rfl⟩ := Prod.mk.inj hr
          exact ⟨by decide, by omega, one⟩
      · split at hr
        · rename_i c1
          simp only [Bool.and_eq_true, beq_iff_eq, decide_eq_true_eq] at c1
          split at hr
          · rename_i c2
            simp only [Bool.and_eq_true, decide_eq_true_eq] at c2
            obtain ⟨rfl, rfl⟩ := Prod.mk.inj hr
            refine ⟨by omega, by omega, ?_⟩
            intro k hk
            have h1 : 128 ≤ (s.get! (i + 1)).toNat := by omega
            have h2 : 128 ≤ (s.get! (i + 2)).toNat := by omega
            have h3 : 128 ≤ (s.get! (i + 3)).toNat := by omega
            match k, hk with
            | 0, _ => exact h0
            | 1, _ => exact h1
            | 2, _ => exact h2
            | 3, _ => exact h3
          · obtain ⟨rfl, rfl⟩ := Prod.mk.inj hr
            exact ⟨by decide, by omega, one⟩
        · obtain ⟨rfl, rfl⟩ := Prod.mk.inj hr
          exact ⟨by decide, by omega, one⟩
  obtain ⟨a, b, c⟩ := key _ _ rfl
  refine ⟨a, b, fun k hk hlt => ?_⟩
  have := c k hlt
  rwa [get_bang s (i + k) hk] at this

/-- IndexFunc at a kind of ASCII characters: what lies ahead of the place found (or in the whole) is not of that kind. -/
theorem idx_ahead (p : Nat → Bool) (hp : ∀ r, 128 ≤ r → p r = false) (s : ByteArray) : ∀ (f pos : Nat), s.size ≤ pos + f →
    (Lib.idxFuncFrom p true s f pos = -1 → ∀ k (hk : k < s.size), pos ≤ k → p s[k].toNat = false) ∧
    (0 ≤ Lib.idxFuncFrom p true s f pos → ∀ k (hk : k < s.size), pos ≤ k → (k : Int) < Lib.idxFuncFrom p true s f pos → p s[k].toNat = false)
  | 0, pos, hf => by
    refine ⟨fun _ k hk hpk => by omega, fun _ k hk hpk => by omega⟩
  | f + 1, pos, hf => by
    unfold Lib.idxFuncFrom
    by_cases h : pos < s.size
    · rw [if_pos h]
      by_cases hb : s[pos].toNat < 128
      · rw [decode_low s pos h hb]
        by_cases hpp : p s[pos].toNat = true
        · simp only [hpp, if_true]
          exact ⟨by omega, fun _ k hk h1 h2 => by omega⟩
        · simp only [hpp, if_false]
          obtain ⟨i1, i2⟩ := idx_ahead p hp s f (pos + 1) (by omega)
          refine ⟨fun e k hk hpk => ?_, fun e k hk hpk hkl => ?_⟩
          · by_cases ek : k = pos
            · subst ek; simpa using hpp
            · exact i1 e k hk (by omega)
          · by_cases ek : k = pos
            · subst ek; simpa using hpp
            · exact i2 e k hk (by omega) hkl
      · obtain ⟨d1, d2, d3⟩ := decode_high s pos h (by omega)
        rw [hp _ d1]
        simp only [Bool.false_eq_true, if_false]
        obtain ⟨i1, i2⟩ := idx_ahead p hp s f (pos + (Utf8.decode s pos).2) (by omega)
        have near : ∀ k (hk : k < s.size), pos ≤ k → k < pos + (Utf8.decode s pos).2 → p s[k].toNat = false := by
          intro k hk h1 h2
          obtain ⟨t, rfl⟩ : ∃ t, k = pos + t := ⟨k - pos, by omega⟩
          exact hp _ (d3 t hk (by omega))
        refine ⟨fun e k hk hpk => ?_, fun e k hk hpk hkl => ?_⟩
        · by_cases ek : k < pos + (Utf8.decode s pos).2
          · exact near k hk hpk ek
          · exact i1 e k hk (by omega)
        · by_cases ek : k < pos + (Utf8.decode s pos).2
          · exact near k hk hpk ek
          · exact i2 e k hk (by omega) hkl
    · rw [if_neg h]
      exact ⟨fun _ k hk hpk => by omega, fun e => by omega⟩

/-- ContainsFunc on ASCII text: some byte is of that kind. -/
theorem contains_ascii (p : Nat → Bool) (s : ByteArray) (ha : ∀ k (hk : k < s.size), s[k].toNat < 128) : ∀ (f pos : Nat), s.size ≤ pos + f →
    decide (0 ≤ Lib.idxFuncFrom p true s f pos) = (s.data.toList.drop pos).any (fun c => p c.toNat)
  | 0, pos, hf => by
    have e : s.data.toList.drop pos = [] := List.drop_eq_nil_of_le (by simpa using hf)
    rw [e]; rfl
  | f + 1, pos, hf => by
    unfold Lib.idxFuncFrom
    by_cases h : pos < s.size
    · rw [if_pos h, decode_low s pos h (ha pos h)]
      have hl : pos < s.data.toList.length := by simpa using h
      have e : s.data.toList[pos] = s[pos] := rfl
      rw [List.drop_eq_getElem_cons hl, List.any_cons, e]
      by_cases hpp : p s[pos].toNat = true
      · simp [hpp]
      · have hpf : p s[pos].toNat = false := by simpa using hpp
        rw [hpf, if_neg (by decide), Bool.false_or]
        exact contains_ascii p s ha f (pos + 1) (by omega)
    · rw [if_neg h]
      have e : s.data.toList.drop pos = [] := List.drop_eq_nil_of_le (by simpa using Nat.not_lt.1 h)
      rw [e]; rfl

end Go.Proofs.Qxb6001400a.Pl
