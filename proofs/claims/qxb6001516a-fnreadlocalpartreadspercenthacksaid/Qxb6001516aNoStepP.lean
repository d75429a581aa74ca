/-
  THE PLAIN LAW of FnReadLocalPartLeavesNoStep: what the reading leaves has no step in it; the hops and what is left account for the text.
-/
import Derived.Test.Qxb6001516aRL
namespace Go.Proofs.Qxb6001516a.Pl
set_option linter.unusedSimpArgs false

theorem indexByte_take (c : UInt8) : ∀ (L : List UInt8) (k : Nat), Lib.indexByte (L.take k) c = if 0 ≤ Lib.indexByte L c ∧ Lib.indexByte L c < k then Lib.indexByte L c else -1
  | [], k => by simp [Lib.indexByte]
  | b :: L, 0 => by
    have : ¬ (0 ≤ Lib.indexByte (b :: L) c ∧ Lib.indexByte (b :: L) c < ((0 : Nat) : Int)) := by omega
    rw [if_neg this]; rfl
  | b :: L, k + 1 => by
    have ih := indexByte_take c L k
    have hge := Lib.indexByte_ge L c
    rw [List.take_succ_cons]
    unfold Lib.indexByte
    by_cases hb : b = c
    · subst hb; simp
    · have hb' : (b == c) = false := by simpa using hb
      rw [hb', ih]
      simp only [Bool.false_eq_true, if_false]
      by_cases h1 : Lib.indexByte L c = -1
      · simp [h1]
      · by_cases h2 : Lib.indexByte L c < k
        · have e : (0 ≤ Lib.indexByte L c ∧ Lib.indexByte L c < (k : Int)) := by omega
          have e2 : (0 ≤ Lib.indexByte L c + 1 ∧ Lib.indexByte L c + 1 < ((k + 1 : Nat) : Int)) := by omega
          simp only [beq_iff_eq, h1, if_false, if_pos e, if_pos e2]
        · have e : ¬ (0 ≤ Lib.indexByte L c ∧ Lib.indexByte L c < (k : Int)) := by omega
          have e2 : ¬ (0 ≤ Lib.indexByte L c + 1 ∧ Lib.indexByte L c + 1 < ((k + 1 : Nat) : Int)) := by omega
          simp only [beq_iff_eq, h1, if_false, if_neg e, if_neg e2, if_true]

theorem indexByte_at (c : UInt8) : ∀ (L : List UInt8), 0 ≤ Lib.indexByte L c → L[(Lib.indexByte L c).toNat]? = some c
  | [], h => by simp [Lib.indexByte] at h
  | b :: L, h => by
    have ih := indexByte_at c L
    have hge := Lib.indexByte_ge L c
    unfold Lib.indexByte at h ⊢
    by_cases hb : b = c
    · subst hb; simp
    · have hb' : (b == c) = false := by simpa using hb
      rw [hb'] at h ⊢
      simp only [Bool.false_eq_true, if_false] at h ⊢
      by_cases h1 : Lib.indexByte L c = -1
      · simp [h1] at h
      · simp only [beq_iff_eq, h1, if_false] at h ⊢
        rw [show (Lib.indexByte L c + 1).toNat = (Lib.indexByte L c).toNat + 1 by omega]
        simpa using ih (by omega)

theorem seg_at (s : List UInt8) (l r m : Nat) (h : m < r - l) : (seg s l r)[m]? = s[l + m]? := by
  unfold seg
  rw [List.getElem?_take_of_lt h, List.getElem?_drop]

theorem seg_seg (s : List UInt8) (l r a b : Nat) (hb : b ≤ r - l) : seg (seg s l r) a b = seg s (l + a) (l + b) := by
  unfold seg
  rw [List.drop_take, List.drop_drop, List.take_take]
  congr 1
  omega

theorem seg_all (t : List UInt8) : seg t 0 t.length = t := by simp [seg]

def canB (s : List UInt8) (l r r' : Nat) : Bool := !(bName s l r').isEmpty && decide (bPos s l r' + 1 < (r : Int))
def canP (s : List UInt8) (l r l' : Nat) : Bool := !(pHop s l' r).isEmpty && decide ((l : Int) < pPos s l' r)

theorem rest_noB (s : List UInt8) (l r r' : Nat) (h1 : l ≤ r) (h2 : r ≤ r') (h3 : r' ≤ s.length) (h : canB s l r r' = false) :
    canB (seg s l r) 0 (seg s l r).length (seg s l r).length = false := by
  have hl := seg_len s l r h1 (by omega)
  have eT : seg s l r = (seg s l r').take (r - l) := by
    unfold seg
    rw [List.take_take]
    congr 1
    omega
  have ei : bi (seg s l r) 0 (seg s l r).length = if 0 ≤ bi s l r' ∧ bi s l r' < ((r - l : Nat) : Int) then bi s l r' else -1 := by
    unfold bi
    rw [seg_all]
    conv => lhs; rw [eT]
    exact indexByte_take 33 (seg s l r') (r - l)
  by_cases hc : 0 ≤ bi s l r' ∧ bi s l r' < ((r - l : Nat) : Int)
  · rw [if_pos hc] at ei
    have er : bRaw (seg s l r) 0 (seg s l r).length = bRaw s l r' := by
      unfold bRaw
      rw [ei, seg_seg s l r 0 _ (by omega)]
      congr 1
      omega
    have en : bName (seg s l r) 0 (seg s l r).length = bName s l r' := by
      unfold bName bOk
      rw [er, ei]
    have ep : bPos (seg s l r) 0 (seg s l r).length = bi s l r' := by
      unfold bPos
      rw [ei, if_neg (by omega)]
      simp
    have ep' : bPos s l r' = (l : Int) + bi s l r' := by
      unfold bPos
      rw [if_neg (by omega)]
    unfold canB at h ⊢
    rw [en, ep, hl]
    rw [ep'] at h
    have : (bi s l r' + 1 < ((r - l : Nat) : Int)) ↔ ((l : Int) + bi s l r' + 1 < (r : Int)) := by omega
    simp only [this]
    exact h
  · rw [if_neg hc] at ei
    unfold canB bName bOk
    rw [ei]
    simp

/-- the boundaries of what is left. -/
def Edge (s : List UInt8) (l r : Nat) : Prop := (l = 0 ∨ s[l - 1]? = some 33) ∧ (r = s.length ∨ (s[r]? = some 37 ∧ (r = 0 ∨ ¬ s[r - 1]? = some 37)))

theorem single_rest (s : List UInt8) (l r m : Nat) (h1 : l ≤ r) (h2 : r ≤ s.length) (he : Edge s l r) (hm : m < r - l) : single (seg s l r) m = single s (l + m) := by
  have hl := seg_len s l r h1 h2
  have e0 : (seg s l r)[m]? = s[l + m]? := seg_at s l r m hm
  by_cases h37 : s[l + m]? = some 37
  · have eL : (decide (m = 0) || !((seg s l r)[m - 1]? == some 37)) = (decide (l + m = 0) || !(s[l + m - 1]? == some 37)) := by
      by_cases m0 : m = 0
      · subst m0
        rcases he.1 with hz | hz
        · subst hz; simp
        · by_cases lz : l = 0
          · subst lz; simp
          · simp [hz]
      · rw [seg_at s l r (m - 1) (by omega), show l + (m - 1) = l + m - 1 by omega]
        have : ¬ l + m = 0 := by omega
        simp [m0, this]
    have eR : (decide (m + 1 = (seg s l r).length) || !((seg s l r)[m + 1]? == some 37)) = (decide (l + m + 1 = s.length) || !(s[l + m + 1]? == some 37)) := by
      by_cases me : m + 1 = r - l
      · have er : l + m + 1 = r := by omega
        rw [hl]
        rcases he.2 with hz | ⟨hz, hz2⟩
        · rw [er, hz]; simp [me]; omega
        · exfalso
          rcases hz2 with hz2 | hz2
          · omega
          · apply hz2
            rw [show r - 1 = l + m by omega]
            exact h37
      · rw [seg_at s l r (m + 1) (by omega), hl, show l + (m + 1) = l + m + 1 by omega]
        have n1 : ¬ l + m + 1 = s.length := by omega
        simp [me, n1]
    unfold single
    rw [e0, eL, eR]
  · have n : (s[l + m]? == some 37) = false := by simpa using h37
    unfold single
    rw [e0, n]
    rfl

theorem lsp_low (s : List UInt8) (l n : Nat) (h : n < l) : lspI s l (n + 1) = none := by
  unfold lspI; rw [if_pos h]
theorem lsp_skip (s : List UInt8) (l n : Nat) (h : l ≤ n) (hs : single s n = false) : lspI s l (n + 1) = lspI s l n := by
  conv => lhs; unfold lspI
  rw [if_neg (by omega), hs, if_neg (by decide)]
theorem lsp_hit (s : List UInt8) (l n : Nat) (h : l ≤ n) (hs : single s n = true) : lspI s l (n + 1) = some n := by
  unfold lspI
  rw [if_neg (by omega), hs, if_pos rfl]

theorem lspI_rest (s : List UInt8) (l r : Nat) (h1 : l ≤ r) (h2 : r ≤ s.length) (he : Edge s l r) : ∀ m, m ≤ r - l → lspI (seg s l r) 0 m = (lspI s l (l + m)).map (· - l)
  | 0, _ => by
    have : lspI s l (l + 0) = none := by
      cases l with
      | zero => rfl
      | succ n => unfold lspI; rw [if_pos (by omega)]
    rw [this]; rfl
  | m + 1, hm => by
    have ih := lspI_rest s l r h1 h2 he m (by omega)
    have es := single_rest s l r m h1 h2 he (by omega)
    rw [← Nat.add_assoc]
    cases hs : single s (l + m) with
    | true => rw [lsp_hit _ 0 m (by omega) (by rw [es, hs]), lsp_hit _ l (l + m) (by omega) hs]; simp
    | false => rw [lsp_skip _ 0 m (by omega) (by rw [es, hs]), lsp_skip _ l (l + m) (by omega) hs, ih]

theorem lspI_up (s : List UInt8) (l' l : Nat) (h : l' ≤ l) : ∀ n, lspI s l n = match lspI s l' n with | none => none | some i => if l ≤ i then some i else none
  | 0 => rfl
  | n + 1 => by
    have ih := lspI_up s l' l h n
    have hr := lspI_range s l' n
    by_cases a : n < l
    · rw [lsp_low s l n a]
      by_cases b : n < l'
      · rw [lsp_low s l' n b]
      · cases hs : single s n with
        | true =>
          rw [lsp_hit s l' n (by omega) hs]
          have : ¬ l ≤ n := by omega
          simp [this]
        | false =>
          rw [lsp_skip s l' n (by omega) hs]
          cases hc : lspI s l' n with
          | none => rfl
          | some i =>
            have := hr i hc
            have : ¬ l ≤ i := by omega
            simp [this]
    · cases hs : single s n with
      | true =>
        rw [lsp_hit s l n (by omega) hs, lsp_hit s l' n (by omega) hs]
        have : l ≤ n := by omega
        simp [this]
      | false => rw [lsp_skip s l n (by omega) hs, lsp_skip s l' n (by omega) hs, ih]

theorem rest_noP (s : List UInt8) (l r l' : Nat) (h0 : l' ≤ l) (h1 : l ≤ r) (h2 : r ≤ s.length) (he : Edge s l r) (h : canP s l r l' = false) :
    canP (seg s l r) 0 (seg s l r).length 0 = false := by
  have hl := seg_len s l r h1 h2
  have e := lspI_rest s l r h1 h2 he (r - l) (Nat.le_refl _)
  rw [show l + (r - l) = r by omega, lspI_up s l' l h0 r] at e
  unfold canP pHop pPos at h ⊢
  rw [hl, e]
  cases hc : lspI s l' r with
  | none => simp
  | some i =>
    rw [hc] at h
    by_cases hi : l ≤ i
    · have hr := lspI_range s l' r i hc
      simp only [hi, if_true, Option.map_some]
      have es : seg (seg s l r) (i - l + 1) (r - l) = seg s (i + 1) r := by
        rw [seg_seg s l r _ _ (Nat.le_refl _)]
        congr 1 <;> omega
      rw [es]
      have : ((0 : Nat) : Int) < ((i - l : Nat) : Int) ↔ (l : Int) < (i : Int) := by omega
      simp only [this]
      exact h
    · simp [hi]

theorem rlF_eq (s : List UInt8) (pf : Bool) (f l r l' r' : Nat) (hs : List (List UInt8 × List UInt8)) :
    rlF s pf (f + 1) l r l' r' hs = if canP s l r l' && (pf || !canB s l r r') then rlF s pf f l (pPos s l' r).toNat l r' (hs ++ [(pHop s l' r, domain)])
      else if canB s l r r' then rlF s pf f (bPos s l r' + 1).toNat r l' r (hs ++ [(bName s l r', bKind s l r')]) else some (hs, l, r) := rfl

/-- the names of the hops, each with one separator. -/
def tot (hs : List (List UInt8 × List UInt8)) : Nat := (hs.map fun h => h.1.length + 1).sum

theorem tot_snoc (hs : List (List UInt8 × List UInt8)) (h : List UInt8 × List UInt8) : tot (hs ++ [h]) = tot hs + (h.1.length + 1) := by
  simp [tot]

/-- the books: hops and what is left against the text. -/
def Books (s : List UInt8) (l r : Nat) (hs : List (List UInt8 × List UInt8)) : Prop :=
  tot hs + (r - l) ≤ s.length ∧ s.length ≤ tot hs + (r - l) + hs.length ∧ ∀ h ∈ hs, h.1 ≠ []

def Done (s : List UInt8) (res : List (List UInt8 × List UInt8) × Nat × Nat) : Prop :=
  ∃ l' r', l' ≤ res.2.1 ∧ res.2.1 ≤ res.2.2 ∧ res.2.2 ≤ r' ∧ r' ≤ s.length ∧ Edge s res.2.1 res.2.2 ∧ Books s res.2.1 res.2.2 res.1 ∧ canB s res.2.1 res.2.2 r' = false ∧ canP s res.2.1 res.2.2 l' = false

theorem trim_len (l : List UInt8) : (Lib.trimSuffix l [46]).length ≤ l.length ∧ l.length ≤ (Lib.trimSuffix l [46]).length + 1 := by
  unfold Lib.trimSuffix
  split
  · simp; omega
  · omega

theorem canP_at {s : List UInt8} {l r l' : Nat} (h : canP s l r l' = true) : ∃ i, pPos s l' r = ((i : Nat) : Int) ∧ l < i ∧ i < r ∧ single s i = true ∧ pHop s l' r = seg s (i + 1) r ∧ pHop s l' r ≠ [] := by
  unfold canP at h
  simp only [Bool.and_eq_true, Bool.not_eq_true', decide_eq_true_eq, List.isEmpty_eq_false_iff] at h
  unfold pPos pHop at *
  cases hc : lspI s l' r with
  | none => rw [hc] at h; simp at h
  | some i =>
    rw [hc] at h
    obtain ⟨h1, h2⟩ := h
    have h2' : (l : Int) < (i : Int) := h2
    obtain ⟨g1, g2, g3⟩ := lspI_range s l' r i hc
    have hh : isHopL (seg s (i + 1) r) = true := by
      cases hh : isHopL (seg s (i + 1) r) with
      | true => rfl
      | false => simp [hh] at h1
    simp only [hh, if_true] at h1 ⊢
    exact ⟨i, rfl, by omega, g2, g3, rfl, h1⟩

theorem canB_at {s : List UInt8} {l r r' : Nat} (h1 : l ≤ r') (h2 : r' ≤ s.length) (h : canB s l r r' = true) :
    ∃ i, bPos s l r' = ((i : Nat) : Int) ∧ l ≤ i ∧ i + 1 < r ∧ s[i]? = some 33 ∧ (bName s l r').length ≤ i - l ∧ i - l ≤ (bName s l r').length + 1 ∧ bName s l r' ≠ [] := by
  unfold canB at h
  simp only [Bool.and_eq_true, Bool.not_eq_true', decide_eq_true_eq, List.isEmpty_eq_false_iff] at h
  obtain ⟨g1, g2⟩ := h
  have hok : bOk s l r' = true := by
    cases hok : bOk s l r' with
    | true => rfl
    | false => simp [bName, hok] at g1
  have hb : 0 ≤ bi s l r' := by
    unfold bOk at hok
    simp only [Bool.and_eq_true, decide_eq_true_eq] at hok
    exact hok.1
  have hlt := bi_lt s l r' h1 h2 hb
  have hp : bPos s l r' = (l : Int) + bi s l r' := by unfold bPos; rw [if_neg (by omega)]
  have hrl : (bRaw s l r').length = (bi s l r').toNat := by
    unfold bRaw
    rw [seg_len s l _ (by omega) (by omega)]
    omega
  have htl := trim_len (bRaw s l r')
  have hn : bName s l r' = Lib.trimSuffix (bRaw s l r') [46] := by simp [bName, hok]
  refine ⟨l + (bi s l r').toNat, by rw [hp]; omega, by omega, by omega, ?_, by rw [hn]; omega, by rw [hn]; omega, g1⟩
  have ha := indexByte_at 33 (seg s l r') hb
  rw [seg_at s l r' _ (by unfold bi at hlt hb; omega)] at ha
  exact ha

theorem rl_run (s : List UInt8) (pf : Bool) : ∀ (f l r l' r' : Nat) (hs : List (List UInt8 × List UInt8)), r - l < f → l' ≤ l → l ≤ r → r ≤ r' → r' ≤ s.length → Edge s l r → Books s l r hs →
    ∃ res, rlF s pf f l r l' r' hs = some res ∧ Done s res
  | 0, l, r, l', r', hs, hf, _, _, _, _, _, _ => by omega
  | f + 1, l, r, l', r', hs, hf, a1, a2, a3, a4, he, hb => by
    rw [rlF_eq]
    by_cases c1 : (canP s l r l' && (pf || !canB s l r r')) = true
    · rw [if_pos c1]
      simp only [Bool.and_eq_true] at c1
      obtain ⟨i, e1, e2, e3, e4, e5, e6⟩ := canP_at c1.1
      rw [e1, Int.toNat_natCast]
      refine rl_run s pf f l i l r' _ (by omega) (Nat.le_refl _) (by omega) (by omega) a4 ⟨he.1, .inr ?_⟩ ?_
      · unfold single at e4
        simp only [Bool.and_eq_true, Bool.or_eq_true, decide_eq_true_eq, Bool.not_eq_true', beq_iff_eq, beq_eq_false_iff_ne] at e4
        refine ⟨e4.1.1, ?_⟩
        rcases e4.1.2 with h | h
        · exact .inl h
        · exact .inr h
      · obtain ⟨b1, b2, b3⟩ := hb
        have hl : (pHop s l' r).length = r - (i + 1) := by rw [e5, seg_len s (i + 1) r (by omega) (by omega)]
        refine ⟨?_, ?_, ?_⟩
        · rw [tot_snoc]; simp only [hl]; omega
        · rw [tot_snoc, List.length_append]; simp only [hl, List.length_cons, List.length_nil]; omega
        · intro h hh
          rw [List.mem_append] at hh
          rcases hh with hh | hh
          · exact b3 h hh
          · simp only [List.mem_cons, List.not_mem_nil, or_false] at hh
            subst hh
            exact e6
    · rw [if_neg c1]
      by_cases c2 : canB s l r r' = true
      · rw [if_pos c2]
        obtain ⟨i, e1, e2, e3, e4, e5, e6, e7⟩ := canB_at (by omega) a4 c2
        rw [e1, show ((i : Int) + 1).toNat = i + 1 by omega]
        refine rl_run s pf f (i + 1) r l' r _ (by omega) (by omega) (by omega) (Nat.le_refl _) (by omega) ⟨.inr (by simpa using e4), he.2⟩ ?_
        obtain ⟨b1, b2, b3⟩ := hb
        refine ⟨?_, ?_, ?_⟩
        · rw [tot_snoc]; simp only []; omega
        · rw [tot_snoc, List.length_append]; simp only [List.length_cons, List.length_nil]; omega
        · intro h hh
          rw [List.mem_append] at hh
          rcases hh with hh | hh
          · exact b3 h hh
          · simp only [List.mem_cons, List.not_mem_nil, or_false] at hh
            subst hh
            exact e7
      · rw [if_neg c2]
        have c2' : canB s l r r' = false := by simpa using c2
        have c1' : canP s l r l' = false := by
          cases hp : canP s l r l' with
          | false => rfl
          | true => rw [hp, c2'] at c1; simp at c1
        exact ⟨_, rfl, l', r', a1, a2, a3, a4, he, hb, c2', c1'⟩

/-- the reading of the whole text. -/
theorem rl_whole (s : List UInt8) (pf : Bool) : ∃ f res, rlF s pf f 0 s.length 0 s.length [] = some res ∧ Done s res := by
  obtain ⟨res, h1, h2⟩ := rl_run s pf (s.length + 1) 0 s.length 0 s.length [] (by omega) (Nat.le_refl _) (by omega) (Nat.le_refl _) (Nat.le_refl _) ⟨.inl rfl, .inl rfl⟩ ⟨by simp [tot], by simp [tot], by simp⟩
  exact ⟨_, res, h1, h2⟩

/-- read again: no step. -/
theorem rl_again (s : List UInt8) (pf : Bool) (res : List (List UInt8 × List UInt8) × Nat × Nat) (h : Done s res) :
    rlF (seg s res.2.1 res.2.2) pf 1 0 (seg s res.2.1 res.2.2).length 0 (seg s res.2.1 res.2.2).length [] = some ([], 0, (seg s res.2.1 res.2.2).length) := by
  obtain ⟨l', r', h1, h2, h3, h4, he, hb, hB, hP⟩ := h
  rw [rlF_eq, rest_noB s _ _ r' h2 h3 h4 hB, rest_noP s _ _ l' h1 h2 (by omega) he hP]
  simp

end Go.Proofs.Qxb6001516a.Pl
