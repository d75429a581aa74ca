/-
  THE PLAIN LAW of FnReadLocalPartReadsBangPath: n1!n2!..!nk!mailbox is read as the hops n1..nk and the mailbox.
-/
import Derived.Test.Qxb6001516aNoStepP
namespace Go.Proofs.Qxb6001516a.Pl
set_option linter.unusedSimpArgs false

/-- a character of a plain hop name; a dot where dots is true. -/
def plainCh (dots : Bool) (c : UInt8) : Bool := (decide (97 ≤ c.toNat) && decide (c.toNat ≤ 122)) || (decide (65 ≤ c.toNat) && decide (c.toNat ≤ 90)) || (decide (48 ≤ c.toNat) && decide (c.toNat ≤ 57)) || c == 45 || c == 95 || (c == 46 && dots)

def Plain (dots : Bool) (n : List UInt8) : Prop := n ≠ [] ∧ ∀ c ∈ n, plainCh dots c = true

theorem of_all (p : UInt8 → Bool) (h : (List.range 256).all (fun n => p (UInt8.ofNat n)) = true) (c : UInt8) : p c = true := by
  have := List.all_eq_true.1 h c.toNat (by simpa using c.toNat_lt)
  simpa using this

theorem plainCh_hop (dots : Bool) (c : UInt8) (h : plainCh dots c = true) : hopCh c = true ∧ c ≠ 91 ∧ c ≠ 33 ∧ c ≠ 37 := by
  have := of_all (fun c => !(plainCh dots c) || (hopCh c && !(c == 91) && !(c == 33) && !(c == 37))) (by cases dots <;> decide +kernel) c
  rw [h] at this
  simpa [and_assoc] using this
theorem plainCh_nodot (c : UInt8) (h : plainCh false c = true) : c ≠ 46 := by
  have := of_all (fun c => !(plainCh false c) || !(c == 46)) (by decide +kernel) c
  rw [h] at this
  simpa using this

theorem plain_isHop {dots : Bool} {n : List UInt8} (h : Plain dots n) : isHopL n = true := by
  obtain ⟨h1, h2⟩ := h
  unfold isHopL
  have hh : ¬ n.head? = some 91 := by
    cases n with
    | nil => simp
    | cons c r =>
      intro e
      simp only [List.head?_cons, Option.some.injEq] at e
      exact (plainCh_hop dots c (h2 c (by simp))).2.1 e
  rw [if_neg hh]
  have : n.isEmpty = false := by simpa using h1
  rw [this]
  simp only [Bool.not_false, Bool.true_and, List.all_eq_true]
  exact fun c hc => (plainCh_hop dots c (h2 c hc)).1

theorem trim_nodot {n : List UInt8} (h : ∀ c ∈ n, c ≠ 46) : Lib.trimSuffix n [46] = n := by
  unfold Lib.trimSuffix Lib.hasSuffix
  rw [if_neg]
  intro e
  rw [List.isSuffixOf_iff_suffix] at e
  obtain ⟨t, ht⟩ := e
  exact h 46 (by rw [← ht]; simp) rfl

theorem any_nodot (chars : List UInt8) : ∀ n : List UInt8, (∀ c ∈ n, chars.contains c = false) → Lib.indexAny n chars = -1
  | [], _ => rfl
  | c :: n, h => by
    have ih := any_nodot chars n (fun x hx => h x (by simp [hx]))
    unfold Lib.indexAny
    rw [h c (by simp), ih]
    rfl

theorem indexByte_none (c : UInt8) : ∀ L : List UInt8, (∀ x ∈ L, x ≠ c) → Lib.indexByte L c = -1
  | [], _ => rfl
  | b :: L, h => by
    have ih := indexByte_none c L (fun x hx => h x (by simp [hx]))
    unfold Lib.indexByte
    have : (b == c) = false := by simpa using h b (by simp)
    rw [this, ih]; rfl

theorem indexByte_first (c : UInt8) : ∀ (n t : List UInt8), (∀ x ∈ n, x ≠ c) → Lib.indexByte (n ++ c :: t) c = (n.length : Int)
  | [], t, _ => by simp [Lib.indexByte]
  | b :: n, t, h => by
    have ih := indexByte_first c n t (fun x hx => h x (by simp [hx]))
    rw [List.cons_append]
    unfold Lib.indexByte
    have : (b == c) = false := by simpa using h b (by simp)
    rw [this, ih]
    have n1 : ¬ (n.length : Int) = -1 := by omega
    simp [n1]

theorem lspI_none (s : List UInt8) (l : Nat) : ∀ n, (∀ i, l ≤ i → i < n → ¬ s[i]? = some 37) → lspI s l n = none
  | 0, _ => rfl
  | n + 1, h => by
    by_cases hl : n < l
    · exact lsp_low s l n hl
    · have hs : single s n = false := by
        have := h n (by omega) (by omega)
        have e : (s[n]? == some 37) = false := by simpa using this
        unfold single; rw [e]; rfl
      rw [lsp_skip s l n (by omega) hs]
      exact lspI_none s l n (fun i a b => h i a (by omega))

theorem canP_none {s : List UInt8} {l r l' : Nat} (h : lspI s l' r = none) : canP s l r l' = false := by
  unfold canP pHop
  rw [h]; rfl
theorem canB_none {s : List UInt8} {l r r' : Nat} (h : bi s l r' = -1) : canB s l r r' = false := by
  unfold canB bName bOk
  rw [h]; rfl

/-- the path: each name and a bang. -/
def bangs (names : List (List UInt8)) : List UInt8 := names.flatMap fun n => n ++ [33]

theorem bang_step (pre n t : List UInt8) (hn : Plain false n) (ht : t ≠ []) : 
    bPos (pre ++ (n ++ 33 :: t)) pre.length (pre ++ (n ++ 33 :: t)).length = ((pre.length + n.length : Nat) : Int) ∧ bName (pre ++ (n ++ 33 :: t)) pre.length (pre ++ (n ++ 33 :: t)).length = n ∧
    bKind (pre ++ (n ++ 33 :: t)) pre.length (pre ++ (n ++ 33 :: t)).length = uucp ∧ canB (pre ++ (n ++ 33 :: t)) pre.length (pre ++ (n ++ 33 :: t)).length (pre ++ (n ++ 33 :: t)).length = true := by
  generalize hS : pre ++ (n ++ 33 :: t) = S
  have hd : S.drop pre.length = n ++ 33 :: t := by rw [← hS]; simp
  have hlen : S.length = pre.length + (n.length + (t.length + 1)) := by rw [← hS]; simp
  have htl : 0 < t.length := List.length_pos_iff.2 ht
  have hseg : seg S pre.length S.length = n ++ 33 :: t := by
    unfold seg
    rw [hd, List.take_of_length_le (by simp; omega)]
  have hb : bi S pre.length S.length = (n.length : Int) := by
    unfold bi
    rw [hseg]
    exact indexByte_first 33 n t (fun x hx => (plainCh_hop false x (hn.2 x hx)).2.2.1)
  have hr : bRaw S pre.length S.length = n := by
    unfold bRaw seg
    rw [hb, hd, Int.toNat_natCast, show pre.length + n.length - pre.length = n.length by omega]
    exact List.take_left
  have hnd : ∀ c ∈ n, c ≠ 46 := fun c hc => plainCh_nodot c (hn.2 c hc)
  have hok : bOk S pre.length S.length = true := by
    unfold bOk
    rw [hr, hb, plain_isHop hn]
    simp
  have hnm : bName S pre.length S.length = n := by
    unfold bName
    rw [hok, if_pos rfl, hr, trim_nodot hnd]
  have hp : bPos S pre.length S.length = ((pre.length + n.length : Nat) : Int) := by
    unfold bPos
    rw [hb, if_neg (by omega)]
    omega
  refine ⟨hp, hnm, ?_, ?_⟩
  · unfold bKind
    rw [hok, if_pos rfl, hr]
    have : Lib.containsAny n [46, 91] = false := by
      unfold Lib.containsAny
      rw [any_nodot [46, 91] n (fun c hc => by
        have h1 := hnd c hc
        have h2 := (plainCh_hop false c (hn.2 c hc)).2.1
        simp [h1, h2])]
      rfl
    rw [this]; rfl
  · unfold canB
    rw [hnm, hp]
    have : n.isEmpty = false := by simpa using hn.1
    rw [this]
    simp
    omega

theorem bang_run (mb : List UInt8) (hm : mb ≠ []) (h33 : ∀ c ∈ mb, c ≠ 33) (h37 : ∀ c ∈ mb, c ≠ 37) (pf : Bool) : ∀ (names : List (List UInt8)) (pre : List UInt8) (hs : List (List UInt8 × List UInt8)),
    (∀ n ∈ names, Plain false n) → (∀ c ∈ pre, c ≠ 37) →
    rlF (pre ++ (bangs names ++ mb)) pf (names.length + 1) pre.length (pre ++ (bangs names ++ mb)).length 0 (pre ++ (bangs names ++ mb)).length hs =
      some (hs ++ names.map (fun n => (n, uucp)), (pre ++ bangs names).length, (pre ++ (bangs names ++ mb)).length)
  | [], pre, hs, _, hpre => by
    have e : bangs [] ++ mb = mb := rfl
    rw [e, rlF_eq]
    have hno : ∀ c ∈ pre ++ mb, c ≠ 37 := by
      intro c hc
      rw [List.mem_append] at hc
      rcases hc with hc | hc
      · exact hpre c hc
      · exact h37 c hc
    have hP := canP_none (l := pre.length) (lspI_none (pre ++ mb) 0 (pre ++ mb).length (fun i _ _ hi => hno 37 (List.mem_of_getElem? hi) rfl))
    have hB : bi (pre ++ mb) pre.length (pre ++ mb).length = -1 := by
      unfold bi seg
      rw [List.drop_left]
      exact indexByte_none 33 _ (fun x hx => h33 x (List.mem_of_mem_take hx))
    rw [hP, canB_none hB]
    simp [bangs]
  | n :: ns, pre, hs, hn, hpre => by
    have hn0 := hn n (by simp)
    have eb : bangs (n :: ns) ++ mb = n ++ 33 :: (bangs ns ++ mb) := by simp [bangs]
    have hno : ∀ c ∈ pre ++ (n ++ 33 :: (bangs ns ++ mb)), c ≠ 37 := by
      intro c hc
      simp only [List.mem_append, List.mem_cons, bangs, List.mem_flatMap, List.not_mem_nil, or_false] at hc
      rcases hc with hc | hc | hc | ⟨x, hx, hc | hc⟩ | hc
      · exact hpre c hc
      · exact (plainCh_hop false c (hn0.2 c hc)).2.2.2
      · rw [hc]; decide
      · exact (plainCh_hop false c ((hn x (by simp [hx])).2 c hc)).2.2.2
      · rw [hc]; decide
      · exact h37 c hc
    obtain ⟨b1, b2, b3, b4⟩ := bang_step pre n (bangs ns ++ mb) hn0 (by simp [hm])
    have hP := canP_none (l := pre.length) (lspI_none _ 0 (pre ++ (n ++ 33 :: (bangs ns ++ mb))).length (fun i _ _ hi => hno 37 (List.mem_of_getElem? hi) rfl))
    rw [eb, List.length_cons, rlF_eq, hP, b4, b1, b2, b3]
    simp only [Bool.false_and, Bool.false_eq_true, if_false, if_true]
    have ih := bang_run mb hm h33 h37 pf ns (pre ++ (n ++ [33])) (hs ++ [(n, uucp)]) (fun x hx => hn x (by simp [hx])) (by
      intro c hc
      simp only [List.mem_append, List.mem_cons, List.not_mem_nil, or_false] at hc
      rcases hc with hc | hc | hc
      · exact hpre c hc
      · exact (plainCh_hop false c (hn0.2 c hc)).2.2.2
      · rw [hc]; decide)
    have eS : pre ++ (n ++ 33 :: (bangs ns ++ mb)) = pre ++ (n ++ [33]) ++ (bangs ns ++ mb) := by simp
    have el : (((pre.length + n.length : Nat) : Int) + 1).toNat = (pre ++ (n ++ [33])).length := by simp; omega
    rw [el, eS, ih]
    simp [bangs]

end Go.Proofs.Qxb6001516a.Pl
