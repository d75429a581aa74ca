/-
  THE PLAIN LAW of FnReadLocalPartReadsPercentHack: mailbox%nk%..%n1 is read as the hops n1..nk and the mailbox.
-/
import Derived.Test.Qxb6001516aBangP
namespace Go.Proofs.Qxb6001516a.Pl
set_option linter.unusedSimpArgs false

/-- the names behind the mailbox, the first one written last. -/
def pcts : List (List UInt8) → List UInt8
  | [] => []
  | n :: ns => pcts ns ++ 37 :: n

theorem pcts_mem {names : List (List UInt8)} (h : ∀ n ∈ names, Plain true n) : ∀ c ∈ pcts names, c ≠ 33 := by
  induction names with
  | nil => simp [pcts]
  | cons n ns ih =>
    intro c hc
    simp only [pcts, List.mem_append, List.mem_cons] at hc
    rcases hc with hc | hc | hc
    · exact ih (fun x hx => h x (by simp [hx])) c hc
    · rw [hc]; decide
    · exact (plainCh_hop true c ((h n (by simp)).2 c hc)).2.2.1

theorem pcts_last (mb : List UInt8) (hm : mb ≠ []) (h37 : ∀ c ∈ mb, c ≠ 37) : ∀ (names : List (List UInt8)), (∀ n ∈ names, Plain true n) → mb ++ pcts names ≠ [] ∧ ¬ (mb ++ pcts names).getLast? = some 37
  | [], _ => by
    simp only [pcts, List.append_nil]
    refine ⟨hm, fun e => ?_⟩
    exact h37 37 (List.mem_of_getLast? e) rfl
  | n :: ns, h => by
    have hn := h n (by simp)
    refine ⟨by simp [hm], fun e => ?_⟩
    simp only [pcts] at e
    rw [← List.append_assoc, List.getLast?_append, List.getLast?_cons_of_ne_nil hn.1] at e
    cases hl : n.getLast? with
    | none => exact hn.1 (List.getLast?_eq_none_iff.1 hl)
    | some c =>
      rw [hl] at e
      simp at e
      subst e
      exact (plainCh_hop true 37 (hn.2 37 (List.mem_of_getLast? hl))).2.2.2 rfl

theorem lspI_find (s : List UInt8) (l i : Nat) (hl : l ≤ i) (hs : single s i = true) : ∀ d, (∀ j, i < j → j < i + 1 + d → ¬ s[j]? = some 37) → lspI s l (i + 1 + d) = some i
  | 0, _ => lsp_hit s l i hl hs
  | d + 1, h => by
    have hno : single s (i + 1 + d) = false := by
      have := h (i + 1 + d) (by omega) (by omega)
      have e : (s[i + 1 + d]? == some 37) = false := by simpa using this
      unfold single; rw [e]; rfl
    rw [← Nat.add_assoc, lsp_skip s l (i + 1 + d) (by omega) hno]
    exact lspI_find s l i hl hs d (fun j a b => h j a (by omega))

theorem pct_step (X n suf : List UInt8) (hX : X ≠ []) (hX37 : ¬ X.getLast? = some 37) (hn : Plain true n) :
    pPos (X ++ (37 :: n ++ suf)) 0 (X.length + 1 + n.length) = (X.length : Int) ∧ pHop (X ++ (37 :: n ++ suf)) 0 (X.length + 1 + n.length) = n ∧ canP (X ++ (37 :: n ++ suf)) 0 (X.length + 1 + n.length) 0 = true := by
  have hXl : 0 < X.length := List.length_pos_iff.2 hX
  have hnl : 0 < n.length := List.length_pos_iff.2 hn.1
  generalize hS : X ++ (37 :: n ++ suf) = S
  have hat : ∀ j, j < n.length → S[X.length + 1 + j]? = n[j]? := by
    intro j hj
    rw [← hS, List.getElem?_append_right (by omega), show X.length + 1 + j - X.length = j + 1 by omega]
    rw [List.cons_append, List.getElem?_cons_succ, List.getElem?_append_left hj]
  have hnat : ∀ j (hj : j < n.length), ¬ n[j]? = some 37 := by
    intro j hj e
    exact (plainCh_hop true 37 (hn.2 37 (List.mem_of_getElem? e))).2.2.2 rfl
  have h0 : S[X.length]? = some 37 := by
    rw [← hS, List.getElem?_append_right (Nat.le_refl _)]
    simp
  have hp : ¬ S[X.length - 1]? = some 37 := by
    rw [← hS, List.getElem?_append_left (by omega), ← List.getLast?_eq_getElem?]
    exact hX37
  have h1 : ¬ S[X.length + 1]? = some 37 := by
    have := hat 0 hnl
    rw [Nat.add_zero] at this
    rw [this]
    exact hnat 0 hnl
  have hsing : single S X.length = true := by
    have n0 : ¬ X.length = 0 := by omega
    have e1 : (S[X.length - 1]? == some 37) = false := by simpa using hp
    have e2 : (S[X.length + 1]? == some 37) = false := by simpa using h1
    unfold single
    rw [h0, e1, e2]
    simp
  have hf := lspI_find S 0 X.length (Nat.zero_le _) hsing n.length (fun j a b e => by
    have := hat (j - (X.length + 1)) (by omega)
    rw [show X.length + 1 + (j - (X.length + 1)) = j by omega] at this
    rw [this] at e
    exact hnat _ (by omega) e)
  have hseg : seg S (X.length + 1) (X.length + 1 + n.length) = n := by
    unfold seg
    have hd : S.drop (X.length + 1) = n ++ suf := by
      rw [← hS, List.drop_append]
      simp
    rw [hd, show X.length + 1 + n.length - (X.length + 1) = n.length by omega]
    exact List.take_left
  have hh : pHop S 0 (X.length + 1 + n.length) = n := by
    unfold pHop
    rw [hf]
    simp only [hseg, plain_isHop hn, if_true]
  have hpp : pPos S 0 (X.length + 1 + n.length) = (X.length : Int) := by
    unfold pPos
    rw [hf]
  refine ⟨hpp, hh, ?_⟩
  unfold canP
  rw [hh, hpp]
  have : n.isEmpty = false := by simpa using hn.1
  rw [this]
  simp
  omega

theorem pct_run (mb : List UInt8) (hm : mb ≠ []) (h33 : ∀ c ∈ mb, c ≠ 33) (h37 : ∀ c ∈ mb, c ≠ 37) (pf : Bool) : ∀ (names : List (List UInt8)) (suf : List UInt8) (hs : List (List UInt8 × List UInt8)),
    (∀ n ∈ names, Plain true n) → (∀ c ∈ suf, c ≠ 33) →
    rlF (mb ++ pcts names ++ suf) pf (names.length + 1) 0 (mb ++ pcts names).length 0 (mb ++ pcts names ++ suf).length hs = some (hs ++ names.map (fun n => (n, domain)), 0, mb.length)
  | [], suf, hs, _, hsuf => by
    have hP := canP_none (l := 0) (lspI_none (mb ++ pcts [] ++ suf) 0 (mb ++ pcts []).length (fun i _ hi e => by
      simp only [pcts, List.append_nil] at hi e
      rw [List.getElem?_append_left hi] at e
      exact h37 37 (List.mem_of_getElem? e) rfl))
    have hB : bi (mb ++ pcts [] ++ suf) 0 (mb ++ pcts [] ++ suf).length = -1 := by
      unfold bi
      rw [seg_all]
      refine indexByte_none 33 _ (fun x hx => ?_)
      simp only [pcts, List.append_nil, List.mem_append] at hx
      rcases hx with hx | hx
      · exact h33 x hx
      · exact hsuf x hx
    rw [rlF_eq, hP, canB_none hB]
    simp [pcts]
  | n :: ns, suf, hs, hn, hsuf => by
    have hn0 := hn n (by simp)
    have hns : ∀ x ∈ ns, Plain true x := fun x hx => hn x (by simp [hx])
    obtain ⟨hX, hX37⟩ := pcts_last mb hm h37 ns hns
    have eS : mb ++ pcts (n :: ns) ++ suf = (mb ++ pcts ns) ++ (37 :: n ++ suf) := by simp [pcts]
    have el : (mb ++ pcts (n :: ns)).length = (mb ++ pcts ns).length + 1 + n.length := by simp [pcts]; omega
    obtain ⟨p1, p2, p3⟩ := pct_step (mb ++ pcts ns) n suf hX hX37 hn0
    have hB : bi ((mb ++ pcts ns) ++ (37 :: n ++ suf)) 0 ((mb ++ pcts ns) ++ (37 :: n ++ suf)).length = -1 := by
      unfold bi
      rw [seg_all]
      refine indexByte_none 33 _ (fun x hx => ?_)
      simp only [List.mem_append, List.mem_cons] at hx
      rcases hx with (hx | hx) | (hx | hx) | hx
      · exact h33 x hx
      · exact pcts_mem hns x hx
      · rw [hx]; decide
      · exact (plainCh_hop true x (hn0.2 x hx)).2.2.1
      · exact hsuf x hx
    rw [eS, el, List.length_cons, rlF_eq, p3, canB_none hB, p1, p2, Int.toNat_natCast]
    simp only [Bool.not_false, Bool.or_true, Bool.and_true, if_true]
    rw [pct_run mb hm h33 h37 pf ns (37 :: n ++ suf) (hs ++ [(n, domain)]) hns (by
      intro c hc
      simp only [List.mem_append, List.mem_cons] at hc
      rcases hc with (hc | hc) | hc
      · rw [hc]; decide
      · exact (plainCh_hop true c (hn0.2 c hc)).2.2.1
      · exact hsuf c hc)]
    simp

end Go.Proofs.Qxb6001516a.Pl
