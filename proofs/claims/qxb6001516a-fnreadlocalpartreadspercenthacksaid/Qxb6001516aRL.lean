/-
  THE PLAIN LAWS of seat b6001516a, three: hops, bang paths and the percent hack, on lists of bytes. No Go in it.
-/
import Derived.Test.Qxb6001516aPlain
import Derived.Lib.IndexAny
namespace Go.Proofs.Qxb6001516a.Pl
set_option linter.unusedSimpArgs false

/-- a character of a domain literal -/
def dtext (c : UInt8) : Bool := decide (33 ≤ c.toNat) && decide (c.toNat ≤ 126) && !(c == 91) && !(c == 93) && !(c == 92)
/-- a character of a host name -/
def hopCh (c : UInt8) : Bool := (decide (97 ≤ c.toNat) && decide (c.toNat ≤ 122)) || (decide (65 ≤ c.toNat) && decide (c.toNat ≤ 90)) || (decide (48 ≤ c.toNat) && decide (c.toNat ≤ 57)) || c == 45 || c == 46 || c == 95

def isDom (h : List UInt8) : Bool := decide (3 ≤ h.length) && h.head? == some 91 && h.getLast? == some 93 && ((h.drop 1).take (h.length - 2)).all dtext
def isHopL (h : List UInt8) : Bool := if h.head? = some 91 then isDom h else !h.isEmpty && h.all hopCh

theorem mid_at (h : List UInt8) (k : Nat) (h1 : 1 ≤ k) (h2 : k + 1 < h.length) : ((h.drop 1).take (h.length - 2))[k - 1]? = some h[k] := by
  rw [List.getElem?_take_of_lt (by omega), List.getElem?_drop, show 1 + (k - 1) = k by omega, List.getElem?_eq_getElem]

theorem dom_mid {h : List UInt8} (hm : ((h.drop 1).take (h.length - 2)).all dtext = true) (k : Nat) (h1 : 1 ≤ k) (h2 : k + 1 < h.length) : dtext h[k] = true :=
  List.all_eq_true.1 hm _ (List.mem_of_getElem? (mid_at h k h1 h2))

theorem dom_of {h : List UInt8} (hm : ∀ k (h2 : k + 1 < h.length), 1 ≤ k → dtext h[k] = true) : ((h.drop 1).take (h.length - 2)).all dtext = true := by
  rw [List.all_eq_true]
  intro c hc
  obtain ⟨j, hj, rfl⟩ := List.getElem_of_mem hc
  simp only [List.length_take, List.length_drop] at hj
  simp only [List.getElem_take, List.getElem_drop]
  exact hm (1 + j) (by omega) (by omega)

theorem dtext_ascii (c : UInt8) (h : dtext c = true) : c.toNat < 128 := by
  simp [dtext] at h; omega
theorem hopCh_ascii (c : UInt8) (h : hopCh c = true) : c.toNat < 128 := by
  simp only [hopCh, Bool.or_eq_true, Bool.and_eq_true, decide_eq_true_eq, beq_iff_eq] at h
  rcases h with ((((h | h) | h) | h) | h) | h
  · omega
  · omega
  · omega
  · subst h; decide
  · subst h; decide
  · subst h; decide

theorem isHop_ascii {h : List UInt8} (hh : isHopL h = true) (j : Nat) (b : UInt8) (hb : h[j]? = some b) : b.toNat < 128 := by
  unfold isHopL at hh
  have hj : j < h.length := by
    by_cases hj : j < h.length
    · exact hj
    · rw [List.getElem?_eq_none (by omega)] at hb; simp at hb
  rw [List.getElem?_eq_getElem hj] at hb
  simp only [Option.some.injEq] at hb
  subst hb
  split at hh
  · unfold isDom at hh
    simp only [Bool.and_eq_true, beq_iff_eq, decide_eq_true_eq] at hh
    obtain ⟨⟨⟨h3, h0⟩, hl⟩, hm⟩ := hh
    by_cases e0 : j = 0
    · subst e0
      rw [List.head?_eq_getElem?, List.getElem?_eq_getElem hj] at h0
      simp only [Option.some.injEq] at h0
      rw [h0]; decide
    · by_cases e1 : j + 1 < h.length
      · exact dtext_ascii _ (dom_mid hm j (by omega) e1)
      · have ej : j = h.length - 1 := by omega
        subst ej
        rw [List.getLast?_eq_getElem?, List.getElem?_eq_getElem hj] at hl
        simp only [Option.some.injEq] at hl
        rw [hl]; decide
  · simp only [Bool.and_eq_true] at hh
    exact hopCh_ascii _ (List.all_eq_true.1 hh.2 _ (List.getElem_mem hj))

/-! ### firstBang -/
def seg (s : List UInt8) (l r : Nat) : List UInt8 := (s.drop l).take (r - l)
/-- where the first '!' of s[l:r] stands, counted from l; -1 -/
def bi (s : List UInt8) (l r : Nat) : Int := Lib.indexByte (seg s l r) 33
def bPos (s : List UInt8) (l r : Nat) : Int := if bi s l r < 0 then -1 else (l : Int) + bi s l r
def bRaw (s : List UInt8) (l r : Nat) : List UInt8 := seg s l (l + (bi s l r).toNat)
def bOk (s : List UInt8) (l r : Nat) : Bool := decide (0 ≤ bi s l r) && isHopL (bRaw s l r)
def bName (s : List UInt8) (l r : Nat) : List UInt8 := if bOk s l r then Lib.trimSuffix (bRaw s l r) [46] else []
def uucp : List UInt8 := [117, 117, 99, 112]
def domain : List UInt8 := [100, 111, 109, 97, 105, 110]
def bKind (s : List UInt8) (l r : Nat) : List UInt8 := if bOk s l r then (if Lib.containsAny (bRaw s l r) [46, 91] then domain else uucp) else []

/-! ### lastSinglePercent -/
/-- the byte at place i of s is a '%' with no '%' beside it. -/
def single (s : List UInt8) (i : Nat) : Bool := s[i]? == some 37 && (decide (i = 0) || !(s[i - 1]? == some 37)) && (decide (i + 1 = s.length) || !(s[i + 1]? == some 37))
/-- the last single '%' below n, from l on. -/
def lspI (s : List UInt8) (l : Nat) : Nat → Option Nat
  | 0 => none
  | n + 1 => if n < l then none else if single s n then some n else lspI s l n
def pPos (s : List UInt8) (l r : Nat) : Int := match lspI s l r with | none => -1 | some i => (i : Int)
def pHop (s : List UInt8) (l r : Nat) : List UInt8 := match lspI s l r with | none => [] | some i => if isHopL (seg s (i + 1) r) then seg s (i + 1) r else []

theorem lspI_range (s : List UInt8) (l : Nat) : ∀ (n i : Nat), lspI s l n = some i → l ≤ i ∧ i < n ∧ single s i = true
  | 0, i, h => by simp [lspI] at h
  | n + 1, i, h => by
    unfold lspI at h
    split at h
    · simp at h
    · split at h
      · simp only [Option.some.injEq] at h
        subst h
        exact ⟨by omega, by omega, by assumption⟩
      · obtain ⟨a, b, c⟩ := lspI_range s l n i h
        exact ⟨a, by omega, c⟩

theorem bi_range (s : List UInt8) (l r : Nat) (h : 0 ≤ bi s l r) : (bi s l r).toNat < (seg s l r).length := by
  unfold bi at *
  have := Lib.index_room (seg s l r) [33] (by rw [Lib.index_one]; omega)
  rw [Lib.index_one] at this
  simp at this
  omega

theorem seg_len (s : List UInt8) (l r : Nat) (h1 : l ≤ r) (h2 : r ≤ s.length) : (seg s l r).length = r - l := by
  unfold seg
  rw [List.length_take, List.length_drop]
  omega

theorem bi_lt (s : List UInt8) (l r : Nat) (h1 : l ≤ r) (h2 : r ≤ s.length) (h : 0 ≤ bi s l r) : (l : Int) + bi s l r < r := by
  have := bi_range s l r h
  rw [seg_len s l r h1 h2] at this
  omega

/-! ### readLocalPart -/
/-- the reading, so many steps at most: what is left is s[l:r]; the bang candidate was looked for in s[l:r'], the percent candidate in s[l':r]. -/
def rlF (s : List UInt8) (pf : Bool) : Nat → Nat → Nat → Nat → Nat → List (List UInt8 × List UInt8) → Option (List (List UInt8 × List UInt8) × Nat × Nat)
  | 0, _, _, _, _, _ => none
  | f + 1, l, r, l', r', hs =>
    if (!(pHop s l' r).isEmpty && decide ((l : Int) < pPos s l' r)) && (pf || !(!(bName s l r').isEmpty && decide (bPos s l r' + 1 < (r : Int)))) then
      rlF s pf f l (pPos s l' r).toNat l r' (hs ++ [(pHop s l' r, domain)])
    else if !(bName s l r').isEmpty && decide (bPos s l r' + 1 < (r : Int)) then
      rlF s pf f (bPos s l r' + 1).toNat r l' r (hs ++ [(bName s l r', bKind s l r')])
    else some (hs, l, r)

end Go.Proofs.Qxb6001516a.Pl
