/-
  THE PLAIN LAWS of seat b6001400a: what a valid host name is, on lists of bytes; that it does not hang on ASCII case. No Go in it.
-/
import Derived.Lib.CutLaws
import Derived.Lib.IndexBytes
namespace Go.Proofs.Qxb6001400a.Pl
set_option linter.unusedSimpArgs false

/-- a list of bytes cut around its first dot. -/
def cutD : List UInt8 → List UInt8 × List UInt8 × Bool
  | [] => ([], [], false)
  | c :: r => if c = 46 then ([], r, true) else (c :: (cutD r).1, (cutD r).2.1, (cutD r).2.2)

theorem cut_dot : ∀ s : List UInt8, Lib.cut s [46] = cutD s
  | [] => by simp [Lib.cut, Lib.index_one, Lib.indexByte, cutD]
  | c :: r => by
    have ih := cut_dot r
    have hge := Lib.index_ge r [46]
    unfold Lib.cut at ih ⊢
    rw [Lib.index_one] at ih hge ⊢
    unfold cutD Lib.indexByte
    rw [← ih]
    by_cases hc : c = 46
    · subst hc; simp
    · have hb : (c == 46) = false := by simpa using hc
      rw [hb, if_neg hc]
      by_cases h0 : 0 ≤ Lib.indexByte r 46
      · have e' : (Lib.indexByte r 46 + 1).toNat = (Lib.indexByte r 46).toNat + 1 := by omega
        have n4 : 0 ≤ Lib.indexByte r 46 + 1 := by omega
        have n6 : ¬ Lib.indexByte r 46 = -1 := by omega
        simp [h0, e', n4, n6]
      · have e1 : Lib.indexByte r 46 = -1 := by omega
        simp [e1]

theorem cutD_len : ∀ s : List UInt8, (cutD s).2.2 = true → (cutD s).2.1.length < s.length
  | [] => by simp [cutD]
  | c :: r => by
    have ih := cutD_len r
    unfold cutD
    by_cases hc : c = 46
    · simp [hc]
    · simp only [hc, if_false]
      intro h
      have := ih h
      simp only [List.length_cons]
      omega

theorem cutD_fst_len : ∀ s : List UInt8, (cutD s).1.length ≤ s.length
  | [] => by simp [cutD]
  | c :: r => by
    have ih := cutD_fst_len r
    unfold cutD
    by_cases hc : c = 46
    · simp [hc]
    · simp only [hc, if_false, List.length_cons]
      omega

theorem cutD_snd_len : ∀ s : List UInt8, (cutD s).2.1.length ≤ s.length
  | [] => by simp [cutD]
  | c :: r => by
    have ih := cutD_snd_len r
    unfold cutD
    by_cases hc : c = 46
    · simp [hc]
    · simp only [hc, if_false, List.length_cons]
      omega

def isAl (c : UInt8) : Bool := (decide (97 ≤ c.toNat) && decide (c.toNat ≤ 122)) || (decide (65 ≤ c.toNat) && decide (c.toNat ≤ 90)) || (decide (48 ≤ c.toNat) && decide (c.toNat ≤ 57))
def okB (c : UInt8) : Bool := isAl c || c == 45
def nonDig (c : UInt8) : Bool := decide (c.toNat < 48) || decide (57 < c.toNat)

/-- one label. -/
def labOk (l : List UInt8) : Bool := decide (l.length ≠ 0) && decide (l.length ≤ 63) && !(l.head? == some 45) && !(l.getLast? == some 45) && l.all okB

/-- the labels, from here on; so many at most. -/
def validF : Nat → List UInt8 → Bool
  | 0, _ => false
  | f + 1, s => labOk (cutD s).1 && (if (cutD s).2.2 then validF f (cutD s).2.1 else (cutD s).1.any nonDig)

def valid (s : List UInt8) : Bool := decide (s.length ≠ 0) && decide (s.length ≤ 253) && validF (s.length + 1) s

def lowB (c : UInt8) : UInt8 := if 65 ≤ c.toNat ∧ c.toNat ≤ 90 then c + 32 else c
def uppB (c : UInt8) : UInt8 := if 97 ≤ c.toNat ∧ c.toNat ≤ 122 then c - 32 else c

/-- a map of bytes that a host name's validity does not see. -/
def Blind (f : UInt8 → UInt8) : Prop := ∀ c, (f c == 46) = (c == 46) ∧ (f c == 45) = (c == 45) ∧ isAl (f c) = isAl c ∧ nonDig (f c) = nonDig c

theorem of_all (p : UInt8 → Bool) (h : (List.range 256).all (fun n => p (UInt8.ofNat n)) = true) (c : UInt8) : p c = true := by
  have := List.all_eq_true.1 h c.toNat (by simpa using c.toNat_lt)
  simpa using this

theorem blind_low : Blind lowB := fun c => by
  have h := of_all (fun c => ((lowB c == 46) == (c == 46)) && ((lowB c == 45) == (c == 45)) && (isAl (lowB c) == isAl c) && (nonDig (lowB c) == nonDig c)) (by decide +kernel) c
  simpa [and_assoc] using h

theorem blind_upp : Blind uppB := fun c => by
  have h := of_all (fun c => ((uppB c == 46) == (c == 46)) && ((uppB c == 45) == (c == 45)) && (isAl (uppB c) == isAl c) && (nonDig (uppB c) == nonDig c)) (by decide +kernel) c
  simpa [and_assoc] using h

theorem cutD_map (f : UInt8 → UInt8) (hf : Blind f) : ∀ s : List UInt8, cutD (s.map f) = ((cutD s).1.map f, (cutD s).2.1.map f, (cutD s).2.2)
  | [] => rfl
  | c :: r => by
    have ih := cutD_map f hf r
    have h46 : (f c = 46) ↔ (c = 46) := by rw [← beq_iff_eq, (hf c).1, beq_iff_eq]
    simp only [List.map_cons]
    unfold cutD
    rw [ih]
    by_cases hc : c = 46
    · rw [if_pos (h46.2 hc), if_pos hc]; rfl
    · rw [if_neg (fun h => hc (h46.1 h)), if_neg hc]; rfl

theorem labOk_map (f : UInt8 → UInt8) (hf : Blind f) (l : List UInt8) : labOk (l.map f) = labOk l := by
  have h45 : ∀ c, (f c = 45) ↔ (c = 45) := fun c => by rw [← beq_iff_eq, (hf c).2.1, beq_iff_eq]
  have hok : ∀ c, okB (f c) = okB c := fun c => by unfold okB; rw [(hf c).2.2.1, (hf c).2.1]
  have ho : ∀ o : Option UInt8, (o.map f == some 45) = (o == some 45) := fun o => by
    cases o with
    | none => rfl
    | some c => rw [Bool.eq_iff_iff]; simpa using h45 c
  unfold labOk
  rw [List.head?_map, List.getLast?_map, ho, ho, List.length_map, List.all_map]
  congr 1
  congr 1
  funext c
  exact hok c

theorem any_map (f : UInt8 → UInt8) (hf : Blind f) (l : List UInt8) : (l.map f).any nonDig = l.any nonDig := by
  rw [List.any_map]
  congr 1
  funext c
  exact (hf c).2.2.2

theorem validF_map (f : UInt8 → UInt8) (hf : Blind f) : ∀ (n : Nat) (s : List UInt8), validF n (s.map f) = validF n s
  | 0, _ => rfl
  | n + 1, s => by
    unfold validF
    rw [cutD_map f hf, labOk_map f hf, any_map f hf, validF_map f hf n]

theorem valid_map (f : UInt8 → UInt8) (hf : Blind f) (s : List UInt8) : valid (s.map f) = valid s := by
  unfold valid
  rw [validF_map f hf, List.length_map]

theorem valid_low (s : List UInt8) : valid (s.map lowB) = valid s := valid_map _ blind_low s
theorem valid_upp (s : List UInt8) : valid (s.map uppB) = valid s := valid_map _ blind_upp s

end Go.Proofs.Qxb6001400a.Pl
