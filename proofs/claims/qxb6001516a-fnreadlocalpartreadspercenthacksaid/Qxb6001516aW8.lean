/-
  WALKS of seat b6001516a, eight: firstBang.
-/
import Derived.Test.Qxb6001516aW7
namespace Go.Proofs.Qxb6001516a
open Go.RowKit
set_option linter.unusedVariables false

theorem seg_extract (s : ByteArray) (l r : Nat) : (s.extract l r).data.toList = Pl.seg s.data.toList l r := Lib.extract_data s l r

theorem bi_eq (s : ByteArray) (l r : Nat) : Lib.indexByte (s.extract l r).data.toList (Int.toNat 33).toUInt8 = Pl.bi s.data.toList l r := by
  rw [seg_extract]; rfl

/-- what firstBang hands back. -/
def bangVal (s : ByteArray) (l r : Nat) : Value :=
  .tuple #[.int .i64 (Pl.bPos s.data.toList l r), .agg #[.string ⟨(Pl.bName s.data.toList l r).toArray⟩, .string ⟨(Pl.bKind s.data.toList l r).toArray⟩]]

theorem bangVal_none (s : ByteArray) (l r : Nat) (h : Pl.bi s.data.toList l r < 0) : bangVal s l r = .tuple #[.int .i64 (-1), .agg #[.string ⟨#[]⟩, .string ⟨#[]⟩]] := by
  have e : ¬ 0 ≤ Pl.bi s.data.toList l r := by omega
  simp [bangVal, Pl.bPos, Pl.bName, Pl.bKind, Pl.bOk, h, e]
theorem bangVal_bad (s : ByteArray) (l r i : Nat) (h : Pl.bi s.data.toList l r = (i : Int)) (hb : Pl.isHopL (s.extract l (l + i)).data.toList = false) : bangVal s l r = .tuple #[.int .i64 ((l : Int) + i), .agg #[.string ⟨#[]⟩, .string ⟨#[]⟩]] := by
  have e : ¬ (i : Int) < 0 := by omega
  rw [seg_extract] at hb
  simp [bangVal, Pl.bPos, Pl.bName, Pl.bKind, Pl.bOk, Pl.bRaw, h, e, hb]
theorem bangVal_ok (s : ByteArray) (l r i : Nat) (h : Pl.bi s.data.toList l r = (i : Int)) (hb : Pl.isHopL (s.extract l (l + i)).data.toList = true) :
    bangVal s l r = .tuple #[.int .i64 ((l : Int) + i), .agg #[.string ⟨(Lib.trimSuffix (s.extract l (l + i)).data.toList [46]).toArray⟩, .string ⟨(if Lib.containsAny (s.extract l (l + i)).data.toList [46, 91] then Pl.domain else Pl.uucp).toArray⟩]] := by
  have e : ¬ (i : Int) < 0 := by omega
  rw [seg_extract] at hb ⊢
  simp [bangVal, Pl.bPos, Pl.bName, Pl.bKind, Pl.bOk, Pl.bRaw, h, e, hb]

def kindOf (cb : Bool) : ByteArray := if cb then ⟨#[100, 111, 109, 97, 105, 110]⟩ else ⟨#[117, 117, 99, 112]⟩

set_option maxHeartbeats 1000000 in
theorem bang_core (s : ByteArray) (l r i : Nat) (nm : ByteArray) (cb : Bool) (w : World) (hlr : l ≤ r) (hr : r ≤ s.size) (hs : s.size ≤ 2097152) (hil : l + i < r)
    (hI : Hid (∀ W : World, Calls Try.prog 22 #[.string (s.extract l r), .int .u8 33] W fun e w' => e = .returned (.int .i64 (i : Int)) ∧ w' = W))
    (hH : Hid (∀ W : World, Calls Try.prog 29 #[.string (s.extract l (l + i))] W fun e w' => e = .returned (.bool true) ∧ w' = W))
    (hC : Hid (∀ W : World, Calls Try.prog 30 #[.string (s.extract l (l + i)), .string ⟨#[46, 91]⟩] W fun e w' => e = .returned (.bool cb) ∧ Below W.heap.size W w'))
    (hT : Hid (∀ W : World, Calls Try.prog 31 #[.string (s.extract l (l + i)), .string ⟨#[46]⟩] W fun e w' => e = .returned (.string nm) ∧ w' = W)) :
    Calls Try.prog 20 #[.string s, .int .i64 (l : Int), .int .i64 (r : Int)] w fun e w' => e = .returned (.tuple #[.int .i64 ((l : Int) + i), .agg #[.string nm, .string (kindOf cb)]]) ∧ Below w.heap.size w w' := by
  cases cb
  all_goals
    go_enter Try.func20, Try.ntmps20
    go_wp2_with fail
    refine (unhide hI _).mono ?_
    rintro e w' ⟨rfl, rfl⟩
    go_wp2_with fail
    refine (unhide hH _).mono ?_
    rintro e w' ⟨rfl, rfl⟩
    go_wp2_with fail
    refine (unhide hC _).mono ?_
    rintro e w1 ⟨rfl, hb1⟩
    have c0 : w1.cell? ⟨w.heap.size, 0, none⟩ = some (.string ⟨#[]⟩) := by rw [hb1.cell (p := ⟨w.heap.size, 0, none⟩) (by simp)]; simp
    have c1 : w1.cell? ⟨w.heap.size, 1, none⟩ = some (.string ⟨#[]⟩) := by rw [hb1.cell (p := ⟨w.heap.size, 1, none⟩) (by simp)]; simp
    have f0 : w1.frozen? ⟨w.heap.size, 0, none⟩ = false := by rw [hb1.frozen (p := ⟨w.heap.size, 0, none⟩) (by simp)]; simp
    have f1 : w1.frozen? ⟨w.heap.size, 1, none⟩ = false := by rw [hb1.frozen (p := ⟨w.heap.size, 1, none⟩) (by simp)]; simp
    have hz1 : w.heap.size < w1.heap.size := by have := hb1.size; simp at this; omega
    have hb1' : Below w.heap.size w w1 := ((Below.refl _ w).alloc (Nat.le_refl _) _).trans (hb1.mono (by simp))
    clear hb1
    go_wp2_with fail
    refine (unhide hT _).mono ?_
    rintro e w' ⟨rfl, rfl⟩
    go_wp2
    refine bodyPost_ret (v := .tuple #[.int .i64 ((l : Int) + i), .agg #[.string nm, .string (kindOf _)]]) ?_ rfl ⟨rfl, (hb1'.setCell (p := ⟨w.heap.size, 0, none⟩) (Nat.le_refl _) _).setCell (p := ⟨w.heap.size, 1, none⟩) (Nat.le_refl _) _⟩
    simp [results, Try.results20, go_sem, c0, c1, kindOf]

set_option maxHeartbeats 1000000 in
theorem bang_any (s : ByteArray) (l r : Nat) (zl zr : Int) (w : World) (hzl : zl = (l : Int)) (hzr : zr = (r : Int)) (hlr : l ≤ r) (hr : r ≤ s.size) (hs : s.size ≤ 2097152) :
    Calls Try.prog 20 #[.string s, .int .i64 zl, .int .i64 zr] w fun e w' => e = .returned (bangVal s l r) ∧ Below w.heap.size w w' := by
  subst hzl hzr
  have hI := hide (fun (W : World) => Try.strings_IndexByte (s.extract l r) 33 W)
  by_cases hneg : Pl.bi s.data.toList l r < 0
  · rw [bangVal_none s l r hneg]
    have hI' : Hid (∀ W : World, Calls Try.prog 22 #[.string (s.extract l r), .int .u8 33] W fun e w' => e = .returned (.int .i64 (Pl.bi s.data.toList l r)) ∧ w' = W) := hide (by rw [← bi_eq]; exact unhide hI)
    clear hI
    generalize Pl.bi s.data.toList l r = z at hneg hI'
    go_enter Try.func20, Try.ntmps20
    go_wp2_with fail
    refine (unhide hI' _).mono ?_
    rintro e w' ⟨rfl, rfl⟩
    go_wp2
    exact bodyPost_ret (v := .tuple #[.int .i64 (-1), .agg #[.string ⟨#[]⟩, .string ⟨#[]⟩]]) (by simp [results, Try.results20, go_sem]) rfl ⟨rfl, (Below.refl _ _).alloc (Nat.le_refl _) _⟩
  · obtain ⟨i, hi⟩ : ∃ i : Nat, Pl.bi s.data.toList l r = (i : Int) := ⟨(Pl.bi s.data.toList l r).toNat, by omega⟩
    have hil := Pl.bi_lt s.data.toList l r hlr (by rw [← Lib.size_eq]; exact hr) (by omega)
    rw [hi] at hil
    have hI' : Hid (∀ W : World, Calls Try.prog 22 #[.string (s.extract l r), .int .u8 33] W fun e w' => e = .returned (.int .i64 (i : Int)) ∧ w' = W) := hide (by rw [← hi, ← bi_eq]; exact unhide hI)
    have hil' : l + i < r := by omega
    have HI := hide hi
    clear hI hneg hi hil
    cases hh : Pl.isHopL (s.extract l (l + i)).data.toList
    · rw [bangVal_bad s l r i (unhide HI) hh]
      have HH := hide hh
      clear hh
      go_enter Try.func20, Try.ntmps20
      go_wp2_with fail
      refine (unhide hI' _).mono ?_
      rintro e w' ⟨rfl, rfl⟩
      go_wp2_with fail
      refine (isHop_any _ _ (by rw [ByteArray.size_extract]; omega)).mono ?_
      rintro e w' ⟨rfl, rfl⟩
      rw [unhide HH]
      go_wp2
      exact bodyPost_ret (v := .tuple #[.int .i64 ((l : Int) + i), .agg #[.string ⟨#[]⟩, .string ⟨#[]⟩]]) (by simp [results, Try.results20, go_sem]) rfl ⟨rfl, (Below.refl _ _).alloc (Nat.le_refl _) _⟩
    · rw [bangVal_ok s l r i (unhide HI) hh]
      have HASC := fun (j : Nat) (b : UInt8) (hb : (s.extract l (l + i)).data.toList[j]? = some b) => Pl.isHop_ascii hh j b hb
      have hxs : (s.extract l (l + i)).size ≤ 2097152 := by rw [ByteArray.size_extract]; omega
      have hK : ∀ b : Bool, (⟨(if b then Pl.domain else Pl.uucp).toArray⟩ : ByteArray) = kindOf b := fun b => by cases b <;> rfl
      rw [hK]
      refine bang_core s l r i _ _ w hlr hr hs hil' hI' (hide fun W => ?_) (hide fun W => ?_) (hide fun W => ?_)
      · refine (isHop_any _ W (by omega)).mono ?_
        rintro e w' ⟨rfl, rfl⟩
        exact ⟨ret_bool hh, rfl⟩
      · exact Try.strings_ContainsAny_laid (s.extract l (l + i)) ⟨#[46, 91]⟩ W (by omega) (by decide) HASC (by
          intro j b hb
          match j, hb with
          | 0, hb => simp at hb; subst hb; decide
          | 1, hb => simp at hb; subst hb; decide)
      · exact Try.strings_TrimSuffix (s.extract l (l + i)) ⟨#[46]⟩ W (by omega)

end Go.Proofs.Qxb6001516a
