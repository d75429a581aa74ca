/-
  THE STATEMENT 'Rows.FnAllowsMXWildcardOneLabelSaid', PROVED: the walk of the law, and the row's frame.
-/
import Derived.Test.Qxb6001400aRows
import Derived.Test.Qxb6001400aW6
import Derived.WalkKit
import Derived.ProofKit
import Derived.OpenShut
import Derived.ShutString
import Derived.HandedShaped
namespace Go.Proofs.Qxb6001400a.fnAllowsMXWildcardOneLabel
open Go.ChangeShapes Go.WideShapes Go.ChangeAt Go.RowKit
open Go.ChangeMaps (open_string shut_string)
set_option linter.unusedVariables false

theorem own : ownKnob Try.prog.godebug = none := by kernel_rfl

theorem pos_of_cell {w : World} {v : Value} (h : w.cell? ⟨0, 0, none⟩ = some v) : 0 < w.heap.size := by
  by_cases h0 : 0 < w.heap.size
  · exact h0
  · have e : w.heap[0]? = none := Array.getElem?_eq_none (by omega)
    simp [World.cell?, e] at h

set_option maxHeartbeats 400000 in
theorem walk_big (a0 a1 : ByteArray) (w0 : a0.size ≤ maxLen) (w1 : a1.size ≤ maxLen) (w : World) (hbig : 1048576 < a0.size + a1.size ∨ 524288 < a0.size ∨ 524288 < a1.size) :
    Calls Try.prog 10 #[.string a0, .string a1] w fun e w' => e = .returned (.bool true) ∧ Below w.heap.size w w' := by
  by_cases h : a0.size + a1.size ≤ 1048576
  · have hd : decide (a0.size + a1.size ≤ 1048576) = true := by simp; omega
    by_cases h0 : 524288 < a0.size
    · clear hbig
      go_enter Try.func10, Try.ntmps10
      go_wp2_with (go_at_call 29; refine (bytes29_any _ _ _ w0 w1).mono ?_; rintro e w' ⟨rfl, rfl⟩; rw [hd])
      go_ret
      exact ⟨rfl, Below.refl _ _⟩
    · have h1 : 524288 < a1.size := by omega
      clear hbig
      go_enter Try.func10, Try.ntmps10
      go_wp2_with (go_at_call 29; refine (bytes29_any _ _ _ w0 w1).mono ?_; rintro e w' ⟨rfl, rfl⟩; rw [hd])
      go_ret
      exact ⟨rfl, Below.refl _ _⟩
  · have hd : decide (a0.size + a1.size ≤ 1048576) = false := by simp; omega
    clear hbig
    go_enter Try.func10, Try.ntmps10
    go_wp2_with (go_at_call 29; refine (bytes29_any _ _ _ w0 w1).mono ?_; rintro e w' ⟨rfl, rfl⟩; rw [hd])
    go_ret
    exact ⟨rfl, Below.refl _ _⟩

set_option maxHeartbeats 1000000 in
theorem walk_invalid (a0 a1 : ByteArray) (w : World) (m : Int) (hg : 0 < w.heap.size) (hm : w.cell? ⟨0, 0, none⟩ = some (.int .i64 m)) (h0 : a0.size ≤ 524288) (h1 : a1.size ≤ 524288)
    (hv : Pl.valid a1.data.toList = false) :
    Calls Try.prog 10 #[.string a0, .string a1] w fun e w' => e = .returned (.bool true) ∧ Below w.heap.size w w' := by
  have w0 : a0.size ≤ maxLen := by unfold maxLen; omega
  have w1 : a1.size ≤ maxLen := by unfold maxLen; omega
  have hd : decide (a0.size + a1.size ≤ 1048576) = true := by simp; omega
  have HV := hide hv
  clear hv
  go_enter Try.func10, Try.ntmps10
  go_wp2_with (go_at_call 29; refine (bytes29_any _ _ _ w0 w1).mono ?_; rintro e w' ⟨rfl, rfl⟩; rw [hd])
  refine (valid_any cut_said cont_said a1 m _ w1 hg hm).mono ?_
  rintro e w2 ⟨rfl, hb⟩
  rw [unhide HV]
  go_wp2
  go_ret
  exact ⟨rfl, hb⟩

theorem says_label {a0 a1 lp host : ByteArray} {b : Bool} (hh : host.data.toList = a0.data.toList ++ 46 :: lp.data.toList) (hl : lp.data.toList = a1.data.toList.map Pl.lowB)
    (hw : (!a0.data.toList.isEmpty && !Pl.hasDot a0.data.toList) = b) : AllowsSays host a1 = b := by
  unfold AllowsSays
  rw [hh, ← hl, Pl.allow_label, hw]
theorem says_upper {a0 a1 lp up host : ByteArray} {b : Bool} (hh : host.data.toList = a0.data.toList ++ 46 :: lp.data.toList) (hl : lp.data.toList = a1.data.toList.map Pl.lowB) (hu : up.data.toList = a1.data.toList.map Pl.uppB)
    (hw : (!a0.data.toList.isEmpty && !Pl.hasDot a0.data.toList) = b) : AllowsSays host up = b := by
  unfold AllowsSays
  rw [hh, hu, Pl.low_upp, ← hl, Pl.allow_label, hw]
theorem says_self {a1 lp : ByteArray} (hl : lp.data.toList = a1.data.toList.map Pl.lowB) : AllowsSays lp a1 = false := by
  unfold AllowsSays
  rw [← hl, Pl.allow_self]

set_option maxHeartbeats 2000000 in
theorem walk_valid (a0 a1 : ByteArray) (w : World) (m : Int) (hg : 0 < w.heap.size) (hm : w.cell? ⟨0, 0, none⟩ = some (.int .i64 m)) (h0 : a0.size ≤ 524288) (h1 : a1.size ≤ 524288)
    (hv : Pl.valid a1.data.toList = true) :
    Calls Try.prog 10 #[.string a0, .string a1] w fun e w' => e = .returned (.bool true) ∧ Below w.heap.size w w' := by
  have w0 : a0.size ≤ maxLen := by unfold maxLen; omega
  have w1 : a1.size ≤ maxLen := by unfold maxLen; omega
  have hd : decide (a0.size + a1.size ≤ 1048576) = true := by simp; omega
  have hl1 : a1.size ≤ 253 := by have := Pl.valid_len _ hv; rwa [← Lib.size_eq] at this
  have HV := hide hv
  clear hv
  go_enter Try.func10, Try.ntmps10
  go_wp2_with (go_at_call 29; refine (bytes29_any _ _ _ w0 w1).mono ?_; rintro e w' ⟨rfl, rfl⟩; rw [hd])
  refine (valid_any cut_said cont_said a1 m _ w1 hg hm).mono ?_
  rintro e w2 ⟨rfl, hb2⟩
  rw [unhide HV]
  go_wp2_with fail
  refine (lower_any a1 _ (by omega)).mono ?_
  rintro e w3 ⟨rfl, hb3⟩
  have hb3' := hb2.trans (hb3.mono hb2.size)
  generalize hlp : (⟨(a1.data.toList.map Pl.lowB).toArray⟩ : ByteArray) = lp
  have hlps : lp.size ≤ 253 := by rw [← hlp, size_of_list, List.length_map, ← Lib.size_eq]; exact hl1
  have hlpd : lp.data.toList = a1.data.toList.map Pl.lowB := by rw [← hlp]
  have HLP := hide hlpd
  clear hlp hlpd
  go_wp2_with fail
  generalize hp1 : (⟨#[42, 46]⟩ ++ a1 : ByteArray) = pat1
  have hpat1 : pat1.data.toList = 42 :: 46 :: a1.data.toList := by rw [← hp1]; simp
  have HP1 := hide hpat1
  clear hp1 hpat1
  have c1 : ((w3.alloc (.cells #[.string pat1] 9)).alloc (.cells #[.string ⟨#[]⟩, .slice (some ⟨w3.heap.size, 0, none⟩) 1 1, .int .u64 0] 37)).cell? ⟨w3.heap.size, 0, none⟩ = some (.string pat1) := by simp
  have c2 : ((w3.alloc (.cells #[.string pat1] 9)).alloc (.cells #[.string ⟨#[]⟩, .slice (some ⟨w3.heap.size, 0, none⟩) 1 1, .int .u64 0] 37)).cell? ⟨w3.heap.size + 1, 1, none⟩ = some (.slice (some ⟨w3.heap.size, 0, none⟩) 1 1) := by simp
  have z4 : ((w3.alloc (.cells #[.string pat1] 9)).alloc (.cells #[.string ⟨#[]⟩, .slice (some ⟨w3.heap.size, 0, none⟩) 1 1, .int .u64 0] 37)).heap.size = w3.heap.size + 2 := by simp
  have hb4' : Below w'.heap.size w' ((w3.alloc (.cells #[.string pat1] 9)).alloc (.cells #[.string ⟨#[]⟩, .slice (some ⟨w3.heap.size, 0, none⟩) 1 1, .int .u64 0] 37)) :=
    (hb3'.alloc hb3'.size _).alloc (by simp; have := hb3'.size; omega) _
  generalize (w3.alloc (.cells #[.string pat1] 9)).alloc (.cells #[.string ⟨#[]⟩, .slice (some ⟨w3.heap.size, 0, none⟩) 1 1, .int .u64 0] 37) = w4 at c1 c2 z4 hb4' ⊢
  generalize w3.heap.size = B at c1 c2 z4 ⊢
  refine (upper_any a1 _ (by omega)).mono ?_
  rintro e w5 ⟨rfl, hb5⟩
  generalize hup : (⟨(a1.data.toList.map Pl.uppB).toArray⟩ : ByteArray) = up
  have hups : up.size ≤ 253 := by rw [← hup, size_of_list, List.length_map, ← Lib.size_eq]; exact hl1
  have hupd : up.data.toList = a1.data.toList.map Pl.uppB := by rw [← hup]
  have HUP := hide hupd
  clear hup hupd
  cases he : a0.toList.isEmpty
  · go_wp2_with fail
    generalize hp2 : (⟨#[42, 46]⟩ ++ up : ByteArray) = pat2
    have hpat2 : pat2.data.toList = 42 :: 46 :: up.data.toList := by rw [← hp2]; simp
    have HP2 := hide hpat2
    clear hp2 hpat2
    generalize hho : (a0 ++ ⟨#[46]⟩ ++ lp : ByteArray) = host
    have hhd : host.data.toList = a0.data.toList ++ 46 :: lp.data.toList := by rw [← hho]; simp
    have hhs : host.size ≤ 1048576 := by rw [Lib.size_eq, hhd, List.length_append, List.length_cons, ← Lib.size_eq, ← Lib.size_eq]; omega
    have HHD := hide hhd
    clear hho hhd
    have z5 : B + 2 ≤ w5.heap.size := by have := hb5.size; omega
    have d1 : ((w5.alloc (.cells #[.string pat2] 9)).alloc (.cells #[.string ⟨#[]⟩, .slice (some ⟨w5.heap.size, 0, none⟩) 1 1, .int .u64 0] 37)).cell? ⟨B, 0, none⟩ = some (.string pat1) := by
      rw [World.cell?_alloc_past _ _ _ (by simp; omega), World.cell?_alloc_past _ _ _ (show B < w5.heap.size by omega), hb5.cell (p := ⟨B, 0, none⟩) (by rw [z4]; simp), c1]
    have d2 : ((w5.alloc (.cells #[.string pat2] 9)).alloc (.cells #[.string ⟨#[]⟩, .slice (some ⟨w5.heap.size, 0, none⟩) 1 1, .int .u64 0] 37)).cell? ⟨B + 1, 1, none⟩ = some (.slice (some ⟨B, 0, none⟩) 1 1) := by
      rw [World.cell?_alloc_past _ _ _ (by simp; omega), World.cell?_alloc_past _ _ _ (show B + 1 < w5.heap.size by omega), hb5.cell (p := ⟨B + 1, 1, none⟩) (by rw [z4]; simp), c2]
    have d3 : ((w5.alloc (.cells #[.string pat2] 9)).alloc (.cells #[.string ⟨#[]⟩, .slice (some ⟨w5.heap.size, 0, none⟩) 1 1, .int .u64 0] 37)).cell? ⟨w5.heap.size, 0, none⟩ = some (.string pat2) := by simp
    have d4 : ((w5.alloc (.cells #[.string pat2] 9)).alloc (.cells #[.string ⟨#[]⟩, .slice (some ⟨w5.heap.size, 0, none⟩) 1 1, .int .u64 0] 37)).cell? ⟨w5.heap.size + 1, 1, none⟩ = some (.slice (some ⟨w5.heap.size, 0, none⟩) 1 1) := by simp
    have z6 : ((w5.alloc (.cells #[.string pat2] 9)).alloc (.cells #[.string ⟨#[]⟩, .slice (some ⟨w5.heap.size, 0, none⟩) 1 1, .int .u64 0] 37)).heap.size = w5.heap.size + 2 := by simp
    have hb6 : Below w'.heap.size w' ((w5.alloc (.cells #[.string pat2] 9)).alloc (.cells #[.string ⟨#[]⟩, .slice (some ⟨w5.heap.size, 0, none⟩) 1 1, .int .u64 0] 37)) := by
      have h5 := hb4'.trans (hb5.mono hb4'.size)
      exact (h5.alloc h5.size _).alloc (by simp; have := h5.size; omega) _
    generalize (w5.alloc (.cells #[.string pat2] 9)).alloc (.cells #[.string ⟨#[]⟩, .slice (some ⟨w5.heap.size, 0, none⟩) 1 1, .int .u64 0] 37) = w6 at d1 d2 d3 d4 z6 hb6 ⊢
    generalize w5.heap.size = C at d3 d4 z5 z6 ⊢
    clear c1 c2 z4 hb5 hb4'
    refine (hasDot_any a0 _ (by omega)).mono ?_
    rintro e w'' ⟨rfl, rfl⟩
    cases hdot : Pl.hasDot a0.data.toList
    · have HW := hide (show (!a0.data.toList.isEmpty && !Pl.hasDot a0.data.toList) = true by rw [hdot, ← Lib.toList_data, he]; rfl)
      have A1 := hide (says_label (unhide HHD) (unhide HLP) (unhide HW))
      have A2 := hide (says_upper (unhide HHD) (unhide HLP) (unhide HUP) (unhide HW))
      have A3 := hide (says_self (unhide HLP))
      go_wp2_with fail
      refine (allows_any (B + 1) B host pat1 a1 m _ (unhide HP1) (unhide HV) hhs (Nat.lt_of_lt_of_le hg hb6.size) ((hb6.cell (p := ⟨0, 0, none⟩) hg).trans hm) (by omega) d2 d1).mono ?_
      rintro e w7 ⟨rfl, hb7⟩
      rw [unhide A1]
      have hb7' := hb6.trans (hb7.mono hb6.size)
      have d1' : w7.cell? ⟨B, 0, none⟩ = some (.string pat1) := (hb7.cell (p := ⟨B, 0, none⟩) (show B < _ by omega)).trans d1
      have d2' : w7.cell? ⟨B + 1, 1, none⟩ = some (.slice (some ⟨B, 0, none⟩) 1 1) := (hb7.cell (p := ⟨B + 1, 1, none⟩) (show B + 1 < _ by omega)).trans d2
      have d3' : w7.cell? ⟨C, 0, none⟩ = some (.string pat2) := (hb7.cell (p := ⟨C, 0, none⟩) (show C < _ by omega)).trans d3
      have d4' : w7.cell? ⟨C + 1, 1, none⟩ = some (.slice (some ⟨C, 0, none⟩) 1 1) := (hb7.cell (p := ⟨C + 1, 1, none⟩) (show C + 1 < _ by omega)).trans d4
      have z7 := hb7.size
      clear d1 d2 d3 d4
      go_wp2_with fail
      refine (allows_any (C + 1) C host pat2 up m _ (unhide HP2) (by rw [unhide HUP, Pl.valid_upp]; exact unhide HV) hhs (Nat.lt_of_lt_of_le hg hb7'.size) ((hb7'.cell (p := ⟨0, 0, none⟩) hg).trans hm) (by omega) d4' d3').mono ?_
      rintro e w8 ⟨rfl, hb8⟩
      rw [unhide A2]
      have hb8' := hb7'.trans (hb8.mono hb7'.size)
      have d1'' : w8.cell? ⟨B, 0, none⟩ = some (.string pat1) := (hb8.cell (p := ⟨B, 0, none⟩) (show B < _ by omega)).trans d1'
      have d2'' : w8.cell? ⟨B + 1, 1, none⟩ = some (.slice (some ⟨B, 0, none⟩) 1 1) := (hb8.cell (p := ⟨B + 1, 1, none⟩) (show B + 1 < _ by omega)).trans d2'
      have z8 := hb8.size
      clear d1' d2' d3' d4'
      go_wp2_with fail
      refine (allows_any (B + 1) B lp pat1 a1 m _ (unhide HP1) (unhide HV) (by omega) (Nat.lt_of_lt_of_le hg hb8'.size) ((hb8'.cell (p := ⟨0, 0, none⟩) hg).trans hm) (by omega) d2'' d1'').mono ?_
      rintro e w9 ⟨rfl, hb9⟩
      rw [unhide A3]
      go_wp2
      go_ret
      exact ⟨rfl, hb8'.trans (hb9.mono hb8'.size)⟩
    · have HW := hide (show (!a0.data.toList.isEmpty && !Pl.hasDot a0.data.toList) = false by rw [hdot]; simp)
      have A1 := hide (says_label (unhide HHD) (unhide HLP) (unhide HW))
      have A2 := hide (says_upper (unhide HHD) (unhide HLP) (unhide HUP) (unhide HW))
      have A3 := hide (says_self (unhide HLP))
      go_wp2_with fail
      refine (allows_any (B + 1) B host pat1 a1 m _ (unhide HP1) (unhide HV) hhs (Nat.lt_of_lt_of_le hg hb6.size) ((hb6.cell (p := ⟨0, 0, none⟩) hg).trans hm) (by omega) d2 d1).mono ?_
      rintro e w7 ⟨rfl, hb7⟩
      rw [unhide A1]
      have hb7' := hb6.trans (hb7.mono hb6.size)
      have d1' : w7.cell? ⟨B, 0, none⟩ = some (.string pat1) := (hb7.cell (p := ⟨B, 0, none⟩) (show B < _ by omega)).trans d1
      have d2' : w7.cell? ⟨B + 1, 1, none⟩ = some (.slice (some ⟨B, 0, none⟩) 1 1) := (hb7.cell (p := ⟨B + 1, 1, none⟩) (show B + 1 < _ by omega)).trans d2
      have d3' : w7.cell? ⟨C, 0, none⟩ = some (.string pat2) := (hb7.cell (p := ⟨C, 0, none⟩) (show C < _ by omega)).trans d3
      have d4' : w7.cell? ⟨C + 1, 1, none⟩ = some (.slice (some ⟨C, 0, none⟩) 1 1) := (hb7.cell (p := ⟨C + 1, 1, none⟩) (show C + 1 < _ by omega)).trans d4
      have z7 := hb7.size
      clear d1 d2 d3 d4
      go_wp2_with fail
      refine (allows_any (C + 1) C host pat2 up m _ (unhide HP2) (by rw [unhide HUP, Pl.valid_upp]; exact unhide HV) hhs (Nat.lt_of_lt_of_le hg hb7'.size) ((hb7'.cell (p := ⟨0, 0, none⟩) hg).trans hm) (by omega) d4' d3').mono ?_
      rintro e w8 ⟨rfl, hb8⟩
      rw [unhide A2]
      have hb8' := hb7'.trans (hb8.mono hb7'.size)
      have d1'' : w8.cell? ⟨B, 0, none⟩ = some (.string pat1) := (hb8.cell (p := ⟨B, 0, none⟩) (show B < _ by omega)).trans d1'
      have d2'' : w8.cell? ⟨B + 1, 1, none⟩ = some (.slice (some ⟨B, 0, none⟩) 1 1) := (hb8.cell (p := ⟨B + 1, 1, none⟩) (show B + 1 < _ by omega)).trans d2'
      have z8 := hb8.size
      clear d1' d2' d3' d4'
      go_wp2_with fail
      refine (allows_any (B + 1) B lp pat1 a1 m _ (unhide HP1) (unhide HV) (by omega) (Nat.lt_of_lt_of_le hg hb8'.size) ((hb8'.cell (p := ⟨0, 0, none⟩) hg).trans hm) (by omega) d2'' d1'').mono ?_
      rintro e w9 ⟨rfl, hb9⟩
      rw [unhide A3]
      go_wp2
      go_ret
      exact ⟨rfl, hb8'.trans (hb9.mono hb8'.size)⟩
  · go_wp2_with fail
    generalize hp2 : (⟨#[42, 46]⟩ ++ up : ByteArray) = pat2
    have hpat2 : pat2.data.toList = 42 :: 46 :: up.data.toList := by rw [← hp2]; simp
    have HP2 := hide hpat2
    clear hp2 hpat2
    generalize hho : (a0 ++ ⟨#[46]⟩ ++ lp : ByteArray) = host
    have hhd : host.data.toList = a0.data.toList ++ 46 :: lp.data.toList := by rw [← hho]; simp
    have hhs : host.size ≤ 1048576 := by rw [Lib.size_eq, hhd, List.length_append, List.length_cons, ← Lib.size_eq, ← Lib.size_eq]; omega
    have HHD := hide hhd
    clear hho hhd
    have z5 : B + 2 ≤ w5.heap.size := by have := hb5.size; omega
    have d1 : ((w5.alloc (.cells #[.string pat2] 9)).alloc (.cells #[.string ⟨#[]⟩, .slice (some ⟨w5.heap.size, 0, none⟩) 1 1, .int .u64 0] 37)).cell? ⟨B, 0, none⟩ = some (.string pat1) := by
      rw [World.cell?_alloc_past _ _ _ (by simp; omega), World.cell?_alloc_past _ _ _ (show B < w5.heap.size by omega), hb5.cell (p := ⟨B, 0, none⟩) (by rw [z4]; simp), c1]
    have d2 : ((w5.alloc (.cells #[.string pat2] 9)).alloc (.cells #[.string ⟨#[]⟩, .slice (some ⟨w5.heap.size, 0, none⟩) 1 1, .int .u64 0] 37)).cell? ⟨B + 1, 1, none⟩ = some (.slice (some ⟨B, 0, none⟩) 1 1) := by
      rw [World.cell?_alloc_past _ _ _ (by simp; omega), World.cell?_alloc_past _ _ _ (show B + 1 < w5.heap.size by omega), hb5.cell (p := ⟨B + 1, 1, none⟩) (by rw [z4]; simp), c2]
    have d3 : ((w5.alloc (.cells #[.string pat2] 9)).alloc (.cells #[.string ⟨#[]⟩, .slice (some ⟨w5.heap.size, 0, none⟩) 1 1, .int .u64 0] 37)).cell? ⟨w5.heap.size, 0, none⟩ = some (.string pat2) := by simp
    have d4 : ((w5.alloc (.cells #[.string pat2] 9)).alloc (.cells #[.string ⟨#[]⟩, .slice (some ⟨w5.heap.size, 0, none⟩) 1 1, .int .u64 0] 37)).cell? ⟨w5.heap.size + 1, 1, none⟩ = some (.slice (some ⟨w5.heap.size, 0, none⟩) 1 1) := by simp
    have z6 : ((w5.alloc (.cells #[.string pat2] 9)).alloc (.cells #[.string ⟨#[]⟩, .slice (some ⟨w5.heap.size, 0, none⟩) 1 1, .int .u64 0] 37)).heap.size = w5.heap.size + 2 := by simp
    have hb6 : Below w'.heap.size w' ((w5.alloc (.cells #[.string pat2] 9)).alloc (.cells #[.string ⟨#[]⟩, .slice (some ⟨w5.heap.size, 0, none⟩) 1 1, .int .u64 0] 37)) := by
      have h5 := hb4'.trans (hb5.mono hb4'.size)
      exact (h5.alloc h5.size _).alloc (by simp; have := h5.size; omega) _
    generalize (w5.alloc (.cells #[.string pat2] 9)).alloc (.cells #[.string ⟨#[]⟩, .slice (some ⟨w5.heap.size, 0, none⟩) 1 1, .int .u64 0] 37) = w6 at d1 d2 d3 d4 z6 hb6 ⊢
    generalize w5.heap.size = C at d3 d4 z5 z6 ⊢
    clear c1 c2 z4 hb5 hb4'
    have HW := hide (show (!a0.data.toList.isEmpty && !Pl.hasDot a0.data.toList) = false by rw [← Lib.toList_data, he]; rfl)
    have A1 := hide (says_label (unhide HHD) (unhide HLP) (unhide HW))
    have A2 := hide (says_upper (unhide HHD) (unhide HLP) (unhide HUP) (unhide HW))
    have A3 := hide (says_self (unhide HLP))
    refine (allows_any (B + 1) B host pat1 a1 m _ (unhide HP1) (unhide HV) hhs (Nat.lt_of_lt_of_le hg hb6.size) ((hb6.cell (p := ⟨0, 0, none⟩) hg).trans hm) (by omega) d2 d1).mono ?_
    rintro e w7 ⟨rfl, hb7⟩
    rw [unhide A1]
    have hb7' := hb6.trans (hb7.mono hb6.size)
    have d1' : w7.cell? ⟨B, 0, none⟩ = some (.string pat1) := (hb7.cell (p := ⟨B, 0, none⟩) (show B < _ by omega)).trans d1
    have d2' : w7.cell? ⟨B + 1, 1, none⟩ = some (.slice (some ⟨B, 0, none⟩) 1 1) := (hb7.cell (p := ⟨B + 1, 1, none⟩) (show B + 1 < _ by omega)).trans d2
    have d3' : w7.cell? ⟨C, 0, none⟩ = some (.string pat2) := (hb7.cell (p := ⟨C, 0, none⟩) (show C < _ by omega)).trans d3
    have d4' : w7.cell? ⟨C + 1, 1, none⟩ = some (.slice (some ⟨C, 0, none⟩) 1 1) := (hb7.cell (p := ⟨C + 1, 1, none⟩) (show C + 1 < _ by omega)).trans d4
    have z7 := hb7.size
    clear d1 d2 d3 d4
    go_wp2_with fail
    refine (allows_any (C + 1) C host pat2 up m _ (unhide HP2) (by rw [unhide HUP, Pl.valid_upp]; exact unhide HV) hhs (Nat.lt_of_lt_of_le hg hb7'.size) ((hb7'.cell (p := ⟨0, 0, none⟩) hg).trans hm) (by omega) d4' d3').mono ?_
    rintro e w8 ⟨rfl, hb8⟩
    rw [unhide A2]
    have hb8' := hb7'.trans (hb8.mono hb7'.size)
    have d1'' : w8.cell? ⟨B, 0, none⟩ = some (.string pat1) := (hb8.cell (p := ⟨B, 0, none⟩) (show B < _ by omega)).trans d1'
    have d2'' : w8.cell? ⟨B + 1, 1, none⟩ = some (.slice (some ⟨B, 0, none⟩) 1 1) := (hb8.cell (p := ⟨B + 1, 1, none⟩) (show B + 1 < _ by omega)).trans d2'
    have z8 := hb8.size
    clear d1' d2' d3' d4'
    go_wp2_with fail
    refine (allows_any (B + 1) B lp pat1 a1 m _ (unhide HP1) (unhide HV) (by omega) (Nat.lt_of_lt_of_le hg hb8'.size) ((hb8'.cell (p := ⟨0, 0, none⟩) hg).trans hm) (by omega) d2'' d1'').mono ?_
    rintro e w9 ⟨rfl, hb9⟩
    rw [unhide A3]
    go_wp2
    go_ret
    exact ⟨rfl, hb8'.trans (hb9.mono hb8'.size)⟩

theorem walk (a0 a1 : ByteArray) (w0 : a0.size ≤ maxLen) (w1 : a1.size ≤ maxLen) (w : World) (hsh : w.ShapedOpen Try.prog) :
    Calls Try.prog 10 #[.string a0, .string a1] w fun e w' => e = .returned (.bool true) ∧ Below w.heap.size w w' := by
  by_cases h : 1048576 < a0.size + a1.size ∨ 524288 < a0.size ∨ 524288 < a1.size
  · exact walk_big a0 a1 w0 w1 w h
  · obtain ⟨m, hm⟩ := Try.laysM145.s1_3 w hsh
    have hm' : w.cell? ⟨0, 0, none⟩ = some (.int .i64 m) := hm
    cases hv : Pl.valid a1.data.toList
    · exact walk_invalid a0 a1 w m (pos_of_cell hm') hm' (by omega) (by omega) hv
    · exact walk_valid a0 a1 w m (pos_of_cell hm') hm' (by omega) (by omega) hv

set_option maxRecDepth 100000 in
theorem lifted (os : Os) (started : os.Started) (H : Type) (enc : TypeId × Value → H) :
    ReturnsInHanded {} Try.checked os 10 .any (Rows.fnAllowsMXWildcardOneLabelSpec.pre6 enc Try.prog Try.f10 Rows.fnAllowsMXWildcardOneLabelRow.domain false) (Rows.fnAllowsMXWildcardOneLabelSpec.post enc Try.prog Try.f10 false true false false) := by
  refine returnsInHanded_of_change_shaped (C := Try.checked) own started (by kernel_rfl) Try.func10
    (ChangeSpec.witness6 (enc := enc) (C := Try.checked) false ⟨#[], #[.string ByteArray.empty, .string ByteArray.empty], []⟩ 8 (by kernel_rfl) (by kernel_rfl) (by kernel_rfl) (by kernel_rfl)) ?_
  intro W base args ds gs before hval0 hW hcnd _ hsh _
  have hval : ∀ (j : Nat) t v, Try.f10.params[j]? = some t → args[j]? = some v → Value.okWide Try.prog W .any base t v := hval0
  have hW' := hW
  obtain ⟨p, q, hA0, hV, rfl, hfz, hnd⟩ := hW
  have hA : DataW.TrodAll enc Try.prog W 0 (fun _ => true) true Try.f10.params.toList args.toList ds p := hA0
  rw [Try.params10] at hA hval
  obtain ⟨v0, vs0, d0, ds0, p0, q0, hargs, rfl, rfl, h0, r0⟩ := trodAll_cons hA
  obtain ⟨v1, vs1, d1, ds1, p1, q1, rfl, rfl, rfl, h1, r1⟩ := trodAll_cons r0
  obtain ⟨rfl, rfl, rfl⟩ := trodAll_nil r1
  obtain rfl : args = #[v0, v1] := by cases args; simp_all
  obtain ⟨rfl, rfl⟩ := trodVars_none hV
  obtain ⟨a0, rfl, rfl, rfl, w0⟩ := open_string Try.underlying9 (hval 0 9 v0 rfl rfl) h0
  obtain ⟨a1, rfl, rfl, rfl, w1⟩ := open_string Try.underlying9 (hval 1 9 v1 rfl rfl) h1
  clear hA0 hval0
  simp only [List.append_nil] at hW'
  refine (walk a0 a1 w0 w1 W hsh).mono fun e W' ⟨he, bel⟩ => ?_
  subst he
  exact ⟨_, rfl, _, _, _, [], [], [], hW', trodAll_mk1 (shut_bool Try.underlying4 _), (trodAll_cons_mk (shut_string Try.underlying9 w0) (trodAll_cons_mk (shut_string Try.underlying9 w1) trodAll_mk0)), rfl, bel.frame _, fun h => by cases h⟩

theorem over : Rows.fnAllowsMXWildcardOneLabelRow.holds Try.pinned (OpenSpec.ofChange Rows.fnAllowsMXWildcardOneLabelSpec) :=
  OpenClaim.holds_of_wide 10 Try.f10 rfl rfl rfl rfl rfl rfl rfl ⟨rfl, rfl, rfl, rfl, rfl⟩ rfl rfl rfl rfl rfl (by kernel_rfl) Try.func10 (by kernel_rfl)
    (of_decide_eq_true (by kernel_rfl)) (by unfold Func.isWrapper; first | (rw [if_pos (by decide +kernel)]; kernel_rfl) | (rw [if_neg (by decide +kernel)]; exact ⟨rfl, rfl⟩))
    (fun os started H enc _ => lifted os started H enc)

/-- THE STATEMENT -/
theorem proved : Rows.FnAllowsMXWildcardOneLabelSaid :=
  over
#print axioms proved
end Go.Proofs.Qxb6001400a.fnAllowsMXWildcardOneLabel
