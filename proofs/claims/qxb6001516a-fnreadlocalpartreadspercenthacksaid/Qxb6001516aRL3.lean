/-
  WALKS of seat b6001516a: readLocalPart.
-/
import Derived.Test.Qxb6001516aRL2
namespace Go.Proofs.Qxb6001516a
open Go.RowKit
set_option linter.unusedVariables false

/-- what readLocalPart hands back. -/
def EndR (w0 : World) (s : ByteArray) (res : List Hop × Nat × Nat) (e : Ending) (w' : World) : Prop :=
  ∃ v, e = .returned (.tuple #[v, .string (s.extract res.2.1 res.2.2)]) ∧ w'.ownsRow w0.heap.size 33 2 v res.1.length (hopCells res.1) ∧ Below w0.heap.size w0 w'

theorem ownsRow_mono {w : World} {b b' : Nat} {e : TypeId} {size : Nat} {v : Value} {n : Nat} {xs : List Value} (h : w.ownsRow b e size v n xs) (hb : b' ≤ b) : w.ownsRow b' e size v n xs := by
  obtain ⟨hl, h⟩ := h
  refine ⟨hl, ?_⟩
  rcases h with h | ⟨g, cap, cur, e1, e2, e3⟩
  · exact .inl h
  · exact .inr ⟨g, cap, cur, e1, by omega, e3⟩

theorem bPos_range (s : List UInt8) (l r : Nat) (h1 : l ≤ r) (h2 : r ≤ s.length) : -1 ≤ Pl.bPos s l r ∧ Pl.bPos s l r ≤ s.length := by
  unfold Pl.bPos
  by_cases h : Pl.bi s l r < 0
  · rw [if_pos h]; omega
  · rw [if_neg h]
    have := Pl.bi_lt s l r h1 h2 (by omega)
    omega

set_option maxHeartbeats 4000000 in
theorem rlp_any (s : ByteArray) (pf : Bool) (f : Nat) (res : List Hop × Nat × Nat) (w : World) (hs : s.size ≤ 2097152)
    (hf : Pl.rlF s.data.toList pf f 0 s.size 0 s.size [] = some res) :
    Calls Try.prog 18 #[.string s, .bool pf, .slice none 0 0] w fun e w' => EndR w s res e w' := by
  obtain ⟨i0, hi, hz0, hz1, hz2⟩ := info_parts Try.info33
  have HI0 := hide (show RInv s pf res 0 s.size 0 s.size [] from ⟨Nat.le_refl _, by omega, Nat.le_refl _, Nat.le_refl _, by simp, f, hf⟩)
  clear hf
  go_enter Try.func18, Try.ntmps18
  go_wp2_with fail
  refine (bang_any s 0 s.size _ _ _ rfl rfl (by omega) (Nat.le_refl _) hs).mono ?_
  rintro e w1 ⟨rfl, hb1⟩
  rw [show bangVal s 0 s.size = .tuple #[.int .i64 (Pl.bPos s.data.toList 0 s.size), .agg #[.string ⟨(Pl.bName s.data.toList 0 s.size).toArray⟩, .string ⟨(Pl.bKind s.data.toList 0 s.size).toArray⟩]] from rfl]
  generalize hbp : Pl.bPos s.data.toList 0 s.size = bp
  generalize hnm : (⟨(Pl.bName s.data.toList 0 s.size).toArray⟩ : ByteArray) = nm
  generalize hkd : (⟨(Pl.bKind s.data.toList 0 s.size).toArray⟩ : ByteArray) = kd
  have HBP := hide hbp
  have HNM := hide hnm
  have HKD := hide hkd
  clear hbp hnm hkd
  go_wp2_with fail
  refine (pct_any s 0 s.size _ _ _ rfl rfl (by omega) (Nat.le_refl _) hs).mono ?_
  rintro e w2 ⟨rfl, rfl⟩
  rw [show pctVal s 0 s.size = .tuple #[.int .i64 (Pl.pPos s.data.toList 0 s.size), .string ⟨(Pl.pHop s.data.toList 0 s.size).toArray⟩] from rfl]
  have HM0 := hide (show RMem w w1.heap.size (w1.alloc (.cells #[.string nm, .string kd] 33)) (.slice none 0 0) [] nm kd from
    ⟨hb1.size, heap_alloc_new w1 _, World.ownsRow_nil _ _ _ _, hb1.alloc hb1.size _⟩)
  go_wp2
  go_loopw [2, 8, 9, 10, 12, 13] (fun v zl zr zb zp zh wr => ∃ (l r l' r' : Nat) (hs' : List Hop) (nm kd : ByteArray), zl = .int .i64 l ∧ zr = .int .i64 r ∧ zb = .int .i64 (Pl.bPos s.data.toList l r') ∧ zp = .int .i64 (Pl.pPos s.data.toList l' r) ∧ zh = .string ⟨(Pl.pHop s.data.toList l' r).toArray⟩ ∧ Hid (nm = ⟨(Pl.bName s.data.toList l r').toArray⟩) ∧ Hid (kd = ⟨(Pl.bKind s.data.toList l r').toArray⟩) ∧ RInv s pf res l r l' r' hs' ∧ RMem w w1.heap.size wr v hs' nm kd) (fun _ zl zr _ _ _ _ => (intOf zr).toNat - (intOf zl).toNat)
  case atStart => exact ⟨0, s.size, 0, s.size, [], nm, kd, rfl, rfl, by rw [unhide HBP], rfl, rfl, hide (unhide HNM).symm, hide (unhide HKD).symm, unhide HI0, unhide HM0⟩
  case round =>
    clear HBP HNM HKD HI0 HM0
    obtain ⟨l, r, l', r', hs', nm, kd, rfl, rfl, rfl, rfl, rfl, HNM, HKD, hinv, hmem⟩ := hrel
    have g1 : l' ≤ l := hinv.1
    have g2 : l ≤ r := hinv.2.1
    have g3 : r ≤ r' := hinv.2.2.1
    have g4 : r' ≤ s.size := hinv.2.2.2.1
    have g5 : hs'.length + (r - l) ≤ s.size := hinv.2.2.2.2.1
    have enm : nm.toList.isEmpty = (Pl.bName s.data.toList l r').isEmpty := by rw [Lib.toList_data, unhide HNM]
    have ehp : (⟨(Pl.pHop s.data.toList l' r).toArray⟩ : ByteArray).toList.isEmpty = (Pl.pHop s.data.toList l' r).isEmpty := by rw [Lib.toList_data]
    have dhp : (⟨(Pl.pHop s.data.toList l' r).toArray⟩ : ByteArray).data.toList = Pl.pHop s.data.toList l' r := rfl
    have dnm : nm.data.toList = Pl.bName s.data.toList l r' := by rw [unhide HNM]
    have dkd : kd.data.toList = Pl.bKind s.data.toList l r' := by rw [unhide HKD]
    have kp := fun a b c => rinv_pct hinv a b c
    have kb := fun a b c => rinv_bang hinv a b c
    have ke := fun a b => rinv_end hinv a b
    rw [← enm, ← ehp, ← dhp] at kp
    rw [← enm, ← ehp, ← dnm, ← dkd] at kb
    rw [← enm, ← ehp] at ke
    have c0 := hmem.cell0
    have hbr := bPos_range s.data.toList l r' (by omega) (by rw [← Lib.size_eq]; exact g4)
    rw [← Lib.size_eq] at hbr
    obtain ⟨hbr1, hbr2⟩ := hbr
    clear enm ehp dhp dnm dkd hinv
    generalize hbp : Pl.bPos s.data.toList l r' = bp at kp kb ke hbr1 hbr2 ⊢
    generalize hpp : Pl.pPos s.data.toList l' r = pp at kp kb ke ⊢
    generalize hhp : (⟨(Pl.pHop s.data.toList l' r).toArray⟩ : ByteArray) = hp at kp kb ke ⊢
    have HBP := hide hbp
    have HPP := hide hpp
    have HHP := hide hhp
    have KP := hide kp
    have KB := hide kb
    have KE := hide ke
    clear hbp hpp hhp kp kb ke
    cases P1 : hp.toList.isEmpty
    · by_cases P2 : (l : Int) < pp
      · cases pf
        · cases N1 : nm.toList.isEmpty
          · by_cases B2 : bp + 1 < (r : Int)
            · obtain ⟨i, rfl, hi1, hi2, hnext⟩ := unhide KB N1 B2 (.inl rfl)
              have HNEXT := hide hnext
              have HMEM := hide hmem
              have c1 := (unhide HMEM).cell1
              clear hnext hmem KP KB KE
              go_wp2_with (first | (at_builtin; refine wpList_append_own _ rfl (.tmp 77) (.tmp 79) 28 rfl (w1.heap.size + 1) 33 i0 (.agg #[.string ⟨#[]⟩, .string ⟨#[]⟩]) 2 32 Try.underlying28 hi hz0 hz1 hz2 rfl (by decide) _ _ _ rfl (World.ownsRow.alloc (unhide HMEM).2.2.1 _) ⟨_, 0, none⟩ 1 1 [.string nm, .string kd] rfl rfl (cell_two_new _ _ _ _) (by intro u hu; simp at hu; rcases hu with rfl | rfl <;> rfl) (by unfold maxLen; omega) (by omega) (by have := (unhide HMEM).lt; simp; omega) ?_))
              intro v' w3 hown3 hg3 _
              have M3 := hide ((unhide HMEM).append hown3 hg3)
              clear hown3 hg3 c0 c1
              go_wp2_with fail
              refine (bang_any s (i + 1) r _ _ _ (by omega) rfl (by omega) (by omega) hs).mono ?_
              rintro e w4 ⟨rfl, hb4⟩
              rw [show bangVal s (i + 1) r = .tuple #[.int .i64 (Pl.bPos s.data.toList (i + 1) r), .agg #[.string ⟨(Pl.bName s.data.toList (i + 1) r).toArray⟩, .string ⟨(Pl.bKind s.data.toList (i + 1) r).toArray⟩]] from rfl]
              generalize hnm2 : (⟨(Pl.bName s.data.toList (i + 1) r).toArray⟩ : ByteArray) = nm2
              generalize hkd2 : (⟨(Pl.bKind s.data.toList (i + 1) r).toArray⟩ : ByteArray) = kd2
              have HNM2 := hide hnm2.symm
              have HKD2 := hide hkd2.symm
              clear hnm2 hkd2
              have M4 := hide ((unhide M3).below hb4)
              have d0 := (unhide M4).cell0
              have d1 := (unhide M4).cell1
              have f0 := (unhide M4).frozen 0
              have f1 := (unhide M4).frozen 1
              have z4 := (unhide M4).lt
              have M5 := hide ((unhide M4).store nm2 kd2)
              clear hb4
              go_wp2
              go_roundw
              case rel => exact ⟨i + 1, r, l', r, _, nm2, kd2, by go_num, rfl, rfl, by rw [unhide HPP], by rw [unhide HHP], HNM2, HKD2, unhide HNEXT, unhide M5⟩
              case measure => simp [intOf]; omega
            · obtain ⟨i, rfl, hi1, hi2, hnext⟩ := unhide KP P1 P2 (.inr (.inr B2))
              have HNEXT := hide hnext
              have HMEM := hide hmem
              clear hnext hmem KP KB KE
              go_wp2_with (first | (at_builtin; refine wpList_append_own _ rfl (.tmp 62) (.tmp 65) 28 rfl (w1.heap.size + 1) 33 i0 (.agg #[.string ⟨#[]⟩, .string ⟨#[]⟩]) 2 32 Try.underlying28 hi hz0 hz1 hz2 rfl (by decide) _ _ _ rfl (World.ownsRow.alloc (unhide HMEM).2.2.1 _) ⟨_, 0, none⟩ 1 1 [.string hp, .string ⟨#[100, 111, 109, 97, 105, 110]⟩] rfl rfl (cell_two_new _ _ _ _) (by intro u hu; simp at hu; rcases hu with rfl | rfl <;> rfl) (by unfold maxLen; omega) (by omega) (by have := (unhide HMEM).lt; simp; omega) ?_))
              intro v' w3 hown3 hg3 _
              have M3 := hide ((unhide HMEM).append hown3 hg3)
              clear hown3 hg3
              go_wp2_with fail
              refine (pct_any s l i _ _ _ rfl rfl (by omega) (by omega) hs).mono ?_
              rintro e w' ⟨rfl, rfl⟩
              rw [show pctVal s l i = .tuple #[.int .i64 (Pl.pPos s.data.toList l i), .string ⟨(Pl.pHop s.data.toList l i).toArray⟩] from rfl]
              go_wp2
              go_roundw
              case rel => exact ⟨l, i, l, r', (hs' ++ [(hp.data.toList, Pl.domain)]), nm, kd, rfl, rfl, by rw [unhide HBP], rfl, rfl, HNM, HKD, unhide HNEXT, unhide M3⟩
              case measure => simp [intOf]; omega
          · obtain ⟨i, rfl, hi1, hi2, hnext⟩ := unhide KP P1 P2 (.inr (.inl N1))
            have HNEXT := hide hnext
            have HMEM := hide hmem
            clear hnext hmem KP KB KE
            go_wp2_with (first | (at_builtin; refine wpList_append_own _ rfl (.tmp 62) (.tmp 65) 28 rfl (w1.heap.size + 1) 33 i0 (.agg #[.string ⟨#[]⟩, .string ⟨#[]⟩]) 2 32 Try.underlying28 hi hz0 hz1 hz2 rfl (by decide) _ _ _ rfl (World.ownsRow.alloc (unhide HMEM).2.2.1 _) ⟨_, 0, none⟩ 1 1 [.string hp, .string ⟨#[100, 111, 109, 97, 105, 110]⟩] rfl rfl (cell_two_new _ _ _ _) (by intro u hu; simp at hu; rcases hu with rfl | rfl <;> rfl) (by unfold maxLen; omega) (by omega) (by have := (unhide HMEM).lt; simp; omega) ?_))
            intro v' w3 hown3 hg3 _
            have M3 := hide ((unhide HMEM).append hown3 hg3)
            clear hown3 hg3
            go_wp2_with fail
            refine (pct_any s l i _ _ _ rfl rfl (by omega) (by omega) hs).mono ?_
            rintro e w' ⟨rfl, rfl⟩
            rw [show pctVal s l i = .tuple #[.int .i64 (Pl.pPos s.data.toList l i), .string ⟨(Pl.pHop s.data.toList l i).toArray⟩] from rfl]
            go_wp2
            go_roundw
            case rel => exact ⟨l, i, l, r', (hs' ++ [(hp.data.toList, Pl.domain)]), nm, kd, rfl, rfl, by rw [unhide HBP], rfl, rfl, HNM, HKD, unhide HNEXT, unhide M3⟩
            case measure => simp [intOf]; omega
        · cases N1 : nm.toList.isEmpty
          · by_cases B2 : bp + 1 < (r : Int)
            · obtain ⟨i, rfl, hi1, hi2, hnext⟩ := unhide KP P1 P2 (.inl rfl)
              have HNEXT := hide hnext
              have HMEM := hide hmem
              clear hnext hmem KP KB KE
              go_wp2_with (first | (at_builtin; refine wpList_append_own _ rfl (.tmp 62) (.tmp 65) 28 rfl (w1.heap.size + 1) 33 i0 (.agg #[.string ⟨#[]⟩, .string ⟨#[]⟩]) 2 32 Try.underlying28 hi hz0 hz1 hz2 rfl (by decide) _ _ _ rfl (World.ownsRow.alloc (unhide HMEM).2.2.1 _) ⟨_, 0, none⟩ 1 1 [.string hp, .string ⟨#[100, 111, 109, 97, 105, 110]⟩] rfl rfl (cell_two_new _ _ _ _) (by intro u hu; simp at hu; rcases hu with rfl | rfl <;> rfl) (by unfold maxLen; omega) (by omega) (by have := (unhide HMEM).lt; simp; omega) ?_))
              intro v' w3 hown3 hg3 _
              have M3 := hide ((unhide HMEM).append hown3 hg3)
              clear hown3 hg3
              go_wp2_with fail
              refine (pct_any s l i _ _ _ rfl rfl (by omega) (by omega) hs).mono ?_
              rintro e w' ⟨rfl, rfl⟩
              rw [show pctVal s l i = .tuple #[.int .i64 (Pl.pPos s.data.toList l i), .string ⟨(Pl.pHop s.data.toList l i).toArray⟩] from rfl]
              go_wp2
              go_roundw
              case rel => exact ⟨l, i, l, r', (hs' ++ [(hp.data.toList, Pl.domain)]), nm, kd, rfl, rfl, by rw [unhide HBP], rfl, rfl, HNM, HKD, unhide HNEXT, unhide M3⟩
              case measure => simp [intOf]; omega
            · obtain ⟨i, rfl, hi1, hi2, hnext⟩ := unhide KP P1 P2 (.inl rfl)
              have HNEXT := hide hnext
              have HMEM := hide hmem
              clear hnext hmem KP KB KE
              go_wp2_with (first | (at_builtin; refine wpList_append_own _ rfl (.tmp 62) (.tmp 65) 28 rfl (w1.heap.size + 1) 33 i0 (.agg #[.string ⟨#[]⟩, .string ⟨#[]⟩]) 2 32 Try.underlying28 hi hz0 hz1 hz2 rfl (by decide) _ _ _ rfl (World.ownsRow.alloc (unhide HMEM).2.2.1 _) ⟨_, 0, none⟩ 1 1 [.string hp, .string ⟨#[100, 111, 109, 97, 105, 110]⟩] rfl rfl (cell_two_new _ _ _ _) (by intro u hu; simp at hu; rcases hu with rfl | rfl <;> rfl) (by unfold maxLen; omega) (by omega) (by have := (unhide HMEM).lt; simp; omega) ?_))
              intro v' w3 hown3 hg3 _
              have M3 := hide ((unhide HMEM).append hown3 hg3)
              clear hown3 hg3
              go_wp2_with fail
              refine (pct_any s l i _ _ _ rfl rfl (by omega) (by omega) hs).mono ?_
              rintro e w' ⟨rfl, rfl⟩
              rw [show pctVal s l i = .tuple #[.int .i64 (Pl.pPos s.data.toList l i), .string ⟨(Pl.pHop s.data.toList l i).toArray⟩] from rfl]
              go_wp2
              go_roundw
              case rel => exact ⟨l, i, l, r', (hs' ++ [(hp.data.toList, Pl.domain)]), nm, kd, rfl, rfl, by rw [unhide HBP], rfl, rfl, HNM, HKD, unhide HNEXT, unhide M3⟩
              case measure => simp [intOf]; omega
          · obtain ⟨i, rfl, hi1, hi2, hnext⟩ := unhide KP P1 P2 (.inl rfl)
            have HNEXT := hide hnext
            have HMEM := hide hmem
            clear hnext hmem KP KB KE
            go_wp2_with (first | (at_builtin; refine wpList_append_own _ rfl (.tmp 62) (.tmp 65) 28 rfl (w1.heap.size + 1) 33 i0 (.agg #[.string ⟨#[]⟩, .string ⟨#[]⟩]) 2 32 Try.underlying28 hi hz0 hz1 hz2 rfl (by decide) _ _ _ rfl (World.ownsRow.alloc (unhide HMEM).2.2.1 _) ⟨_, 0, none⟩ 1 1 [.string hp, .string ⟨#[100, 111, 109, 97, 105, 110]⟩] rfl rfl (cell_two_new _ _ _ _) (by intro u hu; simp at hu; rcases hu with rfl | rfl <;> rfl) (by unfold maxLen; omega) (by omega) (by have := (unhide HMEM).lt; simp; omega) ?_))
            intro v' w3 hown3 hg3 _
            have M3 := hide ((unhide HMEM).append hown3 hg3)
            clear hown3 hg3
            go_wp2_with fail
            refine (pct_any s l i _ _ _ rfl rfl (by omega) (by omega) hs).mono ?_
            rintro e w' ⟨rfl, rfl⟩
            rw [show pctVal s l i = .tuple #[.int .i64 (Pl.pPos s.data.toList l i), .string ⟨(Pl.pHop s.data.toList l i).toArray⟩] from rfl]
            go_wp2
            go_roundw
            case rel => exact ⟨l, i, l, r', (hs' ++ [(hp.data.toList, Pl.domain)]), nm, kd, rfl, rfl, by rw [unhide HBP], rfl, rfl, HNM, HKD, unhide HNEXT, unhide M3⟩
            case measure => simp [intOf]; omega
      · cases N1 : nm.toList.isEmpty
        · by_cases B2 : bp + 1 < (r : Int)
          · obtain ⟨i, rfl, hi1, hi2, hnext⟩ := unhide KB N1 B2 (.inr (.inr P2))
            have HNEXT := hide hnext
            have HMEM := hide hmem
            have c1 := (unhide HMEM).cell1
            clear hnext hmem KP KB KE
            go_wp2_with (first | (at_builtin; refine wpList_append_own _ rfl (.tmp 77) (.tmp 79) 28 rfl (w1.heap.size + 1) 33 i0 (.agg #[.string ⟨#[]⟩, .string ⟨#[]⟩]) 2 32 Try.underlying28 hi hz0 hz1 hz2 rfl (by decide) _ _ _ rfl (World.ownsRow.alloc (unhide HMEM).2.2.1 _) ⟨_, 0, none⟩ 1 1 [.string nm, .string kd] rfl rfl (cell_two_new _ _ _ _) (by intro u hu; simp at hu; rcases hu with rfl | rfl <;> rfl) (by unfold maxLen; omega) (by omega) (by have := (unhide HMEM).lt; simp; omega) ?_))
            intro v' w3 hown3 hg3 _
            have M3 := hide ((unhide HMEM).append hown3 hg3)
            clear hown3 hg3 c0 c1
            go_wp2_with fail
            refine (bang_any s (i + 1) r _ _ _ (by omega) rfl (by omega) (by omega) hs).mono ?_
            rintro e w4 ⟨rfl, hb4⟩
            rw [show bangVal s (i + 1) r = .tuple #[.int .i64 (Pl.bPos s.data.toList (i + 1) r), .agg #[.string ⟨(Pl.bName s.data.toList (i + 1) r).toArray⟩, .string ⟨(Pl.bKind s.data.toList (i + 1) r).toArray⟩]] from rfl]
            generalize hnm2 : (⟨(Pl.bName s.data.toList (i + 1) r).toArray⟩ : ByteArray) = nm2
            generalize hkd2 : (⟨(Pl.bKind s.data.toList (i + 1) r).toArray⟩ : ByteArray) = kd2
            have HNM2 := hide hnm2.symm
            have HKD2 := hide hkd2.symm
            clear hnm2 hkd2
            have M4 := hide ((unhide M3).below hb4)
            have d0 := (unhide M4).cell0
            have d1 := (unhide M4).cell1
            have f0 := (unhide M4).frozen 0
            have f1 := (unhide M4).frozen 1
            have z4 := (unhide M4).lt
            have M5 := hide ((unhide M4).store nm2 kd2)
            clear hb4
            go_wp2
            go_roundw
            case rel => exact ⟨i + 1, r, l', r, _, nm2, kd2, by go_num, rfl, rfl, by rw [unhide HPP], by rw [unhide HHP], HNM2, HKD2, unhide HNEXT, unhide M5⟩
            case measure => simp [intOf]; omega
          · have hE := unhide KE (.inr B2) (.inr P2)
            have HMEM := hide hmem
            clear hmem KP KB KE
            subst hE
            go_wp2
            go_region
            all_goals (try go_wp2)
            all_goals go_ret2
            all_goals exact ⟨u2, rfl, ownsRow_mono (World.ownsRow.drew (unhide HMEM).2.2.1) (by have := (unhide HMEM).1; omega), (unhide HMEM).2.2.2.drew⟩
        · have hE := unhide KE (.inl N1) (.inr P2)
          have HMEM := hide hmem
          clear hmem KP KB KE
          subst hE
          go_wp2
          go_region
          all_goals (try go_wp2)
          all_goals go_ret2
          all_goals exact ⟨u2, rfl, ownsRow_mono (World.ownsRow.drew (unhide HMEM).2.2.1) (by have := (unhide HMEM).1; omega), (unhide HMEM).2.2.2.drew⟩
    · cases N1 : nm.toList.isEmpty
      · by_cases B2 : bp + 1 < (r : Int)
        · obtain ⟨i, rfl, hi1, hi2, hnext⟩ := unhide KB N1 B2 (.inr (.inl P1))
          have HNEXT := hide hnext
          have HMEM := hide hmem
          have c1 := (unhide HMEM).cell1
          clear hnext hmem KP KB KE
          go_wp2_with (first | (at_builtin; refine wpList_append_own _ rfl (.tmp 77) (.tmp 79) 28 rfl (w1.heap.size + 1) 33 i0 (.agg #[.string ⟨#[]⟩, .string ⟨#[]⟩]) 2 32 Try.underlying28 hi hz0 hz1 hz2 rfl (by decide) _ _ _ rfl (World.ownsRow.alloc (unhide HMEM).2.2.1 _) ⟨_, 0, none⟩ 1 1 [.string nm, .string kd] rfl rfl (cell_two_new _ _ _ _) (by intro u hu; simp at hu; rcases hu with rfl | rfl <;> rfl) (by unfold maxLen; omega) (by omega) (by have := (unhide HMEM).lt; simp; omega) ?_))
          intro v' w3 hown3 hg3 _
          have M3 := hide ((unhide HMEM).append hown3 hg3)
          clear hown3 hg3 c0 c1
          go_wp2_with fail
          refine (bang_any s (i + 1) r _ _ _ (by omega) rfl (by omega) (by omega) hs).mono ?_
          rintro e w4 ⟨rfl, hb4⟩
          rw [show bangVal s (i + 1) r = .tuple #[.int .i64 (Pl.bPos s.data.toList (i + 1) r), .agg #[.string ⟨(Pl.bName s.data.toList (i + 1) r).toArray⟩, .string ⟨(Pl.bKind s.data.toList (i + 1) r).toArray⟩]] from rfl]
          generalize hnm2 : (⟨(Pl.bName s.data.toList (i + 1) r).toArray⟩ : ByteArray) = nm2
          generalize hkd2 : (⟨(Pl.bKind s.data.toList (i + 1) r).toArray⟩ : ByteArray) = kd2
          have HNM2 := hide hnm2.symm
          have HKD2 := hide hkd2.symm
          clear hnm2 hkd2
          have M4 := hide ((unhide M3).below hb4)
          have d0 := (unhide M4).cell0
          have d1 := (unhide M4).cell1
          have f0 := (unhide M4).frozen 0
          have f1 := (unhide M4).frozen 1
          have z4 := (unhide M4).lt
          have M5 := hide ((unhide M4).store nm2 kd2)
          clear hb4
          go_wp2
          go_roundw
          case rel => exact ⟨i + 1, r, l', r, _, nm2, kd2, by go_num, rfl, rfl, by rw [unhide HPP], by rw [unhide HHP], HNM2, HKD2, unhide HNEXT, unhide M5⟩
          case measure => simp [intOf]; omega
        · have hE := unhide KE (.inr B2) (.inl P1)
          have HMEM := hide hmem
          clear hmem KP KB KE
          subst hE
          go_wp2
          go_region
          all_goals (try go_wp2)
          all_goals go_ret2
          all_goals exact ⟨u2, rfl, ownsRow_mono (World.ownsRow.drew (unhide HMEM).2.2.1) (by have := (unhide HMEM).1; omega), (unhide HMEM).2.2.2.drew⟩
      · have hE := unhide KE (.inl N1) (.inl P1)
        have HMEM := hide hmem
        clear hmem KP KB KE
        subst hE
        go_wp2
        go_region
        all_goals (try go_wp2)
        all_goals go_ret2
        all_goals exact ⟨u2, rfl, ownsRow_mono (World.ownsRow.drew (unhide HMEM).2.2.1) (by have := (unhide HMEM).1; omega), (unhide HMEM).2.2.2.drew⟩

set_option maxHeartbeats 400000 in
/-- ZZreadLocalPart -/
theorem zzRead_any (s : ByteArray) (pf : Bool) (f : Nat) (res : List Hop × Nat × Nat) (w : World) (hs : s.size ≤ 2097152)
    (hf : Pl.rlF s.data.toList pf f 0 s.size 0 s.size [] = some res) :
    Calls Try.prog 12 #[.string s, .bool pf, .slice none 0 0] w fun e w' => EndR w s res e w' := by
  have hC := hide (rlp_any s pf f res w hs hf)
  clear hf
  go_enter Try.func12, Try.ntmps12
  go_wp2_with fail
  refine (unhide hC).mono ?_
  rintro e w' ⟨v, rfl, hown, hb⟩
  have HO := hide hown
  clear hown
  go_wp2
  go_ret2
  exact ⟨v, rfl, unhide HO, hb⟩

end Go.Proofs.Qxb6001516a
