/-
  THE WALK of FnReadLocalPartLeavesNoStep.
-/
import Derived.Test.Qxb6001516aRL3
import Derived.Test.Qxb6001516aNoStepP
namespace Go.Proofs.Qxb6001516a
open Go.RowKit
set_option linter.unusedVariables false

set_option maxHeartbeats 400000 in
/-- zzBytes_FnReadLocalPartLeavesNoStep -/
theorem bytes14_any (s : ByteArray) (pf : Bool) (w : World) (hs : s.size ≤ maxLen) :
    Calls Try.prog 14 #[.string s, .bool pf] w fun e w' => e = .returned (.bool (decide (s.size ≤ 1048576))) ∧ w' = w := by
  unfold maxLen at hs
  by_cases h1 : s.size ≤ 1048576
  all_goals
    go_enter Try.func14, Try.ntmps14
    go_wp2
    go_ret
    exact ⟨by simp [h1], rfl⟩

theorem hopCells_at0 : ∀ (hs : List Hop) (k : Nat) (h : k < hs.length), (hopCells hs)[2 * k]? = some (.string ⟨hs[k].1.toArray⟩)
  | h0 :: hs, 0, _ => by simp [hopCells]
  | h0 :: hs, k + 1, h => by
    have ih := hopCells_at0 hs k (by simpa using h)
    have e : hopCells (h0 :: hs) = .string ⟨h0.1.toArray⟩ :: .string ⟨h0.2.toArray⟩ :: hopCells hs := by simp [hopCells]
    rw [e, show 2 * (k + 1) = 2 * k + 1 + 1 by omega]
    simpa using ih
theorem hopCells_at1 : ∀ (hs : List Hop) (k : Nat) (h : k < hs.length), (hopCells hs)[2 * k + 1]? = some (.string ⟨hs[k].2.toArray⟩)
  | h0 :: hs, 0, _ => by simp [hopCells]
  | h0 :: hs, k + 1, h => by
    have ih := hopCells_at1 hs k (by simpa using h)
    have e : hopCells (h0 :: hs) = .string ⟨h0.1.toArray⟩ :: .string ⟨h0.2.toArray⟩ :: hopCells hs := by simp [hopCells]
    rw [e, show 2 * (k + 1) + 1 = 2 * k + 1 + 1 + 1 by omega]
    simpa using ih

/-- the slice v that readLocalPart has made. -/
def HopsAt (w : World) (v : Value) (hs : List Hop) : Prop :=
  (v = .slice none 0 0 ∧ hs = []) ∨ ∃ g cap, v = .slice (some ⟨g, 0, none⟩) hs.length cap ∧ g < w.heap.size ∧ ∀ k (h : k < hs.length), w.cell? ⟨g, k * 2, none⟩ = some (.string ⟨hs[k].1.toArray⟩) ∧ w.cell? ⟨g, k * 2 + 1, none⟩ = some (.string ⟨hs[k].2.toArray⟩)

theorem hopsAt_of {w : World} {B : Nat} {v : Value} {hs : List Hop} (h : w.ownsRow B 33 2 v hs.length (hopCells hs)) : HopsAt w v hs := by
  rcases h.2 with ⟨h1, h2⟩ | ⟨g, cap, cur, rfl, h2, h3, _⟩
  · exact .inl ⟨h1, List.length_eq_zero_iff.1 h2⟩
  · refine .inr ⟨g, cap, rfl, ?_, fun k hk => ⟨?_, ?_⟩⟩
    · by_cases hh : g < w.heap.size
      · exact hh
      · rw [Array.getElem?_eq_none (by omega)] at h3; simp at h3
    · rw [World.ownsRow.cellAt h (k * 2) (by omega), Nat.mul_comm k 2, hopCells_at0 hs k hk]
    · rw [World.ownsRow.cellAt h (k * 2 + 1) (by omega), Nat.mul_comm k 2, hopCells_at1 hs k hk]

theorem HopsAt.below {w w' : World} {v : Value} {hs : List Hop} (h : HopsAt w v hs) (hb : Below w.heap.size w w') : HopsAt w' v hs := by
  rcases h with h | ⟨g, cap, h1, h2, h3⟩
  · exact .inl h
  · exact .inr ⟨g, cap, h1, Nat.lt_of_lt_of_le h2 hb.size, fun k hk => ⟨(hb.cell (p := ⟨g, k * 2, none⟩) h2).trans (h3 k hk).1, (hb.cell (p := ⟨g, k * 2 + 1, none⟩) h2).trans (h3 k hk).2⟩⟩

/-- it is a slice of so many hops. -/
theorem HopsAt.shape {w : World} {v : Value} {hs : List Hop} (h : HopsAt w v hs) : ∃ a cap, v = .slice a hs.length cap ∧ (hs.length ≠ 0 → ∃ g, a = some ⟨g, 0, none⟩ ∧ ∀ k (h : k < hs.length), w.cell? ⟨g, k * 2, none⟩ = some (.string ⟨hs[k].1.toArray⟩) ∧ w.cell? ⟨g, k * 2 + 1, none⟩ = some (.string ⟨hs[k].2.toArray⟩)) := by
  rcases h with ⟨rfl, rfl⟩ | ⟨g, cap, h1, h2, h3⟩
  · exact ⟨none, 0, rfl, fun h => absurd rfl h⟩
  · exact ⟨some ⟨g, 0, none⟩, cap, h1, fun _ => ⟨g, rfl, h3⟩⟩

def totTo (hs : List Hop) (k : Nat) : Nat := Pl.tot (hs.take k)
theorem totTo_succ (hs : List Hop) (k : Nat) (h : k < hs.length) : totTo hs (k + 1) = totTo hs k + (hs[k].1.length + 1) := by
  unfold totTo
  rw [List.take_succ_eq_append_getElem h, Pl.tot_snoc]
theorem tot_ge : ∀ hs : List Hop, hs.length ≤ Pl.tot hs
  | [] => by simp [Pl.tot]
  | h :: hs => by
    have := tot_ge hs
    simp only [Pl.tot, List.map_cons, List.sum_cons, List.length_cons] at *
    omega
theorem tot_take : ∀ (hs : List Hop) (k : Nat), Pl.tot (hs.take k) ≤ Pl.tot hs
  | [], k => by simp [Pl.tot]
  | h :: hs, 0 => by simp [Pl.tot]
  | h :: hs, k + 1 => by
    have := tot_take hs k
    simp only [Pl.tot, List.take_succ_cons, List.map_cons, List.sum_cons] at *
    omega
theorem totTo_le (hs : List Hop) (k : Nat) : totTo hs k ≤ Pl.tot hs := tot_take hs k
theorem totTo_all (hs : List Hop) : totTo hs hs.length = Pl.tot hs := by simp [totTo]

set_option maxHeartbeats 400000 in
theorem noStep_big (s : ByteArray) (pf : Bool) (w : World) (w0 : s.size ≤ maxLen) (hbig : 1048576 < s.size) :
    Calls Try.prog 5 #[.string s, .bool pf] w fun e w' => e = .returned (.bool true) ∧ Below w.heap.size w w' := by
  have hd : decide (s.size ≤ 1048576) = false := by simp; omega
  go_enter Try.func5, Try.ntmps5
  go_wp2_with (go_at_call 14; refine (bytes14_any _ _ _ w0).mono ?_; rintro e w' ⟨rfl, rfl⟩; rw [hd])
  go_ret
  exact ⟨rfl, Below.refl _ _⟩

theorem ext_all (x : ByteArray) : x.extract 0 x.size = x := by
  rw [Lib.extract_eq, List.drop_zero, Nat.sub_zero, List.take_of_length_le (by rw [← Lib.size_eq]; exact Nat.le_refl _), Lib.mk_data]

set_option maxHeartbeats 2000000 in
theorem noStep_small (s : ByteArray) (pf : Bool) (w : World) (hsm : s.size ≤ 1048576) :
    Calls Try.prog 5 #[.string s, .bool pf] w fun e w' => e = .returned (.bool true) ∧ Below w.heap.size w w' := by
  have w0 : s.size ≤ maxLen := by unfold maxLen; omega
  have hd : decide (s.size ≤ 1048576) = true := by simp; omega
  obtain ⟨f, ⟨hs, l, r⟩, hf, hdone⟩ := Pl.rl_whole s.data.toList pf
  rw [← Lib.size_eq] at hf
  have hagain := Pl.rl_again s.data.toList pf (hs, l, r) hdone
  simp only [] at hagain
  rw [← seg_extract, ← Lib.size_eq] at hagain
  obtain ⟨l', r', d1, d2, d3, d4, _, hbk, _, _⟩ := hdone
  simp only [] at d1 d2 d3 hbk
  rw [← Lib.size_eq] at d4
  obtain ⟨k1, k2, k3⟩ := hbk
  rw [← Lib.size_eq] at k1 k2
  have hxs : (s.extract l r).size = r - l := by rw [ByteArray.size_extract]; omega
  have HF := hide hf
  have HAG := hide hagain
  have HK3 := hide k3
  clear hf hagain k3
  go_enter Try.func5, Try.ntmps5
  go_wp2_with (go_at_call 14; refine (bytes14_any _ _ _ w0).mono ?_; rintro e w' ⟨rfl, rfl⟩; rw [hd])
  refine (zzRead_any s pf f _ _ (by omega) (unhide HF)).mono ?_
  rintro e w1 ⟨v, rfl, hown1, hb1⟩
  have HO1 := hide (hopsAt_of hown1)
  clear hown1
  simp only []
  go_wp2_with fail
  refine (zzRead_any (s.extract l r) pf 1 _ _ (by omega) (unhide HAG)).mono ?_
  rintro e w2 ⟨v2, rfl, hown2, hb2⟩
  have HO1' := hide ((unhide HO1).below hb2)
  have HO2 := hide (hopsAt_of hown2)
  clear hown2
  obtain ⟨a2, cap2, rfl, _⟩ := (unhide HO2).shape
  obtain ⟨a1, cap1, rfl, hc1⟩ := (unhide HO1').shape
  have HC1 := hide hc1
  clear hc1 HO1 HO1' HO2
  simp only [ext_all, List.length_nil]
  have hb2' := hb1.trans (hb2.mono hb1.size)
  clear HF HAG hb1 hb2
  generalize s.extract l r = T at hxs ⊢
  have hT1 : T.size ≤ r - l := by omega
  have HXS := hide hxs
  have hn : hs.length ≤ 1048576 := by
    have : hs.length ≤ Pl.tot hs := tot_ge hs
    omega
  clear hxs
  go_wp2
  go_loop [9, 10] (fun u i => ∃ k : Nat, k ≤ hs.length ∧ i = .int .i64 k ∧ u = .int .i64 ((T.size + totTo hs k : Nat) : Int)) (fun _ i => hs.length - (intOf i).toNat)
  case atStart => exact ⟨0, Nat.zero_le _, rfl, by simp [totTo, Pl.tot]⟩
  case round =>
    obtain ⟨k, hk, rfl, rfl⟩ := hrel
    have htk : totTo hs k ≤ Pl.tot hs := totTo_le hs k
    by_cases hlt : k < hs.length
    · obtain ⟨g, rfl, hc⟩ := unhide HC1 (by omega)
      have hck := (hc k hlt).1
      clear hc
      have HS := hide (totTo_succ hs k hlt)
      have hts : totTo hs (k + 1) ≤ Pl.tot hs := totTo_le hs (k + 1)
      have hne : hs[k].1 ≠ [] := unhide HK3 hs[k] (List.getElem_mem hlt)
      generalize hnm : (⟨hs[k].1.toArray⟩ : ByteArray) = nm at hck
      have hnl : nm.size = hs[k].1.length := by rw [← hnm, size_of_list]
      have hpos : 0 < hs[k].1.length := List.length_pos_iff.2 hne
      have HS2 := hide (show totTo hs (k + 1) = totTo hs k + (nm.size + 1) by rw [hnl]; exact unhide HS)
      have q0 : (((nm.size : Nat) : Int) == 0) = false := beq_eq_false_iff_ne.2 (by omega)
      have hnb : nm.size ≤ 1048576 := by have := unhide HS2; omega
      clear hne hnl hnm hpos hts HS
      go_wp2
      go_round
      case rel => exact ⟨k + 1, by omega, by go_num, by rw [unhide HS2]; go_num⟩
      case measure => simp [intOf]; omega
    · obtain rfl : k = hs.length := by omega
      have t1 : T.size + totTo hs hs.length ≤ s.size := by rw [totTo_all]; have := unhide HXS; omega
      have t2 : s.size ≤ T.size + totTo hs hs.length + hs.length := by rw [totTo_all]; have := unhide HXS; omega
      clear htk
      go_wp2
      go_ret
      exact ⟨ret_bool (by simp; omega), hb2'⟩

end Go.Proofs.Qxb6001516a
