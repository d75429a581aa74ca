/-
  WALKS of seat b6001400a, two: zzUpperModel, zzLowerModel.
-/
import Derived.Test.Qxb6001400aW1
import Derived.Laws.IdiomStrings
namespace Go.Proofs.Qxb6001400a
open Go.RowKit
set_option linter.unusedVariables false

theorem Try.info5 : (Try.prog.info? 5).map (fun i => (i.zero, i.size, i.bytes)) = some (some (.int .u8 0), 1, 1) := by kernel_rfl

/-- bytes as cells -/
def bc (l : List UInt8) : List Value := l.map fun b => Value.int .u8 (b.toNat : Int)

/-- what the round has made so far: the first k bytes mapped, zeros behind them. -/
def part (f : UInt8 → UInt8) (s : List UInt8) (k : Nat) : List UInt8 := (s.take k).map f ++ List.replicate (s.length - k) 0

theorem part_zero (f : UInt8 → UInt8) (s : List UInt8) : part f s 0 = List.replicate s.length 0 := by simp [part]
theorem part_all (f : UInt8 → UInt8) (s : List UInt8) : part f s s.length = s.map f := by simp [part]
theorem part_len (f : UInt8 → UInt8) (s : List UInt8) (k : Nat) (h : k ≤ s.length) : (part f s k).length = s.length := by simp [part]; omega
theorem part_step (f : UInt8 → UInt8) (s : List UInt8) (k : Nat) (h : k < s.length) : (part f s k).set k (f s[k]) = part f s (k + 1) := by
  unfold part
  have e : s.length - k = (s.length - (k + 1)) + 1 := by omega
  rw [List.take_succ_eq_append_getElem h, e, List.replicate_succ, List.map_append, List.append_assoc, List.set_append_right _ _ (by simp; omega)]
  have : k - (List.map f (List.take k s)).length = 0 := by simp; omega
  rw [this]
  simp

theorem bc_set (l : List UInt8) (k : Nat) (b : UInt8) : (bc l).set k (.int .u8 (b.toNat : Int)) = bc (l.set k b) := by
  simp [bc, List.map_set]

theorem data_at (s : ByteArray) (k : Nat) (h : k < s.size) : s.data.toList[k]'(by simpa using h) = s[k] := rfl

/-- one store of the round. -/
theorem row_step {w wr : World} (f : UInt8 → UInt8) (s : ByteArray) (k : Nat) (hlt : k < s.size)
    (hown : wr.ownsRow w.heap.size 5 1 (.slice (some ⟨w.heap.size, 0, none⟩) s.size s.size) s.size (bc (part f s.data.toList k))) (hb : Below w.heap.size w wr) (v : Int) (hv : v = ((f s[k]).toNat : Int)) :
    (wr.setCell ⟨w.heap.size, k, none⟩ (.int .u8 v)).ownsRow w.heap.size 5 1 (.slice (some ⟨w.heap.size, 0, none⟩) s.size s.size) s.size (bc (part f s.data.toList (k + 1))) ∧
    Below w.heap.size w (wr.setCell ⟨w.heap.size, k, none⟩ (.int .u8 v)) := by
  subst hv
  refine ⟨?_, hb.setCell (Nat.le_refl _) _⟩
  have h := (hown.stored k (.int .u8 ((f s[k]).toNat : Int))).1
  rw [bc_set] at h
  have e : s[k] = s.data.toList[k]'(by simpa using hlt) := rfl
  rw [e, part_step f s.data.toList k (by simpa using hlt)] at h
  exact h

/-- the cell that the round writes. -/
theorem row_cell {w wr : World} (f : UInt8 → UInt8) (s : ByteArray) (k : Nat) (hlt : k < s.size)
    (hown : wr.ownsRow w.heap.size 5 1 (.slice (some ⟨w.heap.size, 0, none⟩) s.size s.size) s.size (bc (part f s.data.toList k))) :
    (∃ v0, wr.cell? ⟨w.heap.size, k, none⟩ = some v0) ∧ wr.frozen? ⟨w.heap.size, k, none⟩ = false := by
  have hl : s.data.toList.length = s.size := (Lib.size_eq s).symm
  have hcell := hown.cellAt k (by omega)
  refine ⟨?_, hown.frozenAt k⟩
  rw [hcell]
  exact ⟨_, List.getElem?_eq_getElem (by simp only [bc, List.length_map]; rw [part_len _ _ _ (by omega)]; omega)⟩

/-- the whole row as a string. -/
theorem row_back {w wr : World} (f : UInt8 → UInt8) (s : ByteArray)
    (hown : wr.ownsRow w.heap.size 5 1 (.slice (some ⟨w.heap.size, 0, none⟩) s.size s.size) s.size (bc (part f s.data.toList s.size))) :
    (convert 27 9 (.slice (some ⟨w.heap.size, 0, none⟩) s.size s.size)).run Try.prog wr = .ok (.string ⟨(s.data.toList.map f).toArray⟩) wr := by
  have hl : s.data.toList.length = s.size := (Lib.size_eq s).symm
  rw [← hl, part_all, hl] at hown
  have hlm : (s.data.toList.map f).length = s.size := by rw [List.length_map, hl]
  have h := run_convert_bytes_back (P := Try.prog) wr 27 9 5 ⟨w.heap.size, 0, none⟩ s.size (s.data.toList.map f) Try.underlying27 Try.underlying5 Try.underlying9 (by
    intro j hj
    have hc := hown.cellAt j (by omega)
    have ha : (⟨w.heap.size, 0, none⟩ : Addr).add j = ⟨w.heap.size, j, none⟩ := by unfold Addr.add; split <;> simp_all
    rw [ha, hc, bc, List.getElem?_map, List.getElem?_eq_getElem hj]
    rfl)
  rw [hlm] at h
  exact h

theorem uppB_no (c : UInt8) (h : isLo c = false) : (c.toNat : Int) = ((Pl.uppB c).toNat : Int) := by
  unfold Pl.uppB
  rw [if_neg]
  intro ⟨a, b⟩
  simp [isLo, a, b] at h
theorem uppB_yes (c : UInt8) (h : isLo c = true) : 97 ≤ c.toNat ∧ c.toNat ≤ 122 ∧ (c.toNat : Int) - 32 = ((Pl.uppB c).toNat : Int) := by
  simp [isLo] at h
  refine ⟨h.1, h.2, ?_⟩
  unfold Pl.uppB
  rw [if_pos h, UInt8.toNat_sub_of_le _ _ (by rw [UInt8.le_iff_toNat_le]; simp; omega)]
  simp
  omega
theorem lowB_no (c : UInt8) (h : isUp c = false) : (c.toNat : Int) = ((Pl.lowB c).toNat : Int) := by
  unfold Pl.lowB
  rw [if_neg]
  intro ⟨a, b⟩
  simp [isUp, a, b] at h
theorem lowB_yes (c : UInt8) (h : isUp c = true) : 65 ≤ c.toNat ∧ c.toNat ≤ 90 ∧ (c.toNat : Int) + 32 = ((Pl.lowB c).toNat : Int) := by
  simp [isUp] at h
  refine ⟨h.1, h.2, ?_⟩
  unfold Pl.lowB
  rw [if_pos h, UInt8.toNat_add]
  simp
  omega

set_option maxHeartbeats 400000 in
/-- zzUpperModel -/
theorem upper_any (s : ByteArray) (w : World) (hs : s.size ≤ 1048576) :
    Calls Try.prog 20 #[.string s] w fun e w' => e = .returned (.string ⟨(s.data.toList.map Pl.uppB).toArray⟩) ∧ Below w.heap.size w w' := by
  obtain ⟨i0, hi, hz0, hz1, hz2⟩ := info_parts Try.info5
  go_enter Try.func20, Try.ntmps20
  go_wp2_with (first | (at_make; refine wpList_make_full _ rfl _ _ 27 rfl w.heap.size 5 i0 (.int .u8 0) 1 Try.underlying27 hi hz0 hz1 _ _ _ _ s.size rfl rfl rfl rfl ?c1 ?c2 ?c3 ?_))
  case c1 => rw [hz2]; omega
  case c2 => unfold maxLen; omega
  case c3 => exact Nat.le_refl _
  intro w1 hown0 hgrow0
  have hl : s.data.toList.length = s.size := (Lib.size_eq s).symm
  have hb0 : Below w.heap.size w w1 := (Below.refl _ w).grown hgrow0 (Nat.le_refl _) (by intro k hk; cases hk)
  have hown : w1.ownsRow w.heap.size 5 1 (.slice (some ⟨w.heap.size, 0, none⟩) s.size s.size) s.size (bc (part Pl.uppB s.data.toList 0)) := by
    rw [part_zero]
    have e : (madeCells #[Value.int IntKind.u8 0] s.size).toList = bc (List.replicate s.data.toList.length 0) := by
      rw [toList_madeCells_one, bc, List.map_replicate, hl]; rfl
    rw [← e]; exact hown0
  clear hown0 hgrow0 hl
  go_wp2
  go_loopw [4] (fun i wr => ∃ k : Nat, k ≤ s.size ∧ i = .int .i64 k ∧ wr.ownsRow w.heap.size 5 1 (.slice (some ⟨w.heap.size, 0, none⟩) s.size s.size) s.size (bc (part Pl.uppB s.data.toList k)) ∧ Below w.heap.size w wr) (fun i _ => s.size - (intOf i).toNat)
  case atStart => exact ⟨0, Nat.zero_le _, rfl, hown, hb0⟩
  case round =>
    clear hown hb0
    obtain ⟨k, hk, rfl, hown, hb⟩ := hrel
    by_cases hlt : k < s.size
    · obtain ⟨⟨v0, hcell⟩, hfr⟩ := row_cell _ s k hlt hown
      cases hlo : isLo s[k]
      · have R := row_step Pl.uppB s k hlt hown hb _ (uppB_no _ hlo)
        go_wp2_with (go_at_call 16; refine (isLower_any _ _).mono ?_; rintro e w' ⟨rfl, rfl⟩; rw [hlo])
        go_roundw
        case rel => exact ⟨k + 1, by omega, by go_num, R.1, R.2⟩
        case measure => simp [intOf]; omega
      · obtain ⟨b1, b2, b3⟩ := uppB_yes _ hlo
        have R := row_step Pl.uppB s k hlt hown hb _ b3
        clear b3
        go_wp2_with (go_at_call 16; refine (isLower_any _ _).mono ?_; rintro e w' ⟨rfl, rfl⟩; rw [hlo])
        go_roundw
        case rel => exact ⟨k + 1, by omega, by go_num, R.1, R.2⟩
        case measure => simp [intOf]; omega
    · obtain rfl : k = s.size := by omega
      have hback := row_back _ s hown
      go_wp2
      go_ret
      exact ⟨rfl, hb⟩

set_option maxHeartbeats 400000 in
/-- zzLowerModel -/
theorem lower_any (s : ByteArray) (w : World) (hs : s.size ≤ 1048576) :
    Calls Try.prog 27 #[.string s] w fun e w' => e = .returned (.string ⟨(s.data.toList.map Pl.lowB).toArray⟩) ∧ Below w.heap.size w w' := by
  obtain ⟨i0, hi, hz0, hz1, hz2⟩ := info_parts Try.info5
  go_enter Try.func27, Try.ntmps27
  go_wp2_with (first | (at_make; refine wpList_make_full _ rfl _ _ 27 rfl w.heap.size 5 i0 (.int .u8 0) 1 Try.underlying27 hi hz0 hz1 _ _ _ _ s.size rfl rfl rfl rfl ?c1 ?c2 ?c3 ?_))
  case c1 => rw [hz2]; omega
  case c2 => unfold maxLen; omega
  case c3 => exact Nat.le_refl _
  intro w1 hown0 hgrow0
  have hl : s.data.toList.length = s.size := (Lib.size_eq s).symm
  have hb0 : Below w.heap.size w w1 := (Below.refl _ w).grown hgrow0 (Nat.le_refl _) (by intro k hk; cases hk)
  have hown : w1.ownsRow w.heap.size 5 1 (.slice (some ⟨w.heap.size, 0, none⟩) s.size s.size) s.size (bc (part Pl.lowB s.data.toList 0)) := by
    rw [part_zero]
    have e : (madeCells #[Value.int IntKind.u8 0] s.size).toList = bc (List.replicate s.data.toList.length 0) := by
      rw [toList_madeCells_one, bc, List.map_replicate, hl]; rfl
    rw [← e]; exact hown0
  clear hown0 hgrow0 hl
  go_wp2
  go_loopw [4] (fun i wr => ∃ k : Nat, k ≤ s.size ∧ i = .int .i64 k ∧ wr.ownsRow w.heap.size 5 1 (.slice (some ⟨w.heap.size, 0, none⟩) s.size s.size) s.size (bc (part Pl.lowB s.data.toList k)) ∧ Below w.heap.size w wr) (fun i _ => s.size - (intOf i).toNat)
  case atStart => exact ⟨0, Nat.zero_le _, rfl, hown, hb0⟩
  case round =>
    clear hown hb0
    obtain ⟨k, hk, rfl, hown, hb⟩ := hrel
    by_cases hlt : k < s.size
    · obtain ⟨⟨v0, hcell⟩, hfr⟩ := row_cell _ s k hlt hown
      cases hlo : isUp s[k]
      · have R := row_step Pl.lowB s k hlt hown hb _ (lowB_no _ hlo)
        go_wp2_with (go_at_call 14; refine (isUpper_any _ _).mono ?_; rintro e w' ⟨rfl, rfl⟩; rw [hlo])
        go_roundw
        case rel => exact ⟨k + 1, by omega, by go_num, R.1, R.2⟩
        case measure => simp [intOf]; omega
      · obtain ⟨b1, b2, b3⟩ := lowB_yes _ hlo
        have R := row_step Pl.lowB s k hlt hown hb _ b3
        clear b3
        go_wp2_with (go_at_call 14; refine (isUpper_any _ _).mono ?_; rintro e w' ⟨rfl, rfl⟩; rw [hlo])
        go_roundw
        case rel => exact ⟨k + 1, by omega, by go_num, R.1, R.2⟩
        case measure => simp [intOf]; omega
    · obtain rfl : k = s.size := by omega
      have hback := row_back _ s hown
      go_wp2
      go_ret
      exact ⟨rfl, hb⟩

end Go.Proofs.Qxb6001400a
