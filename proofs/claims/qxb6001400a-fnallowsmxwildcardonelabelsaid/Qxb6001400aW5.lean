/-
  WALKS of seat b6001400a, five: the library's callees; mtasts.lowerASCII, ZZLowerASCII.
-/
import Derived.Test.Qxb6001400aW4
import Derived.Test.Qxb6001400aIdx
import Derived.Test.Qxb6001400aShelf
namespace Go.Proofs.Qxb6001400a
open Go.RowKit Go.Shelf
set_option linter.unusedVariables false

theorem cut_said : CutSaid := by
  intro s m w hs hm
  refine (Try.strings_Cut s ⟨#[46]⟩ m w hs hm).mono ?_
  rintro e w' ⟨rfl, n, rfl⟩
  refine ⟨_, _, _, n, rfl, ?_, rfl⟩
  have e : Lib.cut s.data.toList (⟨#[46]⟩ : ByteArray).data.toList = Pl.cutD s.data.toList := Pl.cut_dot _
  rw [e]

def pND (r : Nat) : Bool := decide (r < 48) || decide (57 < r)
def pUp (r : Nat) : Bool := decide (65 ≤ r) && decide (r ≤ 90)

set_option maxHeartbeats 400000 in
/-- ValidHostName's literal. -/
theorem lit36 (w : World) : PredAt Try.prog 36 #[] encR pND w := fun W r _ => by
  unfold FnGives
  by_cases h1 : r < 48 <;> by_cases h2 : 57 < r
  all_goals
    have z1 : (r : Int) < 48 ↔ r < 48 := by omega
    have z2 : (57 : Int) < (r : Int) ↔ 57 < r := by omega
    go_enter Try.func36, Try.ntmps36
    go_wp2
    all_goals first | (exfalso; omega) | (go_ret; exact ⟨by simp [pND, h1, h2], 0, rfl⟩)

set_option maxHeartbeats 400000 in
/-- lowerASCII's literal. -/
theorem lit40 (w : World) : PredAt Try.prog 40 #[] encR pUp w := fun W r _ => by
  unfold FnGives
  by_cases h1 : 65 ≤ r <;> by_cases h2 : r ≤ 90
  all_goals
    have z1 : (65 : Int) ≤ (r : Int) ↔ 65 ≤ r := by omega
    have z2 : (r : Int) ≤ 90 ↔ r ≤ 90 := by omega
    go_enter Try.func40, Try.ntmps40
    go_wp2
    all_goals first | (exfalso; omega) | (go_ret; exact ⟨by simp [pUp, h1, h2], 0, rfl⟩)

theorem okB_ascii (c : UInt8) (h : Pl.okB c = true) : c.toNat < 128 := by
  simp [Pl.okB, Pl.isAl] at h
  rcases h with h | h
  · omega
  · subst h; decide

theorem cont_said : ContSaid := by
  intro s w hall
  refine (Try.strings_ContainsFunc 36 #[] (enters_of Try.func36 (by kernel_rfl) rfl) pND s w (lit36 w)).mono ?_
  rintro e w' ⟨rfl, hb⟩
  refine ⟨ret_bool ?_, hb⟩
  have ha : ∀ k (hk : k < s.size), s[k].toNat < 128 := fun k hk =>
    okB_ascii _ (List.all_eq_true.1 hall _ (List.getElem_mem (l := s.data.toList) (by simpa using hk)))
  have := Pl.contains_ascii pND s ha s.size 0 (by omega)
  exact this

/-- the first k bytes lowered, the others as they were. -/
def lowTo (s : List UInt8) (k : Nat) : List UInt8 := (s.take k).map Pl.lowB ++ s.drop k

theorem lowTo_all (s : List UInt8) : lowTo s s.length = s.map Pl.lowB := by simp [lowTo]
theorem lowTo_len (s : List UInt8) (k : Nat) : (lowTo s k).length = s.length := by simp [lowTo]; omega
theorem lowTo_step (s : List UInt8) (k : Nat) (h : k < s.length) : (lowTo s k).set k (Pl.lowB s[k]) = lowTo s (k + 1) := by
  unfold lowTo
  have : k - (List.map Pl.lowB (List.take k s)).length = 0 := by simp; omega
  rw [List.take_succ_eq_append_getElem h, List.map_append, List.append_assoc, List.set_append_right _ _ (by simp; omega), this, List.drop_eq_getElem_cons h, List.set_cons_zero]
  rfl
theorem lowTo_at (s : List UInt8) (k : Nat) (h : k < s.length) : (lowTo s k)[k]'(by rw [lowTo_len]; exact h) = s[k] := by
  unfold lowTo
  rw [List.getElem_append_right (by simp; omega)]
  simp only [List.length_map, List.length_take]
  have e : k - min k s.length = 0 := by omega
  simp only [e, List.getElem_drop, Nat.add_zero]
theorem lowTo_skip (s : List UInt8) (k : Nat) (h : k < s.length) (hs : Pl.lowB s[k] = s[k]) : lowTo s (k + 1) = lowTo s k := by
  rw [← lowTo_step s k h, hs, ← lowTo_at s k h, List.set_getElem_self]

theorem lowB_fix (c : UInt8) (h : pUp c.toNat = false) : Pl.lowB c = c := by
  unfold Pl.lowB
  rw [if_neg]
  intro ⟨a, b⟩
  simp [pUp, a, b] at h

theorem lowTo_fix (s : List UInt8) (k : Nat) (h : ∀ j (hj : j < s.length), j < k → Pl.lowB s[j] = s[j]) : lowTo s k = s := by
  unfold lowTo
  have e : (s.take k).map Pl.lowB = s.take k := by
    conv => rhs; rw [← List.map_id (s.take k)]
    apply List.map_congr_left
    intro c hc
    obtain ⟨j, hj, rfl⟩ := List.getElem_of_mem hc
    simp only [List.length_take] at hj
    simp only [List.getElem_take, id]
    exact h j (by omega) (by omega)
  rw [e, List.take_append_drop]

theorem pUp_high (r : Nat) (h : 128 ≤ r) : pUp r = false := by
  have : ¬ r ≤ 90 := by omega
  simp [pUp, this]

/-- what strings.IndexFunc says at lowerASCII's literal. -/
theorem idx_up (s : ByteArray) : (Lib.idxFunc pUp true s = -1 ∧ s.data.toList.map Pl.lowB = s.data.toList) ∨
    ∃ i : Nat, Lib.idxFunc pUp true s = (i : Int) ∧ i < s.size ∧ lowTo s.data.toList i = s.data.toList := by
  obtain ⟨a1, a2⟩ := Pl.idx_ahead pUp pUp_high s s.size 0 (by omega)
  rcases Lib.idxFunc_range pUp true s with h | ⟨h1, h2⟩
  · refine .inl ⟨h, ?_⟩
    have := lowTo_fix s.data.toList s.data.toList.length (fun j hj _ => lowB_fix _ (a1 h j (by simpa using hj) (Nat.zero_le _)))
    rw [lowTo_all] at this
    exact this
  · refine .inr ⟨(Lib.idxFunc pUp true s).toNat, by omega, by omega, ?_⟩
    refine lowTo_fix _ _ (fun j hj hlt => lowB_fix _ (a2 h1 j (by simpa using hj) (Nat.zero_le _) ?_))
    have : Lib.idxFuncFrom pUp true s s.size 0 = Lib.idxFunc pUp true s := rfl
    omega

set_option maxHeartbeats 1000000 in
/-- mtasts.lowerASCII -/
theorem lowerASCII_any (s : ByteArray) (w : World) (hs : s.size ≤ 1048580) :
    Calls Try.prog 32 #[.string s] w fun e w' => e = .returned (.string ⟨(s.data.toList.map Pl.lowB).toArray⟩) ∧ Below w.heap.size w w' := by
  have hC := Try.strings_IndexFunc 40 #[] (enters_of Try.func40 (by kernel_rfl) rfl) pUp s w (lit40 w)
  rcases idx_up s with ⟨h1, h2⟩ | ⟨i, h1, hi, h2⟩
  · rw [h1] at hC
    have HC := hide hC
    clear hC h1
    rw [h2, Lib.mk_data]
    clear h2
    go_enter Try.func32, Try.ntmps32
    go_wp2_with (go_at_call 39; refine (unhide HC).mono ?_; rintro e w' ⟨rfl, hb⟩)
    go_ret
    exact ⟨rfl, hb⟩
  · rw [h1] at hC
    have HC := hide hC
    have H2 := hide h2
    clear hC h1 h2
    have hconv := fun (W : World) => run_bytes_of_string (P := Try.prog) W 9 27 5 s Try.underlying9 Try.underlying27 Try.underlying5
    have hgc : ∀ W : World, ¬ grownCap W s.size 0 5 = i := fun W => by have := grownCap_ge W s.size 0 5; omega
    go_enter Try.func32, Try.ntmps32
    go_wp2_with (go_at_call 39; refine (unhide HC).mono ?_; rintro e w' ⟨rfl, hb⟩)
    clear hconv hgc
    generalize grownCap w' s.size 0 5 = cp
    have hrow : MRow (w'.alloc (.cells (bytesRow s cp) 5 ((bytesRow s cp).size, (bytesRow s cp).size + 1))).drew w'.heap.size (lowTo s.data.toList i) := by
      rw [unhide H2]; exact (mrow_new w' s cp).drew
    have hb2 : Below w.heap.size w (w'.alloc (.cells (bytesRow s cp) 5 ((bytesRow s cp).size, (bytesRow s cp).size + 1))).drew := (hb.alloc hb.size _).drew
    generalize (w'.alloc (.cells (bytesRow s cp) 5 ((bytesRow s cp).size, (bytesRow s cp).size + 1))).drew = W2 at hrow hb2 ⊢
    have hB : w.heap.size ≤ w'.heap.size := hb.size
    generalize w'.heap.size = B at hrow hB ⊢
    clear hb HC H2
    go_loopw [18] (fun j wr => ∃ k : Nat, k ≤ s.size - i ∧ j = .int .i64 k ∧ MRow wr B (lowTo s.data.toList (i + k)) ∧ Below w.heap.size w wr) (fun j _ => s.size - i - (intOf j).toNat)
    case atStart => exact ⟨0, Nat.zero_le _, rfl, hrow, hb2⟩
    case round =>
      clear hrow hb2
      obtain ⟨k, hk, rfl, hrow, hb⟩ := hrel
      have hl : s.data.toList.length = s.size := (Lib.size_eq s).symm
      by_cases hlt : k < s.size - i
      · have hik : i + k < s.size := by omega
        have hcell : wr.cell? ⟨B, i + k, none⟩ = some (.int .u8 (s[i + k].toNat : Int)) := by
          have := hrow.cell (i + k) (by rw [lowTo_len]; omega)
          rw [this, lowTo_at _ _ (by omega)]; rfl
        have hfr := hrow.frozen (i + k) (by rw [lowTo_len]; omega)
        have HR := hide hrow
        clear hrow hl
        cases hup : isUp s[i + k]
        · have hu := hup
          have hno : ¬ (65 ≤ (s[i + k].toNat : Int) ∧ (s[i + k].toNat : Int) ≤ 90) := by
            intro ⟨a, b⟩
            have a' : 65 ≤ s[i + k].toNat := by omega
            have b' : s[i + k].toNat ≤ 90 := by omega
            simp [isUp, a', b'] at hu
          have hfix : lowTo s.data.toList (i + (k + 1)) = lowTo s.data.toList (i + k) := lowTo_skip s.data.toList (i + k) (by rw [← Lib.size_eq]; exact hik) (lowB_fix _ hup)
          have HF := hide hfix
          have HNO := hide hno
          clear hu hfix hup
          by_cases h65 : 65 ≤ (s[i + k].toNat : Int)
          all_goals
            have h90 : 65 ≤ (s[i + k].toNat : Int) → ¬ (s[i + k].toNat : Int) ≤ 90 := fun a b => unhide HNO ⟨a, b⟩
            clear hno
            go_wp2
            go_roundw
            case rel => exact ⟨k + 1, by omega, by go_num, by rw [unhide HF]; exact unhide HR, hb⟩
            case measure => simp [intOf]; omega
        · obtain ⟨b1, b2, b3⟩ := lowB_yes _ hup
          have R : MRow (wr.setCell ⟨B, i + k, none⟩ (.int .u8 ((s[i + k].toNat : Int) + 32))) B (lowTo s.data.toList (i + (k + 1))) := by
            rw [b3]
            have := (unhide HR).stored (i + k) (Pl.lowB s[i + k])
            have e := lowTo_step s.data.toList (i + k) (by rw [← Lib.size_eq]; exact hik)
            rw [← Nat.add_assoc, ← e]
            exact this
          have HRR := hide R
          clear R b3 hup
          go_wp2
          rw [show ((s[i + k].toNat : Int) + 97 - 65) = (s[i + k].toNat : Int) + 32 from by omega]
          go_roundw
          case rel => exact ⟨k + 1, by omega, by go_num, unhide HRR, hb.setCell hB _⟩
          case measure => simp [intOf]; omega
      · have e : i + k = s.data.toList.length := by omega
        rw [e, lowTo_all] at hrow
        have hback := hrow.back cp
        rw [List.length_map, hl] at hback
        clear e hrow
        go_wp2
        go_ret
        exact ⟨rfl, hb⟩

set_option maxHeartbeats 400000 in
/-- mtasts.ZZLowerASCII -/
theorem zzLower_any (s : ByteArray) (w : World) (hs : s.size ≤ 1048580) :
    Calls Try.prog 13 #[.string s] w fun e w' => e = .returned (.string ⟨(s.data.toList.map Pl.lowB).toArray⟩) ∧ Below w.heap.size w w' := by
  go_enter Try.func13, Try.ntmps13
  go_wp2_with (go_at_call 32; refine (lowerASCII_any _ _ hs).mono ?_; rintro e w' ⟨rfl, hb⟩)
  go_ret
  exact ⟨rfl, hb⟩

end Go.Proofs.Qxb6001400a
