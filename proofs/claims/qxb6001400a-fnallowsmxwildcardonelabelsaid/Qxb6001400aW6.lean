/-
  WALKS of seat b6001400a, six: zzHasDot, SplitMXPattern at a wildcard, AllowsMX at a policy of one wildcard.
-/
import Derived.Test.Qxb6001400aW5
import Derived.Test.Qxb6001400aPlain2
import Derived.ShutString
namespace Go.Proofs.Qxb6001400a
open Go.RowKit
set_option linter.unusedVariables false

set_option maxHeartbeats 400000 in
/-- zzBytes_FnAllowsMXWildcardOneLabel -/
theorem bytes29_any (a b : ByteArray) (w : World) (ha : a.size ≤ maxLen) (hb : b.size ≤ maxLen) :
    Calls Try.prog 29 #[.string a, .string b] w fun e w' => e = .returned (.bool (decide (a.size + b.size ≤ 1048576))) ∧ w' = w := by
  unfold maxLen at ha hb
  by_cases h1 : a.size ≤ 1048576 <;> by_cases h2 : b.size ≤ 1048576 <;> by_cases h3 : a.size + b.size ≤ 1048576
  all_goals first
    | (exfalso; omega)
    | (have hd : decide (a.size + b.size ≤ 1048576) = true := by simp; omega
       rw [hd]
       clear hd
       go_enter Try.func29, Try.ntmps29
       go_wp2
       go_ret
       exact ⟨rfl, rfl⟩)
    | (have hd : decide (a.size + b.size ≤ 1048576) = false := by simp; omega
       rw [hd]
       clear hd
       go_enter Try.func29, Try.ntmps29
       go_wp2
       go_ret
       exact ⟨rfl, rfl⟩)

theorem byte46 (c : UInt8) : c.toNat = 46 ↔ c = 46 := by
  rw [← UInt8.toNat_inj]; rfl

set_option maxHeartbeats 400000 in
/-- zzHasDot -/
theorem hasDot_any (s : ByteArray) (w : World) (hs : s.size ≤ 1048576) :
    Calls Try.prog 22 #[.string s] w fun e w' => e = .returned (.bool (Pl.hasDot s.data.toList)) ∧ w' = w := by
  go_enter Try.func22, Try.ntmps22
  go_wp2
  go_loop [3] (fun i => ∃ k : Nat, k ≤ s.size ∧ i = .int .i64 k ∧ ∀ j (hj : j < s.size), j < k → ¬ s[j] = 46) (fun i => s.size - (intOf i).toNat)
  case atStart => exact ⟨0, Nat.zero_le _, rfl, fun j hj h => by omega⟩
  case round =>
    obtain ⟨k, hk, rfl, hall⟩ := hrel
    have HA := hide hall
    clear hall
    by_cases hlt : k < s.size
    · by_cases hd : s[k].toNat = 46
      · have q : (((s[k].toNat : Nat) : Int) == 46) = true := beq_iff_eq.2 (by omega)
        have fin : Pl.hasDot s.data.toList = true := by
          unfold Pl.hasDot
          rw [List.any_eq_true]
          exact ⟨s[k], List.getElem_mem (l := s.data.toList) (by simpa using hlt), by simpa using (byte46 _).1 hd⟩
        have FIN := hide fin
        clear fin hd
        go_wp2
        go_ret
        exact ⟨ret_bool (unhide FIN).symm, rfl⟩
      · have q : (((s[k].toNat : Nat) : Int) == 46) = false := beq_eq_false_iff_ne.2 (by omega)
        go_wp2
        go_round
        case rel =>
          refine ⟨k + 1, by omega, by go_num, fun j hj h => ?_⟩
          by_cases e : j = k
          · subst e; exact fun e => hd ((byte46 _).2 e)
          · exact unhide HA j hj (by omega)
        case measure => simp [intOf]; omega
    · have fin : Pl.hasDot s.data.toList = false := by
        unfold Pl.hasDot
        rw [List.any_eq_false]
        intro c hc
        obtain ⟨j, hj, rfl⟩ := List.getElem_of_mem hc
        have hj' : j < s.size := by simpa using hj
        have := unhide HA j hj' (by omega)
        intro e
        exact this (eq_of_beq e)
      have FIN := hide fin
      clear fin
      go_wp2
      go_ret
      exact ⟨ret_bool (unhide FIN).symm, rfl⟩

theorem cutPrefix_star (l : List UInt8) (w : World) :
    Calls Try.prog 42 #[.string ⟨(42 :: 46 :: l).toArray⟩, .string ⟨#[42, 46]⟩] w fun e w' => e = .returned (.tuple #[.string ⟨l.toArray⟩, .bool true]) ∧ w' = w := by
  refine (Try.strings_CutPrefix ⟨(42 :: 46 :: l).toArray⟩ ⟨#[42, 46]⟩ w).mono ?_
  rintro e w' ⟨rfl, rfl⟩
  have h : Lib.hasPrefix (42 :: 46 :: l) [42, 46] = true := by simp [Lib.hasPrefix, List.isPrefixOf]
  have e1 : Lib.hasPrefix (⟨(42 :: 46 :: l).toArray⟩ : ByteArray).data.toList (⟨#[42, 46]⟩ : ByteArray).data.toList = true := h
  have e2 : Lib.trimPrefix (⟨(42 :: 46 :: l).toArray⟩ : ByteArray).data.toList (⟨#[42, 46]⟩ : ByteArray).data.toList = l := by
    show Lib.trimPrefix (42 :: 46 :: l) [42, 46] = l
    unfold Lib.trimPrefix
    rw [h]; rfl
  rw [e1, e2]
  exact ⟨rfl, rfl⟩

set_option maxHeartbeats 1000000 in
/-- SplitMXPattern at a wildcard of a valid name -/
theorem split_any (pat x : ByteArray) (m : Int) (w : World) (hpat : pat.data.toList = 42 :: 46 :: x.data.toList) (hv : Pl.valid x.data.toList = true) (hg : 0 < w.heap.size) (hm : w.cell? ⟨0, 0, none⟩ = some (.int .i64 m)) :
    Calls Try.prog 38 #[.string pat] w fun e w' => e = .returned (.tuple #[.string ⟨(x.data.toList.map Pl.lowB).toArray⟩, .bool true, .bool true]) ∧ Below w.heap.size w w' := by
  have hlen := Pl.valid_len _ hv
  have hps : pat.size ≤ 1048580 := by rw [Lib.size_eq, hpat]; simp only [List.length_cons]; omega
  have elow : pat.data.toList.map Pl.lowB = 42 :: 46 :: x.data.toList.map Pl.lowB := by rw [hpat, Pl.low_star]
  have HPAT := hide hpat
  have HV := hide hv
  clear hpat hv
  go_enter Try.func38, Try.ntmps38
  go_wp2_with fail
  refine (lowerASCII_any pat _ hps).mono ?_
  rintro e w1 ⟨rfl, hb1⟩
  rw [elow]
  clear elow
  go_wp2_with fail
  refine (cutPrefix_star _ _).mono ?_
  rintro e w' ⟨rfl, rfl⟩
  have hts : (⟨(x.data.toList.map Pl.lowB).toArray⟩ : ByteArray).size ≤ maxLen := by rw [size_of_list, List.length_map]; unfold maxLen; omega
  have htv : Pl.valid (⟨(x.data.toList.map Pl.lowB).toArray⟩ : ByteArray).data.toList = true := by
    show Pl.valid (x.data.toList.map Pl.lowB) = true
    rw [Pl.valid_low]; exact unhide HV
  generalize ht : (⟨(x.data.toList.map Pl.lowB).toArray⟩ : ByteArray) = t at hts htv ⊢
  have HT := hide ht
  clear ht
  have HTV := hide htv
  clear htv
  go_wp2_with fail
  refine (valid_any cut_said cont_said t m _ hts (Nat.lt_of_lt_of_le hg hb1.size) ((hb1.cell (p := ⟨0, 0, none⟩) hg).trans hm)).mono ?_
  rintro e w2 ⟨rfl, hb2⟩
  rw [unhide HTV]
  go_wp2
  go_ret3
  rw [unhide HT]
  exact ⟨rfl, hb1.trans (hb2.mono hb1.size)⟩

/-- what AllowsMX answers, at a policy of one wildcard. -/
def AllowsSays (host x : ByteArray) : Bool := Pl.allow host.data.toList (x.data.toList.map Pl.lowB)

set_option maxHeartbeats 1000000 in
/-- AllowsMX at a policy of one wildcard of a valid name -/
theorem allows_any (bp bs : Nat) (host pat x : ByteArray) (m : Int) (w : World) (hpat : pat.data.toList = 42 :: 46 :: x.data.toList) (hv : Pl.valid x.data.toList = true) (hh : host.size ≤ 1048576)
    (hg : 0 < w.heap.size) (hm : w.cell? ⟨0, 0, none⟩ = some (.int .i64 m)) (hbs : bs < w.heap.size)
    (hp : w.cell? ⟨bp, 1, none⟩ = some (.slice (some ⟨bs, 0, none⟩) 1 1)) (hs : w.cell? ⟨bs, 0, none⟩ = some (.string pat)) :
    Calls Try.prog 28 #[.pointer (some ⟨bp, 0, none⟩), .string host] w fun e w' => e = .returned (.bool (AllowsSays host x)) ∧ Below w.heap.size w w' := by
  have hsp := hide (fun (W : World) (hb : Below w.heap.size w W) => split_any pat x m W hpat hv (Nat.lt_of_lt_of_le hg hb.size) ((hb.cell (p := ⟨0, 0, none⟩) hg).trans hm))
  have HPAT := hide hpat
  have HV := hide hv
  clear hpat hv
  go_enter Try.func28, Try.ntmps28
  go_wp2
  go_loopw [18] (fun i wr => ∃ k : Nat, k ≤ 1 ∧ i = .int .i64 k ∧ Below w.heap.size w wr ∧ (k = 1 → AllowsSays host x = false)) (fun i _ => 1 - (intOf i).toNat)
  case atStart => exact ⟨0, Nat.zero_le _, rfl, Below.refl _ _, by intro h; omega⟩
  case round =>
    obtain ⟨k, hk, rfl, hb, hno⟩ := hrel
    by_cases hk0 : k = 0
    · subst hk0
      clear hno
      have hs' : wr.cell? ⟨bs, 0, none⟩ = some (.string pat) := (hb.cell (p := ⟨bs, 0, none⟩) hbs).trans hs
      go_wp2_with fail
      refine (unhide hsp _ hb).mono ?_
      rintro e w1 ⟨rfl, hb1⟩
      have hb1' := hb.trans (hb1.mono hb.size)
      generalize hn : (⟨(x.data.toList.map Pl.lowB).toArray⟩ : ByteArray) = nm
      have hnm : nm.data.toList = x.data.toList.map Pl.lowB := by rw [← hn]
      have HNM := hide hnm
      clear hn hnm
      go_wp2_with fail
      refine (cut_said host m _ (by omega) ((hb1'.cell (p := ⟨0, 0, none⟩) hg).trans hm)).mono ?_
      rintro e w' ⟨lb, rs, mo, n, rfl, hc, rfl⟩
      have HC := hide hc
      clear hc
      have hfin : AllowsSays host x = (mo && (!lb.data.toList.isEmpty && (rs.data.toList == nm.data.toList))) := by
        unfold AllowsSays Pl.allow
        rw [unhide HC, unhide HNM]
      have HFIN := hide hfin
      clear hfin
      have hbn := below_drewN hb1' n
      cases mo
      · have HF := hide (show AllowsSays host x = false by rw [unhide HFIN]; rfl)
        go_wp2
        go_roundw
        case rel => exact ⟨1, by omega, rfl, hbn, fun _ => unhide HF⟩
        case measure => simp [intOf]
      · cases he : lb.toList.isEmpty
        · cases hq : (rs.toList == nm.toList)
          · have HF := hide (show AllowsSays host x = false by rw [unhide HFIN, ← Lib.toList_data rs, ← Lib.toList_data nm, hq]; simp)
            go_wp2
            go_roundw
            case rel => exact ⟨1, by omega, rfl, hbn, fun _ => unhide HF⟩
            case measure => simp [intOf]
          · have HF := hide (show AllowsSays host x = true by rw [unhide HFIN, ← Lib.toList_data rs, ← Lib.toList_data nm, ← Lib.toList_data lb, hq, he]; rfl)
            go_wp2
            go_ret
            exact ⟨ret_bool (unhide HF).symm, hbn⟩
        · have HF := hide (show AllowsSays host x = false by rw [unhide HFIN, ← Lib.toList_data lb, he]; simp)
          go_wp2
          go_roundw
          case rel => exact ⟨1, by omega, rfl, hbn, fun _ => unhide HF⟩
          case measure => simp [intOf]
    · obtain rfl : k = 1 := by omega
      have HN := hide (hno rfl)
      clear hno
      go_wp2
      go_ret
      exact ⟨ret_bool (unhide HN).symm, hb⟩

end Go.Proofs.Qxb6001400a
