/-
  WALKS of seat b6001516a, nine: lastSinglePercent.
-/
import Derived.Test.Qxb6001516aW8
namespace Go.Proofs.Qxb6001516a
open Go.RowKit
set_option linter.unusedVariables false

theorem lspI_low (s : List UInt8) (l : Nat) : ∀ n, n ≤ l → Pl.lspI s l n = none
  | 0, _ => rfl
  | n + 1, h => by unfold Pl.lspI; rw [if_pos (by omega)]
theorem lspI_skip (s : List UInt8) (l n : Nat) (h : l ≤ n) (hs : Pl.single s n = false) : Pl.lspI s l (n + 1) = Pl.lspI s l n := by
  conv => lhs; unfold Pl.lspI
  rw [if_neg (by omega), hs, if_neg (by decide)]
theorem lspI_hit (s : List UInt8) (l n : Nat) (h : l ≤ n) (hs : Pl.single s n = true) : Pl.lspI s l (n + 1) = some n := by
  unfold Pl.lspI
  rw [if_neg (by omega), hs, if_pos rfl]

theorem at_eq (s : ByteArray) (k : Nat) (h : k < s.size) : s.data.toList[k]? = some s[k] := by
  rw [List.getElem?_eq_getElem (by simpa using h)]; rfl

theorem single_no0 (s : ByteArray) (m : Nat) (h : m < s.size) (hc : ¬ s[m].toNat = 37) : Pl.single s.data.toList m = false := by
  have : ¬ s[m] = 37 := fun e => hc ((byte_eq _ 37 (by omega)).2 e)
  unfold Pl.single; rw [at_eq s m h]; simp [this]
theorem single_no1 (s : ByteArray) (m : Nat) (h : m < s.size) (h0 : ¬ m = 0) (hc : (s[m - 1]'(by omega)).toNat = 37) : Pl.single s.data.toList m = false := by
  unfold Pl.single; rw [at_eq s (m - 1) (by omega), (byte_eq _ 37 (by omega)).1 hc]; simp [h0]
theorem single_no2 (s : ByteArray) (m : Nat) (h : m + 1 < s.size) (hc : (s[m + 1]).toNat = 37) : Pl.single s.data.toList m = false := by
  have : ¬ m + 1 = s.size := by omega
  unfold Pl.single; rw [at_eq s (m + 1) h, (byte_eq _ 37 (by omega)).1 hc, ← Lib.size_eq]; simp [this]
theorem single_yes (s : ByteArray) (m : Nat) (h : m < s.size) (hc : s[m].toNat = 37) (h1 : ∀ h0 : m ≠ 0, ¬ (s[m - 1]'(by omega)).toNat = 37) (h2 : ∀ h3 : m + 1 < s.size, ¬ (s[m + 1]).toNat = 37) : Pl.single s.data.toList m = true := by
  unfold Pl.single
  rw [at_eq s m h, (byte_eq _ 37 (by omega)).1 hc, ← Lib.size_eq]
  have e1 : (decide (m = 0) || !(s.data.toList[m - 1]? == some 37)) = true := by
    by_cases h0 : m = 0
    · simp [h0]
    · rw [at_eq s (m - 1) (by omega)]
      have := h1 h0
      have n : ¬ s[m - 1]'(by omega) = 37 := fun e => this ((byte_eq _ 37 (by omega)).2 e)
      simp [n]
  have e2 : (decide (m + 1 = s.size) || !(s.data.toList[m + 1]? == some 37)) = true := by
    by_cases h3 : m + 1 < s.size
    · rw [at_eq s (m + 1) h3]
      have := h2 h3
      have n : ¬ s[m + 1] = 37 := fun e => this ((byte_eq _ 37 (by omega)).2 e)
      simp [n]
    · have : m + 1 = s.size := by omega
      simp [this]
  rw [e1, e2]; rfl

/-- what lastSinglePercent hands back. -/
def pctVal (s : ByteArray) (l r : Nat) : Value := .tuple #[.int .i64 (Pl.pPos s.data.toList l r), .string ⟨(Pl.pHop s.data.toList l r).toArray⟩]

theorem pctVal_none (s : ByteArray) (l r : Nat) (h : Pl.lspI s.data.toList l r = none) : pctVal s l r = .tuple #[.int .i64 (-1), .string ⟨#[]⟩] := by
  simp [pctVal, Pl.pPos, Pl.pHop, h]
theorem pctVal_bad (s : ByteArray) (l r m : Nat) (h : Pl.lspI s.data.toList l r = some m) (hb : Pl.isHopL (s.extract (m + 1) r).data.toList = false) : pctVal s l r = .tuple #[.int .i64 (m : Int), .string ⟨#[]⟩] := by
  rw [seg_extract] at hb
  simp [pctVal, Pl.pPos, Pl.pHop, h, hb]
theorem pctVal_ok (s : ByteArray) (l r m : Nat) (h : Pl.lspI s.data.toList l r = some m) (hb : Pl.isHopL (s.extract (m + 1) r).data.toList = true) : pctVal s l r = .tuple #[.int .i64 (m : Int), .string (s.extract (m + 1) r)] := by
  have e : (⟨(Pl.seg s.data.toList (m + 1) r).toArray⟩ : ByteArray) = s.extract (m + 1) r := by rw [← seg_extract, Lib.mk_data]
  rw [seg_extract] at hb
  rw [← e]
  simp [pctVal, Pl.pPos, Pl.pHop, h, hb]

/-- it returns the value v0. -/
theorem ret_eq {v v0 : Value} (h : v0 = v) : Ending.returned v = .returned v0 := by rw [h]

set_option maxHeartbeats 2000000 in
/-- lastSinglePercent -/
theorem pct_any (s : ByteArray) (l r : Nat) (zl zr : Int) (w : World) (hzl : zl = (l : Int)) (hzr : zr = (r : Int)) (hlr : l ≤ r) (hr : r ≤ s.size) (hs : s.size ≤ 2097152) :
    Calls Try.prog 21 #[.string s, .int .i64 zl, .int .i64 zr] w fun e w' => e = .returned (pctVal s l r) ∧ w' = w := by
  subst hzl hzr
  go_enter Try.func21, Try.ntmps21
  go_wp2
  go_loop [8] (fun i => ∃ z : Int, i = .int .i64 z ∧ -1 ≤ z ∧ z < r ∧ Hid (Pl.lspI s.data.toList l (z + 1).toNat = Pl.lspI s.data.toList l r)) (fun i => (intOf i + 1).toNat)
  case atStart => exact ⟨(r : Int) - 1, rfl, by omega, by omega, hide (by congr 1; omega)⟩
  case round =>
    obtain ⟨z, rfl, hz1, hz2, HN⟩ := hrel
    by_cases hge : (l : Int) ≤ z
    · obtain ⟨m, rfl⟩ : ∃ m : Nat, z = (m : Int) := ⟨z.toNat, by omega⟩
      have hm : m < s.size := by omega
      have hlm : l ≤ m := by omega
      have HN' : Hid (Pl.lspI s.data.toList l (m + 1) = Pl.lspI s.data.toList l r) := hide (by have := unhide HN; rwa [show ((m : Int) + 1).toNat = m + 1 by omega] at this)
      clear HN
      have HSKIP := hide (fun (hs0 : Pl.single s.data.toList m = false) => show Pl.lspI s.data.toList l ((m : Int) - 1 + 1).toNat = Pl.lspI s.data.toList l r by
        rw [← unhide HN', lspI_skip _ _ _ hlm hs0]; congr 1; omega)
      have HHIT := hide (fun (hs0 : Pl.single s.data.toList m = true) => show Pl.lspI s.data.toList l r = some m by
        rw [← unhide HN', lspI_hit _ _ _ hlm hs0])
      clear HN'
      by_cases a0 : s[m].toNat = 37
      · have q0 : (((s[m].toNat : Nat) : Int) == 37) = true := beq_iff_eq.2 (by omega)
        have HNO1 := hide (single_no1 s m hm)
        have HNO2 := hide (fun h => single_no2 s m h)
        have HYES := hide (single_yes s m hm a0)
        clear a0
        by_cases a1 : m = 0
        · have q1 : ((m : Int) == 0) = true := beq_iff_eq.2 (by omega)
          have HA1 := hide a1
          clear a1
          by_cases a3 : m + 1 < s.size
          · have q3 : ((m : Int) + 1 == ((s.size : Nat) : Int)) = false := beq_eq_false_iff_ne.2 (by omega)
            by_cases a4 : (s[m + 1]).toNat = 37
            · have q4 : (((s[m + 1].toNat : Nat) : Int) != 37) = false := by simp; omega
              have H := hide (unhide HSKIP (unhide HNO2 a3 a4))
              clear a4
              go_wp2
              go_round
              case rel => exact ⟨(m : Int) - 1, rfl, by omega, by omega, H⟩
              case measure => simp [intOf] <;> omega
            · have q4 : (((s[m + 1].toNat : Nat) : Int) != 37) = true := by simp; omega
              have HSY := hide (unhide HYES (fun h => absurd (unhide HA1) h) (fun _ => a4))
              have HM := hide (unhide HHIT (unhide HSY))
              cases hh : Pl.isHopL (s.extract (m + 1) r).data.toList
              · have FIN := hide (pctVal_bad s l r m (unhide HM) hh)
                have HH := hide hh
                clear hh
                go_wp2_with fail
                refine (isHop_any _ _ (by rw [ByteArray.size_extract]; omega)).mono ?_
                rintro e w' ⟨rfl, rfl⟩
                rw [unhide HH]
                go_wp2
                go_ret2
                exact ⟨ret_eq (unhide FIN), rfl⟩
              · have FIN := hide (pctVal_ok s l r m (unhide HM) hh)
                have HH := hide hh
                clear hh
                go_wp2_with fail
                refine (isHop_any _ _ (by rw [ByteArray.size_extract]; omega)).mono ?_
                rintro e w' ⟨rfl, rfl⟩
                rw [unhide HH]
                go_wp2
                go_ret2
                exact ⟨ret_eq (unhide FIN), rfl⟩
          · have q3 : ((m : Int) + 1 == ((s.size : Nat) : Int)) = true := beq_iff_eq.2 (by omega)
            have HSY := hide (unhide HYES (fun h => absurd (unhide HA1) h) (fun h => absurd h a3))
            have HM := hide (unhide HHIT (unhide HSY))
            cases hh : Pl.isHopL (s.extract (m + 1) r).data.toList
            · have FIN := hide (pctVal_bad s l r m (unhide HM) hh)
              have HH := hide hh
              clear hh
              go_wp2_with fail
              refine (isHop_any _ _ (by rw [ByteArray.size_extract]; omega)).mono ?_
              rintro e w' ⟨rfl, rfl⟩
              rw [unhide HH]
              go_wp2
              go_ret2
              exact ⟨ret_eq (unhide FIN), rfl⟩
            · have FIN := hide (pctVal_ok s l r m (unhide HM) hh)
              have HH := hide hh
              clear hh
              go_wp2_with fail
              refine (isHop_any _ _ (by rw [ByteArray.size_extract]; omega)).mono ?_
              rintro e w' ⟨rfl, rfl⟩
              rw [unhide HH]
              go_wp2
              go_ret2
              exact ⟨ret_eq (unhide FIN), rfl⟩
        · have q1 : ((m : Int) == 0) = false := beq_eq_false_iff_ne.2 (by omega)
          have hm1 : m - 1 < s.size := by omega
          by_cases a2 : (s[m - 1]).toNat = 37
          · have q2 : (((s[m - 1].toNat : Nat) : Int) != 37) = false := by simp; omega
            have H := hide (unhide HSKIP (unhide HNO1 a1 a2))
            clear a2
            go_wp2
            go_round
            case rel => exact ⟨(m : Int) - 1, rfl, by omega, by omega, H⟩
            case measure => simp [intOf] <;> omega
          · have q2 : (((s[m - 1].toNat : Nat) : Int) != 37) = true := by simp; omega
            have HA2 := hide a2
            clear a2
            by_cases a3 : m + 1 < s.size
            · have q3 : ((m : Int) + 1 == ((s.size : Nat) : Int)) = false := beq_eq_false_iff_ne.2 (by omega)
              by_cases a4 : (s[m + 1]).toNat = 37
              · have q4 : (((s[m + 1].toNat : Nat) : Int) != 37) = false := by simp; omega
                have H := hide (unhide HSKIP (unhide HNO2 a3 a4))
                clear a4
                go_wp2
                go_round
                case rel => exact ⟨(m : Int) - 1, rfl, by omega, by omega, H⟩
                case measure => simp [intOf] <;> omega
              · have q4 : (((s[m + 1].toNat : Nat) : Int) != 37) = true := by simp; omega
                have HSY := hide (unhide HYES (fun _ => unhide HA2) (fun _ => a4))
                have HM := hide (unhide HHIT (unhide HSY))
                cases hh : Pl.isHopL (s.extract (m + 1) r).data.toList
                · have FIN := hide (pctVal_bad s l r m (unhide HM) hh)
                  have HH := hide hh
                  clear hh
                  go_wp2_with fail
                  refine (isHop_any _ _ (by rw [ByteArray.size_extract]; omega)).mono ?_
                  rintro e w' ⟨rfl, rfl⟩
                  rw [unhide HH]
                  go_wp2
                  go_ret2
                  exact ⟨ret_eq (unhide FIN), rfl⟩
                · have FIN := hide (pctVal_ok s l r m (unhide HM) hh)
                  have HH := hide hh
                  clear hh
                  go_wp2_with fail
                  refine (isHop_any _ _ (by rw [ByteArray.size_extract]; omega)).mono ?_
                  rintro e w' ⟨rfl, rfl⟩
                  rw [unhide HH]
                  go_wp2
                  go_ret2
                  exact ⟨ret_eq (unhide FIN), rfl⟩
            · have q3 : ((m : Int) + 1 == ((s.size : Nat) : Int)) = true := beq_iff_eq.2 (by omega)
              have HSY := hide (unhide HYES (fun _ => unhide HA2) (fun h => absurd h a3))
              have HM := hide (unhide HHIT (unhide HSY))
              cases hh : Pl.isHopL (s.extract (m + 1) r).data.toList
              · have FIN := hide (pctVal_bad s l r m (unhide HM) hh)
                have HH := hide hh
                clear hh
                go_wp2_with fail
                refine (isHop_any _ _ (by rw [ByteArray.size_extract]; omega)).mono ?_
                rintro e w' ⟨rfl, rfl⟩
                rw [unhide HH]
                go_wp2
                go_ret2
                exact ⟨ret_eq (unhide FIN), rfl⟩
              · have FIN := hide (pctVal_ok s l r m (unhide HM) hh)
                have HH := hide hh
                clear hh
                go_wp2_with fail
                refine (isHop_any _ _ (by rw [ByteArray.size_extract]; omega)).mono ?_
                rintro e w' ⟨rfl, rfl⟩
                rw [unhide HH]
                go_wp2
                go_ret2
                exact ⟨ret_eq (unhide FIN), rfl⟩
      · have q0 : (((s[m].toNat : Nat) : Int) == 37) = false := beq_eq_false_iff_ne.2 (by omega)
        have H := hide (unhide HSKIP (single_no0 s m hm a0))
        go_wp2
        go_round
        case rel => exact ⟨(m : Int) - 1, rfl, by omega, by omega, H⟩
        case measure => simp [intOf] <;> omega
    · have FIN := hide (pctVal_none s l r ((unhide HN).symm.trans (lspI_low _ _ _ (by omega))))
      clear HN
      go_wp2
      go_ret2
      exact ⟨ret_eq (unhide FIN), rfl⟩

end Go.Proofs.Qxb6001516a
