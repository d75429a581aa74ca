/-
  THE WALK of FnReadLocalPartReadsPercentHack.
-/
import Derived.Test.Qxb6001516aW11
import Derived.Test.Qxb6001516aPctP
import Derived.Deep.QuietTactic
import Derived.BigQuiet
namespace Go.Proofs.Qxb6001516a
open Go.RowKit
set_option linter.unusedVariables false

/-- the mailbox and the names from i on, each behind its percent sign, the last first -/
def pcTo (ss : List ByteArray) (s : ByteArray) (i : Nat) : List UInt8 := s.data.toList ++ Pl.pcts (nms (ss.drop i))
theorem pcTo_end (ss : List ByteArray) (s : ByteArray) : pcTo ss s ss.length = s.data.toList := by
  simp [pcTo, nms, Pl.pcts]
theorem pcTo_succ (ss : List ByteArray) (s : ByteArray) (k : Nat) (h : k < ss.length) : pcTo ss s k = (pcTo ss s (k + 1) ++ [37]) ++ ss[k].data.toList := by
  unfold pcTo
  rw [List.drop_eq_getElem_cons h]
  have e : nms (ss[k] :: ss.drop (k + 1)) = ss[k].data.toList :: nms (ss.drop (k + 1)) := rfl
  rw [e, Pl.pcts]
  simp only [List.append_assoc, List.cons_append, List.nil_append]
theorem pcts_length : ∀ l : List ByteArray, (Pl.pcts (nms l)).length = (l.map (·.size)).sum + l.length
  | [] => by simp [nms, Pl.pcts]
  | a :: l => by
    have ih := pcts_length l
    have e : nms (a :: l) = a.data.toList :: nms l := rfl
    rw [e]
    simp only [Pl.pcts, List.length_append, List.length_cons, ih, List.map_cons, List.sum_cons, ← Lib.size_eq]
    omega
theorem pcTo_len (ss : List ByteArray) (s : ByteArray) (k : Nat) : (pcTo ss s k).length ≤ s.size + sumTo ss ss.length + ss.length := by
  unfold pcTo sumTo
  rw [List.length_append, pcts_length, ← Lib.size_eq, List.take_of_length_le (Nat.le_refl ss.length)]
  have e : (ss.map (·.size)).sum = ((ss.take k).map (·.size)).sum + ((ss.drop k).map (·.size)).sum := by
    rw [← List.sum_append, ← List.map_append, List.take_append_drop]
  have e2 : (ss.drop k).length ≤ ss.length := by rw [List.length_drop]; omega
  omega
theorem pcTo_all (ss : List ByteArray) (s : ByteArray) : pcTo ss s 0 = s.data.toList ++ Pl.pcts (nms ss) := rfl

theorem pct_read (ss : List ByteArray) (s : ByteArray) (pf : Bool) (h0 : 0 < s.size) (h33 : hasB s.data.toList 33 = false) (h37 : hasB s.data.toList 37 = false)
    (hp : ∀ j (h : j < ss.length), Pl.Plain true ss[j].data.toList) (hX : (pcTo ss s 0).length ≤ 2097152) (W : World) :
    Calls Try.prog 12 #[.string ⟨(pcTo ss s 0).toArray⟩, .bool pf, .slice none 0 0] W fun e w' => Back ss s ⟨#[100, 111, 109, 97, 105, 110]⟩ W e w' := by
  have hm : s.data.toList ≠ [] := List.length_pos_iff.1 (by rw [← Lib.size_eq]; exact h0)
  have hr := Pl.pct_run s.data.toList hm (hasB_no h33) (hasB_no h37) pf (nms ss) [] [] (nms_plain hp) (by simp)
  simp only [List.nil_append, List.append_nil] at hr
  refine read_call ss s Pl.domain _ pf _ _ _ hX (by rw [pcTo_all]; exact hr) ?_ W
  rw [pcTo_all]
  unfold Pl.seg
  rw [List.drop_zero, Nat.sub_zero, List.take_left]

set_option maxHeartbeats 2000000 in
theorem pct_walk (a0 : Option Addr) (len cap : Nat) (ss : List ByteArray) (s : ByteArray) (pf : Bool) (w : World) (hA : IsStrs w a0 len ss) (hs : s.size ≤ maxLen) :
    Calls Try.prog 4 #[.string s, .slice a0 len cap, .bool pf] w fun e w' => e = .returned (.bool true) ∧ Below w.heap.size w w' := by
  have hA' := hA
  obtain ⟨hl, hm, hsz, hcs⟩ := hA'
  obtain ⟨i0, hi, hz0, hz1, hz2⟩ := info_parts Try.info5
  have HA := hide hA
  have HCS := hide hcs
  have HML := hide hs
  clear hA hsz hcs
  unfold maxLen at hm hs
  go_enter Try.func4, Try.ntmps4
  go_wp2_with fail
  refine (bytes13_any _ _ _ _ _ _ _ (unhide HA) (unhide HML)).mono ?_
  rintro e w' ⟨rfl, b, rfl, hb⟩
  cases b
  · clear hb
    go_wp2
    go_ret
    exact ⟨rfl, Below.refl _ _⟩
  clear hb
  by_cases hbig : 1048576 < s.size
  · go_wp2
    go_ret
    exact ⟨rfl, Below.refl _ _⟩
  go_wp2_with fail
  refine (sizeOf_any _ _ _ _ _ (unhide HA)).mono ?_
  rintro e w'' ⟨rfl, n, rfl, hn1, hn2⟩
  by_cases hn : 1048576 < n + s.size
  · clear hn2
    go_wp2
    go_ret
    exact ⟨rfl, Below.refl _ _⟩
  have hsum := hn2 (by omega)
  clear hn2
  have hel : ∀ k (h : k < ss.length), ss[k].size ≤ 1048576 := fun k h => by have := elem_le ss k len h (by omega); omega
  have HEL := hide hel
  clear hel
  by_cases h0 : s.size = 0
  · have q0 : (((s.size : Nat) : Int) == 0) = true := beq_iff_eq.2 (by omega)
    go_wp2
    go_ret
    exact ⟨rfl, Below.refl _ _⟩
  have q0 : (((s.size : Nat) : Int) == 0) = false := beq_eq_false_iff_ne.2 (by omega)
  have h0' : 0 < s.size := by omega
  clear h0
  go_wp2_with fail
  refine (holds_any s 33 33 _ rfl (by omega)).mono ?_
  rintro e wz ⟨rfl, rfl⟩
  cases h33 : hasB s.data.toList 33
  case true =>
    clear h33
    go_wp2
    go_ret
    exact ⟨rfl, Below.refl _ _⟩
  have H33 := hide h33
  clear h33
  go_wp2_with fail
  refine (holds_any s 37 37 _ rfl (by omega)).mono ?_
  rintro e wy ⟨rfl, rfl⟩
  cases h37 : hasB s.data.toList 37
  case true =>
    clear h37
    go_wp2
    go_ret
    exact ⟨rfl, Below.refl _ _⟩
  have H37 := hide h37
  clear h37
  go_wp2
  go_loop [7] (fun i => ∃ k : Nat, k ≤ len ∧ i = .int .i64 k ∧ Hid (∀ j (h : j < ss.length), j < k → Pl.Plain true ss[j].data.toList)) (fun i => len - (intOf i).toNat)
  case atStart => exact ⟨0, Nat.zero_le _, rfl, hide (fun j h hj => by omega)⟩
  case round =>
    obtain ⟨k, hk, rfl, HN⟩ := hrel
    by_cases hlt : k < len
    · obtain ⟨b, off, rfl, hbl, hc⟩ := unhide HCS (by omega)
      have hck := hc k (by omega)
      clear hc
      have hsk := unhide HEL k (by omega)
      go_wp2_with fail
      refine (plain_any ss[k] true _ (by omega)).mono ?_
      rintro e wz ⟨rfl, b, rfl, hb⟩
      cases b
      · clear hb
        go_wp2
        go_ret
        exact ⟨rfl, Below.refl _ _⟩
      · have HB := hide (hb rfl)
        clear hb
        go_wp2
        go_round
        case rel =>
          refine ⟨k + 1, by omega, by go_num, hide (fun j h hj => ?_)⟩
          by_cases e : j = k
          · subst e; exact unhide HB
          · exact unhide HN j h (by omega)
        case measure => simp [intOf]; omega
    · have HP := hide (show ∀ j (h : j < ss.length), Pl.Plain true ss[j].data.toList from fun j h => unhide HN j h (by omega))
      have hL0 : ∀ i, (pcTo ss s i).length ≤ 2097152 := fun i => by
        have := pcTo_len ss s i
        rw [hl] at this
        omega
      have HL0 := hide hL0
      clear hk HN hL0
      have HO := hide (one_nil wy)
      go_wp2_with (first | (at_builtin; refine wpList_append_str2 _ rfl (.tmp 50) (.tmp 51) 27 9 rfl wy.heap.size 5 i0 Try.underlying27 Try.underlying9 hi hz0 hz1 hz2 _ _ _ rfl (unhide HO).1 s rfl (by unfold maxLen; simp; omega) (by simp; omega) (unhide HO).2.size ?_))
      intro v0 w0 hown0 hg0 hv0
      have T0 := hide (one_lo (unhide HO) (Own.of_str (l := []) (s := s) (by rw [List.length_nil, Nat.zero_add]; exact hown0)) hg0)
      clear hown0 hg0 hv0 HO
      go_wp2
      go_loopw [8, 9] (fun lo i wr => ∃ (k : Nat) (z : Int), k ≤ len ∧ i = .int .i64 z ∧ z + 1 = (k : Int) ∧ One wy wr lo (pcTo ss s k)) (fun _ i _ => (intOf i + 1).toNat)
      case atStart => exact ⟨len, _, Nat.le_refl _, rfl, by omega, by rw [← hl, pcTo_end]; simpa using unhide T0⟩
      case round =>
        clear T0
        obtain ⟨k, z, hk, rfl, hz, h2⟩ := hrel
        have hL := unhide HL0 k
        rcases k with _ | j
        · obtain rfl : z = -1 := by omega
          subst hl
          have HR := hide (pct_read ss s pf h0' (unhide H33) (unhide H37) (unhide HP) (unhide HL0 0))
          generalize pcTo ss s 0 = X at h2 hL HR
          have H2 := hide h2
          clear h2
          have hcv : (convert 27 9 u8).run Try.prog wr = .ok (.string ⟨X.toArray⟩) wr := (unhide H2).1.back
          go_wp2_with fail
          refine (unhide HR _).mono ?_
          rintro e w3 ⟨a3, cap3, rfl, hb3, hc3⟩
          have HB := hide ((unhide H2).2.trans (hb3.mono (unhide H2).2.size))
          have HC3 := hide hc3
          have HCS3 := hide ((unhide HA).below (unhide HB)).2.2.2
          clear hb3 hc3 HR H2 HCS hcv
          have q2 : (((ss.length : Nat) : Int) != ((ss.length : Nat) : Int)) = false := by simp
          go_wp2
          go_loopw [12] (fun i wr => ∃ k : Nat, k ≤ ss.length ∧ i = .int .i64 k ∧ Below w3.heap.size w3 wr) (fun i _ => ss.length - (intOf i).toNat)
          case atStart => exact ⟨0, Nat.zero_le _, rfl, Below.refl _ _⟩
          case round =>
            obtain ⟨k, hk, rfl, hb4⟩ := hrel
            have HB4 := hide hb4
            clear hb4
            by_cases hlt : k < ss.length
            · obtain ⟨g, rfl, hc⟩ := unhide HC3 (by omega)
              obtain ⟨c1, c2⟩ := hc k hlt
              clear hc
              obtain ⟨b, off, rfl, hbl, hc⟩ := unhide HCS3 (by omega)
              have c3 := hc k (by omega)
              clear hc
              have d1 := ((unhide HB4).cell (p := ⟨g, k * 2, none⟩) (World.block_lt_of_cell? _ _ c1)).trans c1
              have d2 := ((unhide HB4).cell (p := ⟨g, k * 2 + 1, none⟩) (World.block_lt_of_cell? _ _ c2)).trans c2
              have d3 := ((unhide HB4).cell (p := ⟨b, off + k, none⟩) (World.block_lt_of_cell? _ _ c3)).trans c3
              clear c1 c2 c3
              generalize ss[k] = sk at d1 d3
              go_wp2
              go_quiet (fail)
              go_wp2
              go_roundw
              case rel => exact ⟨k + 1, by omega, by go_num, below_drewN (unhide HB4) _⟩
              case measure => simp [intOf]; omega
            · go_wp2
              go_ret
              exact ⟨rfl, (unhide HB).trans ((unhide HB4).mono (unhide HB).size)⟩
        · obtain rfl : z = (j : Int) := by omega
          have hsk := unhide HEL j (by omega)
          obtain ⟨b, off, rfl, hbl, hc⟩ := unhide HCS (by omega)
          have hck := (h2.2.cell (p := ⟨b, off + j, none⟩) hbl).trans (hc j (by omega))
          clear hc
          have HW := hide (pcTo_succ ss s j (by omega))
          generalize pcTo ss s (j + 1) = L at h2 hL HW
          have H2 := hide h2
          clear h2
          generalize ss[j] = sk at hck hsk HW
          go_wp2_with (first | (at_builtin; refine wpList_append_own2 _ rfl (.tmp 60) (.tmp 61) 27 rfl wy.heap.size 5 i0 (.int .u8 0) 1 1 Try.underlying27 hi hz0 hz1 hz2 rfl (by decide) _ _ _ rfl (one_alloc (unhide H2) _).1 ⟨_, 0, none⟩ 1 1 [.int .u8 37] rfl rfl (cell_one_new _ _ _) (by intro u hu; simp at hu; subst hu; rfl) (by unfold maxLen; omega) (by omega) (one_alloc (unhide H2) _).2.size ?_))
          intro v1 w1 hown1 hg1 hv1
          have T1 := hide (one_byte 37 (unhide H2) hown1 hg1)
          clear hown1 hg1 hv1
          have hck1 : w1.cell? ⟨b, off + j, none⟩ = some (.string sk) := ((unhide T1).2.cell (p := ⟨b, off + j, none⟩) hbl).trans (((unhide H2).2.cell (p := ⟨b, off + j, none⟩) hbl).symm.trans hck)
          clear hck
          have hY : (L ++ [37]).length ≤ 2097153 := by rw [List.length_append, List.length_cons, List.length_nil]; omega
          generalize L ++ [37] = Y at T1 HW hY
          go_wp2_with (first | (at_builtin; refine wpList_append_str2 _ rfl (.tmp 63) (.tmp 67) 27 9 rfl wy.heap.size 5 i0 Try.underlying27 Try.underlying9 hi hz0 hz1 hz2 _ _ _ rfl (unhide T1).1 sk rfl (by unfold maxLen; omega) (by omega) (unhide T1).2.size ?_))
          intro v2 w2 hown2 hg2 hv2
          have T2 := hide (one_lo (unhide T1) (Own.of_str hown2) hg2)
          clear hown2 hg2 hv2
          go_wp2
          go_roundw
          case rel => exact ⟨j, _, by omega, rfl, by omega, by rw [unhide HW]; exact unhide T2⟩
          case measure => simp [intOf]

end Go.Proofs.Qxb6001516a
