/-
  THE WALK of FnReadLocalPartReadsBangPath.
-/
import Derived.Test.Qxb6001516aW11
import Derived.Deep.QuietTactic
import Derived.BigQuiet
namespace Go.Proofs.Qxb6001516a
open Go.RowKit
set_option linter.unusedVariables false

/-- the first k names, each with its bang -/
def bgTo (ss : List ByteArray) (k : Nat) : List UInt8 := Pl.bangs (nms (ss.take k))
theorem bgTo_succ (ss : List ByteArray) (k : Nat) (h : k < ss.length) : bgTo ss (k + 1) = (bgTo ss k ++ ss[k].data.toList) ++ [33] := by
  unfold bgTo
  rw [nms_take ss k h]
  simp [Pl.bangs]
theorem bgTo_len (ss : List ByteArray) : ∀ k, k ≤ ss.length → (bgTo ss k).length = sumTo ss k + k
  | 0, _ => by simp [bgTo, nms, Pl.bangs, sumTo]
  | k + 1, h => by
    have ih := bgTo_len ss k (by omega)
    rw [bgTo_succ ss k (by omega), sumTo_succ ss k (by omega)]
    simp only [List.length_append, List.length_cons, List.length_nil, ih, ← Lib.size_eq]
    omega
theorem bgTo_all (ss : List ByteArray) : bgTo ss ss.length = Pl.bangs (nms ss) := by
  unfold bgTo
  rw [List.take_of_length_le (Nat.le_refl _)]

theorem bang_read (ss : List ByteArray) (s : ByteArray) (pf : Bool) (h0 : 0 < s.size) (h33 : hasB s.data.toList 33 = false) (h37 : hasB s.data.toList 37 = false)
    (hp : ∀ j (h : j < ss.length), Pl.Plain false ss[j].data.toList) (hX : (bgTo ss ss.length ++ s.data.toList).length ≤ 2097152) (W : World) :
    Calls Try.prog 12 #[.string ⟨(bgTo ss ss.length ++ s.data.toList).toArray⟩, .bool pf, .slice none 0 0] W fun e w' => Back ss s ⟨#[117, 117, 99, 112]⟩ W e w' := by
  have hm : s.data.toList ≠ [] := List.length_pos_iff.1 (by rw [← Lib.size_eq]; exact h0)
  have hr := Pl.bang_run s.data.toList hm (hasB_no h33) (hasB_no h37) pf (nms ss) [] [] (nms_plain hp) (by simp)
  simp only [List.nil_append, List.length_nil] at hr
  refine read_call ss s Pl.uucp _ pf _ _ _ hX (by rw [bgTo_all]; exact hr) ?_ W
  rw [bgTo_all]
  unfold Pl.seg
  rw [List.drop_left, List.length_append, Nat.add_sub_cancel_left, List.take_of_length_le (Nat.le_refl _)]

set_option maxHeartbeats 2000000 in
theorem bang_walk (a0 : Option Addr) (len cap : Nat) (ss : List ByteArray) (s : ByteArray) (pf : Bool) (w : World) (hA : IsStrs w a0 len ss) (hs : s.size ≤ maxLen) :
    Calls Try.prog 3 #[.slice a0 len cap, .string s, .bool pf] w fun e w' => e = .returned (.bool true) ∧ Below w.heap.size w w' := by
  have hA' := hA
  obtain ⟨hl, hm, hsz, hcs⟩ := hA'
  obtain ⟨i0, hi, hz0, hz1, hz2⟩ := info_parts Try.info5
  have HA := hide hA
  have HCS := hide hcs
  have HML := hide hs
  clear hA hsz hcs
  unfold maxLen at hm hs
  go_enter Try.func3, Try.ntmps3
  go_wp2_with fail
  refine (bytes8_any _ _ _ _ _ _ _ (unhide HA) (unhide HML)).mono ?_
  rintro e w' ⟨rfl, b, rfl, hb⟩
  cases b
  · clear hb
    go_wp2
    go_ret
    exact ⟨rfl, Below.refl _ _⟩
  clear hb
  by_cases hbig : 1048576 < s.size
  · go_wp2
    go_ret
    exact ⟨rfl, Below.refl _ _⟩
  go_wp2_with fail
  refine (sizeOf_any _ _ _ _ _ (unhide HA)).mono ?_
  rintro e w'' ⟨rfl, n, rfl, hn1, hn2⟩
  by_cases hn : 1048576 < n + s.size
  · clear hn2
    go_wp2
    go_ret
    exact ⟨rfl, Below.refl _ _⟩
  have hsum := hn2 (by omega)
  clear hn2
  have hel : ∀ k (h : k < ss.length), ss[k].size ≤ 1048576 := fun k h => by have := elem_le ss k len h (by omega); omega
  have HEL := hide hel
  clear hel
  by_cases h0 : s.size = 0
  · have q0 : (((s.size : Nat) : Int) == 0) = true := beq_iff_eq.2 (by omega)
    go_wp2
    go_ret
    exact ⟨rfl, Below.refl _ _⟩
  have q0 : (((s.size : Nat) : Int) == 0) = false := beq_eq_false_iff_ne.2 (by omega)
  have h0' : 0 < s.size := by omega
  clear h0
  go_wp2_with fail
  refine (holds_any s 33 33 _ rfl (by omega)).mono ?_
  rintro e wz ⟨rfl, rfl⟩
  cases h33 : hasB s.data.toList 33
  case true =>
    clear h33
    go_wp2
    go_ret
    exact ⟨rfl, Below.refl _ _⟩
  have H33 := hide h33
  clear h33
  go_wp2_with fail
  refine (holds_any s 37 37 _ rfl (by omega)).mono ?_
  rintro e wy ⟨rfl, rfl⟩
  cases h37 : hasB s.data.toList 37
  case true =>
    clear h37
    go_wp2
    go_ret
    exact ⟨rfl, Below.refl _ _⟩
  have H37 := hide h37
  clear h37
  go_wp2
  go_loop [7] (fun i => ∃ k : Nat, k ≤ len ∧ i = .int .i64 k ∧ Hid (∀ j (h : j < ss.length), j < k → Pl.Plain false ss[j].data.toList)) (fun i => len - (intOf i).toNat)
  case atStart => exact ⟨0, Nat.zero_le _, rfl, hide (fun j h hj => by omega)⟩
  case round =>
    obtain ⟨k, hk, rfl, HN⟩ := hrel
    by_cases hlt : k < len
    · obtain ⟨b, off, rfl, hbl, hc⟩ := unhide HCS (by omega)
      have hck := hc k (by omega)
      clear hc
      have hsk := unhide HEL k (by omega)
      go_wp2_with fail
      refine (plain_any ss[k] false _ (by omega)).mono ?_
      rintro e wz ⟨rfl, b, rfl, hb⟩
      cases b
      · clear hb
        go_wp2
        go_ret
        exact ⟨rfl, Below.refl _ _⟩
      · have HB := hide (hb rfl)
        clear hb
        go_wp2
        go_round
        case rel =>
          refine ⟨k + 1, by omega, by go_num, hide (fun j h hj => ?_)⟩
          by_cases e : j = k
          · subst e; exact unhide HB
          · exact unhide HN j h (by omega)
        case measure => simp [intOf]; omega
    · have HP := hide (show ∀ j (h : j < ss.length), Pl.Plain false ss[j].data.toList from fun j h => unhide HN j h (by omega))
      clear hk HN
      go_wp2
      go_loopw [8, 9] (fun lo i wr => ∃ k : Nat, k ≤ len ∧ i = .int .i64 k ∧ One wy wr lo (bgTo ss k)) (fun _ i _ => len - (intOf i).toNat)
      case atStart => exact ⟨0, Nat.zero_le _, rfl, one_nil _⟩
      case round =>
        obtain ⟨k, hk, rfl, h2⟩ := hrel
        have hwl := bgTo_len ss k (by omega)
        have hmono := sumTo_mono ss k (len - k)
        rw [show k + (len - k) = len by omega] at hmono
        have hL : (bgTo ss k).length ≤ 1048576 := by omega
        clear hwl hmono
        by_cases hlt : k < len
        · have hsk := unhide HEL k (by omega)
          obtain ⟨b, off, rfl, hbl, hc⟩ := unhide HCS (by omega)
          have hck := (h2.2.cell (p := ⟨b, off + k, none⟩) hbl).trans (hc k (by omega))
          clear hc
          have HW := hide (bgTo_succ ss k (by omega))
          generalize bgTo ss k = L at h2 hL HW
          have H2 := hide h2
          clear h2
          generalize ss[k] = sk at hck hsk HW
          go_wp2_with (first | (at_builtin; refine wpList_append_str2 _ rfl (.tmp 56) (.tmp 60) 27 9 rfl wy.heap.size 5 i0 Try.underlying27 Try.underlying9 hi hz0 hz1 hz2 _ _ _ rfl (unhide H2).1 sk rfl (by unfold maxLen; omega) (by omega) (unhide H2).2.size ?_))
          intro v1 w1 hown1 hg1 hv1
          have T1 := hide (one_lo (unhide H2) (Own.of_str hown1) hg1)
          clear hown1 hg1 hv1
          have hY : (L ++ sk.data.toList).length ≤ 2097152 := by rw [List.length_append, ← Lib.size_eq]; omega
          generalize L ++ sk.data.toList = Y at T1 HW hY
          go_wp2_with (first | (at_builtin; refine wpList_append_own2 _ rfl (.tmp 62) (.tmp 63) 27 rfl wy.heap.size 5 i0 (.int .u8 0) 1 1 Try.underlying27 hi hz0 hz1 hz2 rfl (by decide) _ _ _ rfl (one_alloc (unhide T1) _).1 ⟨_, 0, none⟩ 1 1 [.int .u8 33] rfl rfl (cell_one_new _ _ _) (by intro u hu; simp at hu; subst hu; rfl) (by unfold maxLen; omega) (by omega) (one_alloc (unhide T1) _).2.size ?_))
          intro v2 w2 hown2 hg2 hv2
          have T2 := hide (one_byte 33 (unhide T1) hown2 hg2)
          clear hown2 hg2 hv2
          go_wp2
          go_roundw
          case rel => exact ⟨k + 1, by omega, by go_num, by rw [unhide HW]; exact unhide T2⟩
          case measure => simp [intOf]; omega
        · obtain rfl : k = len := by omega
          subst hl
          have hX : (bgTo ss ss.length ++ s.data.toList).length ≤ 2097152 := by rw [List.length_append, ← Lib.size_eq]; omega
          have HR := hide (bang_read ss s pf h0' (unhide H33) (unhide H37) (unhide HP) hX)
          clear hX
          generalize bgTo ss ss.length = L at h2 hL HR
          have H2 := hide h2
          clear h2
          go_wp2_with (first | (at_builtin; refine wpList_append_str2 _ rfl (.tmp 65) (.tmp 66) 27 9 rfl wy.heap.size 5 i0 Try.underlying27 Try.underlying9 hi hz0 hz1 hz2 _ _ _ rfl (unhide H2).1 s rfl (by unfold maxLen; omega) (by omega) (unhide H2).2.size ?_))
          intro v1 w1 hown1 hg1 hv1
          have T1 := hide (one_lo (unhide H2) (Own.of_str hown1) hg1)
          clear hown1 hg1 hv1
          generalize L ++ s.data.toList = X at T1 HR
          have hcv : (convert 27 9 v1).run Try.prog w1 = .ok (.string ⟨X.toArray⟩) w1 := (unhide T1).1.back
          go_wp2_with fail
          refine (unhide HR _).mono ?_
          rintro e w3 ⟨a3, cap3, rfl, hb3, hc3⟩
          have HB := hide ((unhide T1).2.trans (hb3.mono (unhide T1).2.size))
          have HC3 := hide hc3
          have HCS3 := hide ((unhide HA).below (unhide HB)).2.2.2
          clear hb3 hc3 T1 HR H2 HCS hcv
          have q2 : (((ss.length : Nat) : Int) != ((ss.length : Nat) : Int)) = false := by simp
          go_wp2
          go_loopw [12] (fun i wr => ∃ k : Nat, k ≤ ss.length ∧ i = .int .i64 k ∧ Below w3.heap.size w3 wr) (fun i _ => ss.length - (intOf i).toNat)
          case atStart => exact ⟨0, Nat.zero_le _, rfl, Below.refl _ _⟩
          case round =>
            obtain ⟨k, hk, rfl, hb4⟩ := hrel
            have HB4 := hide hb4
            clear hb4
            by_cases hlt : k < ss.length
            · obtain ⟨g, rfl, hc⟩ := unhide HC3 (by omega)
              obtain ⟨c1, c2⟩ := hc k hlt
              clear hc
              obtain ⟨b, off, rfl, hbl, hc⟩ := unhide HCS3 (by omega)
              have c3 := hc k (by omega)
              clear hc
              have d1 := ((unhide HB4).cell (p := ⟨g, k * 2, none⟩) (World.block_lt_of_cell? _ _ c1)).trans c1
              have d2 := ((unhide HB4).cell (p := ⟨g, k * 2 + 1, none⟩) (World.block_lt_of_cell? _ _ c2)).trans c2
              have d3 := ((unhide HB4).cell (p := ⟨b, off + k, none⟩) (World.block_lt_of_cell? _ _ c3)).trans c3
              clear c1 c2 c3
              generalize ss[k] = sk at d1 d3
              go_wp2
              go_quiet (fail)
              go_wp2
              go_roundw
              case rel => exact ⟨k + 1, by omega, by go_num, below_drewN (unhide HB4) _⟩
              case measure => simp [intOf]; omega
            · go_wp2
              go_ret
              exact ⟨rfl, (unhide HB).trans ((unhide HB4).mono (unhide HB).size)⟩

end Go.Proofs.Qxb6001516a
