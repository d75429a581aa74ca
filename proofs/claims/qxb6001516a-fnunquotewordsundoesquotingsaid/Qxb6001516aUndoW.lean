/-
  THE WALK of FnUnquoteWordsUndoesQuoting.
-/
import Derived.Test.Qxb6001516aW6
import Derived.Test.Qxb6001516aPlain2
import Derived.Deep.RegionWith
namespace Go.Proofs.Qxb6001516a
open Go.RowKit
set_option linter.unusedVariables false

/-- the strings as lists of bytes -/
def bys (ss : List ByteArray) : List (List UInt8) := ss.map (·.data.toList)

/-- the first k words written -/
def wrTo (ss : List ByteArray) (k : Nat) : List UInt8 := Pl.wr false (bys (ss.take k))
/-- the first k words joined -/
def flTo (ss : List ByteArray) (k : Nat) : List UInt8 := (bys (ss.take k)).flatten

theorem bys_take (ss : List ByteArray) (k : Nat) (h : k < ss.length) : bys (ss.take (k + 1)) = bys (ss.take k) ++ [ss[k].data.toList] := by
  unfold bys
  rw [List.take_succ_eq_append_getElem h, List.map_append]; rfl
theorem wrTo_succ (ss : List ByteArray) (k : Nat) (h : k < ss.length) : wrTo ss (k + 1) = wrTo ss k ++ Pl.piece (decide (k % 2 = 1)) ss[k].data.toList := by
  unfold wrTo
  have e : (bys (ss.take k)).length = k := by simp [bys]; omega
  rw [bys_take ss k h, Pl.wr_snoc, e, Bool.false_xor]
theorem flTo_succ (ss : List ByteArray) (k : Nat) (h : k < ss.length) : flTo ss (k + 1) = flTo ss k ++ ss[k].data.toList := by
  unfold flTo
  rw [bys_take ss k h]; simp
theorem bys_sum (ss : List ByteArray) (k : Nat) : ((bys (ss.take k)).map List.length).sum = sumTo ss k := by
  unfold bys sumTo
  rw [List.map_map]
  congr 1
theorem wrTo_len (ss : List ByteArray) (k : Nat) : (wrTo ss k).length ≤ 2 * sumTo ss k + 2 * k := by
  have h := Pl.wr_len false (bys (ss.take k))
  have e : (bys (ss.take k)).length ≤ k := by simp [bys]; omega
  rw [bys_sum] at h
  unfold wrTo
  omega
theorem flTo_len (ss : List ByteArray) (k : Nat) : (flTo ss k).length = sumTo ss k := by
  unfold flTo
  rw [List.length_flatten, bys_sum]

theorem esc_take (s : ByteArray) (j : Nat) (h : j < s.size) : Pl.esc (s.data.toList.take (j + 1)) = Pl.esc (s.data.toList.take j) ++ (if s[j] = 34 ∨ s[j] = 92 then [92, s[j]] else [s[j]]) := by
  rw [List.take_succ_eq_append_getElem (by simpa using h), Pl.esc_snoc]; rfl

/-- the two rows of the law. -/
def Two (w0 wr : World) (lo wa : Value) (L M : List UInt8) : Prop := Own w0.heap.size wr lo L ∧ Own w0.heap.size wr wa M ∧ Apart lo wa ∧ Below w0.heap.size w0 wr

theorem two_nil (w0 : World) : Two w0 w0 (.slice none 0 0) (.slice none 0 0) [] [] := ⟨Own.nil _ _, Own.nil _ _, apart_nil _, Below.refl _ _⟩

theorem two_lo {w0 wr w1 : World} {lo wa v' : Value} {L M m : List UInt8} (h : Two w0 wr lo wa L M) (hown : Own w0.heap.size w1 v' (L ++ m)) (hg : wr.grownBy w1 lo.ownBlock) (hv : v'.ownBlock = lo.ownBlock ∨ v'.ownBlock = some wr.heap.size) : Two w0 w1 v' wa (L ++ m) M := by
  obtain ⟨h1, h2, h3, h4⟩ := h
  obtain ⟨a, b⟩ := h2.other h3.symm hg hv
  exact ⟨hown, a, b.symm, h4.grown hg h4.size h1.ownBlock_ge⟩
theorem two_wa {w0 wr w1 : World} {lo wa v' : Value} {L M m : List UInt8} (h : Two w0 wr lo wa L M) (hown : Own w0.heap.size w1 v' (M ++ m)) (hg : wr.grownBy w1 wa.ownBlock) (hv : v'.ownBlock = wa.ownBlock ∨ v'.ownBlock = some wr.heap.size) : Two w0 w1 lo v' L (M ++ m) := by
  obtain ⟨h1, h2, h3, h4⟩ := h
  obtain ⟨a, b⟩ := h1.other h3 hg hv
  exact ⟨a, hown, b, h4.grown hg h4.size h2.ownBlock_ge⟩
theorem two_alloc {w0 wr : World} {lo wa : Value} {L M : List UInt8} (h : Two w0 wr lo wa L M) (o : Obj) : Two w0 (wr.alloc o) lo wa L M :=
  ⟨h.1.alloc o, h.2.1.alloc o, h.2.2.1, h.2.2.2.alloc h.2.2.2.size o⟩

/-- local = append(local, c) -/
theorem two_byte {w0 wr w1 : World} {lo wa v' : Value} {L M : List UInt8} {o : Obj} (c : UInt8) (h : Two w0 wr lo wa L M)
    (hown : w1.ownsRow w0.heap.size 5 1 v' (L.length + 1) (Lib.byteCells L ++ [.int .u8 (c.toNat : Int)])) (hg : (wr.alloc o).grownBy w1 lo.ownBlock) (hv : v'.ownBlock = lo.ownBlock ∨ v'.ownBlock = some (wr.heap.size + 1)) : Two w0 w1 v' wa (L ++ [c]) M :=
  two_lo (two_alloc h o) (Own.of_append (w := wr) (v := lo) (m := [c]) hown) hg (by simpa using hv)

set_option maxHeartbeats 2000000 in
theorem undo_small (a0 : Option Addr) (len cap : Nat) (ss : List ByteArray) (w : World) (hA : IsStrs w a0 len ss) :
    Calls Try.prog 6 #[.slice a0 len cap] w fun e w' => e = .returned (.bool true) ∧ Below w.heap.size w w' := by
  have hA' := hA
  obtain ⟨hl, hm, hsz, hcs⟩ := hA'
  obtain ⟨i0, hi, hz0, hz1, hz2⟩ := info_parts Try.info5
  have HA := hide hA
  have HSZ := hide hsz
  have HCS := hide hcs
  clear hA hsz hcs
  unfold maxLen at hm
  go_enter Try.func6, Try.ntmps6
  go_wp2_with fail
  refine (bytes15_any _ _ _ _ _ (unhide HA)).mono ?_
  rintro e w' ⟨rfl, b, rfl, hb⟩
  cases b
  · clear hb
    go_wp2
    go_ret
    exact ⟨rfl, Below.refl _ _⟩
  clear hb
  go_wp2_with fail
  refine (sizeOf_any _ _ _ _ _ (unhide HA)).mono ?_
  rintro e w'' ⟨rfl, n, rfl, hn1, hn2⟩
  by_cases hn : n ≤ 1048576
  · have hsum := hn2 hn
    clear hn2
    have hel : ∀ k (h : k < ss.length), ss[k].size ≤ 1048576 := fun k h => by have := elem_le ss k len h (by omega); omega
    have HEL := hide hel
    clear hel
    go_wp2
    go_loop [3] (fun i => ∃ k : Nat, k ≤ len + 1 ∧ k % 2 = 0 ∧ i = .int .i64 k ∧ Hid (∀ j (h : j < ss.length), j < k → j % 2 = 0 → ∀ c ∈ ss[j].data.toList, c ≠ 34)) (fun i => len + 2 - (intOf i).toNat)
    case atStart => exact ⟨0, Nat.zero_le _, rfl, rfl, hide (fun j h hj => by omega)⟩
    case round =>
      obtain ⟨k, hk, hk2, rfl, HN⟩ := hrel
      have HK2 := hide hk2
      clear hk2
      by_cases hlt : k < len
      · obtain ⟨b, off, rfl, hbl, hc⟩ := unhide HCS (by omega)
        have hck := hc k (by omega)
        clear hc
        have hsk := unhide HEL k (by omega)
        cases hh : hasB ss[k].data.toList 34
        · have HNO := hide (show ∀ c ∈ ss[k].data.toList, c ≠ 34 from fun c hc e => by
            unfold hasB at hh
            rw [List.any_eq_false] at hh
            exact hh c hc (by simpa using e))
          have HH := hide hh
          clear hh
          go_wp2_with fail
          refine (holds_any ss[k] 34 34 _ rfl (by omega)).mono ?_
          rintro e wz ⟨rfl, rfl⟩
          rw [unhide HH]
          go_wp2
          go_round
          case rel =>
            refine ⟨k + 2, by omega, by have := unhide HK2; omega, by go_num, hide (fun j h hj hp => ?_)⟩
            by_cases e : j = k
            · subst e; exact unhide HNO
            · exact unhide HN j h (by have := unhide HK2; omega) hp
          case measure => simp [intOf]; omega
        · have HH := hide hh
          clear hh
          go_wp2_with fail
          refine (holds_any ss[k] 34 34 _ rfl (by omega)).mono ?_
          rintro e wz ⟨rfl, rfl⟩
          rw [unhide HH]
          go_wp2
          go_ret
          exact ⟨rfl, Below.refl _ _⟩
      · have HBARE := hide (Pl.bareOk_of false (bys ss) (fun j hj hp c hc => by
          have hj' : j < ss.length := by simpa [bys] using hj
          have e : (bys ss)[j] = ss[j].data.toList := by simp [bys]
          rw [e] at hc
          exact unhide HN j hj' (by omega) (hp.2 rfl) c hc))
        clear hk
        go_wp2
        go_loopw [4, 5, 6] (fun lo wa i wr => ∃ k : Nat, k ≤ len ∧ i = .int .i64 k ∧ Two w'' wr lo wa (wrTo ss k) (flTo ss k)) (fun _ _ i _ => len - (intOf i).toNat)
        case atStart => exact ⟨0, Nat.zero_le _, rfl, two_nil _⟩
        case round =>
          obtain ⟨k, hk, rfl, h2⟩ := hrel
          have hwl := wrTo_len ss k
          have hfl := flTo_len ss k
          have hmono := sumTo_mono ss k (len - k)
          rw [show k + (len - k) = len by omega] at hmono
          by_cases hlt : k < len
          · have hsk := unhide HEL k (by omega)
            obtain ⟨b, off, rfl, hbl, hc⟩ := unhide HCS (by omega)
            have hck := (h2.2.2.2.cell (p := ⟨b, off + k, none⟩) hbl).trans (hc k (by omega))
            clear hc
            have HW := hide (wrTo_succ ss k (by omega))
            have HF := hide (flTo_succ ss k (by omega))
            generalize hL : wrTo ss k = L at h2 hwl HW
            generalize hM : flTo ss k = M at h2 hfl HF
            generalize sumTo ss k = S at hwl hfl hmono
            have hMl : M.length ≤ S := by omega
            have H2 := hide h2
            clear h2 hL hM hfl
            generalize hsg : ss[k] = sk at hck hsk HW HF
            clear hsg
            by_cases hpar : k % 2 = 0
            · have q1 : (((k : Nat) : Int) % 2 == 0) = true := beq_iff_eq.2 (by omega)
              have HW' := hide (show wrTo ss (k + 1) = L ++ sk.data.toList by rw [unhide HW, show decide (k % 2 = 1) = false by simp; omega]; rfl)
              clear hpar
              go_wp2_with (first | (at_builtin; refine wpList_append_str2 _ rfl (.tmp 40) (.tmp 41) 27 9 rfl w''.heap.size 5 i0 Try.underlying27 Try.underlying9 hi hz0 hz1 hz2 _ _ _ rfl (unhide H2).1 sk rfl (by unfold maxLen; omega) (by omega) (unhide H2).2.2.2.size ?_))
              intro v1 w1 hown1 hg1 hv1
              have T1 := hide (two_lo (unhide H2) (Own.of_str hown1) hg1 hv1)
              clear hown1 hg1 hv1
              go_wp2_with (first | (at_builtin; refine wpList_append_str2 _ rfl (.tmp 71) (.tmp 72) 27 9 rfl w''.heap.size 5 i0 Try.underlying27 Try.underlying9 hi hz0 hz1 hz2 _ _ _ rfl (unhide T1).2.1 sk rfl (by unfold maxLen; omega) (by omega) (unhide T1).2.2.2.size ?_))
              intro v2 w2 hown2 hg2 hv2
              have T2 := hide (two_wa (unhide T1) (Own.of_str hown2) hg2 hv2)
              clear hown2 hg2 hv2
              go_wp2
              go_roundw
              case rel => exact ⟨k + 1, by omega, by go_num, by rw [unhide HW', unhide HF]; exact unhide T2⟩
              case measure => simp [intOf]; omega
            · have q1 : (((k : Nat) : Int) % 2 == 0) = false := beq_eq_false_iff_ne.2 (by omega)
              have HW' := hide (show wrTo ss (k + 1) = (L ++ [34]) ++ Pl.esc sk.data.toList ++ [34] by rw [unhide HW, show decide (k % 2 = 1) = true by simp; omega]; simp [Pl.piece])
              clear hpar
              go_wp2_with (first | (at_builtin; refine wpList_append_own2 _ rfl (.tmp 43) (.tmp 44) 27 rfl w''.heap.size 5 i0 (.int .u8 0) 1 1 Try.underlying27 hi hz0 hz1 hz2 rfl (by decide) _ _ _ rfl (two_alloc (unhide H2) _).1 ⟨_, 0, none⟩ 1 1 [.int .u8 34] rfl rfl (cell_one_new _ _ _) (by intro u hu; simp at hu; subst hu; rfl) (by unfold maxLen; omega) (by omega) (two_alloc (unhide H2) _).2.2.2.size ?_))
              intro v1 w1 hown1 hg1 hv1
              have T1 := hide (two_byte 34 (unhide H2) hown1 hg1 hv1)
              clear hown1 hg1 hv1
              go_wp2
              go_loopw [4, 8] (fun lo jj wq => ∃ j : Nat, j ≤ sk.size ∧ jj = .int .i64 j ∧ Two w'' wq lo u5 ((L ++ [34]) ++ Pl.esc (sk.data.toList.take j)) M) (fun _ jj _ => sk.size - (intOf jj).toNat)
              case atStart => exact ⟨0, Nat.zero_le _, rfl, by simpa [Pl.esc] using unhide T1⟩
              case round =>
                clear T1
                obtain ⟨j, hj, rfl, h3⟩ := hrel
                have hel := Pl.esc_len (sk.data.toList.take j)
                have htl : (sk.data.toList.take j).length ≤ j := List.length_take_le _ _
                by_cases hjl : j < sk.size
                · have HE := hide (show (L ++ [34]) ++ Pl.esc (sk.data.toList.take (j + 1)) = ((L ++ [34]) ++ Pl.esc (sk.data.toList.take j)) ++ (if sk[j] = 34 ∨ sk[j] = 92 then [92, sk[j]] else [sk[j]]) by rw [esc_take sk j hjl]; simp only [List.append_assoc])
                  have hEl : ((L ++ [34]) ++ Pl.esc (sk.data.toList.take j)).length ≤ L.length + 1 + 2 * j := by simp only [List.length_append, List.length_cons, List.length_nil]; omega
                  generalize (L ++ [34]) ++ Pl.esc (sk.data.toList.take j) = X at h3 HE hEl
                  have H3 := hide h3
                  clear h3 hel htl
                  by_cases h34 : sk[j].toNat = 34
                  · have q2 : (((sk[j].toNat : Nat) : Int) == 34) = true := beq_iff_eq.2 (by omega)
                    have HE' := hide (show (L ++ [34]) ++ Pl.esc (sk.data.toList.take (j + 1)) = X ++ [92, sk[j]] by rw [unhide HE, if_pos (.inl ((byte_eq _ 34 (by omega)).1 h34))])
                    clear h34
                    go_wp2_with (first | (at_builtin; refine wpList_append_own2 _ rfl (.tmp 61) (.tmp 62) 27 rfl w''.heap.size 5 i0 (.int .u8 0) 1 1 Try.underlying27 hi hz0 hz1 hz2 rfl (by decide) _ _ _ rfl (two_alloc (unhide H3) _).1 ⟨_, 0, none⟩ 1 1 [.int .u8 92] rfl rfl (cell_one_new _ _ _) (by intro u hu; simp at hu; subst hu; rfl) (by unfold maxLen; omega) (by omega) (two_alloc (unhide H3) _).2.2.2.size ?_))
                    intro v2 w2 hown2 hg2 hv2
                    have T2 := hide (two_byte 92 (unhide H3) hown2 hg2 hv2)
                    clear hown2 hg2 hv2
                    have hEl2 : (X ++ [92]).length ≤ L.length + 2 + 2 * j := by simp only [List.length_append, List.length_cons, List.length_nil]; omega
                    have HY := hide (show X ++ [92, sk[j]] = (X ++ [92]) ++ [sk[j]] by simp)
                    generalize X ++ [92] = Y at T2 hEl2 HY
                    go_wp2_with (first | (at_builtin; refine wpList_append_own2 _ rfl (.tmp 64) (.tmp 66) 27 rfl w''.heap.size 5 i0 (.int .u8 0) 1 1 Try.underlying27 hi hz0 hz1 hz2 rfl (by decide) _ _ _ rfl (two_alloc (unhide T2) _).1 ⟨_, 0, none⟩ 1 1 [.int .u8 (sk[j].toNat : Int)] rfl rfl (cell_one_new _ _ _) (by intro u hu; simp at hu; subst hu; rfl) (by unfold maxLen; omega) (by omega) (two_alloc (unhide T2) _).2.2.2.size ?_))
                    intro v3 w3 hown3 hg3 hv3
                    have T3 := hide (two_byte sk[j] (unhide T2) hown3 hg3 hv3)
                    clear hown3 hg3 hv3
                    go_wp2
                    go_roundw
                    case rel => exact ⟨j + 1, by omega, by go_num, by rw [unhide HE', unhide HY]; exact unhide T3⟩
                    case measure => simp [intOf]; omega
                  · have q2 : (((sk[j].toNat : Nat) : Int) == 34) = false := beq_eq_false_iff_ne.2 (by omega)
                    by_cases h92 : sk[j].toNat = 92
                    · have q3 : (((sk[j].toNat : Nat) : Int) == 92) = true := beq_iff_eq.2 (by omega)
                      have HE' := hide (show (L ++ [34]) ++ Pl.esc (sk.data.toList.take (j + 1)) = X ++ [92, sk[j]] by rw [unhide HE, if_pos (.inr ((byte_eq _ 92 (by omega)).1 h92))])
                      clear h92
                      go_wp2_with (first | (at_builtin; refine wpList_append_own2 _ rfl (.tmp 61) (.tmp 62) 27 rfl w''.heap.size 5 i0 (.int .u8 0) 1 1 Try.underlying27 hi hz0 hz1 hz2 rfl (by decide) _ _ _ rfl (two_alloc (unhide H3) _).1 ⟨_, 0, none⟩ 1 1 [.int .u8 92] rfl rfl (cell_one_new _ _ _) (by intro u hu; simp at hu; subst hu; rfl) (by unfold maxLen; omega) (by omega) (two_alloc (unhide H3) _).2.2.2.size ?_))
                      intro v2 w2 hown2 hg2 hv2
                      have T2 := hide (two_byte 92 (unhide H3) hown2 hg2 hv2)
                      clear hown2 hg2 hv2
                      have hEl2 : (X ++ [92]).length ≤ L.length + 2 + 2 * j := by simp only [List.length_append, List.length_cons, List.length_nil]; omega
                      have HY := hide (show X ++ [92, sk[j]] = (X ++ [92]) ++ [sk[j]] by simp)
                      generalize X ++ [92] = Y at T2 hEl2 HY
                      go_wp2_with (first | (at_builtin; refine wpList_append_own2 _ rfl (.tmp 64) (.tmp 66) 27 rfl w''.heap.size 5 i0 (.int .u8 0) 1 1 Try.underlying27 hi hz0 hz1 hz2 rfl (by decide) _ _ _ rfl (two_alloc (unhide T2) _).1 ⟨_, 0, none⟩ 1 1 [.int .u8 (sk[j].toNat : Int)] rfl rfl (cell_one_new _ _ _) (by intro u hu; simp at hu; subst hu; rfl) (by unfold maxLen; omega) (by omega) (two_alloc (unhide T2) _).2.2.2.size ?_))
                      intro v3 w3 hown3 hg3 hv3
                      have T3 := hide (two_byte sk[j] (unhide T2) hown3 hg3 hv3)
                      clear hown3 hg3 hv3
                      go_wp2
                      go_roundw
                      case rel => exact ⟨j + 1, by omega, by go_num, by rw [unhide HE', unhide HY]; exact unhide T3⟩
                      case measure => simp [intOf]; omega
                    · have q3 : (((sk[j].toNat : Nat) : Int) == 92) = false := beq_eq_false_iff_ne.2 (by omega)
                      have HE' := hide (show (L ++ [34]) ++ Pl.esc (sk.data.toList.take (j + 1)) = X ++ [sk[j]] by rw [unhide HE, if_neg (fun h => h.elim (fun e => h34 ((byte_eq _ 34 (by omega)).2 e)) (fun e => h92 ((byte_eq _ 92 (by omega)).2 e)))])
                      go_wp2_with (first | (at_builtin; refine wpList_append_own2 _ rfl (.tmp 64) (.tmp 66) 27 rfl w''.heap.size 5 i0 (.int .u8 0) 1 1 Try.underlying27 hi hz0 hz1 hz2 rfl (by decide) _ _ _ rfl (two_alloc (unhide H3) _).1 ⟨_, 0, none⟩ 1 1 [.int .u8 (sk[j].toNat : Int)] rfl rfl (cell_one_new _ _ _) (by intro u hu; simp at hu; subst hu; rfl) (by unfold maxLen; omega) (by omega) (two_alloc (unhide H3) _).2.2.2.size ?_))
                      intro v3 w3 hown3 hg3 hv3
                      have T3 := hide (two_byte sk[j] (unhide H3) hown3 hg3 hv3)
                      clear hown3 hg3 hv3
                      go_wp2
                      go_roundw
                      case rel => exact ⟨j + 1, by omega, by go_num, by rw [unhide HE']; exact unhide T3⟩
                      case measure => simp [intOf]; omega
                · obtain rfl : j = sk.size := by omega
                  have HALL := hide (show sk.data.toList.take sk.size = sk.data.toList from List.take_of_length_le (by rw [← Lib.size_eq]; exact Nat.le_refl _))
                  rw [unhide HALL] at h3 hel
                  rw [← Lib.size_eq] at hel
                  have HW2 := HW'
                  clear HW'
                  have hEl : ((L ++ [34]) ++ Pl.esc sk.data.toList).length ≤ L.length + 1 + 2 * sk.size := by simp only [List.length_append, List.length_cons, List.length_nil]; omega
                  generalize (L ++ [34]) ++ Pl.esc sk.data.toList = X at h3 HW2 hEl
                  have H3 := hide h3
                  clear h3 hel htl
                  go_wp2_with (first | (at_builtin; refine wpList_append_own2 _ rfl (.tmp 68) (.tmp 69) 27 rfl w''.heap.size 5 i0 (.int .u8 0) 1 1 Try.underlying27 hi hz0 hz1 hz2 rfl (by decide) _ _ _ rfl (two_alloc (unhide H3) _).1 ⟨_, 0, none⟩ 1 1 [.int .u8 34] rfl rfl (cell_one_new _ _ _) (by intro u hu; simp at hu; subst hu; rfl) (by unfold maxLen; omega) (by omega) (two_alloc (unhide H3) _).2.2.2.size ?_))
                  intro v4 w4 hown4 hg4 hv4
                  have T4 := hide (two_byte 34 (unhide H3) hown4 hg4 hv4)
                  clear hown4 hg4 hv4
                  go_wp2_with (first | (at_builtin; refine wpList_append_str2 _ rfl (.tmp 71) (.tmp 72) 27 9 rfl w''.heap.size 5 i0 Try.underlying27 Try.underlying9 hi hz0 hz1 hz2 _ _ _ rfl (unhide T4).2.1 sk rfl (by unfold maxLen; omega) (by omega) (unhide T4).2.2.2.size ?_))
                  intro v5 w5 hown5 hg5 hv5
                  have T5 := hide (two_wa (unhide T4) (Own.of_str hown5) hg5 hv5)
                  clear hown5 hg5 hv5
                  go_wp2
                  go_roundw
                  case rel => exact ⟨k + 1, by omega, by go_num, by rw [unhide HW2, unhide HF]; exact unhide T5⟩
                  case measure => simp [intOf]; omega
          · obtain rfl : k = len := by omega
            obtain ⟨f, hf⟩ := Pl.undoes_quoting false (bys ss) (unhide HBARE)
            have eT : ss.take k = ss := List.take_of_length_le (by omega)
            have hf' : Pl.uqF f (wrTo ss k) = some (flTo ss k) := by unfold wrTo flTo; rw [eT]; exact hf
            have hzw : ∀ W, Calls Try.prog 16 #[.string ⟨(wrTo ss k).toArray⟩] W fun e w' => e = .returned (.string ⟨(flTo ss k).toArray⟩) ∧ Below W.heap.size W w' :=
              fun W => zzWords_any ⟨(wrTo ss k).toArray⟩ f _ W (by rw [size_of_list]; omega) hf'
            clear hf hf' eT
            generalize wrTo ss k = L at h2 hzw hwl
            generalize flTo ss k = M at h2 hzw hfl
            have hcl : (convert 27 9 u4).run Try.prog wr.drew = .ok (.string ⟨L.toArray⟩) wr.drew := (h2.1.below (Below.refl _ wr).drew).back
            have hcv1 : (convert 27 9 u5).run Try.prog wr.drew = .ok (.string ⟨M.toArray⟩) wr.drew := (h2.2.1.below (Below.refl _ wr).drew).back
            have HCV := hide (fun (W : World) (hW : Below wr.heap.size wr W) => (h2.2.1.below hW).back)
            have HZW := hide hzw
            have hb := h2.2.2.2
            clear hzw h2 hfl hwl hmono
            go_wp2
            go_region_with (go_at_call 16; refine (unhide HZW _).mono ?_; rintro e wz ⟨rfl, hbz⟩; have hcv2 := unhide HCV wz ((Below.refl _ wr).drew.trans hbz))
            all_goals
              go_wp2
              go_ret
              exact ⟨rfl, hb.trans (((Below.refl _ wr).drew.trans (by assumption)).mono hb.size)⟩
  · clear hn2
    go_wp2
    go_ret
    exact ⟨rfl, Below.refl _ _⟩

end Go.Proofs.Qxb6001516a
