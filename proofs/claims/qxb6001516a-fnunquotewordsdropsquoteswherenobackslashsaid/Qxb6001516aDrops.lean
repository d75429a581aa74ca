/-
  THE STATEMENT 'Rows.FnUnquoteWordsDropsQuotesWhereNoBackslashSaid', PROVED: the walk of the law, and the row's frame.
-/
import Derived.Test.Qxb6001516aRows
import Derived.Test.Qxb6001516aW4
import Derived.WalkKit
import Derived.ProofKit
import Derived.OpenShut
import Derived.ShutString
import Derived.Deep.RegionWith
namespace Go.Proofs.Qxb6001516a.fnUnquoteWordsDropsQuotesWhereNoBackslash
open Go.ChangeShapes Go.WideShapes Go.ChangeAt Go.RowKit
open Go.ChangeMaps (open_string shut_string)
set_option linter.unusedVariables false

theorem own : ownKnob Try.prog.godebug = none := by kernel_rfl

theorem take_snoc (s : ByteArray) (k : Nat) (h : k < s.size) : s.data.toList.take (k + 1) = s.data.toList.take k ++ [s[k]] := by
  rw [List.take_succ_eq_append_getElem (by simpa using h)]; rfl
theorem take_all (s : ByteArray) : s.data.toList.take s.size = s.data.toList := List.take_of_length_le (by rw [← Lib.size_eq]; exact Nat.le_refl _)

/-- what the first loop has seen. -/
def Seen (s : ByteArray) (k q : Nat) : Prop := k ≤ s.size ∧ q ≤ k ∧ q = (s.data.toList.take k).countP (fun c => c == 34) ∧ ∀ c ∈ s.data.toList.take k, c ≠ 92

theorem seen_zero (s : ByteArray) : Seen s 0 0 := ⟨Nat.zero_le _, Nat.le_refl _, by simp, by simp⟩
theorem seen_quote {s : ByteArray} {k q : Nat} (h : Seen s k q) (hlt : k < s.size) (hc : s[k].toNat = 34) : Seen s (k + 1) (q + 1) := by
  obtain ⟨h1, h2, h3, h4⟩ := h
  have hc' : s[k] = 34 := (byte_eq _ 34 (by omega)).1 hc
  refine ⟨by omega, by omega, ?_, ?_⟩
  · rw [take_snoc s k hlt, List.countP_append, ← h3, hc']; simp
  · intro c hm
    rw [take_snoc s k hlt, hc'] at hm
    simp only [List.mem_append, List.mem_cons, List.not_mem_nil, or_false] at hm
    rcases hm with hm | rfl
    · exact h4 c hm
    · decide
theorem seen_other {s : ByteArray} {k q : Nat} (h : Seen s k q) (hlt : k < s.size) (hc : ¬ s[k].toNat = 34) (h92 : ¬ s[k].toNat = 92) : Seen s (k + 1) q := by
  obtain ⟨h1, h2, h3, h4⟩ := h
  have hc' : ¬ s[k] = 34 := fun e => hc ((byte_eq _ 34 (by omega)).2 e)
  have h92' : ¬ s[k] = 92 := fun e => h92 ((byte_eq _ 92 (by omega)).2 e)
  refine ⟨by omega, by omega, ?_, ?_⟩
  · rw [take_snoc s k hlt, List.countP_append, ← h3]
    have e : (s[k] == 34) = false := by simpa using hc'
    simp [e]
  · intro c hm
    rw [take_snoc s k hlt] at hm
    simp only [List.mem_append, List.mem_cons, List.not_mem_nil, or_false] at hm
    rcases hm with hm | rfl
    · exact h4 c hm
    · exact h92'

theorem noQ_snoc_q (s : ByteArray) (k : Nat) (h : k < s.size) (hc : s[k].toNat = 34) : Pl.noQ (s.data.toList.take (k + 1)) = Pl.noQ (s.data.toList.take k) := by
  have hc' : s[k] = 34 := (byte_eq _ 34 (by omega)).1 hc
  rw [take_snoc s k h, hc']; simp [Pl.noQ]
theorem noQ_snoc_o (s : ByteArray) (k : Nat) (h : k < s.size) (hc : ¬ s[k].toNat = 34) : Pl.noQ (s.data.toList.take (k + 1)) = Pl.noQ (s.data.toList.take k) ++ [s[k]] := by
  have hc' : ¬ s[k] = 34 := fun e => hc ((byte_eq _ 34 (by omega)).2 e)
  rw [take_snoc s k h]; simp [Pl.noQ, hc']
theorem noQ_len (l : List UInt8) : (Pl.noQ l).length ≤ l.length := List.length_filter_le _ _

set_option maxHeartbeats 400000 in
theorem walk_big (a0 : ByteArray) (w0 : a0.size ≤ maxLen) (w : World) (hbig : 1048576 < a0.size) :
    Calls Try.prog 7 #[.string a0] w fun e w' => e = .returned (.bool true) ∧ Below w.heap.size w w' := by
  have hd : decide (a0.size ≤ 1048576) = false := by simp; omega
  go_enter Try.func7, Try.ntmps7
  go_wp2_with (go_at_call 17; refine (bytes17_any _ _ w0).mono ?_; rintro e w' ⟨rfl, rfl⟩; rw [hd])
  go_ret
  exact ⟨rfl, Below.refl _ _⟩

set_option maxHeartbeats 2000000 in
theorem walk_small (s : ByteArray) (w : World) (hsm : s.size ≤ 1048576) :
    Calls Try.prog 7 #[.string s] w fun e w' => e = .returned (.bool true) ∧ Below w.heap.size w w' := by
  obtain ⟨i0, hi, hz0, hz1, hz2⟩ := info_parts Try.info5
  have hmx : s.size ≤ maxLen := by unfold maxLen; omega
  have hd : decide (s.size ≤ 1048576) = true := by simp; omega
  go_enter Try.func7, Try.ntmps7
  go_wp2_with (go_at_call 17; refine (bytes17_any _ _ hmx).mono ?_; rintro e w' ⟨rfl, rfl⟩; rw [hd])
  go_loop [3, 4] (fun q i => ∃ k n : Nat, i = .int .i64 k ∧ q = .int .i64 n ∧ Seen s k n) (fun _ i => s.size - (intOf i).toNat)
  case atStart => exact ⟨0, 0, rfl, rfl, seen_zero s⟩
  case round =>
    obtain ⟨k, n, rfl, rfl, hseen⟩ := hrel
    have hkn : n ≤ k := hseen.2.1
    by_cases hlt : k < s.size
    · by_cases h92 : s[k].toNat = 92
      · have q1 : (((s[k].toNat : Nat) : Int) == 92) = true := beq_iff_eq.2 (by omega)
        clear h92
        go_wp2
        go_ret
        exact ⟨rfl, Below.refl _ _⟩
      · have q1 : (((s[k].toNat : Nat) : Int) == 92) = false := beq_eq_false_iff_ne.2 (by omega)
        by_cases h34 : s[k].toNat = 34
        · have q2 : (((s[k].toNat : Nat) : Int) == 34) = true := beq_iff_eq.2 (by omega)
          have hn := seen_quote hseen hlt h34
          clear h34 hseen
          go_wp2
          go_round
          case rel => exact ⟨k + 1, n + 1, by go_num, by go_num, hn⟩
          case measure => simp [intOf]; omega
        · have q2 : (((s[k].toNat : Nat) : Int) == 34) = false := beq_eq_false_iff_ne.2 (by omega)
          have hn := seen_other hseen hlt h34 h92
          clear hseen
          go_wp2
          go_round
          case rel => exact ⟨k + 1, n, by go_num, by go_num, hn⟩
          case measure => simp [intOf]; omega
    · have hks : k = s.size := by have := hseen.1; omega
      subst hks
      obtain ⟨_, _, hcnt, hno⟩ := hseen
      rw [take_all] at hcnt hno
      by_cases hev : n % 2 = 0
      · have hU := hide (Pl.drops_quotes s.data.toList.length s.data.toList (Nat.le_refl _) hno (by rw [← hcnt]; exact hev))
        have q3 : (((n : Int) % 2) != 0) = false := by simp; omega
        clear hno hcnt hev
        go_wp2
        go_loopw [5, 6] (fun v i wr => ∃ k : Nat, k ≤ s.size ∧ i = .int .i64 k ∧ Own w'.heap.size wr v (Pl.noQ (s.data.toList.take k)) ∧ Below w'.heap.size w' wr) (fun _ i _ => s.size - (intOf i).toNat)
        case atStart => exact ⟨0, Nat.zero_le _, rfl, Own.nil _ _, Below.refl _ _⟩
        case round =>
          obtain ⟨k, hk, rfl, hown, hb⟩ := hrel
          have hle : (Pl.noQ (s.data.toList.take k)).length ≤ k := Nat.le_trans (noQ_len _) (List.length_take_le _ _)
          by_cases hlt2 : k < s.size
          · by_cases h34 : s[k].toNat = 34
            · have q4 : (((s[k].toNat : Nat) : Int) != 34) = false := by simp; omega
              have HE := hide (noQ_snoc_q s k hlt2 h34)
              clear h34
              go_wp2
              go_roundw
              case rel => exact ⟨k + 1, by omega, by go_num, by rw [unhide HE]; exact hown, hb⟩
              case measure => simp [intOf]; omega
            · have q4 : (((s[k].toNat : Nat) : Int) != 34) = true := by simp; omega
              have HE := hide (noQ_snoc_o s k hlt2 h34)
              have hob := hown.ownBlock_ge
              have hown' : ∀ o, (wr.alloc o).ownsRow w'.heap.size 5 1 u5 (Pl.noQ (s.data.toList.take k)).length (Lib.byteCells (Pl.noQ (s.data.toList.take k))) := fun o => World.ownsRow.alloc hown o
              generalize hL : Pl.noQ (s.data.toList.take k) = L at hown hle HE hown'
              clear hL h34
              go_wp2_with (first | (at_builtin; refine wpList_append_own _ rfl _ _ 27 rfl w'.heap.size 5 i0 (.int .u8 0) 1 1 Try.underlying27 hi hz0 hz1 hz2 rfl (by decide) _ _ _ rfl (hown' _) ⟨wr.heap.size, 0, none⟩ 1 1 [.int .u8 (s[k].toNat : Int)] rfl rfl ?c1 ?c2 ?c3 ?c4 ?c5 ?_))
              case c1 => exact cell_one_new _ _ _
              case c2 => intro u hu; simp at hu; subst hu; rfl
              case c3 => unfold maxLen; omega
              case c4 => omega
              case c5 => have := hb.size; simp; omega
              intro v' w1 hown1 hgrow _
              have hb1 : Below w'.heap.size w' w1 := (hb.alloc hb.size _).grown hgrow (by have := hb.size; simp; omega) hob
              have hown2 : Own w'.heap.size w1 v' (L ++ [s[k]]) := Own.of_append (w := wr) (v := u5) (m := [s[k]]) hown1
              clear hown1 hgrow hown' hob hown
              go_wp2
              go_roundw
              case rel => exact ⟨k + 1, by omega, by go_num, by rw [unhide HE]; exact hown2, hb1⟩
              case measure => simp [intOf]; omega
          · obtain rfl : k = s.size := by omega
            rw [take_all] at hown hle
            have hcv : ∀ W, Below wr.heap.size wr W → (convert 27 9 u5).run Try.prog W = .ok (.string ⟨(Pl.noQ s.data.toList).toArray⟩) W := fun W hW => (hown.below hW).back
            have hzw : ∀ W, Calls Try.prog 16 #[.string s] W fun e w' => e = .returned (.string ⟨(Pl.noQ s.data.toList).toArray⟩) ∧ Below W.heap.size W w' := fun W => zzWords_any s _ _ W (by omega) (unhide hU)
            generalize Pl.noQ s.data.toList = L at hcv hzw
            have hcv1 := hcv wr.drew (Below.refl _ wr).drew
            have HCV := hide hcv
            have HZW := hide hzw
            clear hcv hzw hown hle
            go_wp2
            go_region_with (go_at_call 16; refine (unhide HZW _).mono ?_; rintro e wz ⟨rfl, hbz⟩; have hcv2 := unhide HCV wz ((Below.refl _ wr).drew.trans hbz))
            all_goals
              go_wp2
              go_ret
              exact ⟨rfl, hb.trans (((Below.refl _ wr).drew.trans (by assumption)).mono hb.size)⟩
      · have q3 : (((n : Int) % 2) != 0) = true := by simp; omega
        clear hno hcnt hev
        go_wp2
        go_ret
        exact ⟨rfl, Below.refl _ _⟩

theorem walk (a0 : ByteArray) (w0 : a0.size ≤ maxLen) (w : World) :
    Calls Try.prog 7 #[.string a0] w fun e w' => e = .returned (.bool true) ∧ Below w.heap.size w w' := by
  by_cases h : 1048576 < a0.size
  · exact walk_big a0 w0 w h
  · exact walk_small a0 w (by omega)

set_option maxRecDepth 100000 in
theorem lifted (os : Os) (started : os.Started) (H : Type) (enc : TypeId × Value → H) :
    ReturnsInHanded {} Try.checked os 7 .any (Rows.fnUnquoteWordsDropsQuotesWhereNoBackslashSpec.pre6 enc Try.prog Try.f7 Rows.fnUnquoteWordsDropsQuotesWhereNoBackslashRow.domain false) (Rows.fnUnquoteWordsDropsQuotesWhereNoBackslashSpec.post enc Try.prog Try.f7 false true false false) := by
  refine returnsInHanded_of_change (C := Try.checked) own started (by kernel_rfl) Try.func7
    (ChangeSpec.witness6 (enc := enc) (C := Try.checked) false ⟨#[], #[.string ByteArray.empty], []⟩ 8 (by kernel_rfl) (by kernel_rfl) (by kernel_rfl) (by kernel_rfl)) ?_
  intro W base args ds gs before hval0 hW hcnd _
  have hval : ∀ (j : Nat) t v, Try.f7.params[j]? = some t → args[j]? = some v → Value.okWide Try.prog W .any base t v := hval0
  have hW' := hW
  obtain ⟨p, q, hA0, hV, rfl, hfz, hnd⟩ := hW
  have hA : DataW.TrodAll enc Try.prog W 0 (fun _ => true) true Try.f7.params.toList args.toList ds p := hA0
  rw [Try.params7] at hA hval
  obtain ⟨v0, vs0, d0, ds0, p0, q0, hargs, rfl, rfl, h0, r0⟩ := trodAll_cons hA
  obtain ⟨rfl, rfl, rfl⟩ := trodAll_nil r0
  obtain rfl : args = #[v0] := by cases args; simp_all
  obtain ⟨rfl, rfl⟩ := trodVars_none hV
  obtain ⟨a0, rfl, rfl, rfl, w0⟩ := open_string Try.underlying9 (hval 0 9 v0 rfl rfl) h0
  clear hA0 hval0
  simp only [List.append_nil] at hW'
  refine (walk a0 w0 W).mono fun e W' ⟨he, bel⟩ => ?_
  subst he
  exact ⟨_, rfl, _, _, _, [], [], [], hW', trodAll_mk1 (shut_bool Try.underlying4 _), (trodAll_cons_mk (shut_string Try.underlying9 w0) trodAll_mk0), rfl, bel.frame _, fun h => by cases h⟩

theorem over : Rows.fnUnquoteWordsDropsQuotesWhereNoBackslashRow.holds Try.pinned (OpenSpec.ofChange Rows.fnUnquoteWordsDropsQuotesWhereNoBackslashSpec) :=
  OpenClaim.holds_of_wide 7 Try.f7 rfl rfl rfl rfl rfl rfl rfl ⟨rfl, rfl, rfl, rfl, rfl⟩ rfl rfl rfl rfl rfl (by kernel_rfl) Try.func7 (by kernel_rfl)
    (of_decide_eq_true (by kernel_rfl)) (by unfold Func.isWrapper; first | (rw [if_pos (by decide +kernel)]; kernel_rfl) | (rw [if_neg (by decide +kernel)]; exact ⟨rfl, rfl⟩))
    (fun os started H enc _ => lifted os started H enc)

/-- THE STATEMENT -/
theorem proved : Rows.FnUnquoteWordsDropsQuotesWhereNoBackslashSaid :=
  over
#print axioms proved
end Go.Proofs.Qxb6001516a.fnUnquoteWordsDropsQuotesWhereNoBackslash
