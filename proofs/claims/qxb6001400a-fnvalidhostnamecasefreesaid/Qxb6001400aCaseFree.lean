/-
  THE STATEMENT 'Rows.FnValidHostNameCaseFreeSaid', PROVED: the walk of the law, and the row's frame.
-/
import Derived.Test.Qxb6001400aRows
import Derived.Test.Qxb6001400aW5
import Derived.WalkKit
import Derived.ProofKit
import Derived.OpenShut
import Derived.ShutString
import Derived.HandedShaped
namespace Go.Proofs.Qxb6001400a.fnValidHostNameCaseFree
open Go.ChangeShapes Go.WideShapes Go.ChangeAt Go.RowKit
open Go.ChangeMaps (open_string shut_string)
set_option linter.unusedVariables false

theorem tv {l : List UInt8} {t : ByteArray} {v : Bool} (ht : (⟨l.toArray⟩ : ByteArray) = t) (h : Pl.valid l = v) : Pl.valid t.data.toList = v := by
  subst ht; exact h

theorem pos_of_cell {w : World} {v : Value} (h : w.cell? ⟨0, 0, none⟩ = some v) : 0 < w.heap.size := by
  by_cases h0 : 0 < w.heap.size
  · exact h0
  · have e : w.heap[0]? = none := Array.getElem?_eq_none (by omega)
    simp [World.cell?, e] at h

theorem own : ownKnob Try.prog.godebug = none := by kernel_rfl

set_option maxHeartbeats 400000 in
theorem walk_big (a0 : ByteArray) (w0 : a0.size ≤ maxLen) (w : World) (hbig : 1048576 < a0.size) :
    Calls Try.prog 6 #[.string a0] w fun e w' => e = .returned (.bool true) ∧ Below w.heap.size w w' := by
  have hd : decide (a0.size ≤ 1048576) = false := by simp; omega
  go_enter Try.func6, Try.ntmps6
  go_wp2_with (go_at_call 18; refine (bytes18_any _ _ w0).mono ?_; rintro e w' ⟨rfl, rfl⟩; rw [hd])
  go_ret
  exact ⟨rfl, Below.refl _ _⟩

set_option maxHeartbeats 1000000 in
theorem walk_small (a0 : ByteArray) (w : World) (m : Int) (hg : 0 < w.heap.size) (hm : w.cell? ⟨0, 0, none⟩ = some (.int .i64 m)) (hsm : a0.size ≤ 1048576) :
    Calls Try.prog 6 #[.string a0] w fun e w' => e = .returned (.bool true) ∧ Below w.heap.size w w' := by
  have hmx : a0.size ≤ maxLen := by unfold maxLen; omega
  have hd : decide (a0.size ≤ 1048576) = true := by simp; omega
  have hV := hide (fun (t : ByteArray) (W : World) (hb : Below w.heap.size w W) (ht : t.size ≤ 1048576) =>
    valid_any cut_said cont_said t m W (by unfold maxLen; omega) (Nat.lt_of_lt_of_le hg hb.size) ((hb.cell (p := ⟨0, 0, none⟩) hg).trans hm))
  go_enter Try.func6, Try.ntmps6
  go_wp2_with (go_at_call 18; refine (bytes18_any _ _ hmx).mono ?_; rintro e w' ⟨rfl, rfl⟩; rw [hd])
  refine (unhide hV a0 _ (Below.refl _ _) hsm).mono ?_
  rintro e w1 ⟨rfl, hb1⟩
  have el : Pl.valid (a0.data.toList.map Pl.lowB) = Pl.valid a0.data.toList := Pl.valid_low _
  have eu : Pl.valid (a0.data.toList.map Pl.uppB) = Pl.valid a0.data.toList := Pl.valid_upp _
  generalize Pl.valid a0.data.toList = v at el eu ⊢
  have EL := hide el
  have EU := hide eu
  clear el eu
  have hmx' : a0.size ≤ 1048580 := by omega
  cases v
  all_goals
    go_wp2_with fail
    refine (zzLower_any a0 _ hmx').mono ?_
    rintro e w2 ⟨rfl, hb2⟩
    have hb2' := hb1.trans (hb2.mono hb1.size)
    generalize ht : (⟨(a0.data.toList.map Pl.lowB).toArray⟩ : ByteArray) = t
    have hts : t.size ≤ 1048576 := by rw [← ht, size_of_list, List.length_map, ← Lib.size_eq]; exact hsm
    have htv := tv ht (unhide EL)
    clear ht
    have HTV := hide htv
    clear htv
    go_wp2_with fail
    refine (unhide hV t _ hb2' hts).mono ?_
    rintro e w3 ⟨rfl, hb3⟩
    rw [unhide HTV]
    have hb3' := hb2'.trans (hb3.mono hb2'.size)
    go_wp2_with fail
    refine (upper_any a0 _ hsm).mono ?_
    rintro e w4 ⟨rfl, hb4⟩
    have hb4' := hb3'.trans (hb4.mono hb3'.size)
    generalize hu : (⟨(a0.data.toList.map Pl.uppB).toArray⟩ : ByteArray) = u
    have hus : u.size ≤ 1048576 := by rw [← hu, size_of_list, List.length_map, ← Lib.size_eq]; exact hsm
    have huv := tv hu (unhide EU)
    clear hu
    have HUV := hide huv
    clear huv
    go_wp2_with fail
    refine (unhide hV u _ hb4' hus).mono ?_
    rintro e w5 ⟨rfl, hb5⟩
    rw [unhide HUV]
    go_wp2
    go_ret
    exact ⟨rfl, hb4'.trans (hb5.mono hb4'.size)⟩

theorem walk (a0 : ByteArray) (w0 : a0.size ≤ maxLen) (w : World) (hsh : w.ShapedOpen Try.prog) :
    Calls Try.prog 6 #[.string a0] w fun e w' => e = .returned (.bool true) ∧ Below w.heap.size w w' := by
  by_cases h : 1048576 < a0.size
  · exact walk_big a0 w0 w h
  · obtain ⟨m, hm⟩ := Try.laysM145.s1_3 w hsh
    have hm' : w.cell? ⟨0, 0, none⟩ = some (.int .i64 m) := hm
    exact walk_small a0 w m (pos_of_cell hm') hm' (by omega)

set_option maxRecDepth 100000 in
theorem lifted (os : Os) (started : os.Started) (H : Type) (enc : TypeId × Value → H) :
    ReturnsInHanded {} Try.checked os 6 .any (Rows.fnValidHostNameCaseFreeSpec.pre6 enc Try.prog Try.f6 Rows.fnValidHostNameCaseFreeRow.domain false) (Rows.fnValidHostNameCaseFreeSpec.post enc Try.prog Try.f6 false true false false) := by
  refine returnsInHanded_of_change_shaped (C := Try.checked) own started (by kernel_rfl) Try.func6
    (ChangeSpec.witness6 (enc := enc) (C := Try.checked) false ⟨#[], #[.string ByteArray.empty], []⟩ 8 (by kernel_rfl) (by kernel_rfl) (by kernel_rfl) (by kernel_rfl)) ?_
  intro W base args ds gs before hval0 hW hcnd _ hsh _
  have hval : ∀ (j : Nat) t v, Try.f6.params[j]? = some t → args[j]? = some v → Value.okWide Try.prog W .any base t v := hval0
  have hW' := hW
  obtain ⟨p, q, hA0, hV, rfl, hfz, hnd⟩ := hW
  have hA : DataW.TrodAll enc Try.prog W 0 (fun _ => true) true Try.f6.params.toList args.toList ds p := hA0
  rw [Try.params6] at hA hval
  obtain ⟨v0, vs0, d0, ds0, p0, q0, hargs, rfl, rfl, h0, r0⟩ := trodAll_cons hA
  obtain ⟨rfl, rfl, rfl⟩ := trodAll_nil r0
  obtain rfl : args = #[v0] := by cases args; simp_all
  obtain ⟨rfl, rfl⟩ := trodVars_none hV
  obtain ⟨a0, rfl, rfl, rfl, w0⟩ := open_string Try.underlying9 (hval 0 9 v0 rfl rfl) h0
  clear hA0 hval0
  simp only [List.append_nil] at hW'
  refine (walk a0 w0 W hsh).mono fun e W' ⟨he, bel⟩ => ?_
  subst he
  exact ⟨_, rfl, _, _, _, [], [], [], hW', trodAll_mk1 (shut_bool Try.underlying4 _), (trodAll_cons_mk (shut_string Try.underlying9 w0) trodAll_mk0), rfl, bel.frame _, fun h => by cases h⟩

theorem over : Rows.fnValidHostNameCaseFreeRow.holds Try.pinned (OpenSpec.ofChange Rows.fnValidHostNameCaseFreeSpec) :=
  OpenClaim.holds_of_wide 6 Try.f6 rfl rfl rfl rfl rfl rfl rfl ⟨rfl, rfl, rfl, rfl, rfl⟩ rfl rfl rfl rfl rfl (by kernel_rfl) Try.func6 (by kernel_rfl)
    (of_decide_eq_true (by kernel_rfl)) (by unfold Func.isWrapper; first | (rw [if_pos (by decide +kernel)]; kernel_rfl) | (rw [if_neg (by decide +kernel)]; exact ⟨rfl, rfl⟩))
    (fun os started H enc _ => lifted os started H enc)

/-- THE STATEMENT -/
theorem proved : Rows.FnValidHostNameCaseFreeSaid :=
  over
#print axioms proved
end Go.Proofs.Qxb6001400a.fnValidHostNameCaseFree
