/-
  WALKS of seat b6001400a, four: mtasts.ValidHostName.
-/
import Derived.Test.Qxb6001400aW3
import Derived.Deep.Draws
import Derived.WalkSmall
namespace Go.Proofs.Qxb6001400a
open Go.RowKit
set_option linter.unusedVariables false

/-- some byte is no digit. -/
def hasND (l : List UInt8) : Bool := l.any Pl.nonDig

/-- strings.Cut at a dot. -/
def CutSaid : Prop := ∀ (s : ByteArray) (m : Int) (w : World), s.size < 4294967281 → w.cell? ⟨0, 0, none⟩ = some (.int .i64 m) →
  Calls Try.prog 33 #[.string s, .string ⟨#[46]⟩] w fun e w' => ∃ lb rs mo n, e = .returned (.tuple #[.string lb, .string rs, .bool mo]) ∧
    Pl.cutD s.data.toList = (lb.data.toList, rs.data.toList, mo) ∧ w' = w.drewN n

/-- strings.ContainsFunc at ValidHostName's literal. -/
def ContSaid : Prop := ∀ (s : ByteArray) (w : World), s.data.toList.all Pl.okB = true →
  Calls Try.prog 35 #[.string s, .func (.func 36) #[] #[]] w fun e w' => e = .returned (.bool (hasND s.data.toList)) ∧ Below w.heap.size w w'

def vmeas : Value → Value → Nat
  | .string rs, .bool true => rs.size + 1
  | _, _ => 0

/-- the loop's relation: what has been read is good; what is left decides. -/
def VInv (s lb rs : ByteArray) (mo : Bool) : Prop :=
  rs.size ≤ 253 ∧ lb.size ≤ 253 ∧ (mo = true → Pl.validF (rs.size + 1) rs.data.toList = Pl.valid s.data.toList) ∧
  (mo = false → Pl.labOk lb.data.toList = true ∧ hasND lb.data.toList = Pl.valid s.data.toList)

theorem hide {p : Prop} (h : p) : Hid p := h
theorem unhide {p : Prop} (h : Hid p) : p := h

theorem validF_fuel : ∀ (n : Nat) (l : List UInt8), l.length < n → Pl.validF n l = Pl.validF (l.length + 1) l
  | 0, _, h => by omega
  | n + 1, l, h => by
    unfold Pl.validF
    cases hm : (Pl.cutD l).2.2
    · simp
    · have := Pl.cutD_len l hm
      rw [validF_fuel n _ (by omega), validF_fuel l.length _ (by omega)]

theorem step_no {s lb rs rs' : ByteArray} {mo : Bool} (HI : Hid (Pl.validF (rs.size + 1) rs.data.toList = Pl.valid s.data.toList)) (HC : Hid (Pl.cutD rs.data.toList = (lb.data.toList, rs'.data.toList, mo)))
    (h : Pl.labOk lb.data.toList = false) : Pl.valid s.data.toList = false := by
  rw [← HI.out]
  unfold Pl.validF
  rw [HC.out]
  simp [h]

theorem step_yes {s lb rs rs' : ByteArray} {mo : Bool} (HI : Hid (Pl.validF (rs.size + 1) rs.data.toList = Pl.valid s.data.toList)) (HC : Hid (Pl.cutD rs.data.toList = (lb.data.toList, rs'.data.toList, mo)))
    (hrs : rs.size ≤ 253) (h : Pl.labOk lb.data.toList = true) : VInv s lb rs' mo ∧ (mo = true → rs'.size < rs.size) := by
  have l1 := Pl.cutD_fst_len rs.data.toList
  have l2 := Pl.cutD_snd_len rs.data.toList
  have l3 := Pl.cutD_len rs.data.toList
  have e := HI.out
  unfold Pl.validF at e
  rw [HC.out] at l1 l2 l3 e
  simp only [← Lib.size_eq] at l1 l2 l3
  simp only [h, Bool.true_and] at e
  refine ⟨⟨by omega, by omega, ?_, ?_⟩, l3⟩
  · rintro rfl
    simp only [if_true] at e
    rw [← e, validF_fuel rs.size _ (by rw [← Lib.size_eq]; exact l3 rfl), Lib.size_eq rs']
  · rintro rfl
    simp only [Bool.false_eq_true, if_false] at e
    exact ⟨h, e⟩

theorem head_of (lb : ByteArray) (h : 0 < lb.size) : lb.data.toList.head? = some lb[0] := by
  rw [List.head?_eq_getElem?, List.getElem?_eq_getElem (by simpa using h)]
  rfl
theorem last_of (lb : ByteArray) (h : 0 < lb.size) : lb.data.toList.getLast? = some (lb[lb.size - 1]) := by
  have hl : lb.data.toList.length = lb.size := (Lib.size_eq lb).symm
  rw [List.getLast?_eq_getElem?, List.getElem?_eq_getElem (by omega)]
  simp only [hl]
  rfl
theorem byte45 (c : UInt8) : c.toNat = 45 ↔ c = 45 := by
  rw [← UInt8.toNat_inj]; rfl

theorem lab_no0 (lb : ByteArray) (h : lb.size = 0) : Pl.labOk lb.data.toList = false := by
  unfold Pl.labOk; rw [← Lib.size_eq]; simp [h]
theorem lab_no1 (lb : ByteArray) (h : 63 < lb.size) : Pl.labOk lb.data.toList = false := by
  unfold Pl.labOk; rw [← Lib.size_eq]
  have : ¬ lb.size ≤ 63 := by omega
  simp [this]
theorem lab_no2 (lb : ByteArray) (h0 : 0 < lb.size) (h : lb[0].toNat = 45) : Pl.labOk lb.data.toList = false := by
  unfold Pl.labOk; rw [head_of lb h0, (byte45 _).1 h]; simp
theorem lab_no3 (lb : ByteArray) (h0 : 0 < lb.size) (h : (lb[lb.size - 1]).toNat = 45) : Pl.labOk lb.data.toList = false := by
  unfold Pl.labOk; rw [last_of lb h0, (byte45 _).1 h]; simp
theorem lab_no4 (lb : ByteArray) (k : Nat) (hk : k < lb.size) (h : Pl.okB lb[k] = false) : Pl.labOk lb.data.toList = false := by
  unfold Pl.labOk
  have : lb.data.toList.all Pl.okB = false := by
    rw [List.all_eq_false]
    exact ⟨lb[k], List.getElem_mem (l := lb.data.toList) (by simpa using hk), by simp [h]⟩
  simp [this]
theorem lab_yes (lb : ByteArray) (h0 : 0 < lb.size) (h1 : ¬ 63 < lb.size) (h2 : ¬ lb[0].toNat = 45) (h3 : ¬ (lb[lb.size - 1]).toNat = 45) (h4 : ∀ k (hk : k < lb.size), Pl.okB lb[k] = true) : Pl.labOk lb.data.toList = true := by
  unfold Pl.labOk
  have : lb.data.toList.all Pl.okB = true := by
    rw [List.all_eq_true]
    intro c hc
    obtain ⟨k, hk, rfl⟩ := List.getElem_of_mem hc
    exact h4 k (by simpa using hk)
  rw [head_of lb h0, last_of lb h0, this, ← Lib.size_eq]
  have e2 : ¬ lb[0] = 45 := fun e => h2 ((byte45 _).2 e)
  have e3 : ¬ lb[lb.size - 1] = 45 := fun e => h3 ((byte45 _).2 e)
  have e4 : ¬ lb.size = 0 := by omega
  have e5 : lb.size ≤ 63 := by omega
  simp [e2, e3, e4, e5]
theorem lab_all {lb : ByteArray} (h : Pl.labOk lb.data.toList = true) : lb.data.toList.all Pl.okB = true := by
  unfold Pl.labOk at h
  simp only [Bool.and_eq_true] at h
  exact h.2

theorem ret_bool {a b : Bool} (h : a = b) : Ending.returned (.bool a) = .returned (.bool b) := by rw [h]

set_option maxHeartbeats 1000000 in
theorem valid_yes (hcut : CutSaid) (hcont : ContSaid) (s : ByteArray) (m : Int) (w : World) (h0 : s.size ≠ 0) (h253 : s.size ≤ 253) (hg : 0 < w.heap.size) (hm : w.cell? ⟨0, 0, none⟩ = some (.int .i64 m)) :
    Calls Try.prog 19 #[.string s] w fun e w' => e = .returned (.bool (Pl.valid s.data.toList)) ∧ Below w.heap.size w w' := by
  have t0 : (((s.size : Nat) : Int) == 0) = false := beq_eq_false_iff_ne.2 (by omega)
  go_enter Try.func19, Try.ntmps19
  go_wp2
  go_loopw [3, 4, 5] (fun lab rest more wr => ∃ (lb rs : ByteArray) (mo : Bool), lab = .string lb ∧ rest = .string rs ∧ more = .bool mo ∧ Below w.heap.size w wr ∧ VInv s lb rs mo) (fun _ rest more _ => vmeas rest more)
  case atStart =>
    refine ⟨_, _, _, rfl, rfl, rfl, Below.refl _ _, by omega, by decide, ?_, by simp⟩
    intro _
    simp [Pl.valid, h0, h253]
  case round =>
    obtain ⟨lb, rs, mo, rfl, rfl, rfl, hb, hinv⟩ := hrel
    have hm' : wr.cell? ⟨0, 0, none⟩ = some (.int .i64 m) := (hb.cell (p := ⟨0, 0, none⟩) hg).trans hm
    cases mo
    · obtain ⟨b1, b2, _, hi⟩ := hinv
      have HI := hide (hi rfl)
      clear hi
      go_wp2_with fail
      refine (hcont lb _ (lab_all (unhide HI).1)).mono ?_
      rintro e w' ⟨rfl, hb'⟩
      go_wp2
      go_ret
      exact ⟨ret_bool (unhide HI).2, hb.trans (hb'.mono hb.size)⟩
    · obtain ⟨b1, b2, hi, _⟩ := hinv
      have HI : Hid (Pl.validF (rs.size + 1) rs.data.toList = Pl.valid s.data.toList) := hi rfl
      clear hi
      go_wp2_with fail
      refine (hcut rs m _ (by omega) hm').mono ?_
      rintro e w' ⟨lb', rs', mo', n, rfl, hc, rfl⟩
      have HC : Hid (Pl.cutD rs.data.toList = (lb'.data.toList, rs'.data.toList, mo')) := hc
      clear hc
      have hbn : Below w.heap.size w (wr.drewN n) := below_drewN hb n
      by_cases z1 : lb'.size = 0
      · have q1 : (((lb'.size : Nat) : Int) == 0) = true := beq_iff_eq.2 (by omega)
        have fin := hide (step_no HI HC (lab_no0 _ z1))
        clear z1
        go_wp2
        go_ret
        exact ⟨ret_bool (unhide fin).symm, hbn⟩
      have q1 : (((lb'.size : Nat) : Int) == 0) = false := beq_eq_false_iff_ne.2 (by omega)
      by_cases z2 : 63 < lb'.size
      · have fin := hide (step_no HI HC (lab_no1 _ z2))
        go_wp2
        go_ret
        exact ⟨ret_bool (unhide fin).symm, hbn⟩
      have p0 : 0 < lb'.size := by omega
      by_cases z3 : lb'[0].toNat = 45
      · have fin := hide (step_no HI HC (lab_no2 _ p0 z3))
        have q3 : (((lb'[0].toNat : Nat) : Int) == 45) = true := beq_iff_eq.2 (by omega)
        clear z3
        go_wp2
        go_ret
        exact ⟨ret_bool (unhide fin).symm, hbn⟩
      have q3 : (((lb'[0].toNat : Nat) : Int) == 45) = false := beq_eq_false_iff_ne.2 (by omega)
      by_cases z4 : (lb'[lb'.size - 1]).toNat = 45
      · have fin := hide (step_no HI HC (lab_no3 _ p0 z4))
        have q4 : (((lb'[lb'.size - 1].toNat : Nat) : Int) == 45) = true := beq_iff_eq.2 (by omega)
        clear z4
        go_wp2
        go_ret
        exact ⟨ret_bool (unhide fin).symm, hbn⟩
      have q4 : (((lb'[lb'.size - 1].toNat : Nat) : Int) == 45) = false := beq_eq_false_iff_ne.2 (by omega)
      have hconv := fun (W : World) => run_bytes_of_string (P := Try.prog) W 9 27 5 lb' Try.underlying9 Try.underlying27 Try.underlying5
      go_wp2
      clear hconv
      generalize grownCap (wr.drewN n) lb'.size 0 5 = cp
      have hrow := mrow_new (wr.drewN (n + 1)) lb' cp
      have hb2 : Below w.heap.size w ((wr.drewN (n + 1)).alloc (.cells (bytesRow lb' cp) 5 ((bytesRow lb' cp).size, (bytesRow lb' cp).size + 1))) := (below_drewN hb (n + 1)).alloc hb.size _
      have eB : (wr.drewN (n + 1)).heap.size = wr.heap.size := rfl
      rw [eB] at hrow
      generalize (wr.drewN (n + 1)).alloc (.cells (bytesRow lb' cp) 5 ((bytesRow lb' cp).size, (bytesRow lb' cp).size + 1)) = W2 at hrow hb2 ⊢
      have hcells : ∀ k (hk : k < lb'.size), W2.cell? ⟨wr.heap.size, k, none⟩ = some (.int .u8 (lb'[k].toNat : Int)) := fun k hk => hrow.cell k (by simpa using hk)
      clear hrow eB
      go_loop [48] (fun i => ∃ k : Nat, k ≤ lb'.size ∧ i = .int .i64 k ∧ ∀ j (hj : j < lb'.size), j < k → Pl.okB lb'[j] = true) (fun i => lb'.size - (intOf i).toNat)
      case atStart => exact ⟨0, by omega, rfl, fun j hj h => by omega⟩
      case round =>
        obtain ⟨k, hk, rfl, hall⟩ := hrel
        have HA := hide hall
        clear hall
        by_cases hlt : k < lb'.size
        · have hck := hcells k hlt
          have HCC := hide hcells
          clear hcells
          cases ha : Pl.isAl lb'[k]
          · by_cases hd : lb'[k].toNat = 45
            · have qd : (((lb'[k].toNat : Nat) : Int) != 45) = false := by simp; omega
              have hok : Pl.okB lb'[k] = true := by unfold Pl.okB; rw [(byte45 _).1 hd]; decide
              have HOK := hide hok
              clear hok hd
              go_wp2_with (go_at_call 34; refine (isAlnum_any _ _).mono ?_; rintro e w' ⟨rfl, rfl⟩; rw [ha])
              go_round
              case rel =>
                refine ⟨k + 1, by omega, by go_num, fun j hj h => ?_⟩
                by_cases e : j = k
                · subst e; exact unhide HOK
                · exact unhide HA j hj (by omega)
              case measure => simp [intOf]; omega
            · have qd : (((lb'[k].toNat : Nat) : Int) != 45) = true := by simp; omega
              have hok : Pl.okB lb'[k] = false := by
                unfold Pl.okB
                rw [ha, Bool.false_or, beq_eq_false_iff_ne]
                exact fun e => hd ((byte45 _).2 e)
              have fin := hide (step_no HI HC (lab_no4 _ k hlt hok))
              clear hok hd
              go_wp2_with (go_at_call 34; refine (isAlnum_any _ _).mono ?_; rintro e w' ⟨rfl, rfl⟩; rw [ha])
              go_ret
              exact ⟨ret_bool (unhide fin).symm, hb2⟩
          · have hok : Pl.okB lb'[k] = true := by unfold Pl.okB; rw [ha, Bool.true_or]
            have HOK := hide hok
            clear hok
            go_wp2_with (go_at_call 34; refine (isAlnum_any _ _).mono ?_; rintro e w' ⟨rfl, rfl⟩; rw [ha])
            go_round
            case rel =>
              refine ⟨k + 1, by omega, by go_num, fun j hj h => ?_⟩
              by_cases e : j = k
              · subst e; exact unhide HOK
              · exact unhide HA j hj (by omega)
            case measure => simp [intOf]; omega
        · have R := hide (step_yes HI HC b1 (lab_yes _ p0 z2 z3 z4 (fun j hj => unhide HA j hj (by omega))))
          clear hcells
          go_wp2
          go_roundw
          case rel => exact ⟨lb', rs', mo', rfl, rfl, rfl, hb2, (unhide R).1⟩
          case measure =>
            cases mo'
            · simp [vmeas]
            · have := (unhide R).2 rfl
              simp [vmeas]; omega

set_option maxHeartbeats 400000 in
theorem valid_no (s : ByteArray) (w : World) (hs : s.size ≤ maxLen) (h : s.size = 0 ∨ 253 < s.size) :
    Calls Try.prog 19 #[.string s] w fun e w' => e = .returned (.bool (Pl.valid s.data.toList)) ∧ Below w.heap.size w w' := by
  unfold maxLen at hs
  have fin : Pl.valid s.data.toList = false := by
    unfold Pl.valid
    rw [← Lib.size_eq]
    rcases h with h | h
    · simp [h]
    · have : ¬ s.size ≤ 253 := by omega
      simp [this]
  rw [fin]
  clear fin
  rcases h with h | h
  · have q1 : (((s.size : Nat) : Int) == 0) = true := beq_iff_eq.2 (by omega)
    clear h
    go_enter Try.func19, Try.ntmps19
    go_wp2
    go_ret
    exact ⟨rfl, Below.refl _ _⟩
  · have q1 : (((s.size : Nat) : Int) == 0) = false := beq_eq_false_iff_ne.2 (by omega)
    go_enter Try.func19, Try.ntmps19
    go_wp2
    go_ret
    exact ⟨rfl, Below.refl _ _⟩

/-- mtasts.ValidHostName -/
theorem valid_any (hcut : CutSaid) (hcont : ContSaid) (s : ByteArray) (m : Int) (w : World) (hs : s.size ≤ maxLen) (hg : 0 < w.heap.size) (hm : w.cell? ⟨0, 0, none⟩ = some (.int .i64 m)) :
    Calls Try.prog 19 #[.string s] w fun e w' => e = .returned (.bool (Pl.valid s.data.toList)) ∧ Below w.heap.size w w' := by
  by_cases h : s.size = 0 ∨ 253 < s.size
  · exact valid_no s w hs h
  · exact valid_yes hcut hcont s m w (by omega) (by omega) hg hm

end Go.Proofs.Qxb6001400a
