/-
  WALKS of seat b6001400a, one: the small predicates, the bound on the length.
-/
import Derived.Test.Qxb6001400aProg
import Derived.Test.Qxb6001400aPlain
import Derived.WalkKit
import Derived.WalkSpells
namespace Go.Proofs.Qxb6001400a
open Go.RowKit
set_option linter.unusedVariables false

set_option maxHeartbeats 400000 in
/-- mtasts.isAlnum -/
theorem isAlnum_any (c : UInt8) (w : World) :
    Calls Try.prog 34 #[.int .u8 (c.toNat : Int)] w fun e w' => e = .returned (.bool (Pl.isAl c)) ∧ w' = w := by
  have hc := c.toNat_lt
  by_cases h1 : 97 ≤ c.toNat <;> by_cases h2 : c.toNat ≤ 122 <;> by_cases h3 : 65 ≤ c.toNat <;> by_cases h4 : c.toNat ≤ 90 <;> by_cases h5 : 48 ≤ c.toNat <;> by_cases h6 : c.toNat ≤ 57
  all_goals first
    | (exfalso; omega)
    | (go_enter Try.func34, Try.ntmps34
       go_wp2
       go_ret
       exact ⟨by simp [Pl.isAl, *] <;> omega, rfl⟩)

def isUp (c : UInt8) : Bool := decide (65 ≤ c.toNat) && decide (c.toNat ≤ 90)
def isLo (c : UInt8) : Bool := decide (97 ≤ c.toNat) && decide (c.toNat ≤ 122)

set_option maxHeartbeats 400000 in
/-- zzIsUpper -/
theorem isUpper_any (c : UInt8) (w : World) :
    Calls Try.prog 14 #[.int .u8 (c.toNat : Int)] w fun e w' => e = .returned (.bool (isUp c)) ∧ w' = w := by
  by_cases h1 : 65 ≤ c.toNat <;> by_cases h2 : c.toNat ≤ 90
  all_goals first
    | (exfalso; omega)
    | (go_enter Try.func14, Try.ntmps14
       go_wp2
       go_ret
       exact ⟨by simp [isUp, *] <;> omega, rfl⟩)

set_option maxHeartbeats 400000 in
/-- zzIsLower -/
theorem isLower_any (c : UInt8) (w : World) :
    Calls Try.prog 16 #[.int .u8 (c.toNat : Int)] w fun e w' => e = .returned (.bool (isLo c)) ∧ w' = w := by
  by_cases h1 : 97 ≤ c.toNat <;> by_cases h2 : c.toNat ≤ 122
  all_goals first
    | (exfalso; omega)
    | (go_enter Try.func16, Try.ntmps16
       go_wp2
       go_ret
       exact ⟨by simp [isLo, *] <;> omega, rfl⟩)

set_option maxHeartbeats 400000 in
/-- zzBytes_FnValidHostNameCaseFree -/
theorem bytes18_any (s : ByteArray) (w : World) (hs : s.size ≤ maxLen) :
    Calls Try.prog 18 #[.string s] w fun e w' => e = .returned (.bool (decide (s.size ≤ 1048576))) ∧ w' = w := by
  unfold maxLen at hs
  by_cases h1 : s.size ≤ 1048576
  all_goals
    go_enter Try.func18, Try.ntmps18
    go_wp2
    go_ret
    exact ⟨by simp [h1], rfl⟩

end Go.Proofs.Qxb6001400a
