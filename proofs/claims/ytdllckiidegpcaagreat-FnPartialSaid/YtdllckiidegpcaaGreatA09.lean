/- A part of the walk of laws.FnPartial (part 9): contracts of functions that it comes to, and the plain laws that these lean on. Conditions stand in each contract. -/
import Derived.Test.YtdllckiidegpcaaGreatA03
set_option linter.unusedSimpArgs false
set_option linter.unusedVariables false
namespace Go.Proofs.YtdllckiidegpcaaGreat
open Go.RowKit
/-- laws.more as reckoning. -/
def moreN (n b : Int) : Int := if 100000 < n ∨ 100000 < b ∨ 100000 < n + b then 100001 else n + b
theorem more_c (w : World) (n b : Int) (hn : 0 ≤ n ∧ n < 9223372036854775808) (hb : 0 ≤ b ∧ b < 9223372036854775808) :
  Calls Tryz.prog 17 #[.int .i64 n,.int .i64 b] w fun e w' => e = .returned (.int .i64 (moreN n b)) ∧ w = w' := by
 by_cases h1 : 100000 < n
 ·go_enter Tryz.func17,Tryz.ntmps17
  go_wp2_with fail
  go_ret
  exact ⟨by simp [moreN,h1],rfl⟩
 ·by_cases h2 : 100000 < b
  ·go_enter Tryz.func17,Tryz.ntmps17
   go_wp2_with fail
   go_ret
   exact ⟨by simp [moreN,h2],rfl⟩
  ·by_cases h3 : 100000 < n + b
   ·go_enter Tryz.func17,Tryz.ntmps17
    go_wp2_with fail
    go_ret
    exact ⟨by simp [moreN,h3],rfl⟩
   ·go_enter Tryz.func17,Tryz.ntmps17
    go_wp2_with fail
    go_ret
    have e : moreN n b = n + b := by rw [moreN,if_neg (by omega)]
    rw [e]; exact ⟨rfl,rfl⟩
end Go.Proofs.YtdllckiidegpcaaGreat
