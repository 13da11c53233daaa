import Derived.Test.Qxb6000090aRows
import Derived.WalkKit
import Derived.WalkSpells
import Derived.WalkLawsBesides
import Derived.RowKit3
import Derived.Laws.Pointers
namespace Go.Proofs.Qxb6000090a.La
open Go.RowKit
set_option linter.unusedVariables false

theorem ret_int {k : IntKind} {a b : Int} (h : a = b) : Ending.returned (.int k a) = .returned (.int k b) := by rw [h]

/-- one step of Map: the generic right b, where m holds it, is replaced by r -/
def step (b r m : Int) : Int := if (bits .and .u32 m b != 0) = true then bits .or .u32 (bits .andNot .u32 m b) r else m
/-- Map -/
def mapI (rd wr ex al m : Int) : Int := step 268435456 al (step 536870912 ex (step 1073741824 wr (step 2147483648 rd m)))

set_option maxHeartbeats 1600000 in
theorem map_any (rd wr ex al m : Int) (w : World) :
    Calls Try.prog 12 #[.agg #[.int .u32 rd, .int .u32 wr, .int .u32 ex, .int .u32 al], .int .u32 m] w fun e w' => e = .returned (.int .u32 (mapI rd wr ex al m)) ∧ ∃ c, w' = w.alloc (.cells c 25) := by
  go_enter Try.func12, Try.ntmps12
  go_wp2
  all_goals
    go_ret
    refine ⟨ret_int ?_, _, rfl⟩
    simp only [mapI, step, *, if_true, Bool.false_eq_true, if_false]
end Go.Proofs.Qxb6000090a.La
