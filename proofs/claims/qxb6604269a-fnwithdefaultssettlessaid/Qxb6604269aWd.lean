import Derived.Test.Qxb6604269aRows
import Derived.WalkKit
import Derived.ProofKit
import Derived.OpenShut
import Derived.ShutString
namespace Go.Proofs.Qxb6604269a
open Go.ChangeShapes Go.WideShapes Go.ChangeAt Go.RowKit

/-- A field of 0 or less stands for its default. -/
def wd (d a : Int) : Int := if a ≤ 0 then d else a
theorem wd_le {d a : Int} (h : a ≤ 0) : wd d a = d := by simp [wd, h]
theorem wd_gt {d a : Int} (h : ¬ a ≤ 0) : wd d a = a := by simp [wd, h]
def T3 (a b c : Int) : Value := .agg #[.int .i64 a, .int .i64 b, .int .i64 c]

theorem withDefaults_any (a b c : Int) (w : World) :
    Calls Try.prog 22 #[.agg #[.int .i64 a, .int .i64 b, .int .i64 c]] w fun e w' =>
      e = .returned (.agg #[.int .i64 (wd 536870912 a), .int .i64 (wd 1048576 b), .int .i64 (wd 65536 c)]) ∧ ∃ c1 c2 : Array Value, w' = (w.alloc (.cells c1 30)).alloc (.cells c2 30) := by
  by_cases h1 : a ≤ 0 <;> by_cases h2 : b ≤ 0 <;> by_cases h3 : c ≤ 0
  all_goals
    simp only [wd, h1, h2, h3, if_true, if_false]
    go_enter Try.func22, Try.ntmps22
    go_wp2
    simp [bodyPost, results, Try.results22, go_sem]
    exact ⟨_, _, rfl⟩

theorem zzWithDefaults_any (a b c : Int) (w : World) :
    Calls Try.prog 14 #[.agg #[.int .i64 a, .int .i64 b, .int .i64 c]] w fun e w' =>
      e = .returned (.agg #[.int .i64 (wd 536870912 a), .int .i64 (wd 1048576 b), .int .i64 (wd 65536 c)]) ∧ ∃ c1 c2 c3 c4 : Array Value, w' = (((w.alloc (.cells c1 30)).alloc (.cells c2 30)).alloc (.cells c3 30)).alloc (.cells c4 30) := by
  go_enter Try.func14, Try.ntmps14
  go_wp2_with (go_at_call 22; refine (withDefaults_any a b c _).mono ?_; rintro e w' ⟨rfl, o1, o2, rfl⟩)
  simp [bodyPost, results, Try.results14, go_sem]
  exact ⟨_, _, _, _, rfl⟩
end Go.Proofs.Qxb6604269a
