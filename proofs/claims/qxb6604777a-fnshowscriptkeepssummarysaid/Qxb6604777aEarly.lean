/- The walk of FnShowScriptKeepsSummary: the early answers. -/
import Derived.Test.Qxb6604777aSizes
namespace Go.Proofs.Qxb6604777a
open Go.RowKit
set_option linter.unusedVariables false

/-- Too long: the law answers at once. -/
theorem early_long (x : Int) (ap av : Option Addr) (m capm n capn : Nat) (vs : List ByteArray) (w : World) (hm : m ≤ maxLen) (hn : n ≤ maxLen) (hvl : vs.length = n) (hv : AnyCol w av vs) (hvs : ∀ s ∈ vs, s.size ≤ maxLen) (h : 4096 < m ∨ (m ≤ 4096 ∧ 4096 < n)) :
    Calls Try.prog 5 #[.int .i64 x, .slice ap m capm, .slice av n capn] w fun e w' => e = .returned (.bool true) ∧ Below w.heap.size w w' := by
  have HZ := hideIt (zz21_any x ap av m capm n capn vs w hm hvl hn hv hvs)
  unfold maxLen at hm hn
  clear hv hvs hvl
  rcases h with h | ⟨h, h'⟩
  · have d : decide ((4096 : Int) < (m : Int)) = true := decide_eq_true (by omega)
    go_enter Try.func5, Try.ntmps5
    go_wp2_with fail
    refine HZ.out.mono ?_
    rintro e w' ⟨⟨rb, rfl⟩, rfl⟩
    cases rb
    · go_wp2
      go_ret
      exact ⟨rfl, Below.refl _ _⟩
    · go_wp2
      go_ret
      exact ⟨rfl, Below.refl _ _⟩
  · have d : decide ((4096 : Int) < (m : Int)) = false := decide_eq_false (by omega)
    have d' : decide ((4096 : Int) < (n : Int)) = true := decide_eq_true (by omega)
    go_enter Try.func5, Try.ntmps5
    go_wp2_with fail
    refine HZ.out.mono ?_
    rintro e w' ⟨⟨rb, rfl⟩, rfl⟩
    cases rb
    · go_wp2
      go_ret
      exact ⟨rfl, Below.refl _ _⟩
    · go_wp2
      go_ret
      exact ⟨rfl, Below.refl _ _⟩

/-- The width is out of range: the law answers at once. -/
theorem early_wide (x : Int) (ap av : Option Addr) (m capm n capn : Nat) (vs : List ByteArray) (w : World) (hm : m ≤ 4096) (hn : n ≤ 4096) (hvl : vs.length = n) (hv : AnyCol w av vs) (hvs : ∀ s ∈ vs, s.size ≤ maxLen) (h : x < 0 ∨ 4096 < x) :
    Calls Try.prog 5 #[.int .i64 x, .slice ap m capm, .slice av n capn] w fun e w' => e = .returned (.bool true) ∧ Below w.heap.size w w' := by
  have HZ := hideIt (zz21_any x ap av m capm n capn vs w (by unfold maxLen; omega) hvl (by unfold maxLen; omega) hv hvs)
  have HS := hideIt (stringsBytes_any av n capn vs w hvl (by unfold maxLen; omega) hv hvs)
  clear hv hvs hvl
  obtain ⟨y, hy⟩ : ∃ y : Bool, y = decide (x < 0) := ⟨_, rfl⟩
  have hx : (decide (x < 0) || decide (4096 < x)) = true := by rcases h with h | h <;> simp [h]
  clear hy
  rcases h with h | h
  all_goals
    go_enter Try.func5, Try.ntmps5
    go_wp2_with fail
    refine HZ.out.mono ?_
    rintro e w' ⟨⟨rb, rfl⟩, rfl⟩
    cases rb
    · go_wp2
      go_ret
      exact ⟨rfl, Below.refl _ _⟩
    · go_wp2_with fail
      refine HS.out.mono ?_
      rintro e w0 ⟨t, rfl, t0, t1, rfl⟩
      by_cases ht : 8 * (m : Int) + t ≤ 1048576
      · go_wp2
        go_ret
        exact ⟨rfl, Below.refl _ _⟩
      · go_wp2
        go_ret
        exact ⟨rfl, Below.refl _ _⟩

end Go.Proofs.Qxb6604777a
