/- The walk of FnShowSummarisesColumn: the early answers. -/
import Derived.Test.Qxb6604777aSizes
namespace Go.Proofs.Qxb6604777a
open Go.RowKit
set_option linter.unusedVariables false

/-- Too long: the law answers at once. -/
theorem col_long (c : Int) (ao : Option Addr) (n cap : Nat) (l : List ByteArray) (v : ByteArray) (w : World) (hn : n ≤ maxLen) (hv : v.size ≤ maxLen) (hl : l.length = n) (hc : AnyCol w ao l) (hs : ∀ s ∈ l, s.size ≤ maxLen) (h : 65536 < n ∨ (n ≤ 65536 ∧ 1048576 < v.size)) :
    Calls Try.prog 4 #[.slice ao n cap, .int .i64 c, .string v] w fun e w' => e = .returned (.bool true) ∧ Below w.heap.size w w' := by
  have HZ := hideIt (zz15_any c ao n cap l v w hv hl hn hc hs)
  unfold maxLen at hn hv
  clear hc hs hl
  rcases h with h | ⟨h, h'⟩
  · have d : decide ((65536 : Int) < (n : Int)) = true := decide_eq_true (by omega)
    go_enter Try.func4, Try.ntmps4
    go_wp2_with fail
    refine HZ.out.mono ?_
    rintro e w' ⟨⟨rb, rfl⟩, rfl⟩
    cases rb
    · go_wp2
      go_ret
      exact ⟨rfl, Below.refl _ _⟩
    · go_wp2
      go_ret
      exact ⟨rfl, Below.refl _ _⟩
  · have d : decide ((65536 : Int) < (n : Int)) = false := decide_eq_false (by omega)
    have d' : decide ((1048576 : Int) < (v.size : Int)) = true := decide_eq_true (by omega)
    go_enter Try.func4, Try.ntmps4
    go_wp2_with fail
    refine HZ.out.mono ?_
    rintro e w' ⟨⟨rb, rfl⟩, rfl⟩
    cases rb
    · go_wp2
      go_ret
      exact ⟨rfl, Below.refl _ _⟩
    · go_wp2
      go_ret
      exact ⟨rfl, Below.refl _ _⟩

/-- The entry's place is out of range: the law answers at once. -/
theorem col_out (c : Int) (ao : Option Addr) (n cap : Nat) (l : List ByteArray) (v : ByteArray) (w : World) (hn : n ≤ 65536) (hv : v.size ≤ 1048576) (hl : l.length = n) (hc : AnyCol w ao l) (hs : ∀ s ∈ l, s.size ≤ maxLen) (h : c < 0 ∨ (0 ≤ c ∧ (n : Int) ≤ c)) :
    Calls Try.prog 4 #[.slice ao n cap, .int .i64 c, .string v] w fun e w' => e = .returned (.bool true) ∧ Below w.heap.size w w' := by
  have HZ := hideIt (zz15_any c ao n cap l v w (by unfold maxLen; omega) hl (by unfold maxLen; omega) hc hs)
  have HS := hideIt (stringsBytes_any ao n cap l w hl (by unfold maxLen; omega) hc hs)
  clear hc hs hl
  rcases h with h | ⟨h, h'⟩
  all_goals
    go_enter Try.func4, Try.ntmps4
    go_wp2_with fail
    refine HZ.out.mono ?_
    rintro e w' ⟨⟨rb, rfl⟩, rfl⟩
    cases rb
    · go_wp2
      go_ret
      exact ⟨rfl, Below.refl _ _⟩
    · go_wp2_with fail
      refine HS.out.mono ?_
      rintro e w0 ⟨t, rfl, t0, t1, rfl⟩
      by_cases ht : t + (v.size : Int) ≤ 1048576
      · go_wp2
        go_ret
        exact ⟨rfl, Below.refl _ _⟩
      · go_wp2
        go_ret
        exact ⟨rfl, Below.refl _ _⟩
end Go.Proofs.Qxb6604777a
