/- ZZShow by a contract: the call. -/
import Derived.Test.Qxb6604777aShow
namespace Go.Proofs.Qxb6604777a
open Go.RowKit

set_option maxHeartbeats 1000000 in
theorem zzShow_any (p e : Int) (r old v : ByteArray) (w : World) (p0 : 0 ≤ p) (p1 : p ≤ 2000000) (e0 : 0 ≤ e) (e1 : e ≤ 2000000) :
    Calls Try.prog 19 #[.int .i64 p, .int .i64 e, .string r, .string old, .string v] w fun en w' => en = .returned (.tuple #[.int .i64 (showP p old v), .int .i64 (showE p e r old v), .string (showR p r old v)]) ∧ Below w.heap.size w w' := by
  go_enter Try.func19, Try.ntmps19
  go_wp2_with fail
  refine (show_any p e r old v w p0 p1 e0 e1).mono ?_
  rintro en w' ⟨rfl, p', e', r', rfl, hp, he, hr⟩
  have HP := hideIt hp
  have HE := hideIt he
  have HR := hideIt hr
  clear hp he hr
  unfold shown
  go_wp2
  go_quiet (fail)
  go_wp2
  go_ret3
  refine ⟨by rw [← HP.out, ← HE.out, ← HR.out]; rfl, below_drewN ?_ _⟩
  exact (((Below.refl _ _).alloc (Nat.le_refl _) _).alloc (by simp) _).alloc (by simp; omega) _
end Go.Proofs.Qxb6604777a
