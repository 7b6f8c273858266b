/- What came in, as the walks take it. -/
import Derived.Test.Qxb6604777aScript
import Derived.OpenShut
namespace Go.Proofs.Qxb6604777a
open Go.RowKit

/-- A slice of strings that came in. -/
def IsStrs (w : World) (a : Option Addr) (len : Nat) (l : List ByteArray) : Prop := l.length = len ∧ len ≤ maxLen ∧ AnyCol w a l ∧ ∀ s ∈ l, s.size ≤ maxLen
/-- A slice of ints that came in. -/
def IsInts (w : World) (a : Option Addr) (len : Nat) (f : Nat → Int) : Prop := len ≤ maxLen ∧ AnyInts w a len f

theorem strs_nil (w : World) : IsStrs w none 0 [] := ⟨rfl, Nat.zero_le _, fun j h => by simp at h, fun s h => by simp at h⟩
theorem strs_of (w : World) (a : Addr) (len cap : Nat) (ss : List ByteArray) (hl : len ≤ cap) (hm : cap ≤ maxLen) (hz : ss.length = cap) (hc : ∀ i, i < ss.length → w.cell? (a.add i) = some (.string (ss.getD i ByteArray.empty))) (hs : ∀ s ∈ ss, s.size ≤ maxLen) : IsStrs w (some a) len (ss.take len) := by
  refine ⟨by simp; omega, Nat.le_trans hl hm, fun j hj => ?_, fun s h => hs s (List.mem_of_mem_take h)⟩
  have hj' : j < len ∧ j < ss.length := by simp at hj; omega
  obtain ⟨b, off, spot⟩ := a
  have hspot : spot = none := by simpa [Addr.add] using World.cell?_spot (hc 0 (by omega))
  subst hspot
  refine ⟨b, off, rfl, ?_⟩
  rw [← Go.WideShapes.add_plain, hc j hj'.2]
  simp [hj'.2]
theorem ints_nil (w : World) : IsInts w none 0 (fun _ => 0) := ⟨Nat.zero_le _, fun j h => by omega⟩
theorem ints_of (w : World) (a : Addr) (len cap : Nat) (zs : List Int) (hl : len ≤ cap) (hm : cap ≤ maxLen) (hz : zs.length = cap) (hc : ∀ i, i < zs.length → w.cell? (a.add i) = some (.int .i64 (zs.getD i 0))) : IsInts w (some a) len (fun j => zs.getD j 0) := by
  refine ⟨Nat.le_trans hl hm, fun j hj => ?_⟩
  obtain ⟨b, off, rfl, h⟩ := Go.ints_at hc (by omega)
  exact ⟨b, off, rfl, World.block_lt_of_cell? w _ (h j (by omega)), h j (by omega)⟩
end Go.Proofs.Qxb6604777a
