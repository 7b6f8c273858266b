/- What came in, as the walks take it. -/
import Derived.Test.Qxb6600506aTrip
import Derived.OpenShut
namespace Go.Proofs.Qxb6600506a
open Go.RowKit

/-- A slice of bytes that came in. -/
def InRow (w : World) (a : Option Addr) (len cap : Nat) (zs : List Int) : Prop :=
  (a = none ∧ len = 0 ∧ cap = 0 ∧ zs = []) ∨ ∃ x, a = some x ∧ len ≤ cap ∧ cap ≤ maxLen ∧ zs.length = cap ∧ (∀ i, i < zs.length → w.cell? (x.add i) = some (.int .u8 (zs.getD i 0))) ∧ ∀ n ∈ zs, (Lit.int .u8 n).wf = true

theorem InRow.facts {w : World} {a : Option Addr} {len cap : Nat} {zs : List Int} (h : InRow w a len cap zs) :
    len ≤ maxLen ∧ (zs.take len).length = len ∧ Src w w.heap.size a (zs.take len) ∧ NilEmpty a len cap := by
  rcases h with ⟨rfl, rfl, rfl, rfl⟩ | ⟨x, rfl, h1, h2, h3, h4, _⟩
  · exact ⟨Nat.zero_le _, rfl, fun j h => by simp at h, fun _ => ⟨rfl, rfl⟩⟩
  · refine ⟨Nat.le_trans h1 h2, by simp; omega, fun j hj => ?_, fun h => by cases h⟩
    have hj' : j < len ∧ j < zs.length := by simp at hj; omega
    obtain ⟨b, off, rfl, hc⟩ := Go.ints_at h4 (by omega)
    have hcj := hc j hj'.2
    refine ⟨b, off, rfl, World.block_lt_of_cell? w _ hcj, ?_⟩
    rw [hcj]
    simp [hj'.2]
end Go.Proofs.Qxb6600506a
