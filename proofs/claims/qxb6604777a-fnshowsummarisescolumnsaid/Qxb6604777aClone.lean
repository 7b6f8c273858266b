/- cloneStrings by a contract. -/
import Derived.Test.Qxb6604777aScript
import Derived.Lib.SliceRun
namespace Go.Proofs.Qxb6604777a
open Go.RowKit

set_option maxHeartbeats 1000000 in
theorem clone_some (b off len cap : Nat) (l : List ByteArray) (w : World) (hn : len ≤ 1048576) (hl : l.length = len) (hc : Col w b off l) :
    Calls Try.prog 13 #[.slice (some ⟨b, off, none⟩) len cap] w fun e w' => e = .returned (.slice (some ⟨w.heap.size, 0, none⟩) len len) ∧
      w'.ownsRow w.heap.size 9 1 (.slice (some ⟨w.heap.size, 0, none⟩) len len) len (sv l) ∧ Below w.heap.size w w' := by
  obtain ⟨i0, hi, hz0, hz1, hz2⟩ := info_parts Try.info9
  have q23 : ∀ (w : World) (a : Option Addr) (n c n' c' : Nat), (binOp .eql 23 (.slice a n c) (.slice none n' c')).run Try.prog w = .ok (.bool a.isNone) w := fun w a n c n' c' => Lib.run_eql_slice_nil w _ _ a n c n' c' Try.underlying23
  have HC := hideIt hc
  have HL := hideIt hl
  clear hc hl
  go_enter Try.func13, Try.ntmps13
  go_wp2_with (at_make; refine wpList_make_full _ rfl (.tmp 8) (.tmp 8) 23 rfl w.heap.size 9 i0 (.string ⟨#[]⟩) 1 Try.underlying23 hi hz0 hz1 .i64 .i64 _ _ len rfl rfl (by omega) (by omega) (by rw [hz2]; omega) (by unfold maxLen; omega) (Nat.le_refl _) ?_)
  intro w1 hown hg
  have hb1 : Below w.heap.size w w1 := (Below.refl _ _).grown hg (Nat.le_refl _) (fun k hk => by cases hk)
  have HO := hideIt hown
  have HB := hideIt hb1
  clear hown hg hb1
  go_wp2
  go_loopw [4] (fun i wr => ∃ k : Nat, ∃ ys : List Value, k ≤ len ∧ i = .int .i64 k ∧ wr.ownsRow w.heap.size 9 1 (.slice (some ⟨w.heap.size, 0, none⟩) len len) len ys ∧ (∀ j, j < k → ys[j]? = (sv l)[j]?) ∧ Below w.heap.size w wr) (fun i _ => len - (intOf i).toNat)
  case atStart => exact ⟨0, _, Nat.zero_le _, rfl, HO.out, fun j hj => by omega, HB.out⟩
  case round =>
    obtain ⟨k, ys, hk, rfl, hown, hys, hbel⟩ := hrel
    by_cases hlt : k < len
    · have hkl : k < l.length := by have := HL.out; omega
      have h1 := HC.out k hkl
      have hbw : b < w.heap.size := World.block_lt_of_cell? w _ h1
      obtain ⟨s, hs⟩ : ∃ s, s = l[k] := ⟨_, rfl⟩
      rw [← hs] at h1
      have hcx : wr.cell? ⟨b, off + k, none⟩ = some (.string s) := (hbel.cell (by exact hbw)).trans h1
      have hfr := hown.frozenAt k
      have hyl : k < ys.length := by rw [hown.1]; omega
      obtain ⟨u, hu⟩ : ∃ u, ys[k]? = some u := ⟨_, List.getElem?_eq_getElem hyl⟩
      have hco : wr.cell? ⟨w.heap.size, k, none⟩ = some u := (hown.cellAt k (by omega)).trans hu
      have hst := hown.stored k (.string s)
      have HR : Hid ((∀ j, j < k + 1 → (ys.set k (.string s))[j]? = (sv l)[j]?) ∧ Below w.heap.size w (wr.setCell ⟨w.heap.size, k, none⟩ (.string s)) ∧ (wr.setCell ⟨w.heap.size, k, none⟩ (.string s)).ownsRow w.heap.size 9 1 (.slice (some ⟨w.heap.size, 0, none⟩) len len) len (ys.set k (.string s))) := by
        refine ⟨fun j hj => ?_, hbel.setCell (Nat.le_refl _) _, hst.1⟩
        by_cases e : j = k
        · subst e; simp [hyl, sv, hkl, hs]
        · rw [List.getElem?_set_ne (by omega)]; exact hys j (by omega)
      clear hst hys hu h1 hs
      go_wp2
      go_roundw
      case rel => exact ⟨k + 1, _, by omega, by go_num, HR.out.2.2, HR.out.1, HR.out.2.1⟩
      case measure => simp [intOf]; omega
    · obtain rfl : k = len := by omega
      have hfin : ys = sv l := by
        apply List.ext_getElem?
        intro j
        by_cases hj : j < k
        · exact hys j hj
        · rw [List.getElem?_eq_none (by rw [hown.1]; omega), List.getElem?_eq_none (by have := HL.out; simp [sv]; omega)]
      rw [hfin] at hown
      clear hys hfin
      go_wp2
      go_ret
      exact ⟨rfl, hown, hbel⟩
end Go.Proofs.Qxb6604777a
