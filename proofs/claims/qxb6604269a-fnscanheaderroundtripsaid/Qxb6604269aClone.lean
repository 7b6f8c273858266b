/- cloneBytes and the byte counts by contracts. -/
import Derived.Test.Qxb6604269aLine
import Derived.Lib.SliceRun
import Derived.OpenShut
namespace Go.Proofs.Qxb6604269a
open Go.RowKit

/-- The bytes of a row, as values. -/
def bv (l : List Int) : List Value := l.map (Value.int .u8)

theorem clone_nil (w : World) : Calls Try.prog 9 #[.slice none 0 0] w fun e w' => e = .returned (.slice none 0 0) ∧ w' = w := by
  have q22 : ∀ (w : World) (a : Option Addr) (n c n' c' : Nat), (binOp .eql 22 (.slice a n c) (.slice none n' c')).run Try.prog w = .ok (.bool a.isNone) w := fun w a n c n' c' => Lib.run_eql_slice_nil w _ _ a n c n' c' Try.underlying22
  go_enter Try.func9, Try.ntmps9
  go_wp2
  go_ret
  exact ⟨rfl, rfl⟩

set_option maxHeartbeats 1000000 in
theorem clone_some (b off len cap : Nat) (zs : List Int) (w : World) (hl : len ≤ 1048576) (hz : len ≤ zs.length) (hc : ∀ j, j < len → w.cell? ⟨b, off + j, none⟩ = some (.int .u8 (zs.getD j 0))) :
    Calls Try.prog 9 #[.slice (some ⟨b, off, none⟩) len cap] w fun e w' => e = .returned (.slice (some ⟨w.heap.size, 0, none⟩) len len) ∧
      w'.ownsRow w.heap.size 5 1 (.slice (some ⟨w.heap.size, 0, none⟩) len len) len (bv (zs.take len)) ∧ Below w.heap.size w w' := by
  obtain ⟨i0, hi, hz0, hz1, hz2⟩ := info_parts Try.info5
  have q22 : ∀ (w : World) (a : Option Addr) (n c n' c' : Nat), (binOp .eql 22 (.slice a n c) (.slice none n' c')).run Try.prog w = .ok (.bool a.isNone) w := fun w a n c n' c' => Lib.run_eql_slice_nil w _ _ a n c n' c' Try.underlying22
  go_enter Try.func9, Try.ntmps9
  go_wp2_with (at_make; refine wpList_make_full _ rfl (.tmp 8) (.tmp 8) 22 rfl w.heap.size 5 i0 (.int .u8 0) 1 Try.underlying22 hi hz0 hz1 .i64 .i64 _ _ len rfl rfl (by omega) (by omega) (by rw [hz2]; omega) (by unfold maxLen; omega) (Nat.le_refl _) ?_)
  intro w1 hown hg
  have hb1 : Below w.heap.size w w1 := (Below.refl _ _).grown hg (Nat.le_refl _) (fun k hk => by cases hk)
  go_wp2
  go_loopw [4] (fun i wr => ∃ k : Nat, ∃ ys : List Value, k ≤ len ∧ i = .int .i64 k ∧ wr.ownsRow w.heap.size 5 1 (.slice (some ⟨w.heap.size, 0, none⟩) len len) len ys ∧ (∀ j, j < k → ys[j]? = some (.int .u8 (zs.getD j 0))) ∧ Below w.heap.size w wr) (fun i _ => len - (intOf i).toNat)
  case atStart => exact ⟨0, _, Nat.zero_le _, rfl, hown, fun j hj => by omega, hb1⟩
  case round =>
    obtain ⟨k, ys, hk, rfl, hown, hys, hbel⟩ := hrel
    by_cases hlt : k < len
    · have hbw : b < w.heap.size := World.block_lt_of_cell? w _ (hc k hlt)
      have hcx : wr.cell? ⟨b, off + k, none⟩ = some (.int .u8 (zs.getD k 0)) := (hbel.cell (by exact hbw)).trans (hc k hlt)
      have hfr := hown.frozenAt k
      have hkl : k < ys.length := by rw [hown.1]; omega
      obtain ⟨u, hu⟩ : ∃ u, ys[k]? = some u := ⟨_, List.getElem?_eq_getElem hkl⟩
      have hco : wr.cell? ⟨w.heap.size, k, none⟩ = some u := (hown.cellAt k (by omega)).trans hu
      have hst := hown.stored k (.int .u8 (zs.getD k 0))
      have HR : Hid ((∀ j, j < k + 1 → (ys.set k (.int .u8 (zs.getD k 0)))[j]? = some (.int .u8 (zs.getD j 0))) ∧ Below w.heap.size w (wr.setCell ⟨w.heap.size, k, none⟩ (.int .u8 (zs.getD k 0))) ∧ (wr.setCell ⟨w.heap.size, k, none⟩ (.int .u8 (zs.getD k 0))).ownsRow w.heap.size 5 1 (.slice (some ⟨w.heap.size, 0, none⟩) len len) len (ys.set k (.int .u8 (zs.getD k 0)))) := by
        refine ⟨fun j hj => ?_, hbel.setCell (Nat.le_refl _) _, hst.1⟩
        by_cases e : j = k
        · subst e; simp [hkl]
        · rw [List.getElem?_set_ne (by omega)]; exact hys j (by omega)
      clear hst hys hu
      have hzk : k < zs.length := by omega
      go_wp2
      go_roundw
      case rel => exact ⟨k + 1, _, by omega, by go_num, by simpa [hzk] using HR.out.2.2, by simpa [hzk] using HR.out.1, by simpa [hzk] using HR.out.2.1⟩
      case measure => simp [intOf]; omega
    · obtain rfl : k = len := by omega
      have hfin : ys = bv (zs.take k) := by
        apply List.ext_getElem?
        intro j
        by_cases hj : j < k
        · rw [hys j hj]; simp [bv, hj, List.getElem?_eq_getElem (by omega : j < zs.length)]
        · rw [List.getElem?_eq_none (by rw [hown.1]; omega), List.getElem?_eq_none (by simp [bv]; omega)]
      rw [hfin] at hown
      clear hys hfin
      go_wp2
      go_ret
      exact ⟨rfl, hown, hbel⟩

theorem clone_empty (x : Addr) (cap : Nat) (w : World) :
    Calls Try.prog 9 #[.slice (some x) 0 cap] w fun e w' => e = .returned (.slice (some ⟨w.heap.size, 0, none⟩) 0 0) ∧
      w'.ownsRow w.heap.size 5 1 (.slice (some ⟨w.heap.size, 0, none⟩) 0 0) 0 (bv []) ∧ Below w.heap.size w w' := by
  obtain ⟨i0, hi, hz0, hz1, hz2⟩ := info_parts Try.info5
  have q22 : ∀ (w : World) (a : Option Addr) (n c n' c' : Nat), (binOp .eql 22 (.slice a n c) (.slice none n' c')).run Try.prog w = .ok (.bool a.isNone) w := fun w a n c n' c' => Lib.run_eql_slice_nil w _ _ a n c n' c' Try.underlying22
  go_enter Try.func9, Try.ntmps9
  go_wp2_with (at_make; refine wpList_make_full _ rfl (.tmp 8) (.tmp 8) 22 rfl w.heap.size 5 i0 (.int .u8 0) 1 Try.underlying22 hi hz0 hz1 .i64 .i64 _ _ 0 rfl rfl (by omega) (by omega) (by omega) (by unfold maxLen; omega) (Nat.le_refl _) ?_)
  intro w1 hown hg
  have hb1 : Below w.heap.size w w1 := (Below.refl _ _).grown hg (Nat.le_refl _) (fun k hk => by cases hk)
  have hown' : w1.ownsRow w.heap.size 5 1 (.slice (some ⟨w.heap.size, 0, none⟩) 0 0) 0 (bv []) := by rw [toList_madeCells_one] at hown; exact hown
  clear hown hg
  go_wp2
  refine wp_loop_rounds 1 ?_
  rw [rounds_succ]
  go_wp2
  go_ret
  exact ⟨rfl, hown', hb1⟩

/-- cloneBytes of whatever slice of bytes came in. -/
theorem clone_row (a : Option Addr) (len cap : Nat) (zs : List Int) (w : World) (hl : len ≤ 1048576)
    (h : (a = none ∧ len = 0 ∧ cap = 0 ∧ zs = []) ∨ ∃ x, a = some x ∧ len ≤ cap ∧ cap ≤ maxLen ∧ zs.length = cap ∧ (∀ i, i < zs.length → w.cell? (x.add i) = some (.int .u8 (zs.getD i 0))) ∧ ∀ n ∈ zs, (Lit.int .u8 n).wf = true) :
    Calls Try.prog 9 #[.slice a len cap] w fun e w' => ∃ ao, e = .returned (.slice ao len len) ∧ Below w.heap.size w w' ∧
      ((ao = none ∧ len = 0) ∨ (ao = some ⟨w.heap.size, 0, none⟩ ∧ w'.ownsRow w.heap.size 5 1 (.slice (some ⟨w.heap.size, 0, none⟩) len len) len (bv (zs.take len)))) := by
  rcases h with ⟨rfl, rfl, rfl, rfl⟩ | ⟨x, rfl, h1, h2, h3, h4, h5⟩
  · refine (clone_nil w).mono ?_
    rintro e w' ⟨rfl, rfl⟩
    exact ⟨_, rfl, Below.refl _ _, .inl ⟨rfl, rfl⟩⟩
  · by_cases h0 : len = 0
    · subst h0
      refine (clone_empty x cap w).mono ?_
      rintro e w' ⟨rfl, ho, hb⟩
      exact ⟨_, rfl, hb, .inr ⟨rfl, by simpa using ho⟩⟩
    · obtain ⟨b, off, rfl, hc⟩ := Go.ints_at h4 (by omega)
      refine (clone_some b off len cap zs w hl (by omega) (fun j hj => hc j (by omega))).mono ?_
      rintro e w' ⟨rfl, ho, hb⟩
      exact ⟨_, rfl, hb, .inr ⟨rfl, ho⟩⟩
end Go.Proofs.Qxb6604269a
