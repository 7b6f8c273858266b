/- decimalText by a contract. -/
import Derived.Test.Qxb6604269aClone
import Derived.Test.Qxb6604269aDec
namespace Go.Proofs.Qxb6604269a
open Go.RowKit

/-- What decimalText leaves: a new row of 1 to 9 digit bytes that come to n. -/
def IsText (w w' : World) (n : Int) (e : Ending) : Prop :=
  ∃ (g L c : Nat) (ds : List Int), e = .returned (.slice (some ⟨g, 0, none⟩) L c) ∧ ds.length = L ∧ 1 ≤ L ∧ L ≤ 9 ∧ Digits ds ∧ dv 0 ds = n ∧
    (∀ j, j < L → w'.cell? ⟨g, j, none⟩ = some (.int .u8 (ds.getD j 0))) ∧ Below w.heap.size w w'

theorem text_zero (w : World) : Calls Try.prog 13 #[.int .i64 0] w fun e w' => IsText w w' 0 e := by
  go_enter Try.func13, Try.ntmps13
  go_wp2
  go_ret
  refine ⟨w.heap.size, 1, 1, [48], rfl, rfl, by omega, by omega, ?_, rfl, ?_, ?_⟩
  · intro d hd; simp at hd; omega
  · intro j hj
    obtain rfl : j = 0 := by omega
    simp
  · exact (Below.refl _ _).alloc (Nat.le_refl _) _

set_option maxHeartbeats 1000000 in
theorem text_pos (n : Int) (w : World) (h0 : 0 < n) (h9 : n ≤ 999999999) : Calls Try.prog 13 #[.int .i64 n] w fun e w' => IsText w w' n e := by
  go_enter Try.func13, Try.ntmps13
  go_wp2
  go_loopw [0, 4] (fun nv iv wr => ∃ (x : Int) (k m : Nat) (ds : List Int) (ys : List Value), nv = .int .i64 x ∧ iv = .int .i64 (k : Int) ∧ k + m = 20 ∧ 0 ≤ x ∧ x < lim m ∧ x ≤ 999999999 ∧ m ≤ 9 ∧ ds.length = m ∧ Digits ds ∧ dv x ds = n ∧
      wr.ownsRow w.heap.size 39 1 (.slice (some ⟨w.heap.size, 0, none⟩) 20 20) 20 ys ∧ (∀ j, j < m → ys[k + j]? = some (.int .u8 (ds.getD j 0))) ∧ Below w.heap.size w wr)
    (fun nv _ _ => (intOf nv).toNat)
  case atStart =>
    refine ⟨n, 20, 0, [], _, rfl, rfl, rfl, by omega, lim_zero n h9, h9, by omega, rfl, fun d hd => by simp at hd, rfl, World.ownsRow_lit w _ 20 (Nat.le_refl _) (by unfold maxLen; omega) rfl, fun j hj => by omega, (Below.refl _ _).alloc (Nat.le_refl _) _⟩
  case round =>
    obtain ⟨x, k, m, ds, ys, rfl, rfl, hkm, hx0, hxl, hx9, hm9, hdl, hdd, hdv, hown, hys, hbel⟩ := hrel
    have HD := hideIt hdv
    have HL := hideIt hdl
    clear hdv hdl
    by_cases hpos : 0 < x
    · obtain ⟨hm8, hlim⟩ := lim_step m x hpos hxl
      obtain ⟨k', rfl⟩ : ∃ k', k = k' + 1 := ⟨k - 1, by omega⟩
      have hk20 : k' < 20 := by omega
      have hfr := hown.frozenAt k'
      have hkl : k' < ys.length := by rw [hown.1]; omega
      obtain ⟨u, hu⟩ : ∃ u, ys[k']? = some u := ⟨_, List.getElem?_eq_getElem hkl⟩
      have hco : wr.cell? ⟨w.heap.size, k', none⟩ = some u := (hown.cellAt k' (by omega)).trans hu
      have HKM := hideIt hkm
      have HOWN := hideIt hown
      have HYS := hideIt hys
      have HBEL := hideIt hbel
      have b1 : 0 ≤ x % 10 := by omega
      have b2 : x % 10 ≤ 9 := by omega
      clear hkm hown hys hbel hu hxl
      go_wp2
      go_roundw
      case rel =>
        have hst := HOWN.out.stored k' (.int .u8 (48 + x % 10))
        refine ⟨x / 10, k', m + 1, (48 + x % 10) :: ds, ys.set k' (.int .u8 (48 + x % 10)), rfl, rfl, by have := HKM.out; omega, by omega, hlim, by omega, by omega, by simp [HL.out], ?_, ?_, hst.1, ?_, HBEL.out.setCell (Nat.le_refl _) _⟩
        · intro d hd
          rcases List.mem_cons.1 hd with rfl | hd
          · omega
          · exact hdd d hd
        · simp only [dv]
          rw [show x / 10 * 10 + (48 + x % 10 - 48) = x from by omega]
          exact HD.out
        · intro j hj
          cases j with
          | zero => simp [hkl]
          | succ j =>
            rw [List.getElem?_set_ne (by omega), show k' + (j + 1) = k' + 1 + j from by omega, HYS.out j (by omega)]
            simp
      case measure => simp [intOf]; omega
    · obtain rfl : x = 0 := by omega
      obtain ⟨wo, hwo⟩ : ∃ wo, wo = wr := ⟨_, rfl⟩
      subst hwo
      have hm1 : 1 ≤ m := by
        have h1 := HD.out; have h2 := HL.out
        cases ds with
        | nil => simp [dv] at h1; omega
        | cons a l => simp at h2; omega
      have hk20 : k ≤ 20 := by omega
      have HT : Hid (∀ j, j < m → wo.cell? ⟨w.heap.size, k + j, none⟩ = some (.int .u8 (ds.getD j 0))) := by
        intro j hj
        rw [hown.cellAt (k + j) (by omega)]
        exact hys j hj
      have hbw : w.heap.size < wo.heap.size := World.block_lt_of_cell? wo ⟨w.heap.size, k + 0, none⟩ (HT.out 0 (by omega))
      have HBEL := hideIt hbel
      have HKM := hideIt hkm
      clear hown hys hxl hbel
      obtain ⟨i0, hi, hz0, hz1, hz2⟩ := info_parts Try.info5
      go_wp2_with (at_make; refine wpList_make_full _ rfl (.tmp 23) (.tmp 23) 22 rfl wo.heap.size 5 i0 (.int .u8 0) 1 Try.underlying22 hi hz0 hz1 .i64 .i64 _ _ m rfl rfl (by omega) (by omega) (by rw [hz2]; omega) (by unfold maxLen; omega) (Nat.le_refl _) ?_)
      intro w1 hown1 hg1
      have HB1 : Hid (Below wo.heap.size wo w1) := (Below.refl _ _).grown hg1 (Nat.le_refl _) (fun k hk => by cases hk)
      clear hkm hg1
      go_wp2
      go_loopw [6] (fun i w2 => ∃ t : Nat, ∃ ys : List Value, t ≤ m ∧ i = .int .i64 t ∧ w2.ownsRow wo.heap.size 5 1 (.slice (some ⟨wo.heap.size, 0, none⟩) m m) m ys ∧ (∀ j, j < t → ys[j]? = some (.int .u8 (ds.getD j 0))) ∧ Below wo.heap.size wo w2) (fun i _ => m - (intOf i).toNat)
      case atStart => exact ⟨0, _, Nat.zero_le _, rfl, hown1, fun j hj => by omega, HB1.out⟩
      case round =>
        obtain ⟨t, ys2, ht, rfl, hown2, hys2, hbel2⟩ := hrel
        by_cases hlt : t < m
        · have hcx : wr.cell? ⟨w.heap.size, k + t, none⟩ = some (.int .u8 (ds.getD t 0)) := (hbel2.cell (by exact hbw)).trans (HT.out t hlt)
          have hfr := hown2.frozenAt t
          have hkl : t < ys2.length := by rw [hown2.1]; omega
          obtain ⟨u, hu⟩ : ∃ u, ys2[t]? = some u := ⟨_, List.getElem?_eq_getElem hkl⟩
          have hco : wr.cell? ⟨wo.heap.size, t, none⟩ = some u := (hown2.cellAt t (by omega)).trans hu
          have hst := hown2.stored t (.int .u8 (ds.getD t 0))
          have HR : Hid ((∀ j, j < t + 1 → (ys2.set t (.int .u8 (ds.getD t 0)))[j]? = some (.int .u8 (ds.getD j 0))) ∧ Below wo.heap.size wo (wr.setCell ⟨wo.heap.size, t, none⟩ (.int .u8 (ds.getD t 0))) ∧ (wr.setCell ⟨wo.heap.size, t, none⟩ (.int .u8 (ds.getD t 0))).ownsRow wo.heap.size 5 1 (.slice (some ⟨wo.heap.size, 0, none⟩) m m) m (ys2.set t (.int .u8 (ds.getD t 0)))) := by
            refine ⟨fun j hj => ?_, hbel2.setCell (Nat.le_refl _) _, hst.1⟩
            by_cases e : j = t
            · subst e; simp [hkl]
            · rw [List.getElem?_set_ne (by omega)]; exact hys2 j (by omega)
          clear hst hys2 hu
          have hzk : t < ds.length := by have := HL.out; omega
          have hkt : (k : Int) + (t : Int) < 20 := by have := HKM.out; omega
          go_wp2
          go_roundw
          case rel => exact ⟨t + 1, _, by omega, by go_num, by simpa [hzk] using HR.out.2.2, by simpa [hzk] using HR.out.1, by simpa [hzk] using HR.out.2.1⟩
          case measure => simp [intOf]; omega
        · obtain rfl : t = m := by omega
          have HF : Hid (∀ j, j < t → wr.cell? ⟨wo.heap.size, j, none⟩ = some (.int .u8 (ds.getD j 0))) := fun j hj => (hown2.cellAt j (by omega)).trans (hys2 j hj)
          have HB2 := hideIt hbel2
          clear hys2 hown2 hbel2
          go_wp2
          go_ret
          exact ⟨wo.heap.size, t, t, ds, rfl, HL.out, hm1, hm9, hdd, HD.out, HF.out, HBEL.out.trans (HB2.out.mono HBEL.out.size)⟩

theorem text_any (n : Int) (w : World) (h0 : 0 ≤ n) (h9 : n ≤ 999999999) : Calls Try.prog 13 #[.int .i64 n] w fun e w' => IsText w w' n e := by
  by_cases h : 0 < n
  · exact text_pos n w h h9
  · obtain rfl : n = 0 := by omega
    exact text_zero w
end Go.Proofs.Qxb6604269a
