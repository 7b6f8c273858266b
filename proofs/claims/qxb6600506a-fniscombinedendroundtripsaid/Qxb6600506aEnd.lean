/- isCombinedEnd by a contract, at two whole fields with t behind them; the walk of FnIsCombinedEndRoundTrip. -/
import Derived.Test.Qxb6600506aTrip
namespace Go.Proofs.Qxb6600506a
open Go.RowKit

theorem Cells.tail {w : World} {g off : Nat} {x : Int} {D : List Int} (h : Cells w g off (x :: D)) : Cells w g (off + 1) D := by
  intro j y hy
  have := h (j + 1) y (by simpa using hy)
  rw [show off + 1 + j = off + (j + 1) from by omega]
  exact this
theorem Cells.rest {w : World} {g off : Nat} {l R : List Int} (h : Cells w g off (field l ++ R)) : Cells w g (off + (field l).length) R := by
  intro j y hy
  have := h ((field l).length + j) y (by rw [field_len, at_rest]; exact hy)
  rw [Nat.add_assoc]
  exact this
theorem Cells.head {w : World} {g off : Nat} {x : Int} {D : List Int} (h : Cells w g off (x :: D)) : w.cell? ⟨g, off, none⟩ = some (.int .u8 x) := by simpa using h 0 x (by simp)

set_option maxHeartbeats 2000000 in
theorem end_any (g C : Nat) (r u t : List Int) (f1 f2 n N : Nat) (w : World) (h1 : (field r).length = f1) (h2 : (field u).length = f2) (ht : t.length = n) (hN : N = 1 + (f1 + (1 + (f2 + n)))) (hC : N ≤ C) (hC' : C ≤ 8388608)
    (hD : Cells w g 0 (32 :: (field r ++ (32 :: (field u ++ t))))) :
    Calls Try.prog 30 #[.slice (some ⟨g, 0, none⟩) N C] w fun e w' => e = .returned (.bool ((n : Int) == 0)) ∧ w' = w := by
  have hf1 : 2 ≤ f1 := by rw [← h1, field_len]; omega
  have hf2 : 2 ≤ f2 := by rw [← h2, field_len]; omega
  have c0 := hD.head
  have d1 := hD.tail
  have d2 := d1.rest
  have c1 := d2.head
  have d3 := d2.tail
  rw [h1, Nat.zero_add] at c1 d3
  rw [Nat.zero_add] at d1
  have D1 := hideIt d1
  have D3 := hideIt d3
  have H1 := hideIt h1
  have H2 := hideIt h2
  have HT := hideIt ht
  have hNlo : 6 ≤ N := by omega
  have HN := hideIt hN
  clear hD d1 d2 d3 h1 h2 ht hN
  go_enter Try.func30, Try.ntmps30
  go_wp2
  go_loop [0, 3, 4] (fun bv' _ iv => (iv = .int .i64 0 ∧ bv' = .slice (some ⟨g, 0, none⟩) N C) ∨ (iv = .int .i64 1 ∧ bv' = .slice (some ⟨g, 1 + f1, none⟩) (1 + (f2 + n)) (C - 1 - f1)) ∨ (iv = .int .i64 2 ∧ ∃ a c, bv' = .slice (some a) n c)) (fun _ _ iv => 2 - (intOf iv).toNat)
  case atStart => exact .inl ⟨rfl, rfl⟩
  case round =>
    rcases hrel with ⟨rfl, rfl⟩ | ⟨rfl, rfl⟩ | ⟨rfl, a, c, rfl⟩
    · have hC1 : 1 < C := by omega
      go_wp2_with fail
      refine (quoted_any g 1 (N - 1) (C - 1) r (32 :: (field u ++ t)) w D1.out (by have a1 := HN.out; have a2 := H1.out; have a3 := H2.out; have a4 := HT.out; simp only [List.length_cons, List.length_append]; omega) (by omega) (by omega)).mono ?_
      rintro e w' ⟨⟨a, rfl, ha⟩, rfl⟩
      have ha' := ha (by simp)
      have hlen : (32 :: (field u ++ t)).length = 1 + (f2 + n) := by have a3 := H2.out; have a4 := HT.out; simp only [List.length_cons, List.length_append]; omega
      rw [hlen, H1.out]
      rw [H1.out] at ha'
      subst ha'
      clear ha hlen
      go_wp2
      go_round
      case rel => exact .inr (.inl ⟨rfl, rfl⟩)
      case measure => simp [intOf]
    · have hC2 : 1 < C - 1 - f1 := by have := HN.out; omega
      have hN2 : ((1 + (f2 + n) : Nat) : Int) = 1 + ((f2 : Int) + (n : Int)) := by omega
      go_wp2_with fail
      refine (quoted_any g (1 + f1 + 1) (f2 + n) (C - 1 - f1 - 1) u t w D3.out (by have a3 := H2.out; have a4 := HT.out; omega) (by have := HN.out; omega) (by omega)).mono ?_
      rintro e w' ⟨⟨a, rfl, ha⟩, rfl⟩
      rw [HT.out]
      clear ha
      go_wp2
      go_round
      case rel => exact .inr (.inr ⟨rfl, _, _, rfl⟩)
      case measure => simp [intOf]
    · go_wp2
      go_ret
      exact ⟨rfl, rfl⟩

theorem zzEnd_any (g C : Nat) (r u t : List Int) (f1 f2 n N : Nat) (w : World) (h1 : (field r).length = f1) (h2 : (field u).length = f2) (ht : t.length = n) (hN : N = 1 + (f1 + (1 + (f2 + n)))) (hC : N ≤ C) (hC' : C ≤ 8388608)
    (hD : Cells w g 0 (32 :: (field r ++ (32 :: (field u ++ t))))) :
    Calls Try.prog 20 #[.slice (some ⟨g, 0, none⟩) N C] w fun e w' => e = .returned (.bool ((n : Int) == 0)) ∧ w' = w := by
  have HE := hideIt (end_any g C r u t f1 f2 n N w h1 h2 ht hN hC hC' hD)
  clear h1 h2 ht hN hD hC hC'
  go_enter Try.func20, Try.ntmps20
  go_wp2_with fail
  refine HE.out.mono ?_
  rintro e w' ⟨rfl, rfl⟩
  go_wp2
  go_ret
  exact ⟨rfl, rfl⟩

theorem zz22_yes (a a' a2 : Option Addr) (len cap len' cap' len2 cap2 : Nat) (w : World) (h : len + len' + len2 ≤ 1048576) :
    Calls Try.prog 22 #[.slice a len cap, .slice a' len' cap', .slice a2 len2 cap2] w fun e w' => e = .returned (.bool true) ∧ w' = w := by
  have h1 : len ≤ 1048576 := by omega
  have h2 : len' ≤ 1048576 := by omega
  have h3 : len2 ≤ 1048576 := by omega
  have h4 : len + len' ≤ 1048576 := by omega
  go_enter Try.func22, Try.ntmps22
  go_wp2
  go_ret
  exact ⟨rfl, rfl⟩
theorem zz22_no (a a' a2 : Option Addr) (len cap len' cap' len2 cap2 : Nat) (w : World) (hl : len ≤ maxLen) (hs : len' ≤ maxLen) (ht : len2 ≤ maxLen) (h : ¬ len + len' + len2 ≤ 1048576) :
    Calls Try.prog 22 #[.slice a len cap, .slice a' len' cap', .slice a2 len2 cap2] w fun e w' => e = .returned (.bool false) ∧ w' = w := by
  unfold maxLen at hl hs ht
  by_cases h1 : len ≤ 1048576
  · by_cases h2 : len' ≤ 1048576
    · by_cases h4 : len + len' ≤ 1048576
      · by_cases h3 : len2 ≤ 1048576
        · go_enter Try.func22, Try.ntmps22
          go_wp2
          go_ret
          exact ⟨rfl, rfl⟩
        · go_enter Try.func22, Try.ntmps22
          go_wp2
          go_ret
          exact ⟨rfl, rfl⟩
      · go_enter Try.func22, Try.ntmps22
        go_wp2
        go_ret
        exact ⟨rfl, rfl⟩
    · go_enter Try.func22, Try.ntmps22
      go_wp2
      go_ret
      exact ⟨rfl, rfl⟩
  · go_enter Try.func22, Try.ntmps22
    go_wp2
    go_ret
    exact ⟨rfl, rfl⟩

set_option maxHeartbeats 4000000 in
theorem end_main (ra ua ta : Option Addr) (n0 c0 n1 c1 n2 c2 : Nat) (r u t : List Int) (w : World) (hr : r.length = n0) (hu : u.length = n1) (ht : t.length = n2) (hn0 : n0 ≤ 262144) (hn1 : n1 ≤ 262144) (hn2 : n2 ≤ 262144)
    (hR : Src w w.heap.size ra r) (hU : Src w w.heap.size ua u) (hT : Src w w.heap.size ta t) (hz : NilEmpty ta n2 c2) :
    Calls Try.prog 7 #[.slice ra n0 c0, .slice ua n1 c1, .slice ta n2 c2] w fun e w' => e = .returned (.bool true) ∧ Below w.heap.size w w' := by
  obtain ⟨i0, hi, hz0, hz1, hz2⟩ := info_parts Try.info5
  have hf1 : (field r).length ≤ 2 * n0 + 2 := by have h1 := field_len r; have h2 := esc_len r; omega
  have hf2 : (field u).length ≤ 2 * n1 + 2 := by have h1 := field_len u; have h2 := esc_len u; omega
  have HR := hideIt hR
  have HU := hideIt hU
  have HT := hideIt hT
  have HRL := hideIt hr
  have HUL := hideIt hu
  have HTL := hideIt ht
  have HZ := hideIt hz
  clear hR hU hT hr hu ht hz
  obtain ⟨f1, e1⟩ : ∃ f1, f1 = (field r).length := ⟨_, rfl⟩
  obtain ⟨f2, e2⟩ : ∃ f2, f2 = (field u).length := ⟨_, rfl⟩
  have HF1 : Hid ((field r).length = f1) := e1.symm
  have HF2 : Hid ((field u).length = f2) := e2.symm
  rw [← e1] at hf1
  rw [← e2] at hf2
  clear e1 e2
  go_enter Try.func7, Try.ntmps7
  go_wp2_with fail
  refine (zz22_yes _ _ _ _ _ _ _ _ _ _ (by omega)).mono ?_
  rintro e w0 ⟨rfl, rfl⟩
  go_wp2_with (at_make; refine wpList_make_own _ rfl (.const (.int .i64 0)) (.tmp 32) 22 rfl w0.heap.size 5 i0 (.int .u8 0) 1 Try.underlying22 hi hz0 hz1 .i64 .i64 _ (2 * n0 + 2 * n1 + 6 + n2) rfl rfl (by omega) (by rw [hz2]; omega) (by unfold maxLen; omega) (Nat.le_refl _) ?_)
  intro w1 ho1 hg1
  have HO1 := hideIt ho1
  have HB1 : Hid (Below w0.heap.size w0 w1) := (Below.refl _ _).grown hg1 (Nat.le_refl _) (fun k hk => by cases hk)
  clear ho1 hg1
  go_wp2_with (at_builtin; refine wpList_append_fits _ rfl (.tmp 34) (.tmp 35) 22 rfl w0.heap.size 5 i0 1 Try.underlying22 hi hz1 w0.heap.size 0 (2 * n0 + 2 * n1 + 6 + n2) [] rfl (HO1.out.alloc _) ⟨w1.heap.size, 0, none⟩ 1 1 [.int .u8 32] rfl rfl (cell_one_new _ _ _) (by intro u hu; simp at hu; subst hu; rfl) (by omega) ?_)
  intro w2 ho2 hg2
  have HO2 : Hid (Row w2 w0.heap.size w0.heap.size 1 (2 * n0 + 2 * n1 + 6 + n2) [32]) := hideIt (by unfold Row; simpa [bv] using ho2)
  have HB2 : Hid (Below w0.heap.size w0 w2) := (HB1.out.alloc HB1.out.size _).grown hg2 (by have := HB1.out.size; simp; omega) (fun k hk => by cases hk; exact Nat.le_refl _)
  clear ho2 hg2 HO1
  go_wp2_with fail
  refine (field_any w0.heap.size w0.heap.size 1 (2 * n0 + 2 * n1 + 6 + n2) [32] ra n0 c0 r w2 HB2.out.size HO2.out (HR.out.below HB2.out) HRL.out (by omega) (by omega) (by omega)).mono ?_
  rintro e w3 ⟨rfl, ho3, hb3⟩
  rw [HF1.out] at ho3
  rw [HF1.out]
  have HO3 : Hid (w3.ownsRow w0.heap.size 5 1 (.slice (some ⟨w0.heap.size, 0, none⟩) (1 + f1) (2 * n0 + 2 * n1 + 6 + n2)) (1 + f1) (bv ([32] ++ field r))) := ho3
  have HB3 : Hid (Below w0.heap.size w0 w3) := HB2.out.trans hb3
  clear ho3 hb3 HO2
  go_wp2_with (at_builtin; refine wpList_append_fits _ rfl (.tmp 40) (.tmp 41) 22 rfl w0.heap.size 5 i0 1 Try.underlying22 hi hz1 w0.heap.size (1 + f1) (2 * n0 + 2 * n1 + 6 + n2) (bv ([32] ++ field r)) rfl (HO3.out.alloc _) ⟨w3.heap.size, 0, none⟩ 1 1 [.int .u8 32] rfl rfl (cell_one_new _ _ _) (by intro u hu; simp at hu; subst hu; rfl) (by omega) ?_)
  intro w4 ho4 hg4
  have HO4 : Hid (Row w4 w0.heap.size w0.heap.size (1 + f1 + 1) (2 * n0 + 2 * n1 + 6 + n2) ([32] ++ field r ++ [32])) := hideIt (by unfold Row; simpa [bv] using ho4)
  have HB4 : Hid (Below w0.heap.size w0 w4) := (HB3.out.alloc HB3.out.size _).grown hg4 (by have := HB3.out.size; simp; omega) (fun k hk => by cases hk; exact Nat.le_refl _)
  clear ho4 hg4 HO3
  go_wp2_with fail
  refine (field_any w0.heap.size w0.heap.size (1 + f1 + 1) (2 * n0 + 2 * n1 + 6 + n2) ([32] ++ field r ++ [32]) ua n1 c1 u w4 HB4.out.size HO4.out (HU.out.below HB4.out) HUL.out (by omega) (by omega) (by omega)).mono ?_
  rintro e w5 ⟨rfl, ho5, hb5⟩
  rw [HF2.out] at ho5
  rw [HF2.out]
  have HO5 : Hid (w5.ownsRow w0.heap.size 5 1 (.slice (some ⟨w0.heap.size, 0, none⟩) (1 + f1 + 1 + f2) (2 * n0 + 2 * n1 + 6 + n2)) (1 + f1 + 1 + f2) (bv ([32] ++ field r ++ [32] ++ field u))) := ho5
  have HB5 : Hid (Below w0.heap.size w0 w5) := HB4.out.trans hb5
  clear ho5 hb5 HO4
  go_wp2_with (at_builtin; refine wpList_append_fits_any _ rfl (.tmp 46) (.tmp 47) 22 rfl w0.heap.size 5 i0 1 Try.underlying22 hi hz1 w0.heap.size (1 + f1 + 1 + f2) (2 * n0 + 2 * n1 + 6 + n2) (bv ([32] ++ field r ++ [32] ++ field u)) rfl HO5.out ta n2 c2 (bv t) rfl (by have := HTL.out; simp [bv, this]) HZ.out (news_of_src (HT.out.below HB5.out)) (bv_one _) (by omega) ?_)
  intro w6 ho6 hg6
  have HO6 : Hid (Row w6 w0.heap.size w0.heap.size (1 + f1 + 1 + f2 + n2) (2 * n0 + 2 * n1 + 6 + n2) (32 :: (field r ++ (32 :: (field u ++ t))))) := hideIt (by unfold Row; simpa [bv] using ho6)
  have HB6 : Hid (Below w0.heap.size w0 w6) := HB5.out.grown hg6 HB5.out.size (fun k hk => by cases hk; exact Nat.le_refl _)
  clear ho6 hg6 HO5
  go_wp2_with fail
  refine (zzEnd_any _ _ r u t f1 f2 n2 _ _ HF1.out HF2.out HTL.out (by omega) (by omega) (by omega) (cells_of_row HO6.out)).mono ?_
  rintro e w7 ⟨rfl, rfl⟩
  go_wp2
  go_ret
  exact ⟨rfl, HB6.out⟩
end Go.Proofs.Qxb6600506a
