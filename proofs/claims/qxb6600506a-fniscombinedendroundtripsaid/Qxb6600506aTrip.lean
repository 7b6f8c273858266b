/- The walk of FnQuotedRoundTrip. -/
import Derived.Test.Qxb6600506aQuoted
import Derived.Deep.QuietTactic
import Derived.BigQuiet
namespace Go.Proofs.Qxb6600506a
open Go.RowKit

theorem zzQuoted_any (g off N C : Nat) (l R : List Int) (w : World) (hD : Cells w g off (field l ++ R)) (hN : (field l).length + R.length = N) (hNC : N ≤ C) (hC : C ≤ 8388608) :
    Calls Try.prog 13 #[.slice (some ⟨g, off, none⟩) N C] w fun e w' => Rest g off C l R e ∧ w' = w := by
  go_enter Try.func13, Try.ntmps13
  go_wp2_with fail
  refine (quoted_any g off N C l R w hD hN hNC hC).mono ?_
  rintro e w' ⟨⟨a, rfl, ha⟩, rfl⟩
  have HA := hideIt ha
  clear ha
  go_wp2
  go_ret2
  exact ⟨⟨a, rfl, HA.out⟩, rfl⟩

/-- The bytes l lie behind the address. -/
def AnyB (w : World) (ao : Option Addr) (l : List Int) : Prop := ∀ j (h : j < l.length), ∃ b off, ao = some ⟨b, off, none⟩ ∧ w.cell? ⟨b, off + j, none⟩ = some (.int .u8 l[j])

theorem same_yes (ao1 ao2 : Option Addr) (n c1 c2 : Nat) (l : List Int) (w : World) (hl : l.length = n) (hn : n ≤ 8388608) (h1 : AnyB w ao1 l) (h2 : AnyB w ao2 l) :
    Calls Try.prog 15 #[.slice ao1 n c1, .slice ao2 n c2] w fun e w' => e = .returned (.bool true) ∧ ∃ nq, w' = w.drewN nq := by
  have H1 := hideIt h1
  have H2 := hideIt h2
  have HL := hideIt hl
  clear h1 h2 hl
  go_enter Try.func15, Try.ntmps15
  go_wp2
  go_loopw [5] (fun i wr => ∃ k nq : Nat, k ≤ n ∧ i = .int .i64 k ∧ wr = w.drewN nq) (fun i _ => n - (intOf i).toNat)
  case atStart => exact ⟨0, 0, Nat.zero_le _, rfl, rfl⟩
  case round =>
    obtain ⟨k, nq, hk, rfl, rfl⟩ := hrel
    by_cases hlt : k < n
    · have hkl : k < l.length := by have := HL.out; omega
      obtain ⟨b1, o1, rfl, c1⟩ := H1.out k hkl
      obtain ⟨b2, o2, rfl, c2⟩ := H2.out k hkl
      obtain ⟨x, hx⟩ : ∃ x, x = l[k] := ⟨_, rfl⟩
      rw [← hx] at c1 c2
      clear hx
      have b1 : (k : Int) < (n : Int) := by omega
      go_wp2
      go_quiet (fail)
      go_wp2
      go_roundw
      case rel => exact ⟨k + 1, _, by omega, by go_num, rfl⟩
      case measure => simp [intOf]; omega
    · go_wp2
      go_ret
      exact ⟨rfl, _, rfl⟩

theorem zz16_yes (a a' : Option Addr) (len cap len' cap' : Nat) (w : World) (h : len + len' ≤ 1048576) :
    Calls Try.prog 16 #[.slice a len cap, .slice a' len' cap'] w fun e w' => e = .returned (.bool true) ∧ w' = w := by
  have h1 : len ≤ 1048576 := by omega
  have h2 : len' ≤ 1048576 := by omega
  go_enter Try.func16, Try.ntmps16
  go_wp2
  go_ret
  exact ⟨rfl, rfl⟩
theorem zz16_no (a a' : Option Addr) (len cap len' cap' : Nat) (w : World) (hl : len ≤ maxLen) (hs : len' ≤ maxLen) (h : ¬ len + len' ≤ 1048576) :
    Calls Try.prog 16 #[.slice a len cap, .slice a' len' cap'] w fun e w' => e = .returned (.bool false) ∧ w' = w := by
  unfold maxLen at hl hs
  by_cases h1 : len ≤ 1048576
  · by_cases h2 : len' ≤ 1048576
    · go_enter Try.func16, Try.ntmps16
      go_wp2
      go_ret
      exact ⟨rfl, rfl⟩
    · go_enter Try.func16, Try.ntmps16
      go_wp2
      go_ret
      exact ⟨rfl, rfl⟩
  · go_enter Try.func16, Try.ntmps16
    go_wp2
    go_ret
    exact ⟨rfl, rfl⟩

theorem cells_of_row {w : World} {B g k cap : Nat} {l : List Int} (h : Row w B g k cap l) : Cells w g 0 l := by
  intro j x hx
  have hj : j < k := by have := (List.getElem?_eq_some_iff.1 hx).1; have := h.len; omega
  have h2 : w.ownsRow B 5 1 (.slice (some ⟨g, 0, none⟩) k cap) k (bv l) := h
  rw [Nat.zero_add, h2.cellAt j (by omega)]
  simp [bv, hx]

/-- Where t is nil it holds nothing. -/
def NilEmpty (ao : Option Addr) (n c : Nat) : Prop := ao = none → n = 0 ∧ c = 0

theorem news_of_src {w : World} {B : Nat} {ao : Option Addr} {l : List Int} (h : Src w B ao l) : ∀ ad, ao = some ad → ∀ j u, (bv l)[j]? = some u → w.cell? (ad.add j) = some u := by
  rintro ad rfl j u hu
  have hj : j < l.length := by have := (List.getElem?_eq_some_iff.1 hu).1; simpa [bv] using this
  obtain ⟨b, off, e, _, hc⟩ := h j hj
  cases e
  rw [Go.WideShapes.add_plain, hc]
  simpa [bv, hj] using hu

set_option maxHeartbeats 2000000 in
theorem trip_main (sa ta : Option Addr) (n c n' c' : Nat) (s t : List Int) (w : World) (hs : s.length = n) (ht : t.length = n') (hn : n ≤ 524288) (hn' : n' ≤ 524288) (hS : Src w w.heap.size sa s) (hT : Src w w.heap.size ta t) (hz : NilEmpty ta n' c') :
    Calls Try.prog 4 #[.slice sa n c, .slice ta n' c'] w fun e w' => e = .returned (.bool true) ∧ Below w.heap.size w w' := by
  obtain ⟨i0, hi, hz0, hz1, hz2⟩ := info_parts Try.info5
  have HS := hideIt hS
  have HT := hideIt hT
  have HSL := hideIt hs
  have HTL := hideIt ht
  have HZ := hideIt hz
  clear hS hT hs ht hz
  go_enter Try.func4, Try.ntmps4
  go_wp2_with fail
  refine (zz16_yes _ _ _ _ _ _ _ (by omega)).mono ?_
  rintro e w0 ⟨rfl, rfl⟩
  go_wp2_with (at_make; refine wpList_make_own _ rfl (.const (.int .i64 0)) (.tmp 24) 22 rfl w0.heap.size 5 i0 (.int .u8 0) 1 Try.underlying22 hi hz0 hz1 .i64 .i64 _ (2 * n + 2 + n') rfl rfl (by omega) (by rw [hz2]; omega) (by unfold maxLen; omega) (Nat.le_refl _) ?_)
  intro w1 ho1 hg1
  have HO1 : Hid (Row w1 w0.heap.size w0.heap.size 0 (2 * n + 2 + n') []) := ho1
  have HB1 : Hid (Below w0.heap.size w0 w1) := (Below.refl _ _).grown hg1 (Nat.le_refl _) (fun k hk => by cases hk)
  clear ho1 hg1
  go_wp2_with fail
  refine (field_any w0.heap.size w0.heap.size 0 (2 * n + 2 + n') [] sa n c s w1 HB1.out.size HO1.out (HS.out.below HB1.out) HSL.out (by omega) (by omega) (by omega)).mono ?_
  rintro e w2 ⟨rfl, ho2, hb2⟩
  rw [Nat.zero_add, List.nil_append] at ho2
  rw [Nat.zero_add]
  have HB2 : Hid (Below w0.heap.size w0 w2) := HB1.out.trans hb2
  have HO2 : Hid (w2.ownsRow w0.heap.size 5 1 (.slice (some ⟨w0.heap.size, 0, none⟩) (field s).length (2 * n + 2 + n')) (field s).length (bv (field s))) := ho2
  have hfl : (field s).length ≤ 2 * n + 2 := by
    have h1 := field_len s; have h2 := esc_len s; have h3 := HSL.out
    omega
  clear ho2 hb2
  obtain ⟨q, hq⟩ : ∃ q, q = (field s).length := ⟨_, rfl⟩
  have HQ := hideIt hq
  rw [← hq] at HO2 hfl
  rw [← hq]
  clear hq
  go_wp2_with (at_builtin; refine wpList_append_fits_any _ rfl (.tmp 29) (.tmp 30) 22 rfl w0.heap.size 5 i0 1 Try.underlying22 hi hz1 w0.heap.size q (2 * n + 2 + n') (bv (field s)) rfl HO2.out ta n' c' (bv t) rfl (by have := HTL.out; simp [bv, this]) HZ.out (news_of_src (HT.out.below HB2.out)) (bv_one _) (by omega) ?_)
  intro w3 ho3 hg3
  have HO3 : Hid (Row w3 w0.heap.size w0.heap.size (q + n') (2 * n + 2 + n') (field s ++ t)) := hideIt (by unfold Row; rw [bv_append]; exact ho3)
  have HB3 : Hid (Below w0.heap.size w0 w3) := HB2.out.grown hg3 HB2.out.size (fun k hk => by cases hk; exact Nat.le_refl _)
  clear ho3 hg3
  go_wp2_with fail
  refine (zzQuoted_any w0.heap.size 0 _ _ s t w3 (cells_of_row HO3.out) (by have := HTL.out; have := HQ.out; omega) (by omega) (by omega)).mono ?_
  rintro e w4 ⟨⟨a, rfl, ha⟩, rfl⟩
  rw [HTL.out]
  rw [HTL.out, ← HQ.out] at ha
  have HA : Hid (AnyB w4 (some a) t) := by
    intro j hj
    have hj' : j < n' := by have := HTL.out; omega
    refine ⟨w0.heap.size, 0 + q, by rw [ha (by omega)], ?_⟩
    have h1 := cells_of_row HO3.out ((esc s).length + 2 + j) t[j] (by rw [at_rest]; simp [hj])
    have h2 := HQ.out; have h3 := field_len s
    rw [show 0 + q + j = 0 + ((esc s).length + 2 + j) from by omega]
    exact h1
  have HT4 : Hid (AnyB w4 ta t) := by
    intro j hj
    obtain ⟨b, off, e, _, hc⟩ := HT.out.below HB3.out j hj
    exact ⟨b, off, e, hc⟩
  clear ha
  go_wp2_with fail
  refine (same_yes _ _ _ _ _ t _ HTL.out (by omega) HA.out HT4.out).mono ?_
  rintro e w5 ⟨rfl, nq, rfl⟩
  go_wp2
  go_ret
  exact ⟨rfl, below_drewN HB3.out _⟩
end Go.Proofs.Qxb6600506a
