/- quoted by a contract: at a whole field with R behind it. -/
import Derived.Test.Qxb6600506aField
namespace Go.Proofs.Qxb6600506a
open Go.RowKit

/-- The bytes D lie at ⟨g, off⟩. -/
def Cells (w : World) (g off : Nat) (D : List Int) : Prop := ∀ j x, D[j]? = some x → w.cell? ⟨g, off + j, none⟩ = some (.int .u8 x)

/-- What quoted hands back: R. -/
def Rest (g off C : Nat) (l R : List Int) (e : Ending) : Prop :=
  ∃ a : Addr, e = .returned (.tuple #[.slice (some a) R.length (C - (field l).length), .bool true]) ∧ (0 < R.length → a = ⟨g, off + (field l).length, none⟩)

set_option maxHeartbeats 2000000 in
theorem quoted_any (g off N C : Nat) (l R : List Int) (w : World) (hD : Cells w g off (field l ++ R)) (hN : (field l).length + R.length = N) (hNC : N ≤ C) (hC : C ≤ 8388608) :
    Calls Try.prog 29 #[.slice (some ⟨g, off, none⟩) N C] w fun e w' => Rest g off C l R e ∧ w' = w := by
  have h0 : w.cell? ⟨g, off, none⟩ = some (.int .u8 34) := by simpa using hD 0 34 (by simp [field])
  have hfl := field_len l
  have hNe : 2 ≤ N := by omega
  have HD := hideIt hD
  have HN := hideIt hN
  have HF := hideIt hfl
  obtain ⟨n, hn⟩ : ∃ n, n = l.length := ⟨_, rfl⟩
  have HL := hideIt hn
  have hel := esc_len l
  have hbig : (esc l).length + 2 ≤ N := by omega
  clear hD hN hfl hn
  go_enter Try.func29, Try.ntmps29
  go_wp2
  go_loop [4] (fun iv => ∃ j q : Nat, j ≤ n ∧ iv = .int .i64 (1 + (q : Int)) ∧ q = (esc (l.take j)).length) (fun iv => N - (intOf iv).toNat)
  case atStart => exact ⟨0, 0, Nat.zero_le _, by go_num, rfl⟩
  case round =>
    obtain ⟨j, q, hj, rfl, hq⟩ := hrel
    have HQ := hideIt hq
    by_cases hlt : j < n
    · have hjl : j < l.length := by have := HL.out; omega
      have hch := at_char l R j hjl
      have HT := hideIt (take_snoc l j hjl)
      have hsp := esc_split l j hjl
      have hlen := congrArg List.length hsp
      rw [← hq] at hch
      simp only [List.length_append, ← hq] at hlen
      obtain ⟨x, hx⟩ : ∃ x, x = l[j] := ⟨_, rfl⟩
      rw [← hx] at hch HT hlen
      clear hq hsp hx
      cases hs : spec x
      · have hc := HD.out _ _ hch
        simp only [hs] at hc
        have g1 : (x == 92) = false := by simp [spec] at hs; simp [hs]
        have g2 : (x == 34) = false := by simp [spec] at hs; simp [hs]
        have hiN : (1 + (q : Int)) < (N : Int) := by have : (esc1 x).length = 1 := by simp [esc1, hs]
                                                     omega
        have HS := hideIt hs
        clear hs hch hlen
        go_wp2
        go_round
        case rel => exact ⟨j + 1, q + 1, by omega, by go_num, by rw [HT.out, esc_no _ _ HS.out, HQ.out]; simp⟩
        case measure => simp [intOf]; omega
      · have hc := HD.out _ _ hch
        simp only [hs, if_true] at hc
        have hiN : (1 + (q : Int)) < (N : Int) := by have : (esc1 x).length = 2 := by simp [esc1, hs]
                                                     omega
        have HS := hideIt hs
        clear hs hch hlen
        go_wp2
        go_round
        case rel => exact ⟨j + 1, q + 2, by omega, by go_num, by rw [HT.out, esc_yes _ _ HS.out, HQ.out]; simp⟩
        case measure => simp [intOf]; omega
    · obtain rfl : j = n := by omega
      have HE : Hid (q = (esc l).length) := by
        refine hideIt ?_
        rw [hq, List.take_of_length_le (by have := HL.out; omega)]
      have hc := HD.out _ _ (at_end l R)
      rw [← HE.out] at hc hbig
      have hiN : (1 + (q : Int)) < (N : Int) := by omega
      clear hq hel
      have HR : Hid (N - (1 + q + 1) = R.length ∧ (field l).length = 1 + q + 1) := by
        refine hideIt ?_
        have h1 := HN.out; have h2 := HF.out; have h3 := HE.out
        omega
      go_wp2
      · go_ret2
        refine ⟨⟨⟨g, off, none⟩, ?_, ?_⟩, rfl⟩
        · rw [HR.out.2, ← HR.out.1, Nat.sub_self]; rfl
        · have h1 := HR.out.1; intro h; omega
      · go_ret2
        refine ⟨⟨⟨g, off + (1 + q + 1), none⟩, ?_, ?_⟩, rfl⟩
        · rw [HR.out.2, ← HR.out.1]; rfl
        · intro _; rw [HR.out.2]
end Go.Proofs.Qxb6600506a
