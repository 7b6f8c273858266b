/- scanHeader by a contract: a type byte, 1 to 9 digits, CR LF. -/
import Derived.Test.Qxb6604269aText
namespace Go.Proofs.Qxb6604269a
open Go.RowKit

/-- The header's line lies at 'p' of the row at block g. -/
structure Line (w : World) (g N p : Nat) (ds : List Int) : Prop where
  small : N ≤ 4194304
  one : 1 ≤ ds.length
  nine : ds.length ≤ 9
  digits : Digits ds
  fits : p + 1 + ds.length + 2 ≤ N
  cell : ∀ j, j < ds.length → w.cell? ⟨g, p + 1 + j, none⟩ = some (.int .u8 (ds.getD j 0))
  cr : w.cell? ⟨g, p + 1 + ds.length, none⟩ = some (.int .u8 13)
  lf : w.cell? ⟨g, p + 1 + ds.length + 1, none⟩ = some (.int .u8 10)

set_option maxHeartbeats 1000000 in
theorem scan_any (g N c p : Nat) (ds : List Int) (w : World) (h : Line w g N p ds) :
    Calls Try.prog 19 #[.slice (some ⟨g, 0, none⟩) N c, .int .i64 (p : Int)] w fun e w' => e = .returned (.tuple #[.int .i64 (dv 0 ds), .int .i64 ((p : Int) + 1 + (ds.length : Int) + 2), .bool true]) ∧ w' = w := by
  obtain ⟨h1, h2, h3, h4, h5, h6, h7, h8⟩ := h
  obtain ⟨L, hL⟩ : ∃ L, L = ds.length := ⟨_, rfl⟩
  have HL : Hid (L = ds.length) := hL
  rw [← hL] at h2 h3 h5 h6 h7 h8 ⊢
  clear hL
  have H6 := hideIt h6
  clear h6
  by_cases hN : N ≤ p + 10
  · go_enter Try.func19, Try.ntmps19
    go_wp2
    go_loop [7, 8, 10] (fun nv iv _ => ∃ k : Nat, k ≤ L ∧ iv = .int .i64 ((p : Int) + 1 + (k : Int)) ∧ nv = .int .i64 (dv 0 (ds.take k))) (fun _ iv _ => p + 1 + L - (intOf iv).toNat)
    case atStart => exact ⟨0, Nat.zero_le _, by go_num, rfl⟩
    case round =>
      obtain ⟨k, hk, rfl, rfl⟩ := hrel
      have hsm := dv_small (ds.take k) (h4.take k) (by have := List.length_take_le k ds; omega)
      obtain ⟨q0, q9⟩ := hsm
      by_cases hlt : k < L
      · have hc := H6.out k hlt
        have hkd : k < ds.length := by have := HL.out; omega
        have hd := h4 ds[k] (List.getElem_mem hkd)
        obtain ⟨d1, d2⟩ := hd
        have HT : Hid (dv 0 (ds.take (k + 1)) = dv 0 (ds.take k) * 10 + (ds[k] - 48)) := by
          rw [List.take_succ_eq_append_getElem hkd, dv_snoc]
          rfl
        go_wp2
        go_round
        case rel => exact ⟨k + 1, by omega, by go_num, by rw [HT.out]⟩
        case measure => simp [intOf]; omega
      · obtain rfl : k = L := by omega
        have HE : Hid (ds.take k = ds) := List.take_of_length_le (by have := HL.out; omega)
        rw [HE.out] at q0 q9
        have hne : ((p : Int) + 1 + (k : Int) == (p : Int) + 1) = false := beq_eq_false_iff_ne.2 (by omega)
        go_wp2
        go_ret3
        exact ⟨by rw [HE.out]; rfl, rfl⟩
  · go_enter Try.func19, Try.ntmps19
    go_wp2
    go_loop [7, 8, 10] (fun nv iv _ => ∃ k : Nat, k ≤ L ∧ iv = .int .i64 ((p : Int) + 1 + (k : Int)) ∧ nv = .int .i64 (dv 0 (ds.take k))) (fun _ iv _ => p + 1 + L - (intOf iv).toNat)
    case atStart => exact ⟨0, Nat.zero_le _, by go_num, rfl⟩
    case round =>
      obtain ⟨k, hk, rfl, rfl⟩ := hrel
      have hsm := dv_small (ds.take k) (h4.take k) (by have := List.length_take_le k ds; omega)
      obtain ⟨q0, q9⟩ := hsm
      by_cases hlt : k < L
      · have hc := H6.out k hlt
        have hkd : k < ds.length := by have := HL.out; omega
        have hd := h4 ds[k] (List.getElem_mem hkd)
        obtain ⟨d1, d2⟩ := hd
        have HT : Hid (dv 0 (ds.take (k + 1)) = dv 0 (ds.take k) * 10 + (ds[k] - 48)) := by
          rw [List.take_succ_eq_append_getElem hkd, dv_snoc]
          rfl
        go_wp2
        go_round
        case rel => exact ⟨k + 1, by omega, by go_num, by rw [HT.out]⟩
        case measure => simp [intOf]; omega
      · obtain rfl : k = L := by omega
        have HE : Hid (ds.take k = ds) := List.take_of_length_le (by have := HL.out; omega)
        rw [HE.out] at q0 q9
        have hne : ((p : Int) + 1 + (k : Int) == (p : Int) + 1) = false := beq_eq_false_iff_ne.2 (by omega)
        by_cases h9 : k < 9
        · have h8' : (k : Int) < 9 := by omega
          go_wp2
          go_ret3
          exact ⟨by rw [HE.out]; rfl, rfl⟩
        · have h8' : (9 : Int) ≤ k := by omega
          go_wp2
          go_ret3
          exact ⟨by rw [HE.out]; rfl, rfl⟩
end Go.Proofs.Qxb6604269a
