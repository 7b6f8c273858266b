/- The walk of FnAppendLineSettles. -/
import Derived.Test.Qxb6604269aExact
import Derived.Laws.IdiomStrings
namespace Go.Proofs.Qxb6604269a
open Go.RowKit

theorem zz17_yes (s : ByteArray) (w : World) (h : s.size ≤ 1048576) :
    Calls Try.prog 17 #[.string s] w fun e w' => e = .returned (.bool true) ∧ w' = w := by
  go_enter Try.func17, Try.ntmps17
  go_wp2
  go_ret
  exact ⟨rfl, rfl⟩
theorem zz17_no (s : ByteArray) (w : World) (hs : s.size ≤ maxLen) (h : ¬ s.size ≤ 1048576) :
    Calls Try.prog 17 #[.string s] w fun e w' => e = .returned (.bool false) ∧ w' = w := by
  unfold maxLen at hs
  go_enter Try.func17, Try.ntmps17
  go_wp2
  go_ret
  exact ⟨rfl, rfl⟩

/-- sameBytes of two rows that hold the same bytes. -/
theorem same_yes (g1 g2 n c1 c2 : Nat) (f : Nat → Int) (w : World) (hn : n ≤ 2097152) (h1 : ∀ j, j < n → w.cell? ⟨g1, j, none⟩ = some (.int .u8 (f j))) (h2 : ∀ j, j < n → w.cell? ⟨g2, j, none⟩ = some (.int .u8 (f j))) :
    Calls Try.prog 18 #[.slice (some ⟨g1, 0, none⟩) n c1, .slice (some ⟨g2, 0, none⟩) n c2] w fun e w' => e = .returned (.bool true) ∧ ∃ nq, w' = w.drewN nq := by
  have H1 := hideIt h1
  have H2 := hideIt h2
  clear h1 h2
  go_enter Try.func18, Try.ntmps18
  go_wp2
  go_loopw [5] (fun i wr => ∃ k nq : Nat, k ≤ n ∧ i = .int .i64 k ∧ wr = w.drewN nq) (fun i _ => n - (intOf i).toNat)
  case atStart => exact ⟨0, 0, Nat.zero_le _, rfl, rfl⟩
  case round =>
    obtain ⟨k, nq, hk, rfl, rfl⟩ := hrel
    by_cases hlt : k < n
    · have c1 := H1.out k hlt
      have c2 := H2.out k hlt
      have b1 : (k : Int) < (n : Int) := by omega
      go_wp2
      go_quiet (fail)
      go_wp2
      go_roundw
      case rel => exact ⟨k + 1, _, by omega, by go_num, rfl⟩
      case measure => simp [intOf]; omega
    · go_wp2
      go_ret
      exact ⟨rfl, _, rfl⟩

/-- CR and LF as a space, as bytes. -/
def clu (c : UInt8) : UInt8 := if c = 13 ∨ c = 10 then 32 else c
theorem clb_eq (c : UInt8) : clb c = ((clu c).toNat : Int) := by unfold clb clu; split <;> rfl
theorem clu_not (c : UInt8) : clu c ≠ 13 ∧ clu c ≠ 10 := by
  unfold clu; split
  · decide
  · rename_i h; exact ⟨fun e => h (.inl e), fun e => h (.inr e)⟩
theorem clu_clu (c : UInt8) : clu (clu c) = clu c := by
  have h := clu_not c
  show (if clu c = 13 ∨ clu c = 10 then 32 else clu c) = clu c
  rw [if_neg (by rintro (e | e); exact h.1 e; exact h.2 e)]
theorem clb_13 (c : UInt8) : (clb c == 13) = false := by
  rw [clb_eq, beq_eq_false_iff_ne]; intro e
  exact (clu_not c).1 (UInt8.toNat_inj.1 (by have : (clu c).toNat = 13 := by omega
                                             simpa using this))
theorem clb_10 (c : UInt8) : (clb c == 10) = false := by
  rw [clb_eq, beq_eq_false_iff_ne]; intro e
  exact (clu_not c).2 (UInt8.toNat_inj.1 (by have : (clu c).toNat = 10 := by omega
                                             simpa using this))
/-- The cleaned text. -/
def clean (s : ByteArray) : ByteArray := ⟨(s.data.toList.map clu).toArray⟩
theorem clean_size (s : ByteArray) : (clean s).size = s.size := by
  show ((s.data.toList.map clu).toArray).size = s.data.size
  simp only [List.size_toArray, List.length_map, Array.length_toList]
theorem cl_clean (s : ByteArray) : cl (clean s).data.toList = cl s.data.toList := by
  simp [cl, clean]
  intro a _
  rw [clb_eq, clb_eq, clu_clu]

theorem owns_room {w : World} {B : Nat} {e : TypeId} {g n cap : Nat} {xs : List Value} (h : w.ownsRow B e 1 (.slice (some ⟨g, 0, none⟩) n cap) n xs) : n ≤ cap := by
  rcases h.2 with ⟨h', _⟩ | ⟨g', cap', cur, h', _, _, hle, _⟩
  · simp at h'
  · simp only [Value.slice.injEq, Option.some.injEq, Addr.mk.injEq, and_true, true_and] at h'
    omega

set_option maxHeartbeats 1600000 in
theorem settles_tail (s : ByteArray) (w : World) (hs : s.size ≤ 524288) :
    Calls Try.prog 7 #[.string s] w fun e w' => e = .returned (.bool true) ∧ Below w.heap.size w w' := by
  go_enter Try.func7, Try.ntmps7
  go_wp2_with fail
  refine (zz17_yes _ _ (by omega)).mono ?_
  rintro e w' ⟨rfl, rfl⟩
  go_wp2_with fail
  refine (zzAppendLine_any _ 0 [] _ _ (.inl (World.ownsRow_nil _ _ _ _)) (by omega) (by omega)).mono ?_
  rintro e w1 ⟨v, rfl, hown, hb1⟩
  rw [Nat.zero_add, List.nil_append] at hown
  obtain ⟨g, cp, rfl, hg, hcell⟩ := owns_some hown (by omega)
  have hcs : ∀ j (h : j < s.size), w1.cell? ⟨g, j, none⟩ = some (.int .u8 (clb s[j])) := by
    intro j hj
    rw [hcell _ (by omega), List.getElem?_append_left (by simp [cl]; omega)]
    simp [cl, hj]; rfl
  have hcr : w1.cell? ⟨g, s.size, none⟩ = some (.int .u8 13) := by
    rw [hcell _ (by omega), List.getElem?_append_right (by simp [cl])]
    simp [cl]
  have hcn : w1.cell? ⟨g, s.size + 1, none⟩ = some (.int .u8 10) := by
    rw [hcell _ (by omega), List.getElem?_append_right (by simp [cl])]
    have e : s.size + 1 - (cl s.data.toList).length = 1 := by simp [cl]
    rw [e]; rfl
  have HCS := hideIt hcs
  have HCELL := hideIt hcell
  have hcp := owns_room hown
  have hcp2 : s.size ≤ cp := by omega
  have HV : Hid ((convert 22 9 (.slice (some ⟨g, 0, none⟩) s.size cp)).run Try.prog w1 = .ok (.string (clean s)) w1) := by
    refine hideIt ?_
    have := run_convert_bytes_back (P := Try.prog) w1 22 9 5 ⟨g, 0, none⟩ cp (s.data.toList.map clu) Try.underlying22 Try.underlying5 Try.underlying9 (fun j hj => by
      have hj' : j < s.size := by simpa using hj
      rw [Go.WideShapes.add_plain, Nat.zero_add, hcs j hj', clb_eq]
      simp; rfl)
    simpa [clean] using this
  have hbo : ∀ j, j < s.size + 2 → ∃ x : Int, w1.cell? ⟨g, j, none⟩ = some (.int .u8 x) := by
    intro j hj
    by_cases h1 : j < s.size
    · exact ⟨_, hcs j h1⟩
    · by_cases h2 : j = s.size
      · subst h2; exact ⟨_, hcr⟩
      · obtain rfl : j = s.size + 1 := by omega
        exact ⟨_, hcn⟩
  have HBO := hideIt hbo
  have HB1 := hideIt hb1
  clear hcs hcell hown hb1 hbo
  go_wp2
  go_loop [5] (fun i => ∃ k : Nat, k ≤ s.size ∧ i = .int .i64 k) (fun i => s.size - (intOf i).toNat)
  case atStart => exact ⟨0, Nat.zero_le _, rfl⟩
  case round =>
    obtain ⟨k, hk, rfl⟩ := hrel
    by_cases hlt : k < s.size
    · have c1 := HCS.out k hlt
      have d1 := clb_13 s[k]
      have d2 := clb_10 s[k]
      go_wp2
      go_round
      case rel => exact ⟨k + 1, by omega, by go_num⟩
      case measure => simp [intOf]; omega
    · have hv := HV.out
      go_wp2_with fail
      refine (zzAppendLine_any _ 0 [] (clean s) _ (.inl (World.ownsRow_nil _ _ _ _)) (by omega) (by rw [clean_size]; omega)).mono ?_
      rintro e w2 ⟨v2, rfl, hown2, hb2⟩
      rw [Nat.zero_add, List.nil_append, clean_size, cl_clean] at hown2
      obtain ⟨g2, cp2, rfl, hg2, hcell2⟩ := owns_some hown2 (by omega)
      obtain ⟨f, hf⟩ : ∃ f : Nat → Int, ∀ j, j < s.size + 2 → w1.cell? ⟨g, j, none⟩ = some (.int .u8 (f j)) := by
        refine ⟨fun j => if h : j < s.size + 2 then (HBO.out j h).choose else 0, fun j hj => ?_⟩
        simp only [hj, dif_pos]
        exact (HBO.out j hj).choose_spec
      have H1 : Hid (∀ j, j < s.size + 2 → w2.cell? ⟨g, j, none⟩ = some (.int .u8 (f j))) := by
        intro j hj
        rw [hb2.cell (World.block_lt_of_cell? w1 _ (hf j hj))]
        exact hf j hj
      have H2 : Hid (∀ j, j < s.size + 2 → w2.cell? ⟨g2, j, none⟩ = some (.int .u8 (f j))) := by
        intro j hj
        rw [hcell2 j hj, ← HCELL.out j hj]
        exact hf j hj
      have HB2 : Hid (Below w'.heap.size w' w2) := HB1.out.trans (hb2.mono HB1.out.size)
      clear hown2 hb2 hcell2 hf hv
      go_wp2_with fail
      refine (same_yes g2 g (s.size + 2) cp2 cp f _ (by omega) H2.out H1.out).mono ?_
      rintro e w3 ⟨rfl, nq, rfl⟩
      go_wp2
      go_ret
      exact ⟨rfl, below_drewN HB2.out _⟩
end Go.Proofs.Qxb6604269a
