/- emptyAfter, summary, allAgree by contracts. -/
import Derived.Test.Qxb6604777aRows
import Derived.Test.Qxb6604777aPlain
import Derived.WalkKit
import Derived.ProofKit
import Derived.WalkSpells
import Derived.WalkLawsBesides
namespace Go.Proofs.Qxb6604777a
open Go.RowKit

theorem hideIt {p : Prop} (h : p) : Hid p := h

theorem ea_step (l : List ByteArray) (c k : Nat) (h : c + 1 ≤ k) (hk : k < l.length) : none' ((l.take (k + 1)).drop (c + 1)) = (none' ((l.take k).drop (c + 1)) && !ne l[k]) := by
  rw [List.take_succ_eq_append_getElem hk, List.drop_append_of_le_length (by simp; omega), none_append]
  simp [none']
theorem ea_no (l : List ByteArray) (c k : Nat) (h : none' ((l.take k).drop (c + 1)) = false) : none' (l.drop (c + 1)) = false := by
  have e : l.drop (c + 1) = (l.take k).drop (c + 1) ++ (l.drop k).drop (c + 1 - (l.take k).length) := by
    rw [← List.drop_append, List.take_append_drop]
  rw [e, none_append, h]; rfl
theorem ea_start (l : List ByteArray) (c : Nat) : none' ((l.take (c + 1)).drop (c + 1)) = true := by
  rw [List.drop_of_length_le (by simp; omega)]; rfl

/-- The strings l lie at ⟨b, off⟩. -/
def Col (w : World) (b off : Nat) (l : List ByteArray) : Prop := ∀ j (h : j < l.length), w.cell? ⟨b, off + j, none⟩ = some (.string l[j])

theorem isEmpty_of_ne {s : ByteArray} {x : Bool} (h : ne s = x) : s.toList.isEmpty = !x := by rw [← h]; simp [ne]

theorem emptyAfter_any (b off n cap c : Nat) (l : List ByteArray) (w : World) (hl : l.length = n) (hn : n ≤ 1048576) (hcn : c < n) (hc : Col w b off l) :
    Calls Try.prog 17 #[.slice (some ⟨b, off, none⟩) n cap, .int .i64 (c : Int), .int .i64 (n : Int)] w fun e w' => e = .returned (.bool (none' (l.drop (c + 1)))) ∧ w' = w := by
  have HC := hideIt hc
  have HL := hideIt hl
  clear hc hl
  go_enter Try.func17, Try.ntmps17
  go_wp2
  go_loop [7] (fun o => ∃ k : Nat, c + 1 ≤ k ∧ k ≤ n ∧ o = .int .i64 (k : Int) ∧ none' ((l.take k).drop (c + 1)) = true) (fun o => n - (intOf o).toNat)
  case atStart => exact ⟨c + 1, by omega, by omega, by go_num, ea_start l c⟩
  case round =>
    obtain ⟨k, hk1, hk2, rfl, hea⟩ := hrel
    have HE := hideIt hea
    clear hea
    by_cases hlt : k < n
    · have hkl : k < l.length := by have := HL.out; omega
      have h1 := HC.out k hkl
      have HS := hideIt (ea_step l c k hk1 hkl)
      obtain ⟨s, hs⟩ : ∃ s, s = l[k] := ⟨_, rfl⟩
      rw [← hs] at h1 HS
      clear hs
      cases hne : ne s
      · have g := isEmpty_of_ne hne
        have HN := hideIt hne
        clear hne
        go_wp2
        go_round
        case rel => exact ⟨k + 1, by omega, by omega, by go_num, by rw [HS.out, HE.out, HN.out]; rfl⟩
        case measure => simp [intOf]; omega
      · have g := isEmpty_of_ne hne
        have HF : Hid (none' (l.drop (c + 1)) = false) := ea_no l c (k + 1) (by rw [HS.out, hne]; simp)
        clear hne
        go_wp2
        go_ret
        exact ⟨by rw [HF.out]; rfl, rfl⟩
    · obtain rfl : k = n := by omega
      have HF : Hid (none' (l.drop (c + 1)) = true) := by
        have := HE.out
        rw [List.take_of_length_le (by have := HL.out; omega)] at this
        exact this
      go_wp2
      go_ret
      exact ⟨by rw [HF.out]; rfl, rfl⟩

theorem take_snoc (l : List ByteArray) (k : Nat) (h : k < l.length) : l.take (k + 1) = l.take k ++ [l[k]] := List.take_succ_eq_append_getElem h

set_option maxHeartbeats 1000000 in
theorem summary_any (b off n cap : Nat) (l : List ByteArray) (w : World) (hl : l.length = n) (hn : n ≤ 1048576) (hc : Col w b off l) :
    Calls Try.prog 18 #[.slice (some ⟨b, off, none⟩) n cap, .int .i64 0, .int .i64 (n : Int)] w fun e w' => e = .returned (.tuple #[.int .i64 (cnt l : Int), .int .i64 (eqn (ref l) l : Int), .string (ref l)]) ∧ w' = w := by
  have HC := hideIt hc
  have HL := hideIt hl
  clear hc hl
  go_enter Try.func18, Try.ntmps18
  go_wp2
  go_loop [9, 10, 11] (fun pv rv jv => ∃ k : Nat, k ≤ n ∧ jv = .int .i64 (k : Int) ∧ pv = .int .i64 (cnt (l.take k) : Int) ∧ rv = .string (ref (l.take k))) (fun _ _ jv => n - (intOf jv).toNat)
  case atStart => exact ⟨0, Nat.zero_le _, rfl, rfl, rfl⟩
  case round =>
    obtain ⟨k, hk, rfl, rfl, rfl⟩ := hrel
    have hcl := cnt_le (l.take k)
    have hcl2 : cnt (l.take k) ≤ k := Nat.le_trans hcl (List.length_take_le _ _)
    clear hcl
    by_cases hlt : k < n
    · have hkl : k < l.length := by have := HL.out; omega
      have h1 := HC.out k hkl
      have HT := hideIt (take_snoc l k hkl)
      obtain ⟨s, hs⟩ : ∃ s, s = l[k] := ⟨_, rfl⟩
      rw [← hs] at h1 HT
      clear hs
      obtain ⟨p, hp⟩ : ∃ p, p = cnt (l.take k) := ⟨_, rfl⟩
      obtain ⟨r, hr⟩ : ∃ r, r = ref (l.take k) := ⟨_, rfl⟩
      have HP := hideIt hp
      have HR := hideIt hr
      rw [← hp] at hcl2 ⊢
      rw [← hr]
      clear hp hr
      cases hne : ne s
      · have g := isEmpty_of_ne hne
        have HN := hideIt hne
        clear hne
        go_wp2
        go_round
        case rel => exact ⟨k + 1, by omega, by go_num, by rw [HT.out, cnt_snoc, HN.out, HP.out]; rfl, by rw [HT.out, ref_snoc_no _ _ HN.out, HR.out]⟩
        case measure => simp [intOf]; omega
      · have g := isEmpty_of_ne hne
        have HN := hideIt hne
        clear hne
        by_cases h0 : p = 0
        · have g0 : ((p : Int) == 0) = true := beq_iff_eq.2 (by omega)
          have H0 := hideIt h0
          clear h0
          go_wp2
          go_round
          case rel => exact ⟨k + 1, by omega, by go_num, by rw [HT.out, cnt_snoc, HN.out, ← HP.out]; rfl, by rw [HT.out, ref_snoc_first _ _ HN.out (by rw [← HP.out]; exact H0.out)]⟩
          case measure => simp [intOf]; omega
        · have g0 : ((p : Int) == 0) = false := beq_eq_false_iff_ne.2 (by omega)
          have H0 := hideIt h0
          clear h0
          go_wp2
          go_round
          case rel => exact ⟨k + 1, by omega, by go_num, by rw [HT.out, cnt_snoc, HN.out, ← HP.out]; rfl, by rw [HT.out, ref_snoc_later _ _ (by rw [← HP.out]; exact H0.out), HR.out]⟩
          case measure => simp [intOf]; omega
    · obtain rfl : k = n := by omega
      have HE : Hid (l.take k = l) := List.take_of_length_le (by have := HL.out; omega)
      rw [HE.out] at hcl2 ⊢
      have hel := eqn_le (ref l) l
      obtain ⟨r, hr⟩ : ∃ r, r = ref l := ⟨_, rfl⟩
      rw [← hr]
      rw [← hr] at hel
      have HR := hideIt hr
      clear hr
      obtain ⟨p, hp⟩ : ∃ p, p = cnt l := ⟨_, rfl⟩
      rw [← hp] at hcl2 hel ⊢
      have HP := hideIt hp
      clear hp
      go_wp2
      go_loop [12, 13] (fun ev jv => ∃ m : Nat, m ≤ k ∧ jv = .int .i64 (m : Int) ∧ ev = .int .i64 (eqn r (l.take m) : Int)) (fun _ jv => k - (intOf jv).toNat)
      case atStart => exact ⟨0, Nat.zero_le _, rfl, rfl⟩
      case round =>
        obtain ⟨m, hm, rfl, rfl⟩ := hrel
        have hem : eqn r (l.take m) ≤ m := Nat.le_trans (eqn_le _ _) (Nat.le_trans (cnt_le _) (List.length_take_le _ _))
        by_cases hlt2 : m < k
        · have hkl : m < l.length := by have := HL.out; omega
          have h1 := HC.out m hkl
          have HT := hideIt (take_snoc l m hkl)
          obtain ⟨s, hs⟩ : ∃ s, s = l[m] := ⟨_, rfl⟩
          rw [← hs] at h1 HT
          clear hs
          obtain ⟨q, hq⟩ : ∃ q, q = eqn r (l.take m) := ⟨_, rfl⟩
          rw [← hq] at hem ⊢
          have HQ := hideIt hq
          clear hq
          cases hne : ne s
          · have g := isEmpty_of_ne hne
            have HN := hideIt hne
            clear hne
            go_wp2
            go_round
            case rel => exact ⟨m + 1, by omega, by go_num, by rw [HT.out, eqn_snoc, HN.out, HQ.out]; rfl⟩
            case measure => simp [intOf]; omega
          · have g := isEmpty_of_ne hne
            have HN := hideIt hne
            clear hne
            cases hsm : same s r
            · have g2 : (s.toList == r.toList) = false := hsm
              have HM := hideIt hsm
              clear hsm
              go_wp2
              go_round
              case rel => exact ⟨m + 1, by omega, by go_num, by rw [HT.out, eqn_snoc, HN.out, HM.out, HQ.out]; rfl⟩
              case measure => simp [intOf]; omega
            · have g2 : (s.toList == r.toList) = true := hsm
              have HM := hideIt hsm
              clear hsm
              go_wp2
              go_round
              case rel => exact ⟨m + 1, by omega, by go_num, by rw [HT.out, eqn_snoc, HN.out, HM.out, ← HQ.out]; rfl⟩
              case measure => simp [intOf]; omega
        · obtain rfl : m = k := by omega
          rw [HE.out] at hem ⊢
          go_wp2
          go_ret3
          exact ⟨by rw [← HR.out, ← HP.out]; rfl, rfl⟩

set_option maxHeartbeats 1000000 in
theorem allAgree_any (b off n cap : Nat) (l : List ByteArray) (w : World) (hl : l.length = n) (hn : n ≤ 1048576) (hc : Col w b off l) :
    Calls Try.prog 20 #[.slice (some ⟨b, off, none⟩) n cap, .int .i64 0, .int .i64 (n : Int)] w fun e w' => e = .returned (.bool (ag l)) ∧ w' = w := by
  have HC := hideIt hc
  have HL := hideIt hl
  clear hc hl
  go_enter Try.func20, Try.ntmps20
  go_wp2
  go_loop [7, 8, 9] (fun fv jv _ => ∃ k : Nat, k ≤ n ∧ jv = .int .i64 (k : Int) ∧ fv = .string (ref (l.take k)) ∧ ag (l.take k) = true) (fun _ jv _ => n - (intOf jv).toNat)
  case atStart => exact ⟨0, Nat.zero_le _, rfl, rfl, rfl⟩
  case round =>
    obtain ⟨k, hk, rfl, rfl, hag⟩ := hrel
    have HA := hideIt hag
    clear hag
    by_cases hlt : k < n
    · have hkl : k < l.length := by have := HL.out; omega
      have h1 := HC.out k hkl
      have HT := hideIt (take_snoc l k hkl)
      have HX : Hid (l = l.take (k + 1) ++ l.drop (k + 1)) := (List.take_append_drop (k + 1) l).symm
      obtain ⟨s, hs⟩ : ∃ s, s = l[k] := ⟨_, rfl⟩
      rw [← hs] at h1 HT
      clear hs
      obtain ⟨r, hr⟩ : ∃ r, r = ref (l.take k) := ⟨_, rfl⟩
      have HR := hideIt hr
      have hnr := ne_ref (l.take k)
      rw [← hr] at hnr
      rw [← hr]
      clear hr
      cases hne : ne s
      · have g := isEmpty_of_ne hne
        have HN := hideIt hne
        clear hne hnr
        go_wp2
        go_round
        case rel => exact ⟨k + 1, by omega, by go_num, by rw [HT.out, ref_snoc_no _ _ HN.out, HR.out], by rw [HT.out, ag_snoc_no _ _ HN.out]; exact HA.out⟩
        case measure => simp [intOf]; omega
      · have g := isEmpty_of_ne hne
        have HN := hideIt hne
        clear hne
        by_cases h0 : cnt (l.take k) = 0
        · have g0 : r.toList.isEmpty = true := by rw [isEmpty_of_ne hnr]; simp [h0]
          have H0 := hideIt h0
          clear h0 hnr
          go_wp2
          go_round
          case rel => exact ⟨k + 1, by omega, by go_num, by rw [HT.out, ref_snoc_first _ _ HN.out H0.out], by rw [HT.out, ag_snoc_first _ _ HN.out H0.out]⟩
          case measure => simp [intOf]; omega
        · have g0 : r.toList.isEmpty = false := by rw [isEmpty_of_ne hnr]; simp; omega
          have H0 := hideIt h0
          clear h0 hnr
          cases hsm : same s r
          · have g2 : (s.toList == r.toList) = false := hsm
            have HF : Hid (ag l = false) := by
              refine hideIt ?_
              rw [HX.out]
              refine ag_prefix _ _ ?_
              rw [HT.out, ag_snoc_later _ _ HN.out H0.out, ← HR.out, hsm]
              simp
            clear hsm
            go_wp2
            go_ret
            exact ⟨by rw [HF.out]; rfl, rfl⟩
          · have g2 : (s.toList == r.toList) = true := hsm
            have HM := hideIt hsm
            clear hsm
            go_wp2
            go_round
            case rel => exact ⟨k + 1, by omega, by go_num, by rw [HT.out, ref_snoc_later _ _ H0.out, HR.out], by rw [HT.out, ag_snoc_later _ _ HN.out H0.out, HA.out, ← HR.out, HM.out]; rfl⟩
            case measure => simp [intOf]; omega
    · obtain rfl : k = n := by omega
      have HF : Hid (ag l = true) := by
        have := HA.out
        rw [List.take_of_length_le (by have := HL.out; omega)] at this
        exact this
      go_wp2
      go_ret
      exact ⟨by rw [HF.out]; rfl, rfl⟩
end Go.Proofs.Qxb6604777a
