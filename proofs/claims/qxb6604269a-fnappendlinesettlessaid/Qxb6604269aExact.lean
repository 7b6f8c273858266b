/- The walk of FnAppendLineExact. -/
import Derived.Test.Qxb6604269aClone
import Derived.Deep.QuietTactic
import Derived.BigQuiet
namespace Go.Proofs.Qxb6604269a
open Go.RowKit

theorem zz15_yes (a : Option Addr) (len cap : Nat) (s : ByteArray) (w : World) (h : len + s.size ≤ 1048576) :
    Calls Try.prog 15 #[.slice a len cap, .string s] w fun e w' => e = .returned (.bool true) ∧ w' = w := by
  have h1 : len ≤ 1048576 := by omega
  have h2 : s.size ≤ 1048576 := by omega
  go_enter Try.func15, Try.ntmps15
  go_wp2
  go_ret
  exact ⟨rfl, rfl⟩
theorem zz15_no (a : Option Addr) (len cap : Nat) (s : ByteArray) (w : World) (hl : len ≤ maxLen) (hs : s.size ≤ maxLen) (h : ¬ len + s.size ≤ 1048576) :
    Calls Try.prog 15 #[.slice a len cap, .string s] w fun e w' => e = .returned (.bool false) ∧ w' = w := by
  unfold maxLen at hl hs
  by_cases h1 : len ≤ 1048576
  · by_cases h2 : s.size ≤ 1048576
    · go_enter Try.func15, Try.ntmps15
      go_wp2
      go_ret
      exact ⟨rfl, rfl⟩
    · go_enter Try.func15, Try.ntmps15
      go_wp2
      go_ret
      exact ⟨rfl, rfl⟩
  · go_enter Try.func15, Try.ntmps15
    go_wp2
    go_ret
    exact ⟨rfl, rfl⟩

theorem owns_some {w : World} {B : Nat} {e : TypeId} {v : Value} {n : Nat} {xs : List Value} (h : w.ownsRow B e 1 v n xs) (hn : 0 < n) : ∃ g cap, v = .slice (some ⟨g, 0, none⟩) n cap ∧ B ≤ g ∧ ∀ j, j < n → w.cell? ⟨g, j, none⟩ = xs[j]? := by
  rcases h.2 with ⟨_, h0⟩ | ⟨g, cap, cur, rfl, hb, _⟩
  · omega
  · exact ⟨g, cap, rfl, hb, fun j hj => h.cellAt j (by omega)⟩

set_option maxHeartbeats 1600000 in
theorem exact_tail (a0 : Option Addr) (len cap : Nat) (zs : List Int) (s : ByteArray) (w : World) (hl : len ≤ 524288) (hs : s.size ≤ 524288)
    (h : (a0 = none ∧ len = 0 ∧ cap = 0 ∧ zs = []) ∨ ∃ x, a0 = some x ∧ len ≤ cap ∧ cap ≤ maxLen ∧ zs.length = cap ∧ (∀ i, i < zs.length → w.cell? (x.add i) = some (.int .u8 (zs.getD i 0))) ∧ ∀ n ∈ zs, (Lit.int .u8 n).wf = true) :
    Calls Try.prog 6 #[.slice a0 len cap, .string s] w fun e w' => e = .returned (.bool true) ∧ Below w.heap.size w w' := by
  have H := hideIt h
  clear h
  go_enter Try.func6, Try.ntmps6
  go_wp2_with fail
  refine (zz15_yes _ _ _ _ _ (by omega)).mono ?_
  rintro e w' ⟨rfl, rfl⟩
  go_wp2_with fail
  refine (clone_row _ _ _ zs _ (by omega) H.out).mono ?_
  rintro e w1 ⟨ao, rfl, hb1, hcl⟩
  rcases hcl with ⟨rfl, rfl⟩ | ⟨rfl, hown⟩
  · have hr : Ready w1 w1.heap.size 5 (.slice none 0 0) 0 [] := .inl (World.ownsRow_nil _ _ _ _)
    go_wp2_with fail
    refine (zzAppendLine_any _ _ _ _ _ hr (by omega) (by omega)).mono ?_
    rintro e w2 ⟨v, rfl, hown2, hb2⟩
    rw [Nat.zero_add, List.nil_append] at hown2
    obtain ⟨g, cp, rfl, hg, hcell⟩ := owns_some hown2 (by omega)
    have hcs : ∀ j (h : j < s.size), w2.cell? ⟨g, j, none⟩ = some (.int .u8 (clb s[j])) := by
      intro j hj
      rw [hcell _ (by omega), List.getElem?_append_left (by simp [cl]; omega)]
      simp [cl, hj]; rfl
    have hcr : w2.cell? ⟨g, s.size, none⟩ = some (.int .u8 13) := by
      rw [hcell _ (by omega), List.getElem?_append_right (by simp [cl])]
      simp [cl]
    have hcn : w2.cell? ⟨g, s.size + 1, none⟩ = some (.int .u8 10) := by
      rw [hcell _ (by omega), List.getElem?_append_right (by simp [cl])]
      have e : s.size + 1 - (cl s.data.toList).length = 1 := by simp [cl]
      rw [e]; rfl
    have HCS := hideIt hcs
    have HBB : Hid (Below w'.heap.size w' w2) := hb1.trans (hb2.mono hb1.size)
    clear hcs hcell hr hown2 hb2 hb1
    go_wp2
    refine wp_loop_rounds 1 ?_
    rw [rounds_succ]
    go_wp2
    go_loopw [7, 8] (fun i _ wr => ∃ m : Nat, m ≤ s.size ∧ i = .int .i64 m ∧ wr = w2) (fun i _ _ => s.size - (intOf i).toNat)
    case atStart => exact ⟨0, Nat.zero_le _, rfl, rfl⟩
    case round =>
      obtain ⟨m, hm, rfl, rfl⟩ := hrel
      by_cases hlt2 : m < s.size
      · have c1 := HCS.out m hlt2
        by_cases h13 : (s[m].toNat : Int) = 13
        · rw [clb_hit _ (.inl h13)] at c1
          have g13 : ((s[m].toNat : Int) == 13) = true := beq_iff_eq.2 h13
          clear h13
          go_wp2
          go_roundw
          case rel => exact ⟨m + 1, by omega, by go_num, trivial⟩
          case measure => simp [intOf]; omega
        · by_cases h10 : (s[m].toNat : Int) = 10
          · rw [clb_hit _ (.inr h10)] at c1
            have g13 : ((s[m].toNat : Int) == 13) = false := beq_eq_false_iff_ne.2 h13
            have g10 : ((s[m].toNat : Int) == 10) = true := beq_iff_eq.2 h10
            clear h13 h10
            go_wp2
            go_roundw
            case rel => exact ⟨m + 1, by omega, by go_num, trivial⟩
            case measure => simp [intOf]; omega
          · rw [clb_miss _ h13 h10] at c1
            have g13 : ((s[m].toNat : Int) == 13) = false := beq_eq_false_iff_ne.2 h13
            have g10 : ((s[m].toNat : Int) == 10) = false := beq_eq_false_iff_ne.2 h10
            clear h13 h10
            go_wp2
            go_roundw
            case rel => exact ⟨m + 1, by omega, by go_num, trivial⟩
            case measure => simp [intOf]; omega
      · go_wp2
        go_ret
        exact ⟨rfl, HBB.out⟩
  · have hr : Ready w1 w1.heap.size 5 (.slice (some ⟨w'.heap.size, 0, none⟩) len len) len (bv (zs.take len)) := by
      refine .inr ⟨_, rfl, (fun h => by cases h), by simpa using hown.1, ?_⟩
      rintro b ⟨rfl⟩ j u hu
      have hj : j < len := by have := (List.getElem?_eq_some_iff.1 hu).1; rw [hown.1] at this; omega
      rw [Go.WideShapes.add_plain, Nat.zero_add, hown.cellAt j (by omega)]; exact hu
    go_wp2_with fail
    refine (zzAppendLine_any _ _ _ _ _ hr (by omega) (by omega)).mono ?_
    rintro e w2 ⟨v, rfl, hown2, hb2⟩
    obtain ⟨g, cp, rfl, hg, hcell⟩ := owns_some hown2 (by omega)
    have hc2 : ∀ j, j < len → w2.cell? ⟨w'.heap.size, j, none⟩ = some (.int .u8 (zs.getD j 0)) := by
      intro j hj
      have hlz : j < (zs.take len).length := by have := hown.1; simp [bv] at this; simp; omega
      have h1 := hown.cellAt j (by omega)
      have h2 : (bv (zs.take len))[j]? = some (.int .u8 (zs.getD j 0)) := by
        have hlz' : j < zs.length := by simp at hlz; omega
        simp [bv, hlz', hj]
      rw [h2] at h1
      rw [hb2.cell (World.block_lt_of_cell? w1 _ h1)]
      exact h1
    have hlb : (bv (zs.take len)).length = len := by simpa using hown.1
    have hcg : ∀ j, j < len → w2.cell? ⟨g, j, none⟩ = some (.int .u8 (zs.getD j 0)) := by
      intro j hj
      have hlz : j < zs.length := by have := hown.1; simp [bv] at this; omega
      rw [hcell j (by omega), List.getElem?_append_left (by omega)]
      simp [bv, hj, hlz]
    have hcs : ∀ j (h : j < s.size), w2.cell? ⟨g, len + j, none⟩ = some (.int .u8 (clb s[j])) := by
      intro j hj
      rw [hcell _ (by omega), List.getElem?_append_right (by omega), hlb, Nat.add_sub_cancel_left, List.getElem?_append_left (by simp [cl]; omega)]
      simp [cl, hj]; rfl
    have hcr : w2.cell? ⟨g, len + s.size, none⟩ = some (.int .u8 13) := by
      rw [hcell _ (by omega), List.getElem?_append_right (by omega), hlb, Nat.add_sub_cancel_left, List.getElem?_append_right (by simp [cl])]
      simp [cl]
    have hcn : w2.cell? ⟨g, len + s.size + 1, none⟩ = some (.int .u8 10) := by
      rw [hcell _ (by omega), List.getElem?_append_right (by omega), hlb, List.getElem?_append_right (by simp [cl]; omega)]
      have e : len + s.size + 1 - len - (cl s.data.toList).length = 1 := by simp [cl]; omega
      rw [e]; rfl
    have HC2 := hideIt hc2
    have HCG := hideIt hcg
    have HCS := hideIt hcs
    have HBB : Hid (Below w'.heap.size w' w2) := hb1.trans (hb2.mono hb1.size)
    clear hc2 hcg hcs hcell hlb hr hown hown2 hb2 hb1
    go_wp2
    go_loopw [6] (fun i wr => ∃ k nq : Nat, k ≤ len ∧ i = .int .i64 k ∧ wr = w2.drewN nq) (fun i _ => len - (intOf i).toNat)
    case atStart => exact ⟨0, 0, Nat.zero_le _, rfl, rfl⟩
    case round =>
      obtain ⟨k, nq, hk, rfl, rfl⟩ := hrel
      by_cases hlt : k < len
      · have c1 := HC2.out k hlt
        have c2 := HCG.out k hlt
        have b1 : (k : Int) < (len : Int) := by omega
        have b2 : (k : Int) < (len : Int) + (s.size : Int) + 2 := by omega
        go_wp2
        go_quiet (fail)
        go_wp2
        go_roundw
        case rel => exact ⟨k + 1, _, by omega, by go_num, rfl⟩
        case measure => simp [intOf]; omega
      · go_wp2
        go_loopw [7, 8] (fun i _ wr => ∃ m : Nat, m ≤ s.size ∧ i = .int .i64 m ∧ wr = w2.drewN nq) (fun i _ _ => s.size - (intOf i).toNat)
        case atStart => exact ⟨0, Nat.zero_le _, rfl, rfl⟩
        case round =>
          obtain ⟨m, hm, rfl, rfl⟩ := hrel
          by_cases hlt2 : m < s.size
          · have c1 := HCS.out m hlt2
            by_cases h13 : (s[m].toNat : Int) = 13
            · rw [clb_hit _ (.inl h13)] at c1
              have g13 : ((s[m].toNat : Int) == 13) = true := beq_iff_eq.2 h13
              clear h13
              go_wp2
              go_roundw
              case rel => exact ⟨m + 1, by omega, by go_num, trivial⟩
              case measure => simp [intOf]; omega
            · by_cases h10 : (s[m].toNat : Int) = 10
              · rw [clb_hit _ (.inr h10)] at c1
                have g13 : ((s[m].toNat : Int) == 13) = false := beq_eq_false_iff_ne.2 h13
                have g10 : ((s[m].toNat : Int) == 10) = true := beq_iff_eq.2 h10
                clear h13 h10
                go_wp2
                go_roundw
                case rel => exact ⟨m + 1, by omega, by go_num, trivial⟩
                case measure => simp [intOf]; omega
              · rw [clb_miss _ h13 h10] at c1
                have g13 : ((s[m].toNat : Int) == 13) = false := beq_eq_false_iff_ne.2 h13
                have g10 : ((s[m].toNat : Int) == 10) = false := beq_eq_false_iff_ne.2 h10
                clear h13 h10
                go_wp2
                go_roundw
                case rel => exact ⟨m + 1, by omega, by go_num, trivial⟩
                case measure => simp [intOf]; omega
          · go_wp2
            go_ret
            exact ⟨rfl, below_drewN HBB.out _⟩
end Go.Proofs.Qxb6604269a
