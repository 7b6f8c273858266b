/- resp.appendLine by a contract. -/
import Derived.Test.Qxb6604269aRows
import Derived.Test.Qxb6604269aKit
import Derived.WalkSpells
import Derived.WalkLawsBesides
namespace Go.Proofs.Qxb6604269a
open Go.RowKit

theorem Try.info5 : (Try.prog.info? 5).map (fun i => (i.zero, i.size, i.bytes)) = some (some (.int .u8 0), 1, 1) := by kernel_rfl

/-- CR and LF as a space. -/
def clb (c : UInt8) : Int := if c = 13 ∨ c = 10 then 32 else (c.toNat : Int)
def cl (l : List UInt8) : List Value := l.map fun c => Value.int .u8 (clb c)
theorem cl_snoc (s : ByteArray) (k : Nat) (h : k < s.size) : cl (s.data.toList.take (k + 1)) = cl (s.data.toList.take k) ++ [Value.int .u8 (clb s[k])] := by
  have e : s.data.toList.take (k + 1) = s.data.toList.take k ++ [s[k]] := by
    rw [List.take_succ_eq_append_getElem (by simpa using h)]; rfl
  rw [e]; simp [cl]
theorem cl_all (s : ByteArray) : s.data.toList.take s.size = s.data.toList := List.take_of_length_le (by simp)
theorem clb_hit (c : UInt8) (h : (c.toNat : Int) = 13 ∨ (c.toNat : Int) = 10) : clb c = 32 := by
  unfold clb; rw [if_pos]
  rcases h with h | h
  · exact .inl (UInt8.toNat_inj.1 (by simpa using (by omega : c.toNat = 13)))
  · exact .inr (UInt8.toNat_inj.1 (by simpa using (by omega : c.toNat = 10)))
theorem clb_miss (c : UInt8) (h : (c.toNat : Int) ≠ 13) (h' : (c.toNat : Int) ≠ 10) : clb c = (c.toNat : Int) := by
  unfold clb; rw [if_neg]
  rintro (rfl | rfl)
  · exact h rfl
  · exact h' rfl

set_option maxHeartbeats 1600000 in
theorem appendLine_any (v : Value) (n : Nat) (xs : List Value) (s : ByteArray) (w : World) (hr : Ready w w.heap.size 5 v n xs) (hn : n ≤ 1048576) (hs : s.size ≤ 1048576) :
    Calls Try.prog 23 #[v, .string s] w fun e w' => ∃ v', e = .returned v' ∧ w'.ownsRow w.heap.size 5 1 v' (n + s.size + 2) (xs ++ (cl s.data.toList ++ [.int .u8 13, .int .u8 10])) ∧ Below w.heap.size w w' := by
  obtain ⟨i0, hi, hz0, hz1, hz2⟩ := info_parts Try.info5
  obtain ⟨B, hB⟩ : ∃ B, B = w.heap.size := ⟨_, rfl⟩
  have HB : Hid (B = w.heap.size) := hB
  rw [← hB] at hr ⊢
  have hBle : B ≤ w.heap.size := by omega
  clear hB
  go_enter Try.func23, Try.ntmps23
  go_wp2
  go_loopw [0, 5] (fun v i wr => ∃ k : Nat, k ≤ s.size ∧ i = .int .i64 k ∧ Ready wr B 5 v (n + k) (xs ++ cl (s.data.toList.take k)) ∧ Below B w wr) (fun _ i _ => s.size - (intOf i).toNat)
  case atStart => exact ⟨0, Nat.zero_le _, rfl, by simpa [cl] using hr, Below.refl _ _⟩
  case round =>
    obtain ⟨k, hk, rfl, hown, hbel⟩ := hrel
    have hsz : B ≤ wr.heap.size := Nat.le_trans hBle hbel.size
    by_cases hlt : k < s.size
    · have HS : Hid (cl (s.data.toList.take (k + 1)) = cl (s.data.toList.take k) ++ [Value.int .u8 (clb s[k])]) := cl_snoc s k hlt
      by_cases h13 : (s[k].toNat : Int) = 13
      · have HC : Hid (clb s[k] = 32) := clb_hit _ (.inl h13)
        have g13 : ((s[k].toNat : Int) == 13) = true := beq_iff_eq.2 h13
        clear h13
        go_wp2_with (at_builtin; refine wpList_append_ready _ rfl (.tmp 22) (.tmp 24) 22 rfl B 5 i0 (.int .u8 0) 1 Try.underlying22 hi hz0 hz1 hz2 rfl _ _ _ rfl (hown.alloc _) ⟨wr.heap.size, 0, none⟩ 1 1 [.int .u8 32] rfl rfl (by decide) ?c1 ?c2 ?c3 ?c4 ?c5 ?_)
        case c1 => exact cell_one_new _ _ _
        case c2 => intro u hu; simp at hu; subst hu; rfl
        case c3 => unfold maxLen; omega
        case c4 => omega
        case c5 => simp; omega
        intro v' w1 hown' hb1
        go_wp2
        go_roundw
        case rel => exact ⟨k + 1, by omega, by go_num, .inl (by rw [HS.out, HC.out, ← Nat.add_assoc]; exact hown'), (hbel.alloc hsz _).trans hb1⟩
        case measure => simp [intOf]; omega
      by_cases h10 : (s[k].toNat : Int) = 10
      · have HC : Hid (clb s[k] = 32) := clb_hit _ (.inr h10)
        have g13 : ((s[k].toNat : Int) == 13) = false := beq_eq_false_iff_ne.2 h13
        have g10 : ((s[k].toNat : Int) == 10) = true := beq_iff_eq.2 h10
        clear h10 h13
        go_wp2_with (at_builtin; refine wpList_append_ready _ rfl (.tmp 22) (.tmp 24) 22 rfl B 5 i0 (.int .u8 0) 1 Try.underlying22 hi hz0 hz1 hz2 rfl _ _ _ rfl (hown.alloc _) ⟨wr.heap.size, 0, none⟩ 1 1 [.int .u8 32] rfl rfl (by decide) ?c1 ?c2 ?c3 ?c4 ?c5 ?_)
        case c1 => exact cell_one_new _ _ _
        case c2 => intro u hu; simp at hu; subst hu; rfl
        case c3 => unfold maxLen; omega
        case c4 => omega
        case c5 => simp; omega
        intro v' w1 hown' hb1
        go_wp2
        go_roundw
        case rel => exact ⟨k + 1, by omega, by go_num, .inl (by rw [HS.out, HC.out, ← Nat.add_assoc]; exact hown'), (hbel.alloc hsz _).trans hb1⟩
        case measure => simp [intOf]; omega
      · have HC : Hid (clb s[k] = (s[k].toNat : Int)) := clb_miss _ h13 h10
        have g13 : ((s[k].toNat : Int) == 13) = false := beq_eq_false_iff_ne.2 h13
        have g10 : ((s[k].toNat : Int) == 10) = false := beq_eq_false_iff_ne.2 h10
        go_wp2_with (at_builtin; refine wpList_append_ready _ rfl (.tmp 22) (.tmp 24) 22 rfl B 5 i0 (.int .u8 0) 1 Try.underlying22 hi hz0 hz1 hz2 rfl _ _ _ rfl (hown.alloc _) ⟨wr.heap.size, 0, none⟩ 1 1 [.int .u8 (s[k].toNat : Int)] rfl rfl (by decide) ?c1 ?c2 ?c3 ?c4 ?c5 ?_)
        case c1 => exact cell_one_new _ _ _
        case c2 => intro u hu; simp at hu; subst hu; rfl
        case c3 => unfold maxLen; omega
        case c4 => omega
        case c5 => simp; omega
        intro v' w1 hown' hb1
        go_wp2
        go_roundw
        case rel => exact ⟨k + 1, by omega, by go_num, .inl (by rw [HS.out, HC.out, ← Nat.add_assoc]; exact hown'), (hbel.alloc hsz _).trans hb1⟩
        case measure => simp [intOf]; omega
    · obtain rfl : k = s.size := by omega
      rw [cl_all] at hown
      go_wp2_with (at_builtin; refine wpList_append_ready _ rfl (.tmp 26) (.tmp 27) 22 rfl B 5 i0 (.int .u8 0) 1 Try.underlying22 hi hz0 hz1 hz2 rfl _ _ _ rfl (hown.alloc _) ⟨wr.heap.size, 0, none⟩ 2 2 [.int .u8 13, .int .u8 10] rfl rfl (by decide) ?c1 ?c2 ?c3 ?c4 ?c5 ?_)
      case c1 =>
        intro j u hj
        match j, hj with
        | 0, hj => simp at hj; subst hj; simp [Addr.add]
        | 1, hj => simp at hj; subst hj; simp [Addr.add]
      case c2 => intro u hu; simp at hu; rcases hu with rfl | rfl <;> rfl
      case c3 => unfold maxLen; omega
      case c4 => omega
      case c5 => simp; omega
      intro v' w1 hown' hb1
      go_wp2
      go_ret
      exact ⟨v', rfl, hown', (hbel.alloc hsz _).trans hb1⟩

theorem zzAppendLine_any (v : Value) (n : Nat) (xs : List Value) (s : ByteArray) (w : World) (hr : Ready w w.heap.size 5 v n xs) (hn : n ≤ 1048576) (hs : s.size ≤ 1048576) :
    Calls Try.prog 16 #[v, .string s] w fun e w' => ∃ v', e = .returned v' ∧ w'.ownsRow w.heap.size 5 1 v' (n + s.size + 2) (xs ++ (cl s.data.toList ++ [.int .u8 13, .int .u8 10])) ∧ Below w.heap.size w w' := by
  go_enter Try.func16, Try.ntmps16
  go_wp2_with (go_at_call 23; refine (appendLine_any v n xs s _ hr hn hs).mono ?_; rintro e w' ⟨v', rfl, ho, hb⟩)
  go_ret
  exact ⟨_, rfl, ho, hb⟩
end Go.Proofs.Qxb6604269a
