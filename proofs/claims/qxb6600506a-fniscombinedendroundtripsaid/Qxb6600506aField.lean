/- zzAppendField by a contract. -/
import Derived.Test.Qxb6600506aRows
import Derived.Test.Qxb6600506aPlain
import Derived.WalkKit
import Derived.ProofKit
import Derived.WalkSpells
import Derived.WalkLawsBesides
namespace Go.Proofs.Qxb6600506a
open Go.RowKit

theorem hideIt {p : Prop} (h : p) : Hid p := h
theorem Try.info5 : (Try.prog.info? 5).map (fun i => (i.zero, i.size, i.bytes)) = some (some (.int .u8 0), 1, 1) := by kernel_rfl

/-- Bytes as values. -/
def bv (l : List Int) : List Value := l.map (Value.int .u8)
theorem bv_append (l m : List Int) : bv (l ++ m) = bv l ++ bv m := by simp [bv]
theorem bv_one (l : List Int) : ∀ u ∈ bv l, u.oneCell' = true := by
  intro u hu
  simp only [bv, List.mem_map] at hu
  obtain ⟨x, _, rfl⟩ := hu
  rfl

/-- The bytes l lie behind the address, in a block below B (whatever the address is where there are none). -/
def Src (w : World) (B : Nat) (ao : Option Addr) (l : List Int) : Prop := ∀ j (h : j < l.length), ∃ b off, ao = some ⟨b, off, none⟩ ∧ b < B ∧ w.cell? ⟨b, off + j, none⟩ = some (.int .u8 l[j])
theorem Src.below {w w' : World} {B : Nat} {ao : Option Addr} {l : List Int} (h : Src w B ao l) (hb : Below B w w') : Src w' B ao l := by
  intro j hj
  obtain ⟨b, off, e, hlt, hc⟩ := h j hj
  exact ⟨b, off, e, hlt, (hb.cell (by exact hlt)).trans hc⟩

/-- A row of the call's own: k cells of cap are used, they hold xs. -/
def Row (w : World) (B g k cap : Nat) (l : List Int) : Prop := w.ownsRow B 5 1 (.slice (some ⟨g, 0, none⟩) k cap) k (bv l)
theorem Row.len {w : World} {B g k cap : Nat} {l : List Int} (h : Row w B g k cap l) : l.length = k := by have := h.1; simpa [bv] using this
theorem Row.base {w : World} {B g k cap : Nat} {l : List Int} (h : Row w B g k cap l) : B ≤ g ∧ g < w.heap.size := World.ownsRow.lt h g rfl

set_option maxHeartbeats 2000000 in
theorem field_any (B g k cap : Nat) (xs : List Int) (ao : Option Addr) (n c : Nat) (l : List Int) (w : World) (hB : B ≤ w.heap.size) (ho : Row w B g k cap xs) (hs : Src w B ao l) (hl : l.length = n) (hn : n ≤ 1048576) (hcap : cap ≤ 8388608) (hroom : k + 2 * n + 2 ≤ cap) :
    Calls Try.prog 17 #[.slice (some ⟨g, 0, none⟩) k cap, .slice ao n c] w fun e w' =>
      e = .returned (.slice (some ⟨g, 0, none⟩) (k + (field l).length) cap) ∧ Row w' B g (k + (field l).length) cap (xs ++ field l) ∧ Below B w w' := by
  obtain ⟨i0, hi, hz0, hz1, hz2⟩ := info_parts Try.info5
  have hBg := ho.base.1
  have HO : Hid (w.ownsRow B 5 1 (.slice (some ⟨g, 0, none⟩) k cap) k (bv xs)) := ho
  have HS := hideIt hs
  have HL := hideIt hl
  clear ho hs hl
  go_enter Try.func17, Try.ntmps17
  go_wp2_with (at_builtin; refine wpList_append_fits _ rfl (.tmp 7) (.tmp 8) 22 rfl B 5 i0 1 Try.underlying22 hi hz1 g k cap (bv xs) rfl (HO.out.alloc _) ⟨w.heap.size, 0, none⟩ 1 1 [.int .u8 34] rfl rfl (cell_one_new _ _ _) (by intro u hu; simp at hu; subst hu; rfl) (by omega) ?_)
  intro w1 ho1 hg1
  have HO1 : Hid (w1.ownsRow B 5 1 (.slice (some ⟨g, 0, none⟩) (k + 1) cap) (k + 1) (bv (xs ++ [34]))) := hideIt (by rw [bv_append]; exact ho1)
  have HB1 : Hid (Below B w w1) := ((Below.refl _ _).alloc hB _).grown hg1 (by simp; omega) (fun k hk => by cases hk; exact hBg)
  clear ho1 hg1 HO
  go_wp2
  go_loopw [0, 5, 6] (fun dv iv _ wr => ∃ (j q : Nat) (es : List Int), j ≤ n ∧ iv = .int .i64 (j : Int) ∧ dv = .slice (some ⟨g, 0, none⟩) (k + 1 + q) cap ∧ es = esc (l.take j) ∧ es.length = q ∧ q ≤ 2 * j ∧
      wr.ownsRow B 5 1 (.slice (some ⟨g, 0, none⟩) (k + 1 + q) cap) (k + 1 + q) (bv (xs ++ [34] ++ es)) ∧ Below B w wr) (fun _ iv _ _ => n - (intOf iv).toNat)
  case atStart => exact ⟨0, 0, [], Nat.zero_le _, rfl, rfl, rfl, rfl, by omega, by simpa using HO1.out, HB1.out⟩
  case round =>
    obtain ⟨j, q, es, hj, rfl, rfl, hes, hel, hq, hown, hbel⟩ := hrel
    have HES := hideIt hes
    have HEL := hideIt hel
    have HO := hideIt hown
    have HB := hideIt hbel
    have hBr : B ≤ wr.heap.size := Nat.le_trans hB hbel.size
    clear hes hel hown hbel
    by_cases hlt : j < n
    · have hjl : j < l.length := by have := HL.out; omega
      obtain ⟨b, off, rfl, hbB, hc⟩ := HS.out j hjl
      have hcx : wr.cell? ⟨b, off + j, none⟩ = some (.int .u8 l[j]) := (HB.out.cell (by exact hbB)).trans hc
      have HT := hideIt (take_snoc l j hjl)
      obtain ⟨x, hx⟩ : ∃ x, x = l[j] := ⟨_, rfl⟩
      rw [← hx] at hcx HT
      clear hc hx
      cases hsp : spec x
      · have HN := hideIt hsp
        have g1 : (x == 34) = false := by simp [spec] at hsp; simp [hsp]
        have g2 : (x == 92) = false := by simp [spec] at hsp; simp [hsp]
        clear hsp
        go_wp2_with (at_builtin; refine wpList_append_fits _ rfl (.tmp 29) (.tmp 31) 22 rfl B 5 i0 1 Try.underlying22 hi hz1 g (k + 1 + q) cap (bv (xs ++ [34] ++ es)) rfl (HO.out.alloc _) ⟨wr.heap.size, 0, none⟩ 1 1 [.int .u8 x] rfl rfl (cell_one_new _ _ _) (by intro u hu; simp at hu; subst hu; rfl) (by omega) ?_)
        intro w2 ho2 hg2
        have HO2 : Hid (w2.ownsRow B 5 1 (.slice (some ⟨g, 0, none⟩) (k + 1 + (q + 1)) cap) (k + 1 + (q + 1)) (bv (xs ++ [34] ++ (es ++ [x])))) := hideIt (by simpa [bv, Nat.add_assoc] using ho2)
        have HB2 : Hid (Below B w w2) := (HB.out.alloc hBr _).grown hg2 (by simp; omega) (fun k hk => by cases hk; exact hBg)
        clear ho2 hg2
        go_wp2
        go_roundw
        case rel => exact ⟨j + 1, q + 1, es ++ [x], by omega, by go_num, rfl, by rw [HT.out, esc_no _ _ HN.out, HES.out], by simp [HEL.out], by omega, HO2.out, HB2.out⟩
        case measure => simp [intOf]; omega
      · have HN := hideIt hsp
        by_cases h34 : x = 34
        · have g1 : (x == 34) = true := beq_iff_eq.2 h34
          clear hsp h34
          go_wp2_with (at_builtin; refine wpList_append_fits _ rfl (.tmp 26) (.tmp 27) 22 rfl B 5 i0 1 Try.underlying22 hi hz1 g (k + 1 + q) cap (bv (xs ++ [34] ++ es)) rfl (HO.out.alloc _) ⟨wr.heap.size, 0, none⟩ 1 1 [.int .u8 92] rfl rfl (cell_one_new _ _ _) (by intro u hu; simp at hu; subst hu; rfl) (by omega) ?_)
          intro w2 ho2 hg2
          have HO2 : Hid (w2.ownsRow B 5 1 (.slice (some ⟨g, 0, none⟩) (k + 1 + q + 1) cap) (k + 1 + q + 1) (bv (xs ++ [34] ++ es ++ [92]))) := hideIt (by simpa [bv, Nat.add_assoc] using ho2)
          have HB2 : Hid (Below B w w2) := (HB.out.alloc hBr _).grown hg2 (by simp; omega) (fun k hk => by cases hk; exact hBg)
          have hBr2 : B ≤ w2.heap.size := Nat.le_trans hB HB2.out.size
          clear ho2 hg2
          go_wp2_with (at_builtin; refine wpList_append_fits _ rfl (.tmp 29) (.tmp 31) 22 rfl B 5 i0 1 Try.underlying22 hi hz1 g (k + 1 + q + 1) cap (bv (xs ++ [34] ++ es ++ [92])) rfl (HO2.out.alloc _) ⟨w2.heap.size, 0, none⟩ 1 1 [.int .u8 x] rfl rfl (cell_one_new _ _ _) (by intro u hu; simp at hu; subst hu; rfl) (by omega) ?_)
          intro w3 ho3 hg3
          have HO3 : Hid (w3.ownsRow B 5 1 (.slice (some ⟨g, 0, none⟩) (k + 1 + (q + 2)) cap) (k + 1 + (q + 2)) (bv (xs ++ [34] ++ (es ++ [92, x])))) := hideIt (by simpa [bv, Nat.add_assoc] using ho3)
          have HB3 : Hid (Below B w w3) := (HB2.out.alloc hBr2 _).grown hg3 (by simp; omega) (fun k hk => by cases hk; exact hBg)
          clear ho3 hg3
          go_wp2
          go_roundw
          case rel => exact ⟨j + 1, q + 2, es ++ [92, x], by omega, by go_num, rfl, by rw [HT.out, esc_yes _ _ HN.out, HES.out], by simp [HEL.out], by omega, HO3.out, HB3.out⟩
          case measure => simp [intOf]; omega
        · have g1 : (x == 34) = false := beq_eq_false_iff_ne.2 h34
          have g2 : (x == 92) = true := by simp [spec] at hsp; simp; omega
          clear hsp h34
          go_wp2_with (at_builtin; refine wpList_append_fits _ rfl (.tmp 26) (.tmp 27) 22 rfl B 5 i0 1 Try.underlying22 hi hz1 g (k + 1 + q) cap (bv (xs ++ [34] ++ es)) rfl (HO.out.alloc _) ⟨wr.heap.size, 0, none⟩ 1 1 [.int .u8 92] rfl rfl (cell_one_new _ _ _) (by intro u hu; simp at hu; subst hu; rfl) (by omega) ?_)
          intro w2 ho2 hg2
          have HO2 : Hid (w2.ownsRow B 5 1 (.slice (some ⟨g, 0, none⟩) (k + 1 + q + 1) cap) (k + 1 + q + 1) (bv (xs ++ [34] ++ es ++ [92]))) := hideIt (by simpa [bv, Nat.add_assoc] using ho2)
          have HB2 : Hid (Below B w w2) := (HB.out.alloc hBr _).grown hg2 (by simp; omega) (fun k hk => by cases hk; exact hBg)
          have hBr2 : B ≤ w2.heap.size := Nat.le_trans hB HB2.out.size
          clear ho2 hg2
          go_wp2_with (at_builtin; refine wpList_append_fits _ rfl (.tmp 29) (.tmp 31) 22 rfl B 5 i0 1 Try.underlying22 hi hz1 g (k + 1 + q + 1) cap (bv (xs ++ [34] ++ es ++ [92])) rfl (HO2.out.alloc _) ⟨w2.heap.size, 0, none⟩ 1 1 [.int .u8 x] rfl rfl (cell_one_new _ _ _) (by intro u hu; simp at hu; subst hu; rfl) (by omega) ?_)
          intro w3 ho3 hg3
          have HO3 : Hid (w3.ownsRow B 5 1 (.slice (some ⟨g, 0, none⟩) (k + 1 + (q + 2)) cap) (k + 1 + (q + 2)) (bv (xs ++ [34] ++ (es ++ [92, x])))) := hideIt (by simpa [bv, Nat.add_assoc] using ho3)
          have HB3 : Hid (Below B w w3) := (HB2.out.alloc hBr2 _).grown hg3 (by simp; omega) (fun k hk => by cases hk; exact hBg)
          clear ho3 hg3
          go_wp2
          go_roundw
          case rel => exact ⟨j + 1, q + 2, es ++ [92, x], by omega, by go_num, rfl, by rw [HT.out, esc_yes _ _ HN.out, HES.out], by simp [HEL.out], by omega, HO3.out, HB3.out⟩
          case measure => simp [intOf]; omega
    · obtain rfl : j = n := by omega
      have HE : Hid (es = esc l) := by refine hideIt ?_; rw [HES.out, List.take_of_length_le (by have := HL.out; omega)]
      go_wp2_with (at_builtin; refine wpList_append_fits _ rfl (.tmp 33) (.tmp 34) 22 rfl B 5 i0 1 Try.underlying22 hi hz1 g (k + 1 + q) cap (bv (xs ++ [34] ++ es)) rfl (HO.out.alloc _) ⟨wr.heap.size, 0, none⟩ 1 1 [.int .u8 34] rfl rfl (cell_one_new _ _ _) (by intro u hu; simp at hu; subst hu; rfl) (by omega) ?_)
      intro w2 ho2 hg2
      have HO2 : Hid (w2.ownsRow B 5 1 (.slice (some ⟨g, 0, none⟩) (k + 1 + q + 1) cap) (k + 1 + q + 1) (bv (xs ++ field l))) := hideIt (by have h := ho2; rw [HE.out] at h; simpa [bv, field, Nat.add_assoc] using h)
      have HB2 : Hid (Below B w w2) := (HB.out.alloc hBr _).grown hg2 (by simp; omega) (fun k hk => by cases hk; exact hBg)
      have HF : Hid (k + (field l).length = k + 1 + q + 1) := by refine hideIt ?_; rw [field_len, ← HE.out, HEL.out]; omega
      clear ho2 hg2
      go_wp2
      go_ret
      rw [HF.out]
      exact ⟨rfl, HO2.out, HB2.out⟩
end Go.Proofs.Qxb6600506a
