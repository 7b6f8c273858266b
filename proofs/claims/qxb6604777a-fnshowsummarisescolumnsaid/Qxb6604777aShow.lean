/- ZZShow by a contract. -/
import Derived.Test.Qxb6604777aCols
import Derived.Deep.QuietTactic
import Derived.BigQuiet
namespace Go.Proofs.Qxb6604777a
open Go.RowKit
set_option linter.unusedVariables false
set_option linter.unusedSimpArgs false

/-- The world in which ZZShow calls show. -/
def shown (w : World) (p e : Int) (r : ByteArray) : World :=
  (w.alloc (.cells #[.int .i64 p, .int .i64 e, .string r] 56)).alloc (.cells #[.slice none 0 0, .slice none 0 0, .slice none 0 0, .slice none 0 0, .slice none 0 0, .int .i64 0, .slice none 0 0, .slice none 0 0, .slice (some ⟨w.heap.size, 0, none⟩) 1 1, .slice none 0 0] 60)

/-- What show leaves. -/
def After (w w' : World) (p e : Int) (r old v : ByteArray) (en : Ending) : Prop :=
  en = .returned (.tuple #[]) ∧ ∃ p' e' r', w' = shown w p' e' r' ∧ p' = showP p old v ∧ e' = showE p e r old v ∧ r' = showR p r old v

set_option maxHeartbeats 1000000 in
theorem showA1 (p e : Int) (r old v : ByteArray) (w : World) (p0 : 0 ≤ p) (p1 : p ≤ 2000000) (e0 : 0 ≤ e) (e1 : e ≤ 2000000) (ho : ne old = false) (hv : ne v = false) :
    Calls Try.prog 33 #[.pointer (some ⟨w.heap.size + 1, 0, none⟩), .int .i64 0, .string old, .string v] (shown w p e r) fun en w' => After w w' p e r old v en := by
  have K : Hid (showP p old v = p ∧ showE p e r old v = e ∧ showR p r old v = r) := by
    refine hideIt ?_
    have hR : showR p r old v = r := by simp [showR, ho, hv]
    refine ⟨?_, ?_, hR⟩
    · simp [showP, ho, hv]
    · simp only [showE, hR]
      simp [same_refl, ho, hv]
  have g1 := isEmpty_of_ne ho
  have g2 := isEmpty_of_ne hv
  clear ho hv
  unfold shown
  go_enter Try.func33, Try.ntmps33
  go_wp2
  go_end0
  exact ⟨rfl, _, _, _, rfl, by have := K.out.1; omega, by have := K.out.2.1; omega, K.out.2.2.symm⟩

set_option maxHeartbeats 1000000 in
theorem showA2 (p e : Int) (r old v : ByteArray) (w : World) (p0 : 0 ≤ p) (p1 : p ≤ 2000000) (e0 : 0 ≤ e) (e1 : e ≤ 2000000) (ho : ne old = false) (hv : ne v = true) (hz : p = 0) :
    Calls Try.prog 33 #[.pointer (some ⟨w.heap.size + 1, 0, none⟩), .int .i64 0, .string old, .string v] (shown w p e r) fun en w' => After w w' p e r old v en := by
  have K : Hid (showP p old v = p + 1 ∧ showE p e r old v = e + 1 ∧ showR p r old v = v) := by
    refine hideIt ?_
    have hR : showR p r old v = v := by simp [showR, ho, hv, hz]
    refine ⟨?_, ?_, hR⟩
    · simp [showP, ho, hv]
    · simp only [showE, hR]
      simp [same_refl, ho, hv]
  have g1 := isEmpty_of_ne ho
  have g2 := isEmpty_of_ne hv
  have g4 : ((p) == 0) = true := beq_iff_eq.2 hz
  clear ho hv hz
  unfold shown
  go_enter Try.func33, Try.ntmps33
  go_wp2
  go_end0
  exact ⟨rfl, _, _, _, rfl, by have := K.out.1; omega, by have := K.out.2.1; omega, K.out.2.2.symm⟩

set_option maxHeartbeats 1000000 in
theorem showA3 (p e : Int) (r old v : ByteArray) (w : World) (p0 : 0 ≤ p) (p1 : p ≤ 2000000) (e0 : 0 ≤ e) (e1 : e ≤ 2000000) (ho : ne old = false) (hv : ne v = true) (hz : p ≠ 0) (ht : same v r = false) :
    Calls Try.prog 33 #[.pointer (some ⟨w.heap.size + 1, 0, none⟩), .int .i64 0, .string old, .string v] (shown w p e r) fun en w' => After w w' p e r old v en := by
  have K : Hid (showP p old v = p + 1 ∧ showE p e r old v = e ∧ showR p r old v = r) := by
    refine hideIt ?_
    have hR : showR p r old v = r := by simp [showR, ho, hv, hz]
    refine ⟨?_, ?_, hR⟩
    · simp [showP, ho, hv]
    · simp only [showE, hR]
      simp [same_refl, ho, hv, ht]
  have g1 := isEmpty_of_ne ho
  have g2 := isEmpty_of_ne hv
  have g4 : ((p) == 0) = false := beq_eq_false_iff_ne.2 hz
  have g5 : (v.toList == r.toList) = false := ht
  clear ho hv hz ht
  unfold shown
  go_enter Try.func33, Try.ntmps33
  go_wp2
  go_end0
  exact ⟨rfl, _, _, _, rfl, by have := K.out.1; omega, by have := K.out.2.1; omega, K.out.2.2.symm⟩

set_option maxHeartbeats 1000000 in
theorem showA4 (p e : Int) (r old v : ByteArray) (w : World) (p0 : 0 ≤ p) (p1 : p ≤ 2000000) (e0 : 0 ≤ e) (e1 : e ≤ 2000000) (ho : ne old = false) (hv : ne v = true) (hz : p ≠ 0) (ht : same v r = true) :
    Calls Try.prog 33 #[.pointer (some ⟨w.heap.size + 1, 0, none⟩), .int .i64 0, .string old, .string v] (shown w p e r) fun en w' => After w w' p e r old v en := by
  have K : Hid (showP p old v = p + 1 ∧ showE p e r old v = e + 1 ∧ showR p r old v = r) := by
    refine hideIt ?_
    have hR : showR p r old v = r := by simp [showR, ho, hv, hz]
    refine ⟨?_, ?_, hR⟩
    · simp [showP, ho, hv]
    · simp only [showE, hR]
      simp [same_refl, ho, hv, ht]
  have g1 := isEmpty_of_ne ho
  have g2 := isEmpty_of_ne hv
  have g4 : ((p) == 0) = false := beq_eq_false_iff_ne.2 hz
  have g5 : (v.toList == r.toList) = true := ht
  clear ho hv hz ht
  unfold shown
  go_enter Try.func33, Try.ntmps33
  go_wp2
  go_end0
  exact ⟨rfl, _, _, _, rfl, by have := K.out.1; omega, by have := K.out.2.1; omega, K.out.2.2.symm⟩

set_option maxHeartbeats 1000000 in
theorem showB1 (p e : Int) (r old v : ByteArray) (w : World) (p0 : 0 ≤ p) (p1 : p ≤ 2000000) (e0 : 0 ≤ e) (e1 : e ≤ 2000000) (ho : ne old = true) (hs : same old r = false) (hv : ne v = false) :
    Calls Try.prog 33 #[.pointer (some ⟨w.heap.size + 1, 0, none⟩), .int .i64 0, .string old, .string v] (shown w p e r) fun en w' => After w w' p e r old v en := by
  have K : Hid (showP p old v = p - 1 ∧ showE p e r old v = e ∧ showR p r old v = r) := by
    refine hideIt ?_
    have hR : showR p r old v = r := by simp [showR, ho, hv]
    refine ⟨?_, ?_, hR⟩
    · simp [showP, ho, hv]
    · simp only [showE, hR]
      simp [same_refl, ho, hs, hv]
  have g1 := isEmpty_of_ne ho
  have g2 := isEmpty_of_ne hv
  have g3 : (old.toList == r.toList) = false := hs
  clear ho hs hv
  unfold shown
  go_enter Try.func33, Try.ntmps33
  go_wp2
  go_end0
  exact ⟨rfl, _, _, _, rfl, by have := K.out.1; omega, by have := K.out.2.1; omega, K.out.2.2.symm⟩

set_option maxHeartbeats 1000000 in
theorem showB2 (p e : Int) (r old v : ByteArray) (w : World) (p0 : 0 ≤ p) (p1 : p ≤ 2000000) (e0 : 0 ≤ e) (e1 : e ≤ 2000000) (ho : ne old = true) (hs : same old r = false) (hv : ne v = true) (hz : p - 1 = 0) :
    Calls Try.prog 33 #[.pointer (some ⟨w.heap.size + 1, 0, none⟩), .int .i64 0, .string old, .string v] (shown w p e r) fun en w' => After w w' p e r old v en := by
  have K : Hid (showP p old v = p - 1 + 1 ∧ showE p e r old v = e + 1 ∧ showR p r old v = v) := by
    refine hideIt ?_
    have hR : showR p r old v = v := by simp [showR, ho, hv, hz]
    refine ⟨?_, ?_, hR⟩
    · simp [showP, ho, hv]
    · simp only [showE, hR]
      simp [same_refl, ho, hs, hv]
  have g1 := isEmpty_of_ne ho
  have g2 := isEmpty_of_ne hv
  have g3 : (old.toList == r.toList) = false := hs
  have g4 : ((p - 1) == 0) = true := beq_iff_eq.2 hz
  clear ho hs hv hz
  unfold shown
  go_enter Try.func33, Try.ntmps33
  go_wp2
  go_end0
  exact ⟨rfl, _, _, _, rfl, by have := K.out.1; omega, by have := K.out.2.1; omega, K.out.2.2.symm⟩

set_option maxHeartbeats 1000000 in
theorem showB3 (p e : Int) (r old v : ByteArray) (w : World) (p0 : 0 ≤ p) (p1 : p ≤ 2000000) (e0 : 0 ≤ e) (e1 : e ≤ 2000000) (ho : ne old = true) (hs : same old r = false) (hv : ne v = true) (hz : p - 1 ≠ 0) (ht : same v r = false) :
    Calls Try.prog 33 #[.pointer (some ⟨w.heap.size + 1, 0, none⟩), .int .i64 0, .string old, .string v] (shown w p e r) fun en w' => After w w' p e r old v en := by
  have K : Hid (showP p old v = p - 1 + 1 ∧ showE p e r old v = e ∧ showR p r old v = r) := by
    refine hideIt ?_
    have hR : showR p r old v = r := by simp [showR, ho, hv, hz]
    refine ⟨?_, ?_, hR⟩
    · simp [showP, ho, hv]
    · simp only [showE, hR]
      simp [same_refl, ho, hs, hv, ht]
  have g1 := isEmpty_of_ne ho
  have g2 := isEmpty_of_ne hv
  have g3 : (old.toList == r.toList) = false := hs
  have g4 : ((p - 1) == 0) = false := beq_eq_false_iff_ne.2 hz
  have g5 : (v.toList == r.toList) = false := ht
  clear ho hs hv hz ht
  unfold shown
  go_enter Try.func33, Try.ntmps33
  go_wp2
  go_end0
  exact ⟨rfl, _, _, _, rfl, by have := K.out.1; omega, by have := K.out.2.1; omega, K.out.2.2.symm⟩

set_option maxHeartbeats 1000000 in
theorem showB4 (p e : Int) (r old v : ByteArray) (w : World) (p0 : 0 ≤ p) (p1 : p ≤ 2000000) (e0 : 0 ≤ e) (e1 : e ≤ 2000000) (ho : ne old = true) (hs : same old r = false) (hv : ne v = true) (hz : p - 1 ≠ 0) (ht : same v r = true) :
    Calls Try.prog 33 #[.pointer (some ⟨w.heap.size + 1, 0, none⟩), .int .i64 0, .string old, .string v] (shown w p e r) fun en w' => After w w' p e r old v en := by
  have K : Hid (showP p old v = p - 1 + 1 ∧ showE p e r old v = e + 1 ∧ showR p r old v = r) := by
    refine hideIt ?_
    have hR : showR p r old v = r := by simp [showR, ho, hv, hz]
    refine ⟨?_, ?_, hR⟩
    · simp [showP, ho, hv]
    · simp only [showE, hR]
      simp [same_refl, ho, hs, hv, ht]
  have g1 := isEmpty_of_ne ho
  have g2 := isEmpty_of_ne hv
  have g3 : (old.toList == r.toList) = false := hs
  have g4 : ((p - 1) == 0) = false := beq_eq_false_iff_ne.2 hz
  have g5 : (v.toList == r.toList) = true := ht
  clear ho hs hv hz ht
  unfold shown
  go_enter Try.func33, Try.ntmps33
  go_wp2
  go_end0
  exact ⟨rfl, _, _, _, rfl, by have := K.out.1; omega, by have := K.out.2.1; omega, K.out.2.2.symm⟩

set_option maxHeartbeats 1000000 in
theorem showC1 (p e : Int) (r old v : ByteArray) (w : World) (p0 : 0 ≤ p) (p1 : p ≤ 2000000) (e0 : 0 ≤ e) (e1 : e ≤ 2000000) (ho : ne old = true) (hs : same old r = true) (hv : ne v = false) :
    Calls Try.prog 33 #[.pointer (some ⟨w.heap.size + 1, 0, none⟩), .int .i64 0, .string old, .string v] (shown w p e r) fun en w' => After w w' p e r old v en := by
  have K : Hid (showP p old v = p - 1 ∧ showE p e r old v = e - 1 ∧ showR p r old v = r) := by
    refine hideIt ?_
    have hR : showR p r old v = r := by simp [showR, ho, hv]
    refine ⟨?_, ?_, hR⟩
    · simp [showP, ho, hv]
    · simp only [showE, hR]
      simp [same_refl, ho, hs, hv]
  have g1 := isEmpty_of_ne ho
  have g2 := isEmpty_of_ne hv
  have g3 : (old.toList == r.toList) = true := hs
  clear ho hs hv
  unfold shown
  go_enter Try.func33, Try.ntmps33
  go_wp2
  go_end0
  exact ⟨rfl, _, _, _, rfl, by have := K.out.1; omega, by have := K.out.2.1; omega, K.out.2.2.symm⟩

set_option maxHeartbeats 1000000 in
theorem showC2 (p e : Int) (r old v : ByteArray) (w : World) (p0 : 0 ≤ p) (p1 : p ≤ 2000000) (e0 : 0 ≤ e) (e1 : e ≤ 2000000) (ho : ne old = true) (hs : same old r = true) (hv : ne v = true) (hz : p - 1 = 0) :
    Calls Try.prog 33 #[.pointer (some ⟨w.heap.size + 1, 0, none⟩), .int .i64 0, .string old, .string v] (shown w p e r) fun en w' => After w w' p e r old v en := by
  have K : Hid (showP p old v = p - 1 + 1 ∧ showE p e r old v = e - 1 + 1 ∧ showR p r old v = v) := by
    refine hideIt ?_
    have hR : showR p r old v = v := by simp [showR, ho, hv, hz]
    refine ⟨?_, ?_, hR⟩
    · simp [showP, ho, hv]
    · simp only [showE, hR]
      simp [same_refl, ho, hs, hv]
  have g1 := isEmpty_of_ne ho
  have g2 := isEmpty_of_ne hv
  have g3 : (old.toList == r.toList) = true := hs
  have g4 : ((p - 1) == 0) = true := beq_iff_eq.2 hz
  clear ho hs hv hz
  unfold shown
  go_enter Try.func33, Try.ntmps33
  go_wp2
  go_end0
  exact ⟨rfl, _, _, _, rfl, by have := K.out.1; omega, by have := K.out.2.1; omega, K.out.2.2.symm⟩

set_option maxHeartbeats 1000000 in
theorem showC3 (p e : Int) (r old v : ByteArray) (w : World) (p0 : 0 ≤ p) (p1 : p ≤ 2000000) (e0 : 0 ≤ e) (e1 : e ≤ 2000000) (ho : ne old = true) (hs : same old r = true) (hv : ne v = true) (hz : p - 1 ≠ 0) (ht : same v r = false) :
    Calls Try.prog 33 #[.pointer (some ⟨w.heap.size + 1, 0, none⟩), .int .i64 0, .string old, .string v] (shown w p e r) fun en w' => After w w' p e r old v en := by
  have K : Hid (showP p old v = p - 1 + 1 ∧ showE p e r old v = e - 1 ∧ showR p r old v = r) := by
    refine hideIt ?_
    have hR : showR p r old v = r := by simp [showR, ho, hv, hz]
    refine ⟨?_, ?_, hR⟩
    · simp [showP, ho, hv]
    · simp only [showE, hR]
      simp [same_refl, ho, hs, hv, ht]
  have g1 := isEmpty_of_ne ho
  have g2 := isEmpty_of_ne hv
  have g3 : (old.toList == r.toList) = true := hs
  have g4 : ((p - 1) == 0) = false := beq_eq_false_iff_ne.2 hz
  have g5 : (v.toList == r.toList) = false := ht
  clear ho hs hv hz ht
  unfold shown
  go_enter Try.func33, Try.ntmps33
  go_wp2
  go_end0
  exact ⟨rfl, _, _, _, rfl, by have := K.out.1; omega, by have := K.out.2.1; omega, K.out.2.2.symm⟩

set_option maxHeartbeats 1000000 in
theorem showC4 (p e : Int) (r old v : ByteArray) (w : World) (p0 : 0 ≤ p) (p1 : p ≤ 2000000) (e0 : 0 ≤ e) (e1 : e ≤ 2000000) (ho : ne old = true) (hs : same old r = true) (hv : ne v = true) (hz : p - 1 ≠ 0) (ht : same v r = true) :
    Calls Try.prog 33 #[.pointer (some ⟨w.heap.size + 1, 0, none⟩), .int .i64 0, .string old, .string v] (shown w p e r) fun en w' => After w w' p e r old v en := by
  have K : Hid (showP p old v = p - 1 + 1 ∧ showE p e r old v = e - 1 + 1 ∧ showR p r old v = r) := by
    refine hideIt ?_
    have hR : showR p r old v = r := by simp [showR, ho, hv, hz]
    refine ⟨?_, ?_, hR⟩
    · simp [showP, ho, hv]
    · simp only [showE, hR]
      simp [same_refl, ho, hs, hv, ht]
  have g1 := isEmpty_of_ne ho
  have g2 := isEmpty_of_ne hv
  have g3 : (old.toList == r.toList) = true := hs
  have g4 : ((p - 1) == 0) = false := beq_eq_false_iff_ne.2 hz
  have g5 : (v.toList == r.toList) = true := ht
  clear ho hs hv hz ht
  unfold shown
  go_enter Try.func33, Try.ntmps33
  go_wp2
  go_end0
  exact ⟨rfl, _, _, _, rfl, by have := K.out.1; omega, by have := K.out.2.1; omega, K.out.2.2.symm⟩

theorem show_any (p e : Int) (r old v : ByteArray) (w : World) (p0 : 0 ≤ p) (p1 : p ≤ 2000000) (e0 : 0 ≤ e) (e1 : e ≤ 2000000) :
    Calls Try.prog 33 #[.pointer (some ⟨w.heap.size + 1, 0, none⟩), .int .i64 0, .string old, .string v] (shown w p e r) fun en w' => After w w' p e r old v en := by
  cases ho : ne old
  · cases hv : ne v
    · exact showA1 p e r old v w p0 p1 e0 e1 ho hv
    · by_cases hz : p = 0
      · exact showA2 p e r old v w p0 p1 e0 e1 ho hv hz
      · cases ht : same v r
        · exact showA3 p e r old v w p0 p1 e0 e1 ho hv hz ht
        · exact showA4 p e r old v w p0 p1 e0 e1 ho hv hz ht
  · cases hs : same old r
    · cases hv : ne v
      · exact showB1 p e r old v w p0 p1 e0 e1 ho hs hv
      · by_cases hz : p - 1 = 0
        · exact showB2 p e r old v w p0 p1 e0 e1 ho hs hv hz
        · cases ht : same v r
          · exact showB3 p e r old v w p0 p1 e0 e1 ho hs hv hz ht
          · exact showB4 p e r old v w p0 p1 e0 e1 ho hs hv hz ht
    · cases hv : ne v
      · exact showC1 p e r old v w p0 p1 e0 e1 ho hs hv
      · by_cases hz : p - 1 = 0
        · exact showC2 p e r old v w p0 p1 e0 e1 ho hs hv hz
        · cases ht : same v r
          · exact showC3 p e r old v w p0 p1 e0 e1 ho hs hv hz ht
          · exact showC4 p e r old v w p0 p1 e0 e1 ho hs hv hz ht
end Go.Proofs.Qxb6604777a
