/- Decimal digits: plain mathematics. -/
import Derived.Test.Qxb6604269aKit
namespace Go.Proofs.Qxb6604269a
open Go.RowKit

/-- What a run of digit bytes comes to, read behind the number 'acc'. -/
def dv : Int → List Int → Int
  | acc, [] => acc
  | acc, d :: ds => dv (acc * 10 + (d - 48)) ds

theorem dv_snoc (acc : Int) (l : List Int) (d : Int) : dv acc (l ++ [d]) = dv acc l * 10 + (d - 48) := by
  induction l generalizing acc with
  | nil => rfl
  | cons x xs ih => simp only [List.cons_append, dv]; exact ih _

def Digits (l : List Int) : Prop := ∀ d ∈ l, 48 ≤ d ∧ d ≤ 57

theorem dv_bound (l : List Int) (h : Digits l) : ∀ (acc : Int) (m : Nat), 0 ≤ acc → acc < (10 : Int) ^ m → 0 ≤ dv acc l ∧ dv acc l < (10 : Int) ^ (m + l.length) := by
  induction l with
  | nil => intro acc m h0 h1; exact ⟨h0, by simpa [dv] using h1⟩
  | cons x xs ih =>
    intro acc m h0 h1
    have hx := h x (by simp)
    have e : (10 : Int) ^ (m + 1) = 10 ^ m * 10 := Int.pow_succ 10 m
    have := ih (fun d hd => h d (by simp [hd])) (acc * 10 + (x - 48)) (m + 1) (by omega) (by omega)
    simp only [dv, List.length_cons]
    rw [show m + (xs.length + 1) = m + 1 + xs.length from by omega]
    exact this

theorem dv_small (l : List Int) (h : Digits l) (hl : l.length ≤ 9) : 0 ≤ dv 0 l ∧ dv 0 l ≤ 999999999 := by
  have h1 := dv_bound l h 0 0 (by omega) (by decide)
  have h2 : (10 : Int) ^ (0 + l.length) ≤ 10 ^ 9 := by
    match l.length, hl with
    | 0, _ => decide
    | 1, _ => decide
    | 2, _ => decide
    | 3, _ => decide
    | 4, _ => decide
    | 5, _ => decide
    | 6, _ => decide
    | 7, _ => decide
    | 8, _ => decide
    | 9, _ => decide
  have h3 : (10 : Int) ^ 9 = 1000000000 := by decide
  omega

theorem Digits.take {l : List Int} (h : Digits l) (k : Nat) : Digits (l.take k) := fun d hd => h d (List.mem_of_mem_take hd)

/-- The bound on what is left of the number when m digits have been written. -/
def lim (m : Nat) : Int := (10 : Int) ^ (9 - m)
theorem lim_step (m : Nat) (n : Int) (h0 : 0 < n) (h : n < lim m) : m < 9 ∧ n / 10 < lim (m + 1) := by
  unfold lim at *
  by_cases hm : m < 9
  · refine ⟨hm, ?_⟩
    have e : 9 - m = (9 - (m + 1)) + 1 := by omega
    rw [e, Int.pow_succ] at h
    omega
  · rw [show 9 - m = 0 from by omega] at h
    simp at h; omega
theorem lim_zero (n : Int) (h : n ≤ 999999999) : n < lim 0 := by
  have : lim 0 = 1000000000 := by decide
  omega

/-- A source of an append: nil, or the cells lie there. -/
def Src (w : World) (ao : Option Addr) (len : Nat) (xs : List Value) : Prop :=
  (ao = none → len = 0) ∧ xs.length = len ∧ (∀ u ∈ xs, u.oneCell' = true) ∧ ∀ ad, ao = some ad → ∀ j u, xs[j]? = some u → w.cell? (ad.add j) = some u

theorem Src.below {w w' : World} {ao : Option Addr} {len : Nat} {xs : List Value} (h : Src w ao len xs) (hb : Below w.heap.size w w') : Src w' ao len xs := by
  refine ⟨h.1, h.2.1, h.2.2.1, fun ad ha j u hu => ?_⟩
  have h1 := h.2.2.2 ad ha j u hu
  rw [hb.cell (World.block_lt_of_cell? w _ h1)]
  exact h1
end Go.Proofs.Qxb6604269a
