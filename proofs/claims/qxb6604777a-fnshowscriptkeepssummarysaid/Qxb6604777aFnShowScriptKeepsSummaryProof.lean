/- The proof of Rows.FnShowScriptKeepsSummarySaid: the frame after the kit's shells (no shell is given for this statement); the walk is ours. -/
import Derived.Test.Qxb6604777aRows
import Derived.Test.Qxb6604777aScriptM
import Derived.Test.Qxb6604777aEarly
import Derived.Test.Qxb6604777aOpens
import Derived.WalkKit
import Derived.ProofKit
import Derived.OpenShut
import Derived.ShutString
import Derived.SliceStrings
import Derived.ChangeOld
import Derived.Below
namespace Go.Proofs.Qxb6604777a.fnShowScriptKeepsSummary
open Go.ChangeShapes Go.WideShapes Go.ChangeAt Go.RowKit
open Go.ChangeMaps (open_string shut_string)
set_option linter.unusedVariables false

theorem own : ownKnob Try.prog.godebug = none := by kernel_rfl
theorem laidOut : laidOutB Try.prog = true := by kernel_rfl

theorem walk (a0 : Int) (a1 : Option Addr) (len1 cap1 : Nat) (f1 : Nat → Int) (a2 : Option Addr) (len2 cap2 : Nat) (l2 : List ByteArray) (w : World) (w0 : (Lit.int .i64 a0).wf = true) (w1 : IsInts w a1 len1 f1) (w2 : IsStrs w a2 len2 l2) :
    Calls Try.prog 5 #[.int .i64 a0, .slice a1 len1 cap1, .slice a2 len2 cap2] w fun e w' => e = .returned (.bool true) ∧ Below w.heap.size w w' := by
  obtain ⟨hm, hi⟩ := w1
  obtain ⟨hl, hn, hc, hs⟩ := w2
  by_cases h1 : len1 ≤ 4096
  · by_cases h2 : len2 ≤ 4096
    · by_cases h3 : 0 ≤ a0
      · by_cases h4 : a0 ≤ 4096
        · obtain ⟨W, rfl⟩ := Int.eq_ofNat_of_zero_le h3
          by_cases hnm : len2 < len1
          · exact script_n W a1 a2 len1 cap1 len2 cap2 f1 l2 w (by omega) h1 h2 hl hi hc hs hnm
          · exact script_m W a1 a2 len1 cap1 len2 cap2 f1 l2 w (by omega) h1 h2 hl hi hc hs hnm
        · exact early_wide a0 a1 a2 len1 cap1 len2 cap2 l2 w h1 h2 hl hc hs (.inr (by omega))
      · exact early_wide a0 a1 a2 len1 cap1 len2 cap2 l2 w h1 h2 hl hc hs (.inl (by omega))
    · exact early_long a0 a1 a2 len1 cap1 len2 cap2 l2 w hm hn hl hc hs (.inr ⟨h1, by omega⟩)
  · exact early_long a0 a1 a2 len1 cap1 len2 cap2 l2 w hm hn hl hc hs (.inl (by omega))

set_option maxRecDepth 100000 in
theorem lifted (os : Os) (started : os.Started) (H : Type) (enc : TypeId × Value → H) :
    ReturnsInHanded {} Try.checked os 5 .any (Rows.fnShowScriptKeepsSummarySpec.pre6 enc Try.prog Try.f5 Rows.fnShowScriptKeepsSummaryRow.domain false) (Rows.fnShowScriptKeepsSummarySpec.post enc Try.prog Try.f5 false true false false) := by
  refine returnsInHanded_of_change (C := Try.checked) own started (by kernel_rfl) Try.func5
    (ChangeSpec.witness6 (enc := enc) (C := Try.checked) false ⟨#[], #[.int .i64 0, .slice none 0 0, .slice none 0 0], []⟩ 8 (by kernel_rfl) (by kernel_rfl) (by kernel_rfl) (by kernel_rfl)) ?_
  intro W base args ds gs before hval0 hW hcnd _
  have hval : ∀ (j : Nat) t v, Try.f5.params[j]? = some t → args[j]? = some v → Value.okWide Try.prog W .any base t v := hval0
  have hW' := hW
  obtain ⟨p, q, hA0, hV, rfl, hfz, hnd⟩ := hW
  have hA : DataW.TrodAll enc Try.prog W 0 (fun _ => true) true Try.f5.params.toList args.toList ds p := hA0
  rw [Try.params5] at hA hval
  obtain ⟨v0, vs0, d0, ds0, p0, q0, hargs, rfl, rfl, h0, r0⟩ := trodAll_cons hA
  obtain ⟨v1, vs1, d1, ds1, p1, q1, rfl, rfl, rfl, h1, r1⟩ := trodAll_cons r0
  obtain ⟨v2, vs2, d2, ds2, p2, q2, rfl, rfl, rfl, h2, r2⟩ := trodAll_cons r1
  obtain ⟨rfl, rfl, rfl⟩ := trodAll_nil r2
  obtain rfl : args = #[v0, v1, v2] := by cases args; simp_all
  obtain ⟨rfl, rfl⟩ := trodVars_none hV
  obtain ⟨a0, rfl, rfl, rfl, w0⟩ := open_int Try.underlying3 (hval 0 3 v0 rfl rfl) h0
  obtain ⟨a1, len1, cap1, rfl⟩ := okWide_slice Try.underlying27 (hval 1 27 v1 rfl rfl)
  have k1 := h1
  have lt1 : ∀ x ∈ p1, x.block < W.heap.size := by obtain ⟨m, hm⟩ := k1; exact DataW.trod_lt m _ _ _ hm
  obtain ⟨l1, w1⟩ : ∃ l, IsInts W a1 len1 l := by
    obtain ⟨fuel, hf⟩ := h1
    rcases open_ints Try.underlying27 Try.underlying3 (by kernel_rfl) hf with ⟨hcs, _⟩ | ⟨x, l, c, zs, hcs, _, hl, hm, hz, _, hcell, hwz⟩
    · simp [Value.cells] at hcs
      obtain ⟨rfl, rfl, rfl⟩ := hcs
      exact ⟨_, ints_nil W⟩
    · simp [Value.cells] at hcs
      obtain ⟨rfl, rfl, rfl⟩ := hcs
      exact ⟨_, ints_of W _ _ _ _ hl hm (by simpa using hz) hcell⟩
  obtain ⟨a2, len2, cap2, rfl⟩ := okWide_slice Try.underlying23 (hval 2 23 v2 rfl rfl)
  have k2 := h2
  have lt2 : ∀ x ∈ p2, x.block < W.heap.size := by obtain ⟨m, hm⟩ := k2; exact DataW.trod_lt m _ _ _ hm
  obtain ⟨l2, w2⟩ : ∃ l, IsStrs W a2 len2 l := by
    obtain ⟨fuel, hf⟩ := h2
    rcases open_strings Try.underlying23 Try.underlying9 (by kernel_rfl) hf with ⟨hcs, _⟩ | ⟨x, l, c, zs, hcs, _, hl, hm, hz, _, hcell, hwz⟩
    · simp [Value.cells] at hcs
      obtain ⟨rfl, rfl, rfl⟩ := hcs
      exact ⟨_, strs_nil W⟩
    · simp [Value.cells] at hcs
      obtain ⟨rfl, rfl, rfl⟩ := hcs
      exact ⟨_, strs_of W _ _ _ _ hl hm (by simpa using hz) hcell hwz⟩
  clear hA0 hval0
  refine (walk a0 a1 len1 cap1 l1 a2 len2 cap2 l2 W w0 w1 w2).mono fun e W' ⟨he, bel⟩ => ?_
  subst he
  exact ⟨_, rfl, _, _, _, [], _, [], hW', trodAll_mk1 (shut_bool Try.underlying4 _), (trodAll_cons_mk (shut_int Try.underlying3 w0) (trodAll_cons_mk (Below.trod laidOut (by kernel_rfl) (of_decide_eq_true (by kernel_rfl)) k1 bel lt1) (trodAll_cons_mk (Below.trod laidOut (by kernel_rfl) (of_decide_eq_true (by kernel_rfl)) k2 bel lt2) trodAll_mk0))), rfl, bel.frame _, fun h => by cases h⟩

theorem over : Rows.fnShowScriptKeepsSummaryRow.holds Try.pinned (OpenSpec.ofChange Rows.fnShowScriptKeepsSummarySpec) :=
  OpenClaim.holds_of_wide 5 Try.f5 rfl rfl rfl rfl rfl rfl rfl ⟨rfl, rfl, rfl, rfl, rfl⟩ rfl rfl rfl rfl rfl (by kernel_rfl) Try.func5 (by kernel_rfl)
    (of_decide_eq_true (by kernel_rfl)) (by unfold Func.isWrapper; first | (rw [if_pos (by decide +kernel)]; kernel_rfl) | (rw [if_neg (by decide +kernel)]; exact ⟨rfl, rfl⟩))
    (fun os started H enc _ => lifted os started H enc)

/-- THE STATEMENT -/
theorem proved : Rows.FnShowScriptKeepsSummarySaid := over
#print axioms proved
end Go.Proofs.Qxb6604777a.fnShowScriptKeepsSummary
