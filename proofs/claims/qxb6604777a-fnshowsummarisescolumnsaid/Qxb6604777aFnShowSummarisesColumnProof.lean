/- The proof of Rows.FnShowSummarisesColumnSaid: the frame after the kit's shells (no shell is given for this statement); the walk is ours. -/
import Derived.Test.Qxb6604777aRows
import Derived.Test.Qxb6604777aColumn
import Derived.Test.Qxb6604777aColEarly
import Derived.Test.Qxb6604777aOpens
import Derived.WalkKit
import Derived.ProofKit
import Derived.OpenShut
import Derived.ShutString
import Derived.SliceStrings
import Derived.ChangeOld
import Derived.Below
namespace Go.Proofs.Qxb6604777a.fnShowSummarisesColumn
open Go.ChangeShapes Go.WideShapes Go.ChangeAt Go.RowKit
open Go.ChangeMaps (open_string shut_string)
set_option linter.unusedVariables false

theorem own : ownKnob Try.prog.godebug = none := by kernel_rfl
theorem laidOut : laidOutB Try.prog = true := by kernel_rfl

theorem walk (a0 : Option Addr) (len0 cap0 : Nat) (l0 : List ByteArray) (a1 : Int) (a2 : ByteArray) (w : World) (w0 : IsStrs w a0 len0 l0) (w1 : (Lit.int .i64 a1).wf = true) (w2 : a2.size ≤ maxLen) :
    Calls Try.prog 4 #[.slice a0 len0 cap0, .int .i64 a1, .string a2] w fun e w' => e = .returned (.bool true) ∧ Below w.heap.size w w' := by
  obtain ⟨hl, hn, hc, hs⟩ := w0
  by_cases h1 : len0 ≤ 65536
  · by_cases h2 : a2.size ≤ 1048576
    · by_cases h3 : 0 ≤ a1
      · by_cases h4 : a1 < len0
        · obtain ⟨cn, rfl⟩ := Int.eq_ofNat_of_zero_le h3
          have hcn : cn < l0.length := by omega
          obtain ⟨b, off, rfl, h⟩ := hc cn hcn
          have hcol : Col w b off l0 := by
            intro j hj
            obtain ⟨b', off', e, h'⟩ := hc j hj
            cases e
            exact h'
          exact column_main b off len0 cap0 cn l0 a2 w hl h1 h2 (by omega) hcol hs
        · exact col_out a1 a0 len0 cap0 l0 a2 w h1 h2 hl hc hs (.inr ⟨h3, by omega⟩)
      · exact col_out a1 a0 len0 cap0 l0 a2 w h1 h2 hl hc hs (.inl (by omega))
    · exact col_long a1 a0 len0 cap0 l0 a2 w hn w2 hl hc hs (.inr ⟨h1, by omega⟩)
  · exact col_long a1 a0 len0 cap0 l0 a2 w hn w2 hl hc hs (.inl (by omega))

set_option maxRecDepth 100000 in
theorem lifted (os : Os) (started : os.Started) (H : Type) (enc : TypeId × Value → H) :
    ReturnsInHanded {} Try.checked os 4 .any (Rows.fnShowSummarisesColumnSpec.pre6 enc Try.prog Try.f4 Rows.fnShowSummarisesColumnRow.domain false) (Rows.fnShowSummarisesColumnSpec.post enc Try.prog Try.f4 false true false false) := by
  refine returnsInHanded_of_change (C := Try.checked) own started (by kernel_rfl) Try.func4
    (ChangeSpec.witness6 (enc := enc) (C := Try.checked) false ⟨#[], #[.slice none 0 0, .int .i64 0, .string ByteArray.empty], []⟩ 8 (by kernel_rfl) (by kernel_rfl) (by kernel_rfl) (by kernel_rfl)) ?_
  intro W base args ds gs before hval0 hW hcnd _
  have hval : ∀ (j : Nat) t v, Try.f4.params[j]? = some t → args[j]? = some v → Value.okWide Try.prog W .any base t v := hval0
  have hW' := hW
  obtain ⟨p, q, hA0, hV, rfl, hfz, hnd⟩ := hW
  have hA : DataW.TrodAll enc Try.prog W 0 (fun _ => true) true Try.f4.params.toList args.toList ds p := hA0
  rw [Try.params4] at hA hval
  obtain ⟨v0, vs0, d0, ds0, p0, q0, hargs, rfl, rfl, h0, r0⟩ := trodAll_cons hA
  obtain ⟨v1, vs1, d1, ds1, p1, q1, rfl, rfl, rfl, h1, r1⟩ := trodAll_cons r0
  obtain ⟨v2, vs2, d2, ds2, p2, q2, rfl, rfl, rfl, h2, r2⟩ := trodAll_cons r1
  obtain ⟨rfl, rfl, rfl⟩ := trodAll_nil r2
  obtain rfl : args = #[v0, v1, v2] := by cases args; simp_all
  obtain ⟨rfl, rfl⟩ := trodVars_none hV
  obtain ⟨a0, len0, cap0, rfl⟩ := okWide_slice Try.underlying23 (hval 0 23 v0 rfl rfl)
  have k0 := h0
  have lt0 : ∀ x ∈ p0, x.block < W.heap.size := by obtain ⟨m, hm⟩ := k0; exact DataW.trod_lt m _ _ _ hm
  obtain ⟨l0, w0⟩ : ∃ l, IsStrs W a0 len0 l := by
    obtain ⟨fuel, hf⟩ := h0
    rcases open_strings Try.underlying23 Try.underlying9 (by kernel_rfl) hf with ⟨hcs, _⟩ | ⟨x, l, c, zs, hcs, _, hl, hm, hz, _, hcell, hwz⟩
    · simp [Value.cells] at hcs
      obtain ⟨rfl, rfl, rfl⟩ := hcs
      exact ⟨_, strs_nil W⟩
    · simp [Value.cells] at hcs
      obtain ⟨rfl, rfl, rfl⟩ := hcs
      exact ⟨_, strs_of W _ _ _ _ hl hm (by simpa using hz) hcell hwz⟩
  obtain ⟨a1, rfl, rfl, rfl, w1⟩ := open_int Try.underlying3 (hval 1 3 v1 rfl rfl) h1
  obtain ⟨a2, rfl, rfl, rfl, w2⟩ := open_string Try.underlying9 (hval 2 9 v2 rfl rfl) h2
  clear hA0 hval0
  refine (walk a0 len0 cap0 l0 a1 a2 W w0 w1 w2).mono fun e W' ⟨he, bel⟩ => ?_
  subst he
  exact ⟨_, rfl, _, _, _, [], _, [], hW', trodAll_mk1 (shut_bool Try.underlying4 _), (trodAll_cons_mk (Below.trod laidOut (by kernel_rfl) (of_decide_eq_true (by kernel_rfl)) k0 bel lt0) (trodAll_cons_mk (shut_int Try.underlying3 w1) (trodAll_cons_mk (shut_string Try.underlying9 w2) trodAll_mk0))), rfl, bel.frame _, fun h => by cases h⟩

theorem over : Rows.fnShowSummarisesColumnRow.holds Try.pinned (OpenSpec.ofChange Rows.fnShowSummarisesColumnSpec) :=
  OpenClaim.holds_of_wide 4 Try.f4 rfl rfl rfl rfl rfl rfl rfl ⟨rfl, rfl, rfl, rfl, rfl⟩ rfl rfl rfl rfl rfl (by kernel_rfl) Try.func4 (by kernel_rfl)
    (of_decide_eq_true (by kernel_rfl)) (by unfold Func.isWrapper; first | (rw [if_pos (by decide +kernel)]; kernel_rfl) | (rw [if_neg (by decide +kernel)]; exact ⟨rfl, rfl⟩))
    (fun os started H enc _ => lifted os started H enc)

/-- THE STATEMENT -/
theorem proved : Rows.FnShowSummarisesColumnSaid := over
#print axioms proved
end Go.Proofs.Qxb6604777a.fnShowSummarisesColumn
