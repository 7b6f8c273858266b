/- The walk of FnShowSummarisesColumn. -/
import Derived.Test.Qxb6604777aClone
namespace Go.Proofs.Qxb6604777a
open Go.RowKit

set_option maxHeartbeats 8000000 in
set_option maxRecDepth 100000 in
theorem column_main (b off n cap cn : Nat) (l : List ByteArray) (v : ByteArray) (w : World) (hl : l.length = n) (hn : n ≤ 65536) (hv : v.size ≤ 1048576) (hcn : cn < n) (hc : Col w b off l) (hs : ∀ s ∈ l, s.size ≤ maxLen) :
    Calls Try.prog 4 #[.slice (some ⟨b, off, none⟩) n cap, .int .i64 (cn : Int), .string v] w fun e w' => e = .returned (.bool true) ∧ Below w.heap.size w w' := by
  have hac : AnyCol w (some ⟨b, off, none⟩) l := fun j h => ⟨b, off, rfl, hc j h⟩
  have HAC := hideIt hac
  have HC := hideIt hc
  have HL := hideIt hl
  have HS := hideIt hs
  clear hac hc hl hs
  go_enter Try.func4, Try.ntmps4
  go_wp2_with fail
  refine (zz15_any _ _ _ _ l _ _ (by unfold maxLen; omega) HL.out (by unfold maxLen; omega) HAC.out HS.out).mono ?_
  rintro e w' ⟨⟨rb, rfl⟩, rfl⟩
  cases rb
  · go_wp2
    go_ret
    exact ⟨rfl, Below.refl _ _⟩
  go_wp2_with fail
  refine (stringsBytes_any _ _ _ l _ HL.out (by unfold maxLen; omega) HAC.out HS.out).mono ?_
  rintro e w0 ⟨t, rfl, t0, t1, rfl⟩
  by_cases ht : t + (v.size : Int) ≤ 1048576
  · go_wp2_with fail
    refine (emptyAfter_any _ _ _ _ cn l _ HL.out (by omega) hcn HC.out).mono ?_
    rintro e w1 ⟨rfl, rfl⟩
    have hcl : cn < l.length := by have := HL.out; omega
    have hsum0 : Sum l (cnt l : Int) (eqn (ref l) l : Int) (ref l) := ⟨rfl, rfl, fun _ => same_refl _⟩
    have hcb := cnt_le l
    have heb := eqn_le (ref l) l
    have hlw := HL.out
    have hcb2 : cnt l ≤ n := by omega
    have heb2 : eqn (ref l) l ≤ n := by omega
    cases hem : none' (l.drop (cn + 1))
    · clear hlw
      go_wp2
      go_ret
      exact ⟨rfl, Below.refl _ _⟩
    · have HN := hideIt (show_set l cn v _ _ _ hcl hem hsum0)
      have hco := HC.out cn hcl
      obtain ⟨old, hold⟩ : ∃ old, old = l[cn] := ⟨_, rfl⟩
      rw [← hold] at HN hco
      clear hold hem hsum0 hlw hcb heb
      go_wp2_with fail
      refine (summary_any _ _ _ _ l _ HL.out (by omega) HC.out).mono ?_
      rintro e w2 ⟨rfl, rfl⟩
      obtain ⟨p, hp⟩ : ∃ p : Int, p = (cnt l : Int) := ⟨_, rfl⟩
      obtain ⟨q, hq⟩ : ∃ q : Int, q = (eqn (ref l) l : Int) := ⟨_, rfl⟩
      obtain ⟨r, hr⟩ : ∃ r, r = ref l := ⟨_, rfl⟩
      rw [← hp, ← hq] at HN
      rw [← hp, ← hq, ← hr]
      rw [← hr] at HN
      have p0 : 0 ≤ p := by omega
      have p1 : p ≤ 2000000 := by omega
      have q0 : 0 ≤ q := by omega
      have q1 : q ≤ 2000000 := by omega
      clear hp hq hr hcb2 heb2
      go_wp2_with fail
      refine (zzShow_any p q r old v _ p0 p1 q0 q1).mono ?_
      rintro e w3 ⟨rfl, hb3⟩
      have HB3 := hideIt hb3
      have HC3 : Hid (Col w3 b off l) := fun j hj => (hb3.cell (World.block_lt_of_cell? w2 _ (HC.out j hj))).trans (HC.out j hj)
      clear hb3
      obtain ⟨L, hL⟩ : ∃ L, L = l.set cn v := ⟨_, rfl⟩
      have HLL : Hid (L.length = n) := by refine hideIt ?_; rw [hL]; simpa using HL.out
      have HLE := hideIt hL
      rw [← hL] at HN
      have hn1 := HN.out.p
      have hn2 := HN.out.e
      rw [hn1, hn2]
      rw [hn1, hn2] at HN
      obtain ⟨R, hR⟩ : ∃ R, R = showR p r old v := ⟨_, rfl⟩
      rw [← hR]
      rw [← hR] at HN
      have hagr := sum_ag L
      clear hL hn1 hn2 hR
      go_wp2_with fail
      refine (clone_some _ _ _ _ l _ (by omega) HL.out HC3.out).mono ?_
      rintro e w4 ⟨rfl, hown4, hb4⟩
      have HB4 : Hid (Below w2.heap.size w2 w4) := HB3.out.trans (hb4.mono HB3.out.size)
      have hfr := hown4.frozenAt cn
      have hco4 : w4.cell? ⟨w3.heap.size, cn, none⟩ = some (.string l[cn]) := by have := col_of_owns hown4 HL.out cn hcl; rw [Nat.zero_add] at this; exact this
      have hst := (hown4.stored cn (.string v)).1
      rw [sv_set, ← HLE.out] at hst
      have HST := hideIt hst
      have hsz : w2.heap.size ≤ w3.heap.size := HB3.out.size
      clear hown4 hb4 hst
      go_wp2_with fail
      refine (summary_any _ _ _ _ L _ HLL.out (by omega) (col_of_owns HST.out HLL.out)).mono ?_
      rintro e w5 ⟨rfl, hw5⟩
      subst hw5
      by_cases h0 : 0 < cnt L
      · have hrr : (R.toList == (ref L).toList) = true := HN.out.r h0
        go_wp2_with fail
        refine (allAgree_any _ _ _ _ L _ HLL.out (by omega) (col_of_owns HST.out HLL.out)).mono ?_
        rintro en w5 ⟨rfl, hw5⟩
        subst hw5
        go_wp2
        go_ret
        exact ⟨rfl, HB4.out.setCell hsz _⟩
      · have hd0 : decide ((0 : Int) < (cnt L : Int)) = false := decide_eq_false (by omega)
        go_wp2_with fail
        refine (allAgree_any _ _ _ _ L _ HLL.out (by omega) (col_of_owns HST.out HLL.out)).mono ?_
        rintro en w5 ⟨rfl, hw5⟩
        subst hw5
        go_wp2
        go_ret
        exact ⟨rfl, HB4.out.setCell hsz _⟩
  · go_wp2
    go_ret
    exact ⟨rfl, Below.refl _ _⟩
end Go.Proofs.Qxb6604777a
