/- The walk of FnScanHeaderRoundTrip. -/
import Derived.Test.Qxb6604269aScan
namespace Go.Proofs.Qxb6604269a
open Go.RowKit

theorem zzScan_any (g N c p : Nat) (ds : List Int) (w : World) (h : Line w g N p ds) :
    Calls Try.prog 10 #[.slice (some ⟨g, 0, none⟩) N c, .int .i64 (p : Int)] w fun e w' => e = .returned (.tuple #[.int .i64 (dv 0 ds), .int .i64 ((p : Int) + 1 + (ds.length : Int) + 2), .bool true]) ∧ w' = w := by
  go_enter Try.func10, Try.ntmps10
  go_wp2_with (go_at_call 19; refine (scan_any g N c p ds _ h).mono ?_; rintro e w' ⟨rfl, rfl⟩)
  go_ret3
  exact ⟨rfl, rfl⟩

theorem zz12_yes (a a' : Option Addr) (len cap len' cap' : Nat) (t n : Int) (w : World) (h : len + len' ≤ 1048576) :
    Calls Try.prog 12 #[.slice a len cap, .int .u8 t, .int .i64 n, .slice a' len' cap'] w fun e w' => e = .returned (.bool true) ∧ w' = w := by
  have h1 : len ≤ 1048576 := by omega
  have h2 : len' ≤ 1048576 := by omega
  go_enter Try.func12, Try.ntmps12
  go_wp2
  go_ret
  exact ⟨rfl, rfl⟩
theorem zz12_no (a a' : Option Addr) (len cap len' cap' : Nat) (t n : Int) (w : World) (hl : len ≤ maxLen) (hs : len' ≤ maxLen) (h : ¬ len + len' ≤ 1048576) :
    Calls Try.prog 12 #[.slice a len cap, .int .u8 t, .int .i64 n, .slice a' len' cap'] w fun e w' => e = .returned (.bool false) ∧ w' = w := by
  unfold maxLen at hl hs
  by_cases h1 : len ≤ 1048576
  · by_cases h2 : len' ≤ 1048576
    · go_enter Try.func12, Try.ntmps12
      go_wp2
      go_ret
      exact ⟨rfl, rfl⟩
    · go_enter Try.func12, Try.ntmps12
      go_wp2
      go_ret
      exact ⟨rfl, rfl⟩
  · go_enter Try.func12, Try.ntmps12
    go_wp2
    go_ret
    exact ⟨rfl, rfl⟩

/-- A slice of bytes that came in. -/
def InRow (w : World) (a : Option Addr) (len cap : Nat) (zs : List Int) : Prop :=
  (a = none ∧ len = 0 ∧ cap = 0 ∧ zs = []) ∨ ∃ x, a = some x ∧ len ≤ cap ∧ cap ≤ maxLen ∧ zs.length = cap ∧ (∀ i, i < zs.length → w.cell? (x.add i) = some (.int .u8 (zs.getD i 0))) ∧ ∀ n ∈ zs, (Lit.int .u8 n).wf = true

theorem InRow.below {w w' : World} {a : Option Addr} {len cap : Nat} {zs : List Int} (h : InRow w a len cap zs) (hb : Below w.heap.size w w') : InRow w' a len cap zs := by
  rcases h with h | ⟨x, h1, h2, h3, h4, h5, h6⟩
  · exact .inl h
  · refine .inr ⟨x, h1, h2, h3, h4, fun i hi => ?_, h6⟩
    rw [hb.cell (World.block_lt_of_cell? w _ (h5 i hi))]
    exact h5 i hi

theorem bv_one (l : List Int) : ∀ u ∈ bv l, u.oneCell' = true := by
  intro u hu
  simp only [bv, List.mem_map] at hu
  obtain ⟨x, _, rfl⟩ := hu
  rfl

theorem src_of_clone {w' : World} {G len : Nat} {ao : Option Addr} {zs : List Int}
    (h : (ao = none ∧ len = 0) ∨ (ao = some ⟨G, 0, none⟩ ∧ w'.ownsRow G 5 1 (.slice (some ⟨G, 0, none⟩) len len) len (bv (zs.take len)))) : Src w' ao len (bv (zs.take len)) := by
  rcases h with ⟨rfl, rfl⟩ | ⟨rfl, ho⟩
  · exact ⟨fun _ => rfl, by simp [bv], bv_one _, fun ad h => by cases h⟩
  · refine ⟨(fun h => by cases h), by simpa using ho.1, bv_one _, ?_⟩
    rintro ad ⟨rfl⟩ j u hu
    have hj : j < len := by have := (List.getElem?_eq_some_iff.1 hu).1; rw [ho.1] at this; omega
    rw [Go.WideShapes.add_plain, Nat.zero_add, ho.cellAt j (by omega)]; exact hu

theorem src_of_text {w : World} {g L : Nat} {ds : List Int} (hl : ds.length = L) (h : ∀ j, j < L → w.cell? ⟨g, j, none⟩ = some (.int .u8 (ds.getD j 0))) : Src w (some ⟨g, 0, none⟩) L (bv ds) := by
  refine ⟨(fun h => by cases h), by simpa [bv] using hl, bv_one _, ?_⟩
  rintro ad ⟨rfl⟩ j u hu
  have hj : j < ds.length := by have := (List.getElem?_eq_some_iff.1 hu).1; simpa [bv] using this
  rw [Go.WideShapes.add_plain, Nat.zero_add, h j (by omega)]
  simp [bv, hj] at hu
  simp [hj, hu]

/-- What lies in the buffer is a header's line at p. -/
theorem line_of {w : World} {B g p L t : Nat} {X0 X3 : List Value} {ds : List Int} {ty : Value} {N : Nat} (h0 : X0.length = p) (hL : ds.length = L) (h1 : 1 ≤ L) (h9 : L ≤ 9) (hd : Digits ds) (h3 : X3.length = t) (hN : N = p + 1 + L + 2 + t) (hs : N ≤ 4194304)
    (ho : w.ownsRow B 5 1 (.slice (some ⟨g, 0, none⟩) N N) N (X0 ++ [ty] ++ bv ds ++ [.int .u8 13, .int .u8 10] ++ X3)) : Line w g N p ds := by
  have hb : (bv ds).length = L := by simpa [bv] using hL
  have hc : ∀ j, j < N → w.cell? ⟨g, j, none⟩ = (X0 ++ [ty] ++ bv ds ++ [.int .u8 13, .int .u8 10] ++ X3)[j]? := fun j hj => ho.cellAt j (by omega)
  refine ⟨hs, by omega, by omega, hd, by omega, fun j hj => ?_, ?_, ?_⟩
  · rw [hc _ (by omega), List.getElem?_append_left (by simp [hb]; omega), List.getElem?_append_left (by simp [hb]; omega), List.getElem?_append_right (by simp; omega)]
    rw [show p + 1 + j - (X0 ++ [ty]).length = j from by simp; omega]
    simp [bv, hj]
  · rw [hc _ (by omega), List.getElem?_append_left (by simp [hb]; omega), List.getElem?_append_right (by simp [hb]; omega)]
    rw [show p + 1 + ds.length - (X0 ++ [ty] ++ bv ds).length = 0 from by simp [hb]; omega]
    rfl
  · rw [hc _ (by omega), List.getElem?_append_left (by simp [hb]; omega), List.getElem?_append_right (by simp [hb]; omega)]
    rw [show p + 1 + ds.length + 1 - (X0 ++ [ty] ++ bv ds).length = 1 from by simp [hb]; omega]
    rfl

theorem cell_two_at (w : World) (u v : Value) (e : TypeId) : ∀ j x, ([u, v] : List Value)[j]? = some x → (w.alloc (.cells #[u, v] e)).cell? ((⟨w.heap.size, 0, none⟩ : Addr).add j) = some x := by
  intro j x hj
  match j, hj with
  | 0, hj => simp at hj; subst hj; simp [Addr.add]
  | 1, hj => simp at hj; subst hj; simp [Addr.add]

set_option maxHeartbeats 2000000 in
theorem round_tail (a0 a3 : Option Addr) (len0 cap0 len3 cap3 : Nat) (z0 z3 : List Int) (t n : Int) (w : World) (hl0 : len0 ≤ 524288) (hl3 : len3 ≤ 524288) (hn0 : 0 ≤ n) (hn9 : n ≤ 999999999)
    (h0 : InRow w a0 len0 cap0 z0) (h3 : InRow w a3 len3 cap3 z3) :
    Calls Try.prog 4 #[.slice a0 len0 cap0, .int .u8 t, .int .i64 n, .slice a3 len3 cap3] w fun e w' => e = .returned (.bool true) ∧ Below w.heap.size w w' := by
  obtain ⟨i0, hi, hz0, hz1, hz2⟩ := info_parts Try.info5
  have H0 := hideIt h0
  have H3 := hideIt h3
  clear h0 h3
  go_enter Try.func4, Try.ntmps4
  go_wp2_with fail
  refine (zz12_yes _ _ _ _ _ _ _ _ _ (by omega)).mono ?_
  rintro e w' ⟨rfl, rfl⟩
  go_wp2_with fail
  refine (clone_row _ _ _ z0 _ (by omega) H0.out).mono ?_
  rintro e w1 ⟨ao0, rfl, hb1, hcl0⟩
  have S0 := hideIt (src_of_clone hcl0)
  have HB1 := hideIt hb1
  clear hcl0 hb1
  go_wp2_with fail
  refine (clone_row _ _ _ z3 _ (by omega) (H3.out.below HB1.out)).mono ?_
  rintro e w2 ⟨ao3, rfl, hb2, hcl3⟩
  have S3 := hideIt (src_of_clone hcl3)
  have S0' := hideIt (S0.out.below hb2)
  have HB2 : Hid (Below w'.heap.size w' w2) := HB1.out.trans (hb2.mono HB1.out.size)
  clear hcl3 hb2 S0
  go_wp2_with fail
  refine (text_any _ _ hn0 hn9).mono ?_
  rintro e w3 ⟨g, L, c, ds, rfl, hdl, hL1, hL9, hdd, hdv, hcell, hb3⟩
  have ST := hideIt (src_of_text hdl hcell)
  have S0'' := hideIt (S0'.out.below hb3)
  have S3'' := hideIt (S3.out.below hb3)
  have HB3 : Hid (Below w'.heap.size w' w3) := HB2.out.trans (hb3.mono HB2.out.size)
  have HDV := hideIt hdv
  have HDL := hideIt hdl
  have HDD := hideIt hdd
  clear hcell hb3 hdv hdl hdd S0' S3 H0 H3 HB1 HB2
  go_wp2_with (at_make; refine wpList_make_own _ rfl (.const (.int .i64 0)) (.tmp 47) 22 rfl w3.heap.size 5 i0 (.int .u8 0) 1 Try.underlying22 hi hz0 hz1 .i64 .i64 _ (len0 + 1 + L + 2 + len3) rfl rfl (by omega) (by rw [hz2]; omega) (by unfold maxLen; omega) (Nat.le_refl _) ?_)
  intro w4 hown4 hg4
  have HB4 : Hid (Below w3.heap.size w3 w4) := (Below.refl _ _).grown hg4 (Nat.le_refl _) (fun k hk => by cases hk)
  have HO4 := hideIt hown4
  clear hg4 hown4
  go_wp2_with (at_builtin; refine wpList_append_fits_any _ rfl (.tmp 49) (.tmp 50) 22 rfl w3.heap.size 5 i0 1 Try.underlying22 hi hz1 w3.heap.size 0 (len0 + 1 + L + 2 + len3) [] rfl HO4.out ao0 len0 len0 (bv (z0.take len0)) rfl (by have := S0''.out.2.1; omega) (fun h => ⟨S0''.out.1 h, S0''.out.1 h⟩) (S0''.out.below HB4.out).2.2.2 (bv_one _) (by omega) ?_)
  intro w5 ho5 hg5
  have HB5 : Hid (Below w3.heap.size w3 w5) := HB4.out.grown hg5 HB4.out.size (fun k hk => by cases hk; exact Nat.le_refl _)
  have HO5 := hideIt ho5
  clear ho5 hg5
  go_wp2_with (at_builtin; refine wpList_append_fits_any _ rfl (.tmp 52) (.tmp 54) 22 rfl w3.heap.size 5 i0 1 Try.underlying22 hi hz1 w3.heap.size len0 (len0 + 1 + L + 2 + len3) (bv (z0.take len0)) rfl (HO5.out.alloc _) (some ⟨w5.heap.size, 0, none⟩) 1 1 [.int .u8 t] rfl rfl (fun h => by cases h) (fun ad h => by cases h; exact cell_one_new _ _ _) (by intro u hu; simp at hu; subst hu; rfl) (by omega) ?_)
  intro w6 ho6 hg6
  have HB6 : Hid (Below w3.heap.size w3 w6) := (HB5.out.alloc HB5.out.size _).grown hg6 (by have := HB5.out.size; simp; omega) (fun k hk => by cases hk; exact Nat.le_refl _)
  have HO6 : Hid (w6.ownsRow w3.heap.size 5 1 (.slice (some ⟨w3.heap.size, 0, none⟩) (len0 + 1) (len0 + 1 + L + 2 + len3)) (len0 + 1) (bv (z0.take len0) ++ [.int .u8 t])) := hideIt (by simpa using ho6)
  clear ho6 hg6
  go_wp2_with (at_builtin; refine wpList_append_fits_any _ rfl (.tmp 56) (.tmp 57) 22 rfl w3.heap.size 5 i0 1 Try.underlying22 hi hz1 w3.heap.size (len0 + 1) (len0 + 1 + L + 2 + len3) ((bv (z0.take len0)) ++ [.int .u8 t]) rfl HO6.out (some ⟨g, 0, none⟩) L c (bv ds) rfl (by have := ST.out.2.1; omega) (fun h => by cases h) (ST.out.below HB6.out).2.2.2 (bv_one _) (by omega) ?_)
  intro w7 ho7 hg7
  have HB7 : Hid (Below w3.heap.size w3 w7) := HB6.out.grown hg7 HB6.out.size (fun k hk => by cases hk; exact Nat.le_refl _)
  have HO7 : Hid (w7.ownsRow w3.heap.size 5 1 (.slice (some ⟨w3.heap.size, 0, none⟩) (len0 + 1 + L) (len0 + 1 + L + 2 + len3)) (len0 + 1 + L) (bv (z0.take len0) ++ [.int .u8 t] ++ bv ds)) := hideIt (by simpa using ho7)
  clear ho7 hg7
  go_wp2_with (at_builtin; refine wpList_append_fits_any _ rfl (.tmp 59) (.tmp 60) 22 rfl w3.heap.size 5 i0 1 Try.underlying22 hi hz1 w3.heap.size (len0 + 1 + L) (len0 + 1 + L + 2 + len3) ((bv (z0.take len0)) ++ [.int .u8 t] ++ bv ds) rfl (HO7.out.alloc _) (some ⟨w7.heap.size, 0, none⟩) 2 2 [.int .u8 13, .int .u8 10] rfl rfl (fun h => by cases h) (fun ad h => by cases h; exact cell_two_at _ _ _ _) (by intro u hu; simp at hu; rcases hu with rfl | rfl <;> rfl) (by omega) ?_)
  intro w8 ho8 hg8
  have HB8 : Hid (Below w3.heap.size w3 w8) := (HB7.out.alloc HB7.out.size _).grown hg8 (by have := HB7.out.size; simp; omega) (fun k hk => by cases hk; exact Nat.le_refl _)
  have HO8 : Hid (w8.ownsRow w3.heap.size 5 1 (.slice (some ⟨w3.heap.size, 0, none⟩) (len0 + 1 + L + 2) (len0 + 1 + L + 2 + len3)) (len0 + 1 + L + 2) (bv (z0.take len0) ++ [.int .u8 t] ++ bv ds ++ [.int .u8 13, .int .u8 10])) := hideIt (by simpa using ho8)
  clear ho8 hg8
  go_wp2_with (at_builtin; refine wpList_append_fits_any _ rfl (.tmp 62) (.tmp 63) 22 rfl w3.heap.size 5 i0 1 Try.underlying22 hi hz1 w3.heap.size (len0 + 1 + L + 2) (len0 + 1 + L + 2 + len3) ((bv (z0.take len0)) ++ [.int .u8 t] ++ bv ds ++ [.int .u8 13, .int .u8 10]) rfl HO8.out ao3 len3 len3 (bv (z3.take len3)) rfl (by have := S3''.out.2.1; omega) (fun h => ⟨S3''.out.1 h, S3''.out.1 h⟩) (S3''.out.below HB8.out).2.2.2 (bv_one _) (by omega) ?_)
  intro w9 ho9 hg9
  have HB9 : Hid (Below w3.heap.size w3 w9) := HB8.out.grown hg9 HB8.out.size (fun k hk => by cases hk; exact Nat.le_refl _)
  have HO9 : Hid (w9.ownsRow w3.heap.size 5 1 (.slice (some ⟨w3.heap.size, 0, none⟩) (len0 + 1 + L + 2 + len3) (len0 + 1 + L + 2 + len3)) (len0 + 1 + L + 2 + len3) (bv (z0.take len0) ++ [.int .u8 t] ++ bv ds ++ [.int .u8 13, .int .u8 10] ++ bv (z3.take len3))) := hideIt (by simpa using ho9)
  clear ho9 hg9
  have HLn : Hid (Line w9 w3.heap.size (len0 + 1 + L + 2 + len3) len0 ds) := line_of S0''.out.2.1 HDL.out hL1 hL9 HDD.out S3''.out.2.1 rfl (by omega) HO9.out
  go_wp2_with fail
  refine (zzScan_any _ _ _ len0 ds _ HLn.out).mono ?_
  rintro e w10 ⟨rfl, rfl⟩
  rw [HDV.out, HDL.out]
  go_wp2
  go_ret
  exact ⟨rfl, HB3.out.trans (HB9.out.mono HB3.out.size)⟩
end Go.Proofs.Qxb6604269a
