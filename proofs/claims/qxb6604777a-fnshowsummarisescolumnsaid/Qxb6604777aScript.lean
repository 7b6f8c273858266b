/- The walk of FnShowScriptKeepsSummary. -/
import Derived.Test.Qxb6604777aShow2
import Derived.Test.Qxb6604777aSizes
import Derived.Deep.RegionHeld3
namespace Go.Proofs.Qxb6604777a
open Go.RowKit

theorem Try.info9 : (Try.prog.info? 9).map (fun i => (i.zero, i.size, i.bytes)) = some (some (.string ⟨#[]⟩), 1, 16) := by kernel_rfl

/-- What is owned stays owned while nothing old turns. -/
theorem owns_below {w w' : World} {B : Nat} {e : TypeId} {v : Value} {n : Nat} {xs : List Value} (h : w.ownsRow B e 1 v n xs) (hb : Below w.heap.size w w') : w'.ownsRow B e 1 v n xs := by
  have hg : w.grownBy w' none := ⟨hb.os, hb.tape, hb.output, hb.size, fun k hk _ => hb.block k hk⟩
  refine h.kept hg ?_
  rcases h.2 with ⟨rfl, _⟩ | ⟨g, cap, cur, rfl, _⟩
  · exact .inl rfl
  · exact .inr (by simp [Value.ownBlock])

/-- The column's strings as cells. -/
def sv (l : List ByteArray) : List Value := l.map Value.string
theorem sv_set (l : List ByteArray) (c : Nat) (v : ByteArray) : (sv l).set c (.string v) = sv (l.set c v) := by simp [sv, List.map_set]
theorem col_of_owns {w : World} {B G n : Nat} {l : List ByteArray} (h : w.ownsRow B 9 1 (.slice (some ⟨G, 0, none⟩) n n) n (sv l)) (hl : l.length = n) : Col w G 0 l := by
  intro j hj
  rw [Nat.zero_add, h.cellAt j (by omega)]
  simp [sv, hj]

/-- The ints zs lie behind the address. -/
def AnyInts (w : World) (ao : Option Addr) (n : Nat) (f : Nat → Int) : Prop := ∀ j, j < n → ∃ b off, ao = some ⟨b, off, none⟩ ∧ b < w.heap.size ∧ w.cell? ⟨b, off + j, none⟩ = some (.int .i64 (f j))

theorem set_split (l : List ByteArray) (c : Nat) (v : ByteArray) (h : c < l.length) : l.set c v = l.take c ++ v :: l.drop (c + 1) := List.set_eq_take_append_cons_drop.trans (if_pos h)
theorem get_split (l : List ByteArray) (c : Nat) (h : c < l.length) : l = l.take c ++ l[c] :: l.drop (c + 1) := by
  rw [List.getElem_cons_drop, List.take_append_drop]

theorem show_set (l : List ByteArray) (c : Nat) (v : ByteArray) (p e : Int) (r : ByteArray) (h : c < l.length) (hZ : none' (l.drop (c + 1)) = true) (hs : Sum l p e r) :
    Sum (l.set c v) (showP p l[c] v) (showE p e r l[c] v) (showR p r l[c] v) := by
  rw [set_split l c v h]
  exact show_law _ _ _ _ _ _ _ hZ (by rw [← get_split l c h]; exact hs)

theorem sum_zero (n : Nat) : Sum (List.replicate n ByteArray.empty) 0 0 ByteArray.empty := by
  have h : cnt (List.replicate n ByteArray.empty) = 0 := by
    induction n with
    | zero => rfl
    | succ n ih => simp [List.replicate_succ, cnt, ne_empty, ih]
  exact ⟨by rw [h]; rfl, by rw [eqn_zero _ h]; rfl, fun h' => by omega⟩
theorem sum_bd {l : List ByteArray} {p e : Int} {r : ByteArray} (h : Sum l p e r) : 0 ≤ p ∧ p ≤ l.length ∧ 0 ≤ e ∧ e ≤ l.length := by
  have h1 := cnt_le l; have h2 := eqn_le (ref l) l; have h3 := h.p; have h4 := h.e
  omega
theorem sum_ag (l : List ByteArray) : ((cnt l : Int) == (eqn (ref l) l : Int)) = ag l := by
  rw [ag_eqn, Bool.eq_iff_iff]; simp; omega
theorem mk_sv (n : Nat) : (madeCells #[Value.string ⟨#[]⟩] n).toList = sv (List.replicate n ByteArray.empty) := by
  rw [toList_madeCells_one]
  simp [sv]; exact .inr rfl

set_option maxHeartbeats 8000000 in
set_option maxRecDepth 100000 in
theorem script_n (W : Nat) (ap av : Option Addr) (m capm n capn : Nat) (f : Nat → Int) (vs : List ByteArray) (w : World) (hW : W ≤ 4096) (hm : m ≤ 4096) (hn : n ≤ 4096) (hvl : vs.length = n)
    (hp : AnyInts w ap m f) (hv : AnyCol w av vs) (hvs : ∀ s ∈ vs, s.size ≤ maxLen) (hnm : n < m) :
    Calls Try.prog 5 #[.int .i64 (W : Int), .slice ap m capm, .slice av n capn] w fun e w' => e = .returned (.bool true) ∧ Below w.heap.size w w' := by
  obtain ⟨i0, hi, hz0, hz1, hz2⟩ := info_parts Try.info9
  have HP := hideIt hp
  have HV := hideIt hv
  have HVS := hideIt hvs
  have HVL := hideIt hvl
  clear hp hv hvs hvl
  go_enter Try.func5, Try.ntmps5
  go_wp2_with fail
  refine (zz21_any _ _ _ _ _ _ _ vs _ (by unfold maxLen; omega) HVL.out (by unfold maxLen; omega) HV.out HVS.out).mono ?_
  rintro e w' ⟨⟨rb, rfl⟩, rfl⟩
  cases rb
  · go_wp2
    go_ret
    exact ⟨rfl, Below.refl _ _⟩
  go_wp2_with fail
  refine (stringsBytes_any _ _ _ vs _ HVL.out (by unfold maxLen; omega) HV.out HVS.out).mono ?_
  rintro e w0 ⟨t, rfl, t0, t1, rfl⟩
  by_cases ht : 8 * (m : Int) + t ≤ 1048576
  · go_wp2_with (at_make; refine wpList_make_full _ rfl (.tmp 43) (.tmp 43) 23 rfl w0.heap.size 9 i0 (.string ⟨#[]⟩) 1 Try.underlying23 hi hz0 hz1 .i64 .i64 _ _ W rfl rfl (by omega) (by omega) (by rw [hz2]; omega) (by unfold maxLen; omega) (Nat.le_refl _) ?_)
    intro w1 hown1 hg1
    rw [mk_sv] at hown1
    have hb1 : Below w0.heap.size w0 w1 := (Below.refl _ _).grown hg1 (Nat.le_refl _) (fun k hk => by cases hk)
    have HO1 := hideIt hown1
    have HB1 := hideIt hb1
    clear hown1 hb1 hg1
    go_wp2
    go_loopw [8, 9, 10, 12] (fun pv ev rv sv' wr => ∃ (k : Nat) (p e : Int) (r : ByteArray) (l : List ByteArray), k ≤ n ∧ sv' = .int .i64 (k : Int) ∧ pv = .int .i64 p ∧ ev = .int .i64 e ∧ rv = .string r ∧ l.length = W ∧ Sum l p e r ∧
        wr.ownsRow w0.heap.size 9 1 (.slice (some ⟨w0.heap.size, 0, none⟩) W W) W (sv l) ∧ Below w0.heap.size w0 wr) (fun _ _ _ sv' _ => n - (intOf sv').toNat)
    case atStart => exact ⟨0, 0, 0, ByteArray.empty, _, Nat.zero_le _, rfl, rfl, rfl, rfl, by simp, sum_zero W, HO1.out, HB1.out⟩
    case round =>
      obtain ⟨k, p, e, r, l, hk, rfl, rfl, rfl, rfl, hll, hsum, hown, hbel⟩ := hrel
      obtain ⟨p0, p1, e0, e1⟩ := sum_bd hsum
      have HL := hideIt hll
      have HSUM := hideIt hsum
      have HO := hideIt hown
      have HB := hideIt hbel
      rw [hll] at p1 e1
      clear hll hsum hown hbel
      by_cases hlt : k < n
      · obtain ⟨b, off, rfl, hbl, hc⟩ := HP.out k (by omega)
        have hcx : wr.cell? ⟨b, off + k, none⟩ = some (.int .i64 (f k)) := (HB.out.cell (by exact hbl)).trans hc
        clear hc
        obtain ⟨c, hcf⟩ : ∃ c, c = f k := ⟨_, rfl⟩
        rw [← hcf] at hcx
        clear hcf
        by_cases hc0 : 0 ≤ c
        · by_cases hcW : c < W
          · obtain ⟨cn, rfl⟩ := Int.eq_ofNat_of_zero_le hc0
            have hcl : cn < l.length := by have := HL.out; omega
            go_wp2_with fail
            refine (emptyAfter_any _ _ _ _ cn l _ HL.out (by omega) (by omega) (col_of_owns HO.out HL.out)).mono ?_
            rintro en w2 ⟨rfl, rfl⟩
            cases hem : none' (l.drop (cn + 1))
            · go_wp2
              go_roundw
              case rel => exact ⟨k + 1, p, e, r, l, by omega, by go_num, rfl, rfl, rfl, HL.out, HSUM.out, HO.out, HB.out⟩
              case measure => simp [intOf]; omega
            · have hkn : k < vs.length := by have := HVL.out; omega
              obtain ⟨b2, off2, rfl, hcv⟩ := HV.out k hkn
              have hcv2 : w2.cell? ⟨b2, off2 + k, none⟩ = some (.string vs[k]) := (HB.out.cell (by exact World.block_lt_of_cell? w0 _ hcv)).trans hcv
              have hco : w2.cell? ⟨w0.heap.size, cn, none⟩ = some (.string l[cn]) := by have := col_of_owns HO.out HL.out cn hcl; rw [Nat.zero_add] at this; exact this
              have HN := hideIt (show_set l cn vs[k] p e r hcl hem HSUM.out)
              clear hcv hem
              obtain ⟨old, hold⟩ : ∃ old, old = l[cn] := ⟨_, rfl⟩
              obtain ⟨v, hv⟩ : ∃ v, v = vs[k] := ⟨_, rfl⟩
              rw [← hold, ← hv] at HN
              rw [← hold] at hco
              rw [← hv] at hcv2
              clear hold hv
              have HO3 : Hid (∀ w3, Below w2.heap.size w2 w3 → w3.ownsRow w0.heap.size 9 1 (.slice (some ⟨w0.heap.size, 0, none⟩) W W) W (sv l)) := fun w3 h => owns_below HO.out h
              go_wp2
              go_region_held3 (fun w' => w'.cell? ⟨w0.heap.size, cn, none⟩ = some (.string old) ∧ w'.cell? ⟨b2, off2 + k, none⟩ = some (.string v)) (simp [*]) (first | (go_at_call 19; refine (zzShow_any p e r old v _ p0 (by omega) e0 (by omega)).mono ?_; rintro en w3 ⟨rfl, hb3⟩; have s1 : w3.cell? ⟨w0.heap.size, cn, none⟩ = some (.string old) := (hb3.cell (World.block_lt_of_cell? w2 _ hco)).trans hco; have s2 : w3.cell? ⟨b2, off2 + k, none⟩ = some (.string v) := (hb3.cell (World.block_lt_of_cell? w2 _ hcv2)).trans hcv2))
              have hb3' : Below w2.heap.size w2 w3 := (Below.refl w2.heap.size w2).drew.trans hb3
              have HB3 := hideIt hb3'
              have hown3 := HO3.out w3 hb3'
              have hfr := hown3.frozenAt cn
              have hst := (hown3.stored cn (.string v)).1
              rw [sv_set] at hst
              have HST := hideIt hst
              obtain ⟨L, hL⟩ : ∃ L, L = l.set cn v := ⟨_, rfl⟩
              have HLL : Hid (L.length = W) := by refine hideIt ?_; rw [hL]; simpa using HL.out
              rw [← hL] at HST HN
              have hn1 := HN.out.p
              have hn2 := HN.out.e
              rw [hn1, hn2]
              rw [hn1, hn2] at HN
              obtain ⟨R, hR⟩ : ∃ R, R = showR p r old v := ⟨_, rfl⟩
              rw [← hR]
              rw [← hR] at HN
              have hcb := cnt_le L
              have heb := eqn_le (ref L) L
              have hagr := sum_ag L
              have hlw := HLL.out
              have hcb2 : cnt L ≤ W := by omega
              clear hb3 hb3' hown3 hst hL hn1 hn2 hR hcb hlw hco hcv2 HO3
              go_wp2_with fail
              refine (summary_any _ _ _ _ L _ HLL.out (by omega) (col_of_owns HST.out HLL.out)).mono ?_
              rintro en w4 ⟨rfl, rfl⟩
              by_cases h0 : 0 < cnt L
              · have hrr : (R.toList == (ref L).toList) = true := HN.out.r h0
                go_wp2_with fail
                refine (allAgree_any _ _ _ _ L _ HLL.out (by omega) (col_of_owns HST.out HLL.out)).mono ?_
                rintro en w5 ⟨rfl, hw5⟩
                subst hw5
                go_wp2
                go_roundw
                case rel => exact ⟨k + 1, _, _, R, L, by omega, by go_num, rfl, rfl, rfl, HLL.out, HN.out, HST.out, (HB.out.trans (HB3.out.mono HB.out.size)).setCell (Nat.le_refl _) _⟩
                case measure => simp [intOf]; omega
              · have hd0 : decide ((0 : Int) < (cnt L : Int)) = false := decide_eq_false (by omega)
                go_wp2_with fail
                refine (allAgree_any _ _ _ _ L _ HLL.out (by omega) (col_of_owns HST.out HLL.out)).mono ?_
                rintro en w5 ⟨rfl, hw5⟩
                subst hw5
                go_wp2
                go_roundw
                case rel => exact ⟨k + 1, _, _, R, L, by omega, by go_num, rfl, rfl, rfl, HLL.out, HN.out, HST.out, (HB.out.trans (HB3.out.mono HB.out.size)).setCell (Nat.le_refl _) _⟩
                case measure => simp [intOf]; omega
          · go_wp2
            go_roundw
            case rel => exact ⟨k + 1, p, e, r, l, by omega, by go_num, rfl, rfl, rfl, HL.out, HSUM.out, HO.out, HB.out⟩
            case measure => simp [intOf]; omega
        · go_wp2
          go_roundw
          case rel => exact ⟨k + 1, p, e, r, l, by omega, by go_num, rfl, rfl, rfl, HL.out, HSUM.out, HO.out, HB.out⟩
          case measure => simp [intOf]; omega
      · go_wp2
        go_ret
        exact ⟨rfl, HB.out⟩
  · go_wp2
    go_ret
    exact ⟨rfl, Below.refl _ _⟩
end Go.Proofs.Qxb6604777a
