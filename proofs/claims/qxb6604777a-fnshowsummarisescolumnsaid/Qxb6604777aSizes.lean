/- The byte counts by contracts: they return. -/
import Derived.Test.Qxb6604777aCols
namespace Go.Proofs.Qxb6604777a
open Go.RowKit

/-- The strings l lie behind the address (whatever it is where there are none). -/
def AnyCol (w : World) (ao : Option Addr) (l : List ByteArray) : Prop := ∀ j (h : j < l.length), ∃ b off, ao = some ⟨b, off, none⟩ ∧ w.cell? ⟨b, off + j, none⟩ = some (.string l[j])

/-- It returned a bool. -/
def SomeBool (e : Ending) : Prop := ∃ r : Bool, e = .returned (.bool r)

theorem stringsBytes_any (ao : Option Addr) (n cap : Nat) (l : List ByteArray) (w : World) (hl : l.length = n) (hn : n ≤ maxLen) (hc : AnyCol w ao l) (hs : ∀ s ∈ l, s.size ≤ maxLen) :
    Calls Try.prog 16 #[.slice ao n cap] w fun e w' => ∃ t : Int, e = .returned (.int .i64 t) ∧ 0 ≤ t ∧ t ≤ 1048577 ∧ w' = w := by
  have HC := hideIt hc
  have HL := hideIt hl
  have HZ := hideIt hs
  unfold maxLen at hn
  clear hc hl hs
  by_cases hbig : n ≤ 65536
  · go_enter Try.func16, Try.ntmps16
    go_wp2
    go_loop [3, 4] (fun tv iv => ∃ (k : Nat) (t : Int), k ≤ n ∧ iv = .int .i64 (k : Int) ∧ tv = .int .i64 t ∧ 0 ≤ t ∧ t ≤ 1048576) (fun _ iv => n - (intOf iv).toNat)
    case atStart => exact ⟨0, _, Nat.zero_le _, rfl, rfl, by omega, by omega⟩
    case round =>
      obtain ⟨k, t, hk, rfl, rfl, t0, t1⟩ := hrel
      by_cases hlt : k < n
      · have hkl : k < l.length := by have := HL.out; omega
        obtain ⟨b, off, rfl, h1⟩ := HC.out k hkl
        have hsz := HZ.out l[k] (List.getElem_mem hkl)
        unfold maxLen at hsz
        obtain ⟨s, hs⟩ : ∃ s, s = l[k] := ⟨_, rfl⟩
        rw [← hs] at h1 hsz
        clear hs
        by_cases hs1 : s.size ≤ 1048576
        · by_cases hs2 : t + (s.size : Int) ≤ 1048576
          · go_wp2
            go_round
            case rel => exact ⟨k + 1, t + (s.size : Int), by omega, by go_num, rfl, by omega, by omega⟩
            case measure => simp [intOf]; omega
          · go_wp2
            go_ret
            exact ⟨_, rfl, by omega, by omega, rfl⟩
        · go_wp2
          go_ret
          exact ⟨_, rfl, by omega, by omega, rfl⟩
      · go_wp2
        go_ret
        exact ⟨_, rfl, by omega, by omega, rfl⟩
  · go_enter Try.func16, Try.ntmps16
    go_wp2
    go_ret
    exact ⟨_, rfl, by omega, by omega, rfl⟩

set_option maxHeartbeats 1000000 in
theorem zz21_any (x : Int) (ap ao : Option Addr) (m capm n cap : Nat) (l : List ByteArray) (w : World) (hm : m ≤ maxLen) (hl : l.length = n) (hn : n ≤ maxLen) (hc : AnyCol w ao l) (hs : ∀ s ∈ l, s.size ≤ maxLen) :
    Calls Try.prog 21 #[.int .i64 x, .slice ap m capm, .slice ao n cap] w fun e w' => SomeBool e ∧ w' = w := by
  have HC := hideIt hc
  have HL := hideIt hl
  have HZ := hideIt hs
  unfold maxLen at hn hm
  clear hc hl hs
  by_cases hbm : m ≤ 1048576
  · by_cases hbn : n ≤ 1048576
    · by_cases hsum : (m : Int) + (n : Int) ≤ 1048576
      · go_enter Try.func21, Try.ntmps21
        go_wp2
        go_loop [7, 8] (fun tv iv => ∃ (k : Nat) (t : Int), k ≤ n ∧ iv = .int .i64 (k : Int) ∧ tv = .int .i64 t ∧ 0 ≤ t ∧ t ≤ 1048576) (fun _ iv => n - (intOf iv).toNat)
        case atStart => exact ⟨0, _, Nat.zero_le _, rfl, rfl, by omega, by omega⟩
        case round =>
          obtain ⟨k, t, hk, rfl, rfl, t0, t1⟩ := hrel
          by_cases hlt : k < n
          · have hkl : k < l.length := by have := HL.out; omega
            obtain ⟨b, off, rfl, h1⟩ := HC.out k hkl
            have hsz := HZ.out l[k] (List.getElem_mem hkl)
            unfold maxLen at hsz
            obtain ⟨s, hs⟩ : ∃ s, s = l[k] := ⟨_, rfl⟩
            rw [← hs] at h1 hsz
            clear hs
            by_cases hs1 : s.size ≤ 1048576
            · by_cases hs2 : t + (s.size : Int) ≤ 1048576
              · go_wp2
                go_round
                case rel => exact ⟨k + 1, t + (s.size : Int), by omega, by go_num, rfl, by omega, by omega⟩
                case measure => simp [intOf]; omega
              · go_wp2
                go_ret
                exact ⟨⟨_, rfl⟩, rfl⟩
            · go_wp2
              go_ret
              exact ⟨⟨_, rfl⟩, rfl⟩
          · go_wp2
            go_ret
            exact ⟨⟨_, rfl⟩, rfl⟩
      · go_enter Try.func21, Try.ntmps21
        go_wp2
        go_ret
        exact ⟨⟨_, rfl⟩, rfl⟩
    · go_enter Try.func21, Try.ntmps21
      go_wp2
      go_ret
      exact ⟨⟨_, rfl⟩, rfl⟩
  · go_enter Try.func21, Try.ntmps21
    go_wp2
    go_ret
    exact ⟨⟨_, rfl⟩, rfl⟩

set_option maxHeartbeats 1000000 in
theorem zz15_any (x : Int) (ao : Option Addr) (n cap : Nat) (l : List ByteArray) (v : ByteArray) (w : World) (hv : v.size ≤ maxLen) (hl : l.length = n) (hn : n ≤ maxLen) (hc : AnyCol w ao l) (hs : ∀ s ∈ l, s.size ≤ maxLen) :
    Calls Try.prog 15 #[.slice ao n cap, .int .i64 x, .string v] w fun e w' => SomeBool e ∧ w' = w := by
  have HC := hideIt hc
  have HL := hideIt hl
  have HZ := hideIt hs
  unfold maxLen at hn hv
  clear hc hl hs
  by_cases hbn : n ≤ 1048576
  · go_enter Try.func15, Try.ntmps15
    go_wp2
    go_loop [7, 8] (fun tv iv => ∃ (k : Nat) (t : Int), k ≤ n ∧ iv = .int .i64 (k : Int) ∧ tv = .int .i64 t ∧ 0 ≤ t ∧ t ≤ 1048576) (fun _ iv => n - (intOf iv).toNat)
    case atStart => exact ⟨0, _, Nat.zero_le _, rfl, rfl, by omega, by omega⟩
    case round =>
      obtain ⟨k, t, hk, rfl, rfl, t0, t1⟩ := hrel
      by_cases hlt : k < n
      · have hkl : k < l.length := by have := HL.out; omega
        obtain ⟨b, off, rfl, h1⟩ := HC.out k hkl
        have hsz := HZ.out l[k] (List.getElem_mem hkl)
        unfold maxLen at hsz
        obtain ⟨s, hs⟩ : ∃ s, s = l[k] := ⟨_, rfl⟩
        rw [← hs] at h1 hsz
        clear hs
        by_cases hs1 : s.size ≤ 1048576
        · by_cases hs2 : t + (s.size : Int) ≤ 1048576
          · go_wp2
            go_round
            case rel => exact ⟨k + 1, t + (s.size : Int), by omega, by go_num, rfl, by omega, by omega⟩
            case measure => simp [intOf]; omega
          · go_wp2
            go_ret
            exact ⟨⟨_, rfl⟩, rfl⟩
        · go_wp2
          go_ret
          exact ⟨⟨_, rfl⟩, rfl⟩
      · by_cases hs1 : v.size ≤ 1048576
        · by_cases hs2 : t + (v.size : Int) ≤ 1048576
          · go_wp2
            go_ret
            exact ⟨⟨_, rfl⟩, rfl⟩
          · go_wp2
            go_ret
            exact ⟨⟨_, rfl⟩, rfl⟩
        · go_wp2
          go_ret
          exact ⟨⟨_, rfl⟩, rfl⟩
  · go_enter Try.func15, Try.ntmps15
    go_wp2
    go_ret
    exact ⟨⟨_, rfl⟩, rfl⟩
end Go.Proofs.Qxb6604777a
