/- Columns of strings: plain mathematics. -/
namespace Go.Proofs.Qxb6604777a

/-- The entry holds a value. -/
def ne (s : ByteArray) : Bool := !s.toList.isEmpty
def same (a b : ByteArray) : Bool := a.toList == b.toList
theorem same_refl (a : ByteArray) : same a a = true := by simp [same]
theorem same_comm (a b : ByteArray) : same a b = same b a := by
  simp only [same]; rw [Bool.eq_iff_iff]; simp only [beq_iff_eq]; exact ⟨Eq.symm, Eq.symm⟩
theorem same_trans {a b c : ByteArray} (h : same a b = true) (h' : same b c = true) : same a c = true := by
  simp only [same, beq_iff_eq] at *; exact h.trans h'
theorem same_ne {a b : ByteArray} (h : same a b = true) : ne a = ne b := by
  simp only [same, beq_iff_eq] at h; simp only [ne, h]
theorem same_congr {a b : ByteArray} (h : same a b = true) (c : ByteArray) : same c a = same c b := by
  simp only [same, beq_iff_eq] at *; rw [h]

/-- How many entries hold a value. -/
def cnt : List ByteArray → Nat
  | [] => 0
  | x :: l => (if ne x then 1 else 0) + cnt l
/-- The first value held. -/
def ref : List ByteArray → ByteArray
  | [] => ByteArray.empty
  | x :: l => if ne x then x else ref l
/-- How many entries hold the value r. -/
def eqn (r : ByteArray) : List ByteArray → Nat
  | [] => 0
  | x :: l => (if ne x && same x r then 1 else 0) + eqn r l
/-- Every entry that holds a value holds r. -/
def allSame (r : ByteArray) : List ByteArray → Bool
  | [] => true
  | x :: l => (!ne x || same x r) && allSame r l
/-- No entry holds a value. -/
def none' : List ByteArray → Bool
  | [] => true
  | x :: l => !ne x && none' l

theorem cnt_append (l m : List ByteArray) : cnt (l ++ m) = cnt l + cnt m := by
  induction l with
  | nil => simp [cnt]
  | cons x l ih => simp only [List.cons_append, cnt, ih]; omega
theorem eqn_append (r : ByteArray) (l m : List ByteArray) : eqn r (l ++ m) = eqn r l + eqn r m := by
  induction l with
  | nil => simp [eqn]
  | cons x l ih => simp only [List.cons_append, eqn, ih]; omega
theorem allSame_append (r : ByteArray) (l m : List ByteArray) : allSame r (l ++ m) = (allSame r l && allSame r m) := by
  induction l with
  | nil => simp [allSame]
  | cons x l ih => simp only [List.cons_append, allSame, ih, Bool.and_assoc]
theorem none_append (l m : List ByteArray) : none' (l ++ m) = (none' l && none' m) := by
  induction l with
  | nil => simp [none']
  | cons x l ih => simp only [List.cons_append, none', ih, Bool.and_assoc]
theorem ref_append (l m : List ByteArray) : ref (l ++ m) = if cnt l = 0 then ref m else ref l := by
  induction l with
  | nil => simp [cnt]
  | cons x l ih =>
    simp only [List.cons_append, ref, cnt]
    by_cases h : ne x = true
    · simp [h]
    · simp [h, ih]
theorem cnt_le (l : List ByteArray) : cnt l ≤ l.length := by
  induction l with
  | nil => simp [cnt]
  | cons x l ih => simp only [cnt, List.length_cons]; split <;> omega
theorem eqn_le (r : ByteArray) (l : List ByteArray) : eqn r l ≤ cnt l := by
  induction l with
  | nil => simp [eqn]
  | cons x l ih => simp only [cnt, eqn]; by_cases h : ne x = true <;> by_cases h' : same x r = true <;> simp [h, h'] <;> omega
theorem ref_zero {l : List ByteArray} (h : cnt l = 0) : ref l = ByteArray.empty := by
  induction l with
  | nil => rfl
  | cons x l ih =>
    simp only [cnt] at h
    by_cases hx : ne x = true
    · simp [hx] at h
    · simp [hx] at h; simp only [ref, hx]; exact ih h
theorem ne_empty : ne ByteArray.empty = false := by decide +kernel
theorem ne_ref (l : List ByteArray) : ne (ref l) = decide (0 < cnt l) := by
  induction l with
  | nil => simp [ref, cnt, ne_empty]
  | cons x l ih =>
    simp only [ref, cnt]
    by_cases hx : ne x = true
    · simp [hx]; omega
    · simp [hx, ih]
theorem allSame_zero (r : ByteArray) {l : List ByteArray} (h : cnt l = 0) : allSame r l = true := by
  induction l with
  | nil => rfl
  | cons x l ih =>
    simp only [cnt] at h
    by_cases hx : ne x = true
    · simp [hx] at h
    · simp [hx] at h; simp [allSame, hx, ih h]
theorem allSame_eqn (r : ByteArray) (l : List ByteArray) : allSame r l = decide (cnt l = eqn r l) := by
  induction l with
  | nil => simp [allSame, cnt, eqn]
  | cons x l ih =>
    have hle := eqn_le r l
    simp only [allSame, cnt, eqn, ih]
    by_cases h : ne x = true
    · by_cases h' : same x r = true
      · rw [Bool.eq_iff_iff]; simp [h, h']
      · rw [Bool.eq_iff_iff]; simp [h, h']; omega
    · simp [h]
theorem eqn_zero (r : ByteArray) {l : List ByteArray} (h : cnt l = 0) : eqn r l = 0 := by have := eqn_le r l; omega
theorem cnt_none {l : List ByteArray} (h : none' l = true) : cnt l = 0 := by
  induction l with
  | nil => rfl
  | cons x l ih => simp [none'] at h; simp [cnt, h.1, ih h.2]

/-! ### step by step -/
theorem cnt_snoc (l : List ByteArray) (x : ByteArray) : cnt (l ++ [x]) = cnt l + if ne x then 1 else 0 := by rw [cnt_append]; simp [cnt]
theorem eqn_snoc (r : ByteArray) (l : List ByteArray) (x : ByteArray) : eqn r (l ++ [x]) = eqn r l + if ne x && same x r then 1 else 0 := by rw [eqn_append]; simp [eqn]
theorem ref_snoc_no (l : List ByteArray) (x : ByteArray) (h : ne x = false) : ref (l ++ [x]) = ref l := by
  rw [ref_append]; split
  · rename_i h0; rw [ref_zero h0]; simp [ref, h]
  · rfl
theorem ref_snoc_first (l : List ByteArray) (x : ByteArray) (h : ne x = true) (h0 : cnt l = 0) : ref (l ++ [x]) = x := by rw [ref_append, if_pos h0]; simp [ref, h]
theorem ref_snoc_later (l : List ByteArray) (x : ByteArray) (h0 : cnt l ≠ 0) : ref (l ++ [x]) = ref l := by rw [ref_append, if_neg h0]

/-- all agree. -/
def ag (l : List ByteArray) : Bool := allSame (ref l) l
theorem ag_snoc_no (l : List ByteArray) (x : ByteArray) (h : ne x = false) : ag (l ++ [x]) = ag l := by
  unfold ag; rw [ref_snoc_no l x h, allSame_append]; simp [allSame, h]
theorem ag_snoc_first (l : List ByteArray) (x : ByteArray) (h : ne x = true) (h0 : cnt l = 0) : ag (l ++ [x]) = true := by
  unfold ag; rw [ref_snoc_first l x h h0, allSame_append, allSame_zero _ h0]; simp [allSame, same_refl]
theorem ag_snoc_later (l : List ByteArray) (x : ByteArray) (h : ne x = true) (h0 : cnt l ≠ 0) : ag (l ++ [x]) = (ag l && same x (ref l)) := by
  unfold ag; rw [ref_snoc_later l x h0, allSame_append]; simp [allSame, h]
theorem ag_prefix (l m : List ByteArray) (h : ag l = false) : ag (l ++ m) = false := by
  unfold ag at *
  rw [ref_append]; split
  · rename_i h0; rw [allSame_zero _ h0] at h; cases h
  · rw [allSame_append, h]; rfl
theorem ag_eqn (l : List ByteArray) : ag l = decide (cnt l = eqn (ref l) l) := allSame_eqn _ _

/-! ### show -/
def showP (p : Int) (old v : ByteArray) : Int := (if ne old then p - 1 else p) + if ne v then 1 else 0
def showR (p : Int) (r old v : ByteArray) : ByteArray := if ne v && decide ((if ne old then p - 1 else p) = 0) then v else r
def showE (p e : Int) (r old v : ByteArray) : Int := (if ne old && same old r then e - 1 else e) + if ne v && same v (showR p r old v) then 1 else 0

/-- The summary held is the column's. -/
structure Sum (l : List ByteArray) (p e : Int) (r : ByteArray) : Prop where
  p : p = cnt l
  e : e = eqn (ref l) l
  r : 0 < cnt l → same r (ref l) = true

theorem eqn_congr {r r' : ByteArray} (h : same r r' = true) (l : List ByteArray) : eqn r l = eqn r' l := by
  induction l with
  | nil => rfl
  | cons x l ih => simp only [eqn, ih, same_congr h x]

theorem ref_tail (P Z : List ByteArray) (x : ByteArray) (hZ : none' Z = true) : ref (P ++ x :: Z) = if cnt P = 0 then (if ne x then x else ByteArray.empty) else ref P := by
  rw [ref_append]
  split
  · simp only [ref]; split
    · rfl
    · exact ref_zero (cnt_none hZ)
  · rfl
theorem cnt_tail (P Z : List ByteArray) (x : ByteArray) (hZ : none' Z = true) : cnt (P ++ x :: Z) = cnt P + if ne x then 1 else 0 := by
  rw [cnt_append]; simp only [cnt, cnt_none hZ]; omega
theorem eqn_tail (r : ByteArray) (P Z : List ByteArray) (x : ByteArray) (hZ : none' Z = true) : eqn r (P ++ x :: Z) = eqn r P + if ne x && same x r then 1 else 0 := by
  rw [eqn_append]; simp only [eqn, eqn_zero r (cnt_none hZ)]; omega

theorem show_law (P Z : List ByteArray) (old v : ByteArray) (p e : Int) (r : ByteArray) (hZ : none' Z = true) (h : Sum (P ++ old :: Z) p e r) :
    Sum (P ++ v :: Z) (showP p old v) (showE p e r old v) (showR p r old v) := by
  obtain ⟨hp, he, hr⟩ := h
  rw [cnt_tail P Z old hZ] at hp hr
  rw [ref_tail P Z old hZ] at he hr
  rw [eqn_tail _ P Z old hZ] at he
  by_cases h0 : cnt P = 0
  · have z : ∀ r, eqn r P = 0 := fun r => eqn_zero r h0
    simp only [h0, z, if_true] at hp he hr
    constructor
    · rw [cnt_tail P Z v hZ, h0]
      unfold showP
      by_cases ho : ne old = true <;> by_cases hv : ne v = true <;> simp [ho, hv] at hp ⊢ <;> omega
    · rw [ref_tail P Z v hZ, eqn_tail _ P Z v hZ, z]
      simp only [h0, if_true]
      unfold showE showR
      by_cases ho : ne old = true
      · have hs : same old r = true := by rw [same_comm]; simpa [ho] using hr
        by_cases hv : ne v = true
        · simp [ho, same_refl] at hp he
          simp [ho, hv, hp, same_refl, hs, he]
        · simp [ho, same_refl] at hp he
          simp [ho, hv, hs, he]
      · by_cases hv : ne v = true
        · simp [ho] at hp he
          simp [ho, hv, hp, same_refl, he]
        · simp [ho] at hp he
          simp [ho, hv, he]
    · rw [cnt_tail P Z v hZ, ref_tail P Z v hZ]
      simp only [h0, if_true]
      unfold showR
      by_cases hv : ne v = true
      · intro _
        have : (if ne old = true then p - 1 else p) = 0 := by by_cases ho : ne old = true <;> simp [ho] at hp ⊢ <;> omega
        simp [hv, this, same_refl]
      · simp [hv]
  · simp only [h0, if_false] at hp he hr
    have hr' : same r (ref P) = true := hr (by omega)
    have hR : showR p r old v = r := by
      unfold showR
      rw [if_neg]
      have : ¬ (if ne old = true then p - 1 else p) = 0 := by by_cases ho : ne old = true <;> simp [ho] at hp ⊢ <;> omega
      simp [this]
    constructor
    · rw [cnt_tail P Z v hZ]
      unfold showP
      by_cases ho : ne old = true <;> by_cases hv : ne v = true <;> simp [ho, hv] at hp ⊢ <;> omega
    · rw [ref_tail P Z v hZ, eqn_tail _ P Z v hZ]
      simp only [h0, if_false]
      unfold showE
      rw [hR, same_congr hr' old, same_congr hr' v, he]
      by_cases ho : (ne old && same old (ref P)) = true <;> by_cases hv : (ne v && same v (ref P)) = true <;> simp only [ho, hv, if_true] <;> simp <;> omega
    · rw [ref_tail P Z v hZ, hR]
      simp only [h0, if_false]
      exact fun _ => hr'
end Go.Proofs.Qxb6604777a
