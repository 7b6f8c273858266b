/- Quoted fields: plain mathematics. -/
namespace Go.Proofs.Qxb6600506a

def spec (c : Int) : Bool := c == 34 || c == 92
def esc1 (c : Int) : List Int := if spec c then [92, c] else [c]
def esc : List Int → List Int
  | [] => []
  | c :: l => esc1 c ++ esc l

theorem esc_append (l m : List Int) : esc (l ++ m) = esc l ++ esc m := by
  induction l with
  | nil => rfl
  | cons c l ih => simp only [List.cons_append, esc, ih, List.append_assoc]
theorem esc_snoc (l : List Int) (c : Int) : esc (l ++ [c]) = esc l ++ esc1 c := by rw [esc_append]; simp [esc]
theorem esc1_len (c : Int) : (esc1 c).length ≤ 2 := by unfold esc1; split <;> simp
theorem esc_len (l : List Int) : (esc l).length ≤ 2 * l.length := by
  induction l with
  | nil => simp [esc]
  | cons c l ih => have := esc1_len c; simp only [esc, List.length_append, List.length_cons]; omega
theorem take_snoc (l : List Int) (k : Nat) (h : k < l.length) : l.take (k + 1) = l.take k ++ [l[k]] := List.take_succ_eq_append_getElem h
theorem esc_take_len (l : List Int) (k : Nat) : (esc (l.take k)).length ≤ 2 * k := by
  have h1 := esc_len (l.take k)
  have h2 : (l.take k).length ≤ k := List.length_take_le _ _
  omega
theorem esc_yes (l : List Int) (c : Int) (h : spec c = true) : esc (l ++ [c]) = esc l ++ [92, c] := by rw [esc_snoc]; simp [esc1, h]
theorem esc_no (l : List Int) (c : Int) (h : spec c = false) : esc (l ++ [c]) = esc l ++ [c] := by rw [esc_snoc]; simp [esc1, h]

/-- A quoted field. -/
def field (l : List Int) : List Int := 34 :: (esc l ++ [34])
theorem field_len (l : List Int) : (field l).length = (esc l).length + 2 := by simp [field]

theorem esc_split (l : List Int) (j : Nat) (h : j < l.length) : esc l = esc (l.take j) ++ (esc1 l[j] ++ esc (l.drop (j + 1))) := by
  have e : l = l.take j ++ l[j] :: l.drop (j + 1) := by rw [List.getElem_cons_drop, List.take_append_drop]
  conv => lhs; rw [e]
  rw [esc_append]; rfl

/-- What the scan meets behind j whole characters. -/
theorem at_char (l R : List Int) (j : Nat) (h : j < l.length) : (field l ++ R)[1 + (esc (l.take j)).length]? = some (if spec l[j] then 92 else l[j]) := by
  unfold field
  rw [esc_split l j h]
  rw [Nat.add_comm 1, List.cons_append, List.getElem?_cons_succ, List.append_assoc, List.append_assoc, List.getElem?_append_right (Nat.le_refl _), Nat.sub_self]
  unfold esc1
  split <;> rfl
theorem at_end (l R : List Int) : (field l ++ R)[1 + (esc l).length]? = some 34 := by
  unfold field
  rw [Nat.add_comm 1, List.cons_append, List.getElem?_cons_succ, List.append_assoc, List.getElem?_append_right (Nat.le_refl _), Nat.sub_self]
  rfl
theorem at_rest (l R : List Int) (j : Nat) : (field l ++ R)[(esc l).length + 2 + j]? = R[j]? := by
  rw [List.getElem?_append_right (by rw [field_len]; omega), field_len, Nat.add_sub_cancel_left]
end Go.Proofs.Qxb6600506a
