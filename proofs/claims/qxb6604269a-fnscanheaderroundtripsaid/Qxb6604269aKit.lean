/- Small laws of this seat's own: no program in sight. -/
import Derived.WalkKit
import Derived.ProofKit
namespace Go.Proofs.Qxb6604269a
open Go.RowKit

theorem hideIt {p : Prop} (h : p) : Hid p := h

/-- A slice that may be appended to without a write below block B: it is owned from B on, or it is full. -/
def Ready (w : World) (B : Nat) (e : TypeId) (v : Value) (n : Nat) (xs : List Value) : Prop :=
  w.ownsRow B e 1 v n xs ∨ (∃ ao, v = .slice ao n n ∧ (ao = none → n = 0) ∧ xs.length = n ∧ ∀ b, ao = some b → ∀ j u, xs[j]? = some u → w.cell? (b.add j) = some u)

theorem Ready.below {w w' : World} {B : Nat} {e : TypeId} {v : Value} {n : Nat} {xs : List Value} (h : Ready w B e v n xs) (hb : Below w.heap.size w w') : Ready w' B e v n xs := by
  rcases h with h | ⟨ao, hv, hn, hl, hc⟩
  · refine .inl ?_
    have hg : w.grownBy w' none := ⟨hb.os, hb.tape, hb.output, hb.size, fun k hk _ => hb.block k hk⟩
    refine h.kept hg ?_
    rcases h.2 with ⟨rfl, _⟩ | ⟨g, cap, cur, rfl, _⟩
    · exact .inl rfl
    · exact .inr (by simp [Value.ownBlock])
  · refine .inr ⟨ao, hv, hn, hl, fun b hb' j u hu => ?_⟩
    have h1 := hc b hb' j u hu
    rw [hb.cell (World.block_lt_of_cell? w _ h1)]
    exact h1

theorem Ready.alloc {w : World} {B : Nat} {e : TypeId} {v : Value} {n : Nat} {xs : List Value} (h : Ready w B e v n xs) (o : Obj) : Ready (w.alloc o) B e v n xs :=
  h.below ((Below.refl _ _).alloc (Nat.le_refl _) _)

theorem wpList_append_ready {P : Program} (w : World) {ops : Array Oper} {rest : List Oper} {o : Oper} {a : Act} {Q : Exit → Act → World → Prop}
    (hgd : o.guard = none) (s x : Operand) (t : TypeId) (ho : o.op = Op.call { callee := Callee.builtin Builtin.append, args := #[s, x], argTypes := #[t, t] })
    (B : Nat) (e : TypeId) (i : TypeInfo) (z : Value) (bytes : Nat) (ht : P.underlying t = some (.slice e)) (hi : P.info? e = some i) (hz : i.zero = some z) (hsize : i.size = 1) (hby : i.bytes = bytes) (hzs : z.cells.size = 1)
    (v : Value) (n : Nat) (xs : List Value) (hs : a.eval s = v) (hown : Ready w B e v n xs)
    (ad : Addr) (m c : Nat) (news : List Value) (hx : a.eval x = .slice (some ad) m c) (hl : news.length = m) (hm : 0 < m) (hnews : ∀ j u, news[j]? = some u → w.cell? (ad.add j) = some u) (h1 : ∀ u ∈ news, u.oneCell' = true)
    (h63 : n + m ≤ maxLen) (hbytes : (n + m) * bytes ≤ 140737488355328) (hbase : B ≤ w.heap.size)
    (h : ∀ v' w', w'.ownsRow B e 1 v' (n + m) (xs ++ news) → Below B w w' → wpList P ops Q rest (a.put o.dst v') w') : wpList P ops Q (o :: rest) a w := by
  rcases hown with hown | ⟨ao, rfl, hn, hlx, hc⟩
  · refine wpList_append_own w hgd s x t ho B e i z 1 bytes ht hi hz hsize hby hzs (by decide) v n xs hs hown ad m c news hx (by omega) hnews h1 h63 hbytes hbase ?_
    intro v' w' h2 h3 _
    exact h v' w' h2 ((Below.refl _ _).grown h3 hbase (fun k hk => (hown.lt k hk).1))
  · refine wpList_append_grows w hgd s x t ho e i z 1 bytes ht hi hz hsize hby hzs (by decide) ao n n xs hs (fun h => ⟨hn h, hn h⟩) (by omega) hc ad m c news hx (by omega) hnews h1 (by omega) h63 hbytes ?_
    intro v' w' h2 h3
    refine h v' w' ?_ ((Below.refl _ _).grown h3 hbase (fun k hk => by cases hk))
    obtain ⟨h4, h5⟩ := h2
    refine ⟨h4, ?_⟩
    rcases h5 with h5 | ⟨g, cap, cur, e1, e2, e3⟩
    · exact .inl h5
    · exact .inr ⟨g, cap, cur, e1, by omega, e3⟩
end Go.Proofs.Qxb6604269a
