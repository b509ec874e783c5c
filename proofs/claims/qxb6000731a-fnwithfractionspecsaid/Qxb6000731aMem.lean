/-
  SMALL FACTS ON MEMORY, over any program: a slice of bytes that the call owns ('OB'); appends to it; a slice of bytes that can be read ('Rd').
-/
import Derived.WalkKit
import Derived.WalkSpells
import Derived.WalkLawsBesides
import Derived.Lib.AppendStr
namespace Go.Proofs.Qxb6000731a
open Go.RowKit

theorem hid {p : Prop} (h : p) : Hid p := h
theorem ret_bool {a b : Bool} (h : a = b) : Ending.returned (.bool a) = .returned (.bool b) := by rw [h]
theorem ret_int {k : IntKind} {a b : Int} (h : a = b) : Ending.returned (.int k a) = .returned (.int k b) := by rw [h]

/-- Bytes as cells. -/
def bc (l : List Int) : List Value := l.map (Value.int .u8)
theorem bc_len (l : List Int) : (bc l).length = l.length := by simp [bc]
theorem bc_app (l m : List Int) : bc (l ++ m) = bc l ++ bc m := by simp [bc]
theorem bc_one (l : List Int) : ∀ u ∈ bc l, u.oneCell' = true := by
  intro u hu
  simp [bc] at hu
  obtain ⟨z, _, rfl⟩ := hu
  rfl
theorem bc_get {l : List Int} {j : Nat} {u : Value} (h : (bc l)[j]? = some u) : j < l.length ∧ u = .int .u8 (l.getD j 0) := by
  have hj : j < (bc l).length := (List.getElem?_eq_some_iff.1 h).1
  rw [bc_len] at hj
  refine ⟨hj, ?_⟩
  simp [bc, List.getElem?_eq_getElem hj] at h
  simp [List.getD, List.getElem?_eq_getElem hj, h]

/-- THE SLICE v, OF THE CALL's OWN (blocks from B on), HOLDS THE BYTES l; below B all is as it was in W0. -/
structure OB (B : Nat) (v : Value) (l : List Int) (W0 w : World) : Prop where
  own : w.ownsRow B 5 1 v l.length (bc l)
  below : Below B W0 w
  size : B ≤ w.heap.size

theorem OB.nil (w : World) : OB w.heap.size (.slice none 0 0) [] w w := ⟨World.ownsRow_nil _ _ _ _, Below.refl _ _, Nat.le_refl _⟩
theorem OB.alloc {B : Nat} {v : Value} {l : List Int} {W0 w : World} (h : OB B v l W0 w) (o : Obj) : OB B v l W0 (w.alloc o) := ⟨h.own.alloc o, h.below.alloc h.size o, by have := h.size; simp; omega⟩
theorem OB.grown {B : Nat} {v v' : Value} {l l' : List Int} {W0 w w' : World} (h : OB B v l W0 w) (ho : w'.ownsRow B 5 1 v' l'.length (bc l')) (hg : w.grownBy w' v.ownBlock) : OB B v' l' W0 w' :=
  ⟨ho, h.below.grown hg h.size (fun k hk => (h.own.lt k hk).1), Nat.le_trans h.size hg.size⟩

/-- What is owned stays while what lay there stays. -/
theorem ownsRow_later {B : Nat} {v : Value} {n : Nat} {xs : List Value} {w w' : World} (h : w.ownsRow B 5 1 v n xs) (hb : Below w.heap.size w w') : w'.ownsRow B 5 1 v n xs := by
  obtain ⟨h1, h2⟩ := h
  refine ⟨h1, ?_⟩
  rcases h2 with h2 | ⟨g, cap, cur, hv, hg, hh, r⟩
  · exact .inl h2
  · exact .inr ⟨g, cap, cur, hv, hg, by rw [hb.block g (Array.getElem?_eq_some_iff.1 hh).1]; exact hh, r⟩
theorem OB.later {B : Nat} {v : Value} {l : List Int} {W0 w w' : World} (h : OB B v l W0 w) (hb : Below w.heap.size w w') : OB B v l W0 w' :=
  ⟨ownsRow_later h.own hb, h.below.trans (hb.mono h.size), Nat.le_trans h.size hb.size⟩

/-- THE SLICE v CAN BE READ: the bytes l. -/
def Rd (w : World) (v : Value) (l : List Int) : Prop := ∃ a c, v = .slice a l.length c ∧ l.length ≤ c ∧ c ≤ maxLen ∧ (0 < l.length → ∃ g, a = some ⟨g, 0, none⟩ ∧ g < w.heap.size ∧ ∀ j, j < l.length → w.cell? ⟨g, j, none⟩ = some (.int .u8 (l.getD j 0)))

theorem OB.rd {B : Nat} {v : Value} {l : List Int} {W0 w : World} (h : OB B v l W0 w) : Rd w v l := by
  have ho := h.own
  rcases ho.2 with ⟨rfl, hn⟩ | ⟨g, cap, cur, rfl, hg, hh, hnc, hcm, hsz, htk⟩
  · exact ⟨none, 0, by rw [hn], by omega, by unfold maxLen; omega, fun h => by omega⟩
  · refine ⟨_, _, rfl, hnc, hcm, fun _ => ⟨g, rfl, (Array.getElem?_eq_some_iff.1 hh).1, fun j hj => ?_⟩⟩
    rw [ho.cellAt j (by omega)]
    simp [bc, List.getElem?_eq_getElem hj, List.getD]

theorem Rd.later {w w' : World} {v : Value} {l : List Int} (h : Rd w v l) (hb : Below w.heap.size w w') : Rd w' v l := by
  obtain ⟨a, c, hv, h1, h2, h3⟩ := h
  refine ⟨a, c, hv, h1, h2, fun h0 => ?_⟩
  obtain ⟨g, ha, hg, hc⟩ := h3 h0
  exact ⟨g, ha, Nat.lt_of_lt_of_le hg hb.size, fun j hj => by rw [hb.cell (p := ⟨g, j, none⟩) hg]; exact hc j hj⟩

section
variable {P : Program}

/-- 'b = append(b, c)'. -/
theorem wpList_ob_byte {ops : Array Oper} {rest : List Oper} {o : Oper} {a : Act} {Q : Exit → Act → World → Prop} (hgd : o.guard = none) (s x : Operand) (t : TypeId)
    (ho : o.op = .call { callee := .builtin .append, args := #[s, x], argTypes := #[t, t] })
    (i : TypeInfo) (ht : P.underlying t = some (.slice 5)) (hi : P.info? 5 = some i) (hz : i.zero = some (.int .u8 0)) (hsize : i.size = 1) (hby : i.bytes = 1)
    (B : Nat) (v : Value) (l : List Int) (W0 w0 : World) (hs : a.eval s = v) (c : Int) (hb : OB B v l W0 w0)
    (hx : a.eval x = .slice (some ⟨w0.heap.size, 0, none⟩) 1 1) (hlen : l.length + 1 ≤ 140737488355328)
    (h : ∀ v' w', OB B v' (l ++ [c]) W0 w' → wpList P ops Q rest (a.put o.dst v') w') : wpList P ops Q (o :: rest) a (w0.alloc (.cells #[.int .u8 c] 5)) := by
  have hb' := hb.alloc (.cells #[.int .u8 c] 5)
  refine wpList_append_own _ hgd s x t ho B 5 i (.int .u8 0) 1 1 ht hi hz hsize hby rfl (by decide) v l.length (bc l) hs hb'.own ⟨w0.heap.size, 0, none⟩ 1 1 [.int .u8 c] hx rfl ?_ ?_ (by unfold maxLen; omega) (by omega) hb'.size ?_
  · intro j u hj
    match j, hj with
    | 0, hj => simp at hj; subst hj; simp [Addr.add]
    | (j + 1), hj => simp at hj
  · intro u hu; simp at hu; subst hu; rfl
  · intro v' w' ho' hg _
    exact h v' w' (hb'.grown (by rw [bc_app, List.length_append]; exact ho') hg)

/-- A string's bytes. -/
def sb (s : ByteArray) : List Int := s.data.toList.map fun b => (b.toNat : Int)
theorem sb_len (s : ByteArray) : (sb s).length = s.size := by unfold sb; rw [List.length_map, Array.length_toList]; rfl
theorem sb_cells (s : ByteArray) : Lib.strCells s = bc (sb s) := by simp [Lib.strCells, bc, sb]

/-- 'b = append(b, s...)'. -/
theorem wpList_ob_text {ops : Array Oper} {rest : List Oper} {o : Oper} {a : Act} {Q : Exit → Act → World → Prop} {w : World} (hgd : o.guard = none) (sl x : Operand) (t u : TypeId)
    (ho : o.op = .call { callee := .builtin .append, args := #[sl, x], argTypes := #[t, u] })
    (i : TypeInfo) (ht : P.underlying t = some (.slice 5)) (hu : P.underlying u = some .string) (hi : P.info? 5 = some i) (hz : i.zero = some (.int .u8 0)) (hsize : i.size = 1) (hby : i.bytes = 1)
    (B : Nat) (v : Value) (l : List Int) (W0 : World) (hs : a.eval sl = v) (hb : OB B v l W0 w) (s : ByteArray) (hx : a.eval x = .string s) (hlen : l.length + s.size ≤ 140737488355328)
    (h : ∀ v' w', OB B v' (l ++ sb s) W0 w' → wpList P ops Q rest (a.put o.dst v') w') : wpList P ops Q (o :: rest) a w := by
  refine Lib.wpList_append_own_string w hgd sl x t u ho B 5 i ht hu hi hz hsize hby v l.length (bc l) hs hb.own s hx (by unfold maxLen; omega) hlen hb.size ?_
  intro v' w' ho' hg _
  exact h v' w' (hb.grown (by rw [bc_app, List.length_append, sb_len, ← sb_cells]; exact ho') hg)

/-- 'b = append(b, xs...)', xs the bytes m wherever they lie. -/
theorem wpList_ob_slice {ops : Array Oper} {rest : List Oper} {o : Oper} {a : Act} {Q : Exit → Act → World → Prop} {w : World} (hgd : o.guard = none) (s x : Operand) (t : TypeId)
    (ho : o.op = .call { callee := .builtin .append, args := #[s, x], argTypes := #[t, t] })
    (i : TypeInfo) (ht : P.underlying t = some (.slice 5)) (hi : P.info? 5 = some i) (hz : i.zero = some (.int .u8 0)) (hsize : i.size = 1) (hby : i.bytes = 1)
    (B : Nat) (v : Value) (l : List Int) (W0 : World) (hs : a.eval s = v) (hb : OB B v l W0 w)
    (g off c : Nat) (m : List Int) (k : Nat) (hk : k = m.length) (hx : a.eval x = .slice (some ⟨g, off, none⟩) k c) (hc : ∀ j, j < m.length → w.cell? ⟨g, off + j, none⟩ = some (.int .u8 (m.getD j 0))) (hlen : l.length + m.length ≤ 140737488355328)
    (h : ∀ v' w', OB B v' (l ++ m) W0 w' → wpList P ops Q rest (a.put o.dst v') w') : wpList P ops Q (o :: rest) a w := by
  subst hk
  refine wpList_append_own w hgd s x t ho B 5 i (.int .u8 0) 1 1 ht hi hz hsize hby rfl (by decide) v l.length (bc l) hs hb.own ⟨g, off, none⟩ m.length c (bc m) hx (by rw [bc_len, Nat.mul_one]) ?_ (bc_one m) (by unfold maxLen; omega) (by omega) hb.size ?_
  · intro j u hj
    obtain ⟨h1, rfl⟩ := bc_get hj
    rw [Addr.add_lit]
    exact hc j h1
  · intro v' w' ho' hg _
    exact h v' w' (hb.grown (by rw [bc_app, List.length_append]; exact ho') hg)

/-- 'make([]byte, 0, n)'. -/
theorem OB.made {B n : Nat} {w w' : World} (h : w'.ownsRow B 5 1 (.slice (some ⟨w.heap.size, 0, none⟩) 0 n) 0 []) (hg : w.grownBy w' none) (hB : B = w.heap.size) : OB B (.slice (some ⟨w.heap.size, 0, none⟩) 0 n) [] w w' := by
  subst hB
  exact ⟨h, (Below.refl _ _).grown hg (Nat.le_refl _) (fun k h => by cases h), hg.size⟩

end
end Go.Proofs.Qxb6000731a
