/-
  SMALL FACTS ON MEMORY, over any program: a row of bytes 'd' of length n; 'make' and 'copy' into a new row.
-/
import Derived.WalkKit
import Derived.WalkSpells
import Derived.WalkLawsBesides
import Derived.Laws.CopyOwn
namespace Go.Proofs.Qxb6000523a
open Go.RowKit

theorem hid {p : Prop} (h : p) : Hid p := h
theorem ret_bool {a b : Bool} (h : a = b) : Ending.returned (.bool a) = .returned (.bool b) := by rw [h]
theorem ret_int {k : IntKind} {a b : Int} (h : a = b) : Ending.returned (.int k a) = .returned (.int k b) := by rw [h]

theorem add_block (x : Addr) (i : Nat) : (x.add i).block = x.block := by unfold Addr.add; split <;> rfl

theorem made_block {w1 : World} {base g n : Nat} {e : TypeId} {xs : List Value} (h : w1.ownsRow base e 1 (.slice (some ⟨g, 0, none⟩) n n) n xs) : ∃ cur : List Value, w1.heap[g]? = some (.cells cur.toArray e (0, 0)) ∧ cur.length = n := by
  obtain ⟨_, h2⟩ := h
  rcases h2 with ⟨h3, _⟩ | ⟨g', cap, cur, hv, _, hh, _, _, hsz, _⟩
  · simp at h3
  · simp at hv
    obtain ⟨rfl, rfl⟩ := hv
    exact ⟨cur.toList, by simpa using hh, by simpa using hsz⟩

def bcells (d : Nat → Int) (n : Nat) : List Value := (List.range n).map fun i => .int .u8 (d i)
theorem bcells_len (d : Nat → Int) (n : Nat) : (bcells d n).length = n := by simp [bcells]
theorem bcells_get {d : Nat → Int} {n j : Nat} {v : Value} (h : (bcells d n)[j]? = some v) : j < n ∧ v = .int .u8 (d j) := by
  have hj : j < (bcells d n).length := (List.getElem?_eq_some_iff.1 h).1
  rw [bcells_len] at hj
  refine ⟨hj, ?_⟩
  simp [bcells, hj] at h
  exact h.symm
theorem bcells_one (d : Nat → Int) (n : Nat) : ∀ v ∈ bcells d n, v.oneCell' = true := by
  intro v hv
  simp [bcells] at hv
  obtain ⟨i, _, rfl⟩ := hv
  rfl

/-- 'copy(c, b)', c the whole of a new row of n bytes, b n bytes wherever they lie. -/
theorem copy_all {P : Program} {w0 w1 : World} {T e B g n c : Nat} {x : Addr} {cur : List Value} {d : Nat → Int} (hu : P.underlying T = some (.slice e)) (hs : (P.info? e).map (·.size) = some 1)
    (hg : w1.heap[g]? = some (.cells cur.toArray e (0, 0))) (hl : cur.length = n) (hc : ∀ i, i < n → w1.cell? (x.add i) = some (.int .u8 (d i))) (hb : Below B w0 w1) (hB : B ≤ g) :
    ∃ w2, (∀ ty, (Builtin.copy_ #[T, T] ty #[.slice (some ⟨g, 0, none⟩) n n, .slice (some x) n c]).run P w1 = .ok (goInt n) w2) ∧ Below B w0 w2 ∧ w1.heap.size = w2.heap.size ∧ ∀ i, i < n → w2.cell? ⟨g, i, none⟩ = some (.int .u8 (d i)) := by
  refine ⟨w1.setRow g (cur.toArray.toList.take 0 ++ bcells d n ++ cur.toArray.toList.drop (0 + (bcells d n).length)).toArray, fun ty => ?_, below_setRow hb hB _, by simp, fun i hi => ?_⟩
  · have := run_copy_row (P := P) w1 T T ty e g 0 n n x n c cur.toArray e (bcells d n) hu hs hg (by rw [bcells_len]; exact (Nat.min_self n).symm)
      (fun j v hj => by obtain ⟨h1, rfl⟩ := bcells_get hj; exact hc j h1) (by simp [bcells_len, hl]) (bcells_one d n)
    rw [this, bcells_len]
  · have h := setRow_heap w1 g cur.toArray (cur.toArray.toList.take 0 ++ bcells d n ++ cur.toArray.toList.drop (0 + (bcells d n).length)).toArray e (0, 0) hg
    have hh : (cur.toArray.toList.take 0 ++ bcells d n ++ cur.toArray.toList.drop (0 + (bcells d n).length)) = bcells d n := by simp [bcells_len, hl]
    rw [hh] at h ⊢
    simp only [World.cell?, h]
    simp [bcells, hi]

end Go.Proofs.Qxb6000523a
