/-
  PLAIN MATHEMATICS on the texts: H:MM:SS, a fraction, a suffix.
-/
import Derived.Test.Qxb6000731aFrac
namespace Go.Proofs.Qxb6000731a
open Go.RowKit

theorem getD_left {l m : List Int} {j : Nat} (h : j < l.length) : (l ++ m).getD j 0 = l.getD j 0 := by
  rw [List.getD_eq_getElem?_getD, List.getD_eq_getElem?_getD, List.getElem?_append_left h]
theorem getD_right (l m : List Int) (j : Nat) : (l ++ m).getD (l.length + j) 0 = m.getD j 0 := by
  rw [List.getD_eq_getElem?_getD, List.getD_eq_getElem?_getD, List.getElem?_append_right (by omega), show l.length + j - l.length = j by omega]
theorem getD_mem {l : List Int} {j : Nat} (h : j < l.length) : l.getD j 0 ∈ l := by
  rw [List.getD_eq_getElem?_getD, List.getElem?_eq_getElem h]
  exact List.getElem_mem h

theorem TT_len (h m s : Nat) : (TT h m s).length = (Pl.dg h).length + 6 := by simp [TT]

theorem TT_first {h m s : Nat} (hh : h < 4294967296) (Q : List Int) : ∀ j, j < (Pl.dg h).length → (TT h m s ++ Q).getD j 0 ≠ 58 := by
  intro j hj
  rw [getD_left (by rw [TT_len]; omega), TT, getD_left hj]
  have := Pl.dg_digit (n := h) (by omega) _ (getD_mem hj)
  omega
theorem TT_c0 (h m s : Nat) (Q : List Int) : (TT h m s ++ Q).getD (Pl.dg h).length 0 = 58 := by
  rw [getD_left (by rw [TT_len]; omega), TT]
  exact getD_right (Pl.dg h) _ 0
theorem TT_c3 (h m s : Nat) (Q : List Int) : (TT h m s ++ Q).getD ((Pl.dg h).length + 3) 0 = 58 := by
  rw [getD_left (by rw [TT_len]; omega), TT]
  exact getD_right (Pl.dg h) _ 3

theorem sb_byte (s : ByteArray) : ∀ z ∈ sb s, 0 ≤ z ∧ z < 256 := by
  intro z hz
  simp only [sb, List.mem_map] at hz
  obtain ⟨b, _, rfl⟩ := hz
  have := b.toNat_lt
  omega
theorem TT_byte {h m s : Nat} (hh : h < 4294967296) (hm : m < 100) (hs : s < 100) : ∀ z ∈ TT h m s, 0 ≤ z ∧ z < 256 := by
  intro z hz
  rcases List.mem_append.1 hz with hz | hz
  · have := Pl.dg_digit (n := h) (by omega) z hz; omega
  · simp at hz; omega
theorem mem_app {P : Int → Prop} {l m : List Int} (h1 : ∀ z ∈ l, P z) (h2 : ∀ z ∈ m, P z) : ∀ z ∈ l ++ m, P z := by
  intro z hz
  rcases List.mem_append.1 hz with hz | hz
  · exact h1 z hz
  · exact h2 z hz

theorem sb_at (f : ByteArray) (k : Nat) (h : k < f.size) : (sb f).getD k 0 = (f[k].toNat : Int) := by
  have : k < f.data.toList.length := by simpa using h
  rw [List.getD_eq_getElem?_getD, sb, List.getElem?_map, List.getElem?_eq_getElem this]
  rfl

/-- No fraction: behind the seconds no point. -/
theorem tail_none {h m s : Nat} {Q : List Int} (hq : 0 < Q.length → Q.getD 0 0 ≠ 46) : Tail (TT h m s ++ Q) (TT h m s ++ Q).length (Pl.dg h).length ((Pl.dg h).length + 6) 0 := by
  refine .inl ⟨rfl, rfl, fun hlt => ?_⟩
  rw [List.length_append, TT_len] at hlt
  have := getD_right (TT h m s) Q 0
  rw [TT_len, Nat.add_zero] at this
  rw [this]
  exact hq (by omega)

/-- A fraction f, then Q. -/
theorem tail_some {h m s : Nat} {F Q : List Int} (hF : 1 ≤ F.length) (hd : ∀ j, j < F.length → Pl.dig (F.getD j 0) = true) (hq : 0 < Q.length → Pl.dig (Q.getD 0 0) = false) :
    Tail (TT h m s ++ ([46] ++ (F ++ Q))) (TT h m s ++ ([46] ++ (F ++ Q))).length (Pl.dg h).length ((Pl.dg h).length + 7 + F.length) F.length := by
  have hr : ∀ j, (TT h m s ++ ([46] ++ (F ++ Q))).getD ((Pl.dg h).length + 7 + j) 0 = (F ++ Q).getD j 0 := fun j => by
    have h1 := getD_right (TT h m s) ([46] ++ (F ++ Q)) (1 + j)
    have h2 := getD_right [46] (F ++ Q) j
    rw [TT_len, show (Pl.dg h).length + 6 + (1 + j) = (Pl.dg h).length + 7 + j by omega] at h1
    rw [h1]
    exact h2
  refine .inr ⟨hF, rfl, ?_, fun j hj => ?_, fun hlt => ?_⟩
  · have := getD_right (TT h m s) ([46] ++ (F ++ Q)) 0
    rw [TT_len, Nat.add_zero] at this
    rw [this]
    rfl
  · rw [hr j, getD_left hj]; exact hd j hj
  · rw [hr F.length]
    have := getD_right F Q 0
    rw [Nat.add_zero] at this
    rw [this]
    simp only [List.length_append, TT_len, List.length_cons, List.length_nil] at hlt
    exact hq (by omega)

theorem out_none (h m s D : Nat) (Q : List Int) : wfOut (TT h m s ++ Q) ((Pl.dg h).length + 6) 0 D = TT h m s ++ ([46] ++ (List.replicate D 48 ++ Q)) := by
  have hl := TT_len h m s
  unfold wfOut dotOf
  rw [← hl, List.take_left, List.drop_left, if_pos rfl, Nat.sub_zero]
  simp only [List.append_assoc]

theorem out_some (h m s D : Nat) (F Q : List Int) (hF : 1 ≤ F.length) : wfOut (TT h m s ++ ([46] ++ (F ++ Q))) ((Pl.dg h).length + 7 + F.length) F.length D = TT h m s ++ ([46] ++ (F ++ (List.replicate (D - F.length) 48 ++ Q))) := by
  have hl : (TT h m s ++ ([46] ++ F)).length = (Pl.dg h).length + 7 + F.length := by simp only [List.length_append, TT_len, List.length_cons, List.length_nil]; omega
  have he : TT h m s ++ ([46] ++ (F ++ Q)) = (TT h m s ++ ([46] ++ F)) ++ Q := by simp only [List.append_assoc]
  unfold wfOut dotOf
  rw [he, ← hl, List.take_left, List.drop_left, if_neg (by omega)]
  simp only [List.append_assoc, List.nil_append]

end Go.Proofs.Qxb6000731a
