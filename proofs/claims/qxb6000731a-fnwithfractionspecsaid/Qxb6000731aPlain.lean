/-
  PLAIN MATHEMATICS: the decimal digits of a number as bytes; a row of ten bytes filled from its end.
-/
namespace Go.Proofs.Qxb6000731a.Pl

/-- The decimal digits of n, as bytes (f: fuel). -/
def dgf : Nat → Nat → List Int
  | 0, n => [48 + (n : Int)]
  | f + 1, n => if n < 10 then [48 + (n : Int)] else dgf f (n / 10) ++ [48 + ((n % 10 : Nat) : Int)]

theorem dgf_fuel : ∀ (f g n : Nat), n < 10 ^ (f + 1) → n < 10 ^ (g + 1) → dgf f n = dgf g n
  | 0, 0, _, _, _ => rfl
  | 0, g + 1, n, h, _ => by rw [dgf, dgf, if_pos (by simpa using h)]
  | f + 1, 0, n, _, h => by rw [dgf, dgf, if_pos (by simpa using h)]
  | f + 1, g + 1, n, hf, hg => by
    rw [dgf, dgf]
    by_cases h : n < 10
    · rw [if_pos h, if_pos h]
    · rw [if_neg h, if_neg h, dgf_fuel f g (n / 10) (by rw [Nat.pow_succ] at hf; omega) (by rw [Nat.pow_succ] at hg; omega)]

/-- The decimal digits of a number below 10^10. -/
def dg (n : Nat) : List Int := dgf 9 n

theorem dg_small {n : Nat} (h : n < 10) : dg n = [48 + (n : Int)] := by unfold dg; rw [dgf, if_pos h]
theorem dg_step {n : Nat} (h : 10 ≤ n) (hn : n < 10 ^ 10) : dg n = dg (n / 10) ++ [48 + ((n % 10 : Nat) : Int)] := by
  unfold dg
  conv => lhs; rw [dgf, if_neg (by omega)]
  rw [dgf_fuel 8 9 (n / 10) (by omega) (by omega)]

theorem dgf_len : ∀ (f n : Nat), (dgf f n).length ≤ f + 1 ∧ 1 ≤ (dgf f n).length
  | 0, n => by simp [dgf]
  | f + 1, n => by
    rw [dgf]
    split
    · simp
    · have := dgf_len f (n / 10); simp; omega
theorem dg_len (n : Nat) : (dg n).length ≤ 10 ∧ 1 ≤ (dg n).length := dgf_len 9 n

theorem dgf_digit : ∀ (f n : Nat), n < 10 ^ (f + 1) → ∀ z ∈ dgf f n, 48 ≤ z ∧ z ≤ 57
  | 0, n, h, z, hz => by
    simp [dgf] at hz h; omega
  | f + 1, n, h, z, hz => by
    rw [dgf] at hz
    split at hz
    · simp at hz; omega
    · rcases List.mem_append.1 hz with hz | hz
      · exact dgf_digit f (n / 10) (by rw [Nat.pow_succ] at h; omega) z hz
      · simp at hz; omega
theorem dg_digit {n : Nat} (h : n < 10 ^ 10) : ∀ z ∈ dg n, 48 ≤ z ∧ z ≤ 57 := dgf_digit 9 n h

/-- Is c a digit? -/
def dig (c : Int) : Bool := decide (48 ≤ c) && decide (c ≤ 57)
theorem dig_iff {c : Int} : dig c = true ↔ 48 ≤ c ∧ c ≤ 57 := by simp [dig]
theorem dig_not {c : Int} : dig c = false ↔ ¬ (48 ≤ c ∧ c ≤ 57) := by rw [← dig_iff]; simp

/-- The bytes of a row of ten from i on. -/
def seg (μ : Nat → Int) (i : Nat) : List Int := (List.range (10 - i)).map fun j => μ (i + j)
theorem seg_len (μ : Nat → Int) (i : Nat) : (seg μ i).length = 10 - i := by simp [seg]
theorem seg_ten (μ : Nat → Int) : seg μ 10 = [] := rfl
theorem seg_get {μ : Nat → Int} {i j : Nat} (h : j < 10 - i) : (seg μ i)[j]? = some (μ (i + j)) := by simp [seg, h]
theorem seg_put (μ : Nat → Int) (i : Nat) (x : Int) (hi : i < 10) : seg (fun j => if j = i then x else μ j) i = x :: seg μ (i + 1) := by
  unfold seg
  rw [show 10 - i = (10 - (i + 1)) + 1 by omega, List.range_succ_eq_map, List.map_cons, List.map_map]
  congr 1
  · simp
  · apply List.map_congr_left
    intro j _
    simp only [Function.comp]
    rw [if_neg (by omega)]
    congr 1
    omega

end Go.Proofs.Qxb6000731a.Pl
