/-
  PLAIN MATHEMATICS: a number's decimal writing as bytes, and its reading.
-/
namespace Go.Proofs.Qxb6000918aDoor.Pl

/-- The digit of d (0 to 9) as a byte. -/
def db (d : Nat) : UInt8 := (48 + d).toUInt8
theorem db_nat {d : Nat} (h : d < 10) : (db d).toNat = 48 + d := by
  unfold db
  simp
  omega

def dgf : Nat → Nat → List UInt8
  | 0, n => [db n]
  | f + 1, n => if n < 10 then [db n] else dgf f (n / 10) ++ [db (n % 10)]

theorem dgf_fuel : ∀ (f g n : Nat), n < 10 ^ (f + 1) → n < 10 ^ (g + 1) → dgf f n = dgf g n
  | 0, 0, _, _, _ => rfl
  | 0, g + 1, n, h, _ => by rw [dgf, dgf, if_pos (by simpa using h)]
  | f + 1, 0, n, _, h => by rw [dgf, dgf, if_pos (by simpa using h)]
  | f + 1, g + 1, n, hf, hg => by
    rw [dgf, dgf]
    by_cases h : n < 10
    · rw [if_pos h, if_pos h]
    · rw [if_neg h, if_neg h, dgf_fuel f g (n / 10) (by rw [Nat.pow_succ] at hf; omega) (by rw [Nat.pow_succ] at hg; omega)]

/-- The decimal digits of a number below 10^20. -/
def dg (n : Nat) : List UInt8 := dgf 19 n

theorem dg_small {n : Nat} (h : n < 10) : dg n = [db n] := by unfold dg; rw [dgf, if_pos h]
theorem dg_step {n : Nat} (h : 10 ≤ n) (hn : n < 10 ^ 20) : dg n = dg (n / 10) ++ [db (n % 10)] := by
  unfold dg
  conv => lhs; rw [dgf, if_neg (by omega)]
  rw [dgf_fuel 18 19 (n / 10) (by omega) (by omega)]

theorem dgf_digit : ∀ (f n : Nat), n < 10 ^ (f + 1) → ∀ z ∈ dgf f n, 48 ≤ z.toNat ∧ z.toNat ≤ 57
  | 0, n, h, z, hz => by
    simp [dgf] at hz h
    subst hz
    rw [db_nat h]; omega
  | f + 1, n, h, z, hz => by
    rw [dgf] at hz
    split at hz
    · rename_i h10
      simp at hz
      subst hz
      rw [db_nat h10]; omega
    · rcases List.mem_append.1 hz with hz | hz
      · exact dgf_digit f (n / 10) (by rw [Nat.pow_succ] at h; omega) z hz
      · simp at hz
        subst hz
        rw [db_nat (by omega)]; omega
theorem dg_digit {n : Nat} (h : n < 10 ^ 20) : ∀ z ∈ dg n, 48 ≤ z.toNat ∧ z.toNat ≤ 57 := dgf_digit 19 n h

theorem dgf_len : ∀ (f n k : Nat), n < 10 ^ (f + 1) → (n < 10 ^ (k + 1) ↔ (dgf f n).length ≤ k + 1)
  | 0, n, k, h => by
    simp [dgf] at h ⊢
    have : 10 ≤ 10 ^ (k + 1) := by rw [Nat.pow_succ]; have := Nat.pow_pos (n := k) (show 0 < 10 by decide); omega
    omega
  | f + 1, n, k, h => by
    rw [dgf]
    by_cases h10 : n < 10
    · rw [if_pos h10]
      have : 10 ≤ 10 ^ (k + 1) := by rw [Nat.pow_succ]; have := Nat.pow_pos (n := k) (show 0 < 10 by decide); omega
      simp; omega
    · rw [if_neg h10, List.length_append]
      simp only [List.length_cons, List.length_nil]
      cases k with
      | zero =>
        have hl : 1 ≤ (dgf f (n / 10)).length := by cases f <;> (rw [dgf]; first | (split <;> simp) | simp)
        simp only [Nat.zero_add, Nat.pow_one]; omega
      | succ k =>
        have := dgf_len f (n / 10) k (by rw [Nat.pow_succ] at h; omega)
        rw [Nat.pow_succ]
        omega
theorem dg_len (n k : Nat) (h : n < 10 ^ 20) : n < 10 ^ (k + 1) ↔ (dg n).length ≤ k + 1 := dgf_len 19 n k h
theorem dg_pos (n : Nat) : 1 ≤ (dg n).length := by unfold dg; rw [dgf]; split <;> simp

/-- What digits spell. -/
def val (l : List UInt8) : Nat := l.foldl (fun a c => a * 10 + (c.toNat - 48)) 0
theorem val_snoc (l : List UInt8) (c : UInt8) : val (l ++ [c]) = val l * 10 + (c.toNat - 48) := by simp [val]
theorem val_dgf : ∀ (f n : Nat), n < 10 ^ (f + 1) → val (dgf f n) = n
  | 0, n, h => by simp [dgf, val] at h ⊢; rw [db_nat h]; omega
  | f + 1, n, h => by
    rw [dgf]
    split
    · rename_i h10
      simp [val]; rw [db_nat h10]; omega
    · rw [val_snoc, val_dgf f (n / 10) (by rw [Nat.pow_succ] at h; omega), db_nat (by omega)]; omega
theorem val_dg {n : Nat} (h : n < 10 ^ 20) : val (dg n) = n := val_dgf 19 n h

theorem dgf_head : ∀ (f n : Nat), n < 10 ^ (f + 1) → 1 ≤ n → ((dgf f n).head?.map UInt8.toNat) ≠ some 48
  | 0, n, h, h1 => by simp [dgf] at h ⊢; rw [db_nat h]; omega
  | f + 1, n, h, h1 => by
    rw [dgf]
    split
    · rename_i h10
      simp; rw [db_nat h10]; omega
    · have hl : dgf f (n / 10) ≠ [] := by cases f <;> (rw [dgf]; first | (split <;> simp) | simp)
      have := dgf_head f (n / 10) (by rw [Nat.pow_succ] at h; omega) (by omega)
      cases hd : dgf f (n / 10) with
      | nil => exact absurd hd hl
      | cons a t => rw [hd] at this; simpa using this

/-- The writing of an integer. -/
def itoa (n : Int) : List UInt8 := if n < 0 then 45 :: dg n.natAbs else dg n.natAbs

/-- The value of the first k digits grows no further than the whole. -/
theorem val_take_bd (l : List UInt8) (h : ∀ z ∈ l, 48 ≤ z.toNat ∧ z.toNat ≤ 57) : ∀ k, k ≤ l.length → val (l.take k) < 10 ^ k
  | 0, _ => by simp [val]
  | k + 1, hk => by
    have ih := val_take_bd l h k (by omega)
    rw [List.take_succ_eq_append_getElem (by omega), val_snoc, Nat.pow_succ]
    have := h l[k] (List.getElem_mem (by omega))
    omega
theorem val_take_succ (l : List UInt8) (k : Nat) (hk : k < l.length) : val (l.take (k + 1)) = val (l.take k) * 10 + (l[k].toNat - 48) := by
  rw [List.take_succ_eq_append_getElem hk, val_snoc]
theorem val_take_le (l : List UInt8) : ∀ m k, k + m ≤ l.length → val (l.take k) ≤ val (l.take (k + m))
  | 0, k, _ => Nat.le_refl _
  | m + 1, k, h => by
    have h1 := val_take_le l m k (by omega)
    have h2 := val_take_succ l (k + m) (by omega)
    rw [show k + (m + 1) = k + m + 1 by omega, h2]
    omega
/-- One digit short of the whole, ten times the value is no more than the whole. -/
theorem val_take_ten (l : List UInt8) (k : Nat) (hk : k < l.length) : val (l.take k) * 10 + (l[k].toNat - 48) ≤ val l := by
  have h1 := val_take_succ l k hk
  have h2 := val_take_le l (l.length - (k + 1)) (k + 1) (by omega)
  rw [show k + 1 + (l.length - (k + 1)) = l.length by omega, List.take_length] at h2
  omega

end Go.Proofs.Qxb6000918aDoor.Pl
