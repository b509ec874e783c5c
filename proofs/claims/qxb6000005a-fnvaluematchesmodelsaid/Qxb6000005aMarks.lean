/-
  PLAIN MATHEMATICS: which places lie in a string ('I'), read off a pass of its own; and the end of a bracketed value by those marks.
-/
import Derived.Test.Qxb6000005aPlain
namespace Go.Proofs.Qxb6000005a.Pl

def ins (d : Nat → Int) (n : Nat) : Nat → Nat → Nat → Bool
  | 0, _, _ => false
  | f + 1, i, j => if n ≤ i then false else if j < nx d n i then decide (d i = 34) else ins d n f (nx d n i) j

theorem ins_fuel (d : Nat → Int) (n : Nat) : ∀ (f g i j : Nat), n - i ≤ f → n - i ≤ g → ins d n f i j = ins d n g i j
  | 0, 0, _, _, _, _ => rfl
  | 0, g + 1, i, j, h, _ => by rw [ins, ins, if_pos (by omega)]
  | f + 1, 0, i, j, _, h => by rw [ins, ins, if_pos (by omega)]
  | f + 1, g + 1, i, j, hf, hg => by
    rw [ins, ins]
    by_cases h : n ≤ i
    · rw [if_pos h, if_pos h]
    · have := nx_bd d n i (by omega)
      rw [if_neg h, if_neg h, ins_fuel d n f g (nx d n i) j (by omega) (by omega)]

/-- Does place j lie in a string, the pass beginning at i? -/
def I (d : Nat → Int) (n i j : Nat) : Bool := ins d n (n - i) i j

theorem I_step {d : Nat → Int} {n i : Nat} (j : Nat) (h : i < n) : I d n i j = if j < nx d n i then decide (d i = 34) else I d n (nx d n i) j := by
  unfold I
  obtain ⟨m, hm⟩ : ∃ m, n - i = m + 1 := ⟨n - i - 1, by omega⟩
  have := nx_bd d n i h
  rw [hm, ins, if_neg (by omega), ins_fuel d n m (n - nx d n i) (nx d n i) j (by omega) (by omega)]

theorem I_in {d : Nat → Int} {n i j : Nat} (h : i < n) (hd : d i = 34) (hj : j < F d n (i + 1)) : I d n i j = true := by
  rw [I_step j h, if_pos (by rw [nx, if_pos hd]; exact hj)]; simpa using hd
theorem I_past {d : Nat → Int} {n i j : Nat} (h : i < n) (hd : d i = 34) (hj : F d n (i + 1) ≤ j) : I d n i j = I d n (F d n (i + 1)) j := by
  rw [I_step j h, if_neg (by rw [nx, if_pos hd]; omega), nx, if_pos hd]
theorem I_at {d : Nat → Int} {n i : Nat} (h : i < n) (hd : d i ≠ 34) : I d n i i = false := by
  rw [I_step i h, if_pos (by rw [nx, if_neg hd]; omega)]; simpa using hd
theorem I_next {d : Nat → Int} {n i j : Nat} (h : i < n) (hd : d i ≠ 34) (hj : i + 1 ≤ j) : I d n i j = I d n (i + 1) j := by
  rw [I_step j h, if_neg (by rw [nx, if_neg hd]; omega), nx, if_neg hd]

/-- The pass comes to k as a place where a token begins. -/
def Top (d : Nat → Int) (n s k : Nat) : Prop := ∀ j, k ≤ j → j < n → I d n s j = I d n k j

theorem Top.self (d : Nat → Int) (n s : Nat) : Top d n s s := fun _ _ _ => rfl
theorem Top.str {d : Nat → Int} {n s k : Nat} (h : Top d n s k) (hk : k < n) (hd : d k = 34) : Top d n s (F d n (k + 1)) := fun j h1 h2 => by
  have := F_bd d n (k + 1) (by omega)
  rw [h j (by omega) h2, I_past hk hd h1]
theorem Top.next {d : Nat → Int} {n s k : Nat} (h : Top d n s k) (hk : k < n) (hd : d k ≠ 34) : Top d n s (k + 1) := fun j h1 h2 => by
  rw [h j (by omega) h2, I_next hk hd h1]
theorem Top.mark {d : Nat → Int} {n s k : Nat} (h : Top d n s k) (hk : k < n) (hd : d k = 34) {j : Nat} (h1 : k ≤ j) (h2 : j < F d n (k + 1)) : I d n s j = true := by
  have := F_bd d n (k + 1) (by omega)
  rw [h j h1 (by omega), I_in hk hd h2]
theorem Top.plain {d : Nat → Int} {n s k : Nat} (h : Top d n s k) (hk : k < n) (hd : d k ≠ 34) : I d n s k = false := by
  rw [h k (Nat.le_refl _) hk, I_at hk hd]

/-- The marks when the first pass stands at k. -/
def mu (d : Nat → Int) (n s k j : Nat) : Bool := if s + j < k then I d n s (s + j) else false
/-- The marks while a string that begins at k is written, up to q. -/
def muq (d : Nat → Int) (n s k q j : Nat) : Bool := if s + j < k then I d n s (s + j) else decide (s + j < q)

theorem muq_start (d : Nat → Int) (n s k j : Nat) : mu d n s k j = muq d n s k k j := by
  unfold mu muq; split
  · rfl
  · rename_i h; exact (decide_eq_false h).symm
theorem muq_step (d : Nat → Int) (n s k q j : Nat) (hk : k ≤ q) (hs : s ≤ q) : (if j = q - s then true else muq d n s k q j) = muq d n s k (q + 1) j := by
  unfold muq
  by_cases h : j = q - s
  · rw [if_pos h, if_neg (by omega)]; exact (decide_eq_true (by omega)).symm
  · rw [if_neg h]
    split
    · rfl
    · congr 1; simp; omega
theorem muq_end {d : Nat → Int} {n s k : Nat} (h : Top d n s k) (hk : k < n) (hd : d k = 34) (j : Nat) : muq d n s k (F d n (k + 1)) j = mu d n s (F d n (k + 1)) j := by
  have := F_bd d n (k + 1) (by omega)
  unfold muq mu
  by_cases h1 : s + j < k
  · rw [if_pos h1, if_pos (by omega)]
  · rw [if_neg h1]
    by_cases h2 : s + j < F d n (k + 1)
    · rw [if_pos h2, h.mark hk hd (by omega) h2]; exact decide_eq_true h2
    · rw [if_neg h2]; exact decide_eq_false h2
theorem mu_next {d : Nat → Int} {n s k : Nat} (h : Top d n s k) (hk : k < n) (hd : d k ≠ 34) (j : Nat) : mu d n s k j = mu d n s (k + 1) j := by
  unfold mu
  by_cases h1 : s + j < k
  · rw [if_pos h1, if_pos (by omega)]
  · rw [if_neg h1]
    by_cases h2 : s + j < k + 1
    · rw [if_pos h2, show s + j = k by omega, h.plain hk hd]
    · rw [if_neg h2]
theorem mu_start (d : Nat → Int) (n s j : Nat) : mu d n s s j = false := by unfold mu; rw [if_neg (by omega)]
theorem mu_end (d : Nat → Int) (n s k : Nat) (hk : n ≤ k) {j : Nat} (hj : s + j < n) : mu d n s k j = I d n s (s + j) := by unfold mu; rw [if_pos (by omega)]

/-- The second pass at i: marked up to r, where a token begins; 'bal' brackets are open. -/
structure P2 (d : Nat → Int) (n s i r : Nat) (bal : Int) : Prop where
  le : i ≤ r
  ub : r ≤ n
  all : ∀ j, i ≤ j → j < r → I d n s j = true
  top : Top d n s r
  g : G d n r bal = G d n s 0
  b : (i = s ∧ r = s ∧ bal = 0) ∨ (1 ≤ bal ∧ bal ≤ i)

theorem P2.start (d : Nat → Int) (n s : Nat) (h : s ≤ n) : P2 d n s s s 0 := ⟨Nat.le_refl _, h, fun j h1 h2 => by omega, Top.self d n s, rfl, .inl ⟨rfl, rfl, rfl⟩⟩

theorem P2.marked {d : Nat → Int} {n s i r : Nat} {bal : Int} (hop : d s = 123 ∨ d s = 91) (h : P2 d n s i r bal) (hi : i < n) (hm : I d n s i = true) : ∃ r', P2 d n s (i + 1) r' bal := by
  by_cases hir : i < r
  · refine ⟨r, by omega, h.ub, fun j h1 h2 => h.all j (by omega) h2, h.top, h.g, ?_⟩
    rcases h.b with hb | hb <;> omega
  · obtain rfl : i = r := by have := h.le; omega
    have hd : d i = 34 := Classical.byContradiction fun hd => by rw [h.top.plain hi hd] at hm; cases hm
    have hb : 1 ≤ bal ∧ bal ≤ i := by
      rcases h.b with ⟨rfl, _⟩ | hb
      · omega
      · exact hb
    have hF := F_bd d n (i + 1) hi
    exact ⟨F d n (i + 1), hF.1, hF.2, fun j h1 h2 => h.top.mark hi hd (by omega) h2, h.top.str hi hd, by rw [← h.g, G_q hi hd (by omega)], .inr (by omega)⟩

theorem P2.plain {d : Nat → Int} {n s i r : Nat} {bal : Int} (h : P2 d n s i r bal) (hi : i < n) (hm : I d n s i = false) : r = i ∧ d i ≠ 34 := by
  have hr : r = i := by
    rcases Nat.lt_or_ge i r with hir | hir
    · rw [h.all i (Nat.le_refl _) hir] at hm; cases hm
    · have := h.le; omega
  subst hr
  exact ⟨rfl, fun hd => by rw [h.top.mark hi hd (Nat.le_refl _) (by have := F_bd d n (r + 1) hi; omega)] at hm; cases hm⟩

theorem P2.opens {d : Nat → Int} {n s i : Nat} {bal : Int} (h : P2 d n s i i bal) (hi : i < n) (hd : d i = 123 ∨ d i = 91) : P2 d n s (i + 1) (i + 1) (bal + 1) := by
  have hb : 0 ≤ bal ∧ bal ≤ i := by rcases h.b with hb | hb <;> omega
  exact ⟨Nat.le_refl _, hi, fun j h1 h2 => by omega, h.top.next hi (by omega), by rw [← h.g, G_open hi hd (by omega)], .inr (by omega)⟩

theorem P2.pos {d : Nat → Int} {n s i : Nat} {bal : Int} (hop : d s = 123 ∨ d s = 91) (h : P2 d n s i i bal) (hd : ¬ (d i = 123 ∨ d i = 91)) : 1 ≤ bal ∧ bal ≤ i := by
  rcases h.b with ⟨rfl, _⟩ | hb
  · exact absurd hop hd
  · exact hb

theorem P2.last {d : Nat → Int} {n s i : Nat} (h : P2 d n s i i 1) (hi : i < n) (hd : d i = 125 ∨ d i = 93) : G d n s 0 = i + 1 := by rw [← h.g, G_last hi hd rfl]

theorem P2.closes {d : Nat → Int} {n s i : Nat} {bal : Int} (hb : 1 ≤ bal ∧ bal ≤ i) (h : P2 d n s i i bal) (hi : i < n) (hd : d i = 125 ∨ d i = 93) (h1 : bal ≠ 1) : P2 d n s (i + 1) (i + 1) (bal - 1) :=
  ⟨Nat.le_refl _, hi, fun j h1 h2 => by omega, h.top.next hi (by omega), by rw [← h.g, G_close hi hd h1], .inr (by omega)⟩

theorem P2.other {d : Nat → Int} {n s i : Nat} {bal : Int} (hb : 1 ≤ bal ∧ bal ≤ i) (h : P2 d n s i i bal) (hi : i < n) (h0 : d i ≠ 34) (h1 : ¬ (d i = 123 ∨ d i = 91)) (h2 : ¬ (d i = 125 ∨ d i = 93)) : P2 d n s (i + 1) (i + 1) bal :=
  ⟨Nat.le_refl _, hi, fun j h1 h2 => by omega, h.top.next hi h0, by rw [← h.g, G_other hi h0 h1 h2 (by omega)], .inr (by omega)⟩

theorem P2.done {d : Nat → Int} {n s r : Nat} {bal : Int} (h : P2 d n s n r bal) : G d n s 0 = n := by rw [← h.g, G_ge h.le]

end Go.Proofs.Qxb6000005a.Pl
