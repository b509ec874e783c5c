/-
  PLAIN MATHEMATICS, no Go in sight: bytes 'd : Nat → Int', length 'n'. The forward string scan 'F', the first place 'fst' where a test says yes, the end 'G' of a bracketed value, the end 'vEnd' of a value.
-/
namespace Go.Proofs.Qxb6000523a.Pl

def fwd (d : Nat → Int) (n : Nat) : Nat → Nat → Nat
  | 0, _ => n
  | f + 1, i => if n ≤ i then n else if d i = 92 then fwd d n f (i + 2) else if d i = 34 then i + 1 else fwd d n f (i + 1)

theorem fwd_fuel (d : Nat → Int) (n : Nat) : ∀ (f g i : Nat), n - i ≤ f → n - i ≤ g → fwd d n f i = fwd d n g i
  | 0, 0, _, _, _ => rfl
  | 0, g + 1, i, h, _ => by rw [fwd, fwd, if_pos (by omega)]
  | f + 1, 0, i, _, h => by rw [fwd, fwd, if_pos (by omega)]
  | f + 1, g + 1, i, hf, hg => by
    rw [fwd, fwd]
    by_cases h : n ≤ i
    · rw [if_pos h, if_pos h]
    · rw [if_neg h, if_neg h, fwd_fuel d n f g (i + 2) (by omega) (by omega), fwd_fuel d n f g (i + 1) (by omega) (by omega)]

/-- Where the string ends whose next unread byte is at i. -/
def F (d : Nat → Int) (n i : Nat) : Nat := fwd d n (n - i) i

theorem F_ge {d : Nat → Int} {n i : Nat} (h : n ≤ i) : F d n i = n := by
  unfold F; rw [show n - i = 0 by omega]; rfl

theorem F_unfold {d : Nat → Int} {n i : Nat} (h : i < n) : F d n i = if d i = 92 then F d n (i + 2) else if d i = 34 then i + 1 else F d n (i + 1) := by
  unfold F
  obtain ⟨m, hm⟩ : ∃ m, n - i = m + 1 := ⟨n - i - 1, by omega⟩
  rw [hm, fwd, if_neg (by omega), fwd_fuel d n m (n - (i + 2)) (i + 2) (by omega) (by omega), fwd_fuel d n m (n - (i + 1)) (i + 1) (by omega) (by omega)]

theorem F_bs {d : Nat → Int} {n i : Nat} (h : i < n) (hd : d i = 92) : F d n i = F d n (i + 2) := by rw [F_unfold h, if_pos hd]
theorem F_q {d : Nat → Int} {n i : Nat} (h : i < n) (hd : d i = 34) : F d n i = i + 1 := by rw [F_unfold h, if_neg (by omega), if_pos hd]
theorem F_else {d : Nat → Int} {n i : Nat} (h : i < n) (h1 : d i ≠ 92) (h2 : d i ≠ 34) : F d n i = F d n (i + 1) := by rw [F_unfold h, if_neg h1, if_neg h2]

theorem F_le (d : Nat → Int) (n i : Nat) : F d n i ≤ n := by
  generalize hm : n - i = m
  induction m using Nat.strongRecOn generalizing i with
  | ind m ih =>
    by_cases h : n ≤ i
    · rw [F_ge h]; exact Nat.le_refl _
    · rw [F_unfold (by omega)]
      split
      · exact ih _ (by omega) _ rfl
      · split
        · omega
        · exact ih _ (by omega) _ rfl

theorem F_gt (d : Nat → Int) (n i : Nat) (hi : i < n) : i < F d n i := by
  generalize hm : n - i = m
  induction m using Nat.strongRecOn generalizing i with
  | ind m ih =>
    rw [F_unfold (by omega)]
    split
    · by_cases h : n ≤ i + 2
      · rw [F_ge h]; omega
      · have := ih _ (by omega) (i + 2) (by omega) rfl; omega
    · split
      · omega
      · by_cases h : n ≤ i + 1
        · rw [F_ge h]; omega
        · have := ih _ (by omega) (i + 1) (by omega) rfl; omega

theorem F_bd (d : Nat → Int) (n i : Nat) (hi : i ≤ n) : i ≤ F d n i ∧ F d n i ≤ n := by
  refine ⟨?_, F_le d n i⟩
  by_cases h : i < n
  · exact Nat.le_of_lt (F_gt d n i h)
  · rw [F_ge (by omega)]; exact hi

/-- No quote from i on: the string runs to the end. -/
theorem F_none {d : Nat → Int} {n : Nat} (i : Nat) (hq : ∀ j, i ≤ j → j < n → d j ≠ 34) : F d n i = n := by
  generalize hm : n - i = m
  induction m using Nat.strongRecOn generalizing i with
  | ind m ih =>
    by_cases h : n ≤ i
    · exact F_ge h
    · rw [F_unfold (by omega), if_neg (hq i (Nat.le_refl _) (by omega))]
      split
      · exact ih _ (by omega) _ (fun j h1 h2 => hq j (by omega) h2) rfl
      · exact ih _ (by omega) _ (fun j h1 h2 => hq j (by omega) h2) rfl

/-- The forward scan comes to the head of a run of backslashes. -/
theorem F_to {d : Nat → Int} {n : Nat} (p : Nat) (hp : p ≤ n) (i : Nat) (hip : i ≤ p) (hq : ∀ j, i ≤ j → j < p → d j ≠ 34) (hb : p = i ∨ d (p - 1) ≠ 92) : F d n i = F d n p := by
  generalize hm : p - i = m
  induction m using Nat.strongRecOn generalizing i with
  | ind m ih =>
    by_cases h : i = p
    · rw [h]
    · have hb' : d (p - 1) ≠ 92 := hb.resolve_left (fun e => h e.symm)
      by_cases h92 : d i = 92
      · have : i ≠ p - 1 := fun e => hb' (e ▸ h92)
        rw [F_bs (by omega) h92]
        exact ih _ (by omega) (i + 2) (by omega) (fun j h1 h2 => hq j (by omega) h2) (Or.inr hb') rfl
      · rw [F_else (by omega) h92 (hq i (Nat.le_refl _) (by omega))]
        exact ih _ (by omega) (i + 1) (by omega) (fun j h1 h2 => hq j (by omega) h2) (Or.inr hb') rfl

/-- A run of t backslashes, then a quote. -/
theorem F_bsrun {d : Nat → Int} {n : Nat} (t p : Nat) (hpt : p + t < n) (hb : ∀ j, p ≤ j → j < p + t → d j = 92) (he : d (p + t) = 34) : F d n p = if t % 2 = 0 then p + t + 1 else F d n (p + t + 1) := by
  induction t using Nat.strongRecOn generalizing p with
  | ind t ih =>
    match t, ih with
    | 0, _ => rw [if_pos rfl]; exact F_q hpt he
    | 1, _ => rw [if_neg (by decide)]; exact F_bs (by omega) (hb p (Nat.le_refl _) (by omega))
    | t + 2, ih =>
      rw [F_bs (by omega) (hb p (Nat.le_refl _) (by omega)), ih t (by omega) (p + 2) (by omega) (fun j h1 h2 => hb j (by omega) (by omega)) (by rw [← he]; congr 1; omega)]
      have : (t + 2) % 2 = t % 2 := by omega
      rw [this, show p + 2 + t + 1 = p + (t + 2) + 1 by omega]

theorem F_run {d : Nat → Int} {n : Nat} (i p t : Nat) (hip : i ≤ p) (hpt : p + t < n) (hq : ∀ j, i ≤ j → j < p + t → d j ≠ 34) (hb : ∀ j, p ≤ j → j < p + t → d j = 92) (hp : p = i ∨ d (p - 1) ≠ 92) (he : d (p + t) = 34) :
    F d n i = if t % 2 = 0 then p + t + 1 else F d n (p + t + 1) := by
  rw [F_to p (by omega) i hip (fun j h1 h2 => hq j h1 (by omega)) hp]
  exact F_bsrun t p hpt hb he

/-! The first place from i on where the test says yes; n where none does. -/
def fsf (p : Int → Bool) (d : Nat → Int) (n : Nat) : Nat → Nat → Nat
  | 0, i => i
  | f + 1, i => if n ≤ i then i else if p (d i) = true then i else fsf p d n f (i + 1)

def fst (p : Int → Bool) (d : Nat → Int) (n i : Nat) : Nat := fsf p d n (n - i) i

theorem fsf_eq (p : Int → Bool) (d : Nat → Int) (n r : Nat) (hr : r ≤ n) (hy : r < n → p (d r) = true) : ∀ (f i : Nat), n - i ≤ f → i ≤ r → (∀ j, i ≤ j → j < r → p (d j) = false) → fsf p d n f i = r
  | 0, i, hf, hi, _ => by rw [fsf]; omega
  | f + 1, i, hf, hi, hn => by
    rw [fsf]
    by_cases h : n ≤ i
    · rw [if_pos h]; omega
    · rw [if_neg h]
      by_cases e : i = r
      · subst e; rw [if_pos (hy (by omega))]
      · rw [if_neg (by rw [hn i (Nat.le_refl _) (by omega)]; decide)]
        exact fsf_eq p d n r hr hy f (i + 1) (by omega) (by omega) (fun j h1 h2 => hn j (by omega) h2)

theorem fst_eq {p : Int → Bool} {d : Nat → Int} {n i r : Nat} (hr : r ≤ n) (hi : i ≤ r) (hn : ∀ j, i ≤ j → j < r → p (d j) = false) (hy : r < n → p (d r) = true) : fst p d n i = r :=
  fsf_eq p d n r hr hy (n - i) i (Nat.le_refl _) hi hn

theorem fsf_prop (p : Int → Bool) (d : Nat → Int) (n : Nat) : ∀ (f i : Nat), n - i ≤ f → i ≤ n →
    i ≤ fsf p d n f i ∧ fsf p d n f i ≤ n ∧ (∀ j, i ≤ j → j < fsf p d n f i → p (d j) = false) ∧ (fsf p d n f i < n → p (d (fsf p d n f i)) = true)
  | 0, i, hf, hi => by rw [fsf]; exact ⟨Nat.le_refl _, hi, fun j h1 h2 => by omega, fun h => by omega⟩
  | f + 1, i, hf, hi => by
    rw [fsf]
    by_cases h : n ≤ i
    · rw [if_pos h]; exact ⟨Nat.le_refl _, hi, fun j h1 h2 => by omega, fun h => by omega⟩
    · rw [if_neg h]
      by_cases e : p (d i) = true
      · rw [if_pos e]; exact ⟨Nat.le_refl _, hi, fun j h1 h2 => by omega, fun _ => e⟩
      · rw [if_neg e]
        obtain ⟨h1, h2, h3, h4⟩ := fsf_prop p d n f (i + 1) (by omega) (by omega)
        refine ⟨by omega, h2, fun j hj1 hj2 => ?_, h4⟩
        by_cases ej : j = i
        · subst ej; simpa using e
        · exact h3 j (by omega) hj2

theorem fst_prop (p : Int → Bool) (d : Nat → Int) (n i : Nat) (hi : i ≤ n) :
    i ≤ fst p d n i ∧ fst p d n i ≤ n ∧ (∀ j, i ≤ j → j < fst p d n i → p (d j) = false) ∧ (fst p d n i < n → p (d (fst p d n i)) = true) :=
  fsf_prop p d n (n - i) i (Nat.le_refl _) hi

/-! A bracketed value: k open brackets at i. -/
def dl (c : Int) : Int := if c = 123 ∨ c = 91 then 1 else if c = 125 ∨ c = 93 then -1 else 0
def nx (d : Nat → Int) (n i : Nat) : Nat := if d i = 34 then F d n (i + 1) else i + 1

theorem nx_bd (d : Nat → Int) (n i : Nat) (hi : i < n) : i < nx d n i ∧ nx d n i ≤ n := by
  unfold nx
  split
  · have := F_bd d n (i + 1) (by omega); omega
  · omega

def grp (d : Nat → Int) (n : Nat) : Nat → Nat → Int → Nat
  | 0, _, _ => n
  | f + 1, i, k => if n ≤ i then n else if k + dl (d i) = 0 then nx d n i else grp d n f (nx d n i) (k + dl (d i))

theorem grp_fuel (d : Nat → Int) (n : Nat) : ∀ (f g i : Nat) (k : Int), n - i ≤ f → n - i ≤ g → grp d n f i k = grp d n g i k
  | 0, 0, _, _, _, _ => rfl
  | 0, g + 1, i, k, h, _ => by rw [grp, grp, if_pos (by omega)]
  | f + 1, 0, i, k, _, h => by rw [grp, grp, if_pos (by omega)]
  | f + 1, g + 1, i, k, hf, hg => by
    rw [grp, grp]
    by_cases h : n ≤ i
    · rw [if_pos h, if_pos h]
    · have := nx_bd d n i (by omega)
      rw [if_neg h, if_neg h, grp_fuel d n f g (nx d n i) (k + dl (d i)) (by omega) (by omega)]

def G (d : Nat → Int) (n i : Nat) (k : Int) : Nat := grp d n (n - i) i k

theorem G_ge {d : Nat → Int} {n i : Nat} {k : Int} (h : n ≤ i) : G d n i k = n := by
  unfold G; rw [show n - i = 0 by omega]; rfl

theorem G_step {d : Nat → Int} {n i : Nat} {k : Int} (h : i < n) : G d n i k = if k + dl (d i) = 0 then nx d n i else G d n (nx d n i) (k + dl (d i)) := by
  unfold G
  obtain ⟨m, hm⟩ : ∃ m, n - i = m + 1 := ⟨n - i - 1, by omega⟩
  have := nx_bd d n i h
  rw [hm, grp, if_neg (by omega), grp_fuel d n m (n - nx d n i) (nx d n i) _ (by omega) (by omega)]

theorem G_bd (d : Nat → Int) (n i : Nat) (k : Int) (hi : i ≤ n) : i ≤ G d n i k ∧ G d n i k ≤ n ∧ (i < n → i < G d n i k) := by
  generalize hm : n - i = m
  induction m using Nat.strongRecOn generalizing i k with
  | ind m ih =>
    by_cases h : n ≤ i
    · rw [G_ge h]; omega
    · have hn := nx_bd d n i (by omega)
      rw [G_step (by omega)]
      split
      · omega
      · have := ih _ (by omega) (nx d n i) (k + dl (d i)) (by omega) rfl; omega

theorem G_q {d : Nat → Int} {n i : Nat} {k : Int} (h : i < n) (hd : d i = 34) (hk : k ≠ 0) : G d n i k = G d n (F d n (i + 1)) k := by
  rw [G_step h, hd, show dl 34 = 0 from rfl, Int.add_zero, if_neg hk, nx, if_pos hd]
theorem G_open {d : Nat → Int} {n i : Nat} {k : Int} (h : i < n) (hd : d i = 123 ∨ d i = 91) (hk : k + 1 ≠ 0) : G d n i k = G d n (i + 1) (k + 1) := by
  have h1 : dl (d i) = 1 := by rw [dl, if_pos hd]
  rw [G_step h, h1, if_neg hk, nx, if_neg (by omega)]
theorem G_last {d : Nat → Int} {n i : Nat} {k : Int} (h : i < n) (hd : d i = 125 ∨ d i = 93) (hk : k = 1) : G d n i k = i + 1 := by
  have h1 : dl (d i) = -1 := by rw [dl, if_neg (by omega), if_pos hd]
  rw [G_step h, h1, if_pos (by omega), nx, if_neg (by omega)]
theorem G_close {d : Nat → Int} {n i : Nat} {k : Int} (h : i < n) (hd : d i = 125 ∨ d i = 93) (hk : k ≠ 1) : G d n i k = G d n (i + 1) (k - 1) := by
  have h1 : dl (d i) = -1 := by rw [dl, if_neg (by omega), if_pos hd]
  rw [G_step h, h1, if_neg (by omega), nx, if_neg (by omega)]; rfl
theorem G_other {d : Nat → Int} {n i : Nat} {k : Int} (h : i < n) (h0 : d i ≠ 34) (h1 : ¬ (d i = 123 ∨ d i = 91)) (h2 : ¬ (d i = 125 ∨ d i = 93)) (hk : k ≠ 0) : G d n i k = G d n (i + 1) k := by
  have h3 : dl (d i) = 0 := by rw [dl, if_neg h1, if_neg h2]
  rw [G_step h, h3, Int.add_zero, if_neg hk, nx, if_neg h0]

/-! The end of a value that begins at s. -/
def delim (c : Int) : Bool := c == 44 || c == 58 || c == 93 || c == 125 || c == 32 || c == 9 || c == 10 || c == 13

def vEnd (d : Nat → Int) (n s : Nat) : Nat :=
  if n ≤ s then n else if d s = 34 then F d n (s + 1) else if d s = 123 ∨ d s = 91 then G d n s 0 else fst delim d n s

theorem vEnd_bd (d : Nat → Int) (n s : Nat) (hs : s ≤ n) : s ≤ vEnd d n s ∧ vEnd d n s ≤ n := by
  unfold vEnd
  split
  · omega
  · split
    · have := F_bd d n (s + 1) (by omega); omega
    · split
      · have := G_bd d n s 0 hs; omega
      · have := fst_prop delim d n s hs; omega

/-! What lies ahead of the value does not matter. -/
theorem F_shift (d : Nat → Int) (a m k : Nat) : F (fun j => d (a + j)) m k + a = F d (a + m) (a + k) := by
  generalize hx : m - k = x
  induction x using Nat.strongRecOn generalizing k with
  | ind x ih =>
    by_cases h : m ≤ k
    · rw [F_ge h, F_ge (by omega)]; omega
    · rw [F_unfold (d := d) (n := a + m) (i := a + k) (by omega), F_unfold (d := fun j => d (a + j)) (n := m) (i := k) (by omega)]
      by_cases h1 : d (a + k) = 92
      · rw [if_pos h1, if_pos h1]; exact ih _ (by omega) (k + 2) rfl
      · rw [if_neg h1, if_neg h1]
        by_cases h2 : d (a + k) = 34
        · rw [if_pos h2, if_pos h2]; omega
        · rw [if_neg h2, if_neg h2]; exact ih _ (by omega) (k + 1) rfl

theorem nx_shift (d : Nat → Int) (a m k : Nat) : nx (fun j => d (a + j)) m k + a = nx d (a + m) (a + k) := by
  unfold nx
  by_cases h : d (a + k) = 34
  · rw [if_pos h, if_pos h]; exact F_shift d a m (k + 1)
  · rw [if_neg h, if_neg h]; omega

theorem G_shift (d : Nat → Int) (a m k : Nat) (t : Int) : G (fun j => d (a + j)) m k t + a = G d (a + m) (a + k) t := by
  generalize hx : m - k = x
  induction x using Nat.strongRecOn generalizing k t with
  | ind x ih =>
    by_cases h : m ≤ k
    · rw [G_ge h, G_ge (by omega)]; omega
    · have hn := nx_shift d a m k
      have hb := nx_bd (fun j => d (a + j)) m k (by omega)
      rw [G_step (d := d) (n := a + m) (i := a + k) (by omega), G_step (d := fun j => d (a + j)) (n := m) (i := k) (by omega)]
      by_cases h1 : t + dl (d (a + k)) = 0
      · rw [if_pos h1, if_pos h1]; exact hn
      · rw [if_neg h1, if_neg h1, ← hn, ih _ (by omega) (nx (fun j => d (a + j)) m k) _ rfl, Nat.add_comm a (nx (fun j => d (a + j)) m k)]

theorem fst_shift (p : Int → Bool) (d : Nat → Int) (a m k : Nat) (hk : k ≤ m) : fst p (fun j => d (a + j)) m k + a = fst p d (a + m) (a + k) := by
  obtain ⟨h1, h2, h3, h4⟩ := fst_prop p (fun j => d (a + j)) m k hk
  refine (fst_eq (by omega) (by omega) (fun j g1 g2 => ?_) (fun g => ?_)).symm
  · have := h3 (j - a) (by omega) (by omega)
    rwa [show a + (j - a) = j by omega] at this
  · have := h4 (by omega)
    rwa [Nat.add_comm a] at this

theorem vEnd_shift (d : Nat → Int) (a m : Nat) : vEnd (fun j => d (a + j)) m 0 + a = vEnd d (a + m) a := by
  unfold vEnd
  by_cases h : m = 0
  · rw [if_pos (show m ≤ 0 by omega), if_pos (show a + m ≤ a by omega)]; omega
  · rw [if_neg (show ¬ m ≤ 0 by omega), if_neg (show ¬ a + m ≤ a by omega)]
    simp only [Nat.add_zero]
    by_cases h1 : d a = 34
    · rw [if_pos h1, if_pos h1]; exact F_shift d a m 1
    · rw [if_neg h1, if_neg h1]
      by_cases h2 : d a = 123 ∨ d a = 91
      · rw [if_pos h2, if_pos h2]; exact G_shift d a m 0 0
      · rw [if_neg h2, if_neg h2]; exact fst_shift delim d a m 0 (by omega)

/-! What lies behind the value does not matter. -/
theorem F_cut (d : Nat → Int) (n m i : Nat) (hi : i ≤ n) (h1 : F d n i ≤ m) (h2 : m ≤ n) : F d m i = F d n i := by
  generalize hx : n - i = x
  induction x using Nat.strongRecOn generalizing i with
  | ind x ih =>
    by_cases hmn : m = n
    · rw [hmn]
    · have hin : i < n := by
        rcases Nat.lt_or_ge i n with h | h
        · exact h
        · rw [F_ge h] at h1; omega
      have hgt := F_gt d n i hin
      rw [F_unfold hin] at h1 ⊢
      rw [F_unfold (show i < m by rw [F_unfold hin] at hgt; omega)]
      by_cases h92 : d i = 92
      · rw [if_pos h92] at h1 ⊢
        rw [if_pos h92]
        by_cases hb : i + 2 ≤ n
        · exact ih _ (by omega) (i + 2) hb h1 rfl
        · rw [F_ge (show n ≤ i + 2 by omega)] at h1; omega
      · rw [if_neg h92] at h1 ⊢
        rw [if_neg h92]
        by_cases h34 : d i = 34
        · rw [if_pos h34, if_pos h34]
        · rw [if_neg h34] at h1 ⊢
          rw [if_neg h34]
          exact ih _ (by omega) (i + 1) (by omega) h1 rfl

theorem G_cut (d : Nat → Int) (n m i : Nat) (t : Int) (hi : i ≤ n) (h1 : G d n i t ≤ m) (h2 : m ≤ n) : G d m i t = G d n i t := by
  generalize hx : n - i = x
  induction x using Nat.strongRecOn generalizing i t with
  | ind x ih =>
    by_cases hmn : m = n
    · rw [hmn]
    · have hin : i < n := by
        rcases Nat.lt_or_ge i n with h | h
        · exact h
        · rw [G_ge h] at h1; omega
      have hgt := (G_bd d n i t hi).2.2 hin
      have hnx := nx_bd d n i hin
      have hle : nx d n i ≤ m := by
        rw [G_step hin] at h1
        by_cases h0 : t + dl (d i) = 0
        · rw [if_pos h0] at h1; exact h1
        · rw [if_neg h0] at h1
          have := G_bd d n (nx d n i) (t + dl (d i)) hnx.2
          omega
      have hnm : nx d m i = nx d n i := by
        unfold nx at hle ⊢
        by_cases h34 : d i = 34
        · rw [if_pos h34] at hle
          rw [if_pos h34, if_pos h34, F_cut d n m (i + 1) (by omega) hle h2]
        · rw [if_neg h34, if_neg h34]
      rw [G_step hin] at h1 ⊢
      rw [G_step (show i < m by omega), hnm]
      by_cases h0 : t + dl (d i) = 0
      · rw [if_pos h0, if_pos h0]
      · rw [if_neg h0] at h1 ⊢
        rw [if_neg h0]
        exact ih _ (by omega) (nx d n i) _ hnx.2 h1 rfl

theorem fst_cut (p : Int → Bool) (d : Nat → Int) (n m i : Nat) (hi : i ≤ n) (h1 : fst p d n i ≤ m) (h2 : m ≤ n) : fst p d m i = fst p d n i := by
  obtain ⟨g1, g2, g3, g4⟩ := fst_prop p d n i hi
  exact fst_eq h1 g1 g3 (fun h => g4 (by omega))

/-- The value cut out alone ends at its own end. -/
theorem vEnd_cut (d : Nat → Int) (n s : Nat) (hs : s < n) : vEnd d (vEnd d n s) s = vEnd d n s := by
  have hb := vEnd_bd d n s (by omega)
  generalize hm : vEnd d n s = m at *
  unfold vEnd at hm ⊢
  rw [if_neg (by omega)] at hm
  by_cases h : m ≤ s
  · rw [if_pos h]
  · rw [if_neg h]
    by_cases h1 : d s = 34
    · rw [if_pos h1] at hm ⊢
      rw [F_cut d n m (s + 1) (by omega) (by omega) (by omega)]; exact hm
    · rw [if_neg h1] at hm ⊢
      by_cases h2 : d s = 123 ∨ d s = 91
      · rw [if_pos h2] at hm ⊢
        rw [G_cut d n m s 0 (by omega) (by omega) (by omega)]; exact hm
      · rw [if_neg h2] at hm ⊢
        rw [fst_cut delim d n m s (by omega) (by omega) (by omega)]; exact hm

/-- A string that ends ahead of the data's end ends behind a quote. -/
theorem F_quote (d : Nat → Int) (n i : Nat) (h : F d n i < n) : i < F d n i ∧ d (F d n i - 1) = 34 := by
  generalize hx : n - i = x
  induction x using Nat.strongRecOn generalizing i with
  | ind x ih =>
    by_cases hi : n ≤ i
    · rw [F_ge hi] at h; omega
    · rw [F_unfold (by omega)] at h ⊢
      by_cases h1 : d i = 92
      · rw [if_pos h1] at h ⊢
        have := ih _ (by omega) (i + 2) h rfl
        exact ⟨by omega, this.2⟩
      · rw [if_neg h1] at h ⊢
        by_cases h2 : d i = 34
        · rw [if_pos h2]; exact ⟨by omega, h2⟩
        · rw [if_neg h2] at h ⊢
          have := ih _ (by omega) (i + 1) h rfl
          exact ⟨by omega, this.2⟩

end Go.Proofs.Qxb6000523a.Pl
