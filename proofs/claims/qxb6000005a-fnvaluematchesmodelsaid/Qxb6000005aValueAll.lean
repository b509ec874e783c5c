/-
  Walker.Value, whole: every row of bytes, nil too.
-/
import Derived.Test.Qxb6000005aValue
import Derived.Test.Qxb6000005aGroup
namespace Go.Proofs.Qxb6000005a
open Go.RowKit

set_option maxHeartbeats 1000000 in
theorem next_nil (bw b o : Nat) (d : Nat → Int) (w0 w : World) (hws : WS bw b o 0 0 none d w0 w 0) :
    Calls Try.prog 12 #[.pointer (some ⟨bw, 0, none⟩)] w fun e w' => e = .returned (.int .u8 0) ∧ WS bw b o 0 0 none d w0 w' 0 := by
  have hdata := hws.data
  have hpos := hws.pos
  have hfz := hws.fz
  go_enter Try.func12, Try.ntmps12
  go_wp2
  refine wp_loop_rounds 1 ?_
  rw [rounds_succ]
  go_wp2
  go_quiet (fail)
  go_wp2
  go_ret
  exact ⟨rfl, hws.drewN _⟩

set_option maxHeartbeats 1000000 in
theorem value_nil (bw b o : Nat) (d : Nat → Int) (w0 w : World) (hw : WS bw b o 0 0 none d w0 w 0) :
    Calls Try.prog 23 #[.pointer (some ⟨bw, 0, none⟩)] w fun e w' => e = .returned (.slice none 0 0) ∧ WS bw b o 0 0 none d w0 w' 0 := by
  have hnx : Calls Try.prog 12 #[.pointer (some ⟨bw, 0, none⟩)] w fun e w' => e = .returned (.int .u8 0) ∧ WS bw b o 0 0 none d w0 w' 0 :=
    next_nil bw b o d w0 w hw
  go_enter Try.func23, Try.ntmps23
  go_wp2_with fail
  refine hnx.mono ?_
  rintro e w1 ⟨rfl, hws⟩
  have hdata := hws.data
  have hpos := hws.pos
  have hfz := hws.fz
  go_wp2
  refine wp_loop_rounds 1 ?_
  rw [rounds_succ]
  go_wp2
  go_quiet ((go_at_call 27; exact Calls.quiet_of_same (isDelim_any _ _)))
  go_wp2
  go_quiet (fail)
  go_wp2
  go_ret
  exact ⟨rfl, (hws.drewN _).drewN _⟩

/-- What Value gives: a cut of L bytes from S on; the walker stands at E. -/
theorem value_any (bw b o n c p S E : Nat) (d : Nat → Int) (w0 w : World) (hn : n ≤ 1048576) (hcap : n ≤ c) (hcm : c ≤ 1048576) (hp : p ≤ n) (hbb : b < bw) (hby : ∀ i, i < n → 0 ≤ d i ∧ d i < 256) (hw : WS bw b o n c (some ⟨b, o, none⟩) d w0 w p)
    (hS : S = Pl.fst Pl.solid d n p) (hE : E = Pl.vEnd d n S) :
    Calls Try.prog 23 #[.pointer (some ⟨bw, 0, none⟩)] w fun e w' => ∃ a cp L, e = .returned (.slice a L cp) ∧ L = E - S ∧ (0 < L → a = some ⟨b, o + S, none⟩) ∧ WS bw b o n c (some ⟨b, o, none⟩) d w0 w' E := by
  have hS' := hS.symm
  have hprop := Pl.fst_prop Pl.solid d n p hp
  rw [← hS] at hprop
  obtain ⟨h1, h2, h3, h4⟩ := hprop
  have fin : ∀ E', E = E' → (Calls Try.prog 23 #[.pointer (some ⟨bw, 0, none⟩)] w fun e w' => ∃ a cp, e = .returned (.slice a (E' - S) cp) ∧ (0 < E' - S → a = some ⟨b, o + S, none⟩) ∧ WS bw b o n c (some ⟨b, o, none⟩) d w0 w' E') →
      Calls Try.prog 23 #[.pointer (some ⟨bw, 0, none⟩)] w fun e w' => ∃ a cp L, e = .returned (.slice a L cp) ∧ L = E - S ∧ (0 < L → a = some ⟨b, o + S, none⟩) ∧ WS bw b o n c (some ⟨b, o, none⟩) d w0 w' E := by
    intro E' hE' h
    subst hE'
    refine h.mono ?_
    rintro e w' ⟨a, cp, h1, h2, h3⟩
    exact ⟨a, cp, _, h1, rfl, h2, h3⟩
  unfold Pl.vEnd at hE
  by_cases hSn : n ≤ S
  · rw [if_pos hSn] at hE
    obtain rfl : S = n := by omega
    have hf : Pl.fst Pl.delim d S S = S := Pl.fst_eq (Nat.le_refl _) (Nat.le_refl _) (fun j a b => by omega) (fun h => by omega)
    exact fin _ (by rw [hE, hf]) (value_scalar bw b o S c p S 0 _ d w0 w hn hcap hcm hp hbb rfl hw hS' (Nat.le_refl _) (by rw [look, if_neg (by omega)]) rfl rfl rfl)
  · rw [if_neg hSn] at hE
    have hSn' : S < n := by omega
    by_cases h34 : d S = 34
    · rw [if_pos h34] at hE
      exact fin _ hE (value_str bw b o n c p S _ d w0 w hn hcap hcm hp hbb rfl hby hw hS' hSn' h34)
    · rw [if_neg h34] at hE
      by_cases hop : d S = 123 ∨ d S = 91
      · rw [if_pos hop] at hE
        exact fin _ hE (value_grp bw b o n c p S (d S) _ d w0 w hn hcap hcm hp hbb rfl hby hw hS' hSn' rfl hop)
      · rw [if_neg hop] at hE
        exact fin _ hE (value_scalar bw b o n c p S (d S) _ d w0 w hn hcap hcm hp hbb rfl hw hS' h2 (by rw [look, if_pos hSn']) (by simpa using h34) (by simp; omega) (by simp; omega))

end Go.Proofs.Qxb6000005a
