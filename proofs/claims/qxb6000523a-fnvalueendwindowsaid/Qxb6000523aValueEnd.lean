/-
  THE WALK of valueEnd (26) and its shim (16).
-/
import Derived.Test.Qxb6000523aRead
import Derived.Deep.LoopGhost
namespace Go.Proofs.Qxb6000523a
open Go.RowKit

theorem below_more {q : Nat → Prop} {p k : Nat} (h : ∀ j, p ≤ j → j < k → q j) (hk : q k) : ∀ j, p ≤ j → j < k + 1 → q j := by
  intro j h1 h2
  rcases Nat.lt_or_ge j k with h3 | h3
  · exact h j h1 h3
  · rw [show j = k by omega]; exact hk

set_option maxHeartbeats 400000 in
theorem ve_end (b o n c s : Nat) (w : World) (hs : n ≤ s) :
    Calls Try.prog 26 #[.slice (some ⟨b, o, none⟩) n c, .int .i64 s] w fun e w' => e = .returned (.int .i64 n) ∧ w' = w := by
  go_enter Try.func26, Try.ntmps26
  go_wp2
  go_ret
  exact ⟨rfl, rfl⟩

set_option maxHeartbeats 1000000 in
theorem ve_str (b o n c s : Nat) (d : Nat → Int) (w : World) (hn : n ≤ 1048576) (hcap : n ≤ c) (hcm : c ≤ 1048576) (hs : s < n) (hq : d s = 34) (hby : ∀ i, i < n → 0 ≤ d i ∧ d i < 256) (hc : ∀ i, i < n → w.cell? ⟨b, o + i, none⟩ = some (.int .u8 (d i))) :
    Calls Try.prog 26 #[.slice (some ⟨b, o, none⟩) n c, .int .i64 s] w fun e w' => e = .returned (.int .i64 (Pl.F d n (s + 1))) ∧ w' = w := by
  have hcs := hc s hs
  rw [hq] at hcs
  have hd0 : decide (n ≤ s) = false := by simp; omega
  have hf := hid (stringEnd_any b o n c s d w hn hcap hcm hs hby hc)
  clear hc hq hby
  go_enter Try.func26, Try.ntmps26
  go_wp2_with (go_at_call 27; refine hf.out.mono ?_; rintro e w ⟨rfl, rfl⟩)
  go_ret
  exact ⟨rfl, rfl⟩

theorem not_delim {c : Int} (h : Pl.delim c = false) : (c == 44) = false ∧ (c == 58) = false ∧ (c == 93) = false ∧ (c == 125) = false ∧ (c == 32) = false ∧ (c == 9) = false ∧ (c == 10) = false ∧ (c == 13) = false := by
  unfold Pl.delim at h
  simp only [Bool.or_eq_false_iff] at h
  obtain ⟨⟨⟨⟨⟨⟨⟨h1, h2⟩, h3⟩, h4⟩, h5⟩, h6⟩, h7⟩, h8⟩ := h
  exact ⟨h1, h2, h3, h4, h5, h6, h7, h8⟩

theorem is_delim {c : Int} (h : Pl.delim c = true) : c = 44 ∨ c = 58 ∨ c = 93 ∨ c = 125 ∨ c = 32 ∨ c = 9 ∨ c = 10 ∨ c = 13 := by
  unfold Pl.delim at h
  simp only [Bool.or_eq_true, beq_iff_eq] at h
  omega

set_option maxHeartbeats 2000000 in
theorem ve_scalar (b o n c s : Nat) (d : Nat → Int) (w : World) (hn : n ≤ 1048576) (hs : s < n) (h1 : d s ≠ 34) (h2 : ¬ (d s = 123 ∨ d s = 91)) (hc : ∀ i, i < n → w.cell? ⟨b, o + i, none⟩ = some (.int .u8 (d i))) :
    Calls Try.prog 26 #[.slice (some ⟨b, o, none⟩) n c, .int .i64 s] w fun e w' => e = .returned (.int .i64 (Pl.fst Pl.delim d n s)) ∧ w' = w := by
  have hcs := hc s hs
  have hc' := hid hc
  have h1' : (d s == 34) = false := by simpa using h1
  have h2' : (d s == 123) = false := by simp; omega
  have h3' : (d s == 91) = false := by simp; omega
  have hd0 : decide (n ≤ s) = false := by simp; omega
  clear hc h1 h2
  go_enter Try.func26, Try.ntmps26
  go_wp2
  go_loopg [1] (n - s) (fun g i wr => ∃ k : Nat, s ≤ k ∧ k ≤ n ∧ g = n - k ∧ i = .int .i64 k ∧ wr = w ∧ Hid (∀ j, s ≤ j → j < k → Pl.delim (d j) = false))
  case atStart => exact ⟨s, Nat.le_refl _, by omega, rfl, rfl, rfl, fun j h1 h2 => by omega⟩
  case round =>
    obtain ⟨k, hk1, hk2, rfl, rfl, hw, HF⟩ := hrel
    subst hw
    by_cases hkn : k < n
    · have hck := hc'.out k hkn
      by_cases hb : Pl.delim (d k) = true
      · have HE := hid (Pl.fst_eq hk2 hk1 HF.out (fun _ => hb))
        rcases is_delim hb with h | h | h | h | h | h | h | h
        all_goals
          rw [h] at hck
          clear hb h
          go_wp2
          go_ret
          exact ⟨ret_int (by rw [HE.out]), rfl⟩
      · have hb' : Pl.delim (d k) = false := by simpa using hb
        obtain ⟨g1, g2, g3, g4, g5, g6, g7, g8⟩ := not_delim hb'
        have HN := hid hb'
        clear hb hb'
        go_wp2
        go_roundg (n - (k + 1))
        case measure => omega
        case rel => exact ⟨k + 1, by omega, by omega, rfl, by go_num, rfl, below_more HF.out HN.out⟩
    · have HE := hid (Pl.fst_eq (p := Pl.delim) (d := d) hk2 hk1 HF.out (fun h => by omega))
      go_wp2
      go_ret
      exact ⟨ret_int (by rw [HE.out]), rfl⟩

set_option maxRecDepth 100000 in
set_option maxHeartbeats 2000000 in
theorem ve_grp (b o n c s : Nat) (d : Nat → Int) (w : World) (hn : n ≤ 1048576) (hcap : n ≤ c) (hcm : c ≤ 1048576) (hs : s < n) (hop : d s = 123 ∨ d s = 91) (hby : ∀ i, i < n → 0 ≤ d i ∧ d i < 256) (hc : ∀ i, i < n → w.cell? ⟨b, o + i, none⟩ = some (.int .u8 (d i))) :
    Calls Try.prog 26 #[.slice (some ⟨b, o, none⟩) n c, .int .i64 s] w fun e w' => e = .returned (.int .i64 (Pl.G d n s 0)) ∧ w' = w := by
  have hcs := hc s hs
  have hc' := hid hc
  have HO := hid hop
  have hd0 : decide (n ≤ s) = false := by simp; omega
  have Hst : Hid (∀ k, k < n → Calls Try.prog 27 #[.slice (some ⟨b, o, none⟩) n c, .int .i64 k] w fun e w' => e = .returned (.int .i64 (Pl.F d n (k + 1))) ∧ w' = w) := fun k hk => stringEnd_any b o n c k d w hn hcap hcm hk hby hc
  clear hc hby
  rcases hop with hop | hop
  all_goals
    rw [hop] at hcs
    clear hop
    go_enter Try.func26, Try.ntmps26
    go_wp2
    go_loopg [1, 5] (n - s) (fun g i dp wr => ∃ (k : Nat) (t : Int), s ≤ k ∧ k ≤ n ∧ g = n - k ∧ i = .int .i64 k ∧ dp = .int .i64 t ∧ wr = w ∧ Hid ((k = s ∧ t = 0) ∨ (1 ≤ t ∧ t ≤ k)) ∧ Hid (Pl.G d n k t = Pl.G d n s 0))
    case atStart => exact ⟨s, 0, Nat.le_refl _, by omega, rfl, rfl, rfl, rfl, .inl ⟨rfl, rfl⟩, rfl⟩
    case round =>
      obtain ⟨k, t, hk1, hk2, rfl, rfl, rfl, hw, Ht, HF⟩ := hrel
      subst hw
      have htb : 0 ≤ t ∧ t ≤ k := by rcases Ht.out with ⟨_, h⟩ | h <;> omega
      obtain ⟨ht0, ht0'⟩ := htb
      by_cases hkn : k < n
      · have hck := hc'.out k hkn
        by_cases hq : d k = 34
        · have ht : 1 ≤ t ∧ t ≤ k := by
            rcases Ht.out with ⟨rfl, _⟩ | h
            · rcases HO.out with h | h <;> rw [h] at hq <;> exact absurd hq (by decide)
            · exact h
          obtain ⟨ht1, ht2⟩ := ht
          have HG : Hid (Pl.G d n k t = Pl.G d n (Pl.F d n (k + 1)) t) := Pl.G_q hkn hq (by omega)
          have hf := Hst.out k hkn
          have hbd := Pl.F_bd d n (k + 1) hkn
          obtain ⟨E, HE⟩ : ∃ E, Hid (Pl.F d n (k + 1) = E) := ⟨_, rfl⟩
          rw [HE.out] at HG hf hbd
          obtain ⟨hE1, hE2⟩ := hbd
          have Hf := hid hf
          rw [hq] at hck
          clear hf hq
          go_wp2_with (go_at_call 27; refine Hf.out.mono ?_; rintro e wr ⟨rfl, rfl⟩)
          go_roundg (n - E)
          case measure => omega
          case rel => exact ⟨E, t, by omega, hE2, rfl, rfl, rfl, rfl, .inr ⟨ht1, by omega⟩, HG.out.symm.trans HF.out⟩
        · have hq' : (d k == 34) = false := by simpa using hq
          by_cases hop : d k = 123 ∨ d k = 91
          · have HG : Hid (Pl.G d n k t = Pl.G d n (k + 1) (t + 1)) := Pl.G_open hkn hop (by omega)
            clear hq
            rcases hop with hop | hop
            all_goals
              rw [hop] at hck
              clear hop hq'
              go_wp2
              go_roundg (n - (k + 1))
              case measure => omega
              case rel => exact ⟨k + 1, t + 1, by omega, hkn, rfl, by go_num, rfl, rfl, .inr ⟨by omega, by omega⟩, HG.out.symm.trans HF.out⟩
          · have ht : 1 ≤ t ∧ t ≤ k := by
              rcases Ht.out with ⟨rfl, _⟩ | h
              · exact absurd HO.out hop
              · exact h
            obtain ⟨ht1, ht2⟩ := ht
            by_cases hcl : d k = 125 ∨ d k = 93
            · by_cases htt : t = 1
              · have HG : Hid (Pl.G d n k t = k + 1) := Pl.G_last hkn hcl htt
                subst htt
                clear hq hop
                rcases hcl with hcl | hcl
                all_goals
                  rw [hcl] at hck
                  clear hcl hq'
                  go_wp2
                  go_ret
                  exact ⟨ret_int (by rw [← HF.out, HG.out]; omega), rfl⟩
              · have HG : Hid (Pl.G d n k t = Pl.G d n (k + 1) (t - 1)) := Pl.G_close hkn hcl htt
                have ht0 : (t - 1 == 0) = false := by simp; omega
                clear hq hop
                rcases hcl with hcl | hcl
                all_goals
                  rw [hcl] at hck
                  clear hcl hq'
                  go_wp2
                  go_roundg (n - (k + 1))
                  case measure => omega
                  case rel => exact ⟨k + 1, t - 1, by omega, hkn, rfl, by go_num, rfl, rfl, .inr ⟨by omega, by omega⟩, HG.out.symm.trans HF.out⟩
            · have HG : Hid (Pl.G d n k t = Pl.G d n (k + 1) t) := Pl.G_other hkn hq hop hcl (by omega)
              have h1 : (d k == 123) = false := by simp; omega
              have h2 : (d k == 91) = false := by simp; omega
              have h3 : (d k == 125) = false := by simp; omega
              have h4 : (d k == 93) = false := by simp; omega
              clear hq hop hcl
              go_wp2
              go_roundg (n - (k + 1))
              case measure => omega
              case rel => exact ⟨k + 1, t, by omega, hkn, rfl, by go_num, rfl, rfl, .inr ⟨by omega, by omega⟩, HG.out.symm.trans HF.out⟩
      · have HG : Hid (Pl.G d n k t = n) := Pl.G_ge (by omega)
        go_wp2
        go_ret
        exact ⟨ret_int (by rw [← HF.out, HG.out]), rfl⟩

theorem ve_any (b o n c s : Nat) (d : Nat → Int) (w : World) (hn : n ≤ 1048576) (hcap : n ≤ c) (hcm : c ≤ 1048576) (hby : ∀ i, i < n → 0 ≤ d i ∧ d i < 256) (hc : ∀ i, i < n → w.cell? ⟨b, o + i, none⟩ = some (.int .u8 (d i))) :
    Calls Try.prog 26 #[.slice (some ⟨b, o, none⟩) n c, .int .i64 s] w fun e w' => e = .returned (.int .i64 (Pl.vEnd d n s)) ∧ w' = w := by
  unfold Pl.vEnd
  by_cases h : n ≤ s
  · rw [if_pos h]
    exact ve_end b o n c s w h
  · rw [if_neg h]
    by_cases h1 : d s = 34
    · rw [if_pos h1]
      exact ve_str b o n c s d w hn hcap hcm (by omega) h1 hby hc
    · rw [if_neg h1]
      by_cases h2 : d s = 123 ∨ d s = 91
      · rw [if_pos h2]
        exact ve_grp b o n c s d w hn hcap hcm (by omega) h2 hby hc
      · rw [if_neg h2]
        exact ve_scalar b o n c s d w hn (by omega) h1 h2 hc

set_option maxHeartbeats 400000 in
theorem zzValueEnd_any (b o n c s : Nat) (d : Nat → Int) (w : World) (hn : n ≤ 1048576) (hcap : n ≤ c) (hcm : c ≤ 1048576) (hby : ∀ i, i < n → 0 ≤ d i ∧ d i < 256) (hc : ∀ i, i < n → w.cell? ⟨b, o + i, none⟩ = some (.int .u8 (d i))) :
    Calls Try.prog 16 #[.slice (some ⟨b, o, none⟩) n c, .int .i64 s] w fun e w' => e = .returned (.int .i64 (Pl.vEnd d n s)) ∧ w' = w := by
  have H := hid (ve_any b o n c s d w hn hcap hcm hby hc)
  clear hby hc
  go_enter Try.func16, Try.ntmps16
  go_wp2_with (go_at_call 26; refine H.out.mono ?_; rintro e w ⟨rfl, rfl⟩)
  go_ret
  exact ⟨rfl, rfl⟩
end Go.Proofs.Qxb6000523a
