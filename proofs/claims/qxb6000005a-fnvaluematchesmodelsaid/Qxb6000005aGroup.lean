import Derived.Test.Qxb6000005aNext
import Derived.Deep.RegionWith
import Derived.Deep.DeepCutAuto
namespace Go.Proofs.Qxb6000005a
open Go.RowKit


set_option maxRecDepth 100000 in
set_option maxHeartbeats 2000000 in
theorem value_grp (bw b o n c p S : Nat) (c0 : Int) (ao : Option Addr) (d : Nat → Int) (w0 w : World) (hn : n ≤ 1048576) (hcap : n ≤ c) (hcm : c ≤ 1048576) (hp : p ≤ n) (hbb : b < bw) (hao : ao = some ⟨b, o, none⟩) (hby : ∀ i, i < n → 0 ≤ d i ∧ d i < 256) (hw : WS bw b o n c ao d w0 w p)
    (hS : Pl.fst Pl.solid d n p = S) (hSn : S < n) (hl : d S = c0) (hop : c0 = 123 ∨ c0 = 91) :
    Calls Try.prog 23 #[.pointer (some ⟨bw, 0, none⟩)] w fun e w' => ∃ a cp, e = .returned (.slice a (Pl.G d n S 0 - S) cp) ∧ (0 < Pl.G d n S 0 - S → a = some ⟨b, o + S, none⟩) ∧ WS bw b o n c ao d w0 w' (Pl.G d n S 0) := by
  have hby' : Hid (∀ i, i < n → 0 ≤ d i ∧ d i < 256) := hby
  have HS : Hid (Pl.fst Pl.solid d n p = S) := hS
  have HL : Hid (d S = c0) := hl
  have HO : Hid (d S = 123 ∨ d S = 91) := by rw [hl]; exact hop
  have h34 : (c0 == 34) = false := by rcases hop with rfl | rfl <;> rfl
  clear hl hS hby
  subst hao
  have hnx : Calls Try.prog 12 #[.pointer (some ⟨bw, 0, none⟩)] w fun e w' => e = .returned (.int .u8 c0) ∧ WS bw b o n c (some ⟨b, o, none⟩) d w0 w' S := by
    have := next_any bw b o n c p _ d w0 w hn hp hbb (fun _ => rfl) hw
    rw [HS.out, look, if_pos hSn, HL.out] at this
    exact this
  have hst : ∀ (k : Nat) (wx : World), k < n → d k = 34 → (∀ i, i < n → wx.cell? ⟨b, o + i, none⟩ = some (.int .u8 (d i))) → Calls Try.prog 25 #[.slice (some ⟨b, o, none⟩) n c, .int .i64 k] wx fun e w' => e = .returned (.int .i64 (Pl.F d n (k + 1))) ∧ w' = wx := fun k wx h1 h2 h => stringEnd_any b o n c k d wx hn hcap hcm h1 h2 hby'.out h
  have Hst := (show Hid _ from hst)
  clear hst
  rcases hop with rfl | rfl
  all_goals
    go_enter Try.func23, Try.ntmps23
    go_wp2_with fail
    refine hnx.mono ?_
    rintro e w1 ⟨rfl, hws⟩
    have hdata := hws.data
    have hpos := hws.pos
    have hfz := hws.fz
    go_wp2
    go_loopg [5] (n - S) (fun g dp wr => ∃ (k : Nat) (t : Int), S ≤ k ∧ k ≤ n ∧ g = n - k ∧ dp = .int .i64 t ∧ WS bw b o n c (some ⟨b, o, none⟩) d w0 wr k ∧ ((k = S ∧ t = 0) ∨ (1 ≤ t ∧ t ≤ k)) ∧ Hid (Pl.G d n k t = Pl.G d n S 0))
    case atStart => exact ⟨S, 0, Nat.le_refl _, by omega, rfl, rfl, hws, .inl ⟨rfl, rfl⟩, rfl⟩
    case round =>
      obtain ⟨k, t, hk1, hk2, rfl, rfl, hwr, ht, HF⟩ := hrel
      have Ht := (show Hid _ from ht)
      clear ht
      have hdata := hwr.data
      have hpos := hwr.pos
      have hfz := hwr.fz
      by_cases hkn : k < n
      · have hck := hwr.row k hkn
        by_cases hq : d k = 34
        · have ht : 1 ≤ t ∧ t ≤ k := by
            rcases Ht.out with ⟨rfl, _⟩ | h
            · rcases HO.out with h | h <;> rw [h] at hq <;> exact absurd hq (by decide)
            · exact h
          obtain ⟨ht1, ht2⟩ := ht
          have HG : Hid (Pl.G d n k t = Pl.G d n (Pl.F d n (k + 1)) t) := Pl.G_q hkn hq (by omega)
          have HC := fun wx h => Hst.out k wx hkn hq h
          obtain ⟨hF1, hF2⟩ := Pl.F_bd d n (k + 1) (by omega)
          obtain ⟨E, HE⟩ : ∃ E, Hid (Pl.F d n (k + 1) = E) := ⟨_, rfl⟩
          rw [HE.out] at HG hF1 hF2
          simp only [HE.out] at HC
          have HC' := (show Hid _ from HC)
          clear HC
          rw [hq] at hck
          clear hq
          have ht0 : (t == 0) = false := by simp; omega
          go_wp2
          go_quiet (fail)
          go_wp2
          go_quiet (fail)
          go_wp2
          go_region_with (go_at_call 25; refine (HC'.out _ ?_).mono ?_; exact hwr.row; rintro e w' ⟨rfl, rfl⟩)
          all_goals
            go_wp2
            go_roundg (n - E)
            case measure => omega
            case rel =>
              exact ⟨E, t, by omega, hF2, rfl, rfl, ((hwr.drewN _).move hbb (E - 1) (by go_num)).move hbb E rfl, .inr ⟨ht1, by omega⟩, (HG.out.symm.trans HF.out)⟩
        · have hq' : (d k == 34) = false := by simpa using hq
          by_cases hop : d k = 123 ∨ d k = 91
          · have HG : Hid (Pl.G d n k t = Pl.G d n (k + 1) (t + 1)) := Pl.G_open hkn hop (by rcases Ht.out with ⟨_, h⟩ | h <;> omega)
            have htb : 0 ≤ t ∧ t ≤ k := by rcases Ht.out with ⟨_, h⟩ | h <;> omega
            obtain ⟨ht1, ht2⟩ := htb
            have ht0 : (t + 1 == 0) = false := by simp; omega
            clear hq
            rcases hop with hop | hop
            all_goals
              rw [hop] at hck
              clear hop hq'
              go_wp2
              go_quiet (fail)
              go_wp2
              go_quiet (fail)
              go_wp2
              go_roundg (n - (k + 1))
              case measure => omega
              case rel =>
                exact ⟨k + 1, t + 1, by omega, hkn, rfl, rfl, (hwr.drewN _).move hbb (k + 1) (by go_num), .inr ⟨by omega, by omega⟩, (HG.out.symm.trans HF.out)⟩
          · have ht : 1 ≤ t ∧ t ≤ k := by
              rcases Ht.out with ⟨rfl, _⟩ | h
              · exact absurd HO.out hop
              · exact h
            obtain ⟨ht1, ht2⟩ := ht
            by_cases hcl : d k = 125 ∨ d k = 93
            · by_cases ht0 : t = 1
              · have HG : Hid (Pl.G d n k t = k + 1) := Pl.G_last hkn hcl ht0
                subst ht0
                clear hq hop
                rcases hcl with hcl | hcl
                all_goals
                  rw [hcl] at hck
                  clear hcl hq'
                  go_wp2
                  go_quiet (fail)
                  go_wp2
                  go_quiet (fail)
                  go_wp2
                  go_quiet (fail)
                  go_wp2
                  go_ret
                  rw [← HF.out, HG.out]
                  exact ⟨_, _, rfl, fun _ => rfl, ((hwr.drewN _).move hbb (k + 1) (by go_num)).drewN _⟩
              · have HG : Hid (Pl.G d n k t = Pl.G d n (k + 1) (t - 1)) := Pl.G_close hkn hcl ht0
                have ht0' : (t - 1 == 0) = false := by simp; omega
                clear hq hop
                rcases hcl with hcl | hcl
                all_goals
                  rw [hcl] at hck
                  clear hcl hq'
                  go_wp2
                  go_quiet (fail)
                  go_wp2
                  go_quiet (fail)
                  go_wp2
                  go_roundg (n - (k + 1))
                  case measure => omega
                  case rel =>
                    exact ⟨k + 1, t - 1, by omega, hkn, rfl, rfl, (hwr.drewN _).move hbb (k + 1) (by go_num), .inr ⟨by omega, by omega⟩, (HG.out.symm.trans HF.out)⟩
            · have HG : Hid (Pl.G d n k t = Pl.G d n (k + 1) t) := Pl.G_other hkn hq hop hcl (by omega)
              have ht0 : (t == 0) = false := by simp; omega
              have h1 : (d k == 123) = false := by simp; omega
              have h2 : (d k == 91) = false := by simp; omega
              have h3 : (d k == 125) = false := by simp; omega
              have h4 : (d k == 93) = false := by simp; omega
              clear hq hop hcl
              go_wp2
              go_quiet (fail)
              go_wp2
              go_quiet (fail)
              go_wp2
              go_roundg (n - (k + 1))
              case measure => omega
              case rel =>
                exact ⟨k + 1, t, by omega, hkn, rfl, rfl, (hwr.drewN _).move hbb (k + 1) (by go_num), .inr ⟨by omega, by omega⟩, (HG.out.symm.trans HF.out)⟩
      · have hd : decide ((k : Int) < n) = false := by simpa using hkn
        have HG : Hid (Pl.G d n k t = n) := Pl.G_ge (by omega)
        obtain rfl : k = n := by omega
        go_wp2
        go_quiet (fail)
        go_wp2
        go_quiet (fail)
        go_wp2
        go_ret
        rw [← HF.out, HG.out]
        exact ⟨_, _, rfl, fun _ => rfl, (hwr.drewN _).drewN _⟩
end Go.Proofs.Qxb6000005a
