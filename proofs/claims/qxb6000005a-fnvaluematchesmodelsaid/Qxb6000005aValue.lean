import Derived.Test.Qxb6000005aNext
import Derived.Deep.RegionWith
import Derived.Deep.DeepCutAuto
namespace Go.Proofs.Qxb6000005a
open Go.RowKit

set_option maxHeartbeats 1000000 in
theorem value_str (bw b o n c p S : Nat) (ao : Option Addr) (d : Nat → Int) (w0 w : World) (hn : n ≤ 1048576) (hcap : n ≤ c) (hcm : c ≤ 1048576) (hp : p ≤ n) (hbb : b < bw) (hao : ao = some ⟨b, o, none⟩) (hby : ∀ i, i < n → 0 ≤ d i ∧ d i < 256) (hw : WS bw b o n c ao d w0 w p)
    (hS : Pl.fst Pl.solid d n p = S) (hSn : S < n) (hd : d S = 34) :
    Calls Try.prog 23 #[.pointer (some ⟨bw, 0, none⟩)] w fun e w' => ∃ a cp, e = .returned (.slice a (Pl.F d n (S + 1) - S) cp) ∧ (0 < Pl.F d n (S + 1) - S → a = some ⟨b, o + S, none⟩) ∧ WS bw b o n c ao d w0 w' (Pl.F d n (S + 1)) := by
  subst hao
  have hby' : Hid (∀ i, i < n → 0 ≤ d i ∧ d i < 256) := hby
  have hl : look d n S = 34 := by rw [look, if_pos hSn, hd]
  have HS : Hid (Pl.fst Pl.solid d n p = S) := hS
  have Hd : Hid (d S = 34) := hd
  clear hd hS hby
  obtain ⟨hF1, hF2⟩ := Pl.F_bd d n (S + 1) (by omega)
  obtain ⟨E, HE⟩ : ∃ E, Hid (E = Pl.F d n (S + 1)) := ⟨_, rfl⟩
  rw [← HE.out] at hF1 hF2 ⊢
  have hnx : Calls Try.prog 12 #[.pointer (some ⟨bw, 0, none⟩)] w fun e w' => e = .returned (.int .u8 34) ∧ WS bw b o n c (some ⟨b, o, none⟩) d w0 w' S := by
    have := next_any bw b o n c p _ d w0 w hn hp hbb (fun _ => rfl) hw
    rw [HS.out, hl] at this
    exact this
  go_enter Try.func23, Try.ntmps23
  go_wp2_with fail
  refine hnx.mono ?_
  rintro e w1 ⟨rfl, hws⟩
  have hdata := hws.data
  have hpos := hws.pos
  have hfz := hws.fz
  have hst : ∀ wx : World, (∀ i, i < n → wx.cell? ⟨b, o + i, none⟩ = some (.int .u8 (d i))) → Calls Try.prog 25 #[.slice (some ⟨b, o, none⟩) n c, .int .i64 S] wx fun e w' => e = .returned (.int .i64 E) ∧ w' = wx := fun wx h => by rw [HE.out]; exact stringEnd_any b o n c S d wx hn hcap hcm hSn Hd.out hby'.out h
  have Hst := (show Hid _ from hst)
  clear hst hl
  go_wp2
  go_region_with (go_at_call 25; refine (Hst.out _ ?_).mono ?_; exact hws.row; rintro e w' ⟨rfl, rfl⟩)
  all_goals
    go_wp2
    go_quiet (fail)
    go_wp2
    go_ret
    exact ⟨_, _, rfl, fun _ => rfl, ((hws.move hbb E rfl).drew).drewN _⟩

set_option maxHeartbeats 1000000 in
theorem value_scalar (bw b o n c p S : Nat) (c0 : Int) (ao : Option Addr) (d : Nat → Int) (w0 w : World) (hn : n ≤ 1048576) (hcap : n ≤ c) (hcm : c ≤ 1048576) (hp : p ≤ n) (hbb : b < bw) (hao : ao = some ⟨b, o, none⟩) (hw : WS bw b o n c ao d w0 w p)
    (hS : Pl.fst Pl.solid d n p = S) (hSn : S ≤ n) (hl : look d n S = c0) (h34 : (c0 == 34) = false) (h123 : (c0 == 123) = false) (h91 : (c0 == 91) = false) :
    Calls Try.prog 23 #[.pointer (some ⟨bw, 0, none⟩)] w fun e w' => ∃ a cp, e = .returned (.slice a (Pl.fst Pl.delim d n S - S) cp) ∧ (0 < Pl.fst Pl.delim d n S - S → a = some ⟨b, o + S, none⟩) ∧ WS bw b o n c ao d w0 w' (Pl.fst Pl.delim d n S) := by
  have HS : Hid (Pl.fst Pl.solid d n p = S) := hS
  have HL : Hid (look d n S = c0) := hl
  clear hl hS
  subst hao
  have hnx : Calls Try.prog 12 #[.pointer (some ⟨bw, 0, none⟩)] w fun e w' => e = .returned (.int .u8 c0) ∧ WS bw b o n c (some ⟨b, o, none⟩) d w0 w' S := by
    have := next_any bw b o n c p _ d w0 w hn hp hbb (fun _ => rfl) hw
    rw [HS.out, HL.out] at this
    exact this
  go_enter Try.func23, Try.ntmps23
  go_wp2_with fail
  refine hnx.mono ?_
  rintro e w1 ⟨rfl, hws⟩
  have hdata := hws.data
  have hpos := hws.pos
  have hfz := hws.fz
  go_wp2
  go_loopg [] (n - S) (fun g wr => ∃ k : Nat, S ≤ k ∧ k ≤ n ∧ g = n - k ∧ WS bw b o n c (some ⟨b, o, none⟩) d w0 wr k ∧ Hid (∀ j, S ≤ j → j < k → Pl.delim (d j) = false))
  case atStart => exact ⟨S, Nat.le_refl _, hSn, rfl, hws, fun j h1 h2 => by omega⟩
  case round =>
    obtain ⟨k, hk1, hk2, rfl, hwr, HF⟩ := hrel
    have hdata := hwr.data
    have hpos := hwr.pos
    have hfz := hwr.fz
    by_cases hkn : k < n
    · have hck := hwr.row k hkn
      by_cases hb : Pl.delim (d k) = true
      · have HE : Hid (Pl.fst Pl.delim d n S = k) := Pl.fst_eq hk2 hk1 HF.out (fun _ => hb)
        go_wp2
        go_quiet ((go_at_call 27; exact Calls.quiet_of_same (isDelim_any _ _)))
        go_wp2
        go_quiet (fail)
        go_wp2
        go_ret
        rw [HE.out]
        exact ⟨_, _, rfl, fun _ => rfl, (hwr.drewN _).drewN _⟩
      · have hb' : Pl.delim (d k) = false := by simpa using hb
        clear hb
        go_wp2
        go_quiet ((go_at_call 27; exact Calls.quiet_of_same (isDelim_any _ _)))
        go_wp2
        go_roundg (n - (k + 1))
        case measure => omega
        case rel => exact ⟨k + 1, by omega, by omega, rfl, (hwr.drewN _).move hbb (k + 1) (by go_num), below_succ HF.out hb'⟩
    · have hd : decide ((k : Int) < n) = false := by simpa using hkn
      have HE : Hid (Pl.fst Pl.delim d n S = k) := Pl.fst_eq hk2 hk1 HF.out (fun h => by omega)
      by_cases hSc : S < c
      · go_wp2
        go_quiet ((go_at_call 27; exact Calls.quiet_of_same (isDelim_any _ _)))
        go_wp2
        go_quiet (fail)
        go_wp2
        go_ret
        rw [HE.out]
        exact ⟨_, _, rfl, fun _ => rfl, (hwr.drewN _).drewN _⟩
      · obtain rfl : S = c := by omega
        obtain rfl : k = S := by omega
        obtain rfl : n = k := by omega
        go_wp2
        go_quiet ((go_at_call 27; exact Calls.quiet_of_same (isDelim_any _ _)))
        go_wp2
        go_quiet (fail)
        go_wp2
        go_ret
        rw [HE.out, Nat.sub_self]
        exact ⟨_, _, rfl, fun h => by omega, (hwr.drewN _).drewN _⟩
end Go.Proofs.Qxb6000005a
