import Derived.Test.Qxb6000005aRead
import Derived.Deep.LoopGhost
import Derived.Deep.QuietTactic
import Derived.BigQuiet
namespace Go.Proofs.Qxb6000005a
open Go.RowKit

/-- The walker's block bw, made of data, place and a flag; below it all is as it was in w0; the data's bytes. -/
structure WS (bw b o n c : Nat) (ao : Option Addr) (d : Nat → Int) (w0 w : World) (p : Nat) : Prop where
  below : Below bw w0 w
  data : w.cell? ⟨bw, 0, none⟩ = some (.slice ao n c)
  pos : w.cell? ⟨bw, 1, none⟩ = some (.int .i64 p)
  fz : w.frozen? ⟨bw, 1, none⟩ = false
  row : ∀ i, i < n → w.cell? ⟨b, o + i, none⟩ = some (.int .u8 (d i))

theorem WS.drewN {bw b o n c : Nat} {ao : Option Addr} {d : Nat → Int} {w0 w : World} {p : Nat} (h : WS bw b o n c ao d w0 w p) (k : Nat) : WS bw b o n c ao d w0 (w.drewN k) p :=
  ⟨below_drewN h.below k, h.data, h.pos, h.fz, h.row⟩

theorem WS.drew {bw b o n c : Nat} {ao : Option Addr} {d : Nat → Int} {w0 w : World} {p : Nat} (h : WS bw b o n c ao d w0 w p) : WS bw b o n c ao d w0 w.drew p :=
  ⟨h.below.drew, h.data, h.pos, h.fz, h.row⟩

theorem WS.move {bw b o n c : Nat} {ao : Option Addr} {d : Nat → Int} {w0 w : World} {p : Nat} (hb : b < bw) (h : WS bw b o n c ao d w0 w p) (q : Nat) {v : Value} (hv : v = .int .i64 q) : WS bw b o n c ao d w0 (w.setCell ⟨bw, 1, none⟩ v) q := by
  subst hv
  refine ⟨h.below.setCell (Nat.le_refl _) _, ?_, ?_, ?_, fun i hi => ?_⟩
  · rw [World.cell?_setCell_other _ _ _ _ (by simp)]; exact h.data
  · rw [World.cell?_setCell_same _ _ _ h.pos]
  · rw [World.frozen?_setCell]; exact h.fz
  · rw [World.cell?_setCell_other _ _ _ _ (by intro e; injection e; omega)]; exact h.row i hi

/-- The byte at p; 0 at the end. -/
def look (d : Nat → Int) (n p : Nat) : Int := if p < n then d p else 0

theorem not_blank {c : Int} (h : Pl.blank c = false) : (c == 32) = false ∧ (c == 9) = false ∧ (c == 10) = false ∧ (c == 13) = false := by
  unfold Pl.blank at h
  simp only [Bool.or_eq_false_iff] at h
  exact ⟨h.1.1.1, h.1.1.2, h.1.2, h.2⟩

set_option maxHeartbeats 1000000 in
theorem next_any (bw b o n c p : Nat) (ao : Option Addr) (d : Nat → Int) (w0 w : World) (hn : n ≤ 1048576) (hp : p ≤ n) (hbb : b < bw) (hao : 0 < n → ao = some ⟨b, o, none⟩) (hw : WS bw b o n c ao d w0 w p) :
    Calls Try.prog 12 #[.pointer (some ⟨bw, 0, none⟩)] w fun e w' => e = .returned (.int .u8 (look d n (Pl.fst Pl.solid d n p))) ∧ WS bw b o n c ao d w0 w' (Pl.fst Pl.solid d n p) := by
  have hao' : Hid (0 < n → ao = some ⟨b, o, none⟩) := hao
  clear hao
  go_enter Try.func12, Try.ntmps12
  go_wp2
  go_loopg [3] (n - p) (fun g c' wr => ∃ k : Nat, p ≤ k ∧ k ≤ n ∧ g = n - k ∧ WS bw b o n c ao d w0 wr k ∧ Hid (∀ j, p ≤ j → j < k → Pl.solid (d j) = false))
  case atStart => exact ⟨p, Nat.le_refl _, hp, rfl, hw, fun j h1 h2 => by omega⟩
  case round =>
    obtain ⟨k, hk1, hk2, rfl, hws, HF⟩ := hrel
    have hdata := hws.data
    have hpos := hws.pos
    have hfz := hws.fz
    by_cases hkn : k < n
    · obtain rfl := hao'.out (by omega)
      have hck := hws.row k hkn
      by_cases hb : Pl.blank (d k) = true
      · have Hb : Hid (Pl.blank (d k) = true) := hb
        clear hb
        go_wp2
        go_quiet (fail)
        go_wp2
        go_quiet (fail)
        go_wp2
        iterate 4
          go_roundg (n - (k + 1))
          case measure => omega
          case rel => exact ⟨k + 1, by omega, by omega, rfl, (hws.drewN _).move hbb (k + 1) (by go_num), below_succ HF.out (by simp [Pl.solid, Hb.out])⟩
        have hb := Hb.out
        simp [Pl.blank, *] at hb
      · have hb' : Pl.blank (d k) = false := by simpa using hb
        obtain ⟨h1, h2, h3, h4⟩ := not_blank hb'
        have HE : Hid (Pl.fst Pl.solid d n p = k) := Pl.fst_eq hk2 hk1 HF.out (fun _ => by simp [Pl.solid, hb'])
        clear hb
        go_wp2
        go_quiet (fail)
        go_wp2
        go_quiet (fail)
        go_wp2
        go_ret
        exact ⟨ret_int (by rw [HE.out, look, if_pos hkn]), by rw [HE.out]; exact hws.drewN _⟩
    · have HE : Hid (Pl.fst Pl.solid d n p = k) := Pl.fst_eq hk2 hk1 HF.out (fun h => by omega)
      go_wp2
      go_quiet (fail)
      go_wp2
      go_ret
      exact ⟨ret_int (by rw [HE.out, look, if_neg hkn]), by rw [HE.out]; exact hws.drewN _⟩
end Go.Proofs.Qxb6000005a
