/-
  THE WALK of the law FnValueMatchesModel (function 7), way by way.
-/
import Derived.Test.Qxb6000005aValueAll
import Derived.Test.Qxb6000005aModelEnd
namespace Go.Proofs.Qxb6000005a
open Go.RowKit

/-- Behind 'new': the walker's block is there. -/
theorem WS.laid {b n p : Nat} {d : Nat → Int} {w1 : World} {ao : Option Addr} {c : Nat} (hb : b < w1.heap.size) (hc : ∀ i, i < n → w1.cell? ⟨b, i, none⟩ = some (.int .u8 (d i))) (s : Bool) :
    WS w1.heap.size b 0 n c ao d w1 (w1.alloc (.cells #[.slice ao n c, .int .i64 p, .bool s] 35)) p := by
  refine ⟨(Below.refl _ _).alloc (Nat.le_refl _) _, ?_, ?_, ?_, fun i hi => ?_⟩
  · simp
  · simp
  · simp
  · rw [Nat.zero_add, ← hc i hi]
    exact ((Below.refl w1.heap.size w1).alloc (Nat.le_refl _) _).cell (p := ⟨b, i, none⟩) hb

set_option maxRecDepth 100000 in
set_option maxHeartbeats 2000000 in
theorem mat_some (x : Addr) (n c0 p : Nat) (d : Nat → Int) (w : World) (hn : n ≤ 1048576) (hp : p ≤ n) (hby : ∀ i, i < n → 0 ≤ d i ∧ d i < 256) (hc : ∀ i, i < n → w.cell? (x.add i) = some (.int .u8 (d i))) (hx : ∀ i, i < n → x.block < w.heap.size) :
    Calls Try.prog 7 #[.slice (some x) n c0, .int .i64 p] w fun e w' => e = .returned (.bool true) ∧ Below w.heap.size w w' := by
  obtain ⟨S, hS⟩ : ∃ S, S = Pl.fst Pl.solid d n p := ⟨_, rfl⟩
  obtain ⟨E, hE⟩ : ∃ E, E = Pl.vEnd d n S := ⟨_, rfl⟩
  obtain ⟨hS1, hS2, hS3, hS4⟩ := Pl.fst_prop Pl.solid d n p hp
  rw [← hS] at hS1 hS2 hS3 hS4
  obtain ⟨hE1, hE2⟩ := Pl.vEnd_bd d n S hS2
  rw [← hE] at hE1 hE2
  have Hby := hid hby
  have HS := hid hS
  have HE := hid hE
  have Hcl := hid (clone_some x n c0 d w hn hc hx)
  clear hby hc hx hS3 hS4 hS hE
  go_enter Try.func7, Try.ntmps7
  go_wp2_with (go_at_call 20; refine (bytesM_any _ _ _ _ _).mono ?_; rintro e w ⟨rfl, rfl⟩)
  refine Hcl.out.mono ?_
  rintro e w1 ⟨rfl, hb1, hz1, hc1⟩
  have hc1' : ∀ i, i < n → w1.cell? ⟨w.heap.size, 0 + i, none⟩ = some (.int .u8 (d i)) := fun i hi => by rw [Nat.zero_add]; exact hc1 i hi
  have hfnb := firstNonBlank_any w.heap.size 0 n n p d w1 hn hp hc1'
  rw [← HS.out] at hfnb
  have Hfnb := hid hfnb
  have hve := ve_any w.heap.size 0 n n S d w1 hn hz1 hc1'
  rw [← HE.out] at hve
  have Hve := hid hve
  have Hb1 := hid hb1
  have Hc1 := hid hc1
  clear hb1 hc1 Hcl hfnb hve hc1'
  go_wp2_with (first | (go_at_call 21; refine Hfnb.out.mono ?_; rintro e w1 ⟨rfl, rfl⟩))
  refine Hve.out.mono ?_
  rintro e w2 ⟨rfl, hb2⟩
  have hz2 : w.heap.size < w2.heap.size := Nat.lt_of_lt_of_le hz1 hb2.size
  have hc2 : ∀ i, i < n → w2.cell? ⟨w.heap.size, i, none⟩ = some (.int .u8 (d i)) := fun i hi => by rw [hb2.cell (p := ⟨w.heap.size, i, none⟩) hz1]; exact Hc1.out i hi
  have Hb2 : Hid (Below w.heap.size w w2) := Hb1.out.trans (hb2.mono (Nat.le_of_lt hz1))
  have Hc2 := hid hc2
  clear hb2 Hb1 Hc1 Hve Hfnb hz1 hc2
  go_wp2_with (go_at_call 11; refine (newWalker_any _ _ _ _ _ _).mono ?_; rintro e w3 ⟨rfl, rfl⟩)
  have hws := WS.laid (ao := some ⟨w.heap.size, 0, none⟩) (c := n) (p := p) hz2 Hc2.out false
  have hval := value_any w2.heap.size w.heap.size 0 n n p S E d w2 _ hn (Nat.le_refl _) hn hp hz2 Hby.out hws HS.out HE.out
  refine hval.mono ?_
  rintro e w3 ⟨a, cp, L, rfl, hL, ha, hw3⟩
  have Ha := hid ha
  have hL1 : L ≤ n := by omega
  have hne : ((L : Int) != (E : Int) - S) = false := by simp; omega
  have HL := hid hL
  clear hval hws ha hL
  have hpos := hw3.pos
  go_wp2_with (go_at_call 13; refine (zzPos_any _ _ _ hpos).mono ?_; rintro e w3 ⟨rfl, rfl⟩)
  go_loopg [9] L (fun g i wr => ∃ k : Nat, k ≤ L ∧ g = L - k ∧ i = .int .i64 k ∧ WS w2.heap.size w.heap.size 0 n n (some ⟨w.heap.size, 0, none⟩) d w2 wr E)
  case atStart => exact ⟨0, Nat.zero_le _, rfl, rfl, hw3⟩
  case round =>
    obtain ⟨k, hk, rfl, rfl, hwr⟩ := hrel
    by_cases hkL : k < L
    · have hL' := HL.out
      have ha' : a = some ⟨w.heap.size, S, none⟩ := by have := Ha.out (by omega); rwa [Nat.zero_add] at this
      subst ha'
      have hck : wr.cell? ⟨w.heap.size, S + k, none⟩ = some (.int .u8 (d (S + k))) := by have := hwr.row (S + k) (by omega); rwa [Nat.zero_add] at this
      have hlt : (S : Int) + k < n := by omega
      clear hL' Ha
      go_wp2
      go_quiet (fail)
      go_wp2
      go_roundg (L - (k + 1))
      case measure => omega
      case rel => exact ⟨k + 1, hkL, rfl, by go_num, hwr.drewN _⟩
    · obtain rfl : k = L := by omega
      have HB : Hid (Below w.heap.size w wr) := Hb2.out.trans (hwr.below.mono (Nat.le_of_lt hz2))
      go_wp2
      go_ret
      exact ⟨rfl, HB.out⟩

set_option maxHeartbeats 1000000 in
theorem fnb_nil (w : World) :
    Calls Try.prog 21 #[.slice none 0 0, .int .i64 0] w fun e w' => e = .returned (.int .i64 0) ∧ w' = w := by
  go_enter Try.func21, Try.ntmps21
  go_wp2
  refine wp_loop_rounds 1 ?_
  rw [rounds_succ]
  go_wp2
  go_ret
  exact ⟨rfl, rfl⟩

set_option maxRecDepth 100000 in
set_option maxHeartbeats 1000000 in
theorem ve_nil (w : World) :
    Calls Try.prog 22 #[.slice none 0 0, .int .i64 0] w fun e w' => e = .returned (.int .i64 0) ∧ w' = w := by
  go_enter Try.func22, Try.ntmps22
  go_wp2
  go_ret
  exact ⟨rfl, rfl⟩

set_option maxRecDepth 100000 in
set_option maxHeartbeats 1000000 in
theorem mat_nil (w : World) :
    Calls Try.prog 7 #[.slice none 0 0, .int .i64 0] w fun e w' => e = .returned (.bool true) ∧ Below w.heap.size w w' := by
  go_enter Try.func7, Try.ntmps7
  go_wp2_with (first | (go_at_call 20; refine (bytesM_any _ _ _ _ _).mono ?_; rintro e w ⟨rfl, rfl⟩) | (go_at_call 10; refine (clone_nil _).mono ?_; rintro e w ⟨rfl, rfl⟩) | (go_at_call 21; refine (fnb_nil _).mono ?_; rintro e w ⟨rfl, rfl⟩) | (go_at_call 22; refine (ve_nil _).mono ?_; rintro e w ⟨rfl, rfl⟩) | (go_at_call 11; refine (newWalker_any _ _ _ _ _ _).mono ?_; rintro e w2 ⟨rfl, rfl⟩))
  have hws : WS w.heap.size 0 0 0 0 none (fun _ => 0) w (w.alloc (.cells #[.slice none 0 0, .int .i64 0, .bool false] 35)) 0 :=
    ⟨(Below.refl _ _).alloc (Nat.le_refl _) _, by simp, by simp, by simp, fun i hi => by omega⟩
  refine (value_nil _ _ _ _ _ _ hws).mono ?_
  rintro e w3 ⟨rfl, hw3⟩
  clear hws
  have hpos := hw3.pos
  go_wp2_with (go_at_call 13; refine (zzPos_any _ _ _ hpos).mono ?_; rintro e w3 ⟨rfl, rfl⟩)
  refine wp_loop_rounds 1 ?_
  rw [rounds_succ]
  go_wp2
  go_ret
  exact ⟨rfl, hw3.below⟩

set_option maxHeartbeats 1000000 in
theorem mat_big (a : Option Addr) (n c : Nat) (p : Int) (w : World) (h : 1048576 < n) :
    Calls Try.prog 7 #[.slice a n c, .int .i64 p] w fun e w' => e = .returned (.bool true) ∧ Below w.heap.size w w' := by
  have hf : decide (n ≤ 1048576) = false := by simpa using h
  go_enter Try.func7, Try.ntmps7
  go_wp2_with (go_at_call 20; refine (bytesM_any _ _ _ _ _).mono ?_; rintro e w ⟨rfl, rfl⟩)
  go_ret
  exact ⟨rfl, Below.refl _ _⟩

set_option maxHeartbeats 1000000 in
theorem mat_out (a : Option Addr) (n c : Nat) (p : Int) (w : World) (hn : n ≤ 1048576) (h : p < 0 ∨ (n : Int) < p) :
    Calls Try.prog 7 #[.slice a n c, .int .i64 p] w fun e w' => e = .returned (.bool true) ∧ Below w.heap.size w w' := by
  have hn' : (n : Int) ≤ 1048576 := by omega
  by_cases h0 : p < 0
  · go_enter Try.func7, Try.ntmps7
    go_wp2_with (go_at_call 20; refine (bytesM_any _ _ _ _ _).mono ?_; rintro e w ⟨rfl, rfl⟩)
    go_ret
    exact ⟨rfl, Below.refl _ _⟩
  · have h1 : (n : Int) < p := by omega
    have h2 : 0 ≤ p := by omega
    clear h h0
    go_enter Try.func7, Try.ntmps7
    go_wp2_with (go_at_call 20; refine (bytesM_any _ _ _ _ _).mono ?_; rintro e w ⟨rfl, rfl⟩)
    go_ret
    exact ⟨rfl, Below.refl _ _⟩
end Go.Proofs.Qxb6000005a
