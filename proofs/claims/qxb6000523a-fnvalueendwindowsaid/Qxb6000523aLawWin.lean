/-
  THE WALK of the law FnValueEndWindow (8).
-/
import Derived.Test.Qxb6000523aValueEnd
namespace Go.Proofs.Qxb6000523a
open Go.RowKit

theorem info5 : (Try.prog.info? 5).map (fun i => (i.zero, i.size, i.bytes)) = some (some (.int .u8 0), 1, 1) := by kernel_rfl
theorem size5 : (Try.prog.info? 5).map (·.size) = some 1 := by kernel_rfl

set_option maxHeartbeats 400000 in
theorem bytes21_any (a : Option Addr) (n c : Nat) (p : Int) (w : World) :
    Calls Try.prog 21 #[.slice a n c, .int .i64 p] w fun e w' => e = .returned (.bool (decide (n ≤ 1048576))) ∧ w' = w := by
  go_enter Try.func21, Try.ntmps21
  go_wp2
  all_goals
    go_ret
    exact ⟨ret_bool (by simp; omega), rfl⟩

set_option maxRecDepth 100000 in
set_option maxHeartbeats 1000000 in
theorem win_some (x : Addr) (n c0 p : Nat) (d : Nat → Int) (w : World) (hn : n ≤ 1048576) (hp : p < n) (hby : ∀ i, i < n → 0 ≤ d i ∧ d i < 256) (hc : ∀ i, i < n → w.cell? (x.add i) = some (.int .u8 (d i))) (hx : x.block < w.heap.size) :
    Calls Try.prog 8 #[.slice (some x) n c0, .int .i64 p] w fun e w' => e = .returned (.bool true) ∧ Below w.heap.size w w' := by
  have hneq := fun (w : World) n' c' => run_neq_slice_nil_any (P := Try.prog) w 22 5 (some x) n c0 n' c' Try.underlying22
  obtain ⟨i0, hi, hz0, hz1, hz2⟩ := info_parts info5
  have hbd := Pl.vEnd_bd d n p (by omega)
  have hcut := Pl.vEnd_cut d n p hp
  have hsh := Pl.vEnd_shift d p (n - p)
  rw [show p + (n - p) = n by omega] at hsh
  have hst : ∀ w2 : World, (∀ i, i < n → w2.cell? ⟨w.heap.size, 0 + i, none⟩ = some (.int .u8 (d i))) → Calls Try.prog 16 #[.slice (some ⟨w.heap.size, 0, none⟩) n n, .int .i64 p] w2 fun e w' => e = .returned (.int .i64 (Pl.vEnd d n p)) ∧ w' = w2 :=
    fun w2 h => zzValueEnd_any _ _ _ _ _ d _ hn (Nat.le_refl _) hn hby h
  have hst2 : ∀ w2 : World, (∀ i, i < n → w2.cell? ⟨w.heap.size, 0 + i, none⟩ = some (.int .u8 (d i))) → Calls Try.prog 16 #[.slice (some ⟨w.heap.size, p, none⟩) (n - p) (n - p), .int .i64 0] w2 fun e w' => e = .returned (.int .i64 ((Pl.vEnd d n p : Int) - p)) ∧ w' = w2 :=
    fun w2 h => by
      have := zzValueEnd_any w.heap.size p (n - p) (n - p) 0 (fun j => d (p + j)) w2 (by omega) (by omega) (by omega) (fun i hi => hby (p + i) (by omega)) (fun i hi => by have := h (p + i) (by omega); rwa [Nat.zero_add] at this)
      rwa [show ((Pl.vEnd (fun j => d (p + j)) (n - p) 0 : Nat) : Int) = (Pl.vEnd d n p : Int) - p by omega] at this
  obtain ⟨R, HR⟩ : ∃ R, Hid (Pl.vEnd d n p = R) := ⟨_, rfl⟩
  rw [HR.out] at hbd hcut
  simp only [HR.out] at hst hst2
  obtain ⟨hR1, hR2⟩ := hbd
  have hsh2 := Pl.vEnd_shift d p (R - p)
  rw [show p + (R - p) = R by omega, hcut] at hsh2
  have hst3 : ∀ w2 : World, (∀ i, i < n → w2.cell? ⟨w.heap.size, 0 + i, none⟩ = some (.int .u8 (d i))) → Calls Try.prog 16 #[.slice (some ⟨w.heap.size, p, none⟩) (R - p) (n - p), .int .i64 0] w2 fun e w' => e = .returned (.int .i64 ((R : Int) - p)) ∧ w' = w2 :=
    fun w2 h => by
      have := zzValueEnd_any w.heap.size p (R - p) (n - p) 0 (fun j => d (p + j)) w2 (by omega) (by omega) (by omega) (fun i hi => hby (p + i) (by omega)) (fun i hi => by have := h (p + i) (by omega); rwa [Nat.zero_add] at this)
      rwa [show ((Pl.vEnd (fun j => d (p + j)) (R - p) 0 : Nat) : Int) = (R : Int) - p by omega] at this
  have Hst := hid hst
  have Hst2 := hid hst2
  have Hst3 := hid hst3
  have hc' := hid hc
  have hx' := hid hx
  clear hc hx hby hst hst2 hst3 hcut hsh hsh2
  go_enter Try.func8, Try.ntmps8
  go_wp2_with (first
    | (go_at_call 21; refine (bytes21_any _ _ _ _ _).mono ?_; rintro e w ⟨rfl, rfl⟩)
    | (at_make; refine wpList_make_full _ rfl _ _ 22 rfl w.heap.size 5 i0 (.int .u8 0) 1 Try.underlying22 hi hz0 hz1 _ _ _ _ n rfl rfl rfl rfl ?_ ?_ ?_ ?_; (rw [hz2]; omega); (unfold maxLen; omega); exact Nat.le_refl _; intro w1 hown hgrow; obtain ⟨cur, hcur, hlen⟩ := made_block hown; have hb1 := (Below.refl w.heap.size w).grown hgrow (Nat.le_refl _) (fun k h => by cases h); obtain ⟨w2, hcp, hb2, hsz, hcell⟩ := copy_all (c := c0) (d := d) Try.underlying22 size5 hcur hlen (fun i h => by rw [hb1.cell (p := x.add i) (by rw [add_block]; exact hx'.out)]; exact hc'.out i h) hb1 (Nat.le_refl _); have HB := hid hb2; have HC : Hid (∀ i, i < n → w2.cell? ⟨w.heap.size, 0 + i, none⟩ = some (.int .u8 (d i))) := (fun i h => by rw [Nat.zero_add]; exact hcell i h); clear hb2 hsz hcell hb1 hcur hlen hown hgrow))
  refine (Hst.out _ HC.out).mono ?_
  rintro e w2 ⟨rfl, rfl⟩
  go_wp2_with fail
  refine (Hst2.out _ HC.out).mono ?_
  rintro e w2 ⟨rfl, rfl⟩
  go_wp2_with fail
  refine (Hst3.out _ HC.out).mono ?_
  rintro e w2 ⟨rfl, rfl⟩
  go_wp2
  go_ret
  exact ⟨ret_bool (by simp), HB.out⟩

set_option maxHeartbeats 1000000 in
theorem win_big (a : Option Addr) (n c : Nat) (p : Int) (w : World) (h : 1048576 < n) :
    Calls Try.prog 8 #[.slice a n c, .int .i64 p] w fun e w' => e = .returned (.bool true) ∧ Below w.heap.size w w' := by
  have hf : decide (n ≤ 1048576) = false := by simpa using h
  go_enter Try.func8, Try.ntmps8
  go_wp2_with (go_at_call 21; refine (bytes21_any _ _ _ _ _).mono ?_; rintro e w ⟨rfl, rfl⟩)
  go_ret
  exact ⟨rfl, Below.refl _ _⟩

set_option maxHeartbeats 1000000 in
theorem win_out (a : Option Addr) (n c : Nat) (p : Int) (w : World) (hn : n ≤ 1048576) (h : p < 0 ∨ (n : Int) ≤ p) :
    Calls Try.prog 8 #[.slice a n c, .int .i64 p] w fun e w' => e = .returned (.bool true) ∧ Below w.heap.size w w' := by
  have hn' : (n : Int) ≤ 1048576 := by omega
  by_cases h0 : p < 0
  · go_enter Try.func8, Try.ntmps8
    go_wp2_with (go_at_call 21; refine (bytes21_any _ _ _ _ _).mono ?_; rintro e w ⟨rfl, rfl⟩)
    go_ret
    exact ⟨rfl, Below.refl _ _⟩
  · have h1 : (n : Int) ≤ p := by omega
    have h2 : 0 ≤ p := by omega
    clear h h0
    go_enter Try.func8, Try.ntmps8
    go_wp2_with (go_at_call 21; refine (bytes21_any _ _ _ _ _).mono ?_; rintro e w ⟨rfl, rfl⟩)
    go_ret
    exact ⟨rfl, Below.refl _ _⟩
end Go.Proofs.Qxb6000523a
