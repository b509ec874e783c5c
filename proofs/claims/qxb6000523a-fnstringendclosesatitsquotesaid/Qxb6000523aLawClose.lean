/-
  THE WALK of the law FnStringEndClosesAtItsQuote (7).
-/
import Derived.Test.Qxb6000523aLawScan
namespace Go.Proofs.Qxb6000523a
open Go.RowKit

set_option maxHeartbeats 400000 in
theorem bytes20_any (a : Option Addr) (n c : Nat) (p : Int) (w : World) :
    Calls Try.prog 20 #[.slice a n c, .int .i64 p] w fun e w' => e = .returned (.bool (decide (n ≤ 1048576))) ∧ w' = w := by
  go_enter Try.func20, Try.ntmps20
  go_wp2
  all_goals
    go_ret
    exact ⟨ret_bool (by simp; omega), rfl⟩

set_option maxRecDepth 100000 in
set_option maxHeartbeats 1000000 in
theorem close_some (x : Addr) (n c0 p : Nat) (d : Nat → Int) (w : World) (hn : n ≤ 1048576) (hp : p < n) (hby : ∀ i, i < n → 0 ≤ d i ∧ d i < 256) (hc : ∀ i, i < n → w.cell? (x.add i) = some (.int .u8 (d i))) (hx : x.block < w.heap.size) :
    Calls Try.prog 7 #[.slice (some x) n c0, .int .i64 p] w fun e w' => e = .returned (.bool true) ∧ Below w.heap.size w w' := by
  have hneq := fun (w : World) n' c' => run_neq_slice_nil_any (P := Try.prog) w 22 5 (some x) n c0 n' c' Try.underlying22
  obtain ⟨i0, hi, hz0, hz1, hz2⟩ := info_parts info5
  have hbd := Pl.F_bd d n (p + 1) hp
  have hqt := Pl.F_quote d n (p + 1)
  have hcut := Pl.F_cut d n (Pl.F d n (p + 1)) (p + 1) hp (Nat.le_refl _) hbd.2
  have hsh := Pl.F_shift d p (n - p) 1
  rw [show p + (n - p) = n by omega] at hsh
  have hst : ∀ w2 : World, (∀ i, i < n → w2.cell? ⟨w.heap.size, 0 + i, none⟩ = some (.int .u8 (d i))) → Calls Try.prog 18 #[.slice (some ⟨w.heap.size, 0, none⟩) n n, .int .i64 p] w2 fun e w' => e = .returned (.int .i64 (Pl.F d n (p + 1))) ∧ w' = w2 :=
    fun w2 h => zzStringEnd_any _ _ _ _ _ d _ hn (Nat.le_refl _) hn hp hby h
  have hst2 : ∀ w2 : World, (∀ i, i < n → w2.cell? ⟨w.heap.size, 0 + i, none⟩ = some (.int .u8 (d i))) → Calls Try.prog 18 #[.slice (some ⟨w.heap.size, 0, none⟩) (Pl.F d n (p + 1)) n, .int .i64 p] w2 fun e w' => e = .returned (.int .i64 (Pl.F d n (p + 1))) ∧ w' = w2 :=
    fun w2 h => by
      have := zzStringEnd_any w.heap.size 0 (Pl.F d n (p + 1)) n p d w2 (by omega) (by omega) hn (by omega) (fun i hi => hby i (by omega)) (fun i hi => h i (by omega))
      rwa [hcut] at this
  have hst3 : ∀ w2 : World, (∀ i, i < n → w2.cell? ⟨w.heap.size, 0 + i, none⟩ = some (.int .u8 (d i))) → Calls Try.prog 18 #[.slice (some ⟨w.heap.size, p, none⟩) (n - p) (n - p), .int .i64 0] w2 fun e w' => e = .returned (.int .i64 ((Pl.F d n (p + 1) : Int) - p)) ∧ w' = w2 :=
    fun w2 h => by
      have := zzStringEnd_any w.heap.size p (n - p) (n - p) 0 (fun j => d (p + j)) w2 (by omega) (by omega) (by omega) (by omega) (fun i hi => hby (p + i) (by omega)) (fun i hi => by have := h (p + i) (by omega); rwa [Nat.zero_add] at this)
      rwa [Nat.zero_add, show ((Pl.F (fun j => d (p + j)) (n - p) 1 : Nat) : Int) = (Pl.F d n (p + 1) : Int) - p by omega] at this
  obtain ⟨R, HR⟩ : ∃ R, Hid (Pl.F d n (p + 1) = R) := ⟨_, rfl⟩
  rw [HR.out] at hbd hqt
  simp only [HR.out] at hst hst2 hst3
  obtain ⟨hR1, hR2⟩ := hbd
  have Hqt := hid hqt
  have Hst := hid hst
  have Hst2 := hid hst2
  have Hst3 := hid hst3
  have hc' := hid hc
  have hx' := hid hx
  clear hc hx hby hst hst2 hst3 hqt hcut hsh
  go_enter Try.func7, Try.ntmps7
  go_wp2_with (first
    | (go_at_call 20; refine (bytes20_any _ _ _ _ _).mono ?_; rintro e w ⟨rfl, rfl⟩)
    | (at_make; refine wpList_make_full _ rfl _ _ 22 rfl w.heap.size 5 i0 (.int .u8 0) 1 Try.underlying22 hi hz0 hz1 _ _ _ _ n rfl rfl rfl rfl ?_ ?_ ?_ ?_; (rw [hz2]; omega); (unfold maxLen; omega); exact Nat.le_refl _; intro w1 hown hgrow; obtain ⟨cur, hcur, hlen⟩ := made_block hown; have hb1 := (Below.refl w.heap.size w).grown hgrow (Nat.le_refl _) (fun k h => by cases h); obtain ⟨w2, hcp, hb2, hsz, hcell⟩ := copy_all (c := c0) (d := d) Try.underlying22 size5 hcur hlen (fun i h => by rw [hb1.cell (p := x.add i) (by rw [add_block]; exact hx'.out)]; exact hc'.out i h) hb1 (Nat.le_refl _); have HB := hid hb2; have HC : Hid (∀ i, i < n → w2.cell? ⟨w.heap.size, 0 + i, none⟩ = some (.int .u8 (d i))) := (fun i h => by rw [Nat.zero_add]; exact hcell i h); clear hb2 hsz hcell hb1 hcur hlen hown hgrow))
  refine (Hst.out _ HC.out).mono ?_
  rintro e w2 ⟨rfl, rfl⟩
  by_cases hRn : R < n
  · obtain ⟨hq1, hq2⟩ := Hqt.out hRn
    have hcq : w2.cell? ⟨w.heap.size, R - 1, none⟩ = some (.int .u8 34) := by have := HC.out (R - 1) (by omega); rwa [Nat.zero_add, hq2] at this
    clear hq2
    go_wp2_with fail
    refine (Hst2.out _ HC.out).mono ?_
    rintro e w2 ⟨rfl, rfl⟩
    go_wp2_with fail
    refine (Hst3.out _ HC.out).mono ?_
    rintro e w2 ⟨rfl, rfl⟩
    go_wp2
    go_ret
    exact ⟨ret_bool (by simp), HB.out⟩
  · obtain rfl : R = n := by omega
    go_wp2_with fail
    refine (Hst2.out _ HC.out).mono ?_
    rintro e w2 ⟨rfl, rfl⟩
    go_wp2_with fail
    refine (Hst3.out _ HC.out).mono ?_
    rintro e w2 ⟨rfl, rfl⟩
    go_wp2
    go_ret
    exact ⟨ret_bool (by simp), HB.out⟩

set_option maxHeartbeats 1000000 in
theorem close_big (a : Option Addr) (n c : Nat) (p : Int) (w : World) (h : 1048576 < n) :
    Calls Try.prog 7 #[.slice a n c, .int .i64 p] w fun e w' => e = .returned (.bool true) ∧ Below w.heap.size w w' := by
  have hf : decide (n ≤ 1048576) = false := by simpa using h
  go_enter Try.func7, Try.ntmps7
  go_wp2_with (go_at_call 20; refine (bytes20_any _ _ _ _ _).mono ?_; rintro e w ⟨rfl, rfl⟩)
  go_ret
  exact ⟨rfl, Below.refl _ _⟩

set_option maxHeartbeats 1000000 in
theorem close_out (a : Option Addr) (n c : Nat) (p : Int) (w : World) (hn : n ≤ 1048576) (h : p < 0 ∨ (n : Int) ≤ p) :
    Calls Try.prog 7 #[.slice a n c, .int .i64 p] w fun e w' => e = .returned (.bool true) ∧ Below w.heap.size w w' := by
  have hn' : (n : Int) ≤ 1048576 := by omega
  by_cases h0 : p < 0
  · go_enter Try.func7, Try.ntmps7
    go_wp2_with (go_at_call 20; refine (bytes20_any _ _ _ _ _).mono ?_; rintro e w ⟨rfl, rfl⟩)
    go_ret
    exact ⟨rfl, Below.refl _ _⟩
  · have h1 : (n : Int) ≤ p := by omega
    have h2 : 0 ≤ p := by omega
    clear h h0
    go_enter Try.func7, Try.ntmps7
    go_wp2_with (go_at_call 20; refine (bytes20_any _ _ _ _ _).mono ?_; rintro e w ⟨rfl, rfl⟩)
    go_ret
    exact ⟨rfl, Below.refl _ _⟩
end Go.Proofs.Qxb6000523a
