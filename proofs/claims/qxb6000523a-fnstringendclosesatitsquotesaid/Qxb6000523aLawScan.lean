/-
  THE WALK of the laws FnStringEndMatchesEscapeScanner (6) and FnStringEndClosesAtItsQuote (7).
-/
import Derived.Test.Qxb6000523aRead
namespace Go.Proofs.Qxb6000523a
open Go.RowKit

theorem info5 : (Try.prog.info? 5).map (fun i => (i.zero, i.size, i.bytes)) = some (some (.int .u8 0), 1, 1) := by kernel_rfl
theorem size5 : (Try.prog.info? 5).map (·.size) = some 1 := by kernel_rfl

set_option maxHeartbeats 400000 in
theorem bytes17_any (a : Option Addr) (n c : Nat) (p : Int) (w : World) :
    Calls Try.prog 17 #[.slice a n c, .int .i64 p] w fun e w' => e = .returned (.bool (decide (n ≤ 1048576))) ∧ w' = w := by
  go_enter Try.func17, Try.ntmps17
  go_wp2
  all_goals
    go_ret
    exact ⟨ret_bool (by simp; omega), rfl⟩

set_option maxRecDepth 100000 in
set_option maxHeartbeats 1000000 in
theorem scan_some (x : Addr) (n c0 p : Nat) (d : Nat → Int) (w : World) (hn : n ≤ 1048576) (hp : p < n) (hby : ∀ i, i < n → 0 ≤ d i ∧ d i < 256) (hc : ∀ i, i < n → w.cell? (x.add i) = some (.int .u8 (d i))) (hx : x.block < w.heap.size) :
    Calls Try.prog 6 #[.slice (some x) n c0, .int .i64 p] w fun e w' => e = .returned (.bool true) ∧ Below w.heap.size w w' := by
  have hneq := fun (w : World) n' c' => run_neq_slice_nil_any (P := Try.prog) w 22 5 (some x) n c0 n' c' Try.underlying22
  obtain ⟨i0, hi, hz0, hz1, hz2⟩ := info_parts info5
  have Hby := hid hby
  have hc' := hid hc
  have hx' := hid hx
  clear hc hx hby
  go_enter Try.func6, Try.ntmps6
  go_wp2_with (first
    | (go_at_call 17; refine (bytes17_any _ _ _ _ _).mono ?_; rintro e w ⟨rfl, rfl⟩)
    | (at_make; refine wpList_make_full _ rfl _ _ 22 rfl w.heap.size 5 i0 (.int .u8 0) 1 Try.underlying22 hi hz0 hz1 _ _ _ _ n rfl rfl rfl rfl ?_ ?_ ?_ ?_; (rw [hz2]; omega); (unfold maxLen; omega); exact Nat.le_refl _; intro w1 hown hgrow; obtain ⟨cur, hcur, hlen⟩ := made_block hown; have hb1 := (Below.refl w.heap.size w).grown hgrow (Nat.le_refl _) (fun k h => by cases h); obtain ⟨w2, hcp, hb2, hsz, hcell⟩ := copy_all (c := c0) (d := d) Try.underlying22 size5 hcur hlen (fun i h => by rw [hb1.cell (p := x.add i) (by rw [add_block]; exact hx'.out)]; exact hc'.out i h) hb1 (Nat.le_refl _); have HB := hid hb2; have HC : Hid (∀ i, i < n → w2.cell? ⟨w.heap.size, 0 + i, none⟩ = some (.int .u8 (d i))) := (fun i h => by rw [Nat.zero_add]; exact hcell i h); clear hb2 hsz hcell hb1 hcur hlen hown hgrow)
    | (go_at_call 18; refine (zzStringEnd_any _ _ _ _ _ d _ hn (Nat.le_refl _) hn hp Hby.out HC.out).mono ?_; rintro e w2 ⟨rfl, rfl⟩)
    | (go_at_call 19; refine (escapes_any _ _ _ _ _ d _ hn hp HC.out).mono ?_; rintro e w2 ⟨rfl, rfl⟩))
  go_ret
  exact ⟨rfl, HB.out⟩

set_option maxHeartbeats 1000000 in
theorem scan_big (a : Option Addr) (n c : Nat) (p : Int) (w : World) (h : 1048576 < n) :
    Calls Try.prog 6 #[.slice a n c, .int .i64 p] w fun e w' => e = .returned (.bool true) ∧ Below w.heap.size w w' := by
  have hf : decide (n ≤ 1048576) = false := by simpa using h
  go_enter Try.func6, Try.ntmps6
  go_wp2_with (go_at_call 17; refine (bytes17_any _ _ _ _ _).mono ?_; rintro e w ⟨rfl, rfl⟩)
  go_ret
  exact ⟨rfl, Below.refl _ _⟩

set_option maxHeartbeats 1000000 in
theorem scan_out (a : Option Addr) (n c : Nat) (p : Int) (w : World) (hn : n ≤ 1048576) (h : p < 0 ∨ (n : Int) ≤ p) :
    Calls Try.prog 6 #[.slice a n c, .int .i64 p] w fun e w' => e = .returned (.bool true) ∧ Below w.heap.size w w' := by
  have hn' : (n : Int) ≤ 1048576 := by omega
  by_cases h0 : p < 0
  · go_enter Try.func6, Try.ntmps6
    go_wp2_with (go_at_call 17; refine (bytes17_any _ _ _ _ _).mono ?_; rintro e w ⟨rfl, rfl⟩)
    go_ret
    exact ⟨rfl, Below.refl _ _⟩
  · have h1 : (n : Int) ≤ p := by omega
    have h2 : 0 ≤ p := by omega
    clear h h0
    go_enter Try.func6, Try.ntmps6
    go_wp2_with (go_at_call 17; refine (bytes17_any _ _ _ _ _).mono ?_; rintro e w ⟨rfl, rfl⟩)
    go_ret
    exact ⟨rfl, Below.refl _ _⟩
end Go.Proofs.Qxb6000523a
