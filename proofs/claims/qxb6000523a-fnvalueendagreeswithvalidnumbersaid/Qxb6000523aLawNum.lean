/-
  THE WALK of the law FnValueEndAgreesWithValidNumber (5).
-/
import Derived.Test.Qxb6000523aNumber
namespace Go.Proofs.Qxb6000523a
open Go.RowKit

theorem info5 : (Try.prog.info? 5).map (fun i => (i.zero, i.size, i.bytes)) = some (some (.int .u8 0), 1, 1) := by kernel_rfl
theorem size5 : (Try.prog.info? 5).map (·.size) = some 1 := by kernel_rfl

set_option maxHeartbeats 400000 in
theorem bytes14_any (a : Option Addr) (n c : Nat) (p : Int) (w : World) :
    Calls Try.prog 14 #[.slice a n c, .int .i64 p] w fun e w' => e = .returned (.bool (decide (n ≤ 1048576))) ∧ w' = w := by
  go_enter Try.func14, Try.ntmps14
  go_wp2
  all_goals
    go_ret
    exact ⟨ret_bool (by simp; omega), rfl⟩

/-- A number that a byte follows which ends it, or nothing, is a value. -/
theorem num_end {d : Nat → Int} {n p m : Nat} (hp : p < n) (hc : d p = 45 ∨ (48 ≤ d p ∧ d p ≤ 57)) (h1 : p < m) (h2 : m ≤ n) (h3 : NC d p m) (h4 : m < n → Pl.delim (d m) = true) : Pl.vEnd d n p = m := by
  unfold Pl.vEnd
  rw [if_neg (by omega), if_neg (by omega), if_neg (by omega)]
  exact Pl.fst_eq h2 (by omega) h3 h4

set_option maxRecDepth 100000 in
set_option maxHeartbeats 2000000 in
theorem num_some (x : Addr) (n c0 p : Nat) (d : Nat → Int) (w : World) (hn : n ≤ 1048576) (hp : p < n) (hby : ∀ i, i < n → 0 ≤ d i ∧ d i < 256) (hc : ∀ i, i < n → w.cell? (x.add i) = some (.int .u8 (d i))) (hx : x.block < w.heap.size) :
    Calls Try.prog 5 #[.slice (some x) n c0, .int .i64 p] w fun e w' => e = .returned (.bool true) ∧ Below w.heap.size w w' := by
  have hneq := fun (w : World) n' c' => run_neq_slice_nil_any (P := Try.prog) w 22 5 (some x) n c0 n' c' Try.underlying22
  obtain ⟨i0, hi, hz0, hz1, hz2⟩ := info_parts info5
  have Hve : Hid (∀ w2 : World, (∀ i, i < n → w2.cell? ⟨w.heap.size, 0 + i, none⟩ = some (.int .u8 (d i))) → Calls Try.prog 16 #[.slice (some ⟨w.heap.size, 0, none⟩) n n, .int .i64 p] w2 fun e w' => e = .returned (.int .i64 (Pl.vEnd d n p)) ∧ w' = w2) :=
    fun w2 h => zzValueEnd_any _ _ _ _ _ d _ hn (Nat.le_refl _) hn hby h
  have Hvn : Hid (∀ w2 : World, (∀ i, i < n → w2.cell? ⟨w.heap.size, 0 + i, none⟩ = some (.int .u8 (d i))) → Calls Try.prog 11 #[.slice (some ⟨w.heap.size, 0, none⟩) n n, .int .i64 p] w2 (VNEnd d n p w2)) :=
    fun w2 h => zzValidNumber_any _ _ _ _ _ d _ hn hp h
  have hc' := hid hc
  have hx' := hid hx
  clear hc hx hby
  go_enter Try.func5, Try.ntmps5
  go_upto_region 11 with (first
    | (go_at_call 14; refine (bytes14_any _ _ _ _ _).mono ?_; rintro e w ⟨rfl, rfl⟩)
    | (at_make; refine wpList_make_full _ rfl _ _ 22 rfl w.heap.size 5 i0 (.int .u8 0) 1 Try.underlying22 hi hz0 hz1 _ _ _ _ n rfl rfl rfl rfl ?_ ?_ ?_ ?_; (rw [hz2]; omega); (unfold maxLen; omega); exact Nat.le_refl _; intro w1 hown hgrow; obtain ⟨cur, hcur, hlen⟩ := made_block hown; have hb1 := (Below.refl w.heap.size w).grown hgrow (Nat.le_refl _) (fun k h => by cases h); obtain ⟨w2, hcp, hb2, hsz, hcell⟩ := copy_all (c := c0) (d := d) Try.underlying22 size5 hcur hlen (fun i h => by rw [hb1.cell (p := x.add i) (by rw [add_block]; exact hx'.out)]; exact hc'.out i h) hb1 (Nat.le_refl _); have HB := hid hb2; have HC : Hid (∀ i, i < n → w2.cell? ⟨w.heap.size, 0 + i, none⟩ = some (.int .u8 (d i))) := (fun i h => by rw [Nat.zero_add]; exact hcell i h); clear hb2 hsz hcell hb1 hcur hlen hown hgrow))
  have hcp : w2.cell? ⟨w.heap.size, p, none⟩ = some (.int .u8 (d p)) := by have := HC.out p hp; rwa [Nat.zero_add] at this
  by_cases h45 : d p = 45
  · have Hch := hid (show d p = 45 ∨ (48 ≤ d p ∧ d p ≤ 57) from .inl h45)
    rw [h45] at hcp
    clear h45
    go_wp2_with fail
    refine (Hvn.out _ HC.out).mono ?_
    rintro e w2 ⟨r, rfl, rfl, hr⟩
    rcases hr with rfl | ⟨m, rfl, h1, h2, h3⟩
    · go_wp2
      go_ret
      exact ⟨rfl, HB.out⟩
    · have h0 : 0 ≤ (m : Int) := by omega
      by_cases hmn : m < n
      · have hcm : w2.cell? ⟨w.heap.size, m, none⟩ = some (.int .u8 (d m)) := by have := HC.out m hmn; rwa [Nat.zero_add] at this
        by_cases hdl : Pl.delim (d m) = true
        · have hE := Hve.out _ HC.out
          rw [num_end hp Hch.out h1 h2 h3 (fun _ => hdl)] at hE
          have HE := hid hE
          clear hE h3
          go_wp2_with (first | (go_at_call 15; refine (isDelim_any _ _).mono ?_; rintro e w2 ⟨rfl, rfl⟩) | (go_at_call 16; refine HE.out.mono ?_; rintro e w2 ⟨rfl, rfl⟩))
          go_ret
          exact ⟨ret_bool (by simp), HB.out⟩
        · have hdl' : Pl.delim (d m) = false := by simpa using hdl
          clear hdl h3
          go_wp2_with (first | (go_at_call 15; refine (isDelim_any _ _).mono ?_; rintro e w2 ⟨rfl, rfl⟩))
          go_ret
          exact ⟨rfl, HB.out⟩
      · obtain rfl : m = n := by omega
        have hE := Hve.out _ HC.out
        rw [num_end hp Hch.out h1 h2 h3 (fun h => by omega)] at hE
        have HE := hid hE
        clear hE h3
        go_wp2_with (first | (go_at_call 16; refine HE.out.mono ?_; rintro e w2 ⟨rfl, rfl⟩))
        go_ret
        exact ⟨ret_bool (by simp), HB.out⟩
  · have h45' : (d p != 45) = true := by simpa using h45
    by_cases h48 : 48 ≤ d p
    · by_cases h57 : d p ≤ 57
      · have Hch := hid (show d p = 45 ∨ (48 ≤ d p ∧ d p ≤ 57) from .inr ⟨h48, h57⟩)
        clear h45
        go_wp2_with fail
        refine (Hvn.out _ HC.out).mono ?_
        rintro e w2 ⟨r, rfl, rfl, hr⟩
        rcases hr with rfl | ⟨m, rfl, h1, h2, h3⟩
        · go_wp2
          go_ret
          exact ⟨rfl, HB.out⟩
        · have h0 : 0 ≤ (m : Int) := by omega
          by_cases hmn : m < n
          · have hcm : w2.cell? ⟨w.heap.size, m, none⟩ = some (.int .u8 (d m)) := by have := HC.out m hmn; rwa [Nat.zero_add] at this
            by_cases hdl : Pl.delim (d m) = true
            · have hE := Hve.out _ HC.out
              rw [num_end hp Hch.out h1 h2 h3 (fun _ => hdl)] at hE
              have HE := hid hE
              clear hE h3
              go_wp2_with (first | (go_at_call 15; refine (isDelim_any _ _).mono ?_; rintro e w2 ⟨rfl, rfl⟩) | (go_at_call 16; refine HE.out.mono ?_; rintro e w2 ⟨rfl, rfl⟩))
              go_ret
              exact ⟨ret_bool (by simp), HB.out⟩
            · have hdl' : Pl.delim (d m) = false := by simpa using hdl
              clear hdl h3
              go_wp2_with (first | (go_at_call 15; refine (isDelim_any _ _).mono ?_; rintro e w2 ⟨rfl, rfl⟩))
              go_ret
              exact ⟨rfl, HB.out⟩
          · obtain rfl : m = n := by omega
            have hE := Hve.out _ HC.out
            rw [num_end hp Hch.out h1 h2 h3 (fun h => by omega)] at hE
            have HE := hid hE
            clear hE h3
            go_wp2_with (first | (go_at_call 16; refine HE.out.mono ?_; rintro e w2 ⟨rfl, rfl⟩))
            go_ret
            exact ⟨ret_bool (by simp), HB.out⟩
      · clear h45
        go_wp2_with fail
        go_ret
        exact ⟨rfl, HB.out⟩
    · clear h45
      go_wp2_with fail
      go_ret
      exact ⟨rfl, HB.out⟩

set_option maxHeartbeats 1000000 in
theorem num_big (a : Option Addr) (n c : Nat) (p : Int) (w : World) (h : 1048576 < n) :
    Calls Try.prog 5 #[.slice a n c, .int .i64 p] w fun e w' => e = .returned (.bool true) ∧ Below w.heap.size w w' := by
  have hf : decide (n ≤ 1048576) = false := by simpa using h
  go_enter Try.func5, Try.ntmps5
  go_wp2_with (go_at_call 14; refine (bytes14_any _ _ _ _ _).mono ?_; rintro e w ⟨rfl, rfl⟩)
  go_ret
  exact ⟨rfl, Below.refl _ _⟩

set_option maxHeartbeats 1000000 in
theorem num_out (a : Option Addr) (n c : Nat) (p : Int) (w : World) (hn : n ≤ 1048576) (h : p < 0 ∨ (n : Int) ≤ p) :
    Calls Try.prog 5 #[.slice a n c, .int .i64 p] w fun e w' => e = .returned (.bool true) ∧ Below w.heap.size w w' := by
  have hn' : (n : Int) ≤ 1048576 := by omega
  by_cases h0 : p < 0
  · go_enter Try.func5, Try.ntmps5
    go_wp2_with (go_at_call 14; refine (bytes14_any _ _ _ _ _).mono ?_; rintro e w ⟨rfl, rfl⟩)
    go_ret
    exact ⟨rfl, Below.refl _ _⟩
  · have h1 : (n : Int) ≤ p := by omega
    have h2 : 0 ≤ p := by omega
    clear h h0
    go_enter Try.func5, Try.ntmps5
    go_wp2_with (go_at_call 14; refine (bytes14_any _ _ _ _ _).mono ?_; rintro e w ⟨rfl, rfl⟩)
    go_ret
    exact ⟨rfl, Below.refl _ _⟩
end Go.Proofs.Qxb6000523a
