/-
  THE WALKS of rangeOf (17) and ZZrangeOf (13) over '[lo,hi]'.
-/
import Derived.Test.Qxb6000918aDoorCuts
import Derived.Laws.ResultCell
namespace Go.Proofs.Qxb6000918aDoor
open Go.RowKit

theorem itoa_len {n : Int} (h1 : -9223372036854775808 ≤ n) (h2 : n ≤ 9223372036854775807) : 1 ≤ (Pl.itoa n).length ∧ (Pl.itoa n).length ≤ 20 := by
  obtain ⟨_, _, f3, f4⟩ := itoa_facts h1 h2
  unfold Pl.itoa
  split
  · rw [List.length_cons]; omega
  · omega

theorem itoa_comma {n : Int} (h1 : -9223372036854775808 ≤ n) (h2 : n ≤ 9223372036854775807) : (44 : UInt8) ∉ Pl.itoa n := by
  obtain ⟨f1, _, _, _⟩ := itoa_facts h1 h2
  unfold Pl.itoa
  intro hm
  split at hm
  · rcases List.mem_cons.1 hm with e | e
    · exact absurd e (by decide)
    · exact absurd (f1 _ e).1 (by decide)
  · exact absurd (f1 _ hm).1 (by decide)

/-- The text of a range. -/
def rt (lo hi : Int) : List UInt8 := 91 :: ((Pl.itoa lo ++ 44 :: Pl.itoa hi) ++ [93])

theorem base_of {w w3 w4 w5 : World} (h3 : Below (w.alloc (.cells #[.int .i64 0, .int .i64 0] 39)).heap.size (w.alloc (.cells #[.int .i64 0, .int .i64 0] 39)) w3) (h4 : Below w3.heap.size w3 w4) (h5 : Below w4.heap.size w4 w5) :
    Below w.heap.size w w5 ∧ w5.cell? ⟨w.heap.size, 0, none⟩ = some (.int .i64 0) ∧ w5.cell? ⟨w.heap.size, 1, none⟩ = some (.int .i64 0) ∧ w5.frozen? ⟨w.heap.size, 0, none⟩ = false ∧ w5.frozen? ⟨w.heap.size, 1, none⟩ = false := by
  have hs : (w.alloc (.cells #[.int .i64 0, .int .i64 0] 39)).heap.size = w.heap.size + 1 := by simp
  have h : Below (w.heap.size + 1) (w.alloc (.cells #[.int .i64 0, .int .i64 0] 39)) w5 := by
    have := h3.size
    have := h4.size
    rw [hs] at h3
    exact h3.trans ((h4.mono (by omega)).trans (h5.mono (by omega)))
  refine ⟨((Below.refl _ _).alloc (Nat.le_refl _) _).trans (h.mono (by omega)), ?_, ?_, ?_, ?_⟩
  · rw [h.cell (by simp)]; simp
  · rw [h.cell (by simp)]; simp
  · rw [h.frozen (by simp)]; simp
  · rw [h.frozen (by simp)]; simp

set_option maxRecDepth 100000 in
set_option maxHeartbeats 1000000 in
theorem range_any (s : ByteArray) (lo hi : Int) (w : World) (l1 : -9223372036854775808 ≤ lo) (l2 : lo ≤ 9223372036854775807) (u1 : -9223372036854775808 ≤ hi) (u2 : hi ≤ 9223372036854775807) (hs : s.data.toList = rt lo hi) :
    Calls Tryd.prog 17 #[.string s] w fun e w' => e = .returned (.tuple #[.agg #[.int .i64 (if lo ≤ hi then lo else 0), .int .i64 (if lo ≤ hi then hi else 0)], .bool (decide (lo ≤ hi))]) ∧ Below w.heap.size w w' := by
  have ll := itoa_len l1 l2
  have lu := itoa_len u1 u2
  have H19 := hid (fun w => cutPrefix_any s _ hs (by simp; omega) w)
  have H20 := hid (fun t ht w => cutSuffix_any t (Pl.itoa lo ++ 44 :: Pl.itoa hi) ht (by simp; omega) w)
  have H21 := hid (fun t ht w => cut_any t (Pl.itoa lo) (Pl.itoa hi) ht (itoa_comma l1 l2) ll.1 (by omega) (by omega) w)
  have HK1 := hid (fun t ht w => key_any t lo w l1 l2 ht)
  have HK2 := hid (fun t ht w => key_any t hi w u1 u2 ht)
  clear hs ll lu
  by_cases hlh : lo ≤ hi
  · have hg : decide (lo > hi) = false := decide_eq_false (by omega)
    simp only [if_pos hlh, decide_eq_true hlh]
    go_enter Tryd.func17, Tryd.ntmps17
    go_upto_region 2 with (go_at_call 19; refine (H19.out _).mono ?_; rintro e w1 ⟨⟨t1, rfl, ht⟩, rfl⟩; have HT1 := hid ht; clear ht)
    go_upto_region 5 with (go_at_call 20; refine (H20.out t1 HT1.out _).mono ?_; rintro e w2 ⟨⟨t2, rfl, ht⟩, rfl⟩; have HT2 := hid ht; clear ht)
    go_upto_region 6 with (go_at_call 21; refine (H21.out t2 HT2.out _).mono ?_; rintro e w3 ⟨⟨t3, t4, rfl, ht⟩, hb⟩; have HT3 := hid ht; have HB3 := hid hb; clear ht hb)
    go_upto_region 7 with (go_at_call 15; refine (HK1.out t3 HT3.out.1 _).mono ?_; rintro e w4 ⟨rfl, hb⟩; have HB4 := hid hb; clear hb)
    go_upto_region 8 with (go_at_call 15; refine (HK2.out t4 HT3.out.2 _).mono ?_; rintro e w5 ⟨rfl, hb⟩; have HB5 := hid hb; clear hb)
    have HS := hid (base_of HB3.out HB4.out HB5.out)
    have hc0 := HS.out.2.1
    have hc1 := HS.out.2.2.1
    have hf0 := HS.out.2.2.2.1
    have hf1 := HS.out.2.2.2.2
    go_wp2
    refine bodyPost_ret (v := .tuple #[.agg #[.int .i64 lo, .int .i64 hi], .bool true]) ?_ rfl ⟨rfl, ?_⟩
    · rw [results_cell_tmp rfl]
      go_simp
    · exact (HS.out.1.setCell (Nat.le_refl _) _).setCell (Nat.le_refl _) _
  · have hg : decide (lo > hi) = true := decide_eq_true (by omega)
    simp only [if_neg hlh, decide_eq_false hlh]
    go_enter Tryd.func17, Tryd.ntmps17
    go_upto_region 2 with (go_at_call 19; refine (H19.out _).mono ?_; rintro e w1 ⟨⟨t1, rfl, ht⟩, rfl⟩; have HT1 := hid ht; clear ht)
    go_upto_region 5 with (go_at_call 20; refine (H20.out t1 HT1.out _).mono ?_; rintro e w2 ⟨⟨t2, rfl, ht⟩, rfl⟩; have HT2 := hid ht; clear ht)
    go_upto_region 6 with (go_at_call 21; refine (H21.out t2 HT2.out _).mono ?_; rintro e w3 ⟨⟨t3, t4, rfl, ht⟩, hb⟩; have HT3 := hid ht; have HB3 := hid hb; clear ht hb)
    go_upto_region 7 with (go_at_call 15; refine (HK1.out t3 HT3.out.1 _).mono ?_; rintro e w4 ⟨rfl, hb⟩; have HB4 := hid hb; clear hb)
    go_upto_region 8 with (go_at_call 15; refine (HK2.out t4 HT3.out.2 _).mono ?_; rintro e w5 ⟨rfl, hb⟩; have HB5 := hid hb; clear hb)
    have HS := hid (base_of HB3.out HB4.out HB5.out)
    have hc0 := HS.out.2.1
    have hc1 := HS.out.2.2.1
    have hf0 := HS.out.2.2.2.1
    have hf1 := HS.out.2.2.2.2
    go_wp2
    refine bodyPost_ret (v := .tuple #[.agg #[.int .i64 0, .int .i64 0], .bool false]) ?_ rfl ⟨rfl, ?_⟩
    · rw [results_cell_tmp rfl]
      go_simp
    · exact (HS.out.1.setCell (Nat.le_refl _) _).setCell (Nat.le_refl _) _

set_option maxHeartbeats 1000000 in
theorem zz_any (s : ByteArray) (lo hi : Int) (w : World) (l1 : -9223372036854775808 ≤ lo) (l2 : lo ≤ 9223372036854775807) (u1 : -9223372036854775808 ≤ hi) (u2 : hi ≤ 9223372036854775807) (hs : s.data.toList = rt lo hi) :
    Calls Tryd.prog 13 #[.string s] w fun e w' => e = .returned (.tuple #[.int .i64 (if lo ≤ hi then lo else 0), .int .i64 (if lo ≤ hi then hi else 0), .bool (decide (lo ≤ hi))]) ∧ Below w.heap.size w w' := by
  have HR := hid (range_any s lo hi w l1 l2 u1 u2 hs)
  generalize hA : (if lo ≤ hi then lo else 0) = A at HR
  generalize hB : (if lo ≤ hi then hi else 0) = B at HR
  generalize hC : decide (lo ≤ hi) = C at HR
  clear hs hA hB hC l1 l2 u1 u2
  go_enter Tryd.func13, Tryd.ntmps13
  go_upto_region 2 with (go_at_call 17; refine HR.out.mono ?_; rintro e w1 ⟨rfl, hb⟩; have HB1 := hid hb; clear hb)
  go_quiet (fail)
  go_wp2
  go_ret3
  have e : Below w.heap.size w (w1.alloc (.cells #[.int .i64 A, .int .i64 B] 39)) := HB1.out.alloc HB1.out.size _
  exact ⟨rfl, e.trans ⟨rfl, rfl, rfl, Nat.le_refl _, fun _ _ => rfl⟩⟩
end Go.Proofs.Qxb6000918aDoor
