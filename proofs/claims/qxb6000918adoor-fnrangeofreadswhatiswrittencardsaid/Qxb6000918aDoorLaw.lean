/-
  THE WALK of the law FnRangeOfReadsWhatIsWritten (6).
-/
import Derived.Test.Qxb6000918aDoorRange
namespace Go.Proofs.Qxb6000918aDoor
open Go.RowKit

theorem size_le {s : ByteArray} {l : List UInt8} (h : s.data.toList = l) {n : Nat} (hl : l.length ≤ n) : s.size ≤ n := by rw [size_of h]; exact hl

set_option maxRecDepth 100000 in
set_option maxHeartbeats 1000000 in
theorem law_any (lo hi : Int) (w : World) (l1 : -9223372036854775808 ≤ lo) (l2 : lo ≤ 9223372036854775807) (u1 : -9223372036854775808 ≤ hi) (u2 : hi ≤ 9223372036854775807) :
    Calls Tryd.prog 6 #[.int .i64 lo, .int .i64 hi] w fun e w' => e = .returned (.bool true) ∧ Below w.heap.size w w' := by
  have H11 := hid (fun w => itoa_any lo w l1 l2)
  have H12 := hid (fun w => itoa_any hi w u1 u2)
  have HZ := hid (fun s hs w => zz_any s lo hi w l1 l2 u1 u2 hs)
  go_enter Tryd.func6, Tryd.ntmps6
  go_upto_region 2 with (first
    | (go_at_call 11; refine (H11.out w).mono ?_; rintro e w1 ⟨t1, rfl, ht, hb⟩; have hz1 : t1.size ≤ 20 := size_le ht (itoa_len l1 l2).2; have HT1 := hid ht; have HB1 := hid hb; clear ht hb H11)
    | (go_at_call 11; refine (H12.out w1).mono ?_; rintro e w2 ⟨t2, rfl, ht, hb⟩; have hz2 : t2.size ≤ 20 := size_le ht (itoa_len u1 u2).2; have HT2 := hid ht; have HB2 := hid hb; clear ht hb H12))
  have hs : ((⟨#[91]⟩ : ByteArray) ++ t1 ++ ⟨#[44]⟩ ++ t2 ++ ⟨#[93]⟩).data.toList = rt lo hi := by
    simp [HT1.out, HT2.out, rt]
  generalize ((⟨#[91]⟩ : ByteArray) ++ t1 ++ ⟨#[44]⟩ ++ t2 ++ ⟨#[93]⟩) = s at hs ⊢
  generalize ((⟨#[91]⟩ : ByteArray) ++ t1 ++ ⟨#[44]⟩ ++ t2) = s'
  generalize ((⟨#[91]⟩ : ByteArray) ++ t1 ++ ⟨#[44]⟩) = s''
  generalize ((⟨#[91]⟩ : ByteArray) ++ t1) = s'''
  have HS := hid (HZ.out s hs w2)
  clear hs HZ
  by_cases hlh : lo ≤ hi
  · have t1 : decide (lo ≤ hi) = true := decide_eq_true hlh
    rw [t1, if_pos hlh, if_pos hlh] at HS
    go_wp2_with (go_at_call 13; refine HS.out.mono ?_; rintro e w3 ⟨rfl, hb⟩; have HB3 := hid hb; clear hb)
    go_ret
    exact ⟨rfl, HB1.out.trans ((HB2.out.mono HB1.out.size).trans (HB3.out.mono (Nat.le_trans HB1.out.size HB2.out.size)))⟩
  · have t1 : decide (lo ≤ hi) = false := decide_eq_false hlh
    rw [t1, if_neg hlh, if_neg hlh] at HS
    go_wp2_with (go_at_call 13; refine HS.out.mono ?_; rintro e w3 ⟨rfl, hb⟩; have HB3 := hid hb; clear hb)
    go_ret
    exact ⟨rfl, HB1.out.trans ((HB2.out.mono HB1.out.size).trans (HB3.out.mono (Nat.le_trans HB1.out.size HB2.out.size)))⟩
end Go.Proofs.Qxb6000918aDoor
