/-
  THE WALK of internal/strconv.ParseInt (22) and of strconv.ParseInt (18), base 10.
-/
import Derived.Test.Qxb6000918aDoorUint
import Derived.Lib.IndexBytes
namespace Go.Proofs.Qxb6000918aDoor
open Go.RowKit

theorem at0 (s : ByteArray) (h : 0 < s.size) (c : UInt8) (l : List UInt8) (hl : s.data.toList = c :: l) : (s[0]'h) = c := by
  have : s.data.toList[0]? = some c := by rw [hl]; rfl
  rw [Array.getElem?_toList] at this
  obtain ⟨h', e⟩ := Array.getElem?_eq_some_iff.1 this
  exact e

set_option maxRecDepth 100000 in
set_option maxHeartbeats 400000 in
theorem pint_pos (s : ByteArray) (w : World) (h1 : 1 ≤ s.size) (h2 : s.size ≤ 1000) (hd : ∀ z ∈ s.data.toList, 48 ≤ z.toNat ∧ z.toNat ≤ 57) (hv : Pl.val s.data.toList < 9223372036854775808) :
    Calls Tryd.prog 22 #[.string s, .int .i64 10, .int .i64 64] w fun e w' => e = .returned (.tuple #[.int .i64 (Pl.val s.data.toList), .nilIface]) ∧ Below w.heap.size w w' := by
  have HP := hid (puint_any s w h1 h2 hd (Nat.le_of_lt hv))
  have hsz : s.data.toList.length = s.size := by simp
  have hne : s.toList.isEmpty = false := nonempty h1
  have h0 : 48 ≤ (s[0]'h1).toNat := (hd (s[0]'h1) (Array.getElem_mem_toList ..)).1
  have c1 : (((s[0]'h1).toNat : Int) == 43) = false := beq_eq_false_iff_ne.2 (by omega)
  have c2 : (((s[0]'h1).toNat : Int) == 45) = false := beq_eq_false_iff_ne.2 (by omega)
  have HD := hid hd
  clear hd
  generalize hV : Pl.val s.data.toList = V at hv HP
  have t1 : decide ((V : Int) ≥ 9223372036854775808) = false := decide_eq_false (by omega)
  go_enter Tryd.func22, Tryd.ntmps22
  go_wp2_with (go_at_call 27; refine HP.out.mono ?_; rintro e w1 ⟨rfl, hb⟩; have HB := hid hb; clear hb)
  go_ret2
  exact ⟨rfl, HB.out⟩

theorem tail_data {s : ByteArray} {c : UInt8} {l : List UInt8} (h : s.data.toList = c :: l) : (s.extract 1 s.size).data.toList = l := by
  have : (s.extract 1 s.size).data.toList = s.data.toList.drop 1 := by
    rw [Lib.extract_to_end]
  rw [this, h]; rfl

theorem wrap_min : wrap64 (-wrap64 9223372036854775808) = -9223372036854775808 := by kernel_rfl
theorem size_of {s : ByteArray} {l : List UInt8} (h : s.data.toList = l) : s.size = l.length := by rw [← h]; simp

set_option maxRecDepth 100000 in
set_option maxHeartbeats 400000 in
theorem pint_neg (s : ByteArray) (l : List UInt8) (hl : s.data.toList = 45 :: l) (w : World) (h1 : 1 ≤ l.length) (h2 : l.length ≤ 100) (hd : ∀ z ∈ l, 48 ≤ z.toNat ∧ z.toNat ≤ 57) (hv : Pl.val l ≤ 9223372036854775808) :
    Calls Tryd.prog 22 #[.string s, .int .i64 10, .int .i64 64] w fun e w' => e = .returned (.tuple #[.int .i64 (-(Pl.val l : Int)), .nilIface]) ∧ Below w.heap.size w w' := by
  have ht := tail_data hl
  have hsz : s.size = l.length + 1 := size_of hl
  have hs1 : 1 ≤ s.size := by omega
  have hs2 : s.size ≤ 1000 := by omega
  have HP := hid (puint_any (s.extract 1 s.size) w (by rw [size_of ht]; exact h1) (by rw [size_of ht]; omega) (by rw [ht]; exact hd) (by rw [ht]; exact hv))
  rw [ht] at HP
  have hne : s.toList.isEmpty = false := nonempty hs1
  have h0 : (s[0]'hs1) = 45 := at0 s hs1 45 l hl
  have c1 : (((s[0]'hs1).toNat : Int) == 43) = false := by rw [h0]; rfl
  have c2 : (((s[0]'hs1).toNat : Int) == 45) = true := by rw [h0]; rfl
  clear hd ht hl h0
  obtain ⟨V, hV⟩ : ∃ V : Int, (Pl.val l : Int) = V := ⟨_, rfl⟩
  have hV1 : V ≤ 9223372036854775808 := by omega
  have hV0 : 0 ≤ V := by omega
  rw [hV] at HP ⊢
  clear hV hv hsz h1 h2
  by_cases hm : V = 9223372036854775808
  · subst hm
    go_enter Tryd.func22, Tryd.ntmps22
    go_wp2_with (go_at_call 27; refine HP.out.mono ?_; rintro e w1 ⟨rfl, hb⟩; have HB := hid hb; clear hb)
    go_ret2
    refine ⟨?_, HB.out⟩
    rw [wrap_min]
    rfl
  · have hm2 : V ≤ 9223372036854775807 := by omega
    have t1 : decide (V > 9223372036854775808) = false := decide_eq_false (by omega)
    go_enter Tryd.func22, Tryd.ntmps22
    go_wp2_with (go_at_call 27; refine HP.out.mono ?_; rintro e w1 ⟨rfl, hb⟩; have HB := hid hb; clear hb)
    go_ret2
    exact ⟨rfl, HB.out⟩

set_option maxHeartbeats 400000 in
/-- strconv.ParseInt hands on what internal/strconv.ParseInt reads. -/
theorem parse_of (s : ByteArray) (n : Int) (w : World) (h : Calls Tryd.prog 22 #[.string s, .int .i64 10, .int .i64 64] w fun e w' => e = .returned (.tuple #[.int .i64 n, .nilIface]) ∧ Below w.heap.size w w') :
    Calls Tryd.prog 18 #[.string s, .int .i64 10, .int .i64 64] w fun e w' => e = .returned (.tuple #[.int .i64 n, .nilIface]) ∧ Below w.heap.size w w' := by
  have HP := hid h
  clear h
  go_enter Tryd.func18, Tryd.ntmps18
  go_wp2_with (go_at_call 22; refine HP.out.mono ?_; rintro e w1 ⟨rfl, hb⟩; have HB := hid hb; clear hb)
  go_ret2
  exact ⟨rfl, HB.out⟩

theorem itoa_facts {n : Int} (h1 : -9223372036854775808 ≤ n) (h2 : n ≤ 9223372036854775807) : (∀ z ∈ Pl.dg n.natAbs, 48 ≤ z.toNat ∧ z.toNat ≤ 57) ∧ Pl.val (Pl.dg n.natAbs) = n.natAbs ∧ 1 ≤ (Pl.dg n.natAbs).length ∧ (Pl.dg n.natAbs).length ≤ 19 :=
  ⟨Pl.dg_digit (by omega), Pl.val_dg (by omega), Pl.dg_pos _, (Pl.dg_len _ 18 (by omega)).1 (by omega)⟩

/-- strconv.ParseInt reads what was written. -/
theorem parse_any (s : ByteArray) (n : Int) (w : World) (h1 : -9223372036854775808 ≤ n) (h2 : n ≤ 9223372036854775807) (hs : s.data.toList = Pl.itoa n) :
    Calls Tryd.prog 18 #[.string s, .int .i64 10, .int .i64 64] w fun e w' => e = .returned (.tuple #[.int .i64 n, .nilIface]) ∧ Below w.heap.size w w' := by
  obtain ⟨f1, f2, f3, f4⟩ := itoa_facts h1 h2
  apply parse_of
  unfold Pl.itoa at hs
  by_cases hn : n < 0
  · rw [if_pos hn] at hs
    have := pint_neg s _ hs w f3 (by omega) f1 (by omega)
    rw [f2, show -((n.natAbs : Nat) : Int) = n by omega] at this
    exact this
  · rw [if_neg hn] at hs
    have hz := size_of hs
    have := pint_pos s w (by omega) (by omega) (by rw [hs]; exact f1) (by rw [hs, f2]; omega)
    rw [hs, f2, show ((n.natAbs : Nat) : Int) = n by omega] at this
    exact this
end Go.Proofs.Qxb6000918aDoor
