/-
  THE WALK of keyOf (15) over what zzItoa writes.
-/
import Derived.Test.Qxb6000918aDoorParse
namespace Go.Proofs.Qxb6000918aDoor
open Go.RowKit

theorem w64 {n : Int} (h1 : -9223372036854775808 ≤ n) (h2 : n ≤ 9223372036854775807) : wrap64 n = n := by unfold wrap64; omega

/-- One round of the digits' loop. -/
theorem key_step {t : ByteArray} {j x : Nat} {K : Int} (hj : j < t.size) (hd : ∀ z ∈ t.data.toList, 48 ≤ z.toNat ∧ z.toNat ≤ 57) (hx : Pl.val (t.data.toList.take (j + 1)) = Pl.val (t.data.toList.take j) * 10 + (x - 48)) (h1 : 48 ≤ x) (h2 : x ≤ 57) (hK : t.size ≤ 18 → K = Pl.val (t.data.toList.take j)) :
    t.size ≤ 18 → wrap64 (wrap64 (K * 10) + ((x : Int) - 48)) = Pl.val (t.data.toList.take (j + 1)) := by
  intro hs
  have hb := Pl.val_take_bd t.data.toList hd (j + 1) (by simp; omega)
  have h18 : 10 ^ (j + 1) ≤ 10 ^ 18 := Nat.pow_le_pow_right (by decide) (by omega)
  rw [hK hs]
  rw [hx] at hb ⊢
  have e1 : wrap64 ((Pl.val (t.data.toList.take j) : Int) * 10) = (Pl.val (t.data.toList.take j) : Int) * 10 := w64 (by omega) (by omega)
  rw [e1, w64 (by omega) (by omega)]
  omega

set_option maxRecDepth 100000 in
set_option maxHeartbeats 1000000 in
theorem key_pos (s : ByteArray) (M : Nat) (w : World) (h1 : 1 ≤ s.size) (h2 : s.size ≤ 19) (hd : ∀ z ∈ s.data.toList, 48 ≤ z.toNat ∧ z.toNat ≤ 57) (hv : Pl.val s.data.toList = M) (h48 : ((s[0]'h1).toNat : Int) ≠ 48)
    (hp : ∀ w, Calls Tryd.prog 18 #[.string s, .int .i64 10, .int .i64 64] w fun e w' => e = .returned (.tuple #[.int .i64 M, .nilIface]) ∧ Below w.heap.size w w') :
    Calls Tryd.prog 15 #[.string s] w fun e w' => e = .returned (.tuple #[.int .i64 M, .int .u8 1]) ∧ Below w.heap.size w w' := by
  obtain ⟨cap, w1, hcv, hcl, hbe⟩ := bytes_any s w
  have HC := hid hcl
  have HB := hid hbe
  have HD := hid hd
  have HP := hid hp
  have h0 : 48 ≤ (s[0]'h1).toNat := (hd (s[0]'h1) (Array.getElem_mem_toList ..)).1
  have c1 : (((s[0]'h1).toNat : Int) == 43) = false := beq_eq_false_iff_ne.2 (by omega)
  have c2 : (((s[0]'h1).toNat : Int) == 45) = false := beq_eq_false_iff_ne.2 (by omega)
  have c3 : (((s[0]'h1).toNat : Int) == 48) = false := beq_eq_false_iff_ne.2 h48
  have hne : s.toList.isEmpty = false := nonempty h1
  have hsz : s.data.toList.length = s.size := by simp
  clear hcl hbe hd hp h48
  go_enter Tryd.func15, Tryd.ntmps15
  go_wp2
  go_loopg [5, 30] s.size (fun gk b i wr => ∃ (j : Nat) (K : Int), gk = s.size - j ∧ j ≤ s.size ∧ b = .int .i64 K ∧ i = .int .i64 j ∧ wr = w1 ∧ Hid (s.size ≤ 18 → K = Pl.val (s.data.toList.take j)))
  case atStart => exact ⟨0, 0, by omega, by omega, rfl, rfl, rfl, fun _ => rfl⟩
  case round =>
    obtain ⟨j, K, rfl, hj, rfl, rfl, rfl, HK⟩ := hrel
    by_cases hjs : j < s.size
    · have hlt : decide ((j : Int) < (s.size : Int)) = true := by simp; omega
      have hjl : j < s.data.toList.length := by omega
      have hcell := HC.out j hjl
      obtain ⟨hb1, hb2⟩ := HD.out _ (List.getElem_mem hjl)
      have hval := Pl.val_take_succ s.data.toList j hjl
      generalize s.data.toList[j].toNat = x at hcell hb1 hb2 hval
      have HS := hid (key_step hjs HD.out hval hb1 hb2 HK.out)
      have t2 : decide ((x : Int) < 48) = false := by simp; omega
      have t3 : decide ((x : Int) > 57) = false := by simp; omega
      clear hval
      go_wp2
      go_roundg (s.size - (j + 1))
      case measure => omega
      case rel => exact ⟨j + 1, _, rfl, by omega, rfl, by go_num, rfl, HS⟩
    · have hlt : decide ((j : Int) < (s.size : Int)) = false := by simp; omega
      have hjj : j = s.size := by omega
      subst hjj
      by_cases h18 : s.size ≤ 18
      · have t4 : decide ((s.size : Int) > 18) = false := by simp; omega
        have HKK : Hid (K = M) := by
          have := HK.out h18
          rw [List.take_of_length_le (by omega), hv] at this
          exact this
        go_wp2
        go_ret2
        rw [HKK.out]
        exact ⟨rfl, HB.out⟩
      · have t4 : decide ((s.size : Int) > 18) = true := by simp; omega
        go_wp2_with (go_at_call 18; refine (HP.out wr).mono ?_; rintro e w2 ⟨rfl, hb⟩; have HB2 := hid hb; clear hb)
        go_ret2
        exact ⟨rfl, HB.out.trans (Below.mono HB2.out HB.out.size)⟩
theorem slice_one (s : ByteArray) (h : 1 ≤ s.size) (w : World) : (Instr.sliceAt 9 (.string s) (some (.int .i64 1)) none none).run Tryd.prog w = .ok (.string (s.extract 1 s.size)) w := by
  rw [run_sliceAt_string w 9 _ _ _ _ Tryd.underlying9, run_slice_string_from_if w 9 s .i64 1 Tryd.underlying9, if_pos ⟨by decide, by omega⟩]
  rfl

set_option maxRecDepth 100000 in
set_option maxHeartbeats 1000000 in
theorem key_neg (s t : ByteArray) (n : Int) (w : World) (hs1 : 1 ≤ s.size) (hs0 : (s[0]'hs1) = 45) (hst : s.extract 1 s.size = t) (h1 : 1 ≤ t.size) (h2 : t.size ≤ 19) (hd : ∀ z ∈ t.data.toList, 48 ≤ z.toNat ∧ z.toNat ≤ 57) (hv : -(Pl.val t.data.toList : Int) = n) (hn1 : -9223372036854775808 ≤ n) (hn2 : n ≤ 9223372036854775807) (h48 : ((t[0]'h1).toNat : Int) ≠ 48)
    (hp : ∀ w, Calls Tryd.prog 18 #[.string s, .int .i64 10, .int .i64 64] w fun e w' => e = .returned (.tuple #[.int .i64 n, .nilIface]) ∧ Below w.heap.size w w') :
    Calls Tryd.prog 15 #[.string s] w fun e w' => e = .returned (.tuple #[.int .i64 n, .int .u8 1]) ∧ Below w.heap.size w w' := by
  obtain ⟨cap, w1, hcv, hcl, hbe⟩ := bytes_any t w
  have HC := hid hcl
  have HB := hid hbe
  have HD := hid hd
  have HP := hid hp
  have h0 : 48 ≤ (t[0]'h1).toNat := (hd (t[0]'h1) (Array.getElem_mem_toList ..)).1
  have c1 : (((s[0]'hs1).toNat : Int) == 43) = false := by rw [hs0]; rfl
  have c2 : (((s[0]'hs1).toNat : Int) == 45) = true := by rw [hs0]; rfl
  have c3 : (((t[0]'h1).toNat : Int) == 48) = false := beq_eq_false_iff_ne.2 h48
  have hsl : ∀ wx, (Instr.sliceAt 9 (.string s) (some (.int .i64 1)) none none).run Tryd.prog wx = .ok (.string t) wx := fun wx => by rw [← hst]; exact slice_one s hs1 wx
  have hes : s.toList.isEmpty = false := nonempty hs1
  have HN := hid hv
  have hne : t.toList.isEmpty = false := nonempty h1
  have hsz : t.data.toList.length = t.size := by simp
  clear hcl hbe hd hp h48 hst hs0 h0 hv
  go_enter Tryd.func15, Tryd.ntmps15
  go_wp2
  go_loopg [5, 30] t.size (fun gk b i wr => ∃ (j : Nat) (K : Int), gk = t.size - j ∧ j ≤ t.size ∧ b = .int .i64 K ∧ i = .int .i64 j ∧ wr = w1 ∧ Hid (t.size ≤ 18 → K = Pl.val (t.data.toList.take j)))
  case atStart => exact ⟨0, 0, by omega, by omega, rfl, rfl, rfl, fun _ => rfl⟩
  case round =>
    obtain ⟨j, K, rfl, hj, rfl, rfl, rfl, HK⟩ := hrel
    by_cases hjs : j < t.size
    · have hlt : decide ((j : Int) < (t.size : Int)) = true := by simp; omega
      have hjl : j < t.data.toList.length := by omega
      have hcell := HC.out j hjl
      obtain ⟨hb1, hb2⟩ := HD.out _ (List.getElem_mem hjl)
      have hval := Pl.val_take_succ t.data.toList j hjl
      generalize t.data.toList[j].toNat = x at hcell hb1 hb2 hval
      have HS := hid (key_step hjs HD.out hval hb1 hb2 HK.out)
      have t2 : decide ((x : Int) < 48) = false := by simp; omega
      have t3 : decide ((x : Int) > 57) = false := by simp; omega
      clear hval
      go_wp2
      go_roundg (t.size - (j + 1))
      case measure => omega
      case rel => exact ⟨j + 1, _, rfl, by omega, rfl, by go_num, rfl, HS⟩
    · have hlt : decide ((j : Int) < (t.size : Int)) = false := by simp; omega
      have hjj : j = t.size := by omega
      subst hjj
      by_cases h18 : t.size ≤ 18
      · have t4 : decide ((t.size : Int) > 18) = false := by simp; omega
        have HKK : Hid (-K = n) := by
          have := HK.out h18
          rw [List.take_of_length_le (by omega)] at this
          rw [this]
          exact HN.out
        go_wp2
        go_ret2
        rw [HKK.out, w64 hn1 hn2]
        exact ⟨rfl, HB.out⟩
      · have t4 : decide ((t.size : Int) > 18) = true := by simp; omega
        go_wp2_with (go_at_call 18; refine (HP.out wr).mono ?_; rintro e w2 ⟨rfl, hb⟩; have HB2 := hid hb; clear hb)
        go_ret2
        exact ⟨rfl, HB.out.trans (Below.mono HB2.out HB.out.size)⟩

set_option maxRecDepth 100000 in
set_option maxHeartbeats 1000000 in
theorem key_zero (s : ByteArray) (hl : s.data.toList = [48]) (w : World) : Calls Tryd.prog 15 #[.string s] w fun e w' => e = .returned (.tuple #[.int .i64 0, .int .u8 1]) ∧ Below w.heap.size w w' := by
  obtain ⟨cap, w1, hcv, hcl, hbe⟩ := bytes_any s w
  have hsz : s.size = 1 := size_of hl
  have h1 : 1 ≤ s.size := by omega
  have hc0 : w1.cell? ⟨w.heap.size, 0, none⟩ = some (.int .u8 48) := by
    rw [hcl 0 (by rw [hl]; decide)]; simp [hl]
  have e0 : (s[0]'h1) = 48 := at0 s h1 48 [] hl
  have c1 : (((s[0]'h1).toNat : Int) == 43) = false := by rw [e0]; rfl
  have c2 : (((s[0]'h1).toNat : Int) == 45) = false := by rw [e0]; rfl
  have c3 : (((s[0]'h1).toNat : Int) == 48) = true := by rw [e0]; rfl
  have c4 : (s.toList == [48]) = true := by rw [ByteArray.toList_eq, hl]; rfl
  have hne : s.toList.isEmpty = false := nonempty h1
  have HB := hid hbe
  rw [hsz] at hcv
  clear hcl hbe e0 hl
  go_enter Tryd.func15, Tryd.ntmps15
  go_wp2
  go_loopg [5, 30] 1 (fun gk b i wr => ∃ (j : Nat), gk = 1 - j ∧ j ≤ 1 ∧ b = .int .i64 0 ∧ i = .int .i64 j ∧ wr = w1)
  case atStart => exact ⟨0, by omega, by omega, rfl, rfl, rfl⟩
  case round =>
    obtain ⟨j, rfl, hj, rfl, rfl, rfl⟩ := hrel
    by_cases hjs : j < 1
    · obtain rfl : j = 0 := by omega
      go_wp2
      go_roundg 0
      case measure => omega
      case rel => exact ⟨1, rfl, by omega, rfl, rfl, rfl⟩
    · obtain rfl : j = 1 := by omega
      go_wp2
      go_ret2
      exact ⟨rfl, HB.out⟩

/-- keyOf reads what was written. -/
theorem key_any (s : ByteArray) (n : Int) (w : World) (h1 : -9223372036854775808 ≤ n) (h2 : n ≤ 9223372036854775807) (hs : s.data.toList = Pl.itoa n) :
    Calls Tryd.prog 15 #[.string s] w fun e w' => e = .returned (.tuple #[.int .i64 n, .int .u8 1]) ∧ Below w.heap.size w w' := by
  have hp := fun w => parse_any s n w h1 h2 hs
  obtain ⟨f1, f2, f3, f4⟩ := itoa_facts h1 h2
  have hhead : n ≠ 0 → ∃ c l, Pl.dg n.natAbs = c :: l ∧ c.toNat ≠ 48 := by
    intro h0
    have := Pl.dgf_head 19 n.natAbs (by omega) (by omega)
    cases hd : Pl.dg n.natAbs with
    | nil => rw [hd] at f3; simp at f3
    | cons c l =>
      refine ⟨c, l, rfl, ?_⟩
      unfold Pl.dg at hd
      rw [hd] at this
      simpa using this
  unfold Pl.itoa at hs
  by_cases hn : n < 0
  · rw [if_pos hn] at hs
    obtain ⟨c, l, hc, h48⟩ := hhead (by omega)
    have ht := tail_data hs
    have hz := size_of hs
    have htz := size_of ht
    rw [List.length_cons] at hz
    clear hhead
    refine key_neg s _ n w (by omega) (at0 s (by omega) 45 _ hs) rfl (by omega) (by omega) (by rw [ht]; exact f1) (by rw [ht, f2]; omega) h1 h2 ?_ hp
    rw [at0 _ _ c l (ht.trans hc)]
    omega
  · rw [if_neg hn] at hs
    by_cases h0 : n = 0
    · subst h0
      exact key_zero s (by rw [hs]; rfl) w
    · obtain ⟨c, l, hc, h48⟩ := hhead h0
      clear hhead
      have hz := size_of hs
      have hp' := hp
      rw [show n = ((n.natAbs : Nat) : Int) by omega] at hp' ⊢
      refine key_pos s _ w (by omega) (by omega) (by rw [hs]; exact f1) (by rw [hs, f2]) ?_ hp'
      rw [at0 _ _ c l (hs.trans hc)]
      omega

end Go.Proofs.Qxb6000918aDoor
