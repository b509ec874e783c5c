/-
  THE WALK of internal/strconv.ParseUint (27), base 10, over a text of digits.
-/
import Derived.Test.Qxb6000918aDoorItoa
import Derived.Deep.CutBlock
import Derived.Deep.DeepCutAuto
namespace Go.Proofs.Qxb6000918aDoor
open Go.RowKit

/-- '[]byte(s)' for reading. -/
theorem bytes_any (s : ByteArray) (w : World) : ∃ cap w1, (convert 9 37 (.string s)).run Tryd.prog w = .ok (.slice (some ⟨w.heap.size, 0, none⟩) s.size cap) w1 ∧ (∀ (j : Nat) (hj : j < s.data.toList.length), w1.cell? ⟨w.heap.size, j, none⟩ = some (.int .u8 ((s.data.toList[j]).toNat : Int))) ∧ Below w.heap.size w w1 := by
  refine ⟨_, _, run_bytes_of_string w 9 37 5 s Tryd.underlying9 Tryd.underlying37 Tryd.underlying5, fun j hj => ?_, ?_⟩
  · have e : w.heap.size = w.drew.heap.size := rfl
    rw [e, World.cell?_alloc_mark, bytesRow_at _ _ _ (by simpa using hj)]
    simp
  · exact ((Below.refl _ _).drew).alloc (Nat.le_refl _) _

theorem wrap_max : IntKind.u64.wrap (IntKind.u64.wrap 18446744073709551616 - 1) = 18446744073709551615 := by decide
theorem nonempty {s : ByteArray} (h1 : 1 ≤ s.size) : s.toList.isEmpty = false := by
  rw [ByteArray.toList_eq]
  cases hl : s.data.toList with
  | nil => exact absurd (congrArg List.length hl) (by simp; intro e; rw [e] at h1; exact absurd h1 (by decide))
  | cons _ _ => rfl

set_option maxRecDepth 100000 in
set_option maxHeartbeats 4000000 in
theorem puint_any (s : ByteArray) (w : World) (h1 : 1 ≤ s.size) (h2 : s.size ≤ 1000) (hd : ∀ z ∈ s.data.toList, 48 ≤ z.toNat ∧ z.toNat ≤ 57) (hv : Pl.val s.data.toList ≤ 9223372036854775808) :
    Calls Tryd.prog 27 #[.string s, .int .i64 10, .int .i64 64] w fun e w' => e = .returned (.tuple #[.int .u64 (Pl.val s.data.toList), .nilIface]) ∧ Below w.heap.size w w' := by
  obtain ⟨cap, w1, hcv, hcl, hbe⟩ := bytes_any s w
  have HC := hid hcl
  have HB := hid hbe
  have HD := hid hd
  have HV := hid hv
  have hne : s.toList.isEmpty = false := nonempty h1
  have hsz : s.data.toList.length = s.size := by simp
  clear hcl hbe hd hv
  go_enter Tryd.func27, Tryd.ntmps27
  go_wp2
  rw [wrap_max]
  go_loopg [12, 13, 101] s.size (fun gk b n i wr => ∃ j : Nat, gk = s.size - j ∧ j ≤ s.size ∧ b = .bool false ∧ n = .int .u64 (Pl.val (s.data.toList.take j)) ∧ i = .int .i64 j ∧ wr = w1)
  case atStart => exact ⟨0, by omega, by omega, rfl, rfl, rfl, rfl⟩
  case round =>
    obtain ⟨j, rfl, hj, rfl, rfl, rfl, rfl⟩ := hrel
    by_cases hjs : j < s.size
    · have hlt : decide ((j : Int) < (s.size : Int)) = true := by simp; omega
      have hjl : j < s.data.toList.length := by omega
      have hcell := HC.out j hjl
      obtain ⟨hb1, hb2⟩ := HD.out _ (List.getElem_mem hjl)
      have Hval := hid (Pl.val_take_succ s.data.toList j hjl)
      have hmax := Pl.val_take_ten s.data.toList j hjl
      have hvv := HV.out
      have hsum : Pl.val (s.data.toList.take j) * 10 + (s.data.toList[j].toNat - 48) ≤ 9223372036854775808 := by omega
      clear hmax hvv
      generalize s.data.toList[j].toNat = x at hcell hb1 hb2 Hval hsum
      generalize hV : Pl.val (s.data.toList.take j) = V at Hval hsum
      have Hsum : Hid (V * 10 + (x - 48) ≤ 9223372036854775808) := hsum
      have t1 : ((x : Int) == 95) = false := beq_eq_false_iff_ne.2 (by omega)
      have t2 : decide ((48 : Int) ≤ (x : Int)) = true := by simp; omega
      have t3 : decide ((x : Int) ≤ (57 : Int)) = true := by simp; omega
      have t4 : decide ((x : Int) - 48 ≥ 10) = false := by simp; omega
      have t5 : decide ((V : Int) ≥ 1844674407370955162) = false := decide_eq_false (by omega)
      have t6 : decide ((V : Int) * 10 + ((x : Int) - 48) < (V : Int) * 10) = false := decide_eq_false (by omega)
      have t7 : decide ((V : Int) * 10 + ((x : Int) - 48) > 18446744073709551615) = false := decide_eq_false (by omega)
      have b1 : (V : Int) * 10 ≤ 9223372036854775808 := by omega
      have b2 : (V : Int) * 10 + ((x : Int) - 48) ≤ 9223372036854775808 := by omega
      clear hsum
      go_wp2
      go_roundg (s.size - (j + 1))
      case measure => omega
      case rel => exact ⟨j + 1, rfl, by omega, rfl, by rw [Hval.out]; exact congrArg (Value.int .u64) (by omega), by go_num, rfl⟩
    · have hlt : decide ((j : Int) < (s.size : Int)) = false := by simp; omega
      have hjj : j = s.size := by omega
      subst hjj
      go_wp2
      go_ret2
      refine ⟨?_, HB.out⟩
      rw [List.take_of_length_le (by omega)]
      rfl

end Go.Proofs.Qxb6000918aDoor
