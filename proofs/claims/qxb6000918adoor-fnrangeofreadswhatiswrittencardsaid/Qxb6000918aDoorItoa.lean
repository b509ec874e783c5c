/-
  THE WALK of zzItoa (11).
-/
import Derived.Test.Qxb6000918aDoorRows
import Derived.Test.Qxb6000918aDoorPlain
import Derived.WalkKit
import Derived.WalkSpells
import Derived.WalkLawsBesides
import Derived.Laws.IdiomStrings
import Derived.Deep.LoopGhost
namespace Go.Proofs.Qxb6000918aDoor
open Go.RowKit

theorem hid {p : Prop} (h : p) : Hid p := h
theorem ret_bool {a b : Bool} (h : a = b) : Ending.returned (.bool a) = .returned (.bool b) := by rw [h]
theorem ret_int {k : IntKind} {a b : Int} (h : a = b) : Ending.returned (.int k a) = .returned (.int k b) := by rw [h]

/-- The bytes of a row of twenty from i on. -/
def seg (μ : Nat → UInt8) (i : Nat) : List UInt8 := (List.range (20 - i)).map fun j => μ (i + j)
theorem seg_len (μ : Nat → UInt8) (i : Nat) : (seg μ i).length = 20 - i := by simp [seg]
theorem seg_put (μ : Nat → UInt8) (i : Nat) (x : UInt8) (hi : i < 20) : seg (fun j => if j = i then x else μ j) i = x :: seg μ (i + 1) := by
  unfold seg
  rw [show 20 - i = (20 - (i + 1)) + 1 by omega, List.range_succ_eq_map, List.map_cons, List.map_map]
  congr 1
  · simp
  · apply List.map_congr_left
    intro j _
    simp only [Function.comp]
    rw [if_neg (by omega)]
    congr 1
    omega

/-- The array of twenty bytes: block g. -/
structure Tw (g : Nat) (μ : Nat → UInt8) (W0 w : World) : Prop where
  below : Below g W0 w
  size : g < w.heap.size
  cell : ∀ j, j < 20 → w.cell? ⟨g, j, none⟩ = some (.int .u8 ((μ j).toNat : Int))
  fz : ∀ j, j < 20 → w.frozen? ⟨g, j, none⟩ = false

theorem Tw.start (w : World) : Tw w.heap.size (fun _ => 0) w (w.alloc (.cells #[.int .u8 0, .int .u8 0, .int .u8 0, .int .u8 0, .int .u8 0, .int .u8 0, .int .u8 0, .int .u8 0, .int .u8 0, .int .u8 0, .int .u8 0, .int .u8 0, .int .u8 0, .int .u8 0, .int .u8 0, .int .u8 0, .int .u8 0, .int .u8 0, .int .u8 0, .int .u8 0] 36)) := by
  refine ⟨(Below.refl _ _).alloc (Nat.le_refl _) _, by simp, fun j hj => ?_, fun j hj => ?_⟩
  all_goals
    match j, hj with
    | 0, _ => simp
    | 1, _ => simp
    | 2, _ => simp
    | 3, _ => simp
    | 4, _ => simp
    | 5, _ => simp
    | 6, _ => simp
    | 7, _ => simp
    | 8, _ => simp
    | 9, _ => simp
    | 10, _ => simp
    | 11, _ => simp
    | 12, _ => simp
    | 13, _ => simp
    | 14, _ => simp
    | 15, _ => simp
    | 16, _ => simp
    | 17, _ => simp
    | 18, _ => simp
    | 19, _ => simp
    | j + 20, hj => exact absurd hj (by omega)

theorem Tw.put {g : Nat} {μ : Nat → UInt8} {W0 w : World} (h : Tw g μ W0 w) {i : Nat} (hi : i < 20) (x : UInt8) {v : Value} (hv : v = .int .u8 (x.toNat : Int)) : Tw g (fun j => if j = i then x else μ j) W0 (w.setCell ⟨g, i, none⟩ v) := by
  subst hv
  refine ⟨h.below.setCell (Nat.le_refl _) _, by have := h.size; simpa [World.setCell] using this, fun j hj => ?_, fun j hj => by rw [World.frozen?_setCell]; exact h.fz j hj⟩
  by_cases e : j = i
  · subst e
    rw [World.cell?_setCell_same _ _ _ (h.cell j hj)]; simp
  · rw [World.cell?_setCell_other _ _ _ _ (by intro e'; injection e'; omega), h.cell j hj]; simp [e]

theorem size5 (w : World) : (sizeOf 5).run Tryd.prog w = .ok 1 w := by kernel_rfl
theorem arr36 : Tryd.prog.underlying 36 = some (.array (Tryd.prog.arrayLen 36) (Tryd.prog.elem 36)) := by kernel_rfl
theorem len36 : Tryd.prog.arrayLen 36 = 20 := by kernel_rfl
theorem elem36 : Tryd.prog.elem 36 = 5 := by kernel_rfl

theorem slice20 (q g : Nat) (w : World) (hq : q < 20) : (Instr.sliceAt 36 (.pointer (some ⟨g, 0, none⟩)) (some (.int .i64 q)) none none).run Tryd.prog w = .ok (.slice (some ⟨g, q, none⟩) (20 - q) (20 - q)) w := by
  rw [run_sliceAt_array_l w 36 ⟨g, 0, none⟩ arr36 .i64 q (by omega) (by rw [len36]; omega), elem36, size5, len36]
  simp only [Result.andThen, slicedAt, Int.toNat_natCast, Nat.mul_one, Addr.add_lit, Nat.zero_add]
  rw [if_neg (by omega)]

/-- 'string(buf[q:])'. -/
theorem conv20 {g q : Nat} {μ : Nat → UInt8} {W0 w : World} (h : Tw g μ W0 w) (hq : q < 20) : (convert 37 9 (.slice (some ⟨g, q, none⟩) (20 - q) (20 - q))).run Tryd.prog w = .ok (.string ⟨(seg μ q).toArray⟩) w := by
  have := run_convert_bytes_back (P := Tryd.prog) w 37 9 5 ⟨g, q, none⟩ (20 - q) (seg μ q) Tryd.underlying37 Tryd.underlying5 Tryd.underlying9 (fun j hj => by
    rw [seg_len] at hj
    rw [Addr.add_lit, h.cell (q + j) (by omega)]
    simp [seg])
  rw [seg_len] at this
  exact this


theorem seg_full (μ : Nat → UInt8) : seg μ 20 = [] := rfl

/-- The state of the writing loop. -/
def IR (M : Nat) (g : Nat) (w : World) (gk : Nat) (m i : Value) (wr : World) : Prop :=
  ∃ (n k : Nat) (μ : Nat → UInt8), gk = k ∧ m = .int .u64 n ∧ i = .int .i64 k ∧ 1 ≤ k ∧ k ≤ 20 ∧ n < 18446744073709551616 ∧ Tw g μ w wr ∧ Hid (n < 10 ^ (k - 1) ∧ (n = 0 → Pl.dg M = seg μ k) ∧ (0 < n → Pl.dg M = Pl.dg n ++ seg μ k))

theorem IR.start {M : Nat} {w : World} (h1 : 1 ≤ M) (h2 : M ≤ 9223372036854775808) : IR M w.heap.size w 20 (.int .u64 M) (.int .i64 20) (w.alloc (.cells #[.int .u8 0, .int .u8 0, .int .u8 0, .int .u8 0, .int .u8 0, .int .u8 0, .int .u8 0, .int .u8 0, .int .u8 0, .int .u8 0, .int .u8 0, .int .u8 0, .int .u8 0, .int .u8 0, .int .u8 0, .int .u8 0, .int .u8 0, .int .u8 0, .int .u8 0, .int .u8 0] 36)) :=
  ⟨M, 20, fun _ => 0, rfl, rfl, rfl, by omega, by omega, by omega, Tw.start w, by omega, by omega, fun _ => by rw [seg_full, List.append_nil]⟩

theorem step_fact {M n q : Nat} {μ : Nat → UInt8} (hn : 0 < n) (hq : q + 1 ≤ 20) (hb : n < 18446744073709551616) (hp : n < 10 ^ q) (hd : Pl.dg M = Pl.dg n ++ seg μ (q + 1)) :
    1 ≤ q ∧ n / 10 < 10 ^ (q - 1) ∧ (n / 10 = 0 → Pl.dg M = seg (fun j => if j = q then Pl.db (n % 10) else μ j) q) ∧ (0 < n / 10 → Pl.dg M = Pl.dg (n / 10) ++ seg (fun j => if j = q then Pl.db (n % 10) else μ j) q) := by
  have hq1 : 1 ≤ q := by
    rcases Nat.eq_zero_or_pos q with h0 | h0
    · subst h0; simp at hp; omega
    · exact h0
  obtain ⟨r, rfl⟩ : ∃ r, q = r + 1 := ⟨q - 1, by omega⟩
  refine ⟨hq1, by rw [Nat.pow_succ] at hp; rw [Nat.add_sub_cancel]; omega, fun h0 => ?_, fun h0 => ?_⟩
  · rw [hd, Pl.dg_small (by omega), seg_put μ (r + 1) _ (by omega), show n % 10 = n by omega]; rfl
  · rw [hd, Pl.dg_step (by omega) (by omega), seg_put μ (r + 1) _ (by omega), List.append_assoc]; rfl

set_option maxRecDepth 100000 in
set_option maxHeartbeats 1000000 in
theorem itoa_pos (M : Nat) (w : World) (h1 : 1 ≤ M) (h2 : M < 9223372036854775808) :
    Calls Tryd.prog 11 #[.int .i64 M] w fun e w' => ∃ s, e = .returned (.string s) ∧ s.data.toList = Pl.dg M ∧ Below w.heap.size w w' := by
  have hn : decide ((M : Int) < 0) = false := by simp
  have hz : ((M : Int) == 0) = false := beq_eq_false_iff_ne.2 (by omega)
  go_enter Tryd.func11, Tryd.ntmps11
  go_wp2
  go_loopg [4, 6] 20 (fun gk m i wr => IR M w.heap.size w gk m i wr)
  case atStart => exact IR.start h1 (by omega)
  case round =>
    obtain ⟨n, k, μ, rfl, rfl, rfl, hk1, hk2, hnb, hten, HF⟩ := hrel
    by_cases h0 : n = 0
    · subst h0
      have hg : decide (((0 : Nat) : Int) > 0) = false := by simp
      have Hdg : Hid (Pl.dg M = seg μ gk) := HF.out.2.1 rfl
      have hq : gk < 20 := by
        have := congrArg List.length Hdg.out
        rw [seg_len] at this
        have := Pl.dg_pos M
        omega
      have hsl := fun wx => slice20 gk w.heap.size wx hq
      have hcv := conv20 hten hq
      have HT := hid hten
      clear HF hten
      go_wp2
      go_ret
      exact ⟨_, rfl, by simp [Hdg.out], HT.out.below⟩
    · obtain ⟨q, rfl⟩ : ∃ q, gk = q + 1 := ⟨gk - 1, by omega⟩
      have hg : decide ((n : Int) > 0) = true := by simp; omega
      have HS := hid (step_fact (M := M) (μ := μ) (q := q) (n := n) (by omega) hk2 hnb HF.out.1 (HF.out.2.2 (by omega)))
      have hcq := hten.cell q (by omega)
      have hfq := hten.fz q (by omega)
      have Hput := hid (hten.put (i := q) (by omega) (Pl.db (n % 10)) (v := .int .u8 (48 + (n : Int) % 10)) (by rw [Pl.db_nat (by omega)]; rfl))
      clear HF hten
      go_wp2
      go_roundg q
      case measure => omega
      case rel => exact ⟨n / 10, q, _, rfl, by go_num, rfl, HS.out.1, by omega, by omega, Hput.out, HS.out.2⟩

theorem itoa_zero (w : World) :
    Calls Tryd.prog 11 #[.int .i64 0] w fun e w' => ∃ s, e = .returned (.string s) ∧ s.data.toList = Pl.dg 0 ∧ Below w.heap.size w w' := by
  go_enter Tryd.func11, Tryd.ntmps11
  go_wp2
  go_ret
  exact ⟨_, rfl, by simp [Pl.dg_small, Pl.db], Below.refl _ _⟩

set_option maxRecDepth 100000 in
set_option maxHeartbeats 1000000 in
theorem itoa_neg (M : Nat) (n0 : Int) (hM : n0 = -(M : Int)) (w : World) (h1 : 1 ≤ M) (h2 : M ≤ 9223372036854775808) :
    Calls Tryd.prog 11 #[.int .i64 n0] w fun e w' => ∃ s, e = .returned (.string s) ∧ s.data.toList = 45 :: Pl.dg M ∧ Below w.heap.size w w' := by
  have hn : decide (n0 < 0) = true := by simp; omega
  have hz : (-(n0 + 1) + 1 == 0) = false := beq_eq_false_iff_ne.2 (by omega)
  have Hm : Hid (-(n0 + 1) + 1 = M) := by show _ = _; omega
  have hlo : -9223372036854775808 ≤ n0 := by omega
  have hhi : n0 ≤ -1 := by omega
  clear hM
  go_enter Tryd.func11, Tryd.ntmps11
  go_wp2
  go_loopg [4, 6] 20 (fun gk m i wr => IR M w.heap.size w gk m i wr)
  case atStart => rw [Hm.out]; exact IR.start h1 h2
  case round =>
    obtain ⟨n, k, μ, rfl, rfl, rfl, hk1, hk2, hnb, hten, HF⟩ := hrel
    obtain ⟨q, rfl⟩ : ∃ q, gk = q + 1 := ⟨gk - 1, by omega⟩
    have hcq := hten.cell q (by omega)
    have hfq := hten.fz q (by omega)
    by_cases h0 : n = 0
    · subst h0
      have hg : decide (((0 : Nat) : Int) > 0) = false := by simp
      have Hdg : Hid (Pl.dg M = seg μ (q + 1)) := HF.out.2.1 rfl
      have hsl := fun wx => slice20 q w.heap.size wx hk2
      have hput := hten.put (i := q) (by omega) 45 (v := .int .u8 45) rfl
      have hcv := conv20 hput hk2
      have HT := hid hput
      clear HF hten hput
      go_wp2
      go_ret
      refine ⟨_, rfl, ?_, HT.out.below⟩
      rw [Hdg.out, List.toList_toArray, seg_put μ q _ (by omega)]
    · have hg : decide ((n : Int) > 0) = true := by simp; omega
      have HS := hid (step_fact (M := M) (μ := μ) (q := q) (n := n) (by omega) hk2 hnb HF.out.1 (HF.out.2.2 (by omega)))
      have Hput := hid (hten.put (i := q) (by omega) (Pl.db (n % 10)) (v := .int .u8 (48 + (n : Int) % 10)) (by rw [Pl.db_nat (by omega)]; rfl))
      clear HF hten
      go_wp2
      go_roundg q
      case measure => omega
      case rel => exact ⟨n / 10, q, _, rfl, by go_num, rfl, HS.out.1, by omega, by omega, Hput.out, HS.out.2⟩

/-- zzItoa writes the number. -/
theorem itoa_any (n : Int) (w : World) (h1 : -9223372036854775808 ≤ n) (h2 : n ≤ 9223372036854775807) :
    Calls Tryd.prog 11 #[.int .i64 n] w fun e w' => ∃ s, e = .returned (.string s) ∧ s.data.toList = Pl.itoa n ∧ Below w.heap.size w w' := by
  by_cases hn : n < 0
  · have := itoa_neg n.natAbs n (by omega) w (by omega) (by omega)
    unfold Pl.itoa
    rw [if_pos hn]
    exact this
  · unfold Pl.itoa
    rw [if_neg hn]
    by_cases h0 : n = 0
    · subst h0; exact itoa_zero w
    · have := itoa_pos n.natAbs w (by omega) (by omega)
      rw [show ((n.natAbs : Nat) : Int) = n by omega] at this
      exact this
end Go.Proofs.Qxb6000918aDoor
