/-
  THE WALKS of appendUint32 (45), appendTwo (46), timeText (37), isDigit (36), zzBytes (35).
-/
import Derived.Test.Qxb6000731aRows
import Derived.Test.Qxb6000731aPlain
import Derived.Test.Qxb6000731aMem
import Derived.Deep.LoopGhost
import Derived.Deep.RegionWith
namespace Go.Proofs.Qxb6000731a
open Go.RowKit

theorem info5 : (Try.prog.info? 5).map (fun i => (i.zero, i.size, i.bytes)) = some (some (.int .u8 0), 1, 1) := by kernel_rfl

theorem size5 (w : World) : (sizeOf 5).run Try.prog w = .ok 1 w := by kernel_rfl
theorem arr89 : Try.prog.underlying 89 = some (.array (Try.prog.arrayLen 89) (Try.prog.elem 89)) := by kernel_rfl
theorem len89 : Try.prog.arrayLen 89 = 10 := by kernel_rfl
theorem elem89 : Try.prog.elem 89 = 5 := by kernel_rfl

theorem slice10 (q g : Nat) (w : World) (hq : q < 10) : (Instr.sliceAt 89 (.pointer (some ⟨g, 0, none⟩)) (some (.int .i64 q)) none none).run Try.prog w = .ok (.slice (some ⟨g, q, none⟩) (10 - q) (10 - q)) w := by
  rw [run_sliceAt_array_l w 89 ⟨g, 0, none⟩ arr89 .i64 q (by omega) (by rw [len89]; omega), elem89, size5, len89]
  simp only [Result.andThen, slicedAt, Int.toNat_natCast, Nat.mul_one, Addr.add_lit, Nat.zero_add]
  rw [if_neg (by omega)]

/-- The array of ten bytes: block g. -/
structure Ten (g : Nat) (μ : Nat → Int) (W0 w : World) : Prop where
  below : Below g W0 w
  size : g < w.heap.size
  cell : ∀ j, j < 10 → w.cell? ⟨g, j, none⟩ = some (.int .u8 (μ j))
  fz : ∀ j, j < 10 → w.frozen? ⟨g, j, none⟩ = false

theorem Ten.start (w : World) : Ten w.heap.size (fun _ => 0) w (w.alloc (.cells #[.int .u8 0, .int .u8 0, .int .u8 0, .int .u8 0, .int .u8 0, .int .u8 0, .int .u8 0, .int .u8 0, .int .u8 0, .int .u8 0] 89)) := by
  refine ⟨(Below.refl _ _).alloc (Nat.le_refl _) _, by simp, fun j hj => ?_, fun j hj => ?_⟩
  all_goals
    match j, hj with
    | 0, _ => simp
    | 1, _ => simp
    | 2, _ => simp
    | 3, _ => simp
    | 4, _ => simp
    | 5, _ => simp
    | 6, _ => simp
    | 7, _ => simp
    | 8, _ => simp
    | 9, _ => simp

theorem Ten.put {g : Nat} {μ : Nat → Int} {W0 w : World} (h : Ten g μ W0 w) {i : Nat} (hi : i < 10) (x : Int) : Ten g (fun j => if j = i then x else μ j) W0 (w.setCell ⟨g, i, none⟩ (.int .u8 x)) := by
  refine ⟨h.below.setCell (Nat.le_refl _) _, by have := h.size; simpa [World.setCell] using this, fun j hj => ?_, fun j hj => by rw [World.frozen?_setCell]; exact h.fz j hj⟩
  by_cases e : j = i
  · subst e
    rw [World.cell?_setCell_same _ _ _ (h.cell j hj)]; simp
  · rw [World.cell?_setCell_other _ _ _ _ (by intro e'; injection e'; omega), h.cell j hj]; simp [e]

set_option maxRecDepth 100000 in
set_option maxHeartbeats 1000000 in
theorem app32_any (h : Nat) (w : World) (h1 : h < 4294967296) :
    Calls Try.prog 45 #[.slice none 0 0, .int .u32 h] w fun e w' => ∃ v, e = .returned v ∧ OB w.heap.size v (Pl.dg h) w w' := by
  obtain ⟨i0, hi, hz0, hz1, hz2⟩ := info_parts info5
  go_enter Try.func45, Try.ntmps45
  go_wp2
  go_loopg [1, 6] 10 (fun gk m i wr => ∃ (n k : Nat) (μ : Nat → Int), gk = k ∧ m = .int .u32 n ∧ i = .int .i64 k ∧ 1 ≤ k ∧ k ≤ 10 ∧ n < 4294967296 ∧ Ten w.heap.size μ w wr ∧ Hid (n < 10 ^ k ∧ Pl.dg h = Pl.dg n ++ Pl.seg μ k))
  case atStart => exact ⟨h, 10, fun _ => 0, rfl, rfl, rfl, by omega, by omega, h1, Ten.start w, ⟨by omega, by rw [Pl.seg_ten, List.append_nil]⟩⟩
  case round =>
    obtain ⟨n, k, μ, rfl, rfl, rfl, hk1, hk2, hn, hten, HF⟩ := hrel
    obtain ⟨q, rfl⟩ : ∃ q, gk = q + 1 := ⟨gk - 1, by omega⟩
    have hcq := hten.cell q (by omega)
    have hfq := hten.fz q (by omega)
    have hsl := fun wx => slice10 q w.heap.size wx (by omega)
    have hput := hten.put (i := q) (by omega) (48 + (n : Int) % 10)
    obtain ⟨hpow, hdg⟩ := HF.out
    by_cases h10 : n < 10
    · have hz : ((n : Int) / 10 == 0) = true := beq_iff_eq.2 (by omega)
      have Hdg : Hid (Pl.dg h = Pl.seg (fun j => if j = q then 48 + (n : Int) % 10 else μ j) q) := by
        rw [hdg, Pl.dg_small h10, Pl.seg_put μ q _ (by omega), show (n : Int) % 10 = n by omega]; rfl
      have hc : ∀ j, j < (Pl.seg (fun j => if j = q then 48 + (n : Int) % 10 else μ j) q).length → (wr.setCell ⟨w.heap.size, q, none⟩ (.int .u8 (48 + (n : Int) % 10))).cell? ⟨w.heap.size, q + j, none⟩ = some (.int .u8 ((Pl.seg (fun j => if j = q then 48 + (n : Int) % 10 else μ j) q).getD j 0)) := by
        intro j hj
        rw [Pl.seg_len] at hj
        rw [hput.cell (q + j) (by omega), List.getD_eq_getElem?_getD, Pl.seg_get hj]; rfl
      have Hc := hid hc
      have HB : Hid (OB w.heap.size (.slice none 0 0) [] w (wr.setCell ⟨w.heap.size, q, none⟩ (.int .u8 (48 + (n : Int) % 10)))) := ⟨World.ownsRow_nil _ _ _ _, hput.below, Nat.le_of_lt hput.size⟩
      clear hc hdg hput HF
      go_wp2_with (at_builtin; refine wpList_ob_slice rfl _ _ 22 rfl i0 Try.underlying22 hi hz0 hz1 hz2 w.heap.size _ [] w rfl HB.out w.heap.size q (10 - q) _ (10 - q) ?_ rfl Hc.out ?_ ?_; (rw [Pl.seg_len]); (rw [Pl.seg_len]; simp; omega); intro v' w' hob; have Hob := hid hob; clear hob)
      go_ret
      refine ⟨_, rfl, ?_⟩
      have := Hob.out
      rw [List.nil_append, ← Hdg.out] at this
      exact this
    · have hz : ((n : Int) / 10 == 0) = false := beq_eq_false_iff_ne.2 (by omega)
      have hq1 : 1 ≤ q := by
        rcases Nat.eq_zero_or_pos q with h0 | h0
        · subst h0; simp at hpow; omega
        · exact h0
      have Hdg : Hid (n / 10 < 10 ^ q ∧ Pl.dg h = Pl.dg (n / 10) ++ Pl.seg (fun j => if j = q then 48 + (n : Int) % 10 else μ j) q) := by
        refine ⟨by rw [Nat.pow_succ] at hpow; omega, ?_⟩
        rw [hdg, Pl.dg_step (by omega) (by omega), Pl.seg_put μ q _ (by omega), List.append_assoc, show ((n % 10 : Nat) : Int) = (n : Int) % 10 by omega]; rfl
      have Hput := hid hput
      clear hdg hput HF hpow
      go_wp2
      go_roundg q
      case measure => omega
      case rel => exact ⟨n / 10, q, _, rfl, by go_num, rfl, hq1, by omega, by omega, Hput.out, Hdg⟩

set_option maxHeartbeats 1000000 in
theorem appTwo_any (B : Nat) (v : Value) (l : List Int) (W0 w : World) (n : Nat) (hn : n < 100) (hl : l.length ≤ 1000) (hb : OB B v l W0 w) :
    Calls Try.prog 46 #[v, .int .u8 n] w fun e w' => ∃ v', e = .returned v' ∧ OB B v' (l ++ [48 + (n : Int) / 10, 48 + (n : Int) % 10]) W0 w' := by
  obtain ⟨i0, hi, hz0, hz1, hz2⟩ := info_parts info5
  have Hb := hid hb
  clear hb
  go_enter Try.func46, Try.ntmps46
  go_wp2_with (first
    | (at_builtin; refine wpList_ob_byte rfl (.tmp 5) (.tmp 9) 22 rfl i0 Try.underlying22 hi hz0 hz1 hz2 B _ l W0 w rfl (48 + (n : Int) / 10) Hb.out rfl ?_ ?_; omega; intro v1 w1 hob; have Hob := hid hob; clear hob)
    | (at_builtin; refine wpList_ob_byte rfl (.tmp 11) (.tmp 15) 22 rfl i0 Try.underlying22 hi hz0 hz1 hz2 B _ _ W0 w1 rfl (48 + (n : Int) % 10) Hob.out rfl ?_ ?_; (simp; omega); intro v2 w2 hob2; have Hob2 := hid hob2; clear hob2))
  go_ret
  refine ⟨_, rfl, ?_⟩
  have := Hob2.out
  rw [List.append_assoc] at this
  exact this

/-- The text H:MM:SS. -/
def TT (h m s : Nat) : List Int := Pl.dg h ++ [58, 48 + (m : Int) / 10, 48 + (m : Int) % 10, 58, 48 + (s : Int) / 10, 48 + (s : Int) % 10]

set_option maxHeartbeats 1000000 in
theorem timeText_any (h m s : Nat) (w : World) (hh : h < 4294967296) (hm : m < 100) (hs : s < 100) :
    Calls Try.prog 37 #[.int .u32 h, .int .u8 m, .int .u8 s] w fun e w' => ∃ v', e = .returned v' ∧ OB w.heap.size v' (TT h m s) w w' := by
  obtain ⟨i0, hi, hz0, hz1, hz2⟩ := info_parts info5
  have hl := Pl.dg_len h
  go_enter Try.func37, Try.ntmps37
  go_wp2_with (first
    | (go_at_call 45; refine (app32_any h w hh).mono ?_; rintro e w1 ⟨v1, rfl, hb1⟩; have Hb1 := hid hb1; clear hb1)
    | (at_builtin; refine wpList_ob_byte rfl (.tmp 10) (.tmp 11) 22 rfl i0 Try.underlying22 hi hz0 hz1 hz2 w.heap.size _ _ w w1 rfl 58 Hb1.out rfl ?_ ?_; omega; intro v2 w2 hob; have Hb2 := hid hob; clear hob)
    | (go_at_call_of 46 v2; refine (appTwo_any w.heap.size v2 _ w w2 m hm ?_ Hb2.out).mono ?_; (simp; omega); rintro e w3 ⟨v3, rfl, hb3⟩; have Hb3 := hid hb3; clear hb3)
    | (at_builtin; refine wpList_ob_byte rfl (.tmp 16) (.tmp 17) 22 rfl i0 Try.underlying22 hi hz0 hz1 hz2 w.heap.size _ _ w w3 rfl 58 Hb3.out rfl ?_ ?_; (simp; omega); intro v4 w4 hob; have Hb4 := hid hob; clear hob)
    | (go_at_call_of 46 v4; refine (appTwo_any w.heap.size v4 _ w w4 s hs ?_ Hb4.out).mono ?_; (simp; omega); rintro e w5 ⟨v5, rfl, hb5⟩; have Hb5 := hid hb5; clear hb5))
  go_ret
  refine ⟨_, rfl, ?_⟩
  have := Hb5.out
  simp only [List.append_assoc, List.cons_append, List.nil_append] at this
  exact this

set_option maxHeartbeats 400000 in
theorem isDigit_any (c : Int) (w : World) :
    Calls Try.prog 36 #[.int .u8 c] w fun e w' => e = .returned (.bool (Pl.dig c)) ∧ w' = w := by
  go_enter Try.func36, Try.ntmps36
  go_wp2
  all_goals
    go_ret
    exact ⟨ret_bool (by rw [Bool.eq_iff_iff, Pl.dig_iff]; simp; omega), rfl⟩

set_option maxHeartbeats 400000 in
theorem bytes35_any (a b c : Int) (f s : ByteArray) (g : Int) (w : World) (hf : f.size ≤ 9223372036854775807) (hs : s.size ≤ 9223372036854775807) :
    Calls Try.prog 35 #[.int .u32 a, .int .u8 b, .int .u8 c, .string f, .string s, .int .i64 g] w fun e w' => ∃ r, e = .returned (.bool r) ∧ (r = true → f.size + s.size ≤ 1048576) ∧ w' = w := by
  go_enter Try.func35, Try.ntmps35
  go_wp2
  all_goals
    go_ret
    exact ⟨_, rfl, fun h => by first | omega | (cases h), rfl⟩
end Go.Proofs.Qxb6000731a
