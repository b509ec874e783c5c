/-
  THE WALK of the law FnWithFractionSpec (9).
-/
import Derived.Test.Qxb6000731aLists
namespace Go.Proofs.Qxb6000731a
open Go.RowKit
set_option linter.unusedSimpArgs false

set_option maxHeartbeats 400000 in
theorem bytes35_small (a b c : Int) (f s : ByteArray) (g : Int) (w : World) (hf : f.size ≤ 65536) (hs : s.size ≤ 65536) :
    Calls Try.prog 35 #[.int .u32 a, .int .u8 b, .int .u8 c, .string f, .string s, .int .i64 g] w fun e w' => e = .returned (.bool true) ∧ w' = w := by
  have h1 : (f.size : Int) ≤ 1048576 := by omega
  have h2 : (s.size : Int) ≤ 1048576 := by omega
  have h3 : (f.size : Int) + s.size ≤ 1048576 := by omega
  go_enter Try.func35, Try.ntmps35
  go_wp2
  go_ret
  exact ⟨rfl, rfl⟩

set_option maxRecDepth 100000 in
set_option maxHeartbeats 1000000 in
theorem spec_long (h m s : Int) (f x : ByteArray) (D : Int) (w : World) (hf : f.size ≤ maxLen) (hx : x.size ≤ maxLen) (hl : 65536 < f.size ∨ 65536 < x.size) :
    Calls Try.prog 9 #[.int .u32 h, .int .u8 m, .int .u8 s, .string f, .string x, .int .i64 D] w fun e w' => e = .returned (.bool true) ∧ Below w.heap.size w w' := by
  unfold maxLen at hf hx
  go_enter Try.func9, Try.ntmps9
  go_wp2_with fail
  refine (bytes35_any _ _ _ _ _ _ _ (by omega) (by omega)).mono ?_
  rintro e w ⟨r, rfl, hr, rfl⟩
  clear hr
  cases r with
  | false =>
    go_wp2
    go_ret
    exact ⟨rfl, Below.refl _ _⟩
  | true =>
    by_cases h1 : 65536 < f.size
    · have h1' : (65536 : Int) < f.size := by omega
      go_wp2
      go_ret
      exact ⟨rfl, Below.refl _ _⟩
    · have h1' : ¬ (65536 : Int) < f.size := by omega
      have h2' : (65536 : Int) < x.size := by omega
      go_wp2
      go_ret
      exact ⟨rfl, Below.refl _ _⟩

set_option maxRecDepth 100000 in
set_option maxHeartbeats 1000000 in
theorem spec_out (h m s : Int) (f x : ByteArray) (D : Int) (w : World) (hf : f.size ≤ 65536) (hx : x.size ≤ 65536) (ho : 65536 < D ∨ 99 < m ∨ 99 < s) :
    Calls Try.prog 9 #[.int .u32 h, .int .u8 m, .int .u8 s, .string f, .string x, .int .i64 D] w fun e w' => e = .returned (.bool true) ∧ Below w.heap.size w w' := by
  have hf' : ¬ (65536 : Int) < f.size := by omega
  have hx' : ¬ (65536 : Int) < x.size := by omega
  by_cases hD : 65536 < D
  · go_enter Try.func9, Try.ntmps9
    go_wp2_with (go_at_call 35; refine (bytes35_small _ _ _ _ _ _ _ hf hx).mono ?_; rintro e w ⟨rfl, rfl⟩)
    go_ret
    exact ⟨rfl, Below.refl _ _⟩
  · by_cases hm : 99 < m
    · go_enter Try.func9, Try.ntmps9
      go_wp2_with (go_at_call 35; refine (bytes35_small _ _ _ _ _ _ _ hf hx).mono ?_; rintro e w ⟨rfl, rfl⟩)
      go_ret
      exact ⟨rfl, Below.refl _ _⟩
    · have hs : 99 < s := by omega
      clear ho
      go_enter Try.func9, Try.ntmps9
      go_wp2_with (go_at_call 35; refine (bytes35_small _ _ _ _ _ _ _ hf hx).mono ?_; rintro e w ⟨rfl, rfl⟩)
      go_ret
      exact ⟨rfl, Below.refl _ _⟩

/-- withFraction at a slice of the call's own. -/
theorem zzwf_ob {B : Nat} {v : Value} {l : List Int} {W0 w : World} (D : Int) (cN at_ k : Nat) (hob : OB B v l W0 w) (hD : D ≤ 65536) (hn : l.length ≤ 1000000) (hb : ∀ z ∈ l, 0 ≤ z ∧ z < 256)
    (h0 : ∀ j, j < cN → l.getD j 0 ≠ 58) (h1 : l.getD cN 0 = 58) (h3 : l.getD (cN + 3) 0 = 58) (h6 : cN + 6 ≤ l.length) (hat : at_ ≤ l.length) (hT : Tail l l.length cN at_ k) :
    Calls Try.prog 38 #[v, .int .i64 D] w (WFEnd v l at_ k D w) := by
  obtain ⟨a, c, rfl, hlc, hcm, hr⟩ := hob.rd
  obtain ⟨g, rfl, hg, hc⟩ := hr (by omega)
  exact zzwf_any g l.length c cN at_ k l w D hD rfl hn hlc hcm hg (fun i hi => hb _ (getD_mem hi)) hc h0 h1 h3 h6 hat hT

set_option maxRecDepth 100000 in
set_option maxHeartbeats 4000000 in
theorem spec_main (h m s : Nat) (f x : ByteArray) (D : Int) (w : World) (hh : h < 4294967296) (hm : m ≤ 99) (hs : s ≤ 99) (hf : f.size ≤ 65536) (hx : x.size ≤ 65536) (hD : D ≤ 65536) (hD0 : -9223372036854775808 ≤ D) :
    Calls Try.prog 9 #[.int .u32 h, .int .u8 m, .int .u8 s, .string f, .string x, .int .i64 D] w fun e w' => e = .returned (.bool true) ∧ Below w.heap.size w w' := by
  have hf' : ¬ (65536 : Int) < f.size := by omega
  have hx' : ¬ (65536 : Int) < x.size := by omega
  have hm' : ¬ (99 : Int) < m := by omega
  have hs' : ¬ (99 : Int) < s := by omega
  have hD' : ¬ (65536 : Int) < D := by omega
  obtain ⟨i0, hi, hz0, hz1, hz2⟩ := info_parts info5
  go_enter Try.func9, Try.ntmps9
  go_wp2_with (go_at_call 35; refine (bytes35_small _ _ _ _ _ _ _ hf hx).mono ?_; rintro e w ⟨rfl, rfl⟩)
  go_loopg [13] f.size (fun gk i wr => ∃ k : Nat, k ≤ f.size ∧ gk = f.size - k ∧ i = .int .i64 k ∧ wr = w ∧ Hid (∀ j, j < k → Pl.dig ((sb f).getD j 0) = true))
  case atStart => exact ⟨0, Nat.zero_le _, rfl, rfl, rfl, fun j hj => by omega⟩
  case round =>
    obtain ⟨k, hk, rfl, rfl, hw, HF⟩ := hrel
    subst hw
    by_cases hkf : k < f.size
    · have hat := sb_at f k hkf
      by_cases hdg : Pl.dig ((f[k].toNat : Nat) : Int) = true
      · have HN : Hid (∀ j, j < k + 1 → Pl.dig ((sb f).getD j 0) = true) := fun j hj => by
          rcases Nat.lt_or_ge j k with h1 | h1
          · exact HF.out j h1
          · rw [show j = k by omega, hat]; exact hdg
        clear hat
        go_wp2_with (go_at_call 36; refine (isDigit_any _ _).mono ?_; rintro e wr ⟨rfl, rfl⟩)
        go_roundg (f.size - (k + 1))
        case measure => omega
        case rel => exact ⟨k + 1, hkf, rfl, by go_num, rfl, HN⟩
      · have hdg' : Pl.dig ((f[k].toNat : Nat) : Int) = false := by simpa using hdg
        clear hat hdg
        go_wp2_with (go_at_call 36; refine (isDigit_any _ _).mono ?_; rintro e wr ⟨rfl, rfl⟩)
        go_ret
        exact ⟨rfl, Below.refl _ _⟩
    · obtain rfl : k = f.size := by omega
      go_upto_region 14 with fail
      go_cut [66] (fun v wx => wx = wr ∧ ∃ B : Bool, v = .bool B ∧ Hid (B = false → (0 < (sb x).length → (sb x).getD 0 0 ≠ 46 ∧ Pl.dig ((sb x).getD 0 0) = false)))
      case first =>
        by_cases hx0 : 0 < x.size
        · have hat := sb_at x 0 hx0
          by_cases h46 : ((x[0].toNat : Nat) : Int) = 46
          · clear hat
            go_wp2_with (go_at_call 36; refine (isDigit_any _ _).mono ?_; rintro e wr ⟨rfl, rfl⟩)
            go_meet
            case rel => exact ⟨rfl, true, rfl, fun h => by cases h⟩
          · by_cases hdg : Pl.dig ((x[0].toNat : Nat) : Int) = true
            · have h46' : (((x[0].toNat : Nat) : Int) == 46) = false := by simpa using h46
              clear hat
              go_wp2_with (go_at_call 36; refine (isDigit_any _ _).mono ?_; rintro e wr ⟨rfl, rfl⟩)
              go_meet
              case rel => exact ⟨rfl, true, rfl, fun h => by cases h⟩
            · have hdg' : Pl.dig ((x[0].toNat : Nat) : Int) = false := by simpa using hdg
              have h46' : (((x[0].toNat : Nat) : Int) == 46) = false := by simpa using h46
              have HN : Hid ((sb x).getD 0 0 ≠ 46 ∧ Pl.dig ((sb x).getD 0 0) = false) := by rw [hat]; exact ⟨h46, hdg'⟩
              clear hat hdg
              go_wp2_with (go_at_call 36; refine (isDigit_any _ _).mono ?_; rintro e wr ⟨rfl, rfl⟩)
              go_meet
              case rel => exact ⟨rfl, false, rfl, fun _ _ => HN.out⟩
        · go_wp2
          go_meet
          case rel => exact ⟨rfl, false, rfl, fun _ h => by rw [sb_len] at h; exact absurd h hx0⟩
      case rest =>
        obtain ⟨hw, B, rfl, HB⟩ := hcut
        subst hw
        cases B with
        | true =>
          go_wp2
          go_ret
          exact ⟨rfl, Below.refl _ _⟩
        | false =>
          have Hsuf := hid (HB.out rfl)
          clear HB
          have hdl := Pl.dg_len h
          obtain ⟨wr, hwr⟩ : ∃ wr, wr = wc := ⟨_, rfl⟩
          subst hwr
          by_cases hf0 : 0 < f.size
          · have hf0' : (0 : Int) < f.size := by omega
            by_cases hDf : (f.size : Int) < D
            · obtain ⟨N, rfl⟩ : ∃ N : Nat, D = N := ⟨D.toNat, by omega⟩
              have hN : f.size ≤ N := by omega
              obtain ⟨WL, HWL⟩ : ∃ WL, Hid (WL = TT h m s ++ ([46] ++ (sb f ++ (List.replicate (N - (sb f).length) 48 ++ sb x)))) := ⟨_, hid rfl⟩
              go_upto_region 21 with (first
                | (go_at_call 37; refine (timeText_any h m s wr hh (by omega) (by omega)).mono ?_; rintro e w1 ⟨v1, rfl, hb1⟩; have Hb1 := hid hb1; clear hb1)
                | (at_builtin; refine wpList_ob_byte rfl (.tmp 74) (.tmp 75) 22 rfl i0 Try.underlying22 hi hz0 hz1 hz2 wr.heap.size _ _ wr w1 rfl 46 Hb1.out rfl ?_ ?_; (simp only [List.length_append, List.length_cons, List.length_nil, TT_len, sb_len, List.length_replicate]; omega); intro v2 w2 hob; have Hb2 := hid hob; clear hob)
                | (at_builtin; refine wpList_ob_text rfl (.tmp 77) (.tmp 78) 22 9 rfl i0 Try.underlying22 Try.underlying9 hi hz0 hz1 hz2 wr.heap.size _ _ wr rfl Hb2.out f rfl ?_ ?_; (simp only [List.length_append, List.length_cons, List.length_nil, TT_len, sb_len, List.length_replicate]; omega); intro v3 w3 hob; have Hb3 := hid hob; clear hob)
                | (at_builtin; refine wpList_ob_text rfl (.tmp 80) (.tmp 81) 22 9 rfl i0 Try.underlying22 Try.underlying9 hi hz0 hz1 hz2 wr.heap.size _ _ wr rfl Hb3.out x rfl ?_ ?_; (simp only [List.length_append, List.length_cons, List.length_nil, TT_len, sb_len, List.length_replicate]; omega); intro v wv hob; have HV := hid hob; clear hob))
              obtain ⟨wr0, hwr0⟩ : ∃ wr0, wr0 = wr := ⟨_, rfl⟩
              subst hwr0
              go_wp2_with (first
                | (go_at_call 37; refine (timeText_any h m s wv hh (by omega) (by omega)).mono ?_; rintro e u1 ⟨c1, rfl, hb1⟩; have Ub1 := hid hb1; clear hb1)
                | (at_builtin; refine wpList_ob_byte rfl (.tmp 95) (.tmp 96) 22 rfl i0 Try.underlying22 hi hz0 hz1 hz2 wv.heap.size _ _ wv u1 rfl 46 Ub1.out rfl ?_ ?_; (simp only [List.length_append, List.length_cons, List.length_nil, TT_len, sb_len, List.length_replicate]; omega); intro c2 u2 hob; have Ub2 := hid hob; clear hob)
                | (at_builtin; refine wpList_ob_text rfl (.tmp 98) (.tmp 99) 22 9 rfl i0 Try.underlying22 Try.underlying9 hi hz0 hz1 hz2 wv.heap.size _ _ wv rfl Ub2.out f rfl ?_ ?_; (simp only [List.length_append, List.length_cons, List.length_nil, TT_len, sb_len, List.length_replicate]; omega); intro c3 u3 hob; have Ub3 := hid hob; clear hob))
              go_loopg [15, 17] (N - f.size) (fun gk c i wx => ∃ j : Nat, f.size ≤ j ∧ j ≤ N ∧ gk = N - j ∧ i = .int .i64 j ∧ Hid (OB wv.heap.size c ((TT h m s ++ [46]) ++ sb f ++ List.replicate (j - f.size) 48) wv wx))
              case atStart => exact ⟨f.size, Nat.le_refl _, hN, rfl, rfl, hid (by rw [Nat.sub_self, List.replicate_zero, List.append_nil]; exact Ub3.out)⟩
              case round =>
                obtain ⟨j, hj1, hj2, rfl, rfl, Hwx⟩ := hrel
                by_cases hjN : j < N
                · have hlt : (j : Int) < (N : Nat) := by omega
                  go_wp2_with (at_builtin; refine wpList_ob_byte rfl (.tmp 108) (.tmp 109) 22 rfl i0 Try.underlying22 hi hz0 hz1 hz2 wv.heap.size _ _ wv wr rfl 48 Hwx.out rfl ?_ ?_; (simp only [List.length_append, List.length_cons, List.length_nil, TT_len, sb_len, List.length_replicate]; omega); intro c4 u4 hob; have Ub4 := hid hob; clear hob)
                  go_roundg (N - (j + 1))
                  case measure => omega
                  case rel => exact ⟨j + 1, by omega, hjN, rfl, by go_num, by have := Ub4.out; rwa [List.append_assoc, ← List.replicate_succ', show j - f.size + 1 = j + 1 - f.size by omega] at this⟩
                · obtain rfl : N = j := by omega
                  go_wp2_with (first
                    | (at_builtin; refine wpList_ob_text rfl (.tmp 111) (.tmp 112) 22 9 rfl i0 Try.underlying22 Try.underlying9 hi hz0 hz1 hz2 wv.heap.size _ _ wv rfl Hwx.out x rfl ?_ ?_; (simp only [List.length_append, List.length_cons, List.length_nil, TT_len, sb_len, List.length_replicate]; omega); intro c5 u5 hob; have HU := hid hob; clear hob))
                  have hL : Hid (OB wr0.heap.size v (TT h m s ++ ([46] ++ (sb f ++ sb x))) wr0 u5) := by
                    have h1 := HV.out.later HU.out.below
                    have h2 : OB wr0.heap.size v (TT h m s ++ ([46] ++ (sb f ++ sb x))) wr0 u5 := by
                      simpa only [List.append_assoc] using h1
                    exact h2
                  have hU : Hid (Rd u5 c5 WL) := by
                    have h1 := HU.out.rd
                    have h2 : Rd u5 c5 WL := by
                      rw [HWL.out]
                      rw [sb_len]
                      simpa only [List.append_assoc] using h1
                    exact h2
                  have hBW : Hid (Below wr0.heap.size wr0 u5) := HV.out.below.trans (HU.out.below.mono HV.out.size)
                  have hwl : WL.length ≤ 140737488355328 := by rw [HWL.out]; (simp only [List.length_append, List.length_cons, List.length_nil, TT_len, sb_len, List.length_replicate]; omega)
                  have Hwl := hid hwl
                  clear hwl
                  have hcall := zzwf_ob (N : Int) (Pl.dg h).length ((Pl.dg h).length + 7 + (sb f).length) ((sb f).length) hL.out (by omega) (by (simp only [List.length_append, List.length_cons, List.length_nil, TT_len, sb_len, List.length_replicate]; omega)) (mem_app (TT_byte hh (by omega) (by omega)) (mem_app (by intro z hz; simp at hz; omega) (mem_app (sb_byte f) (sb_byte x)))) (TT_first hh _) (TT_c0 h m s _) (TT_c3 h m s _) (by (simp only [List.length_append, List.length_cons, List.length_nil, TT_len, sb_len, List.length_replicate]; omega)) (by (simp only [List.length_append, List.length_cons, List.length_nil, TT_len, sb_len, List.length_replicate]; omega)) (tail_some (by rw [sb_len]; omega) (fun j hj => HF.out j (by rw [sb_len] at hj; exact hj)) (fun hq => (Hsuf.out hq).2))
                  refine hcall.mono ?_
                  clear hcall
                  rintro e u6 (⟨hDk, rfl, rfl⟩ | ⟨hDk, v6, rfl, hb6⟩)
                  · exfalso; rw [sb_len] at hDk; omega
                  · have hR : Rd u6 v6 WL := by
                      have h1 := hb6.rd
                      rw [Int.toNat_natCast, out_some _ _ _ _ _ _ (by rw [sb_len]; omega)] at h1
                      rw [HWL.out]
                      exact h1
                    have HR := hid hR
                    have HU6 : Hid (Rd u6 c5 WL) := hU.out.later hb6.below
                    have HB6 : Hid (Below wr0.heap.size wr0 u6) := hBW.out.trans (hb6.below.mono (Nat.le_trans (HV.out.size) HU.out.below.size))
                    clear hR hb6
                    go_wp2_with fail
                    refine (bytesEq_any _ _ WL u6 Hwl.out HR.out HU6.out).mono ?_
                    rintro e u7 ⟨rfl, q, rfl⟩
                    go_wp2
                    go_ret
                    exact ⟨rfl, below_drewN HB6.out q⟩

            · have hN : f.size ≤ f.size := Nat.le_refl _
              obtain ⟨WL, HWL⟩ : ∃ WL, Hid (WL = TT h m s ++ ([46] ++ (sb f ++ sb x))) := ⟨_, hid rfl⟩
              go_upto_region 21 with (first
                | (go_at_call 37; refine (timeText_any h m s wr hh (by omega) (by omega)).mono ?_; rintro e w1 ⟨v1, rfl, hb1⟩; have Hb1 := hid hb1; clear hb1)
                | (at_builtin; refine wpList_ob_byte rfl (.tmp 74) (.tmp 75) 22 rfl i0 Try.underlying22 hi hz0 hz1 hz2 wr.heap.size _ _ wr w1 rfl 46 Hb1.out rfl ?_ ?_; (simp only [List.length_append, List.length_cons, List.length_nil, TT_len, sb_len, List.length_replicate]; omega); intro v2 w2 hob; have Hb2 := hid hob; clear hob)
                | (at_builtin; refine wpList_ob_text rfl (.tmp 77) (.tmp 78) 22 9 rfl i0 Try.underlying22 Try.underlying9 hi hz0 hz1 hz2 wr.heap.size _ _ wr rfl Hb2.out f rfl ?_ ?_; (simp only [List.length_append, List.length_cons, List.length_nil, TT_len, sb_len, List.length_replicate]; omega); intro v3 w3 hob; have Hb3 := hid hob; clear hob)
                | (at_builtin; refine wpList_ob_text rfl (.tmp 80) (.tmp 81) 22 9 rfl i0 Try.underlying22 Try.underlying9 hi hz0 hz1 hz2 wr.heap.size _ _ wr rfl Hb3.out x rfl ?_ ?_; (simp only [List.length_append, List.length_cons, List.length_nil, TT_len, sb_len, List.length_replicate]; omega); intro v wv hob; have HV := hid hob; clear hob))
              obtain ⟨wr0, hwr0⟩ : ∃ wr0, wr0 = wr := ⟨_, rfl⟩
              subst hwr0
              go_wp2_with (first
                | (go_at_call 37; refine (timeText_any h m s wv hh (by omega) (by omega)).mono ?_; rintro e u1 ⟨c1, rfl, hb1⟩; have Ub1 := hid hb1; clear hb1)
                | (at_builtin; refine wpList_ob_byte rfl (.tmp 95) (.tmp 96) 22 rfl i0 Try.underlying22 hi hz0 hz1 hz2 wv.heap.size _ _ wv u1 rfl 46 Ub1.out rfl ?_ ?_; (simp only [List.length_append, List.length_cons, List.length_nil, TT_len, sb_len, List.length_replicate]; omega); intro c2 u2 hob; have Ub2 := hid hob; clear hob)
                | (at_builtin; refine wpList_ob_text rfl (.tmp 98) (.tmp 99) 22 9 rfl i0 Try.underlying22 Try.underlying9 hi hz0 hz1 hz2 wv.heap.size _ _ wv rfl Ub2.out f rfl ?_ ?_; (simp only [List.length_append, List.length_cons, List.length_nil, TT_len, sb_len, List.length_replicate]; omega); intro c3 u3 hob; have Ub3 := hid hob; clear hob))
              go_loopg [15, 17] (f.size - f.size) (fun gk c i wx => ∃ j : Nat, f.size ≤ j ∧ j ≤ f.size ∧ gk = f.size - j ∧ i = .int .i64 j ∧ Hid (OB wv.heap.size c ((TT h m s ++ [46]) ++ sb f ++ List.replicate (j - f.size) 48) wv wx))
              case atStart => exact ⟨f.size, Nat.le_refl _, hN, rfl, rfl, hid (by rw [Nat.sub_self, List.replicate_zero, List.append_nil]; exact Ub3.out)⟩
              case round =>
                obtain ⟨j, hj1, hj2, rfl, rfl, Hwx⟩ := hrel
                · obtain rfl : f.size = j := by omega
                  go_wp2_with (first
                    | (at_builtin; refine wpList_ob_text rfl (.tmp 111) (.tmp 112) 22 9 rfl i0 Try.underlying22 Try.underlying9 hi hz0 hz1 hz2 wv.heap.size _ _ wv rfl Hwx.out x rfl ?_ ?_; (simp only [List.length_append, List.length_cons, List.length_nil, TT_len, sb_len, List.length_replicate]; omega); intro c5 u5 hob; have HU := hid hob; clear hob))
                  have hL : Hid (OB wr0.heap.size v (TT h m s ++ ([46] ++ (sb f ++ sb x))) wr0 u5) := by
                    have h1 := HV.out.later HU.out.below
                    have h2 : OB wr0.heap.size v (TT h m s ++ ([46] ++ (sb f ++ sb x))) wr0 u5 := by
                      simpa only [List.append_assoc] using h1
                    exact h2
                  have hU : Hid (Rd u5 c5 WL) := by
                    have h1 := HU.out.rd
                    have h2 : Rd u5 c5 WL := by
                      rw [HWL.out]
                      rw [Nat.sub_self, List.replicate_zero, List.append_nil] at h1
                      simpa only [List.append_assoc] using h1
                    exact h2
                  have hBW : Hid (Below wr0.heap.size wr0 u5) := HV.out.below.trans (HU.out.below.mono HV.out.size)
                  have hwl : WL.length ≤ 140737488355328 := by rw [HWL.out]; (simp only [List.length_append, List.length_cons, List.length_nil, TT_len, sb_len, List.length_replicate]; omega)
                  have Hwl := hid hwl
                  clear hwl
                  have hcall := zzwf_ob D (Pl.dg h).length ((Pl.dg h).length + 7 + (sb f).length) ((sb f).length) hL.out (by omega) (by (simp only [List.length_append, List.length_cons, List.length_nil, TT_len, sb_len, List.length_replicate]; omega)) (mem_app (TT_byte hh (by omega) (by omega)) (mem_app (by intro z hz; simp at hz; omega) (mem_app (sb_byte f) (sb_byte x)))) (TT_first hh _) (TT_c0 h m s _) (TT_c3 h m s _) (by (simp only [List.length_append, List.length_cons, List.length_nil, TT_len, sb_len, List.length_replicate]; omega)) (by (simp only [List.length_append, List.length_cons, List.length_nil, TT_len, sb_len, List.length_replicate]; omega)) (tail_some (by rw [sb_len]; omega) (fun j hj => HF.out j (by rw [sb_len] at hj; exact hj)) (fun hq => (Hsuf.out hq).2))
                  refine hcall.mono ?_
                  clear hcall
                  rintro e u6 (⟨hDk, rfl, rfl⟩ | ⟨hDk, v6, rfl, hb6⟩)
                  · have hR : Rd u6 v WL := by
                      have h1 := hL.out.rd
                      rw [HWL.out]
                      exact h1
                    have HR := hid hR
                    clear hR
                    go_wp2_with fail
                    refine (bytesEq_any _ _ WL u6 Hwl.out HR.out hU.out).mono ?_
                    rintro e u7 ⟨rfl, q, rfl⟩
                    go_wp2
                    go_ret
                    exact ⟨rfl, below_drewN hBW.out q⟩
                  · exfalso; rw [sb_len] at hDk; omega

          · have hf0' : ¬ (0 : Int) < f.size := by omega
            by_cases hDf : (f.size : Int) < D
            · obtain ⟨N, rfl⟩ : ∃ N : Nat, D = N := ⟨D.toNat, by omega⟩
              have hN : f.size ≤ N := by omega
              obtain ⟨WL, HWL⟩ : ∃ WL, Hid (WL = TT h m s ++ ([46] ++ (List.replicate N 48 ++ sb x))) := ⟨_, hid rfl⟩
              go_upto_region 21 with (first
                | (go_at_call 37; refine (timeText_any h m s wr hh (by omega) (by omega)).mono ?_; rintro e w1 ⟨v1, rfl, hb1⟩; have Hb1 := hid hb1; clear hb1)
                | (at_builtin; refine wpList_ob_text rfl (.tmp 80) (.tmp 81) 22 9 rfl i0 Try.underlying22 Try.underlying9 hi hz0 hz1 hz2 wr.heap.size _ _ wr rfl Hb1.out x rfl ?_ ?_; (simp only [List.length_append, List.length_cons, List.length_nil, TT_len, sb_len, List.length_replicate]; omega); intro v wv hob; have HV := hid hob; clear hob))
              obtain ⟨wr0, hwr0⟩ : ∃ wr0, wr0 = wr := ⟨_, rfl⟩
              subst hwr0
              go_wp2_with (first
                | (go_at_call 37; refine (timeText_any h m s wv hh (by omega) (by omega)).mono ?_; rintro e u1 ⟨c1, rfl, hb1⟩; have Ub1 := hid hb1; clear hb1)
                | (at_builtin; refine wpList_ob_byte rfl (.tmp 95) (.tmp 96) 22 rfl i0 Try.underlying22 hi hz0 hz1 hz2 wv.heap.size _ _ wv u1 rfl 46 Ub1.out rfl ?_ ?_; (simp only [List.length_append, List.length_cons, List.length_nil, TT_len, sb_len, List.length_replicate]; omega); intro c2 u2 hob; have Ub2 := hid hob; clear hob)
                | (at_builtin; refine wpList_ob_text rfl (.tmp 98) (.tmp 99) 22 9 rfl i0 Try.underlying22 Try.underlying9 hi hz0 hz1 hz2 wv.heap.size _ _ wv rfl Ub2.out f rfl ?_ ?_; (simp only [List.length_append, List.length_cons, List.length_nil, TT_len, sb_len, List.length_replicate]; omega); intro c3 u3 hob; have Ub3 := hid hob; clear hob))
              go_loopg [15, 17] (N - f.size) (fun gk c i wx => ∃ j : Nat, f.size ≤ j ∧ j ≤ N ∧ gk = N - j ∧ i = .int .i64 j ∧ Hid (OB wv.heap.size c ((TT h m s ++ [46]) ++ sb f ++ List.replicate (j - f.size) 48) wv wx))
              case atStart => exact ⟨f.size, Nat.le_refl _, hN, rfl, rfl, hid (by rw [Nat.sub_self, List.replicate_zero, List.append_nil]; exact Ub3.out)⟩
              case round =>
                obtain ⟨j, hj1, hj2, rfl, rfl, Hwx⟩ := hrel
                by_cases hjN : j < N
                · have hlt : (j : Int) < (N : Nat) := by omega
                  go_wp2_with (at_builtin; refine wpList_ob_byte rfl (.tmp 108) (.tmp 109) 22 rfl i0 Try.underlying22 hi hz0 hz1 hz2 wv.heap.size _ _ wv wr rfl 48 Hwx.out rfl ?_ ?_; (simp only [List.length_append, List.length_cons, List.length_nil, TT_len, sb_len, List.length_replicate]; omega); intro c4 u4 hob; have Ub4 := hid hob; clear hob)
                  go_roundg (N - (j + 1))
                  case measure => omega
                  case rel => exact ⟨j + 1, by omega, hjN, rfl, by go_num, by have := Ub4.out; rwa [List.append_assoc, ← List.replicate_succ', show j - f.size + 1 = j + 1 - f.size by omega] at this⟩
                · obtain rfl : N = j := by omega
                  go_wp2_with (first
                    | (at_builtin; refine wpList_ob_text rfl (.tmp 111) (.tmp 112) 22 9 rfl i0 Try.underlying22 Try.underlying9 hi hz0 hz1 hz2 wv.heap.size _ _ wv rfl Hwx.out x rfl ?_ ?_; (simp only [List.length_append, List.length_cons, List.length_nil, TT_len, sb_len, List.length_replicate]; omega); intro c5 u5 hob; have HU := hid hob; clear hob))
                  have hL : Hid (OB wr0.heap.size v (TT h m s ++ sb x) wr0 u5) := by
                    have h1 := HV.out.later HU.out.below
                    have h2 : OB wr0.heap.size v (TT h m s ++ sb x) wr0 u5 := by
                      exact h1
                    exact h2
                  have hU : Hid (Rd u5 c5 WL) := by
                    have h1 := HU.out.rd
                    have h2 : Rd u5 c5 WL := by
                      rw [HWL.out]
                      have hfn : sb f = [] := List.eq_nil_of_length_eq_zero (by rw [sb_len]; omega)
                      rw [hfn, List.append_nil, show N - f.size = N by omega] at h1
                      simpa only [List.append_assoc] using h1
                    exact h2
                  have hBW : Hid (Below wr0.heap.size wr0 u5) := HV.out.below.trans (HU.out.below.mono HV.out.size)
                  have hwl : WL.length ≤ 140737488355328 := by rw [HWL.out]; (simp only [List.length_append, List.length_cons, List.length_nil, TT_len, sb_len, List.length_replicate]; omega)
                  have Hwl := hid hwl
                  clear hwl
                  have hcall := zzwf_ob (N : Int) (Pl.dg h).length ((Pl.dg h).length + 6) (0) hL.out (by omega) (by (simp only [List.length_append, List.length_cons, List.length_nil, TT_len, sb_len, List.length_replicate]; omega)) (mem_app (TT_byte hh (by omega) (by omega)) (sb_byte x)) (TT_first hh _) (TT_c0 h m s _) (TT_c3 h m s _) (by (simp only [List.length_append, List.length_cons, List.length_nil, TT_len, sb_len, List.length_replicate]; omega)) (by (simp only [List.length_append, List.length_cons, List.length_nil, TT_len, sb_len, List.length_replicate]; omega)) (tail_none (fun hq => (Hsuf.out hq).1))
                  refine hcall.mono ?_
                  clear hcall
                  rintro e u6 (⟨hDk, rfl, rfl⟩ | ⟨hDk, v6, rfl, hb6⟩)
                  · exfalso; omega
                  · have hR : Rd u6 v6 WL := by
                      have h1 := hb6.rd
                      rw [Int.toNat_natCast, out_none] at h1
                      rw [HWL.out]
                      exact h1
                    have HR := hid hR
                    have HU6 : Hid (Rd u6 c5 WL) := hU.out.later hb6.below
                    have HB6 : Hid (Below wr0.heap.size wr0 u6) := hBW.out.trans (hb6.below.mono (Nat.le_trans (HV.out.size) HU.out.below.size))
                    clear hR hb6
                    go_wp2_with fail
                    refine (bytesEq_any _ _ WL u6 Hwl.out HR.out HU6.out).mono ?_
                    rintro e u7 ⟨rfl, q, rfl⟩
                    go_wp2
                    go_ret
                    exact ⟨rfl, below_drewN HB6.out q⟩

            · obtain ⟨WL, HWL⟩ : ∃ WL, Hid (WL = TT h m s ++ sb x) := ⟨_, hid rfl⟩
              go_upto_region 21 with (first
                | (go_at_call 37; refine (timeText_any h m s wr hh (by omega) (by omega)).mono ?_; rintro e w1 ⟨v1, rfl, hb1⟩; have Hb1 := hid hb1; clear hb1)
                | (at_builtin; refine wpList_ob_text rfl (.tmp 80) (.tmp 81) 22 9 rfl i0 Try.underlying22 Try.underlying9 hi hz0 hz1 hz2 wr.heap.size _ _ wr rfl Hb1.out x rfl ?_ ?_; (simp only [List.length_append, List.length_cons, List.length_nil, TT_len, sb_len, List.length_replicate]; omega); intro v wv hob; have HV := hid hob; clear hob))
              obtain ⟨wr0, hwr0⟩ : ∃ wr0, wr0 = wr := ⟨_, rfl⟩
              subst hwr0
              go_wp2_with (first
                | (go_at_call 37; refine (timeText_any h m s wv hh (by omega) (by omega)).mono ?_; rintro e u1 ⟨c1, rfl, hb1⟩; have Ub1 := hid hb1; clear hb1)
                | (at_builtin; refine wpList_ob_text rfl (.tmp 111) (.tmp 112) 22 9 rfl i0 Try.underlying22 Try.underlying9 hi hz0 hz1 hz2 wv.heap.size _ _ wv rfl Ub1.out x rfl ?_ ?_; (simp only [List.length_append, List.length_cons, List.length_nil, TT_len, sb_len, List.length_replicate]; omega); intro c5 u5 hob; have HU := hid hob; clear hob))
              have hL : Hid (OB wr0.heap.size v (TT h m s ++ sb x) wr0 u5) := by
                have h1 := HV.out.later HU.out.below
                have h2 : OB wr0.heap.size v (TT h m s ++ sb x) wr0 u5 := by
                  exact h1
                exact h2
              have hU : Hid (Rd u5 c5 WL) := by
                have h1 := HU.out.rd
                have h2 : Rd u5 c5 WL := by
                  rw [HWL.out]
                  exact h1
                exact h2
              have hBW : Hid (Below wr0.heap.size wr0 u5) := HV.out.below.trans (HU.out.below.mono HV.out.size)
              have hwl : WL.length ≤ 140737488355328 := by rw [HWL.out]; (simp only [List.length_append, List.length_cons, List.length_nil, TT_len, sb_len, List.length_replicate]; omega)
              have Hwl := hid hwl
              clear hwl
              have hcall := zzwf_ob D (Pl.dg h).length ((Pl.dg h).length + 6) (0) hL.out (by omega) (by (simp only [List.length_append, List.length_cons, List.length_nil, TT_len, sb_len, List.length_replicate]; omega)) (mem_app (TT_byte hh (by omega) (by omega)) (sb_byte x)) (TT_first hh _) (TT_c0 h m s _) (TT_c3 h m s _) (by (simp only [List.length_append, List.length_cons, List.length_nil, TT_len, sb_len, List.length_replicate]; omega)) (by (simp only [List.length_append, List.length_cons, List.length_nil, TT_len, sb_len, List.length_replicate]; omega)) (tail_none (fun hq => (Hsuf.out hq).1))
              refine hcall.mono ?_
              clear hcall
              rintro e u6 (⟨hDk, rfl, rfl⟩ | ⟨hDk, v6, rfl, hb6⟩)
              · have hR : Rd u6 v WL := by
                  have h1 := hL.out.rd
                  rw [HWL.out]
                  exact h1
                have HR := hid hR
                clear hR
                go_wp2_with fail
                refine (bytesEq_any _ _ WL u6 Hwl.out HR.out hU.out).mono ?_
                rintro e u7 ⟨rfl, q, rfl⟩
                go_wp2
                go_ret
                exact ⟨rfl, below_drewN hBW.out q⟩
              · exfalso; omega

end Go.Proofs.Qxb6000731a
