/-
  THE WALK of the law's own model of a value's end, jwb1ValueEnd (function 22).
-/
import Derived.Test.Qxb6000005aMarks
import Derived.Test.Qxb6000005aRead
import Derived.Deep.LoopGhost
namespace Go.Proofs.Qxb6000005a
open Go.RowKit

theorem hid {p : Prop} (h : p) : Hid p := h

/-- The row of marks that the model makes, block g, m bools; below it all is as it was. -/
structure BR (g m : Nat) (μ : Nat → Bool) (w0 w : World) : Prop where
  below : Below g w0 w
  cell : ∀ j, j < m → w.cell? ⟨g, j, none⟩ = some (.bool (μ j))
  fz : ∀ j, w.frozen? ⟨g, j, none⟩ = false

theorem BR.congr {g m : Nat} {μ ν : Nat → Bool} {w0 w : World} (h : BR g m μ w0 w) (e : ∀ j, μ j = ν j) : BR g m ν w0 w := ⟨h.below, fun j hj => by rw [h.cell j hj, e j], h.fz⟩

theorem BR.set {g m : Nat} {μ : Nat → Bool} {w0 w : World} (h : BR g m μ w0 w) {t : Nat} (ht : t < m) : BR g m (fun j => if j = t then true else μ j) w0 (w.setCell ⟨g, t, none⟩ (.bool true)) := by
  refine ⟨h.below.setCell (Nat.le_refl _) _, fun j hj => ?_, fun j => by rw [World.frozen?_setCell]; exact h.fz j⟩
  by_cases e : j = t
  · subst e
    rw [World.cell?_setCell_same _ _ _ (h.cell j hj)]; simp
  · rw [World.cell?_setCell_other _ _ _ _ (by intro e'; injection e'; omega), h.cell j hj]; simp [e]

theorem BR.made {w w1 : World} {m : Nat} (hown : w1.ownsRow w.heap.size 4 1 (.slice (some ⟨w.heap.size, 0, none⟩) m m) m (madeCells (Value.bool false).cells (m * 1)).toList) (hg : w.grownBy w1 none) : BR w.heap.size m (fun _ => false) w w1 := by
  refine ⟨(Below.refl w.heap.size w).grown hg (Nat.le_refl _) (fun k h => by cases h), fun j hj => ?_, fun j => hown.frozenAt j⟩
  rw [hown.cellAt j (by omega)]
  show (madeCells #[Value.bool false] (m * 1)).toList[j]? = _
  rw [toList_madeCells_one]
  simp [hj]

theorem info4 : (Try.prog.info? 4).map (fun i => (i.zero, i.size, i.bytes)) = some (some (.bool false), 1, 1) := by kernel_rfl

set_option maxHeartbeats 1000000 in
theorem ve_end (b o n c s : Nat) (w : World) (hs : n ≤ s) :
    Calls Try.prog 22 #[.slice (some ⟨b, o, none⟩) n c, .int .i64 s] w fun e w' => e = .returned (.int .i64 s) ∧ Below w.heap.size w w' := by
  go_enter Try.func22, Try.ntmps22
  go_wp2
  go_ret
  exact ⟨rfl, Below.refl _ _⟩

set_option maxHeartbeats 1000000 in
theorem ve_str (b o n c s : Nat) (d : Nat → Int) (w : World) (hn : n ≤ 1048576) (hs : s < n) (hq : d s = 34) (hc : ∀ i, i < n → w.cell? ⟨b, o + i, none⟩ = some (.int .u8 (d i))) :
    Calls Try.prog 22 #[.slice (some ⟨b, o, none⟩) n c, .int .i64 s] w fun e w' => e = .returned (.int .i64 (Pl.F d n (s + 1))) ∧ Below w.heap.size w w' := by
  have hcs := hc s hs
  rw [hq] at hcs
  have hf := hid (fwdEnd_any b o n c s d w hn hs hc)
  clear hc hq
  go_enter Try.func22, Try.ntmps22
  go_wp2_with (go_at_call 18; refine hf.out.mono ?_; rintro e w ⟨rfl, rfl⟩)
  go_ret
  exact ⟨rfl, Below.refl _ _⟩

set_option maxHeartbeats 1000000 in
theorem ve_scalar (b o n c s : Nat) (d : Nat → Int) (w : World) (hn : n ≤ 1048576) (hs : s < n) (h1 : d s ≠ 34) (h2 : ¬ (d s = 123 ∨ d s = 91)) (hc : ∀ i, i < n → w.cell? ⟨b, o + i, none⟩ = some (.int .u8 (d i))) :
    Calls Try.prog 22 #[.slice (some ⟨b, o, none⟩) n c, .int .i64 s] w fun e w' => e = .returned (.int .i64 (Pl.fst Pl.delim d n s)) ∧ Below w.heap.size w w' := by
  have hcs := hc s hs
  have hc' := hid hc
  have h1' : (d s == 34) = false := by simpa using h1
  have h2' : (d s == 123) = false := by simp; omega
  have h3' : (d s == 91) = false := by simp; omega
  have hd0 : decide (n ≤ s) = false := by simp; omega
  clear hc h1 h2
  go_enter Try.func22, Try.ntmps22
  go_wp2
  go_loop [13] (fun i => ∃ k : Nat, s ≤ k ∧ k ≤ n ∧ i = .int .i64 k ∧ Hid (∀ j, s ≤ j → j < k → Pl.delim (d j) = false)) (fun i => n - (intOf i).toNat)
  case atStart => exact ⟨s, Nat.le_refl _, by omega, rfl, fun j h1 h2 => by omega⟩
  case round =>
    obtain ⟨k, hk1, hk2, rfl, HF⟩ := hrel
    by_cases hkn : k < n
    · have hck := hc'.out k hkn
      by_cases hb : Pl.delim (d k) = true
      · go_wp2_with (go_at_call 26; refine (endsScalar_any _ _).mono ?_; rintro e w' ⟨rfl, rfl⟩)
        go_ret
        exact ⟨ret_int (by rw [Pl.fst_eq hk2 hk1 HF.out (fun _ => hb)]), Below.refl _ _⟩
      · have hb' : Pl.delim (d k) = false := by simpa using hb
        clear hb
        go_wp2_with (go_at_call 26; refine (endsScalar_any _ _).mono ?_; rintro e w' ⟨rfl, rfl⟩)
        go_round
        case rel => exact ⟨k + 1, by omega, by omega, by go_num, below_succ HF.out hb'⟩
        case measure => simp [intOf]; omega
    · go_wp2
      go_ret
      exact ⟨ret_int (by rw [Pl.fst_eq hk2 hk1 HF.out (fun h => by omega)]), Below.refl _ _⟩

set_option maxRecDepth 100000 in
set_option maxHeartbeats 2000000 in
theorem ve_grp (b o n c s : Nat) (d : Nat → Int) (w : World) (hn : n ≤ 1048576) (hb : b < w.heap.size) (hs : s < n) (hop : d s = 123 ∨ d s = 91) (hc : ∀ i, i < n → w.cell? ⟨b, o + i, none⟩ = some (.int .u8 (d i))) :
    Calls Try.prog 22 #[.slice (some ⟨b, o, none⟩) n c, .int .i64 s] w fun e w' => e = .returned (.int .i64 (Pl.G d n s 0)) ∧ Below w.heap.size w w' := by
  have hcs := hc s hs
  have hc' := hid hc
  have Hop := hid hop
  have hd0 : decide (n ≤ s) = false := by simp; omega
  obtain ⟨i0, hi, hz0, hz1, hz2⟩ := info_parts info4
  clear hc
  rcases hop with hop | hop
  all_goals
    rw [hop] at hcs
    clear hop
    go_enter Try.func22, Try.ntmps22
    go_wp2_with (at_make; refine wpList_make_full _ rfl _ _ 36 rfl w.heap.size 4 i0 (.bool false) 1 Try.underlying36 hi hz0 hz1 _ _ _ _ (n - s) rfl rfl ?_ ?_ ?_ ?_ ?_ ?_; omega; omega; (rw [hz2]; omega); (unfold maxLen; omega); exact Nat.le_refl _; intro w1 hown hgrow; have hbr := BR.made hown hgrow; clear hown hgrow)
    go_loopg [7] (n - s) (fun g i wr => ∃ k : Nat, s ≤ k ∧ k ≤ n ∧ g = n - k ∧ i = .int .i64 k ∧ BR w.heap.size (n - s) (Pl.mu d n s k) w wr ∧ Hid (Pl.Top d n s k))
    case atStart => exact ⟨s, Nat.le_refl _, by omega, rfl, rfl, hbr.congr (fun j => (Pl.mu_start d n s j).symm), Pl.Top.self d n s⟩
    case round =>
      obtain ⟨k, hk1, hk2, rfl, rfl, hwr, HT⟩ := hrel
      have hrow : Hid (∀ i, i < n → wr.cell? ⟨b, o + i, none⟩ = some (.int .u8 (d i))) := fun i hi => by rw [hwr.below.cell (p := ⟨b, o + i, none⟩) hb]; exact hc'.out i hi
      by_cases hkn : k < n
      · have hck := hrow.out k hkn
        by_cases hq : d k = 34
        · rw [hq] at hck
          have hf := fwdEnd_any b o n c k d wr hn hkn hrow.out
          have hbd := Pl.F_bd d n (k + 1) hkn
          obtain ⟨E, HE⟩ : ∃ E, Hid (Pl.F d n (k + 1) = E) := ⟨_, rfl⟩
          rw [HE.out] at hf hbd
          obtain ⟨hE1, hE2⟩ := hbd
          have Hf := hid hf
          have Hq := hid hq
          clear hf hq
          go_wp2_with (go_at_call 18; refine Hf.out.mono ?_; rintro e wr ⟨rfl, rfl⟩)
          go_loopg [9] (E - k) (fun g j wr => ∃ q : Nat, k ≤ q ∧ q ≤ E ∧ g = E - q ∧ j = .int .i64 q ∧ BR w.heap.size (n - s) (Pl.muq d n s k q) w wr)
          case atStart => exact ⟨k, Nat.le_refl _, by omega, rfl, rfl, hwr.congr (fun j => Pl.muq_start d n s k j)⟩
          case round =>
            obtain ⟨q, hq1, hq2, rfl, rfl, hwq⟩ := hrel
            by_cases hqE : q < E
            · have hcq := hwq.cell (q - s) (by omega)
              have hfq := hwq.fz (q - s)
              have hix : (q : Int) - s < ((n - s : Nat) : Int) := by omega
              have hix0 : 0 ≤ (q : Int) - s := by omega
              go_wp2
              go_roundg (E - (q + 1))
              case measure => omega
              case rel => exact ⟨q + 1, by omega, by omega, rfl, by go_num, (hwq.set (t := q - s) (by omega)).congr (fun j => Pl.muq_step d n s k q j hq1 (by omega))⟩
            · obtain rfl : q = E := by omega
              have HB : Hid (BR w.heap.size (n - s) (Pl.mu d n s q) w wr) := hwq.congr (fun j => by have := Pl.muq_end HT.out hkn Hq.out j; rwa [HE.out] at this)
              have HT' : Hid (Pl.Top d n s q) := by have := HT.out.str hkn Hq.out; rwa [HE.out] at this
              go_wp2
              go_roundg (n - q)
              case measure => omega
              case rel => exact ⟨q, by omega, hE2, rfl, rfl, HB.out, HT'⟩
        · have hq' : (d k == 34) = false := by simpa using hq
          have HB : Hid (BR w.heap.size (n - s) (Pl.mu d n s (k + 1)) w wr) := hwr.congr (fun j => Pl.mu_next HT.out hkn hq j)
          have HT' : Hid (Pl.Top d n s (k + 1)) := HT.out.next hkn hq
          clear hq
          go_wp2
          go_roundg (n - (k + 1))
          case measure => omega
          case rel => exact ⟨k + 1, by omega, by omega, rfl, by go_num, HB.out, HT'⟩
      · obtain rfl : k = n := by omega
        clear HT
        go_wp2
        go_loopg [10, 11] (k - s) (fun g t x wr => ∃ (i r : Nat) (bal : Int), s ≤ i ∧ i ≤ k ∧ g = k - i ∧ x = .int .i64 i ∧ t = .int .i64 bal ∧ BR w.heap.size (k - s) (Pl.mu d k s k) w wr ∧ Hid (Pl.P2 d k s i r bal))
        case atStart => exact ⟨s, s, 0, Nat.le_refl _, by omega, rfl, rfl, rfl, hwr, Pl.P2.start d k s (by omega)⟩
        case round =>
          clear hwr hrow hkn hk1 hk2
          obtain ⟨i, r, bal, hi1, hi2, rfl, rfl, rfl, hwr, HF⟩ := hrel
          have hrow : Hid (∀ i, i < k → wr.cell? ⟨b, o + i, none⟩ = some (.int .u8 (d i))) := fun i hi => by rw [hwr.below.cell (p := ⟨b, o + i, none⟩) hb]; exact hc'.out i hi
          have hbal : 0 ≤ bal ∧ bal ≤ i := by rcases HF.out.b with ⟨_, _, h⟩ | h <;> omega
          obtain ⟨hbal1, hbal2⟩ := hbal
          by_cases hin : i < k
          · have hcm : wr.cell? ⟨w.heap.size, i - s, none⟩ = some (.bool (Pl.I d k s i)) := by rw [hwr.cell (i - s) (by omega), Pl.mu_end d k s k (Nat.le_refl _) (by omega), show s + (i - s) = i by omega]
            have hix : (i : Int) - s < ((k - s : Nat) : Int) := by omega
            have hix0 : 0 ≤ (i : Int) - s := by omega
            have hci := hrow.out i hin
            by_cases hm : Pl.I d k s i = true
            · rw [hm] at hcm
              obtain ⟨r', HN⟩ := HF.out.marked Hop.out hin hm
              have HN' := hid HN
              clear hm HN
              go_wp2
              go_roundg (k - (i + 1))
              case measure => omega
              case rel => exact ⟨i + 1, r', bal, by omega, by omega, rfl, by go_num, rfl, hwr, HN'⟩
            · have hm' : Pl.I d k s i = false := by simpa using hm
              rw [hm'] at hcm
              obtain ⟨hri, hq⟩ := HF.out.plain hin hm'
              rw [hri] at HF
              clear hm hm' hri
              by_cases hop : d i = 123 ∨ d i = 91
              · have HN := hid (HF.out.opens hin hop)
                have ht0 : (bal + 1 == 0) = false := by simp; omega
                clear hq
                rcases hop with hop | hop
                all_goals
                  rw [hop] at hci
                  clear hop
                  go_wp2
                  go_roundg (k - (i + 1))
                  case measure => omega
                  case rel => exact ⟨i + 1, i + 1, bal + 1, by omega, by omega, rfl, by go_num, rfl, hwr, HN⟩
              · obtain ⟨hp1, hp2⟩ := HF.out.pos Hop.out hop
                have h1 : (d i == 123) = false := by simp; omega
                have h2 : (d i == 91) = false := by simp; omega
                by_cases hcl : d i = 125 ∨ d i = 93
                · by_cases hb1 : bal = 1
                  · subst hb1
                    have HN := hid (HF.out.last hin hcl)
                    clear hq hop
                    rcases hcl with hcl | hcl
                    all_goals
                      rw [hcl] at hci
                      clear hcl h1 h2
                      go_wp2
                      go_ret
                      exact ⟨ret_int (by rw [HN.out]; omega), hwr.below⟩
                  · have HN := hid (HF.out.closes ⟨hp1, hp2⟩ hin hcl hb1)
                    have ht0 : (bal - 1 == 0) = false := by simp; omega
                    clear hq hop
                    rcases hcl with hcl | hcl
                    all_goals
                      rw [hcl] at hci
                      clear hcl h1 h2
                      go_wp2
                      go_roundg (k - (i + 1))
                      case measure => omega
                      case rel => exact ⟨i + 1, i + 1, bal - 1, by omega, by omega, rfl, by go_num, rfl, hwr, HN⟩
                · have HN := hid (HF.out.other ⟨hp1, hp2⟩ hin hq hop hcl)
                  have h3 : (d i == 125) = false := by simp; omega
                  have h4 : (d i == 93) = false := by simp; omega
                  have ht0 : (bal == 0) = false := by simp; omega
                  clear hq hop hcl
                  go_wp2
                  go_roundg (k - (i + 1))
                  case measure => omega
                  case rel => exact ⟨i + 1, i + 1, bal, by omega, by omega, rfl, by go_num, rfl, hwr, HN⟩
          · obtain rfl : i = k := by omega
            have HN := hid HF.out.done
            go_wp2
            go_ret
            exact ⟨ret_int (by rw [HN.out]), hwr.below⟩


theorem ve_any (b o n c s : Nat) (d : Nat → Int) (w : World) (hn : n ≤ 1048576) (hb : b < w.heap.size) (hc : ∀ i, i < n → w.cell? ⟨b, o + i, none⟩ = some (.int .u8 (d i))) :
    Calls Try.prog 22 #[.slice (some ⟨b, o, none⟩) n c, .int .i64 s] w fun e w' => e = .returned (.int .i64 (Pl.vEnd d n s)) ∧ Below w.heap.size w w' := by
  unfold Pl.vEnd
  by_cases h : n ≤ s
  · rw [if_pos h]
    exact ve_end b o n c s w h
  · rw [if_neg h]
    by_cases h1 : d s = 34
    · rw [if_pos h1]
      exact ve_str b o n c s d w hn (by omega) h1 hc
    · rw [if_neg h1]
      by_cases h2 : d s = 123 ∨ d s = 91
      · rw [if_pos h2]
        exact ve_grp b o n c s d w hn hb (by omega) h2 hc
      · rw [if_neg h2]
        exact ve_scalar b o n c s d w hn (by omega) h1 h2 hc

end Go.Proofs.Qxb6000005a
