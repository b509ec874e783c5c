/-
  THE WALK of skipDigits (28), validNumber (23) and its shim (11).
-/
import Derived.Test.Qxb6000523aValueEnd
import Derived.Deep.DeepCutAuto
import Derived.Deep.CutBlock
namespace Go.Proofs.Qxb6000523a
open Go.RowKit

/-- From a to b there is no byte that ends a number. -/
def NC (d : Nat → Int) (a b : Nat) : Prop := ∀ j, a ≤ j → j < b → Pl.delim (d j) = false

theorem NC.refl (d : Nat → Int) (a : Nat) : NC d a a := fun j h1 h2 => by omega
theorem NC.snoc {d : Nat → Int} {a b : Nat} (h : NC d a b) (hb : Pl.delim (d b) = false) : NC d a (b + 1) := below_more h hb
theorem NC.trans {d : Nat → Int} {a b c : Nat} (h : NC d a b) (k : NC d b c) : NC d a c := fun j h1 h2 => by
  rcases Nat.lt_or_ge j b with h3 | h3
  · exact h j h1 h3
  · exact k j h3 h2

theorem digit_nc {c : Int} (h1 : 48 ≤ c) (h2 : c ≤ 57) : Pl.delim c = false := by
  unfold Pl.delim
  simp only [Bool.or_eq_false_iff, beq_eq_false_iff_ne]
  omega

set_option maxHeartbeats 1000000 in
theorem skipDigits_any (b o n c s : Nat) (d : Nat → Int) (w : World) (hn : n ≤ 1048576) (hs : s ≤ n) (hc : ∀ i, i < n → w.cell? ⟨b, o + i, none⟩ = some (.int .u8 (d i))) :
    Calls Try.prog 28 #[.slice (some ⟨b, o, none⟩) n c, .int .i64 s] w fun e w' => ∃ k : Nat, e = .returned (.int .i64 k) ∧ w' = w ∧ s ≤ k ∧ k ≤ n ∧ NC d s k := by
  have hc' := hid hc
  clear hc
  go_enter Try.func28, Try.ntmps28
  go_wp2
  go_loopg [1] (n - s) (fun g i wr => ∃ k : Nat, s ≤ k ∧ k ≤ n ∧ g = n - k ∧ i = .int .i64 k ∧ wr = w ∧ Hid (NC d s k))
  case atStart => exact ⟨s, Nat.le_refl _, hs, rfl, rfl, rfl, NC.refl d s⟩
  case round =>
    obtain ⟨k, hk1, hk2, rfl, rfl, hw, HF⟩ := hrel
    subst hw
    by_cases hkn : k < n
    · have hck := hc'.out k hkn
      by_cases h1 : 48 ≤ d k
      · by_cases h2 : d k ≤ 57
        · have HN := hid (HF.out.snoc (digit_nc h1 h2))
          go_wp2
          go_roundg (n - (k + 1))
          case measure => omega
          case rel => exact ⟨k + 1, by omega, by omega, rfl, by go_num, rfl, HN⟩
        · go_wp2
          go_ret
          exact ⟨k, rfl, rfl, hk1, hk2, HF.out⟩
      · go_wp2
        go_ret
        exact ⟨k, rfl, rfl, hk1, hk2, HF.out⟩
    · go_wp2
      go_ret
      exact ⟨k, rfl, rfl, hk1, hk2, HF.out⟩

/-- How validNumber ends. -/
def VNEnd (d : Nat → Int) (n s : Nat) (w : World) (e : Ending) (w' : World) : Prop := ∃ r : Int, e = .returned (.int .i64 r) ∧ w' = w ∧ (r = -1 ∨ ∃ m : Nat, r = m ∧ s < m ∧ m ≤ n ∧ NC d s m)

set_option maxRecDepth 100000 in
set_option maxHeartbeats 2000000 in
theorem validNumber_any (b o n c s : Nat) (d : Nat → Int) (w : World) (hn : n ≤ 1048576) (hs : s < n) (hc : ∀ i, i < n → w.cell? ⟨b, o + i, none⟩ = some (.int .u8 (d i))) :
    Calls Try.prog 23 #[.slice (some ⟨b, o, none⟩) n c, .int .i64 s] w (VNEnd d n s w) := by
  have hc' := hid hc
  have hcs := hc s hs
  clear hc
  go_enter Try.func23, Try.ntmps23
  go_upto_if 10 with fail
  go_cut [1] (fun i wc => ∃ k : Nat, i = .int .i64 k ∧ s ≤ k ∧ k ≤ n ∧ wc = w ∧ Hid (NC d s k))
  case first =>
    by_cases h45 : (d s == 45) = true
    · have HN := hid (NC.snoc (NC.refl d s) (by rw [beq_iff_eq.1 h45]; rfl))
      go_wp2
      go_meet
      case rel => exact ⟨s + 1, by go_num, by omega, by omega, rfl, HN⟩
    · have h45' : (d s == 45) = false := by simpa using h45
      clear h45
      go_wp2
      go_meet
      case rel => exact ⟨s, rfl, Nat.le_refl _, by omega, rfl, NC.refl d s⟩
  case rest =>
    obtain ⟨k, rfl, hk1, hk2, hw, HN⟩ := hcut
    subst hw
    clear hcs
    go_upto_block 0 with fail
    go_cut [1] (fun i wx => ∃ k : Nat, i = .int .i64 k ∧ s < k ∧ k ≤ n ∧ wx = wc ∧ Hid (NC d s k))
    case first =>
      by_cases hkn : k < n
      · have hck := hc'.out k hkn
        by_cases h48 : d k = 48
        · have HN1 := hid (HN.out.snoc (by rw [h48]; rfl))
          rw [h48] at hck
          clear h48 HN
          go_wp2
          go_meet
          case rel => exact ⟨k + 1, by go_num, by omega, by omega, rfl, HN1⟩
        · have h48' : (d k == 48) = false := by simpa using h48
          by_cases h49 : 49 ≤ d k
          · by_cases h57 : d k ≤ 57
            · have HN1 := hid (HN.out.snoc (digit_nc (by omega) h57))
              clear h48
              go_wp2_with (go_at_call 28; refine (skipDigits_any b o n c (k + 1) d _ hn hkn hc'.out).mono ?_; rintro e wc ⟨k2, rfl, rfl, hk21, hk22, hnc2⟩; have HN2 := hid (HN1.out.trans hnc2); clear hnc2)
              go_meet
              case rel => exact ⟨k2, rfl, by omega, by omega, rfl, HN2⟩
            · clear h48
              go_wp2
              go_ret
              exact ⟨-1, rfl, rfl, .inl rfl⟩
          · clear h48
            go_wp2
            go_ret
            exact ⟨-1, rfl, rfl, .inl rfl⟩
      · go_wp2
        go_ret
        exact ⟨-1, rfl, rfl, .inl rfl⟩
    case rest =>
      obtain ⟨k, rfl, hk1, hk2, hw, HN⟩ := hcut
      subst hw
      go_upto_region 8 with fail
      go_cut [60] (fun v wx => ∃ B : Bool, v = .bool B ∧ wx = wc ∧ Hid (B = true → k < n ∧ d k = 46))
      case first =>
        by_cases hkn : k < n
        · have hck := hc'.out k hkn
          by_cases h46 : (d k == 46) = true
          · go_wp2
            go_meet
            case rel => exact ⟨true, rfl, rfl, fun _ => ⟨hkn, beq_iff_eq.1 h46⟩⟩
          · have h46' : (d k == 46) = false := by simpa using h46
            clear h46
            go_wp2
            go_meet
            case rel => exact ⟨false, rfl, rfl, fun h => by cases h⟩
        · go_wp2
          go_meet
          case rel => exact ⟨false, rfl, rfl, fun h => by cases h⟩
      case rest =>
        obtain ⟨B, rfl, hw, HB⟩ := hcut
        subst hw
        go_upto_if 60 with fail
        go_cut [1] (fun i wx => ∃ k : Nat, i = .int .i64 k ∧ s < k ∧ k ≤ n ∧ wx = wc ∧ Hid (NC d s k))
        case first =>
          cases B with
          | false =>
            go_wp2
            go_meet
            case rel => exact ⟨k, rfl, hk1, hk2, rfl, HN⟩
          | true =>
            obtain ⟨hkn, h46⟩ := HB.out rfl
            have HN1 := hid (HN.out.snoc (by rw [h46]; rfl))
            clear h46 HB
            go_wp2_with fail
            refine (skipDigits_any b o n c (k + 1) d _ hn hkn hc'.out).mono ?_
            rintro e wc ⟨k2, rfl, rfl, hk21, hk22, hnc2⟩
            have HN2 := hid (HN1.out.trans hnc2)
            clear hnc2
            have hck : wc.cell? ⟨b, o + (k2 - 1), none⟩ = some (.int .u8 (d (k2 - 1))) := hc'.out (k2 - 1) (by omega)
            by_cases hl : (d (k2 - 1) == 46) = true
            · go_wp2
              go_ret
              exact ⟨-1, rfl, rfl, .inl rfl⟩
            · have hl' : (d (k2 - 1) == 46) = false := by simpa using hl
              clear hl
              go_wp2
              go_meet
              case rel => exact ⟨k2, rfl, by omega, hk22, rfl, HN2⟩
        case rest =>
          clear HN HB hk1 hk2
          obtain ⟨k, rfl, hk1, hk2, hw, HN⟩ := hcut
          subst hw
          go_upto_region 12 with fail
          go_cut [88] (fun v wx => ∃ B : Bool, v = .bool B ∧ wx = wc ∧ Hid (B = true → k < n ∧ Pl.delim (d k) = false))
          case first =>
            by_cases hkn : k < n
            · have hck := hc'.out k hkn
              by_cases h1 : (d k == 101) = true
              · have HD := hid (show Pl.delim (d k) = false by rw [beq_iff_eq.1 h1]; rfl)
                go_wp2
                go_meet
                case rel => exact ⟨true, rfl, rfl, fun _ => ⟨hkn, HD.out⟩⟩
              · have h1' : (d k == 101) = false := by simpa using h1
                clear h1
                by_cases h2 : (d k == 69) = true
                · have HD := hid (show Pl.delim (d k) = false by rw [beq_iff_eq.1 h2]; rfl)
                  go_wp2
                  go_meet
                  case rel => exact ⟨true, rfl, rfl, fun _ => ⟨hkn, HD.out⟩⟩
                · have h2' : (d k == 69) = false := by simpa using h2
                  clear h2
                  go_wp2
                  go_meet
                  case rel => exact ⟨false, rfl, rfl, fun h => by cases h⟩
            · go_wp2
              go_meet
              case rel => exact ⟨false, rfl, rfl, fun h => by cases h⟩
          case rest =>
            obtain ⟨B, rfl, hw, HB⟩ := hcut
            subst hw
            cases B with
            | false =>
              go_wp2
              go_ret
              exact ⟨k, rfl, rfl, .inr ⟨k, rfl, hk1, hk2, HN.out⟩⟩
            | true =>
              obtain ⟨hkn, hdl⟩ := HB.out rfl
              have HN1 := hid (HN.out.snoc hdl)
              clear HB HN hdl
              go_upto_region 14 with fail
              go_cut [108] (fun v wx => ∃ B : Bool, v = .bool B ∧ wx = wc ∧ Hid (B = true → k + 1 < n ∧ Pl.delim (d (k + 1)) = false))
              case first =>
                by_cases hkn2 : k + 1 < n
                · have hck := hc'.out (k + 1) hkn2
                  have hi2 : (k : Int) + 1 < n := by omega
                  by_cases h1 : (d (k + 1) == 43) = true
                  · have HD := hid (show Pl.delim (d (k + 1)) = false by rw [beq_iff_eq.1 h1]; rfl)
                    go_wp2
                    go_meet
                    case rel => exact ⟨true, rfl, rfl, fun _ => ⟨hkn2, HD.out⟩⟩
                  · have h1' : (d (k + 1) == 43) = false := by simpa using h1
                    clear h1
                    by_cases h2 : (d (k + 1) == 45) = true
                    · have HD := hid (show Pl.delim (d (k + 1)) = false by rw [beq_iff_eq.1 h2]; rfl)
                      go_wp2
                      go_meet
                      case rel => exact ⟨true, rfl, rfl, fun _ => ⟨hkn2, HD.out⟩⟩
                    · have h2' : (d (k + 1) == 45) = false := by simpa using h2
                      clear h2
                      go_wp2
                      go_meet
                      case rel => exact ⟨false, rfl, rfl, fun h => by cases h⟩
                · have hi2 : decide ((k : Int) + 1 < n) = false := by simp; omega
                  go_wp2
                  go_meet
                  case rel => exact ⟨false, rfl, rfl, fun h => by cases h⟩
              case rest =>
                obtain ⟨B, rfl, hw, HB⟩ := hcut
                subst hw
                go_upto_if 108 with fail
                go_cut [1] (fun i wx => ∃ k : Nat, i = .int .i64 k ∧ s < k ∧ k ≤ n ∧ wx = wc ∧ Hid (NC d s k))
                case first =>
                  cases B with
                  | false =>
                    go_wp2
                    go_meet
                    case rel => exact ⟨k + 1, by go_num, by omega, by omega, rfl, HN1⟩
                  | true =>
                    obtain ⟨hkn2, hdl⟩ := HB.out rfl
                    have HN2 := hid (HN1.out.snoc hdl)
                    clear HB hdl
                    go_wp2
                    go_meet
                    case rel => exact ⟨k + 2, by go_num, by omega, by omega, rfl, HN2⟩
                case rest =>
                  clear HN1 HB hkn hk1 hk2
                  obtain ⟨k, rfl, hk1, hk2, hw, HN⟩ := hcut
                  subst hw
                  go_wp2_with fail
                  refine (skipDigits_any b o n c k d _ hn hk2 hc'.out).mono ?_
                  rintro e wc ⟨k2, rfl, rfl, hk21, hk22, hnc2⟩
                  have HN2 := hid (HN.out.trans hnc2)
                  clear hnc2
                  by_cases he : ((k2 : Int) == k) = true
                  · go_wp2
                    go_ret
                    exact ⟨-1, rfl, rfl, .inl rfl⟩
                  · have he' : ((k2 : Int) == k) = false := by simpa using he
                    clear he
                    go_wp2
                    go_ret
                    exact ⟨k2, rfl, rfl, .inr ⟨k2, rfl, by omega, hk22, HN2.out⟩⟩

set_option maxHeartbeats 400000 in
theorem zzValidNumber_any (b o n c s : Nat) (d : Nat → Int) (w : World) (hn : n ≤ 1048576) (hs : s < n) (hc : ∀ i, i < n → w.cell? ⟨b, o + i, none⟩ = some (.int .u8 (d i))) :
    Calls Try.prog 11 #[.slice (some ⟨b, o, none⟩) n c, .int .i64 s] w (VNEnd d n s w) := by
  have H := hid (validNumber_any b o n c s d w hn hs hc)
  clear hc
  go_enter Try.func11, Try.ntmps11
  go_wp2_with (go_at_call 23; refine H.out.mono ?_; rintro e w1 ⟨r, rfl, rfl, hr⟩; have HR := hid hr; clear hr)
  go_ret
  exact ⟨_, rfl, rfl, HR.out⟩

set_option maxHeartbeats 400000 in
theorem isDelim_any (c : Int) (w : World) :
    Calls Try.prog 15 #[.int .u8 c] w fun e w' => e = .returned (.bool (Pl.delim c)) ∧ w' = w := by
  go_enter Try.func15, Try.ntmps15
  go_wp2
  all_goals
    go_ret
    exact ⟨ret_bool (by simp [Pl.delim, *]), rfl⟩
end Go.Proofs.Qxb6000523a
