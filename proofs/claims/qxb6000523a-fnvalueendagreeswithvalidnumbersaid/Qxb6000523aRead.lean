/-
  THE WALKS of stringEnd, stringByEscapes and their shims.
-/
import Derived.Test.Qxb6000523aRows
import Derived.Test.Qxb6000523aPlain
import Derived.Test.Qxb6000523aMem
import Derived.Laws.Externs
import Derived.Lib.BytesEntry
namespace Go.Proofs.Qxb6000523a
open Go.RowKit

theorem par_succ (m : Nat) : (!(m % 2 == 1)) = ((m + 1) % 2 == 1) := by
  rcases Nat.mod_two_eq_zero_or_one m with h | h <;> simp [h, Nat.add_mod]

theorem run_more {d : Nat → Int} {q e : Nat} (hq : 0 < q) (h92 : d q = 92) (h : ∀ y, q < y → y < e → d y = 92) : ∀ y, q - 1 < y → y < e → d y = 92 := by
  intro y h1 h2
  rcases Nat.lt_or_ge q y with h3 | h3
  · exact h y h3 h2
  · rw [show y = q by omega]; exact h92

theorem below_succ {q : Nat → Prop} {p k : Nat} (h : ∀ j, p ≤ j → j < k → q j) (hk : q k) : ∀ j, p ≤ j → j < k + 1 → q j := by
  intro j h1 h2
  rcases Nat.lt_or_ge j k with h3 | h3
  · exact h j h1 h3
  · rw [show j = k by omega]; exact hk

theorem indexByte_cases (c : UInt8) : ∀ l : List UInt8, (Lib.indexByte l c = -1 ∧ ∀ (j : Nat) (x : UInt8), l[j]? = some x → x ≠ c) ∨ ∃ t : Nat, Lib.indexByte l c = t ∧ l[t]? = some c ∧ ∀ (j : Nat) (x : UInt8), j < t → l[j]? = some x → x ≠ c
  | [] => .inl ⟨rfl, fun j x h => by simp at h⟩
  | b :: l => by
    unfold Lib.indexByte
    by_cases hb : b = c
    · right; exact ⟨0, by simp [hb], by simp [hb], fun j x h => by omega⟩
    · rcases indexByte_cases c l with ⟨h1, h2⟩ | ⟨t, h1, h2, h3⟩
      · left
        refine ⟨by simp [hb, h1], fun j x h => ?_⟩
        cases j with
        | zero => simp at h; subst h; exact hb
        | succ j => simp at h; exact h2 j x h
      · right
        refine ⟨t + 1, ?_, by simpa using h2, fun j x hj h => ?_⟩
        · rw [h1, if_neg (by simpa using hb), if_neg (by simp)]; omega
        · cases j with
          | zero => simp at h; subst h; exact hb
          | succ j => simp at h; exact h3 j x (by omega) h

theorem byte_eq {a : Int} (h0 : 0 ≤ a) (h1 : a < 256) (q : Nat) (hq : q < 256) : a.toNat.toUInt8 = q.toUInt8 ↔ a = q := by
  constructor
  · intro h
    have := congrArg UInt8.toNat h
    simp at this
    omega
  · intro h; subst h; simp

theorem indexByte_ints (f : Nat → Int) (m q : Nat) (hq : q < 256) (hb : ∀ i, i < m → 0 ≤ f i ∧ f i < 256) :
    (Lib.indexByte (Lib.bytesOf ((List.range m).map f)) (q : Int).toNat.toUInt8 = -1 ∧ ∀ j, j < m → f j ≠ q) ∨
    ∃ t : Nat, Lib.indexByte (Lib.bytesOf ((List.range m).map f)) (q : Int).toNat.toUInt8 = t ∧ t < m ∧ f t = q ∧ ∀ j, j < t → f j ≠ q := by
  have hg : ∀ j, j < m → (Lib.bytesOf ((List.range m).map f))[j]? = some (f j).toNat.toUInt8 := fun j hj => by simp [Lib.bytesOf, hj]
  have hlen : (Lib.bytesOf ((List.range m).map f)).length = m := by simp [Lib.bytesOf]
  rcases indexByte_cases (q : Int).toNat.toUInt8 (Lib.bytesOf ((List.range m).map f)) with ⟨h1, h2⟩ | ⟨t, h1, h2, h3⟩
  · refine .inl ⟨h1, fun j hj e => h2 j _ (hg j hj) ?_⟩
    rw [e]
  · have ht : t < m := by rw [← hlen]; exact (List.getElem?_eq_some_iff.1 h2).1
    refine .inr ⟨t, h1, ht, ?_, fun j hj e => h3 j _ hj (hg j (by omega)) (by rw [e])⟩
    rw [hg t ht] at h2
    have := Option.some.inj h2
    exact (byte_eq (hb t ht).1 (hb t ht).2 q hq).1 (by simpa using this)

set_option maxHeartbeats 1000000 in
theorem indexByte_any (b o n c : Nat) (xs : List Int) (cv : Int) (w : World) (hx : xs.length = n)
    (hc : ∀ i, i < n → w.cell? ⟨b, o + i, none⟩ = some (.int .u8 (xs.getD i 0))) :
    Calls Try.prog 29 #[.slice (some ⟨b, o, none⟩) n c, .int .u8 cv] w fun e w' => e = .returned (.int .i64 (Lib.indexByte (Lib.bytesOf xs) cv.toNat.toUInt8)) ∧ w' = w := by
  go_enter Try.func29, Try.ntmps29
  go_wp2
  rw [run_callFunc_extern Try.func30 (by kernel_rfl) (by kernel_rfl) (by kernel_rfl) (e := Extern.BytealgIndexByte.indexByte) (by kernel_rfl), Lib.run_indexByteSlice w b o n c xs hx hc cv]
  simp only [Result.andThen]
  rw [Oper.upon_value]
  go_wp2
  go_ret
  exact ⟨rfl, rfl⟩

theorem indexByte_rel (b o m c : Nat) (f : Nat → Int) (w : World) (hb : ∀ i, i < m → 0 ≤ f i ∧ f i < 256) (hc : ∀ i, i < m → w.cell? ⟨b, o + i, none⟩ = some (.int .u8 (f i))) :
    Calls Try.prog 29 #[.slice (some ⟨b, o, none⟩) m c, .int .u8 34] w fun e w' => ∃ r : Int, e = .returned (.int .i64 r) ∧ w' = w ∧ ((r = -1 ∧ ∀ j, j < m → f j ≠ 34) ∨ ∃ t : Nat, r = t ∧ t < m ∧ f t = 34 ∧ ∀ j, j < t → f j ≠ 34) := by
  refine (indexByte_any b o m c ((List.range m).map f) 34 w (by simp) (fun i hi => by rw [hc i hi]; simp [hi])).mono ?_
  rintro e w' ⟨rfl, rfl⟩
  refine ⟨_, rfl, rfl, ?_⟩
  exact indexByte_ints f m 34 (by decide) hb

set_option maxHeartbeats 1000000 in
theorem stringEnd_any (b o n c s : Nat) (d : Nat → Int) (w : World) (hn : n ≤ 1048576) (hcap : n ≤ c) (hcm : c ≤ 1048576) (hs : s < n) (hby : ∀ i, i < n → 0 ≤ d i ∧ d i < 256) (hc : ∀ i, i < n → w.cell? ⟨b, o + i, none⟩ = some (.int .u8 (d i))) :
    Calls Try.prog 27 #[.slice (some ⟨b, o, none⟩) n c, .int .i64 s] w fun e w' => e = .returned (.int .i64 (Pl.F d n (s + 1))) ∧ w' = w := by
  have hc' := hid hc
  have hby' := hid hby
  clear hc hby
  go_enter Try.func27, Try.ntmps27
  go_wp2
  go_loop [6] (fun i => ∃ k : Nat, s + 1 ≤ k ∧ k ≤ n ∧ i = .int .i64 k ∧ Hid (k = s + 1 ∨ d (k - 1) = 34) ∧ Hid (Pl.F d n k = Pl.F d n (s + 1))) (fun i => n - (intOf i).toNat)
  case atStart => exact ⟨s + 1, Nat.le_refl _, hs, by go_num, .inl rfl, rfl⟩
  case round =>
    obtain ⟨k, hk1, hk2, rfl, Hq1, HF⟩ := hrel
    by_cases hkn : k < n
    · go_wp2_with fail
      refine (indexByte_rel b (o + k) (n - k) (c - k) (fun i => d (k + i)) w (fun i h => hby'.out (k + i) (by omega)) (fun i h => by rw [Nat.add_assoc]; exact hc'.out (k + i) (by omega))).mono ?_
      rintro e w' ⟨r, rfl, rfl, hr⟩
      rcases hr with ⟨rfl, hnone⟩ | ⟨t, rfl, ht, hqt, hno⟩
      · have HN : Hid (Pl.F d n k = n) := Pl.F_none k (fun j h1 h2 => by have := hnone (j - k) (by omega); rwa [show k + (j - k) = j by omega] at this)
        clear hnone
        go_wp2
        go_ret
        exact ⟨ret_int (by rw [← HF.out, HN.out]), rfl⟩
      · have Hqt : Hid (d (k + t) = 34) := hqt
        have Hno : Hid (∀ j, j < t → d (k + j) ≠ 34) := hno
        clear hqt hno
        go_wp2
        go_loop [8] (fun j => ∃ m : Nat, m ≤ t ∧ j = .int .i64 m ∧ Hid (∀ y, k + t - m ≤ y → y < k + t → d y = 92)) (fun j => t - (intOf j).toNat)
        case atStart => exact ⟨0, Nat.zero_le _, rfl, fun y h1 h2 => by omega⟩
        case round =>
          obtain ⟨m, hmt, rfl, Hy⟩ := hrel
          by_cases hgo : k + t - m > s + 1 ∧ d (k + t - m - 1) = 92
          · obtain ⟨hgt, h92⟩ := hgo
            have hmt' : m < t := by
              rcases Nat.lt_or_ge m t with h | h
              · exact h
              · rcases Hq1.out with e | e
                · omega
                · rw [show k + t - m - 1 = k - 1 by omega, e] at h92
                  exact absurd h92 (by decide)
            have hcq : w'.cell? ⟨b, o + (t + k - m - 1), none⟩ = some (.int .u8 92) := by rw [hc'.out (t + k - m - 1) (by omega), show t + k - m - 1 = k + t - m - 1 by omega, h92]
            have hlt : (s : Int) + 1 < t + k - m := by omega
            have HR := hid h92
            clear h92
            go_wp2
            go_round
            case rel => exact ⟨m + 1, by omega, by go_num, fun y h1 h2 => by
              rcases Nat.lt_or_ge y (k + t - m) with h | h
              · rw [show y = k + t - m - 1 by omega]; exact HR.out
              · exact Hy.out y h h2⟩
            case measure => simp [intOf]; omega
          · have hR := Pl.F_run (n := n) (d := d) k (k + t - m) m (by omega) (by omega) (fun j h1 h2 => by have := Hno.out (j - k) (by omega); rwa [show k + (j - k) = j by omega] at this) (fun j h1 h2 => Hy.out j (by omega) (by omega)) (by
              by_cases h : k + t - m > s + 1
              · right; intro e; exact hgo ⟨h, e⟩
              · left; omega) (by rw [show k + t - m + m = k + t by omega]; exact Hqt.out)
            rw [show k + t - m + m = k + t by omega] at hR
            have HR := hid hR
            clear hR
            by_cases hgt : (s : Int) + 1 < t + k - m
            · have hcq : w'.cell? ⟨b, o + (t + k - m - 1), none⟩ = some (.int .u8 (d (t + k - m - 1))) := hc'.out (t + k - m - 1) (by omega)
              have hne : (d (t + k - m - 1) == 92) = false := by
                simp
                intro e
                exact hgo ⟨by omega, by rw [show k + t - m - 1 = t + k - m - 1 by omega]; exact e⟩
              clear hgo
              by_cases hm : m % 2 = 0
              · have hm' : ((m : Int) % 2 == 0) = true := beq_iff_eq.2 (by omega)
                go_wp2
                go_ret
                exact ⟨ret_int (by rw [← HF.out, HR.out, if_pos hm]; omega), rfl⟩
              · have hm' : ((m : Int) % 2 == 0) = false := beq_eq_false_iff_ne.2 (by omega)
                go_wp2
                go_round
                case rel => exact ⟨k + t + 1, by omega, by omega, by go_num, .inr Hqt.out, by rw [← HF.out, HR.out, if_neg hm]; exact rfl⟩
                case measure => simp [intOf]; omega
            · have hgt' : decide ((s : Int) + 1 < t + k - m) = false := by simpa using hgt
              clear hgo
              by_cases hm : m % 2 = 0
              · have hm' : ((m : Int) % 2 == 0) = true := beq_iff_eq.2 (by omega)
                go_wp2
                go_ret
                exact ⟨ret_int (by rw [← HF.out, HR.out, if_pos hm]; omega), rfl⟩
              · have hm' : ((m : Int) % 2 == 0) = false := beq_eq_false_iff_ne.2 (by omega)
                go_wp2
                go_round
                case rel => exact ⟨k + t + 1, by omega, by omega, by go_num, .inr Hqt.out, by rw [← HF.out, HR.out, if_neg hm]; exact rfl⟩
                case measure => simp [intOf]; omega
    · obtain rfl : k = n := by omega
      have HN : Hid (Pl.F d k k = k) := Pl.F_ge (Nat.le_refl _)
      by_cases hck : c = k
      · subst hck
        go_wp2_with fail
        refine (indexByte_rel b o 0 0 d w (fun i h => by omega) (fun i h => by omega)).mono ?_
        rintro e w' ⟨r, rfl, rfl, hr⟩
        obtain rfl : r = -1 := by rcases hr with ⟨h, _⟩ | ⟨t, _, h, _⟩ <;> omega
        clear hr
        go_wp2
        go_ret
        exact ⟨ret_int (by rw [← HF.out, HN.out]), rfl⟩
      · have : k < c := by omega
        go_wp2_with fail
        refine (indexByte_rel b (o + k) 0 (c - k) d w (fun i h => by omega) (fun i h => by omega)).mono ?_
        rintro e w' ⟨r, rfl, rfl, hr⟩
        obtain rfl : r = -1 := by rcases hr with ⟨h, _⟩ | ⟨t, _, h, _⟩ <;> omega
        clear hr
        go_wp2
        go_ret
        exact ⟨ret_int (by rw [← HF.out, HN.out]), rfl⟩

set_option maxHeartbeats 400000 in
theorem zzStringEnd_any (b o n c s : Nat) (d : Nat → Int) (w : World) (hn : n ≤ 1048576) (hcap : n ≤ c) (hcm : c ≤ 1048576) (hs : s < n) (hby : ∀ i, i < n → 0 ≤ d i ∧ d i < 256) (hc : ∀ i, i < n → w.cell? ⟨b, o + i, none⟩ = some (.int .u8 (d i))) :
    Calls Try.prog 18 #[.slice (some ⟨b, o, none⟩) n c, .int .i64 s] w fun e w' => e = .returned (.int .i64 (Pl.F d n (s + 1))) ∧ w' = w := by
  have H := hid (stringEnd_any b o n c s d w hn hcap hcm hs hby hc)
  clear hby hc
  go_enter Try.func18, Try.ntmps18
  go_wp2_with (go_at_call 27; refine H.out.mono ?_; rintro e w ⟨rfl, rfl⟩)
  go_ret
  exact ⟨rfl, rfl⟩

set_option maxHeartbeats 1000000 in
/-- The law's own forward scan. -/
theorem escapes_any (b o n c s : Nat) (d : Nat → Int) (w : World) (hn : n ≤ 1048576) (hs : s < n) (hc : ∀ i, i < n → w.cell? ⟨b, o + i, none⟩ = some (.int .u8 (d i))) :
    Calls Try.prog 19 #[.slice (some ⟨b, o, none⟩) n c, .int .i64 s] w fun e w' => e = .returned (.int .i64 (Pl.F d n (s + 1))) ∧ w' = w := by
  have hc' := hid hc
  clear hc
  go_enter Try.func19, Try.ntmps19
  go_wp2
  go_loop [5] (fun i => ∃ k : Nat, s + 1 ≤ k ∧ k ≤ n + 1 ∧ i = .int .i64 k ∧ Hid (Pl.F d n k = Pl.F d n (s + 1))) (fun i => n + 1 - (intOf i).toNat)
  case atStart => exact ⟨s + 1, Nat.le_refl _, by omega, by go_num, rfl⟩
  case round =>
    obtain ⟨k, hk1, hk2, rfl, HF⟩ := hrel
    by_cases hkn : k < n
    · have hck := hc'.out k hkn
      by_cases h1 : d k = 92
      · have HG : Hid (Pl.F d n k = Pl.F d n (k + 2)) := Pl.F_bs hkn h1
        go_wp2
        go_round
        case rel => exact ⟨k + 2, by omega, by omega, by go_num, HG.out.symm.trans HF.out⟩
        case measure => simp [intOf]; omega
      · by_cases h2 : d k = 34
        · have HG : Hid (Pl.F d n k = k + 1) := Pl.F_q hkn h2
          go_wp2
          go_ret
          exact ⟨ret_int (by rw [← HF.out, HG.out]; omega), rfl⟩
        · have HG : Hid (Pl.F d n k = Pl.F d n (k + 1)) := Pl.F_else hkn h1 h2
          go_wp2
          go_round
          case rel => exact ⟨k + 1, by omega, by omega, by go_num, HG.out.symm.trans HF.out⟩
          case measure => simp [intOf]; omega
    · have HG : Hid (Pl.F d n k = n) := Pl.F_ge (by omega)
      go_wp2
      go_ret
      exact ⟨ret_int (by rw [← HF.out, HG.out]), rfl⟩

end Go.Proofs.Qxb6000523a
