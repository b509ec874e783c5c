/-
  THE WALKS of the functions that only read, and of jwb1Clone.
-/
import Derived.Test.Qxb6000005aRows
import Derived.Test.Qxb6000005aPlain
import Derived.Test.Qxb6000005aMem
import Derived.Laws.Externs
import Derived.Lib.BytesEntry
namespace Go.Proofs.Qxb6000005a
open Go.RowKit

theorem par_succ (m : Nat) : (!(m % 2 == 1)) = ((m + 1) % 2 == 1) := by
  rcases Nat.mod_two_eq_zero_or_one m with h | h <;> simp [h, Nat.add_mod]

theorem run_more {d : Nat → Int} {q e : Nat} (hq : 0 < q) (h92 : d q = 92) (h : ∀ y, q < y → y < e → d y = 92) : ∀ y, q - 1 < y → y < e → d y = 92 := by
  intro y h1 h2
  rcases Nat.lt_or_ge q y with h3 | h3
  · exact h y h3 h2
  · rw [show y = q by omega]; exact h92

theorem below_succ {q : Nat → Prop} {p k : Nat} (h : ∀ j, p ≤ j → j < k → q j) (hk : q k) : ∀ j, p ≤ j → j < k + 1 → q j := by
  intro j h1 h2
  rcases Nat.lt_or_ge j k with h3 | h3
  · exact h j h1 h3
  · rw [show j = k by omega]; exact hk

theorem indexByte_cases (c : UInt8) : ∀ l : List UInt8, (Lib.indexByte l c = -1 ∧ ∀ (j : Nat) (x : UInt8), l[j]? = some x → x ≠ c) ∨ ∃ t : Nat, Lib.indexByte l c = t ∧ l[t]? = some c ∧ ∀ (j : Nat) (x : UInt8), j < t → l[j]? = some x → x ≠ c
  | [] => .inl ⟨rfl, fun j x h => by simp at h⟩
  | b :: l => by
    unfold Lib.indexByte
    by_cases hb : b = c
    · right; exact ⟨0, by simp [hb], by simp [hb], fun j x h => by omega⟩
    · rcases indexByte_cases c l with ⟨h1, h2⟩ | ⟨t, h1, h2, h3⟩
      · left
        refine ⟨by simp [hb, h1], fun j x h => ?_⟩
        cases j with
        | zero => simp at h; subst h; exact hb
        | succ j => simp at h; exact h2 j x h
      · right
        refine ⟨t + 1, ?_, by simpa using h2, fun j x hj h => ?_⟩
        · rw [h1, if_neg (by simpa using hb), if_neg (by simp)]; omega
        · cases j with
          | zero => simp at h; subst h; exact hb
          | succ j => simp at h; exact h3 j x (by omega) h

theorem byte_eq {a : Int} (h0 : 0 ≤ a) (h1 : a < 256) (q : Nat) (hq : q < 256) : a.toNat.toUInt8 = q.toUInt8 ↔ a = q := by
  constructor
  · intro h
    have := congrArg UInt8.toNat h
    simp at this
    omega
  · intro h; subst h; simp

theorem indexByte_ints (f : Nat → Int) (m q : Nat) (hq : q < 256) (hb : ∀ i, i < m → 0 ≤ f i ∧ f i < 256) :
    (Lib.indexByte (Lib.bytesOf ((List.range m).map f)) (q : Int).toNat.toUInt8 = -1 ∧ ∀ j, j < m → f j ≠ q) ∨
    ∃ t : Nat, Lib.indexByte (Lib.bytesOf ((List.range m).map f)) (q : Int).toNat.toUInt8 = t ∧ t < m ∧ f t = q ∧ ∀ j, j < t → f j ≠ q := by
  have hg : ∀ j, j < m → (Lib.bytesOf ((List.range m).map f))[j]? = some (f j).toNat.toUInt8 := fun j hj => by simp [Lib.bytesOf, hj]
  have hlen : (Lib.bytesOf ((List.range m).map f)).length = m := by simp [Lib.bytesOf]
  rcases indexByte_cases (q : Int).toNat.toUInt8 (Lib.bytesOf ((List.range m).map f)) with ⟨h1, h2⟩ | ⟨t, h1, h2, h3⟩
  · refine .inl ⟨h1, fun j hj e => h2 j _ (hg j hj) ?_⟩
    rw [e]
  · have ht : t < m := by rw [← hlen]; exact (List.getElem?_eq_some_iff.1 h2).1
    refine .inr ⟨t, h1, ht, ?_, fun j hj e => h3 j _ hj (hg j (by omega)) (by rw [e])⟩
    rw [hg t ht] at h2
    have := Option.some.inj h2
    exact (byte_eq (hb t ht).1 (hb t ht).2 q hq).1 (by simpa using this)

set_option maxHeartbeats 1000000 in
theorem indexByte_any (b o n c : Nat) (xs : List Int) (cv : Int) (w : World) (hx : xs.length = n)
    (hc : ∀ i, i < n → w.cell? ⟨b, o + i, none⟩ = some (.int .u8 (xs.getD i 0))) :
    Calls Try.prog 28 #[.slice (some ⟨b, o, none⟩) n c, .int .u8 cv] w fun e w' => e = .returned (.int .i64 (Lib.indexByte (Lib.bytesOf xs) cv.toNat.toUInt8)) ∧ w' = w := by
  go_enter Try.func28, Try.ntmps28
  go_wp2
  rw [run_callFunc_extern Try.func29 (by kernel_rfl) (by kernel_rfl) (by kernel_rfl) (e := Extern.BytealgIndexByte.indexByte) (by kernel_rfl), Lib.run_indexByteSlice w b o n c xs hx hc cv]
  simp only [Result.andThen]
  rw [Oper.upon_value]
  go_wp2
  go_ret
  exact ⟨rfl, rfl⟩

theorem indexByte_rel (b o m c : Nat) (f : Nat → Int) (w : World) (hb : ∀ i, i < m → 0 ≤ f i ∧ f i < 256) (hc : ∀ i, i < m → w.cell? ⟨b, o + i, none⟩ = some (.int .u8 (f i))) :
    Calls Try.prog 28 #[.slice (some ⟨b, o, none⟩) m c, .int .u8 34] w fun e w' => ∃ r : Int, e = .returned (.int .i64 r) ∧ w' = w ∧ ((r = -1 ∧ ∀ j, j < m → f j ≠ 34) ∨ ∃ t : Nat, r = t ∧ t < m ∧ f t = 34 ∧ ∀ j, j < t → f j ≠ 34) := by
  refine (indexByte_any b o m c ((List.range m).map f) 34 w (by simp) (fun i hi => by rw [hc i hi]; simp [hi])).mono ?_
  rintro e w' ⟨rfl, rfl⟩
  refine ⟨_, rfl, rfl, ?_⟩
  exact indexByte_ints f m 34 (by decide) hb

set_option maxHeartbeats 1000000 in
theorem stringEnd_any (b o n c s : Nat) (d : Nat → Int) (w : World) (hn : n ≤ 1048576) (hcap : n ≤ c) (hcm : c ≤ 1048576) (hs : s < n) (hq : d s = 34) (hby : ∀ i, i < n → 0 ≤ d i ∧ d i < 256) (hc : ∀ i, i < n → w.cell? ⟨b, o + i, none⟩ = some (.int .u8 (d i))) :
    Calls Try.prog 25 #[.slice (some ⟨b, o, none⟩) n c, .int .i64 s] w fun e w' => e = .returned (.int .i64 (Pl.F d n (s + 1))) ∧ w' = w := by
  have hc' : Hid (∀ i, i < n → w.cell? ⟨b, o + i, none⟩ = some (.int .u8 (d i))) := hc
  have hby' : Hid (∀ i, i < n → 0 ≤ d i ∧ d i < 256) := hby
  have hq' : Hid (d s = 34) := hq
  clear hq hc hby
  go_enter Try.func25, Try.ntmps25
  go_wp2
  go_loop [5] (fun i => ∃ k : Nat, s + 1 ≤ k ∧ k ≤ n ∧ i = .int .i64 k ∧ d (k - 1) = 34 ∧ Pl.F d n k = Pl.F d n (s + 1)) (fun i => n - (intOf i).toNat)
  case atStart => exact ⟨s + 1, Nat.le_refl _, hs, by go_num, hq'.out, rfl⟩
  case round =>
    obtain ⟨k, hk1, hk2, rfl, hq1, hF⟩ := hrel
    have Hq1 : Hid (d (k - 1) = 34) := hq1
    have HF : Hid (Pl.F d n k = Pl.F d n (s + 1)) := hF
    clear hq1 hF
    by_cases hkn : k < n
    · go_wp2_with fail
      refine (indexByte_rel b (o + k) (n - k) (c - k) (fun i => d (k + i)) w (fun i h => hby'.out (k + i) (by omega)) (fun i h => by rw [Nat.add_assoc]; exact hc'.out (k + i) (by omega))).mono ?_
      rintro e w' ⟨r, rfl, rfl, hr⟩
      rcases hr with ⟨rfl, hnone⟩ | ⟨t, rfl, ht, hqt, hno⟩
      · have HN : Hid (Pl.F d n k = n) := Pl.F_none k (fun j h1 h2 => by have := hnone (j - k) (by omega); rwa [show k + (j - k) = j by omega] at this)
        clear hnone
        go_wp2
        go_ret
        exact ⟨ret_int (by rw [← HF.out, HN.out]), rfl⟩
      · have Hqt : Hid (d (k + t) = 34) := hqt
        have Hno : Hid (∀ j, j < t → d (k + j) ≠ 34) := hno
        clear hqt hno
        go_wp2
        go_loop [8, 9] (fun x j => ∃ m q : Nat, q + 1 + m = k + t ∧ m ≤ t ∧ j = .int .i64 q ∧ x = .bool (m % 2 == 1) ∧ Hid (∀ y, q < y → y < k + t → d y = 92)) (fun _ j => (intOf j).toNat)
        case atStart => exact ⟨0, k + t - 1, by omega, by omega, by go_num, rfl, fun y h1 h2 => by omega⟩
        case round =>
          obtain ⟨m, q, hqm, hmt, rfl, rfl, Hy⟩ := hrel
          have hcq := hc'.out q (by omega)
          by_cases h92 : d q = 92
          · have hmt' : m < t := by
              rcases Nat.lt_or_ge m t with h | h
              · exact h
              · have : q = k - 1 := by omega
                have e := Hq1.out
                rw [← this, h92] at e
                exact absurd e (by decide)
            go_wp2
            go_round
            case rel => exact ⟨m + 1, q - 1, by omega, by omega, by go_num, by rw [par_succ], run_more (by omega) h92 Hy.out⟩
            case measure => simp [intOf]; omega
          · have hR := Pl.F_run (n := n) (d := d) k (q + 1) m (by omega) (by omega) (fun j h1 h2 => by have := Hno.out (j - k) (by omega); rwa [show k + (j - k) = j by omega] at this) (fun j h1 h2 => Hy.out j (by omega) (by omega)) (.inr h92) (by rw [show q + 1 + m = k + t by omega]; exact Hqt.out)
            rw [show q + 1 + m = k + t by omega] at hR
            have HR : Hid (Pl.F d n k = if m % 2 = 0 then k + t + 1 else Pl.F d n (k + t + 1)) := hR
            clear hR
            by_cases hm : m % 2 = 0
            · have hm' : (m % 2 == 1) = false := by simp; omega
              go_wp2
              go_ret
              exact ⟨ret_int (by rw [← HF.out, HR.out, if_pos hm]; omega), rfl⟩
            · have hm' : (m % 2 == 1) = true := by simp; omega
              go_wp2
              go_round
              case rel => exact ⟨k + t + 1, by omega, by omega, by go_num, Hqt.out, by rw [← HF.out, HR.out, if_neg hm]⟩
              case measure => simp [intOf]; omega
    · obtain rfl : k = n := by omega
      have HN : Hid (Pl.F d k k = k) := Pl.F_ge (Nat.le_refl _)
      by_cases hck : c = k
      · subst hck
        go_wp2_with fail
        refine (indexByte_rel b o 0 0 d w (fun i h => by omega) (fun i h => by omega)).mono ?_
        rintro e w' ⟨r, rfl, rfl, hr⟩
        obtain rfl : r = -1 := by rcases hr with ⟨h, _⟩ | ⟨t, _, h, _⟩ <;> omega
        clear hr
        go_wp2
        go_ret
        exact ⟨ret_int (by rw [← HF.out, HN.out]), rfl⟩
      · have : k < c := by omega
        go_wp2_with fail
        refine (indexByte_rel b (o + k) 0 (c - k) d w (fun i h => by omega) (fun i h => by omega)).mono ?_
        rintro e w' ⟨r, rfl, rfl, hr⟩
        obtain rfl : r = -1 := by rcases hr with ⟨h, _⟩ | ⟨t, _, h, _⟩ <;> omega
        clear hr
        go_wp2
        go_ret
        exact ⟨ret_int (by rw [← HF.out, HN.out]), rfl⟩

set_option maxHeartbeats 1000000 in
/-- The law's own forward scan. -/
theorem fwdEnd_any (b o n c s : Nat) (d : Nat → Int) (w : World) (hn : n ≤ 1048576) (hs : s < n) (hc : ∀ i, i < n → w.cell? ⟨b, o + i, none⟩ = some (.int .u8 (d i))) :
    Calls Try.prog 18 #[.slice (some ⟨b, o, none⟩) n c, .int .i64 s] w fun e w' => e = .returned (.int .i64 (Pl.F d n (s + 1))) ∧ w' = w := by
  have hc' : Hid (∀ i, i < n → w.cell? ⟨b, o + i, none⟩ = some (.int .u8 (d i))) := hc
  clear hc
  go_enter Try.func18, Try.ntmps18
  go_wp2
  go_loop [5] (fun i => ∃ k : Nat, s + 1 ≤ k ∧ k ≤ n + 1 ∧ i = .int .i64 k ∧ Pl.F d n k = Pl.F d n (s + 1)) (fun i => n + 1 - (intOf i).toNat)
  case atStart => exact ⟨s + 1, Nat.le_refl _, by omega, by go_num, rfl⟩
  case round =>
    obtain ⟨k, hk1, hk2, rfl, hF⟩ := hrel
    have HF : Hid (Pl.F d n k = Pl.F d n (s + 1)) := hF
    clear hF
    by_cases hkn : k < n
    · have hck := hc'.out k hkn
      by_cases h1 : d k = 92
      · have HG : Hid (Pl.F d n k = Pl.F d n (k + 2)) := Pl.F_bs hkn h1
        go_wp2
        go_round
        case rel => exact ⟨k + 2, by omega, by omega, by go_num, by rw [← HF.out, HG.out]⟩
        case measure => simp [intOf]; omega
      · by_cases h2 : d k = 34
        · have HG : Hid (Pl.F d n k = k + 1) := Pl.F_q hkn h2
          go_wp2
          go_ret
          exact ⟨ret_int (by rw [← HF.out, HG.out]; omega), rfl⟩
        · have HG : Hid (Pl.F d n k = Pl.F d n (k + 1)) := Pl.F_else hkn h1 h2
          go_wp2
          go_round
          case rel => exact ⟨k + 1, by omega, by omega, by go_num, by rw [← HF.out, HG.out]⟩
          case measure => simp [intOf]; omega
    · have HG : Hid (Pl.F d n k = n) := Pl.F_ge (by omega)
      go_wp2
      go_ret
      exact ⟨ret_int (by rw [← HF.out, HG.out]), rfl⟩

set_option maxHeartbeats 400000 in
theorem isBlank_any (c : Int) (w : World) :
    Calls Try.prog 14 #[.int .u8 c] w fun e w' => e = .returned (.bool (Pl.blank c)) ∧ w' = w := by
  go_enter Try.func14, Try.ntmps14
  go_wp2
  all_goals
    go_ret
    exact ⟨ret_bool (by simp [Pl.blank, *]), rfl⟩

set_option maxHeartbeats 400000 in
theorem isDelim_any (c : Int) (w : World) :
    Calls Try.prog 27 #[.int .u8 c] w fun e w' => e = .returned (.bool (Pl.delim c)) ∧ w' = w := by
  go_enter Try.func27, Try.ntmps27
  go_wp2
  all_goals
    go_ret
    exact ⟨ret_bool (by simp [Pl.delim, Pl.blank, *]), rfl⟩

set_option maxHeartbeats 400000 in
theorem endsScalar_any (c : Int) (w : World) :
    Calls Try.prog 26 #[.int .u8 c] w fun e w' => e = .returned (.bool (Pl.delim c)) ∧ w' = w := by
  go_enter Try.func26, Try.ntmps26
  go_wp2_with (go_at_call 14; refine (isBlank_any _ _).mono ?_; rintro e w' ⟨rfl, rfl⟩)
  all_goals
    go_ret
    exact ⟨ret_bool (by simp [Pl.delim, *]), rfl⟩

set_option maxHeartbeats 400000 in
theorem bytesA_any (a : Option Addr) (n c : Nat) (p : Int) (w : World) :
    Calls Try.prog 24 #[.slice a n c, .int .i64 p] w fun e w' => e = .returned (.bool (decide (n ≤ 1048576))) ∧ w' = w := by
  go_enter Try.func24, Try.ntmps24
  go_wp2
  all_goals
    go_ret
    exact ⟨ret_bool (by simp; omega), rfl⟩

set_option maxHeartbeats 400000 in
theorem bytesM_any (a : Option Addr) (n c : Nat) (p : Int) (w : World) :
    Calls Try.prog 20 #[.slice a n c, .int .i64 p] w fun e w' => e = .returned (.bool (decide (n ≤ 1048576))) ∧ w' = w := by
  go_enter Try.func20, Try.ntmps20
  go_wp2
  all_goals
    go_ret
    exact ⟨ret_bool (by simp; omega), rfl⟩

set_option maxHeartbeats 400000 in
theorem zzPos_any (bw : Nat) (p : Int) (w : World) (hp : w.cell? ⟨bw, 1, none⟩ = some (.int .i64 p)) :
    Calls Try.prog 13 #[.pointer (some ⟨bw, 0, none⟩)] w fun e w' => e = .returned (.int .i64 p) ∧ w' = w := by
  go_enter Try.func13, Try.ntmps13
  go_wp2
  go_ret
  exact ⟨rfl, rfl⟩

set_option maxHeartbeats 400000 in
theorem newWalker_any (a : Option Addr) (n c : Nat) (p : Int) (s : Bool) (w : World)  :
    Calls Try.prog 11 #[.slice a n c, .int .i64 p, .bool s] w fun e w' => e = .returned (.pointer (some ⟨w.heap.size, 0, none⟩)) ∧ w' = w.alloc (.cells #[.slice a n c, .int .i64 p, .bool s] 35) := by
  go_enter Try.func11, Try.ntmps11
  go_wp2
  go_ret
  exact ⟨rfl, rfl⟩

set_option maxHeartbeats 400000 in
theorem firstNonBlank_any (b o n c p : Nat) (d : Nat → Int) (w : World) (hn : n ≤ 1048576) (hp : p ≤ n) (hc : ∀ i, i < n → w.cell? ⟨b, o + i, none⟩ = some (.int .u8 (d i))) :
    Calls Try.prog 21 #[.slice (some ⟨b, o, none⟩) n c, .int .i64 p] w fun e w' => e = .returned (.int .i64 (Pl.fst Pl.solid d n p)) ∧ w' = w := by
  have hc' : Hid (∀ i, i < n → w.cell? ⟨b, o + i, none⟩ = some (.int .u8 (d i))) := hc
  clear hc
  go_enter Try.func21, Try.ntmps21
  go_wp2
  go_loop [5] (fun i => ∃ k : Nat, p ≤ k ∧ k ≤ n ∧ i = .int .i64 k ∧ Hid (∀ j, p ≤ j → j < k → Pl.solid (d j) = false)) (fun i => n - (intOf i).toNat)
  case atStart => exact ⟨p, Nat.le_refl _, hp, rfl, fun j h1 h2 => by omega⟩
  case round =>
    obtain ⟨k, hk1, hk2, rfl, HF⟩ := hrel
    by_cases hkn : k < n
    · have hck := hc'.out k hkn
      by_cases hb : Pl.blank (d k) = true
      · go_wp2_with (go_at_call 14; refine (isBlank_any _ _).mono ?_; rintro e w' ⟨rfl, rfl⟩)
        go_round
        case rel => exact ⟨k + 1, by omega, by omega, by go_num, below_succ HF.out (by simp [Pl.solid, hb])⟩
        case measure => simp [intOf]; omega
      · have hb' : Pl.blank (d k) = false := by simpa using hb
        clear hb
        go_wp2_with (go_at_call 14; refine (isBlank_any _ _).mono ?_; rintro e w' ⟨rfl, rfl⟩)
        go_ret
        exact ⟨ret_int (by rw [Pl.fst_eq hk2 hk1 HF.out (fun _ => by simp [Pl.solid, hb'])]), rfl⟩
    · go_wp2
      go_ret
      exact ⟨ret_int (by rw [Pl.fst_eq hk2 hk1 HF.out (fun h => by omega)]), rfl⟩

theorem info5 : (Try.prog.info? 5).map (fun i => (i.zero, i.size, i.bytes)) = some (some (.int .u8 0), 1, 1) := by kernel_rfl
theorem size5 : (Try.prog.info? 5).map (·.size) = some 1 := by kernel_rfl

set_option maxHeartbeats 400000 in
theorem clone_some (x : Addr) (n c : Nat) (d : Nat → Int) (w : World) (hn : n ≤ 1048576) (hc : ∀ i, i < n → w.cell? (x.add i) = some (.int .u8 (d i))) (hx : ∀ i, i < n → x.block < w.heap.size) :
    Calls Try.prog 10 #[.slice (some x) n c] w fun e w' => e = .returned (.slice (some ⟨w.heap.size, 0, none⟩) n n) ∧ Below w.heap.size w w' ∧ w.heap.size < w'.heap.size ∧ ∀ i, i < n → w'.cell? ⟨w.heap.size, i, none⟩ = some (.int .u8 (d i)) := by
  have heq := fun (w : World) n' c' => Lib.run_eql_slice_nil (P := Try.prog) w _ _ (some x) n c n' c' Try.underlying22
  obtain ⟨i0, hi, hz0, hz1, hz2⟩ := info_parts info5
  have hc' : Hid (∀ i, i < n → w.cell? (x.add i) = some (.int .u8 (d i))) := hc
  have hx' : Hid (∀ i, i < n → x.block < w.heap.size) := hx
  clear hc hx
  go_enter Try.func10, Try.ntmps10
  go_wp2_with (at_make; refine wpList_make_full _ rfl _ _ 22 rfl w.heap.size 5 i0 (.int .u8 0) 1 Try.underlying22 hi hz0 hz1 _ _ _ _ n rfl rfl rfl rfl ?_ ?_ ?_ ?_; (rw [hz2]; omega); (unfold maxLen; omega); exact Nat.le_refl _; intro w1 hown hgrow; obtain ⟨cur, hcur, hlen⟩ := made_block hown; have hb1 := (Below.refl w.heap.size w).grown hgrow (Nat.le_refl _) (fun k h => by cases h); obtain ⟨w2, hcp, hb2, hsz, hcell⟩ := copy_all (c := c) (d := d) Try.underlying22 size5 hcur hlen (fun i h => by rw [hb1.cell (p := x.add i) (by rw [add_block]; exact hx'.out i h)]; exact hc'.out i h) hb1 (Nat.le_refl _); have HF : Hid (Below w.heap.size w w2 ∧ w.heap.size < w2.heap.size ∧ ∀ i, i < n → w2.cell? ⟨w.heap.size, i, none⟩ = some (.int .u8 (d i))) := ⟨hb2, by rw [← hsz]; exact (Array.getElem?_eq_some_iff.1 hcur).1, hcell⟩; clear hb2 hsz hcell hb1 hcur hlen hown hgrow)
  go_ret
  exact ⟨rfl, HF.out⟩

set_option maxHeartbeats 400000 in
theorem clone_nil (w : World) :
    Calls Try.prog 10 #[.slice none 0 0] w fun e w' => e = .returned (.slice none 0 0) ∧ w' = w := by
  have heq := fun (w : World) n' c' => Lib.run_eql_slice_nil (P := Try.prog) w _ _ none 0 0 n' c' Try.underlying22
  go_enter Try.func10, Try.ntmps10
  go_wp2
  go_ret
  exact ⟨rfl, rfl⟩

end Go.Proofs.Qxb6000005a
