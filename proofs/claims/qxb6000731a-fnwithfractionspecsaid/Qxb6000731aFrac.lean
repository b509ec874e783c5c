/-
  THE WALKS of bytesEq (19) and withFraction (47, its shim 38).
-/
import Derived.Test.Qxb6000731aText
import Derived.Deep.QuietTactic
import Derived.BigQuiet
import Derived.Deep.DeepCutAuto
import Derived.Laws.Externs
import Derived.Lib.BytesEntry
namespace Go.Proofs.Qxb6000731a
open Go.RowKit

set_option maxHeartbeats 1000000 in
theorem bytesEq_any (v1 v2 : Value) (l : List Int) (w : World) (hl : l.length ≤ 140737488355328) (h1 : Rd w v1 l) (h2 : Rd w v2 l) :
    Calls Try.prog 19 #[v1, v2] w fun e w' => e = .returned (.bool true) ∧ ∃ q, w' = w.drewN q := by
  obtain ⟨a1, c1, rfl, _, _, hc1⟩ := h1
  obtain ⟨a2, c2, rfl, _, _, hc2⟩ := h2
  obtain ⟨n, hn⟩ : ∃ n, n = l.length := ⟨_, rfl⟩
  rw [← hn] at hl hc1 hc2 ⊢
  have HC1 := hid hc1
  have HC2 := hid hc2
  clear hc1 hc2 hn
  go_enter Try.func19, Try.ntmps19
  go_wp2
  go_loopg [5] n (fun g i wr => ∃ k : Nat, k ≤ n ∧ g = n - k ∧ i = .int .i64 k ∧ ∃ q, wr = w.drewN q)
  case atStart => exact ⟨0, Nat.zero_le _, rfl, rfl, 0, rfl⟩
  case round =>
    obtain ⟨k, hk, rfl, rfl, q, hq⟩ := hrel
    subst hq
    by_cases hkn : k < n
    · obtain ⟨g1, rfl, _, hr1⟩ := HC1.out (by omega)
      obtain ⟨g2, rfl, _, hr2⟩ := HC2.out (by omega)
      have hk1 := hr1 k hkn
      have hk2 := hr2 k hkn
      clear hr1 hr2 HC1 HC2
      go_wp2
      go_quiet (fail)
      go_wp2
      go_roundg (n - (k + 1))
      case measure => omega
      case rel => exact ⟨k + 1, hkn, rfl, by go_num, _, rfl⟩
    · go_wp2
      go_ret
      exact ⟨rfl, q, rfl⟩

theorem indexByte_cases (c : UInt8) : ∀ l : List UInt8, (Lib.indexByte l c = -1 ∧ ∀ (j : Nat) (x : UInt8), l[j]? = some x → x ≠ c) ∨ ∃ t : Nat, Lib.indexByte l c = t ∧ l[t]? = some c ∧ ∀ (j : Nat) (x : UInt8), j < t → l[j]? = some x → x ≠ c
  | [] => .inl ⟨rfl, fun j x h => by simp at h⟩
  | b :: l => by
    unfold Lib.indexByte
    by_cases hb : b = c
    · right; exact ⟨0, by simp [hb], by simp [hb], fun j x h => by omega⟩
    · rcases indexByte_cases c l with ⟨h1, h2⟩ | ⟨t, h1, h2, h3⟩
      · left
        refine ⟨by simp [hb, h1], fun j x h => ?_⟩
        cases j with
        | zero => simp at h; subst h; exact hb
        | succ j => simp at h; exact h2 j x h
      · right
        refine ⟨t + 1, ?_, by simpa using h2, fun j x hj h => ?_⟩
        · rw [h1, if_neg (by simpa using hb), if_neg (by simp)]; omega
        · cases j with
          | zero => simp at h; subst h; exact hb
          | succ j => simp at h; exact h3 j x (by omega) h

theorem byte_eq {a : Int} (h0 : 0 ≤ a) (h1 : a < 256) (q : Nat) (hq : q < 256) : a.toNat.toUInt8 = q.toUInt8 ↔ a = q := by
  constructor
  · intro h
    have := congrArg UInt8.toNat h
    simp at this
    omega
  · intro h; subst h; simp

theorem indexByte_ints (f : Nat → Int) (m q : Nat) (hq : q < 256) (hb : ∀ i, i < m → 0 ≤ f i ∧ f i < 256) :
    (Lib.indexByte (Lib.bytesOf ((List.range m).map f)) (q : Int).toNat.toUInt8 = -1 ∧ ∀ j, j < m → f j ≠ q) ∨
    ∃ t : Nat, Lib.indexByte (Lib.bytesOf ((List.range m).map f)) (q : Int).toNat.toUInt8 = t ∧ t < m ∧ f t = q ∧ ∀ j, j < t → f j ≠ q := by
  have hg : ∀ j, j < m → (Lib.bytesOf ((List.range m).map f))[j]? = some (f j).toNat.toUInt8 := fun j hj => by simp [Lib.bytesOf, hj]
  have hlen : (Lib.bytesOf ((List.range m).map f)).length = m := by simp [Lib.bytesOf]
  rcases indexByte_cases (q : Int).toNat.toUInt8 (Lib.bytesOf ((List.range m).map f)) with ⟨h1, h2⟩ | ⟨t, h1, h2, h3⟩
  · refine .inl ⟨h1, fun j hj e => h2 j _ (hg j hj) ?_⟩
    rw [e]
  · have ht : t < m := by rw [← hlen]; exact (List.getElem?_eq_some_iff.1 h2).1
    refine .inr ⟨t, h1, ht, ?_, fun j hj e => h3 j _ hj (hg j (by omega)) (by rw [e])⟩
    rw [hg t ht] at h2
    have := Option.some.inj h2
    exact (byte_eq (hb t ht).1 (hb t ht).2 q hq).1 (by simpa using this)

set_option maxHeartbeats 1000000 in
theorem indexByte_any (b o n c : Nat) (xs : List Int) (cv : Int) (w : World) (hx : xs.length = n)
    (hc : ∀ i, i < n → w.cell? ⟨b, o + i, none⟩ = some (.int .u8 (xs.getD i 0))) :
    Calls Try.prog 52 #[.slice (some ⟨b, o, none⟩) n c, .int .u8 cv] w fun e w' => e = .returned (.int .i64 (Lib.indexByte (Lib.bytesOf xs) cv.toNat.toUInt8)) ∧ w' = w := by
  go_enter Try.func52, Try.ntmps52
  go_wp2
  rw [run_callFunc_extern Try.func54 (by kernel_rfl) (by kernel_rfl) (by kernel_rfl) (e := Extern.BytealgIndexByte.indexByte) (by kernel_rfl), Lib.run_indexByteSlice w b o n c xs hx hc cv]
  simp only [Result.andThen]
  rw [Oper.upon_value]
  go_wp2
  go_ret
  exact ⟨rfl, rfl⟩

/-- The first colon. -/
theorem indexColon (g n c cN : Nat) (d : Nat → Int) (w : World) (hb : ∀ i, i < n → 0 ≤ d i ∧ d i < 256) (hc : ∀ i, i < n → w.cell? ⟨g, i, none⟩ = some (.int .u8 (d i))) (hn : cN < n) (h0 : ∀ j, j < cN → d j ≠ 58) (h1 : d cN = 58) :
    Calls Try.prog 52 #[.slice (some ⟨g, 0, none⟩) n c, .int .u8 58] w fun e w' => e = .returned (.int .i64 cN) ∧ w' = w := by
  refine (indexByte_any g 0 n c ((List.range n).map d) 58 w (by simp) (fun i hi => by rw [Nat.zero_add, hc i hi]; simp [hi])).mono ?_
  rintro e w' ⟨rfl, rfl⟩
  refine ⟨ret_int ?_, rfl⟩
  rcases indexByte_ints d n 58 (by decide) hb with ⟨_, h⟩ | ⟨t, ht, h2, h3, h4⟩
  · exact absurd h1 (h cN hn)
  · have : t = cN := by
      rcases Nat.lt_trichotomy t cN with h | h | h
      · exact absurd h3 (h0 t h)
      · exact h
      · exact absurd h1 (h4 cN h)
    subst this
    exact ht

theorem int_eq {a b : Int} (h : a = b) : Value.int .i64 a = .int .i64 b := by rw [h]

/-- The point that is added where there was none. -/
def dotOf (k : Nat) : List Int := if k = 0 then [46] else []

/-- What withFraction adds. -/
def wfOut (l : List Int) (at_ k D : Nat) : List Int := l.take at_ ++ dotOf k ++ List.replicate (D - k) 48 ++ l.drop at_

/-- How withFraction ends. -/
def WFEnd (v : Value) (l : List Int) (at_ k : Nat) (D : Int) (w : World) (e : Ending) (w' : World) : Prop :=
  (D ≤ k ∧ e = .returned v ∧ w' = w) ∨ (k < D ∧ ∃ v', e = .returned v' ∧ OB w.heap.size v' (wfOut l at_ k D.toNat) w w')

/-- Behind the seconds: no point; or a point and k digits, and no digit more. -/
def Tail (l : List Int) (n cN at_ k : Nat) : Prop :=
  (k = 0 ∧ at_ = cN + 6 ∧ (cN + 6 < n → l.getD (cN + 6) 0 ≠ 46)) ∨
  (1 ≤ k ∧ at_ = cN + 7 + k ∧ l.getD (cN + 6) 0 = 46 ∧ (∀ j, j < k → Pl.dig (l.getD (cN + 7 + j) 0) = true) ∧ (cN + 7 + k < n → Pl.dig (l.getD (cN + 7 + k) 0) = false))

set_option maxRecDepth 100000 in
set_option maxHeartbeats 4000000 in
theorem wf_any (g n cap cN at_ k : Nat) (l : List Int) (w : World) (D : Int) (hD : D ≤ 65536) (hl : l.length = n) (hn : n ≤ 1000000) (hcap : n ≤ cap) (hcm : cap ≤ maxLen) (hg : g < w.heap.size) (hb : ∀ i, i < n → 0 ≤ l.getD i 0 ∧ l.getD i 0 < 256) (hc : ∀ i, i < n → w.cell? ⟨g, i, none⟩ = some (.int .u8 (l.getD i 0)))
    (h0 : ∀ j, j < cN → l.getD j 0 ≠ 58) (h1 : l.getD cN 0 = 58) (h3 : l.getD (cN + 3) 0 = 58) (h6 : cN + 6 ≤ n) (hat : at_ ≤ n) (hT : Tail l n cN at_ k) :
    Calls Try.prog 47 #[.slice (some ⟨g, 0, none⟩) n cap, .int .i64 D] w (WFEnd (.slice (some ⟨g, 0, none⟩) n cap) l at_ k D w) := by
  obtain ⟨i0, hi, hz0, hz1, hz2⟩ := info_parts info5
  unfold maxLen at hcm
  by_cases hD0 : D ≤ 0
  · go_enter Try.func47, Try.ntmps47
    go_wp2
    go_ret
    exact .inl ⟨by omega, rfl, rfl⟩
  · obtain ⟨m, rfl⟩ : ∃ m : Nat, D = m := ⟨D.toNat, by omega⟩
    have hic := hid (indexColon g n cap cN (fun i => l.getD i 0) w hb hc (by omega) h0 h1)
    have h3c := hc (cN + 3) (by omega)
    rw [h3] at h3c
    have hc' := hid hc
    have HT := hid hT
    have hd1 : decide ((cN : Int) < 0) = false := by simp
    have hd2 : decide ((n : Int) < (cN : Int) + 6) = false := by simp; omega
    have hd3 : (cN : Int) + 3 < n := by omega
    clear hb hc h0 h1 h3 hT
    go_enter Try.func47, Try.ntmps47
    go_upto_region 8 with (go_at_call 52; refine hic.out.mono ?_; rintro e w ⟨rfl, rfl⟩)
    clear hic h3c hd1 hd2 hd3
    go_cut [43] (fun v wx => wx = w ∧ ((v = .bool false ∧ k = 0 ∧ at_ = cN + 6) ∨ (v = .bool true ∧ 1 ≤ k ∧ at_ = cN + 7 + k)))
    case first =>
      rcases HT.out with ⟨hk, ha, hno⟩ | ⟨hk, ha, hdot, _⟩
      · by_cases hlt : cN + 6 < n
        · have h6c := hc'.out (cN + 6) hlt
          have hne := hno hlt
          obtain ⟨x, hx⟩ : ∃ x, x = l.getD (cN + 6) 0 := ⟨_, rfl⟩
          rw [← hx] at h6c hne
          have hd' : (x == 46) = false := by simpa using hne
          have hlt' : (cN : Int) + 6 < n := by omega
          have Ha := hid ha
          have Hk := hid hk
          clear hx hne hno ha hk
          go_wp2
          go_meet
          case rel => exact ⟨rfl, .inl ⟨rfl, Hk.out, Ha.out⟩⟩
        · have hd' : decide ((cN : Int) + 6 < n) = false := by simp; omega
          have Ha := hid ha
          have Hk := hid hk
          clear hno ha hk
          go_wp2
          go_meet
          case rel => exact ⟨rfl, .inl ⟨rfl, Hk.out, Ha.out⟩⟩
      · have h6c := hc'.out (cN + 6) (by omega)
        rw [hdot] at h6c
        have hlt' : (cN : Int) + 6 < n := by omega
        have Ha := hid ha
        have Hk := hid hk
        clear hdot ha hk
        go_wp2
        go_meet
        case rel => exact ⟨rfl, .inr ⟨rfl, Hk.out, Ha.out⟩⟩
    case rest =>
      obtain ⟨hw, hv⟩ := hcut
      subst hw
      go_upto_if 43 with fail
      go_cut [6, 7] (fun a wr wx => a = .int .i64 at_ ∧ wr = .int .i64 k ∧ wx = wc)
      case first =>
        rcases hv with ⟨rfl, hk, ha⟩ | ⟨rfl, hk, ha⟩
        · have Ha := hid ha
          have Hk := hid hk
          clear ha hk
          go_wp2
          go_meet
          case rel => exact ⟨by rw [Ha.out]; rfl, by rw [Hk.out]; rfl, rfl⟩
        · rcases HT.out with ⟨hk0, _⟩ | ⟨_, _, _, hdg, hend⟩
          · omega
          · have Hdg := hid hdg
            have Hend := hid hend
            have Ha := hid ha
            have hb2 : cN + 7 + k ≤ n := by omega
            clear hdg hend ha
            go_wp2
            go_loopg [6, 7] k (fun gk a wr wx => ∃ j : Nat, j ≤ k ∧ gk = k - j ∧ a = .int .i64 ((cN + 7 + j : Nat) : Int) ∧ wr = .int .i64 j ∧ wx = wc)
            case atStart => exact ⟨0, Nat.zero_le _, rfl, by go_num, rfl, rfl⟩
            case round =>
              obtain ⟨j, hj, rfl, rfl, rfl, hw⟩ := hrel
              subst hw
              by_cases hjk : j < k
              · have hcj := hc'.out (cN + 7 + j) (by omega)
                obtain ⟨x1, x2⟩ := Pl.dig_iff.1 (Hdg.out j hjk)
                obtain ⟨x, hx⟩ : ∃ x, x = l.getD (cN + 7 + j) 0 := ⟨_, rfl⟩
                rw [← hx] at hcj x1 x2
                clear hx
                have hlt : ((cN + 7 + j : Nat) : Int) < n := by omega
                go_wp2
                go_roundg (k - (j + 1))
                case measure => omega
                case rel => exact ⟨j + 1, hjk, rfl, by go_num, by go_num, rfl⟩
              · obtain rfl : j = k := by omega
                by_cases hlt : cN + 7 + j < n
                · have hcj := hc'.out (cN + 7 + j) hlt
                  have hnd := Pl.dig_not.1 (Hend.out hlt)
                  obtain ⟨x, hx⟩ : ∃ x, x = l.getD (cN + 7 + j) 0 := ⟨_, rfl⟩
                  rw [← hx] at hcj hnd
                  clear hx
                  have hlt' : ((cN + 7 + j : Nat) : Int) < n := by omega
                  by_cases hx1 : 48 ≤ x
                  · have hx2 : ¬ x ≤ 57 := fun h => hnd ⟨hx1, h⟩
                    clear hnd
                    go_wp2
                    go_meet
                    case rel => exact ⟨int_eq (by have := Ha.out; omega), rfl, rfl⟩
                  · clear hnd
                    go_wp2
                    go_meet
                    case rel => exact ⟨int_eq (by have := Ha.out; omega), rfl, rfl⟩
                · have hd' : decide (((cN + 7 + j : Nat) : Int) < n) = false := by simp; omega
                  go_wp2
                  go_meet
                  case rel => exact ⟨int_eq (by have := Ha.out; omega), rfl, rfl⟩
      case rest =>
        clear hv
        obtain ⟨rfl, rfl, hw⟩ := hcut
        subst hw
        by_cases hmk : m ≤ k
        · go_wp2
          go_ret
          exact .inl ⟨by omega, rfl, rfl⟩
        · have hmk' : k < m := by omega
          obtain ⟨W, hW⟩ : ∃ W, W = wc := ⟨_, rfl⟩
          subst hW
          have Htk : Hid (∀ j, j < (l.take at_).length → W.cell? ⟨g, 0 + j, none⟩ = some (.int .u8 ((l.take at_).getD j 0))) := by
            intro j hj
            rw [List.length_take] at hj
            rw [Nat.zero_add, hc'.out j (by omega), List.getD_eq_getElem?_getD, List.getD_eq_getElem?_getD, List.getElem?_take, if_pos (by omega)]
          have Hdr : Hid (∀ j, j < (l.drop at_).length → W.cell? ⟨g, at_ + j, none⟩ = some (.int .u8 ((l.drop at_).getD j 0))) := by
            intro j hj
            rw [List.length_drop] at hj
            rw [hc'.out (at_ + j) (by omega), List.getD_eq_getElem?_getD, List.getD_eq_getElem?_getD, List.getElem?_drop]
          have hlt1 : (l.take at_).length = at_ := by rw [List.length_take]; omega
          have Hlt1 := hid hlt1
          have Hhl := hid hl
          clear hl hlt1
          obtain ⟨X, HX⟩ : ∃ X, Hid (X = l.take at_) := ⟨_, rfl⟩
          rw [← HX.out] at Htk Hlt1
          go_upto_region 17 with (first
            | (at_make; refine wpList_make_own _ rfl _ _ 22 rfl W.heap.size 5 i0 (.int .u8 0) 1 Try.underlying22 hi hz0 hz1 _ _ _ (n + 1 + m - k) rfl rfl ?_ ?_ ?_ ?_ ?_; omega; (rw [hz2]; omega); (unfold maxLen; omega); exact Nat.le_refl _; intro w1 hown hgrow; have hb1 := OB.made hown hgrow rfl; have hbel := hb1.below; have Hb1 := hid hb1; have Hbel := hid hbel; clear hown hgrow hb1 hbel)
            | (at_builtin; refine wpList_ob_slice rfl (.tmp 80) (.tmp 83) 22 rfl i0 Try.underlying22 hi hz0 hz1 hz2 W.heap.size _ [] W rfl Hb1.out g 0 cap X at_ ?_ rfl ?_ ?_ ?_; exact Hlt1.out.symm; (intro j hj; rw [Hbel.out.cell (p := ⟨g, 0 + j, none⟩) hg]; exact Htk.out j hj); (rw [Hlt1.out]; simp; omega); intro v2 w2 hob; have Hb2 := hid hob; clear hob))
          clear Htk
          go_upto_if 86 with fail
          go_cut [8] (fun v wx => OB W.heap.size v (X ++ dotOf k) W wx)
          case first =>
            by_cases hk0 : ((k : Int) == 0) = true
            · have hk0' : k = 0 := by have := beq_iff_eq.1 hk0; omega
              have HE : Hid (dotOf k = [46]) := by show dotOf k = [46]; rw [hk0']; rfl
              clear hk0'
              go_wp2_with (at_builtin; refine wpList_ob_byte rfl (.tmp 87) (.tmp 88) 22 rfl i0 Try.underlying22 hi hz0 hz1 hz2 W.heap.size _ _ W w2 rfl 46 Hb2.out rfl ?_ ?_; (rw [List.nil_append, Hlt1.out]; omega); intro v3 w3 hob; have Hb3 := hid hob; clear hob)
              go_meet
              case rel => rw [HE.out]; exact Hb3.out
            · have hk0' : ((k : Int) == 0) = false := by simpa using hk0
              have HE : Hid (dotOf k = []) := by show dotOf k = []; unfold dotOf; rw [if_neg (by intro e; subst e; exact hk0 rfl)]
              clear hk0
              go_wp2
              go_meet
              case rel => rw [HE.out, List.append_nil]; exact Hb2.out
          case rest =>
            obtain ⟨Y, HY⟩ : ∃ Y, Hid (Y = X ++ dotOf k) := ⟨_, rfl⟩
            rw [← HY.out] at hcut
            have hYl : Y.length ≤ at_ + 1 := by rw [HY.out, List.length_append, Hlt1.out]; unfold dotOf; split <;> simp
            have Hcut := hid hcut
            clear hcut Hb1 Hb2 Hbel
            go_wp2
            go_loopg [8, 93] (m - k) (fun gk v c wx => ∃ i : Nat, i ≤ m - k ∧ gk = m - k - i ∧ c = .int .i64 i ∧ Hid (OB W.heap.size v (Y ++ List.replicate i 48) W wx))
            case atStart => exact ⟨0, Nat.zero_le _, rfl, rfl, hid (by rw [List.replicate_zero, List.append_nil]; exact Hcut.out)⟩
            case round =>
              obtain ⟨i, hi1, rfl, rfl, Hwr⟩ := hrel
              by_cases hik : i < m - k
              · have hlt : (i : Int) < m - k := by omega
                have hle : (Y ++ List.replicate i (48 : Int)).length + 1 ≤ 140737488355328 := by simp; omega
                have Hle := hid hle
                clear hle
                go_wp2_with (at_builtin; refine wpList_ob_byte rfl (.tmp 95) (.tmp 96) 22 rfl i0 Try.underlying22 hi hz0 hz1 hz2 W.heap.size _ _ W wr rfl 48 Hwr.out rfl Hle.out ?_; intro v3 w3 hob; have Hb3 := hid hob; clear hob)
                go_roundg (m - k - (i + 1))
                case measure => omega
                case rel => exact ⟨i + 1, hik, rfl, by go_num, by have := Hb3.out; rwa [List.append_assoc, ← List.replicate_succ'] at this⟩
              · obtain rfl : i = m - k := by omega
                have hnlt : ¬ ((m - k : Nat) : Int) < (m : Int) - k := by omega
                have hdl : (l.drop at_).length = n - at_ := by rw [List.length_drop, Hhl.out]
                have hle : (Y ++ List.replicate (m - k) (48 : Int)).length + (l.drop at_).length ≤ 140737488355328 := by rw [hdl]; simp; omega
                have Hdl := hid hdl
                have Hle := hid hle
                have Hcl : Hid (∀ j, j < (l.drop at_).length → wr.cell? ⟨g, at_ + j, none⟩ = some (.int .u8 ((l.drop at_).getD j 0))) := by
                  intro j hj
                  rw [Hwr.out.below.cell (p := ⟨g, at_ + j, none⟩) hg]; exact Hdr.out j hj
                have Hfin : Hid (wfOut l at_ k m = (Y ++ List.replicate (m - k) 48) ++ l.drop at_) := by
                  show wfOut l at_ k m = _
                  rw [HY.out, HX.out]; rfl
                clear hdl hle Hdr Hcut
                by_cases hlt : at_ < n
                · go_wp2_with (at_builtin; refine wpList_ob_slice rfl (.tmp 99) (.tmp 102) 22 rfl i0 Try.underlying22 hi hz0 hz1 hz2 W.heap.size _ _ W rfl Hwr.out g at_ (cap - at_) (l.drop at_) (n - at_) ?_ rfl ?_ ?_ ?_; exact Hdl.out.symm; exact Hcl.out; exact Hle.out; intro v4 w4 hob; have Hb4 := hid hob; clear hob)
                  go_ret
                  exact .inr ⟨by omega, _, rfl, by rw [Int.toNat_natCast, Hfin.out]; exact Hb4.out⟩
                · obtain rfl : at_ = n := by omega
                  have hnil : l.drop at_ = [] := List.drop_eq_nil_of_le (by rw [Hhl.out]; exact Nat.le_refl _)
                  have Hnil := hid hnil
                  clear hnil
                  by_cases hcc : at_ = cap
                  · subst hcc
                    go_wp2_with (at_builtin; refine wpList_ob_slice rfl (.tmp 99) (.tmp 102) 22 rfl i0 Try.underlying22 hi hz0 hz1 hz2 W.heap.size _ _ W rfl Hwr.out g 0 0 [] 0 ?_ rfl ?_ ?_ ?_; rfl; (intro j hj; cases hj); (have := Hle.out; rw [Hnil.out] at this; exact this); intro v4 w4 hob; have Hb4 := hid hob; clear hob)
                    go_ret
                    exact .inr ⟨by omega, _, rfl, by rw [Int.toNat_natCast, Hfin.out, Hnil.out]; exact Hb4.out⟩
                  · have hcc' : at_ < cap := by omega
                    go_wp2_with (at_builtin; refine wpList_ob_slice rfl (.tmp 99) (.tmp 102) 22 rfl i0 Try.underlying22 hi hz0 hz1 hz2 W.heap.size _ _ W rfl Hwr.out g at_ (cap - at_) [] 0 ?_ rfl ?_ ?_ ?_; rfl; (intro j hj; cases hj); (have := Hle.out; rw [Hnil.out] at this; exact this); intro v4 w4 hob; have Hb4 := hid hob; clear hob)
                    go_ret
                    exact .inr ⟨by omega, _, rfl, by rw [Int.toNat_natCast, Hfin.out, Hnil.out]; exact Hb4.out⟩

set_option maxHeartbeats 400000 in
theorem zzwf_any (g n cap cN at_ k : Nat) (l : List Int) (w : World) (D : Int) (hD : D ≤ 65536) (hl : l.length = n) (hn : n ≤ 1000000) (hcap : n ≤ cap) (hcm : cap ≤ maxLen) (hg : g < w.heap.size) (hb : ∀ i, i < n → 0 ≤ l.getD i 0 ∧ l.getD i 0 < 256) (hc : ∀ i, i < n → w.cell? ⟨g, i, none⟩ = some (.int .u8 (l.getD i 0)))
    (h0 : ∀ j, j < cN → l.getD j 0 ≠ 58) (h1 : l.getD cN 0 = 58) (h3 : l.getD (cN + 3) 0 = 58) (h6 : cN + 6 ≤ n) (hat : at_ ≤ n) (hT : Tail l n cN at_ k) :
    Calls Try.prog 38 #[.slice (some ⟨g, 0, none⟩) n cap, .int .i64 D] w (WFEnd (.slice (some ⟨g, 0, none⟩) n cap) l at_ k D w) := by
  have H := hid (wf_any g n cap cN at_ k l w D hD hl hn hcap hcm hg hb hc h0 h1 h3 h6 hat hT)
  clear hD hl hn hcap hcm hg hb hc h0 h1 h3 h6 hat hT
  go_enter Try.func38, Try.ntmps38
  go_wp2_with fail
  refine H.out.mono ?_
  rintro e w1 (⟨h1, rfl, rfl⟩ | ⟨h1, v', rfl, h2⟩)
  · go_wp2
    go_ret
    exact .inl ⟨h1, rfl, rfl⟩
  · have H2 := hid h2
    clear h2
    go_wp2
    go_ret
    exact .inr ⟨h1, _, rfl, H2.out⟩
end Go.Proofs.Qxb6000731a
