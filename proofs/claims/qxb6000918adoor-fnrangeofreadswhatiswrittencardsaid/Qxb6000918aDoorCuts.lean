/-
  THE WALKS of strings.CutPrefix, CutSuffix, Cut (19, 20, 21), where the one byte lies.
-/
import Derived.Test.Qxb6000918aDoorKey
import Derived.Lib.Bytealg
import Derived.BigQuiet
import Derived.Deep.QuietTactic
namespace Go.Proofs.Qxb6000918aDoor
open Go.RowKit

set_option maxHeartbeats 400000 in
theorem hasPrefix_any (s : ByteArray) (l : List UInt8) (hl : s.data.toList = 91 :: l) (h2 : l.length ≤ 1000) (w : World) :
    Calls Tryd.prog 32 #[.string s, .string ⟨#[91]⟩] w fun e w' => e = .returned (.bool true) ∧ w' = w := by
  have hsz : s.size = l.length + 1 := size_of hl
  have h1 : 1 ≤ s.size := by omega
  have h3 : s.size ≤ 2000 := by omega
  have hx : ((s.extract 0 1).toList == [91]) = true := by
    rw [ByteArray.toList_eq, Lib.extract_data, hl]; simp
  clear hsz hl
  go_enter Tryd.func32, Tryd.ntmps32
  go_wp2
  go_ret
  exact ⟨rfl, rfl⟩

set_option maxHeartbeats 400000 in
theorem cutPrefix_in (s : ByteArray) (l : List UInt8) (hl : s.data.toList = 91 :: l) (h2 : l.length ≤ 1000) (w : World) :
    Calls Tryd.prog 24 #[.string s, .string ⟨#[91]⟩] w fun e w' => (∃ t, e = .returned (.tuple #[.string t, .bool true]) ∧ t.data.toList = l) ∧ w' = w := by
  have hsz : s.size = l.length + 1 := size_of hl
  have h1 : 1 ≤ s.size := by omega
  have h3 : s.size ≤ 2000 := by omega
  have HP := hid (hasPrefix_any s l hl h2)
  have HL := hid hl
  clear hsz hl
  go_enter Tryd.func24, Tryd.ntmps24
  go_wp2_with (go_at_call 32; refine (HP.out w).mono ?_; rintro e w1 ⟨rfl, rfl⟩)
  go_ret2
  exact ⟨⟨_, rfl, tail_data HL.out⟩, rfl⟩

set_option maxHeartbeats 400000 in
theorem cutPrefix_any (s : ByteArray) (l : List UInt8) (hl : s.data.toList = 91 :: l) (h2 : l.length ≤ 1000) (w : World) :
    Calls Tryd.prog 19 #[.string s, .string ⟨#[91]⟩] w fun e w' => (∃ t, e = .returned (.tuple #[.string t, .bool true]) ∧ t.data.toList = l) ∧ w' = w := by
  have HP := hid (cutPrefix_in s l hl h2)
  clear hl
  go_enter Tryd.func19, Tryd.ntmps19
  go_wp2_with (go_at_call 24; refine (HP.out w).mono ?_; rintro e w1 ⟨⟨t, rfl, ht⟩, rfl⟩; have HT := hid ht; clear ht)
  go_ret2
  exact ⟨⟨_, rfl, HT.out⟩, rfl⟩

set_option maxHeartbeats 400000 in
theorem hasSuffix_any (s : ByteArray) (l : List UInt8) (hl : s.data.toList = l ++ [93]) (h2 : l.length ≤ 1000) (w : World) :
    Calls Tryd.prog 33 #[.string s, .string ⟨#[93]⟩] w fun e w' => e = .returned (.bool true) ∧ w' = w := by
  have hsz : s.size = l.length + 1 := by rw [size_of hl]; simp
  have hx : ((s.extract l.length (l.length + 1)).toList == [93]) = true := by
    rw [ByteArray.toList_eq, Lib.extract_data, hl]; simp
  clear hl
  go_enter Tryd.func33, Tryd.ntmps33
  go_wp2
  go_ret
  exact ⟨rfl, rfl⟩

theorem head_data {s : ByteArray} {l r : List UInt8} (h : s.data.toList = l ++ r) : (s.extract 0 l.length).data.toList = l := by
  rw [Lib.extract_data, h]; simp

set_option maxHeartbeats 400000 in
theorem cutSuffix_in (s : ByteArray) (l : List UInt8) (hl : s.data.toList = l ++ [93]) (h2 : l.length ≤ 1000) (w : World) :
    Calls Tryd.prog 25 #[.string s, .string ⟨#[93]⟩] w fun e w' => (∃ t, e = .returned (.tuple #[.string t, .bool true]) ∧ t.data.toList = l) ∧ w' = w := by
  have hsz : s.size = l.length + 1 := by rw [size_of hl]; simp
  have HP := hid (hasSuffix_any s l hl h2)
  have HL := hid hl
  clear hl
  go_enter Tryd.func25, Tryd.ntmps25
  go_wp2_with (go_at_call 33; refine (HP.out w).mono ?_; rintro e w1 ⟨rfl, rfl⟩)
  go_ret2
  exact ⟨⟨_, rfl, head_data HL.out⟩, rfl⟩

set_option maxHeartbeats 400000 in
theorem cutSuffix_any (s : ByteArray) (l : List UInt8) (hl : s.data.toList = l ++ [93]) (h2 : l.length ≤ 1000) (w : World) :
    Calls Tryd.prog 20 #[.string s, .string ⟨#[93]⟩] w fun e w' => (∃ t, e = .returned (.tuple #[.string t, .bool true]) ∧ t.data.toList = l) ∧ w' = w := by
  have HP := hid (cutSuffix_in s l hl h2)
  clear hl
  go_enter Tryd.func20, Tryd.ntmps20
  go_wp2_with (go_at_call 25; refine (HP.out w).mono ?_; rintro e w1 ⟨⟨t, rfl, ht⟩, rfl⟩; have HT := hid ht; clear ht)
  go_ret2
  exact ⟨⟨_, rfl, HT.out⟩, rfl⟩

theorem indexByte_cut (c : UInt8) (b : List UInt8) : ∀ a : List UInt8, c ∉ a → Lib.indexByte (a ++ c :: b) c = a.length
  | [], _ => by simp [Lib.indexByte]
  | x :: a, h => by
    have ih := indexByte_cut c b a (fun hm => h (List.mem_cons_of_mem _ hm))
    have hx : (x == c) = false := beq_eq_false_iff_ne.2 (fun e => h (e ▸ List.mem_cons_self ..))
    rw [List.cons_append, Lib.indexByte, hx, ih]
    simp

set_option maxHeartbeats 400000 in
theorem indexByte_any (s : ByteArray) (a b : List UInt8) (hl : s.data.toList = a ++ 44 :: b) (ha : (44 : UInt8) ∉ a) (w : World) :
    Calls Tryd.prog 40 #[.string s, .int .u8 44] w fun e w' => e = .returned (.int .i64 a.length) ∧ w' = w := by
  have hi : Lib.indexByte s.data.toList (44 : Int).toNat.toUInt8 = a.length := by
    rw [hl]; exact indexByte_cut 44 b a ha
  go_enter Tryd.func40, Tryd.ntmps40
  go_wp2
  rw [run_callFunc_extern Tryd.func45 (by kernel_rfl) (by kernel_rfl) (by kernel_rfl) (e := Extern.BytealgIndexByte.indexByte) (by kernel_rfl), Lib.run_indexByteString, hi]
  simp only [Result.andThen]
  rw [Oper.upon_value]
  go_wp2
  go_ret
  exact ⟨rfl, rfl⟩

set_option maxRecDepth 100000 in
set_option maxHeartbeats 400000 in
theorem index_any (s : ByteArray) (a b : List UInt8) (hl : s.data.toList = a ++ 44 :: b) (ha : (44 : UInt8) ∉ a) (ha1 : 1 ≤ a.length) (w : World) :
    Calls Tryd.prog 34 #[.string s, .string ⟨#[44]⟩] w fun e w' => e = .returned (.int .i64 a.length) ∧ w' = w := by
  have HP := hid (indexByte_any s a b hl ha)
  have hne : ([44] == s.toList) = false := by
    rw [ByteArray.toList_eq, hl, beq_eq_false_iff_ne]
    intro e
    have := congrArg List.length e
    simp at this
    omega
  clear hl ha
  go_enter Tryd.func34, Tryd.ntmps34
  go_wp2_with (go_at_call 40; refine (HP.out w).mono ?_; rintro e w1 ⟨rfl, rfl⟩)
  go_ret
  exact ⟨rfl, rfl⟩

set_option maxHeartbeats 400000 in
theorem cut_in (s : ByteArray) (a b : List UInt8) (hl : s.data.toList = a ++ 44 :: b) (ha : (44 : UInt8) ∉ a) (ha1 : 1 ≤ a.length) (h1 : a.length ≤ 1000) (h2 : b.length ≤ 1000) (w : World) :
    Calls Tryd.prog 26 #[.string s, .string ⟨#[44]⟩] w fun e w' => (∃ t u, e = .returned (.tuple #[.string t, .string u, .bool true]) ∧ t.data.toList = a ∧ u.data.toList = b) ∧ Below w.heap.size w w' := by
  have HP := hid (index_any s a b hl ha ha1)
  have hsz : s.size = a.length + b.length + 1 := by rw [size_of hl]; simp; omega
  have HL := hid hl
  clear hl
  go_enter Tryd.func26, Tryd.ntmps26
  go_wp2_with (first
    | (go_at_call 34; refine (HP.out w).mono ?_; rintro e w1 ⟨rfl, rfl⟩)
    | go_quiet (fail))
  go_ret3
  refine ⟨⟨_, _, rfl, head_data HL.out, ?_⟩, ?_⟩
  · rw [Lib.extract_data, HL.out]
    simp
  · exact ⟨rfl, rfl, rfl, Nat.le_refl _, fun _ _ => rfl⟩

set_option maxHeartbeats 400000 in
theorem cut_any (s : ByteArray) (a b : List UInt8) (hl : s.data.toList = a ++ 44 :: b) (ha : (44 : UInt8) ∉ a) (ha1 : 1 ≤ a.length) (h1 : a.length ≤ 1000) (h2 : b.length ≤ 1000) (w : World) :
    Calls Tryd.prog 21 #[.string s, .string ⟨#[44]⟩] w fun e w' => (∃ t u, e = .returned (.tuple #[.string t, .string u, .bool true]) ∧ t.data.toList = a ∧ u.data.toList = b) ∧ Below w.heap.size w w' := by
  have HP := hid (cut_in s a b hl ha ha1 h1 h2)
  clear hl ha ha1
  go_enter Tryd.func21, Tryd.ntmps21
  go_wp2_with (go_at_call 26; refine (HP.out w).mono ?_; rintro e w1 ⟨⟨t, u, rfl, ht⟩, hb⟩; have HT := hid ht; have HB := hid hb; clear ht hb)
  go_ret3
  exact ⟨⟨_, _, rfl, HT.out⟩, HB.out⟩
end Go.Proofs.Qxb6000918aDoor
