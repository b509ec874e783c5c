/-
  THE CLOSED FACTS OF THE ROW. Three of them read the words of the translation's head; reckoned by the kernel as they stand they outgrow the memory lid (some 11.6 GB each), so the head's first words are read off its string literal ('String.toList_ofList'), and the three are drawn from them over a program that is a variable.
-/
import Derived.Test.Qxb6000731aRows
import Derived.JoinedOf
import Derived.KernelRfl
namespace Go.Proofs.Qxb6000731a.fnWithFractionSpec
open Go

/-! The head's first three words, as numbers of signs. -/
def wH : List Char := [Char.ofNat 104, Char.ofNat 97, Char.ofNat 114, Char.ofNat 110, Char.ofNat 101, Char.ofNat 115, Char.ofNat 115]
def wS : List Char := [Char.ofNat 100, Char.ofNat 55, Char.ofNat 100, Char.ofNat 99, Char.ofNat 100, Char.ofNat 100, Char.ofNat 101, Char.ofNat 53, Char.ofNat 48, Char.ofNat 54, Char.ofNat 50, Char.ofNat 56, Char.ofNat 52, Char.ofNat 101, Char.ofNat 57, Char.ofNat 51, Char.ofNat 101, Char.ofNat 48, Char.ofNat 51, Char.ofNat 49, Char.ofNat 52, Char.ofNat 100, Char.ofNat 49, Char.ofNat 98, Char.ofNat 52, Char.ofNat 48, Char.ofNat 51, Char.ofNat 55, Char.ofNat 49, Char.ofNat 102, Char.ofNat 52, Char.ofNat 48, Char.ofNat 56, Char.ofNat 52, Char.ofNat 52, Char.ofNat 49, Char.ofNat 53, Char.ofNat 57, Char.ofNat 51, Char.ofNat 49, Char.ofNat 98, Char.ofNat 57, Char.ofNat 99, Char.ofNat 102, Char.ofNat 98, Char.ofNat 48, Char.ofNat 101, Char.ofNat 55, Char.ofNat 98, Char.ofNat 49, Char.ofNat 54, Char.ofNat 99, Char.ofNat 51, Char.ofNat 99, Char.ofNat 48, Char.ofNat 56, Char.ofNat 53, Char.ofNat 97, Char.ofNat 102, Char.ofNat 53, Char.ofNat 48, Char.ofNat 97, Char.ofNat 97, Char.ofNat 99]
def wC : List Char := [Char.ofNat 99, Char.ofNat 117, Char.ofNat 116]

set_option maxRecDepth 1000000 in
theorem init_list : ∃ R, Try.prog.initOrder = String.ofList (Char.ofNat 104 :: Char.ofNat 97 :: Char.ofNat 114 :: Char.ofNat 110 :: Char.ofNat 101 :: Char.ofNat 115 :: Char.ofNat 115 :: Char.ofNat 32 :: Char.ofNat 100 :: Char.ofNat 55 :: Char.ofNat 100 :: Char.ofNat 99 :: Char.ofNat 100 :: Char.ofNat 100 :: Char.ofNat 101 :: Char.ofNat 53 :: Char.ofNat 48 :: Char.ofNat 54 :: Char.ofNat 50 :: Char.ofNat 56 :: Char.ofNat 52 :: Char.ofNat 101 :: Char.ofNat 57 :: Char.ofNat 51 :: Char.ofNat 101 :: Char.ofNat 48 :: Char.ofNat 51 :: Char.ofNat 49 :: Char.ofNat 52 :: Char.ofNat 100 :: Char.ofNat 49 :: Char.ofNat 98 :: Char.ofNat 52 :: Char.ofNat 48 :: Char.ofNat 51 :: Char.ofNat 55 :: Char.ofNat 49 :: Char.ofNat 102 :: Char.ofNat 52 :: Char.ofNat 48 :: Char.ofNat 56 :: Char.ofNat 52 :: Char.ofNat 52 :: Char.ofNat 49 :: Char.ofNat 53 :: Char.ofNat 57 :: Char.ofNat 51 :: Char.ofNat 49 :: Char.ofNat 98 :: Char.ofNat 57 :: Char.ofNat 99 :: Char.ofNat 102 :: Char.ofNat 98 :: Char.ofNat 48 :: Char.ofNat 101 :: Char.ofNat 55 :: Char.ofNat 98 :: Char.ofNat 49 :: Char.ofNat 54 :: Char.ofNat 99 :: Char.ofNat 51 :: Char.ofNat 99 :: Char.ofNat 48 :: Char.ofNat 56 :: Char.ofNat 53 :: Char.ofNat 97 :: Char.ofNat 102 :: Char.ofNat 53 :: Char.ofNat 48 :: Char.ofNat 97 :: Char.ofNat 97 :: Char.ofNat 99 :: Char.ofNat 32 :: Char.ofNat 99 :: Char.ofNat 117 :: Char.ofNat 116 :: Char.ofNat 32 :: R) := ⟨_, rfl⟩

theorem words_cons {w r : List Char} (h : ∀ c ∈ w, c ≠ ' ') : wordsSigns (w ++ ' ' :: r) = w :: wordsSigns r := by
  induction w with
  | nil => rfl
  | cons c w ih =>
    have hc := h c (by simp)
    have := ih (fun d hd => h d (by simp [hd]))
    show wordsSigns (c :: (w ++ ' ' :: r)) = _
    rw [wordsSigns, this]
    intro e
    exact hc e

theorem words : ∃ R, behindMainWord (wordsSigns Try.prog.initOrder.toList) = wC :: R := by
  obtain ⟨R, hR⟩ := init_list
  refine ⟨wordsSigns R, ?_⟩
  have h1 : Try.prog.initOrder.toList = wH ++ ' ' :: (wS ++ ' ' :: (wC ++ ' ' :: R)) := by
    rw [hR, String.toList_ofList]; rfl
  rw [h1, words_cons (by decide), words_cons (by decide), words_cons (by decide), behindMainWord, if_pos (by decide)]

theorem strip (R : List (List Char)) : stripLifts liftWords (wC :: R) = ([], wC :: R) := by kernel_rfl
theorem ll : Try.prog.laysLater = false := by kernel_rfl
theorem br : Try.prog.bearsReflect = false := by kernel_rfl
theorem df : Try.prog.doorFits [] = true := by kernel_rfl
theorem n1 : (wC == "gc".toList) = false := by decide
theorem n2 : (wC == "spec".toList) = false := by decide
theorem n3 : (wC == "carried".toList) = false := by decide
theorem n4 : (wC == "cut".toList) = true := by decide
theorem n5 (R : List (List Char)) : ((wC :: R).head? == some "cut".toList) = true := (by decide : (some wC == some "cut".toList) = true)
theorem n6 (R : List (List Char)) : ((wC :: R).head? == some "carried".toList) = false := (by decide : (some wC == some "carried".toList) = false)

theorem enter_of {P : Program} {R : List (List Char)} (hR : behindMainWord (wordsSigns P.initOrder.toList) = wC :: R) (ll : P.laysLater = false) (br : P.bearsReflect = false) (df : P.doorFits [] = true) : P.mayEnter = true := by
  unfold Program.mayEnter
  rw [hR]
  dsimp only
  rw [strip, ll, br, df, n1, n2, n3, n5]
  rfl
theorem lifts_of {P : Program} {R : List (List Char)} (hR : behindMainWord (wordsSigns P.initOrder.toList) = wC :: R) : P.liftsFinal = false := by
  have hh : P.headLifts = [] := by
    unfold Program.headLifts
    rw [hR, strip]
    exact ite_self _
  unfold Program.liftsFinal
  rw [hR, hh]
  dsimp only
  rw [n6]
  rfl
theorem make_of {P : Program} {R : List (List Char)} (hR : behindMainWord (wordsSigns P.initOrder.toList) = wC :: R) : P.make = some Make.cut := by
  unfold Program.make
  rw [hR]
  dsimp only
  rw [n1, n2, n4]
  rfl

theorem enters : Try.prog.mayEnter = true := by
  obtain ⟨R, hR⟩ := words
  exact enter_of hR ll br df
theorem lifts : (Rows.fnWithFractionSpecRow.lifted == Try.prog.liftsFinal) = true := by
  obtain ⟨R, hR⟩ := words
  rw [lifts_of hR]
  rfl
theorem makes : (Try.prog.make == some Rows.fnWithFractionSpecRow.make) = true := by
  obtain ⟨R, hR⟩ := words
  rw [make_of hR]
  rfl

theorem and_mk {a b : Bool} (ha : a = true) (hb : b = true) : (a && b) = true := by rw [ha, hb]; rfl

theorem closed : joinedFacts Try.prog 9 Try.f9 Rows.fnWithFractionSpecSpec Rows.fnWithFractionSpecRow = true := by
  unfold joinedFacts
  repeat' (with_reducible refine and_mk ?_ ?_)
  all_goals first | with_reducible exact enters | with_reducible exact lifts | with_reducible exact makes | (as_aux_lemma => kernel_rfl)

end Go.Proofs.Qxb6000731a.fnWithFractionSpec
