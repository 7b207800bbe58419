/- The head of the translation, word by word: what the row's closed facts ask of it, without unfolding its 358 signs in one piece. -/
import Derived.Test.Qxb6001204aModsRows
import Derived.ProofKit
namespace Go.Proofs.Qxb6001204aMods

/-- one word and a blank -/
theorem words_cons : ∀ (w r : List Char), (∀ c ∈ w, c ≠ ' ') → wordsSigns (w ++ ' ' :: r) = w :: wordsSigns r
  | [], r, _ => by
    show wordsSigns (' ' :: r) = _
    rw [wordsSigns]
  | c :: w, r, h => by
    have ih := words_cons w r (fun x hx => h x (List.mem_cons_of_mem _ hx))
    have hc : c ≠ ' ' := h c (List.mem_cons_self ..)
    show wordsSigns (c :: (w ++ ' ' :: r)) = _
    rw [wordsSigns]
    · rw [ih]
    · exact hc

def w1 : List Char := ([104, 97, 114, 110, 101, 115, 115] : List Nat).map Char.ofNat
def w2 : List Char := ([53, 48, 51, 100, 56, 56, 101, 49, 99, 49, 97, 99, 98, 51, 50, 98, 52, 50, 52, 50, 100, 97, 49, 57, 51, 102, 102, 53, 57, 51, 52, 53, 54, 53, 56, 100, 48, 97, 50, 48,
  55, 52, 53, 102, 55, 48, 57, 55, 97, 48, 54, 55, 102, 101, 97, 55, 102, 56, 98, 102, 101, 52, 101, 100] : List Nat).map Char.ofNat
def w3 : List Char := ([112, 117, 98, 108, 105, 99, 115, 117, 109, 115] : List Nat).map Char.ofNat
def w4 : List Char := ([99, 117, 116] : List Nat).map Char.ofNat
def wRest : List Char := ([97, 116, 32, 101, 120, 97, 109, 112, 108, 101, 46, 99, 111, 109, 47, 104, 111, 108, 100, 102, 97, 115, 116, 47, 104, 111, 108, 100, 102, 97, 115, 116, 47, 122, 122, 108, 97, 119, 115, 95,
  105, 110, 116, 101, 114, 110, 97, 108, 95, 97, 114, 99, 104, 105, 118, 101, 95, 98, 49, 46, 70, 110, 88, 97, 116, 116, 114, 115, 79, 102, 65, 110, 115, 119, 101, 114, 115, 69, 97, 99,
  104, 78, 97, 109, 101, 66, 121, 73, 116, 115, 82, 101, 99, 111, 114, 100, 32, 101, 120, 97, 109, 112, 108, 101, 46, 99, 111, 109, 47, 104, 111, 108, 100, 102, 97, 115, 116, 47, 104, 111,
  108, 100, 102, 97, 115, 116, 47, 122, 122, 108, 97, 119, 115, 95, 105, 110, 116, 101, 114, 110, 97, 108, 95, 97, 114, 99, 104, 105, 118, 101, 95, 98, 49, 46, 70, 110, 88, 97, 116, 116,
  114, 115, 79, 102, 67, 111, 117, 110, 116, 115, 68, 105, 115, 116, 105, 110, 99, 116, 78, 97, 109, 101, 115, 32, 101, 120, 97, 109, 112, 108, 101, 46, 99, 111, 109, 47, 104, 111, 108, 100,
  102, 97, 115, 116, 47, 104, 111, 108, 100, 102, 97, 115, 116, 47, 122, 122, 108, 97, 119, 115, 95, 105, 110, 116, 101, 114, 110, 97, 108, 95, 97, 114, 99, 104, 105, 118, 101, 95, 98, 49,
  46, 70, 110, 88, 97, 116, 116, 114, 115, 79, 102, 73, 110, 118, 101, 114, 116, 115, 84, 104, 101, 105, 114, 82, 101, 99, 111, 114, 100, 115] : List Nat).map Char.ofNat

theorem head_ofList : Trym.pinned.checked.prog.initOrder = String.ofList (w1 ++ ' ' :: (w2 ++ ' ' :: (w3 ++ ' ' :: (w4 ++ ' ' :: wRest)))) := by kernel_rfl

theorem no1 : ∀ c ∈ w1, c ≠ ' ' := by decide +kernel
theorem no2 : ∀ c ∈ w2, c ≠ ' ' := by decide +kernel
theorem no3 : ∀ c ∈ w3, c ≠ ' ' := by decide +kernel
theorem no4 : ∀ c ∈ w4, c ≠ ' ' := by decide +kernel

theorem head_words : wordsSigns Trym.pinned.checked.prog.initOrder.toList = w1 :: w2 :: w3 :: w4 :: wordsSigns wRest := by
  rw [head_ofList, String.toList_ofList, words_cons w1 _ no1, words_cons w2 _ no2, words_cons w3 _ no3, words_cons w4 _ no4]

theorem behind (X : List (List Char)) : behindMainWord (w1 :: w2 :: w3 :: w4 :: X) = w3 :: w4 :: X := by kernel_rfl

theorem strip (X : List (List Char)) : stripLifts liftWords (w3 :: w4 :: X) = (["publicsums"], w4 :: X) := by kernel_rfl

theorem head_behind : behindMainWord (wordsSigns Trym.pinned.checked.prog.initOrder.toList) = w3 :: w4 :: wordsSigns wRest := by
  rw [head_words, behind]

theorem head_lifts : Trym.pinned.checked.prog.headLifts = ["publicsums"] := by
  unfold Program.headLifts
  rw [head_behind, strip]
  kernel_rfl

/-! of whatever program -/
theorem mayEnter_of (P : Program) (c d : List Char) (X : List (List Char)) (h : behindMainWord (wordsSigns P.initOrder.toList) = c :: d :: X) (hs : stripLifts liftWords (c :: d :: X) = (["publicsums"], d :: X)) (hd : d = "cut".toList)
    (hl : P.laysLater = false) (hr : P.bearsReflect = false) (hf : P.doorFits ["publicsums"] = true) : P.mayEnter = true := by
  unfold Program.mayEnter
  rw [h]
  simp only [hs, hl, hr, hf]
  subst hd
  simp

theorem liftsFinal_of (P : Program) (c d : List Char) (X : List (List Char)) (h : behindMainWord (wordsSigns P.initOrder.toList) = c :: d :: X) (hc : (some c == some "carried".toList) = false) (hh : P.headLifts = ["publicsums"]) : P.liftsFinal = false := by
  unfold Program.liftsFinal
  rw [h, hh]
  dsimp only [List.head?]
  rw [hc, Bool.false_and, Bool.false_or]
  decide

theorem make_of (P : Program) (c d : List Char) (X : List (List Char)) (h : behindMainWord (wordsSigns P.initOrder.toList) = c :: d :: X) (h1 : (c == "gc".toList) = false) (h2 : (c == "spec".toList) = false) (h3 : (c == "cut".toList) = false) (h4 : (c == "finals".toList) = false) (h5 : (c == "carried".toList) = false)
    (hh : P.headLifts = ["publicsums"]) : P.make = some (.lifted ["publicsums"]) := by
  unfold Program.make
  rw [h]
  simp only [h1, h2, h3, h4, h5, hh]
  rfl

theorem laysLater_false : Trym.pinned.checked.prog.laysLater = false := by kernel_rfl
theorem bearsReflect_false : Trym.pinned.checked.prog.bearsReflect = false := by kernel_rfl
theorem doorFits_true : Trym.pinned.checked.prog.doorFits ["publicsums"] = true := by kernel_rfl

theorem mayEnter_true : Trym.pinned.checked.prog.mayEnter = true :=
  mayEnter_of _ w3 w4 _ head_behind (strip _) (by kernel_rfl) laysLater_false bearsReflect_false doorFits_true

theorem liftsFinal_false : Trym.pinned.checked.prog.liftsFinal = false :=
  liftsFinal_of _ w3 w4 _ head_behind (by kernel_rfl) head_lifts

theorem make_is : Trym.pinned.checked.prog.make = some (.lifted ["publicsums"]) :=
  make_of _ w3 w4 _ head_behind (by kernel_rfl) (by kernel_rfl) (by kernel_rfl) (by kernel_rfl) (by kernel_rfl) head_lifts

end Go.Proofs.Qxb6001204aMods
