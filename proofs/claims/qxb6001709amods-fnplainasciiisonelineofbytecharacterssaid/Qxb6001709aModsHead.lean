/-
  THE THREE CLOSED FACTS ON THE DUMP's HEAD ('mayEnter', 'liftsFinal', 'make'), kept light for the kernel: each is taken apart over a program that is a letter, and only its small parts are reckoned at this program. (Reckoned whole, each of the three takes the kernel some 100 seconds and 12 GB here: more than the lid.)
-/
import Derived.Test.Qxb6001709aModsRows
import Derived.JoinedOf
import Derived.KernelRfl
namespace Go.Proofs.Qxb6001709aMods

theorem enters_of {P : Program} {c : List Char} {rest : List (List Char)} {L : List String} {W : List (List Char)}
    (h : behindMainWord (wordsSigns P.initOrder.toList) = c :: rest) (hs : stripLifts liftWords (c :: rest) = (L, W)) (hw : (W.head? == some "cut".toList) = true)
    (h1 : P.laysLater = false) (h2 : P.bearsReflect = false) (h3 : L.contains "leanrows" = false) (h4 : P.doorFits L = true) : P.mayEnter = true := by
  unfold Program.mayEnter
  rw [h]
  dsimp only
  rw [hs]
  dsimp only
  rw [hw, h1, h2, h3, h4]
  simp
theorem make_of {P : Program} {c : List Char} {rest : List (List Char)} {L : List String}
    (h : behindMainWord (wordsSigns P.initOrder.toList) = c :: rest) (h1 : (c == "gc".toList || c == "spec".toList) = false)
    (h2 : (c == "cut".toList || (c == "finals".toList && rest.head? == some "cut".toList)) = false) (h3 : (c == "carried".toList) = false)
    (hl : P.headLifts = L) (h4 : L.isEmpty = false) : P.make = some (.lifted L) := by
  unfold Program.make
  rw [h]
  dsimp only
  rw [h1, h2, h3, hl, h4]
  simp
theorem lifts_of {P : Program} {c : List Char} {rest : List (List Char)} {L : List String} {W : List (List Char)}
    (h : behindMainWord (wordsSigns P.initOrder.toList) = c :: rest) (hs : stripLifts liftWords (c :: rest) = (L, W)) (hw : (W.head? == some "cut".toList) = true) : P.headLifts = L := by
  unfold Program.headLifts
  rw [h, hs]
  dsimp only
  rw [hw]
  simp
theorem final_of {P : Program} {c : List Char} {rest : List (List Char)} {L : List String}
    (h : behindMainWord (wordsSigns P.initOrder.toList) = c :: rest) (h3 : (some c == some "carried".toList) = false)
    (hl : P.headLifts = L) (h4 : L.contains "finals" = false) : P.liftsFinal = false := by
  unfold Program.liftsFinal
  rw [h]
  dsimp only [List.head?_cons]
  rw [h3, hl, h4]
  simp

theorem words_of {P : Program} {L : List Char} {a b : List Char} (e : P.initOrder = String.ofList L) (h : (behindMainWord (wordsSigns L)).take 2 = [a, b]) :
    ∃ r, behindMainWord (wordsSigns P.initOrder.toList) = a :: b :: r := by
  rw [e, String.toList_ofList]
  match behindMainWord (wordsSigns L), h with
  | x :: y :: r, h => exact ⟨r, by simp at h; rw [h.1, h.2]⟩

set_option maxRecDepth 100000 in
/-- The head's words behind the harness's mark: its string is laid as 'String.ofList' of its signs (found by unification), so that they are read by one law and not counted one by one. -/
theorem head_words : ∃ r, behindMainWord (wordsSigns Trym.prog.initOrder.toList) = "publicsums".toList :: "cut".toList :: r :=
  words_of (P := Trym.prog) (L := _) rfl (by kernel_rfl)
theorem head_strip (r : List (List Char)) : stripLifts liftWords ("publicsums".toList :: "cut".toList :: r) = (["publicsums"], "cut".toList :: r) := by kernel_rfl
theorem head_cut (r : List (List Char)) : (("cut".toList :: r).head? == some "cut".toList) = true := by kernel_rfl
theorem head_later : Trym.prog.laysLater = false := by kernel_rfl
theorem head_reflect : Trym.prog.bearsReflect = false := by kernel_rfl
theorem head_door : Trym.prog.doorFits ["publicsums"] = true := by kernel_rfl
theorem head_enters : Trym.prog.mayEnter = true := by
  obtain ⟨r, h⟩ := head_words
  exact enters_of h (head_strip r) (head_cut r) head_later head_reflect (by kernel_rfl) head_door
theorem head_lifts : Trym.prog.headLifts = ["publicsums"] := by
  obtain ⟨r, h⟩ := head_words
  exact lifts_of h (head_strip r) (head_cut r)
theorem head_final : Trym.prog.liftsFinal = false := by
  obtain ⟨r, h⟩ := head_words
  exact final_of h (by kernel_rfl) head_lifts (by kernel_rfl)
theorem head_make : Trym.prog.make = some (.lifted ["publicsums"]) := by
  obtain ⟨r, h⟩ := head_words
  exact make_of h (by kernel_rfl) (by kernel_rfl) (by kernel_rfl) head_lifts (by kernel_rfl)

end Go.Proofs.Qxb6001709aMods
