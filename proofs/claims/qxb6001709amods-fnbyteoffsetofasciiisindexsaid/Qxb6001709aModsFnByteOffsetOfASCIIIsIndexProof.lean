/-
  PROOF OF 'Rows.FnByteOffsetOfASCIIIsIndexSaid'. The frame (the row's step) is the guide's shell for this function; the walk and what it leans on are ours.
-/
import Derived.Test.Qxb6001709aModsRows
import Derived.Test.Qxb6001709aModsHead
import Derived.Test.Qxb6001709aModsPlain
import Derived.Test.Qxb6001709aModsBytes
import Derived.Test.Qxb6001709aModsOffset
import Derived.WalkKit
import Derived.ProofKit
import Derived.OpenShut
import Derived.ShutString
namespace Go.Proofs.Qxb6001709aMods.fnByteOffsetOfASCIIIsIndex
open Go.ChangeShapes Go.WideShapes Go.ChangeAt Go.RowKit
open Go.ChangeMaps (open_string shut_string)
set_option linter.unusedVariables false      -- a walk need not use every 'w<i>' (that an integer argument fits its kind)

theorem own : ownKnob Trym.prog.godebug = none := by kernel_rfl

open Plain

theorem ret_beq {x y : Int} (h : x = y) : Ending.returned (.bool (x == y)) = .returned (.bool true) := by rw [h]; simp
theorem below128_as (s : ByteArray) (b : Bool) (w : World) (hs : s.size ≤ maxLen) (E : Hid (allB asc s s.size = b)) :
    Calls Trym.prog 18 #[.string s] w fun e w' => e = .returned (.bool b) ∧ w' = w := by
  have := below128_any s w hs
  rw [E.out] at this
  exact this

set_option maxHeartbeats 400000 in
theorem long (s : ByteArray) (n : Int) (w : World) (h : 1048576 < s.size) :
    Calls Trym.prog 8 #[.string s, .int .i64 n] w fun e w' => e = .returned (.bool true) ∧ Below w.heap.size w w' := by
  go_enter Trym.func8, Trym.ntmps8
  go_wp2_with (go_at_call 17; refine (bytes17_no _ _ _ h).mono ?_; rintro e w' ⟨rfl, rfl⟩)
  go_ret
  exact ⟨rfl, Below.refl _ _⟩

set_option maxHeartbeats 400000 in
theorem out (s : ByteArray) (n : Int) (w : World) (h : s.size ≤ 1048576) (h1 : n < 0) :
    Calls Trym.prog 8 #[.string s, .int .i64 n] w fun e w' => e = .returned (.bool true) ∧ Below w.heap.size w w' := by
  go_enter Trym.func8, Trym.ntmps8
  go_wp2_with (go_at_call 17; refine (bytes17_yes _ _ _ h).mono ?_; rintro e w' ⟨rfl, rfl⟩)
  go_ret
  exact ⟨rfl, Below.refl _ _⟩

set_option maxHeartbeats 400000 in
theorem high (s : ByteArray) (n : Int) (w : World) (hs : s.size ≤ maxLen) (h : s.size ≤ 1048576) (h1 : ¬ n < 0) (E : Hid (allB asc s s.size = false)) :
    Calls Trym.prog 8 #[.string s, .int .i64 n] w fun e w' => e = .returned (.bool true) ∧ Below w.heap.size w w' := by
  go_enter Trym.func8, Trym.ntmps8
  go_wp2_with (first | (go_at_call 17; refine (bytes17_yes _ _ _ h).mono ?_; rintro e w' ⟨rfl, rfl⟩) | (go_at_call 18; refine (below128_as _ false _ hs E).mono ?_; rintro e w' ⟨rfl, rfl⟩))
  go_ret
  exact ⟨rfl, Below.refl _ _⟩

set_option maxHeartbeats 800000 in
theorem inside (s : ByteArray) (k A : Nat) (w : World) (hs : s.size ≤ maxLen) (h : s.size ≤ 1048576) (hk : (k : Int) ≤ 9223372036854775807) (E : Hid (allB asc s s.size = true)) (EA : Hid (bo s k = A)) (F : Hid (A = min k s.size)) :
    Calls Trym.prog 8 #[.string s, .int .i64 k] w fun e w' => e = .returned (.bool true) ∧ Below w.heap.size w w' := by
  by_cases hl : s.size < k
  · go_enter Trym.func8, Trym.ntmps8
    go_wp2_with (first | (go_at_call 17; refine (bytes17_yes _ _ _ h).mono ?_; rintro e w' ⟨rfl, rfl⟩) | (go_at_call 18; refine (below128_as _ true _ hs E).mono ?_; rintro e w' ⟨rfl, rfl⟩))
    refine (zzbo_at s _ k A _ (by omega) (by omega) EA).mono ?_
    rintro e w1 ⟨rfl, b1⟩
    go_wp2_with fail
    go_ret
    exact ⟨ret_beq (by have := F.out; omega), b1⟩
  · go_enter Trym.func8, Trym.ntmps8
    go_wp2_with (first | (go_at_call 17; refine (bytes17_yes _ _ _ h).mono ?_; rintro e w' ⟨rfl, rfl⟩) | (go_at_call 18; refine (below128_as _ true _ hs E).mono ?_; rintro e w' ⟨rfl, rfl⟩))
    refine (zzbo_at s _ k A _ (by omega) (by omega) EA).mono ?_
    rintro e w1 ⟨rfl, b1⟩
    go_wp2_with fail
    go_ret
    exact ⟨ret_beq (by have := F.out; omega), b1⟩

/-! ### STEP 1: THE WALK: the Go text returns true. -/
theorem walk (a0 : ByteArray) (a1 : Int) (w0 : a0.size ≤ maxLen) (w1 : (Lit.int .i64 a1).wf = true) (w : World) :
    Calls Trym.prog 8 #[.string a0, .int .i64 a1] w fun e w' => e = .returned (.bool true) ∧ Below w.heap.size w w' := by
  have b1 := bounds_i64 w1
  by_cases h : a0.size ≤ 1048576
  · by_cases hn : a1 < 0
    · exact out a0 a1 w h hn
    · cases E : allB asc a0 a0.size with
      | false => exact high a0 a1 w w0 h hn E
      | true =>
        obtain ⟨k, rfl⟩ := Int.eq_ofNat_of_zero_le (show 0 ≤ a1 by omega)
        refine inside a0 k _ w w0 h (by omega) E rfl (bo_ascii a0 (fun j hj => ?_) k)
        have := (allB_iff asc a0 a0.size).1 E j hj
        simpa [asc] using this
  · exact long a0 a1 w (by omega)

/-! ### THE ROW's STEP: WRITTEN OUT: LEAVE IT -/
set_option maxRecDepth 100000 in
theorem lifted (os : Os) (started : os.Started) (H : Type) (enc : TypeId × Value → H) :
    ReturnsInHanded {} Trym.checked os 8 .any (Rows.fnByteOffsetOfASCIIIsIndexSpec.pre6 enc Trym.prog Trym.f8 Rows.fnByteOffsetOfASCIIIsIndexRow.domain false) (Rows.fnByteOffsetOfASCIIIsIndexSpec.post enc Trym.prog Trym.f8 false true false false) := by
  refine returnsInHanded_of_change (C := Trym.checked) own started (by kernel_rfl) Trym.func8
    (ChangeSpec.witness6 (enc := enc) (C := Trym.checked) false ⟨#[], #[.string ByteArray.empty, .int .i64 0], []⟩ 8 (by kernel_rfl) (by kernel_rfl) (by kernel_rfl) (by kernel_rfl)) ?_
  intro W base args ds gs before hval0 hW hcnd _
  have hval : ∀ (j : Nat) t v, Trym.f8.params[j]? = some t → args[j]? = some v → Value.okWide Trym.prog W .any base t v := hval0
  have hW' := hW
  obtain ⟨p, q, hA0, hV, rfl, hfz, hnd⟩ := hW
  have hA : DataW.TrodAll enc Trym.prog W 0 (fun _ => true) true Trym.f8.params.toList args.toList ds p := hA0
  rw [Trym.params8] at hA hval
  obtain ⟨v0, vs0, d0, ds0, p0, q0, hargs, rfl, rfl, h0, r0⟩ := trodAll_cons hA
  obtain ⟨v1, vs1, d1, ds1, p1, q1, rfl, rfl, rfl, h1, r1⟩ := trodAll_cons r0
  obtain ⟨rfl, rfl, rfl⟩ := trodAll_nil r1
  obtain rfl : args = #[v0, v1] := by cases args; simp_all
  obtain ⟨rfl, rfl⟩ := trodVars_none hV
  obtain ⟨a0, rfl, rfl, rfl, w0⟩ := open_string Trym.underlying9 (hval 0 9 v0 rfl rfl) h0
  obtain ⟨a1, rfl, rfl, rfl, w1⟩ := open_int Trym.underlying3 (hval 1 3 v1 rfl rfl) h1
  clear hA0 hval0
  simp only [List.append_nil] at hW'
  refine (walk a0 a1 w0 w1 W).mono fun e W' ⟨he, hg⟩ => ?_
  subst he
  exact ⟨_, rfl, _, _, _, [], [], [], hW', (trodAll_cons_mk (shut_bool Trym.underlying4 _) trodAll_mk0), (trodAll_cons_mk (shut_string Trym.underlying9 w0) (trodAll_cons_mk (shut_int Trym.underlying3 w1) trodAll_mk0)), rfl, hg.frame _, fun h => by cases h⟩

/-- The row's closed facts (the three of the dump's head by Qxb6001709aModsHead). -/
theorem closed : joinedFacts Trym.pinned.checked.prog 8 Trym.f8 Rows.fnByteOffsetOfASCIIIsIndexSpec Rows.fnByteOffsetOfASCIIIsIndexRow = true := by
  show joinedFacts Trym.prog 8 Trym.f8 Rows.fnByteOffsetOfASCIIIsIndexSpec Rows.fnByteOffsetOfASCIIIsIndexRow = true
  unfold joinedFacts
  rw [head_enters, head_final, head_make]
  kernel_rfl

theorem over : Rows.fnByteOffsetOfASCIIIsIndexRow.holds Trym.pinned (OpenSpec.ofChange Rows.fnByteOffsetOfASCIIIsIndexSpec) :=
  OpenClaim.holds_of_wide 8 Trym.f8 rfl rfl rfl rfl rfl rfl rfl ⟨rfl, rfl, rfl, rfl, rfl⟩ rfl rfl rfl rfl rfl (by kernel_rfl) Trym.func8 closed
    (of_decide_eq_true (by kernel_rfl)) (by unfold Func.isWrapper; first | (rw [if_pos (by decide +kernel)]; kernel_rfl) | (rw [if_neg (by decide +kernel)]; exact ⟨rfl, rfl⟩))
    (fun os started H enc _ => lifted os started H enc)

/-- ████ THE STATEMENT ████ -/
theorem proved : Rows.FnByteOffsetOfASCIIIsIndexSaid :=
  over
end Go.Proofs.Qxb6001709aMods.fnByteOffsetOfASCIIIsIndex

namespace Go.Proofs.Qxb6001709aMods
/-- The statement, under the name that the claim's paper bears. -/
theorem fnByteOffsetOfASCIIIsIndex_proved : Rows.FnByteOffsetOfASCIIIsIndexSaid := fnByteOffsetOfASCIIIsIndex.proved
end Go.Proofs.Qxb6001709aMods
