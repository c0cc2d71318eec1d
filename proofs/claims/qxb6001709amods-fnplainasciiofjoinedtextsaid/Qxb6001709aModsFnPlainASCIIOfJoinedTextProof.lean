/-
  PROOF OF 'Rows.FnPlainASCIIOfJoinedTextSaid'. The frame (the row's step) is the guide's shell for this function; the walk and what it leans on are ours.
-/
import Derived.Test.Qxb6001709aModsRows
import Derived.Test.Qxb6001709aModsHead
import Derived.Test.Qxb6001709aModsPlainTwo
import Derived.Test.Qxb6001709aModsBytes
import Derived.Test.Qxb6001709aModsAscii
import Derived.WalkKit
import Derived.ProofKit
import Derived.OpenShut
import Derived.ShutString
namespace Go.Proofs.Qxb6001709aMods.fnPlainASCIIOfJoinedText
open Go.ChangeShapes Go.WideShapes Go.ChangeAt Go.RowKit
open Go.ChangeMaps (open_string shut_string)
set_option linter.unusedVariables false      -- a walk need not use every 'w<i>' (that an integer argument fits its kind)

theorem own : ownKnob Trym.prog.godebug = none := by kernel_rfl

open Plain

set_option maxHeartbeats 400000 in
theorem long (a b : ByteArray) (w : World) (h : 1048576 < a.size + b.size) :
    Calls Trym.prog 11 #[.string a, .string b] w fun e w' => e = .returned (.bool true) ∧ w' = w := by
  go_enter Trym.func11, Trym.ntmps11
  go_wp2_with (go_at_call 22; refine (bytes22_no _ _ _ h).mono ?_; rintro e w' ⟨rfl, rfl⟩)
  go_ret
  exact ⟨rfl, rfl⟩

set_option maxHeartbeats 400000 in
theorem out (a b : ByteArray) (w : World) (h : a.size + b.size ≤ 1048576) (h1 : 524288 < a.size ∨ 524288 < b.size) :
    Calls Trym.prog 11 #[.string a, .string b] w fun e w' => e = .returned (.bool true) ∧ w' = w := by
  by_cases h2 : 524288 < a.size
  · clear h1
    go_enter Trym.func11, Trym.ntmps11
    go_wp2_with (go_at_call 22; refine (bytes22_yes _ _ _ h).mono ?_; rintro e w' ⟨rfl, rfl⟩)
    go_ret
    exact ⟨rfl, rfl⟩
  · have h3 : 524288 < b.size := by omega
    clear h1
    go_enter Trym.func11, Trym.ntmps11
    go_wp2_with (go_at_call 22; refine (bytes22_yes _ _ _ h).mono ?_; rintro e w' ⟨rfl, rfl⟩)
    go_ret
    exact ⟨rfl, rfl⟩

set_option maxHeartbeats 400000 in
theorem both (a b : ByteArray) (w : World) (h : a.size + b.size ≤ 1048576) (h1 : a.size ≤ 524288) (h2 : b.size ≤ 524288) (y : Bool) (EA : Hid (allB pln a a.size = true)) (EB : Hid (allB pln b b.size = y)) (EJ : Hid (allB pln (a ++ b) (a ++ b).size = y)) :
    Calls Trym.prog 11 #[.string a, .string b] w fun e w' => e = .returned (.bool true) ∧ w' = w := by
  have la : a.size ≤ maxLen := by unfold maxLen; omega
  have lb : b.size ≤ maxLen := by unfold maxLen; omega
  have lj : (a ++ b).size ≤ maxLen := by rw [ByteArray.size_append]; unfold maxLen; omega
  cases y
  all_goals
    go_enter Trym.func11, Trym.ntmps11
    go_wp2_with (go_at_call 22; refine (bytes22_yes _ _ _ h).mono ?_; rintro e w' ⟨rfl, rfl⟩)
    refine (zzpa_as _ true _ (by unfold maxLen; decide) (show _ = _ from rfl)).mono ?_
    rintro e w' ⟨rfl, rfl⟩
    go_wp2_with fail
    refine (zzpa_as (a ++ b) _ _ lj EJ).mono ?_
    rintro e w' ⟨rfl, rfl⟩
    go_wp2_with fail
    refine (zzpa_as a _ _ la EA).mono ?_
    rintro e w' ⟨rfl, rfl⟩
    go_wp2_with fail
    refine (zzpa_as b _ _ lb EB).mono ?_
    rintro e w' ⟨rfl, rfl⟩
    go_wp2_with fail
    go_ret
    exact ⟨rfl, rfl⟩

set_option maxHeartbeats 400000 in
theorem fallen (a b : ByteArray) (w : World) (h : a.size + b.size ≤ 1048576) (h1 : a.size ≤ 524288) (h2 : b.size ≤ 524288) (EA : Hid (allB pln a a.size = false)) (EJ : Hid (allB pln (a ++ b) (a ++ b).size = false)) :
    Calls Trym.prog 11 #[.string a, .string b] w fun e w' => e = .returned (.bool true) ∧ w' = w := by
  have la : a.size ≤ maxLen := by unfold maxLen; omega
  have lj : (a ++ b).size ≤ maxLen := by rw [ByteArray.size_append]; unfold maxLen; omega
  go_enter Trym.func11, Trym.ntmps11
  go_wp2_with (go_at_call 22; refine (bytes22_yes _ _ _ h).mono ?_; rintro e w' ⟨rfl, rfl⟩)
  refine (zzpa_as _ true _ (by unfold maxLen; decide) (show _ = _ from rfl)).mono ?_
  rintro e w' ⟨rfl, rfl⟩
  go_wp2_with fail
  refine (zzpa_as (a ++ b) _ _ lj EJ).mono ?_
  rintro e w' ⟨rfl, rfl⟩
  go_wp2_with fail
  refine (zzpa_as a _ _ la EA).mono ?_
  rintro e w' ⟨rfl, rfl⟩
  go_wp2_with fail
  go_ret
  exact ⟨rfl, rfl⟩

/-! ### STEP 1: THE WALK: the Go text returns true. -/
theorem walk (a0 : ByteArray) (a1 : ByteArray) (w0 : a0.size ≤ maxLen) (w1 : a1.size ≤ maxLen) (w : World) :
    Calls Trym.prog 11 #[.string a0, .string a1] w fun e w' => e = .returned (.bool true) ∧ Grown w w' := by
  refine Calls.mono (R := fun e w' => e = .returned (.bool true) ∧ w' = w) ?_ fun e w' ⟨he, hw⟩ => ⟨he, by rw [hw]; exact Grown.refl _⟩
  by_cases h : a0.size + a1.size ≤ 1048576
  · by_cases h1 : 524288 < a0.size ∨ 524288 < a1.size
    · exact out a0 a1 w h h1
    · have EJ := pln_join a0 a1
      cases EA : allB pln a0 a0.size with
      | false => rw [EA, Bool.false_and] at EJ; exact fallen a0 a1 w h (by omega) (by omega) EA EJ
      | true => rw [EA, Bool.true_and] at EJ; exact both a0 a1 w h (by omega) (by omega) _ EA rfl EJ
  · exact long a0 a1 w (by omega)

/-! ### THE ROW's STEP: WRITTEN OUT: LEAVE IT -/
set_option maxRecDepth 100000 in
theorem lifted (os : Os) (started : os.Started) (H : Type) (enc : TypeId × Value → H) :
    ReturnsInHanded {} Trym.checked os 11 .any (Rows.fnPlainASCIIOfJoinedTextSpec.pre6 enc Trym.prog Trym.f11 Rows.fnPlainASCIIOfJoinedTextRow.domain false) (Rows.fnPlainASCIIOfJoinedTextSpec.post enc Trym.prog Trym.f11 false true false false) := by
  refine returnsInHanded_of_change (C := Trym.checked) own started (by kernel_rfl) Trym.func11
    (ChangeSpec.witness6 (enc := enc) (C := Trym.checked) false ⟨#[], #[.string ByteArray.empty, .string ByteArray.empty], []⟩ 8 (by kernel_rfl) (by kernel_rfl) (by kernel_rfl) (by kernel_rfl)) ?_
  intro W base args ds gs before hval0 hW hcnd _
  have hval : ∀ (j : Nat) t v, Trym.f11.params[j]? = some t → args[j]? = some v → Value.okWide Trym.prog W .any base t v := hval0
  have hW' := hW
  obtain ⟨p, q, hA0, hV, rfl, hfz, hnd⟩ := hW
  have hA : DataW.TrodAll enc Trym.prog W 0 (fun _ => true) true Trym.f11.params.toList args.toList ds p := hA0
  rw [Trym.params11] at hA hval
  obtain ⟨v0, vs0, d0, ds0, p0, q0, hargs, rfl, rfl, h0, r0⟩ := trodAll_cons hA
  obtain ⟨v1, vs1, d1, ds1, p1, q1, rfl, rfl, rfl, h1, r1⟩ := trodAll_cons r0
  obtain ⟨rfl, rfl, rfl⟩ := trodAll_nil r1
  obtain rfl : args = #[v0, v1] := by cases args; simp_all
  obtain ⟨rfl, rfl⟩ := trodVars_none hV
  obtain ⟨a0, rfl, rfl, rfl, w0⟩ := open_string Trym.underlying9 (hval 0 9 v0 rfl rfl) h0
  obtain ⟨a1, rfl, rfl, rfl, w1⟩ := open_string Trym.underlying9 (hval 1 9 v1 rfl rfl) h1
  clear hA0 hval0
  simp only [List.append_nil] at hW'
  refine (walk a0 a1 w0 w1 W).mono fun e W' ⟨he, hg⟩ => ?_
  subst he
  exact ⟨_, rfl, post_of_same (pa := []) (pv := []) hW' (fun _ _ _ => (trodAll_cons_mk (shut_bool Trym.underlying4 _) trodAll_mk0)) (fun sp _ => (trodAll_cons_mk (shut_string Trym.underlying9 w0) (trodAll_cons_mk (shut_string Trym.underlying9 w1) trodAll_mk0))) (fun _ _ => rfl) rfl
    (hg.frame _) hg.2.1 (ok_one (by kernel_rfl) rfl (okWide_bool_mk Trym.underlying4 _))⟩

/-- The row's closed facts (the three of the dump's head by Qxb6001709aModsHead). -/
theorem closed : joinedFacts Trym.pinned.checked.prog 11 Trym.f11 Rows.fnPlainASCIIOfJoinedTextSpec Rows.fnPlainASCIIOfJoinedTextRow = true := by
  show joinedFacts Trym.prog 11 Trym.f11 Rows.fnPlainASCIIOfJoinedTextSpec Rows.fnPlainASCIIOfJoinedTextRow = true
  unfold joinedFacts
  rw [head_enters, head_final, head_make]
  kernel_rfl

theorem over : Rows.fnPlainASCIIOfJoinedTextRow.holds Trym.pinned (OpenSpec.ofChange Rows.fnPlainASCIIOfJoinedTextSpec) :=
  OpenClaim.holds_of_wide 11 Trym.f11 rfl rfl rfl rfl rfl rfl rfl ⟨rfl, rfl, rfl, rfl, rfl⟩ rfl rfl rfl rfl rfl (by kernel_rfl) Trym.func11 closed
    (of_decide_eq_true (by kernel_rfl)) (by unfold Func.isWrapper; first | (rw [if_pos (by decide +kernel)]; kernel_rfl) | (rw [if_neg (by decide +kernel)]; exact ⟨rfl, rfl⟩))
    (fun os started H enc _ => lifted os started H enc)

/-- ████ THE STATEMENT ████ -/
theorem proved : Rows.FnPlainASCIIOfJoinedTextSaid :=
  over
end Go.Proofs.Qxb6001709aMods.fnPlainASCIIOfJoinedText

namespace Go.Proofs.Qxb6001709aMods
/-- The statement, under the name that the claim's paper bears. -/
theorem fnPlainASCIIOfJoinedText_proved : Rows.FnPlainASCIIOfJoinedTextSaid := fnPlainASCIIOfJoinedText.proved
end Go.Proofs.Qxb6001709aMods
