/-
  PROOF OF 'Rows.FnRangeLengthLastInsideNextOutsideSaid'. The frame (the row's step) is the guide's shell for this function; the walk and what it leans on are ours.
-/
import Derived.Test.Qxb6001709aModsRows
import Derived.Test.Qxb6001709aModsHead
import Derived.Test.Qxb6001709aModsRange
import Derived.WalkKit
import Derived.ProofKit
import Derived.OpenShut
import Derived.ShutString
namespace Go.Proofs.Qxb6001709aMods.fnRangeLengthLastInsideNextOutside
open Go.ChangeShapes Go.WideShapes Go.ChangeAt Go.RowKit
open Go.ChangeMaps (open_string shut_string)
set_option linter.unusedVariables false      -- a walk need not use every 'w<i>' (that an integer argument fits its kind)

theorem own : ownKnob Trym.prog.godebug = none := by kernel_rfl

/-! ### THE ARITHMETIC: D the distance (1 up to 2^64 - 1), S the step's size, n = (D - 1) / S + 1: each test of the Go text, as the walk spells it -/
theorem core {D S n : Int} (hD : 1 ≤ D) (hD' : D ≤ 18446744073709551615) (hS : 1 ≤ S) (hS' : S ≤ 18446744073709551615) (hn : n = (D - 1) / S + 1) :
    (n == 0) = false ∧ 0 < D ∧ (¬ IntKind.u64.wrap (n - 1) = 0 → (IntKind.u64.wrap ((IntKind.u64.wrap (IntKind.u64.wrap (n - 1) * S)).tdiv (IntKind.u64.wrap (n - 1))) != S) = false) ∧
    IntKind.u64.wrap (IntKind.u64.wrap (n - 1) * S) < D ∧ IntKind.u64.wrap (D - IntKind.u64.wrap (IntKind.u64.wrap (n - 1) * S)) ≤ S ∧ (IntKind.u64.wrap (n - 1) = 0 → IntKind.u64.wrap D ≤ S) := by
  have h0 : 0 ≤ (D - 1) / S := Int.ediv_nonneg (by omega) (by omega)
  have h1 : (D - 1) / S ≤ D - 1 := Int.ediv_le_self _ (by omega)
  have h2 := Int.mul_ediv_add_emod (D - 1) S
  have h3 := Int.emod_nonneg (D - 1) (b := S) (by omega)
  have h4 := Int.emod_lt_of_pos (D - 1) (b := S) (by omega)
  rw [Int.mul_comm] at h2
  have h5 : 0 ≤ (D - 1) / S * S := Int.mul_nonneg h0 (by omega)
  subst hn
  rw [show (D - 1) / S + 1 - 1 = (D - 1) / S from by omega]
  generalize (D - 1) / S = m at *
  rw [u64_self h0 (by omega), u64_self (x := m * S) (by omega) (by omega), u64_self (x := D - m * S) (by omega) (by omega), u64_self (x := D) (by omega) (by omega)]
  refine ⟨by simp; omega, by omega, fun hm => ?_, by omega, by omega, fun hm => ?_⟩
  · rw [Int.mul_tdiv_cancel_left _ hm, u64_self (by omega) (by omega)]
    simp
  · subst hm
    simp at h2
    omega

theorem ret_true {p : Prop} [Decidable p] (h : p) : Ending.returned (.bool (decide p)) = .returned (.bool true) := by rw [decide_eq_true h]
theorem ret_beq {x y : Int} (h : x = y) : Ending.returned (.bool (x == y)) = .returned (.bool true) := by rw [h]; simp

set_option maxHeartbeats 400000 in
theorem up (a b c : Int) (w0 : (Lit.int .i64 a).wf = true) (w1 : (Lit.int .i64 b).wf = true) (w2 : (Lit.int .i64 c).wf = true) (w : World) (h1 : 0 < c) (h2 : a < b) :
    Calls Trym.prog 5 #[.int .i64 a, .int .i64 b, .int .i64 c] w fun e w' => e = .returned (.bool true) ∧ w' = w := by
  have b0 := bounds_i64 w0
  have b1 := bounds_i64 w1
  have b2 := bounds_i64 w2
  obtain ⟨f1, f2, f3, f4, f5, f6⟩ := core (D := IntKind.u64.wrap (IntKind.u64.wrap b - IntKind.u64.wrap a)) (S := IntKind.u64.wrap c) (n := rl a b c)
    (by rw [u64_sub (by omega) (by omega)]; omega) (by rw [u64_sub (by omega) (by omega)]; omega) (by rw [u64_self (by omega) (by omega)]; omega) (by rw [u64_self (by omega) (by omega)]; omega)
    (by rw [u64_sub (by omega) (by omega), u64_self (by omega) (by omega), rl_up h1 h2])
  clear b0 b1 b2
  by_cases hm : IntKind.u64.wrap (rl a b c - 1) = 0
  · have F : Hid _ := f6 hm
    clear f6 f3 f5 f4
    go_enter Trym.func5, Trym.ntmps5
    go_wp2_with (go_at_call 16; refine (zzrl_any _ _ _ w0 w1 w2 _).mono ?_; rintro e w' ⟨rfl, rfl⟩)
    go_ret
    exact ⟨ret_true F.out, rfl⟩
  · have f7 := f3 hm
    clear f3 f6
    have F : Hid _ := f5
    clear f5
    go_enter Trym.func5, Trym.ntmps5
    go_wp2_with (go_at_call 16; refine (zzrl_any _ _ _ w0 w1 w2 _).mono ?_; rintro e w' ⟨rfl, rfl⟩)
    go_ret
    exact ⟨ret_true F.out, rfl⟩

set_option maxHeartbeats 400000 in
theorem down (a b c : Int) (w0 : (Lit.int .i64 a).wf = true) (w1 : (Lit.int .i64 b).wf = true) (w2 : (Lit.int .i64 c).wf = true) (w : World) (h1 : c < 0) (h2 : b < a) :
    Calls Trym.prog 5 #[.int .i64 a, .int .i64 b, .int .i64 c] w fun e w' => e = .returned (.bool true) ∧ w' = w := by
  have b0 := bounds_i64 w0
  have b1 := bounds_i64 w1
  have b2 := bounds_i64 w2
  obtain ⟨f1, f2, f3, f4, f5, f6⟩ := core (D := IntKind.u64.wrap (IntKind.u64.wrap a - IntKind.u64.wrap b)) (S := IntKind.u64.wrap (-IntKind.u64.wrap c)) (n := rl a b c)
    (by rw [u64_sub (by omega) (by omega)]; omega) (by rw [u64_sub (by omega) (by omega)]; omega) (by rw [u64_minus (by omega) (by omega)]; omega) (by rw [u64_minus (by omega) (by omega)]; omega)
    (by rw [u64_sub (by omega) (by omega), u64_minus (by omega) (by omega), rl_down h1 h2])
  clear b0 b1 b2
  have h3 : ¬ 0 < c := by omega
  have h4 : (c == 0) = false := by simp; omega
  by_cases hm : IntKind.u64.wrap (rl a b c - 1) = 0
  · have F : Hid _ := f6 hm
    clear f6 f3 f5 f4
    go_enter Trym.func5, Trym.ntmps5
    go_wp2_with (go_at_call 16; refine (zzrl_any _ _ _ w0 w1 w2 _).mono ?_; rintro e w' ⟨rfl, rfl⟩)
    go_ret
    exact ⟨ret_true F.out, rfl⟩
  · have f7 := f3 hm
    clear f3 f6
    have F : Hid _ := f5
    clear f5
    go_enter Trym.func5, Trym.ntmps5
    go_wp2_with (go_at_call 16; refine (zzrl_any _ _ _ w0 w1 w2 _).mono ?_; rintro e w' ⟨rfl, rfl⟩)
    go_ret
    exact ⟨ret_true F.out, rfl⟩

set_option maxHeartbeats 400000 in
theorem still (a b c : Int) (w0 : (Lit.int .i64 a).wf = true) (w1 : (Lit.int .i64 b).wf = true) (w2 : (Lit.int .i64 c).wf = true) (w : World) (h1 : ¬ (0 < c ∧ a < b)) (h2 : ¬ (c < 0 ∧ b < a)) :
    Calls Trym.prog 5 #[.int .i64 a, .int .i64 b, .int .i64 c] w fun e w' => e = .returned (.bool true) ∧ w' = w := by
  have F : Hid (rl a b c = 0) := rl_none h1 h2
  by_cases hc : (c == 0) = true
  · go_enter Trym.func5, Trym.ntmps5
    go_wp2_with (go_at_call 16; refine (zzrl_any _ _ _ w0 w1 w2 _).mono ?_; rintro e w' ⟨rfl, rfl⟩)
    go_ret
    exact ⟨ret_beq F.out, rfl⟩
  · have hc' : (c == 0) = false := by simpa using hc
    have hc2 : ¬ c = 0 := by simpa using hc
    clear hc
    by_cases h3 : 0 < c
    · have h4 : b ≤ a := by omega
      clear h1 h2 hc2
      go_enter Trym.func5, Trym.ntmps5
      go_wp2_with (go_at_call 16; refine (zzrl_any _ _ _ w0 w1 w2 _).mono ?_; rintro e w' ⟨rfl, rfl⟩)
      go_ret
      exact ⟨ret_beq F.out, rfl⟩
    · have h4 : a ≤ b := by omega
      clear h1 h2 hc2
      go_enter Trym.func5, Trym.ntmps5
      go_wp2_with (go_at_call 16; refine (zzrl_any _ _ _ w0 w1 w2 _).mono ?_; rintro e w' ⟨rfl, rfl⟩)
      go_ret
      exact ⟨ret_beq F.out, rfl⟩

/-! ### STEP 1: THE WALK: the Go text returns true. -/
theorem walk (a0 : Int) (a1 : Int) (a2 : Int) (w0 : (Lit.int .i64 a0).wf = true) (w1 : (Lit.int .i64 a1).wf = true) (w2 : (Lit.int .i64 a2).wf = true) (w : World) :
    Calls Trym.prog 5 #[.int .i64 a0, .int .i64 a1, .int .i64 a2] w fun e w' => e = .returned (.bool true) ∧ Grown w w' := by
  by_cases h1 : 0 < a2 ∧ a0 < a1
  · exact (up a0 a1 a2 w0 w1 w2 w h1.1 h1.2).mono fun e w' ⟨he, hw⟩ => ⟨he, by rw [hw]; exact Grown.refl _⟩
  · by_cases h2 : a2 < 0 ∧ a1 < a0
    · exact (down a0 a1 a2 w0 w1 w2 w h2.1 h2.2).mono fun e w' ⟨he, hw⟩ => ⟨he, by rw [hw]; exact Grown.refl _⟩
    · exact (still a0 a1 a2 w0 w1 w2 w h1 h2).mono fun e w' ⟨he, hw⟩ => ⟨he, by rw [hw]; exact Grown.refl _⟩

/-! ### THE ROW's STEP: WRITTEN OUT: LEAVE IT -/
set_option maxRecDepth 100000 in
theorem lifted (os : Os) (started : os.Started) (H : Type) (enc : TypeId × Value → H) :
    ReturnsInHanded {} Trym.checked os 5 .any (Rows.fnRangeLengthLastInsideNextOutsideSpec.pre6 enc Trym.prog Trym.f5 Rows.fnRangeLengthLastInsideNextOutsideRow.domain false) (Rows.fnRangeLengthLastInsideNextOutsideSpec.post enc Trym.prog Trym.f5 false true false false) := by
  refine returnsInHanded_of_change (C := Trym.checked) own started (by kernel_rfl) Trym.func5
    (ChangeSpec.witness6 (enc := enc) (C := Trym.checked) false ⟨#[], #[.int .i64 0, .int .i64 0, .int .i64 0], []⟩ 8 (by kernel_rfl) (by kernel_rfl) (by kernel_rfl) (by kernel_rfl)) ?_
  intro W base args ds gs before hval0 hW hcnd _
  have hval : ∀ (j : Nat) t v, Trym.f5.params[j]? = some t → args[j]? = some v → Value.okWide Trym.prog W .any base t v := hval0
  have hW' := hW
  obtain ⟨p, q, hA0, hV, rfl, hfz, hnd⟩ := hW
  have hA : DataW.TrodAll enc Trym.prog W 0 (fun _ => true) true Trym.f5.params.toList args.toList ds p := hA0
  rw [Trym.params5] at hA hval
  obtain ⟨v0, vs0, d0, ds0, p0, q0, hargs, rfl, rfl, h0, r0⟩ := trodAll_cons hA
  obtain ⟨v1, vs1, d1, ds1, p1, q1, rfl, rfl, rfl, h1, r1⟩ := trodAll_cons r0
  obtain ⟨v2, vs2, d2, ds2, p2, q2, rfl, rfl, rfl, h2, r2⟩ := trodAll_cons r1
  obtain ⟨rfl, rfl, rfl⟩ := trodAll_nil r2
  obtain rfl : args = #[v0, v1, v2] := by cases args; simp_all
  obtain ⟨rfl, rfl⟩ := trodVars_none hV
  obtain ⟨a0, rfl, rfl, rfl, w0⟩ := open_int Trym.underlying2 (hval 0 2 v0 rfl rfl) h0
  obtain ⟨a1, rfl, rfl, rfl, w1⟩ := open_int Trym.underlying2 (hval 1 2 v1 rfl rfl) h1
  obtain ⟨a2, rfl, rfl, rfl, w2⟩ := open_int Trym.underlying2 (hval 2 2 v2 rfl rfl) h2
  clear hA0 hval0
  simp only [List.append_nil] at hW'
  refine (walk a0 a1 a2 w0 w1 w2 W).mono fun e W' ⟨he, hg⟩ => ?_
  subst he
  exact ⟨_, rfl, post_of_same (pa := []) (pv := []) hW' (fun _ _ _ => (trodAll_cons_mk (shut_bool Trym.underlying4 _) trodAll_mk0)) (fun sp _ => (trodAll_cons_mk (shut_int Trym.underlying2 w0) (trodAll_cons_mk (shut_int Trym.underlying2 w1) (trodAll_cons_mk (shut_int Trym.underlying2 w2) trodAll_mk0)))) (fun _ _ => rfl) rfl
    (hg.frame _) hg.2.1 (ok_one (by kernel_rfl) rfl (okWide_bool_mk Trym.underlying4 _))⟩

/-- The row's closed facts (the three of the dump's head by Qxb6001709aModsHead). -/
theorem closed : joinedFacts Trym.pinned.checked.prog 5 Trym.f5 Rows.fnRangeLengthLastInsideNextOutsideSpec Rows.fnRangeLengthLastInsideNextOutsideRow = true := by
  show joinedFacts Trym.prog 5 Trym.f5 Rows.fnRangeLengthLastInsideNextOutsideSpec Rows.fnRangeLengthLastInsideNextOutsideRow = true
  unfold joinedFacts
  rw [head_enters, head_final, head_make]
  kernel_rfl

theorem over : Rows.fnRangeLengthLastInsideNextOutsideRow.holds Trym.pinned (OpenSpec.ofChange Rows.fnRangeLengthLastInsideNextOutsideSpec) :=
  OpenClaim.holds_of_wide 5 Trym.f5 rfl rfl rfl rfl rfl rfl rfl ⟨rfl, rfl, rfl, rfl, rfl⟩ rfl rfl rfl rfl rfl (by kernel_rfl) Trym.func5 closed
    (of_decide_eq_true (by kernel_rfl)) (by unfold Func.isWrapper; first | (rw [if_pos (by decide +kernel)]; kernel_rfl) | (rw [if_neg (by decide +kernel)]; exact ⟨rfl, rfl⟩))
    (fun os started H enc _ => lifted os started H enc)

/-- ████ THE STATEMENT ████ -/
theorem proved : Rows.FnRangeLengthLastInsideNextOutsideSaid :=
  over
end Go.Proofs.Qxb6001709aMods.fnRangeLengthLastInsideNextOutside

namespace Go.Proofs.Qxb6001709aMods
/-- The statement, under the name that the claim's paper bears. -/
theorem fnRangeLengthLastInsideNextOutside_proved : Rows.FnRangeLengthLastInsideNextOutsideSaid := fnRangeLengthLastInsideNextOutside.proved
end Go.Proofs.Qxb6001709aMods
