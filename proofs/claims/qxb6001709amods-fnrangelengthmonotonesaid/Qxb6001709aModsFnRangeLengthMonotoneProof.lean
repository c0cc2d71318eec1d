/-
  PROOF OF 'Rows.FnRangeLengthMonotoneSaid'. The frame (the row's step) is the guide's shell for this function; the walk and what it leans on are ours.
-/
import Derived.Test.Qxb6001709aModsRows
import Derived.Test.Qxb6001709aModsHead
import Derived.Test.Qxb6001709aModsRange
import Derived.WalkKit
import Derived.ProofKit
import Derived.OpenShut
import Derived.ShutString
namespace Go.Proofs.Qxb6001709aMods.fnRangeLengthMonotone
open Go.ChangeShapes Go.WideShapes Go.ChangeAt Go.RowKit
open Go.ChangeMaps (open_string shut_string)
set_option linter.unusedVariables false      -- a walk need not use every 'w<i>' (that an integer argument fits its kind)

theorem own : ownKnob Trym.prog.godebug = none := by kernel_rfl

/-! ### THE PLAIN LAW: 'rl' grows with the stop and falls with the step -/
theorem ediv_anti {x b c : Int} (hx : 0 ≤ x) (hb : 0 < b) (hbc : b ≤ c) : x / c ≤ x / b := by
  have h0 : 0 ≤ x / c := Int.ediv_nonneg hx (by omega)
  refine Int.le_ediv_of_mul_le hb ?_
  have h1 : x / c * b ≤ x / c * c := Int.mul_le_mul_of_nonneg_left hbc h0
  have h2 := Int.ediv_mul_le x (b := c) (by omega)
  omega

theorem rl_nonneg {a b c : Int} (hc : 0 < c) : 0 ≤ rl a b c := by
  by_cases h : a < b
  · rw [rl_up hc h]
    have : 0 ≤ (b - a - 1) / c := Int.ediv_nonneg (by omega) (by omega)
    omega
  · rw [rl_none (by omega) (by omega)]; omega

theorem rl_mono {a b b' c c' : Int} (hc : 0 < c) (hcc : c ≤ c') (hb : b ≤ b') : rl a b c' ≤ rl a b' c := by
  by_cases h : a < b
  · rw [rl_up (by omega) h, rl_up hc (by omega)]
    have h1 : (b - a - 1) / c' ≤ (b - a - 1) / c := ediv_anti (by omega) hc hcc
    have h2 : (b - a - 1) / c ≤ (b' - a - 1) / c := Int.ediv_le_ediv hc (by omega)
    omega
  · rw [rl_none (c := c') (by omega) (by omega)]
    exact rl_nonneg hc

theorem ret_beq {x y : Int} (h : x = y) : Ending.returned (.bool (x == y)) = .returned (.bool true) := by rw [h]; simp

set_option maxHeartbeats 400000 in
theorem out (a0 a1 a2 a3 a4 : Int) (w : World) (h : a3 ≤ 0 ∨ a4 < a3 ∨ a2 < a1) :
    Calls Trym.prog 7 #[.int .i64 a0, .int .i64 a1, .int .i64 a2, .int .i64 a3, .int .i64 a4] w fun e w' => e = .returned (.bool true) ∧ w' = w := by
  by_cases h1 : a3 ≤ 0
  · clear h
    go_enter Trym.func7, Trym.ntmps7
    go_wp2
    go_ret
    exact ⟨rfl, rfl⟩
  · by_cases h2 : a4 < a3
    · clear h
      go_enter Trym.func7, Trym.ntmps7
      go_wp2
      go_ret
      exact ⟨rfl, rfl⟩
    · have h3 : a2 < a1 := by omega
      clear h
      go_enter Trym.func7, Trym.ntmps7
      go_wp2
      go_ret
      exact ⟨rfl, rfl⟩

set_option maxHeartbeats 800000 in
theorem inside (a0 a1 a2 a3 a4 : Int) (w0 : (Lit.int .i64 a0).wf = true) (w1 : (Lit.int .i64 a1).wf = true) (w2 : (Lit.int .i64 a2).wf = true) (w3 : (Lit.int .i64 a3).wf = true) (w4 : (Lit.int .i64 a4).wf = true) (w : World)
    (h1 : 0 < a3) (h2 : a3 ≤ a4) (h3 : a1 ≤ a2) :
    Calls Trym.prog 7 #[.int .i64 a0, .int .i64 a1, .int .i64 a2, .int .i64 a3, .int .i64 a4] w fun e w' => e = .returned (.bool true) ∧ w' = w := by
  have b0 := bounds_i64 w0
  have b2 := bounds_i64 w2
  have w5 : (Lit.int .i64 1).wf = true := by decide
  have f1 : rl a0 a1 a4 ≤ rl a0 a2 a3 := rl_mono h1 h2 h3
  have f2 : rl a0 a2 a3 ≤ rl a0 a2 1 := rl_mono (by omega) (by omega) (Int.le_refl _)
  have g1 : ¬ a3 ≤ 0 := by omega
  have g2 : ¬ a4 < a3 := by omega
  have g3 : ¬ a2 < a1 := by omega
  by_cases h4 : a0 < a2
  · have F : Hid (rl a0 a2 1 = IntKind.u64.wrap (IntKind.u64.wrap a2 - IntKind.u64.wrap a0)) := by
      show _ = _
      rw [rl_up (by omega) h4, u64_sub (by omega) (by omega), Int.ediv_one]
      omega
    clear b0 b2
    go_enter Trym.func7, Trym.ntmps7
    go_wp2_with (go_at_call 16; refine (zzrl_any _ _ _ (by assumption) (by assumption) (by assumption) _).mono ?_; rintro e w' ⟨rfl, rfl⟩)
    go_ret
    exact ⟨ret_beq F.out, rfl⟩
  · have F : Hid (rl a0 a2 1 = 0) := rl_none (by omega) (by omega)
    clear b0 b2
    go_enter Trym.func7, Trym.ntmps7
    go_wp2_with (go_at_call 16; refine (zzrl_any _ _ _ (by assumption) (by assumption) (by assumption) _).mono ?_; rintro e w' ⟨rfl, rfl⟩)
    go_ret
    exact ⟨ret_beq F.out, rfl⟩

/-! ### STEP 1: THE WALK: the Go text returns true. -/
theorem walk (a0 : Int) (a1 : Int) (a2 : Int) (a3 : Int) (a4 : Int) (w0 : (Lit.int .i64 a0).wf = true) (w1 : (Lit.int .i64 a1).wf = true) (w2 : (Lit.int .i64 a2).wf = true) (w3 : (Lit.int .i64 a3).wf = true) (w4 : (Lit.int .i64 a4).wf = true) (w : World) :
    Calls Trym.prog 7 #[.int .i64 a0, .int .i64 a1, .int .i64 a2, .int .i64 a3, .int .i64 a4] w fun e w' => e = .returned (.bool true) ∧ Grown w w' := by
  by_cases h : a3 ≤ 0 ∨ a4 < a3 ∨ a2 < a1
  · exact (out a0 a1 a2 a3 a4 w h).mono fun e w' ⟨he, hw⟩ => ⟨he, by rw [hw]; exact Grown.refl _⟩
  · exact (inside a0 a1 a2 a3 a4 w0 w1 w2 w3 w4 w (by omega) (by omega) (by omega)).mono fun e w' ⟨he, hw⟩ => ⟨he, by rw [hw]; exact Grown.refl _⟩

/-! ### THE ROW's STEP: WRITTEN OUT: LEAVE IT -/
set_option maxRecDepth 100000 in
theorem lifted (os : Os) (started : os.Started) (H : Type) (enc : TypeId × Value → H) :
    ReturnsInHanded {} Trym.checked os 7 .any (Rows.fnRangeLengthMonotoneSpec.pre6 enc Trym.prog Trym.f7 Rows.fnRangeLengthMonotoneRow.domain false) (Rows.fnRangeLengthMonotoneSpec.post enc Trym.prog Trym.f7 false true false false) := by
  refine returnsInHanded_of_change (C := Trym.checked) own started (by kernel_rfl) Trym.func7
    (ChangeSpec.witness6 (enc := enc) (C := Trym.checked) false ⟨#[], #[.int .i64 0, .int .i64 0, .int .i64 0, .int .i64 0, .int .i64 0], []⟩ 8 (by kernel_rfl) (by kernel_rfl) (by kernel_rfl) (by kernel_rfl)) ?_
  intro W base args ds gs before hval0 hW hcnd _
  have hval : ∀ (j : Nat) t v, Trym.f7.params[j]? = some t → args[j]? = some v → Value.okWide Trym.prog W .any base t v := hval0
  have hW' := hW
  obtain ⟨p, q, hA0, hV, rfl, hfz, hnd⟩ := hW
  have hA : DataW.TrodAll enc Trym.prog W 0 (fun _ => true) true Trym.f7.params.toList args.toList ds p := hA0
  rw [Trym.params7] at hA hval
  obtain ⟨v0, vs0, d0, ds0, p0, q0, hargs, rfl, rfl, h0, r0⟩ := trodAll_cons hA
  obtain ⟨v1, vs1, d1, ds1, p1, q1, rfl, rfl, rfl, h1, r1⟩ := trodAll_cons r0
  obtain ⟨v2, vs2, d2, ds2, p2, q2, rfl, rfl, rfl, h2, r2⟩ := trodAll_cons r1
  obtain ⟨v3, vs3, d3, ds3, p3, q3, rfl, rfl, rfl, h3, r3⟩ := trodAll_cons r2
  obtain ⟨v4, vs4, d4, ds4, p4, q4, rfl, rfl, rfl, h4, r4⟩ := trodAll_cons r3
  obtain ⟨rfl, rfl, rfl⟩ := trodAll_nil r4
  obtain rfl : args = #[v0, v1, v2, v3, v4] := by cases args; simp_all
  obtain ⟨rfl, rfl⟩ := trodVars_none hV
  obtain ⟨a0, rfl, rfl, rfl, w0⟩ := open_int Trym.underlying2 (hval 0 2 v0 rfl rfl) h0
  obtain ⟨a1, rfl, rfl, rfl, w1⟩ := open_int Trym.underlying2 (hval 1 2 v1 rfl rfl) h1
  obtain ⟨a2, rfl, rfl, rfl, w2⟩ := open_int Trym.underlying2 (hval 2 2 v2 rfl rfl) h2
  obtain ⟨a3, rfl, rfl, rfl, w3⟩ := open_int Trym.underlying2 (hval 3 2 v3 rfl rfl) h3
  obtain ⟨a4, rfl, rfl, rfl, w4⟩ := open_int Trym.underlying2 (hval 4 2 v4 rfl rfl) h4
  clear hA0 hval0
  simp only [List.append_nil] at hW'
  refine (walk a0 a1 a2 a3 a4 w0 w1 w2 w3 w4 W).mono fun e W' ⟨he, hg⟩ => ?_
  subst he
  exact ⟨_, rfl, post_of_same (pa := []) (pv := []) hW' (fun _ _ _ => (trodAll_cons_mk (shut_bool Trym.underlying4 _) trodAll_mk0)) (fun sp _ => (trodAll_cons_mk (shut_int Trym.underlying2 w0) (trodAll_cons_mk (shut_int Trym.underlying2 w1) (trodAll_cons_mk (shut_int Trym.underlying2 w2) (trodAll_cons_mk (shut_int Trym.underlying2 w3) (trodAll_cons_mk (shut_int Trym.underlying2 w4) trodAll_mk0)))))) (fun _ _ => rfl) rfl
    (hg.frame _) hg.2.1 (ok_one (by kernel_rfl) rfl (okWide_bool_mk Trym.underlying4 _))⟩

/-- The row's closed facts (the three of the dump's head by Qxb6001709aModsHead). -/
theorem closed : joinedFacts Trym.pinned.checked.prog 7 Trym.f7 Rows.fnRangeLengthMonotoneSpec Rows.fnRangeLengthMonotoneRow = true := by
  show joinedFacts Trym.prog 7 Trym.f7 Rows.fnRangeLengthMonotoneSpec Rows.fnRangeLengthMonotoneRow = true
  unfold joinedFacts
  rw [head_enters, head_final, head_make]
  kernel_rfl

theorem over : Rows.fnRangeLengthMonotoneRow.holds Trym.pinned (OpenSpec.ofChange Rows.fnRangeLengthMonotoneSpec) :=
  OpenClaim.holds_of_wide 7 Trym.f7 rfl rfl rfl rfl rfl rfl rfl ⟨rfl, rfl, rfl, rfl, rfl⟩ rfl rfl rfl rfl rfl (by kernel_rfl) Trym.func7 closed
    (of_decide_eq_true (by kernel_rfl)) (by unfold Func.isWrapper; first | (rw [if_pos (by decide +kernel)]; kernel_rfl) | (rw [if_neg (by decide +kernel)]; exact ⟨rfl, rfl⟩))
    (fun os started H enc _ => lifted os started H enc)

/-- ████ THE STATEMENT ████ -/
theorem proved : Rows.FnRangeLengthMonotoneSaid :=
  over
end Go.Proofs.Qxb6001709aMods.fnRangeLengthMonotone

namespace Go.Proofs.Qxb6001709aMods
/-- The statement, under the name that the claim's paper bears. -/
theorem fnRangeLengthMonotone_proved : Rows.FnRangeLengthMonotoneSaid := fnRangeLengthMonotone.proved
end Go.Proofs.Qxb6001709aMods
