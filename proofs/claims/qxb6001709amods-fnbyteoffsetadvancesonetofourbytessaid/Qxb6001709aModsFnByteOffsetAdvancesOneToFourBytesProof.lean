/-
  PROOF OF 'Rows.FnByteOffsetAdvancesOneToFourBytesSaid'. The frame (the row's step) is the guide's shell for this function; the walk and what it leans on are ours.
-/
import Derived.Test.Qxb6001709aModsRows
import Derived.Test.Qxb6001709aModsHead
import Derived.Test.Qxb6001709aModsPlain
import Derived.Test.Qxb6001709aModsBytes
import Derived.Test.Qxb6001709aModsOffset
import Derived.WalkKit
import Derived.ProofKit
import Derived.OpenShut
import Derived.ShutString
namespace Go.Proofs.Qxb6001709aMods.fnByteOffsetAdvancesOneToFourBytes
open Go.ChangeShapes Go.WideShapes Go.ChangeAt Go.RowKit
open Go.ChangeMaps (open_string shut_string)
set_option linter.unusedVariables false      -- a walk need not use every 'w<i>' (that an integer argument fits its kind)

theorem own : ownKnob Trym.prog.godebug = none := by kernel_rfl

open Plain

theorem ret_beq {x y : Int} (h : x = y) : Ending.returned (.bool (x == y)) = .returned (.bool true) := by rw [h]; simp

set_option maxHeartbeats 400000 in
theorem long (s : ByteArray) (n : Int) (w : World) (h : 1048576 < s.size) :
    Calls Trym.prog 10 #[.string s, .int .i64 n] w fun e w' => e = .returned (.bool true) ∧ Below w.heap.size w w' := by
  go_enter Trym.func10, Trym.ntmps10
  go_wp2_with (go_at_call 21; refine (bytes21_no _ _ _ h).mono ?_; rintro e w' ⟨rfl, rfl⟩)
  go_ret
  exact ⟨rfl, Below.refl _ _⟩

set_option maxHeartbeats 400000 in
theorem out (s : ByteArray) (n : Int) (w : World) (h : s.size ≤ 1048576) (hn : n < 0 ∨ 1073741824 < n) :
    Calls Trym.prog 10 #[.string s, .int .i64 n] w fun e w' => e = .returned (.bool true) ∧ Below w.heap.size w w' := by
  by_cases h1 : n < 0
  · clear hn
    go_enter Trym.func10, Trym.ntmps10
    go_wp2_with (go_at_call 21; refine (bytes21_yes _ _ _ h).mono ?_; rintro e w' ⟨rfl, rfl⟩)
    go_ret
    exact ⟨rfl, Below.refl _ _⟩
  · have h2 : 1073741824 < n := by omega
    clear hn
    go_enter Trym.func10, Trym.ntmps10
    go_wp2_with (go_at_call 21; refine (bytes21_yes _ _ _ h).mono ?_; rintro e w' ⟨rfl, rfl⟩)
    go_ret
    exact ⟨rfl, Below.refl _ _⟩

set_option maxHeartbeats 800000 in
theorem inside (s : ByteArray) (k A B : Nat) (w : World) (h : s.size ≤ 1048576) (hk : k ≤ 1073741824) (EA : Hid (bo s k = A)) (EB : Hid (bo s (k + 1) = B))
    (fz : ((k : Int) == 0) = true → ((A : Int) != 0) = false) (hA : A ≤ s.size) (hB : B ≤ s.size)
    (hend : A = s.size → B = s.size) (hup : A < s.size → A < B ∧ B ≤ A + 4) :
    Calls Trym.prog 10 #[.string s, .int .i64 k] w fun e w' => e = .returned (.bool true) ∧ Below w.heap.size w w' := by
  by_cases hz : ((k : Int) == 0) = true
  · have fz' := fz hz
    clear fz
    by_cases hl : A < s.size
    · have hne : ((A : Int) == (s.size : Int)) = false := by simp; omega
      obtain ⟨u1, u2⟩ := hup hl
      clear hend hup
      go_enter Trym.func10, Trym.ntmps10
      go_wp2_with (go_at_call 21; refine (bytes21_yes _ _ _ h).mono ?_; rintro e w' ⟨rfl, rfl⟩)
      refine (zzbo_at s _ k A _ (by omega) (by omega) EA).mono ?_
      rintro e w1 ⟨rfl, b1⟩
      go_wp2_with fail
      refine (zzbo_at s _ (k + 1) B _ (by omega) (by omega) EB).mono ?_
      rintro e w2 ⟨rfl, b2⟩
      go_wp2_with fail
      go_ret
      exact ⟨rfl, Since.next b1 b2⟩
    · have hle : s.size ≤ A := by omega
      have heq : ((A : Int) == (s.size : Int)) = true := by simp; omega
      have F : Hid ((B : Int) = (s.size : Int)) := by have := hend (by omega); exact congrArg _ this
      clear hend hup hle
      go_enter Trym.func10, Trym.ntmps10
      go_wp2_with (go_at_call 21; refine (bytes21_yes _ _ _ h).mono ?_; rintro e w' ⟨rfl, rfl⟩)
      refine (zzbo_at s _ k A _ (by omega) (by omega) EA).mono ?_
      rintro e w1 ⟨rfl, b1⟩
      go_wp2_with fail
      refine (zzbo_at s _ (k + 1) B _ (by omega) (by omega) EB).mono ?_
      rintro e w2 ⟨rfl, b2⟩
      go_wp2_with fail
      go_ret
      exact ⟨ret_beq F.out, Since.next b1 b2⟩
  · have hz' : ((k : Int) == 0) = false := by simpa using hz
    clear fz hz
    by_cases hl : A < s.size
    · have hne : ((A : Int) == (s.size : Int)) = false := by simp; omega
      obtain ⟨u1, u2⟩ := hup hl
      clear hend hup
      go_enter Trym.func10, Trym.ntmps10
      go_wp2_with (go_at_call 21; refine (bytes21_yes _ _ _ h).mono ?_; rintro e w' ⟨rfl, rfl⟩)
      refine (zzbo_at s _ k A _ (by omega) (by omega) EA).mono ?_
      rintro e w1 ⟨rfl, b1⟩
      go_wp2_with fail
      refine (zzbo_at s _ (k + 1) B _ (by omega) (by omega) EB).mono ?_
      rintro e w2 ⟨rfl, b2⟩
      go_wp2_with fail
      go_ret
      exact ⟨rfl, Since.next b1 b2⟩
    · have hle : s.size ≤ A := by omega
      have heq : ((A : Int) == (s.size : Int)) = true := by simp; omega
      have F : Hid ((B : Int) = (s.size : Int)) := by have := hend (by omega); exact congrArg _ this
      clear hend hup hle
      go_enter Trym.func10, Trym.ntmps10
      go_wp2_with (go_at_call 21; refine (bytes21_yes _ _ _ h).mono ?_; rintro e w' ⟨rfl, rfl⟩)
      refine (zzbo_at s _ k A _ (by omega) (by omega) EA).mono ?_
      rintro e w1 ⟨rfl, b1⟩
      go_wp2_with fail
      refine (zzbo_at s _ (k + 1) B _ (by omega) (by omega) EB).mono ?_
      rintro e w2 ⟨rfl, b2⟩
      go_wp2_with fail
      go_ret
      exact ⟨ret_beq F.out, Since.next b1 b2⟩

/-! ### STEP 1: THE WALK: the Go text returns true. -/
theorem walk (a0 : ByteArray) (a1 : Int) (w0 : a0.size ≤ maxLen) (w1 : (Lit.int .i64 a1).wf = true) (w : World) :
    Calls Trym.prog 10 #[.string a0, .int .i64 a1] w fun e w' => e = .returned (.bool true) ∧ Below w.heap.size w w' := by
  by_cases h : a0.size ≤ 1048576
  · by_cases hn : a1 < 0 ∨ 1073741824 < a1
    · exact out a0 a1 w h hn
    · obtain ⟨k, rfl⟩ := Int.eq_ofNat_of_zero_le (show 0 ≤ a1 by omega)
      refine inside a0 k _ _ w h (by omega) rfl rfl ?_ (bo_le _ _) (bo_le _ _) ?_ ?_
      · intro hz
        have : k = 0 := by simpa using hz
        subst this
        rfl
      · intro he
        exact bo_stay a0 (k + 1) k (by omega) (by omega)
      · intro hl
        have := bo_adv a0 k hl
        omega
  · exact long a0 a1 w (by omega)

/-! ### THE ROW's STEP: WRITTEN OUT: LEAVE IT -/
set_option maxRecDepth 100000 in
theorem lifted (os : Os) (started : os.Started) (H : Type) (enc : TypeId × Value → H) :
    ReturnsInHanded {} Trym.checked os 10 .any (Rows.fnByteOffsetAdvancesOneToFourBytesSpec.pre6 enc Trym.prog Trym.f10 Rows.fnByteOffsetAdvancesOneToFourBytesRow.domain false) (Rows.fnByteOffsetAdvancesOneToFourBytesSpec.post enc Trym.prog Trym.f10 false true false false) := by
  refine returnsInHanded_of_change (C := Trym.checked) own started (by kernel_rfl) Trym.func10
    (ChangeSpec.witness6 (enc := enc) (C := Trym.checked) false ⟨#[], #[.string ByteArray.empty, .int .i64 0], []⟩ 8 (by kernel_rfl) (by kernel_rfl) (by kernel_rfl) (by kernel_rfl)) ?_
  intro W base args ds gs before hval0 hW hcnd _
  have hval : ∀ (j : Nat) t v, Trym.f10.params[j]? = some t → args[j]? = some v → Value.okWide Trym.prog W .any base t v := hval0
  have hW' := hW
  obtain ⟨p, q, hA0, hV, rfl, hfz, hnd⟩ := hW
  have hA : DataW.TrodAll enc Trym.prog W 0 (fun _ => true) true Trym.f10.params.toList args.toList ds p := hA0
  rw [Trym.params10] at hA hval
  obtain ⟨v0, vs0, d0, ds0, p0, q0, hargs, rfl, rfl, h0, r0⟩ := trodAll_cons hA
  obtain ⟨v1, vs1, d1, ds1, p1, q1, rfl, rfl, rfl, h1, r1⟩ := trodAll_cons r0
  obtain ⟨rfl, rfl, rfl⟩ := trodAll_nil r1
  obtain rfl : args = #[v0, v1] := by cases args; simp_all
  obtain ⟨rfl, rfl⟩ := trodVars_none hV
  obtain ⟨a0, rfl, rfl, rfl, w0⟩ := open_string Trym.underlying9 (hval 0 9 v0 rfl rfl) h0
  obtain ⟨a1, rfl, rfl, rfl, w1⟩ := open_int Trym.underlying3 (hval 1 3 v1 rfl rfl) h1
  clear hA0 hval0
  simp only [List.append_nil] at hW'
  refine (walk a0 a1 w0 w1 W).mono fun e W' ⟨he, hg⟩ => ?_
  subst he
  exact ⟨_, rfl, _, _, _, [], [], [], hW', (trodAll_cons_mk (shut_bool Trym.underlying4 _) trodAll_mk0), (trodAll_cons_mk (shut_string Trym.underlying9 w0) (trodAll_cons_mk (shut_int Trym.underlying3 w1) trodAll_mk0)), rfl, hg.frame _, fun h => by cases h⟩

/-- The row's closed facts (the three of the dump's head by Qxb6001709aModsHead). -/
theorem closed : joinedFacts Trym.pinned.checked.prog 10 Trym.f10 Rows.fnByteOffsetAdvancesOneToFourBytesSpec Rows.fnByteOffsetAdvancesOneToFourBytesRow = true := by
  show joinedFacts Trym.prog 10 Trym.f10 Rows.fnByteOffsetAdvancesOneToFourBytesSpec Rows.fnByteOffsetAdvancesOneToFourBytesRow = true
  unfold joinedFacts
  rw [head_enters, head_final, head_make]
  kernel_rfl

theorem over : Rows.fnByteOffsetAdvancesOneToFourBytesRow.holds Trym.pinned (OpenSpec.ofChange Rows.fnByteOffsetAdvancesOneToFourBytesSpec) :=
  OpenClaim.holds_of_wide 10 Trym.f10 rfl rfl rfl rfl rfl rfl rfl ⟨rfl, rfl, rfl, rfl, rfl⟩ rfl rfl rfl rfl rfl (by kernel_rfl) Trym.func10 closed
    (of_decide_eq_true (by kernel_rfl)) (by unfold Func.isWrapper; first | (rw [if_pos (by decide +kernel)]; kernel_rfl) | (rw [if_neg (by decide +kernel)]; exact ⟨rfl, rfl⟩))
    (fun os started H enc _ => lifted os started H enc)

/-- ████ THE STATEMENT ████ -/
theorem proved : Rows.FnByteOffsetAdvancesOneToFourBytesSaid :=
  over
end Go.Proofs.Qxb6001709aMods.fnByteOffsetAdvancesOneToFourBytes

namespace Go.Proofs.Qxb6001709aMods
/-- The statement, under the name that the claim's paper bears. -/
theorem fnByteOffsetAdvancesOneToFourBytes_proved : Rows.FnByteOffsetAdvancesOneToFourBytesSaid := fnByteOffsetAdvancesOneToFourBytes.proved
end Go.Proofs.Qxb6001709aMods
