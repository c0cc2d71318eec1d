/-
  PROOF OF 'Rows.FnByteOffsetSplitsAtCharacterSaid'. The frame (the row's step) is the guide's shell for this function; the walk and what it leans on are ours.
-/
import Derived.Test.Qxb6001709aModsRows
import Derived.Test.Qxb6001709aModsHead
import Derived.Test.Qxb6001709aModsPlain
import Derived.Test.Qxb6001709aModsPlainTwo
import Derived.Test.Qxb6001709aModsBytes
import Derived.Test.Qxb6001709aModsOffset
import Derived.WalkKit
import Derived.Deep.RegionWith
import Derived.ProofKit
import Derived.OpenShut
import Derived.ShutString
namespace Go.Proofs.Qxb6001709aMods.fnByteOffsetSplitsAtCharacter
open Go.ChangeShapes Go.WideShapes Go.ChangeAt Go.RowKit
open Go.ChangeMaps (open_string shut_string)
set_option linter.unusedVariables false      -- a walk need not use every 'w<i>' (that an integer argument fits its kind)

theorem own : ownKnob Trym.prog.godebug = none := by kernel_rfl

open Plain

theorem ret_beq {x y : Int} (h : x = y) : Ending.returned (.bool (x == y)) = .returned (.bool true) := by rw [h]; simp

set_option maxHeartbeats 400000 in
theorem long (s : ByteArray) (n m : Int) (w : World) (h : 1048576 < s.size) :
    Calls Trym.prog 9 #[.string s, .int .i64 n, .int .i64 m] w fun e w' => e = .returned (.bool true) ∧ Below w.heap.size w w' := by
  go_enter Trym.func9, Trym.ntmps9
  go_wp2_with (go_at_call 20; refine (bytes20_no _ _ _ _ h).mono ?_; rintro e w' ⟨rfl, rfl⟩)
  go_ret
  exact ⟨rfl, Below.refl _ _⟩

set_option maxHeartbeats 400000 in
theorem out (s : ByteArray) (n m : Int) (w : World) (h : s.size ≤ 1048576) (hn : n < 0 ∨ m < 0 ∨ 536870912 < n ∨ 536870912 < m) :
    Calls Trym.prog 9 #[.string s, .int .i64 n, .int .i64 m] w fun e w' => e = .returned (.bool true) ∧ Below w.heap.size w w' := by
  by_cases h1 : n < 0
  · clear hn
    go_enter Trym.func9, Trym.ntmps9
    go_wp2_with (go_at_call 20; refine (bytes20_yes _ _ _ _ h).mono ?_; rintro e w' ⟨rfl, rfl⟩)
    go_ret
    exact ⟨rfl, Below.refl _ _⟩
  · by_cases h2 : m < 0
    · clear hn
      go_enter Trym.func9, Trym.ntmps9
      go_wp2_with (go_at_call 20; refine (bytes20_yes _ _ _ _ h).mono ?_; rintro e w' ⟨rfl, rfl⟩)
      go_ret
      exact ⟨rfl, Below.refl _ _⟩
    · by_cases h3 : 536870912 < n
      · clear hn
        go_enter Trym.func9, Trym.ntmps9
        go_wp2_with (go_at_call 20; refine (bytes20_yes _ _ _ _ h).mono ?_; rintro e w' ⟨rfl, rfl⟩)
        go_ret
        exact ⟨rfl, Below.refl _ _⟩
      · have h4 : 536870912 < m := by omega
        clear hn
        go_enter Trym.func9, Trym.ntmps9
        go_wp2_with (go_at_call 20; refine (bytes20_yes _ _ _ _ h).mono ?_; rintro e w' ⟨rfl, rfl⟩)
        go_ret
        exact ⟨rfl, Below.refl _ _⟩

set_option maxHeartbeats 1000000 in
theorem atEnd (s : ByteArray) (n m K T U : Nat) (w : World) (h : s.size ≤ 1048576) (hn : n ≤ 536870912) (hm : m ≤ 536870912) (hK : K ≤ s.size)
    (EK : Hid (bo s n = K)) (E1 : Hid (bo (s.extract 0 K) n = K)) (E3 : Hid (bo s (n + m) = T)) (E4 : Hid (bo (s.extract K s.size) m = U)) (FW : Hid ((T : Int) = IntKind.i64.wrap ((K : Int) + (U : Int))))
    (hw : Hid (IntKind.i64.wrap ((n : Int) + (m : Int)) = ((n + m : Nat) : Int))) (h1 : ¬ K < s.size) :
    Calls Trym.prog 9 #[.string s, .int .i64 n, .int .i64 m] w fun e w' => e = .returned (.bool true) ∧ Below w.heap.size w w' := by
  go_enter Trym.func9, Trym.ntmps9
  go_wp2_with (go_at_call 20; refine (bytes20_yes _ _ _ _ h).mono ?_; rintro e w' ⟨rfl, rfl⟩)
  refine (zzbo_at s _ n K _ (by omega) (by omega) EK).mono ?_
  rintro e w1 ⟨rfl, b1⟩
  go_wp2_with fail
  refine (zzbo_at (s.extract 0 K) _ n K _ (by omega) (by omega) E1).mono ?_
  rintro e w2 ⟨rfl, b2⟩
  go_wp2_with fail
  go_region_with (first | (go_at_call_of 19 (Value.string s); refine (zzbo_at s _ (n + m) T _ ?_ ?_ E3).mono ?_; exact hw.out; rw [hw.out]; omega; rintro e w3 ⟨rfl, b3⟩) | (go_at_call_of 19 (Value.string (s.extract K s.size)); refine (zzbo_at (s.extract K s.size) _ m U _ ?_ ?_ E4).mono ?_; rfl; omega; rintro e w4 ⟨rfl, b4⟩))
  go_wp2
  go_ret
  exact ⟨ret_beq FW.out, Since.next (Since.next (Since.next b1 b2).drew b3) b4⟩

set_option maxHeartbeats 1000000 in
theorem atHead (s : ByteArray) (n m K T U : Nat) (w : World) (h : s.size ≤ 1048576) (hn : n ≤ 536870912) (hm : m ≤ 536870912) (hK : K ≤ s.size)
    (EK : Hid (bo s n = K)) (E1 : Hid (bo (s.extract 0 K) n = K)) (E3 : Hid (bo s (n + m) = T)) (E4 : Hid (bo (s.extract K s.size) m = U)) (FW : Hid ((T : Int) = IntKind.i64.wrap ((K : Int) + (U : Int))))
    (hw : Hid (IntKind.i64.wrap ((n : Int) + (m : Int)) = ((n + m : Nat) : Int))) (h1 : K < s.size) (h2 : ¬ 0 < n) :
    Calls Trym.prog 9 #[.string s, .int .i64 n, .int .i64 m] w fun e w' => e = .returned (.bool true) ∧ Below w.heap.size w w' := by
  go_enter Trym.func9, Trym.ntmps9
  go_wp2_with (go_at_call 20; refine (bytes20_yes _ _ _ _ h).mono ?_; rintro e w' ⟨rfl, rfl⟩)
  refine (zzbo_at s _ n K _ (by omega) (by omega) EK).mono ?_
  rintro e w1 ⟨rfl, b1⟩
  go_wp2_with fail
  refine (zzbo_at (s.extract 0 K) _ n K _ (by omega) (by omega) E1).mono ?_
  rintro e w2 ⟨rfl, b2⟩
  go_wp2_with fail
  go_region_with (first | (go_at_call_of 19 (Value.string s); refine (zzbo_at s _ (n + m) T _ ?_ ?_ E3).mono ?_; exact hw.out; rw [hw.out]; omega; rintro e w3 ⟨rfl, b3⟩) | (go_at_call_of 19 (Value.string (s.extract K s.size)); refine (zzbo_at (s.extract K s.size) _ m U _ ?_ ?_ E4).mono ?_; rfl; omega; rintro e w4 ⟨rfl, b4⟩))
  go_wp2
  go_ret
  exact ⟨ret_beq FW.out, Since.next (Since.next (Since.next b1 b2).drew b3) b4⟩

set_option maxHeartbeats 1000000 in
theorem amid (s : ByteArray) (n m K T U : Nat) (w : World) (h : s.size ≤ 1048576) (hn : n ≤ 536870912) (hm : m ≤ 536870912) (hK : K ≤ s.size)
    (EK : Hid (bo s n = K)) (E1 : Hid (bo (s.extract 0 K) n = K)) (E3 : Hid (bo s (n + m) = T)) (E4 : Hid (bo (s.extract K s.size) m = U)) (FW : Hid ((T : Int) = IntKind.i64.wrap ((K : Int) + (U : Int))))
    (hw : Hid (IntKind.i64.wrap ((n : Int) + (m : Int)) = ((n + m : Nat) : Int))) (h1 : K < s.size) (h2 : 0 < n) (A : Nat) (EA : Hid (bo (s.extract 0 K) (n - 1) = A)) (hA : A < K) :
    Calls Trym.prog 9 #[.string s, .int .i64 n, .int .i64 m] w fun e w' => e = .returned (.bool true) ∧ Below w.heap.size w w' := by
  go_enter Trym.func9, Trym.ntmps9
  go_wp2_with (go_at_call 20; refine (bytes20_yes _ _ _ _ h).mono ?_; rintro e w' ⟨rfl, rfl⟩)
  refine (zzbo_at s _ n K _ (by omega) (by omega) EK).mono ?_
  rintro e w1 ⟨rfl, b1⟩
  go_wp2_with fail
  refine (zzbo_at (s.extract 0 K) _ n K _ (by omega) (by omega) E1).mono ?_
  rintro e w2 ⟨rfl, b2⟩
  go_wp2_with fail
  refine (zzbo_at (s.extract 0 K) _ (n - 1) A _ (by omega) (by omega) EA).mono ?_
  rintro e w5 ⟨rfl, b5⟩
  go_wp2_with fail
  go_region_with (first | (go_at_call_of 19 (Value.string s); refine (zzbo_at s _ (n + m) T _ ?_ ?_ E3).mono ?_; exact hw.out; rw [hw.out]; omega; rintro e w3 ⟨rfl, b3⟩) | (go_at_call_of 19 (Value.string (s.extract K s.size)); refine (zzbo_at (s.extract K s.size) _ m U _ ?_ ?_ E4).mono ?_; rfl; omega; rintro e w4 ⟨rfl, b4⟩))
  go_wp2
  go_ret
  exact ⟨ret_beq FW.out, Since.next (Since.next (Since.next (Since.next b1 b2) b5).drew b3) b4⟩

/-! ### STEP 1: THE WALK: the Go text returns true. -/
theorem walk (a0 : ByteArray) (a1 : Int) (a2 : Int) (w0 : a0.size ≤ maxLen) (w1 : (Lit.int .i64 a1).wf = true) (w2 : (Lit.int .i64 a2).wf = true) (w : World) :
    Calls Trym.prog 9 #[.string a0, .int .i64 a1, .int .i64 a2] w fun e w' => e = .returned (.bool true) ∧ Below w.heap.size w w' := by
  by_cases h : a0.size ≤ 1048576
  · by_cases hn : a1 < 0 ∨ a2 < 0 ∨ 536870912 < a1 ∨ 536870912 < a2
    · exact out a0 a1 a2 w h hn
    · obtain ⟨n, rfl⟩ := Int.eq_ofNat_of_zero_le (show 0 ≤ a1 by omega)
      obtain ⟨m, rfl⟩ := Int.eq_ofNat_of_zero_le (show 0 ≤ a2 by omega)
      have hK := bo_le a0 n
      have hT := bo_le a0 (n + m)
      have hr := bo_rest a0 n m
      have FW : ((bo a0 (n + m) : Nat) : Int) = IntKind.i64.wrap ((bo a0 n : Int) + (bo (a0.extract (bo a0 n) a0.size) m : Int)) := by
        rw [IntWalk.i64_in _ (by omega)]; omega
      have hw : IntKind.i64.wrap ((n : Int) + (m : Int)) = ((n + m : Nat) : Int) := by
        rw [IntWalk.i64_in _ (by omega)]; omega
      by_cases h1 : bo a0 n < a0.size
      · by_cases h2 : 0 < n
        · obtain ⟨j, rfl⟩ : ∃ j, n = j + 1 := ⟨n - 1, by omega⟩
          have e := bo_head a0 (j + 1) j (by omega)
          have hs := bo_step a0 j
          have hd := bo_adv a0 j (by omega)
          exact amid a0 (j + 1) m _ _ _ w h (by omega) (by omega) hK rfl (bo_head a0 (j + 1) (j + 1) (Nat.le_refl _)) rfl rfl FW hw h1 h2 (bo a0 j) e hd.1
        · exact atHead a0 n m _ _ _ w h (by omega) (by omega) hK rfl (bo_head a0 n n (Nat.le_refl _)) rfl rfl FW hw h1 h2
      · exact atEnd a0 n m _ _ _ w h (by omega) (by omega) hK rfl (bo_head a0 n n (Nat.le_refl _)) rfl rfl FW hw h1
  · exact long a0 a1 a2 w (by omega)

/-! ### THE ROW's STEP: WRITTEN OUT: LEAVE IT -/
set_option maxRecDepth 100000 in
theorem lifted (os : Os) (started : os.Started) (H : Type) (enc : TypeId × Value → H) :
    ReturnsInHanded {} Trym.checked os 9 .any (Rows.fnByteOffsetSplitsAtCharacterSpec.pre6 enc Trym.prog Trym.f9 Rows.fnByteOffsetSplitsAtCharacterRow.domain false) (Rows.fnByteOffsetSplitsAtCharacterSpec.post enc Trym.prog Trym.f9 false true false false) := by
  refine returnsInHanded_of_change (C := Trym.checked) own started (by kernel_rfl) Trym.func9
    (ChangeSpec.witness6 (enc := enc) (C := Trym.checked) false ⟨#[], #[.string ByteArray.empty, .int .i64 0, .int .i64 0], []⟩ 8 (by kernel_rfl) (by kernel_rfl) (by kernel_rfl) (by kernel_rfl)) ?_
  intro W base args ds gs before hval0 hW hcnd _
  have hval : ∀ (j : Nat) t v, Trym.f9.params[j]? = some t → args[j]? = some v → Value.okWide Trym.prog W .any base t v := hval0
  have hW' := hW
  obtain ⟨p, q, hA0, hV, rfl, hfz, hnd⟩ := hW
  have hA : DataW.TrodAll enc Trym.prog W 0 (fun _ => true) true Trym.f9.params.toList args.toList ds p := hA0
  rw [Trym.params9] at hA hval
  obtain ⟨v0, vs0, d0, ds0, p0, q0, hargs, rfl, rfl, h0, r0⟩ := trodAll_cons hA
  obtain ⟨v1, vs1, d1, ds1, p1, q1, rfl, rfl, rfl, h1, r1⟩ := trodAll_cons r0
  obtain ⟨v2, vs2, d2, ds2, p2, q2, rfl, rfl, rfl, h2, r2⟩ := trodAll_cons r1
  obtain ⟨rfl, rfl, rfl⟩ := trodAll_nil r2
  obtain rfl : args = #[v0, v1, v2] := by cases args; simp_all
  obtain ⟨rfl, rfl⟩ := trodVars_none hV
  obtain ⟨a0, rfl, rfl, rfl, w0⟩ := open_string Trym.underlying9 (hval 0 9 v0 rfl rfl) h0
  obtain ⟨a1, rfl, rfl, rfl, w1⟩ := open_int Trym.underlying3 (hval 1 3 v1 rfl rfl) h1
  obtain ⟨a2, rfl, rfl, rfl, w2⟩ := open_int Trym.underlying3 (hval 2 3 v2 rfl rfl) h2
  clear hA0 hval0
  simp only [List.append_nil] at hW'
  refine (walk a0 a1 a2 w0 w1 w2 W).mono fun e W' ⟨he, hg⟩ => ?_
  subst he
  exact ⟨_, rfl, _, _, _, [], [], [], hW', (trodAll_cons_mk (shut_bool Trym.underlying4 _) trodAll_mk0), (trodAll_cons_mk (shut_string Trym.underlying9 w0) (trodAll_cons_mk (shut_int Trym.underlying3 w1) (trodAll_cons_mk (shut_int Trym.underlying3 w2) trodAll_mk0))), rfl, hg.frame _, fun h => by cases h⟩

/-- The row's closed facts (the three of the dump's head by Qxb6001709aModsHead). -/
theorem closed : joinedFacts Trym.pinned.checked.prog 9 Trym.f9 Rows.fnByteOffsetSplitsAtCharacterSpec Rows.fnByteOffsetSplitsAtCharacterRow = true := by
  show joinedFacts Trym.prog 9 Trym.f9 Rows.fnByteOffsetSplitsAtCharacterSpec Rows.fnByteOffsetSplitsAtCharacterRow = true
  unfold joinedFacts
  rw [head_enters, head_final, head_make]
  kernel_rfl

theorem over : Rows.fnByteOffsetSplitsAtCharacterRow.holds Trym.pinned (OpenSpec.ofChange Rows.fnByteOffsetSplitsAtCharacterSpec) :=
  OpenClaim.holds_of_wide 9 Trym.f9 rfl rfl rfl rfl rfl rfl rfl ⟨rfl, rfl, rfl, rfl, rfl⟩ rfl rfl rfl rfl rfl (by kernel_rfl) Trym.func9 closed
    (of_decide_eq_true (by kernel_rfl)) (by unfold Func.isWrapper; first | (rw [if_pos (by decide +kernel)]; kernel_rfl) | (rw [if_neg (by decide +kernel)]; exact ⟨rfl, rfl⟩))
    (fun os started H enc _ => lifted os started H enc)

/-- ████ THE STATEMENT ████ -/
theorem proved : Rows.FnByteOffsetSplitsAtCharacterSaid :=
  over
end Go.Proofs.Qxb6001709aMods.fnByteOffsetSplitsAtCharacter

namespace Go.Proofs.Qxb6001709aMods
/-- The statement, under the name that the claim's paper bears. -/
theorem fnByteOffsetSplitsAtCharacter_proved : Rows.FnByteOffsetSplitsAtCharacterSaid := fnByteOffsetSplitsAtCharacter.proved
end Go.Proofs.Qxb6001709aMods
