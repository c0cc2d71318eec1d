/-
  PROOF OF 'Rows.FnPlainASCIIIsOneLineOfByteCharactersSaid'. The frame (the row's step) is the guide's shell for this function; the walk and what it leans on are ours.
-/
import Derived.Test.Qxb6001709aModsRows
import Derived.Test.Qxb6001709aModsHead
import Derived.Test.Qxb6001709aModsPlain
import Derived.Test.Qxb6001709aModsBytes
import Derived.Test.Qxb6001709aModsOffset
import Derived.Test.Qxb6001709aModsAscii
import Derived.Test.Qxb6001709aModsLines
import Derived.WalkKit
import Derived.ProofKit
import Derived.OpenShut
import Derived.ShutString
namespace Go.Proofs.Qxb6001709aMods.fnPlainASCIIIsOneLineOfByteCharacters
open Go.ChangeShapes Go.WideShapes Go.ChangeAt Go.RowKit
open Go.ChangeMaps (open_string shut_string)
set_option linter.unusedVariables false      -- a walk need not use every 'w<i>' (that an integer argument fits its kind)

theorem own : ownKnob Trym.prog.godebug = none := by kernel_rfl

open Plain

theorem ret_beq {x y : Int} (h : x = y) : Ending.returned (.bool (x == y)) = .returned (.bool true) := by rw [h]; simp
theorem below128_yes (s : ByteArray) (w : World) (hs : s.size ≤ maxLen) (E : Hid (allB asc s s.size = true)) :
    Calls Trym.prog 18 #[.string s] w fun e w' => e = .returned (.bool true) ∧ w' = w := by
  have := below128_any s w hs
  rw [E.out] at this
  exact this

/-- Where a text holds no newline its line starts are one cell, 0. -/
theorem one_line {s : ByteArray} {B : Nat} {w wr : World} {v : Value} (h : HasLines s B w wr v s.size) (h0 : nl s s.size = 0) :
    ∃ g cap, v = .slice (some ⟨g, 0, none⟩) 1 cap ∧ 1 ≤ cap ∧ wr.cell? ⟨g, 0, none⟩ = some (.int .i64 0) := by
  obtain ⟨⟨_, h2⟩, _⟩ := h
  rw [h0] at h2
  rcases h2 with ⟨_, h3⟩ | ⟨g, cap, cur, rfl, _, hg, hle, _, _, htake⟩
  · omega
  · refine ⟨g, cap, rfl, hle, ?_⟩
    rw [cell_of_row wr g 0 cur 3 (0, 0) hg]
    have hu : ((ls s s.size).map (Value.int .i64))[0]? = some (.int .i64 0) := by rw [List.getElem?_map, ls_head]; rfl
    rw [← htake, List.getElem?_take] at hu
    split at hu
    · simpa using hu
    · cases hu

theorem nl_zero (s : ByteArray) (k : Nat) (h : ∀ j, j < k → ¬ byteAt s j = 10) : nl s k = 0 := by
  have := ls_length s k
  rw [ls_one s k h] at this
  simpa using this.symm

set_option maxHeartbeats 400000 in
theorem long (s : ByteArray) (n : Int) (w : World) (h : 1048576 < s.size) :
    Calls Trym.prog 12 #[.string s, .int .i64 n] w fun e w' => e = .returned (.bool true) ∧ Below w.heap.size w w' := by
  go_enter Trym.func12, Trym.ntmps12
  go_wp2_with (go_at_call 24; refine (bytes24_no _ _ _ h).mono ?_; rintro e w' ⟨rfl, rfl⟩)
  go_ret
  exact ⟨rfl, Below.refl _ _⟩

set_option maxHeartbeats 400000 in
theorem out (s : ByteArray) (n : Int) (w : World) (h : s.size ≤ 1048576) (hn : n < 0 ∨ 1073741824 < n) :
    Calls Trym.prog 12 #[.string s, .int .i64 n] w fun e w' => e = .returned (.bool true) ∧ Below w.heap.size w w' := by
  by_cases h1 : n < 0
  · clear hn
    go_enter Trym.func12, Trym.ntmps12
    go_wp2_with (go_at_call 24; refine (bytes24_yes _ _ _ h).mono ?_; rintro e w' ⟨rfl, rfl⟩)
    go_ret
    exact ⟨rfl, Below.refl _ _⟩
  · have h2 : 1073741824 < n := by omega
    clear hn
    go_enter Trym.func12, Trym.ntmps12
    go_wp2_with (go_at_call 24; refine (bytes24_yes _ _ _ h).mono ?_; rintro e w' ⟨rfl, rfl⟩)
    go_ret
    exact ⟨rfl, Below.refl _ _⟩

set_option maxHeartbeats 400000 in
theorem notPlain (s : ByteArray) (k : Nat) (w : World) (hs : s.size ≤ maxLen) (h : s.size ≤ 1048576) (hk : k ≤ 1073741824) (E : Hid (allB pln s s.size = false)) :
    Calls Trym.prog 12 #[.string s, .int .i64 k] w fun e w' => e = .returned (.bool true) ∧ Below w.heap.size w w' := by
  go_enter Trym.func12, Trym.ntmps12
  go_wp2_with (first | (go_at_call 24; refine (bytes24_yes _ _ _ h).mono ?_; rintro e w' ⟨rfl, rfl⟩) | (go_at_call 23; refine (zzpa_as _ false _ hs E).mono ?_; rintro e w' ⟨rfl, rfl⟩))
  go_ret
  exact ⟨rfl, Below.refl _ _⟩

set_option maxHeartbeats 800000 in
theorem inside (s : ByteArray) (k A : Nat) (w : World) (hs : s.size ≤ maxLen) (h : s.size ≤ 1048576) (hk : k ≤ 1073741824) (E : Hid (allB pln s s.size = true)) (E2 : Hid (allB asc s s.size = true))
    (E3 : Hid (nl s s.size = 0)) (EA : Hid (bo s k = A)) (F : Hid (A = min k s.size)) :
    Calls Trym.prog 12 #[.string s, .int .i64 k] w fun e w' => e = .returned (.bool true) ∧ Below w.heap.size w w' := by
  by_cases hl : s.size < k
  all_goals
    go_enter Trym.func12, Trym.ntmps12
    go_wp2_with (first | (go_at_call 24; refine (bytes24_yes _ _ _ h).mono ?_; rintro e w' ⟨rfl, rfl⟩) | (go_at_call 23; refine (zzpa_as _ true _ hs E).mono ?_; rintro e w' ⟨rfl, rfl⟩) | (go_at_call 18; refine (below128_yes _ _ hs E2).mono ?_; rintro e w' ⟨rfl, rfl⟩))
    refine (zzlines_any s _ h).mono ?_
    rintro e w1 ⟨v, rfl, hL⟩
    obtain ⟨g, cap, rfl, hcap, hcell⟩ := one_line hL E3.out
    have b0 : Hid _ := hL.2
    clear hL
    go_wp2_with fail
    refine (zzbo_at s _ k A _ (by omega) (by omega) EA).mono ?_
    rintro e w2 ⟨rfl, b1⟩
    go_wp2_with fail
    go_ret
    exact ⟨ret_beq (by have := F.out; omega), Since.next b0.out b1⟩

/-! ### STEP 1: THE WALK: the Go text returns true. -/
theorem walk (a0 : ByteArray) (a1 : Int) (w0 : a0.size ≤ maxLen) (w1 : (Lit.int .i64 a1).wf = true) (w : World) :
    Calls Trym.prog 12 #[.string a0, .int .i64 a1] w fun e w' => e = .returned (.bool true) ∧ Below w.heap.size w w' := by
  by_cases h : a0.size ≤ 1048576
  · by_cases hn : a1 < 0 ∨ 1073741824 < a1
    · exact out a0 a1 w h hn
    · obtain ⟨k, rfl⟩ := Int.eq_ofNat_of_zero_le (show 0 ≤ a1 by omega)
      cases E : allB pln a0 a0.size with
      | false => exact notPlain a0 k w w0 h (by omega) E
      | true =>
        have hp := (allB_iff pln a0 a0.size).1 E
        have ha : ∀ j, j < a0.size → asc (byteAt a0 j) = true := fun j hj => (pln_asc _ (hp j hj)).1
        refine inside a0 k _ w w0 h (by omega) E ((allB_iff asc a0 a0.size).2 ha) (nl_zero a0 a0.size (fun j hj => (pln_asc _ (hp j hj)).2)) rfl (bo_ascii a0 (fun j hj => ?_) k)
        simpa [asc] using ha j hj
  · exact long a0 a1 w (by omega)

/-! ### THE ROW's STEP: WRITTEN OUT: LEAVE IT -/
set_option maxRecDepth 100000 in
theorem lifted (os : Os) (started : os.Started) (H : Type) (enc : TypeId × Value → H) :
    ReturnsInHanded {} Trym.checked os 12 .any (Rows.fnPlainASCIIIsOneLineOfByteCharactersSpec.pre6 enc Trym.prog Trym.f12 Rows.fnPlainASCIIIsOneLineOfByteCharactersRow.domain false) (Rows.fnPlainASCIIIsOneLineOfByteCharactersSpec.post enc Trym.prog Trym.f12 false true false false) := by
  refine returnsInHanded_of_change (C := Trym.checked) own started (by kernel_rfl) Trym.func12
    (ChangeSpec.witness6 (enc := enc) (C := Trym.checked) false ⟨#[], #[.string ByteArray.empty, .int .i64 0], []⟩ 8 (by kernel_rfl) (by kernel_rfl) (by kernel_rfl) (by kernel_rfl)) ?_
  intro W base args ds gs before hval0 hW hcnd _
  have hval : ∀ (j : Nat) t v, Trym.f12.params[j]? = some t → args[j]? = some v → Value.okWide Trym.prog W .any base t v := hval0
  have hW' := hW
  obtain ⟨p, q, hA0, hV, rfl, hfz, hnd⟩ := hW
  have hA : DataW.TrodAll enc Trym.prog W 0 (fun _ => true) true Trym.f12.params.toList args.toList ds p := hA0
  rw [Trym.params12] at hA hval
  obtain ⟨v0, vs0, d0, ds0, p0, q0, hargs, rfl, rfl, h0, r0⟩ := trodAll_cons hA
  obtain ⟨v1, vs1, d1, ds1, p1, q1, rfl, rfl, rfl, h1, r1⟩ := trodAll_cons r0
  obtain ⟨rfl, rfl, rfl⟩ := trodAll_nil r1
  obtain rfl : args = #[v0, v1] := by cases args; simp_all
  obtain ⟨rfl, rfl⟩ := trodVars_none hV
  obtain ⟨a0, rfl, rfl, rfl, w0⟩ := open_string Trym.underlying9 (hval 0 9 v0 rfl rfl) h0
  obtain ⟨a1, rfl, rfl, rfl, w1⟩ := open_int Trym.underlying3 (hval 1 3 v1 rfl rfl) h1
  clear hA0 hval0
  simp only [List.append_nil] at hW'
  refine (walk a0 a1 w0 w1 W).mono fun e W' ⟨he, hg⟩ => ?_
  subst he
  exact ⟨_, rfl, _, _, _, [], [], [], hW', (trodAll_cons_mk (shut_bool Trym.underlying4 _) trodAll_mk0), (trodAll_cons_mk (shut_string Trym.underlying9 w0) (trodAll_cons_mk (shut_int Trym.underlying3 w1) trodAll_mk0)), rfl, hg.frame _, fun h => by cases h⟩

/-- The row's closed facts (the three of the dump's head by Qxb6001709aModsHead). -/
theorem closed : joinedFacts Trym.pinned.checked.prog 12 Trym.f12 Rows.fnPlainASCIIIsOneLineOfByteCharactersSpec Rows.fnPlainASCIIIsOneLineOfByteCharactersRow = true := by
  show joinedFacts Trym.prog 12 Trym.f12 Rows.fnPlainASCIIIsOneLineOfByteCharactersSpec Rows.fnPlainASCIIIsOneLineOfByteCharactersRow = true
  unfold joinedFacts
  rw [head_enters, head_final, head_make]
  kernel_rfl

theorem over : Rows.fnPlainASCIIIsOneLineOfByteCharactersRow.holds Trym.pinned (OpenSpec.ofChange Rows.fnPlainASCIIIsOneLineOfByteCharactersSpec) :=
  OpenClaim.holds_of_wide 12 Trym.f12 rfl rfl rfl rfl rfl rfl rfl ⟨rfl, rfl, rfl, rfl, rfl⟩ rfl rfl rfl rfl rfl (by kernel_rfl) Trym.func12 closed
    (of_decide_eq_true (by kernel_rfl)) (by unfold Func.isWrapper; first | (rw [if_pos (by decide +kernel)]; kernel_rfl) | (rw [if_neg (by decide +kernel)]; exact ⟨rfl, rfl⟩))
    (fun os started H enc _ => lifted os started H enc)

/-- ████ THE STATEMENT ████ -/
theorem proved : Rows.FnPlainASCIIIsOneLineOfByteCharactersSaid :=
  over
end Go.Proofs.Qxb6001709aMods.fnPlainASCIIIsOneLineOfByteCharacters

namespace Go.Proofs.Qxb6001709aMods
/-- The statement, under the name that the claim's paper bears. -/
theorem fnPlainASCIIIsOneLineOfByteCharacters_proved : Rows.FnPlainASCIIIsOneLineOfByteCharactersSaid := fnPlainASCIIIsOneLineOfByteCharacters.proved
end Go.Proofs.Qxb6001709aMods
