/-
  PROOF OF 'Rows.FnLineStartsCharacterisedSaid'. The frame (the row's step) is the guide's shell for this function; the walk and what it leans on are ours.
-/
import Derived.Test.Qxb6001709aModsRows
import Derived.Test.Qxb6001709aModsHead
import Derived.Test.Qxb6001709aModsPlain
import Derived.Test.Qxb6001709aModsBytes
import Derived.Test.Qxb6001709aModsLines
import Derived.WalkKit
import Derived.ProofKit
import Derived.OpenShut
import Derived.ShutString
namespace Go.Proofs.Qxb6001709aMods.fnLineStartsCharacterised
open Go.ChangeShapes Go.WideShapes Go.ChangeAt Go.RowKit
open Go.ChangeMaps (open_string shut_string)
set_option linter.unusedVariables false      -- a walk need not use every 'w<i>' (that an integer argument fits its kind)

theorem own : ownKnob Trym.prog.godebug = none := by kernel_rfl

open Plain

/-- The slice of the line starts, laid open: its value, and each cell. -/
theorem lines_open {s : ByteArray} {B : Nat} {w wr : World} {v : Value} {k : Nat} (h : HasLines s B w wr v k) :
    ∃ g cap, v = .slice (some ⟨g, 0, none⟩) (nl s k + 1) cap ∧ nl s k + 1 ≤ cap ∧ ∀ j x, (ls s k)[j]? = some x → wr.cell? ⟨g, j, none⟩ = some (.int .i64 x) := by
  obtain ⟨⟨_, h2⟩, _⟩ := h
  rcases h2 with ⟨_, h0⟩ | ⟨g, cap, cur, rfl, _, hg, hle, _, _, htake⟩
  · omega
  · refine ⟨g, cap, rfl, hle, fun j x hx => ?_⟩
    rw [cell_of_row wr g j cur 3 (0, 0) hg]
    have hu : ((ls s k).map (Value.int .i64))[j]? = some (.int .i64 x) := by rw [List.getElem?_map, hx]; rfl
    rw [← htake, List.getElem?_take] at hu
    split at hu
    · simpa using hu
    · cases hu

theorem ls_get (s : ByteArray) (k j : Nat) (h : j < nl s k + 1) : ∃ x, (ls s k)[j]? = some x := by
  rw [← ls_length] at h
  exact ⟨_, List.getElem?_eq_getElem h⟩

set_option maxHeartbeats 400000 in
theorem long (s : ByteArray) (w : World) (h : 1048576 < s.size) :
    Calls Trym.prog 3 #[.string s] w fun e w' => e = .returned (.bool true) ∧ Below w.heap.size w w' := by
  go_enter Trym.func3, Trym.ntmps3
  go_wp2_with (go_at_call 13; refine (bytes13_no _ _ h).mono ?_; rintro e w' ⟨rfl, rfl⟩)
  go_ret
  exact ⟨rfl, Below.refl _ _⟩

set_option maxHeartbeats 1000000 in
theorem inside (s : ByteArray) (w : World) (h : s.size ≤ 1048576) :
    Calls Trym.prog 3 #[.string s] w fun e w' => e = .returned (.bool true) ∧ Below w.heap.size w w' := by
  go_enter Trym.func3, Trym.ntmps3
  go_wp2_with (go_at_call 13; refine (bytes13_yes _ _ h).mono ?_; rintro e w' ⟨rfl, rfl⟩)
  refine (zzlines_any s _ h).mono ?_
  rintro e w1 ⟨v, rfl, hl⟩
  obtain ⟨g, cap, rfl, hcap, hcell⟩ := lines_open hl
  have hbel : Hid _ := hl.2
  clear hl
  have HC : Hid _ := hcell
  clear hcell
  go_wp2_with fail
  go_loop [4, 5] (fun t i => ∃ k : Nat, k ≤ s.size ∧ i = .int .i64 k ∧ t = .int .i64 (nl s k)) (fun _ i => s.size - (intOf i).toNat)
  case atStart => exact ⟨0, Nat.zero_le _, rfl, rfl⟩
  case round =>
    obtain ⟨k, hk, rfl, rfl⟩ := hrel
    have hn := nl_le s k
    by_cases hlt : k < s.size
    · by_cases hb : ((s[k].toNat : Int) == 10) = true
      · have Eb : Hid (byteAt s k = 10) := by
          show byteAt s k = 10
          rw [byteAt_eq s k hlt]
          have := eq_of_beq hb
          omega
        go_wp2
        go_round
        case rel => exact ⟨k + 1, by omega, by go_num, by rw [nl_hit s k Eb.out]; go_num⟩
        case measure => simp [intOf]; omega
      · have hb' : ((s[k].toNat : Int) == 10) = false := by simpa using hb
        have Eb : Hid (¬ byteAt s k = 10) := by
          show ¬ byteAt s k = 10
          rw [byteAt_eq s k hlt]
          intro he
          apply hb
          rw [he]
          rfl
        clear hb
        go_wp2
        go_round
        case rel => exact ⟨k + 1, by omega, by go_num, by rw [nl_miss s k Eb.out]⟩
        case measure => simp [intOf]; omega
    · obtain rfl : k = s.size := by omega
      have c0 : w1.cell? ⟨g, 0, none⟩ = some (.int .i64 0) := HC.out 0 0 (ls_head s s.size)
      go_wp2
      go_loop [6] (fun j => ∃ i : Nat, i ≤ nl s s.size ∧ j = .int .i64 ((i : Int) + 1)) (fun j => nl s s.size + 1 - (intOf j).toNat)
      case atStart => exact ⟨0, Nat.zero_le _, rfl⟩
      case round =>
        obtain ⟨i, hi, rfl⟩ := hrel
        by_cases hlt : i < nl s s.size
        · obtain ⟨x, hx⟩ := ls_get s s.size i (by omega)
          obtain ⟨y, hy⟩ := ls_get s s.size (i + 1) (by omega)
          obtain ⟨r1, r2, r3, r4⟩ := ls_char s s.size i x y hx hy
          have rb := ls_bd s s.size i x hx
          have cx : w1.cell? ⟨g, i, none⟩ = some (.int .i64 x) := HC.out i x hx
          have cy : w1.cell? ⟨g, i + 1, none⟩ = some (.int .i64 y) := HC.out (i + 1) y hy
          clear hx hy
          obtain ⟨q, rfl⟩ : ∃ q : Nat, y = (q : Int) + 1 := ⟨(y - 1).toNat, by omega⟩
          have hq : q < s.size := by omega
          have hnl : ((s[q].toNat : Int) != 10) = false := by
            rw [show ((q : Int) + 1 - 1).toNat = q from by omega, byteAt_eq s q hq] at r4
            simp [r4]
          clear r4
          go_wp2
          go_round
          case rel => exact ⟨i + 1, by omega, by go_num⟩
          case measure => simp [intOf]; omega
        · go_wp2
          go_ret
          exact ⟨rfl, hbel.out⟩

/-! ### STEP 1: THE WALK: the Go text returns true. -/
theorem walk (a0 : ByteArray) (w0 : a0.size ≤ maxLen) (w : World) :
    Calls Trym.prog 3 #[.string a0] w fun e w' => e = .returned (.bool true) ∧ Below w.heap.size w w' := by
  by_cases h : a0.size ≤ 1048576
  · exact inside a0 w h
  · exact long a0 w (by omega)

/-! ### THE ROW's STEP: WRITTEN OUT: LEAVE IT -/
set_option maxRecDepth 100000 in
theorem lifted (os : Os) (started : os.Started) (H : Type) (enc : TypeId × Value → H) :
    ReturnsInHanded {} Trym.checked os 3 .any (Rows.fnLineStartsCharacterisedSpec.pre6 enc Trym.prog Trym.f3 Rows.fnLineStartsCharacterisedRow.domain false) (Rows.fnLineStartsCharacterisedSpec.post enc Trym.prog Trym.f3 false true false false) := by
  refine returnsInHanded_of_change (C := Trym.checked) own started (by kernel_rfl) Trym.func3
    (ChangeSpec.witness6 (enc := enc) (C := Trym.checked) false ⟨#[], #[.string ByteArray.empty], []⟩ 8 (by kernel_rfl) (by kernel_rfl) (by kernel_rfl) (by kernel_rfl)) ?_
  intro W base args ds gs before hval0 hW hcnd _
  have hval : ∀ (j : Nat) t v, Trym.f3.params[j]? = some t → args[j]? = some v → Value.okWide Trym.prog W .any base t v := hval0
  have hW' := hW
  obtain ⟨p, q, hA0, hV, rfl, hfz, hnd⟩ := hW
  have hA : DataW.TrodAll enc Trym.prog W 0 (fun _ => true) true Trym.f3.params.toList args.toList ds p := hA0
  rw [Trym.params3] at hA hval
  obtain ⟨v0, vs0, d0, ds0, p0, q0, hargs, rfl, rfl, h0, r0⟩ := trodAll_cons hA
  obtain ⟨rfl, rfl, rfl⟩ := trodAll_nil r0
  obtain rfl : args = #[v0] := by cases args; simp_all
  obtain ⟨rfl, rfl⟩ := trodVars_none hV
  obtain ⟨a0, rfl, rfl, rfl, w0⟩ := open_string Trym.underlying9 (hval 0 9 v0 rfl rfl) h0
  clear hA0 hval0
  simp only [List.append_nil] at hW'
  refine (walk a0 w0 W).mono fun e W' ⟨he, hg⟩ => ?_
  subst he
  exact ⟨_, rfl, _, _, _, [], [], [], hW', (trodAll_cons_mk (shut_bool Trym.underlying4 _) trodAll_mk0), (trodAll_cons_mk (shut_string Trym.underlying9 w0) trodAll_mk0), rfl, hg.frame _, fun h => by cases h⟩

/-- The row's closed facts (the three of the dump's head by Qxb6001709aModsHead). -/
theorem closed : joinedFacts Trym.pinned.checked.prog 3 Trym.f3 Rows.fnLineStartsCharacterisedSpec Rows.fnLineStartsCharacterisedRow = true := by
  show joinedFacts Trym.prog 3 Trym.f3 Rows.fnLineStartsCharacterisedSpec Rows.fnLineStartsCharacterisedRow = true
  unfold joinedFacts
  rw [head_enters, head_final, head_make]
  kernel_rfl

theorem over : Rows.fnLineStartsCharacterisedRow.holds Trym.pinned (OpenSpec.ofChange Rows.fnLineStartsCharacterisedSpec) :=
  OpenClaim.holds_of_wide 3 Trym.f3 rfl rfl rfl rfl rfl rfl rfl ⟨rfl, rfl, rfl, rfl, rfl⟩ rfl rfl rfl rfl rfl (by kernel_rfl) Trym.func3 closed
    (of_decide_eq_true (by kernel_rfl)) (by unfold Func.isWrapper; first | (rw [if_pos (by decide +kernel)]; kernel_rfl) | (rw [if_neg (by decide +kernel)]; exact ⟨rfl, rfl⟩))
    (fun os started H enc _ => lifted os started H enc)

/-- ████ THE STATEMENT ████ -/
theorem proved : Rows.FnLineStartsCharacterisedSaid :=
  over
end Go.Proofs.Qxb6001709aMods.fnLineStartsCharacterised

namespace Go.Proofs.Qxb6001709aMods
/-- The statement, under the name that the claim's paper bears. -/
theorem fnLineStartsCharacterised_proved : Rows.FnLineStartsCharacterisedSaid := fnLineStartsCharacterised.proved
end Go.Proofs.Qxb6001709aMods
