/-
  The walks of 'jinja.plainASCII' and 'jinja.ZZplainASCII': both tell whether every byte meets 'pln', and touch nothing.
-/
import Derived.Test.Qxb6001709aModsRows
import Derived.Test.Qxb6001709aModsPlain
import Derived.WalkKit
import Derived.WalkSpells
import Derived.WalkLawsBesides
namespace Go.Proofs.Qxb6001709aMods
open Go.RowKit Plain

set_option maxHeartbeats 800000 in
theorem pa_any (s : ByteArray) (w : World) (hs : s.size ≤ maxLen) :
    Calls Trym.prog 28 #[.string s] w fun e w' => e = .returned (.bool (allB pln s s.size)) ∧ w' = w := by
  unfold maxLen at hs
  go_enter Trym.func28, Trym.ntmps28
  go_wp2
  go_loop [3] (fun i => ∃ k : Nat, k ≤ s.size ∧ i = .int .i64 k ∧ allB pln s k = true) (fun i => s.size - (intOf i).toNat)
  case atStart => exact ⟨0, Nat.zero_le _, rfl, rfl⟩
  case round =>
    obtain ⟨k, hk, rfl, hall⟩ := hrel
    have H : Hid _ := hall
    clear hall
    by_cases hlt : k < s.size
    · by_cases h1 : (s[k].toNat : Int) < 32
      · go_wp2
        go_ret
        exact ⟨by rw [allB_false pln s s.size k hlt (by rw [byteAt_eq s k hlt]; simp [pln]; omega)]; rfl, rfl⟩
      · by_cases h2 : 126 < (s[k].toNat : Int)
        · go_wp2
          go_ret
          exact ⟨by rw [allB_false pln s s.size k hlt (by rw [byteAt_eq s k hlt]; simp [pln]; omega)]; rfl, rfl⟩
        · by_cases h3 : ((s[k].toNat : Int) == 92) = true
          · go_wp2
            go_ret
            have e : s[k].toNat = 92 := by have := eq_of_beq h3; omega
            exact ⟨by rw [allB_false pln s s.size k hlt (by rw [byteAt_eq s k hlt, e]; rfl)]; rfl, rfl⟩
          · have h4 : ((s[k].toNat : Int) == 92) = false := by simpa using h3
            have G : Hid (pln (byteAt s k) = true) := by
              have e : ¬ s[k].toNat = 92 := by intro he; apply h3; rw [he]; rfl
              show pln (byteAt s k) = true
              rw [byteAt_eq s k hlt]; simp [pln]; omega
            clear h3
            go_wp2
            go_round
            case rel => exact ⟨k + 1, by omega, by go_num, by rw [allB, H.out, G.out]; rfl⟩
            case measure => simp [intOf]; omega
    · go_wp2
      go_ret
      have e : k = s.size := by omega
      exact ⟨by rw [← e, H.out]; rfl, rfl⟩

set_option maxHeartbeats 400000 in
theorem zzpa_any (s : ByteArray) (w : World) (hs : s.size ≤ maxLen) :
    Calls Trym.prog 23 #[.string s] w fun e w' => e = .returned (.bool (allB pln s s.size)) ∧ w' = w := by
  go_enter Trym.func23, Trym.ntmps23
  go_wp2_with (go_at_call 28; refine (pa_any s _ hs).mono ?_; rintro e w' ⟨rfl, rfl⟩)
  go_ret
  exact ⟨rfl, rfl⟩

theorem zzpa_as (s : ByteArray) (b : Bool) (w : World) (hs : s.size ≤ maxLen) (E : Hid (allB pln s s.size = b)) :
    Calls Trym.prog 23 #[.string s] w fun e w' => e = .returned (.bool b) ∧ w' = w := by
  have := zzpa_any s w hs
  rw [E.out] at this
  exact this
end Go.Proofs.Qxb6001709aMods
