/-
  The walks of 'jinja.byteOffset', 'jinja.ZZbyteOffset' (both return 'bo', and lay one block a call: the range's own place), and of 'zzB1AllBelow128'.
-/
import Derived.Test.Qxb6001709aModsRows
import Derived.Test.Qxb6001709aModsPlain
import Derived.WalkKit
import Derived.WalkSpells
import Derived.WalkLawsBesides
namespace Go.Proofs.Qxb6001709aMods
open Go.RowKit Plain

theorem Since.next {w w1 w2 : World} (h1 : Below w.heap.size w w1) (h2 : Below w1.heap.size w1 w2) : Below w.heap.size w w2 := h1.trans (h2.mono h1.size)
theorem Since.iter (w : World) (s : ByteArray) (pos : Nat) : Below w.heap.size w (w.iter s pos) := (Below.refl _ _).alloc (Nat.le_refl _) _

set_option maxHeartbeats 400000 in
set_option maxRecDepth 1000000 in
theorem bo_any (s : ByteArray) (n : Nat) (w : World) (hn : (n : Int) ≤ 9223372036854775807) :
    Calls Trym.prog 27 #[.string s, .int .i64 n] w fun e w' => e = .returned (.int .i64 (bo s n)) ∧ Below w.heap.size w w' := by
  go_enter Trym.func27, Trym.ntmps27
  go_wp2
  go_loopw [1] (fun t w' => ∃ k : Nat, k ≤ n ∧ w' = w.iter s (bo s k) ∧ t = .int .i64 ((n : Int) - k)) (fun _ w' => s.size - w'.iterPos w.heap.size)
  case atStart => exact ⟨0, Nat.zero_le _, rfl, by go_num⟩
  case round =>
    obtain ⟨k, hk, rfl, rfl⟩ := hrel
    by_cases hp : bo s k < s.size
    · have hnx : ∀ ty, (Instr.next (.pointer (some ⟨w.heap.size, 0, none⟩)) true ty).run Trym.prog (w.iter s (bo s k)) = _ := fun ty => run_next_any w s (bo s k) ty hp
      by_cases he : k = n
      · have hz : ((n : Int) - (k : Int) == 0) = true := by simp; omega
        have E : Hid (k = n) := he
        clear he
        go_wp2
        go_ret
        exact ⟨by rw [← E.out]; rfl, Since.iter _ _ _⟩
      · have hz : ((n : Int) - (k : Int) == 0) = false := by simp; omega
        have hlt : k < n := by omega
        clear he
        go_wp2
        go_roundw
        case rel => exact ⟨k + 1, by omega, by rw [bo_succ s k hp]; rfl, by go_num⟩
        case measure =>
          have := (wd_bounds s (bo s k) hp).1
          unfold wd at this
          simp
          omega
    · have hnx : ∀ ty, (Instr.next (.pointer (some ⟨w.heap.size, 0, none⟩)) true ty).run Trym.prog (w.iter s (bo s k)) = _ := fun ty => run_next_end w s (bo s k) ty hp
      go_wp2
      go_ret
      exact ⟨by rw [bo_stay s n k hk hp]; rfl, Since.iter _ _ _⟩

set_option maxHeartbeats 400000 in
theorem zzbo_any (s : ByteArray) (n : Int) (w : World) (h0 : 0 ≤ n) (hn : n ≤ 9223372036854775807) :
    Calls Trym.prog 19 #[.string s, .int .i64 n] w fun e w' => e = .returned (.int .i64 (bo s n.toNat)) ∧ Below w.heap.size w w' := by
  obtain ⟨k, rfl⟩ := Int.eq_ofNat_of_zero_le h0
  rw [Int.toNat_natCast]
  go_enter Trym.func19, Trym.ntmps19
  go_wp2_with (go_at_call 27; refine (bo_any s k _ hn).mono ?_; rintro e w' ⟨rfl, hb⟩)
  go_ret
  exact ⟨rfl, hb⟩

/-- The same at a named place and a named answer. -/
theorem zzbo_at (s : ByteArray) (x : Int) (n A : Nat) (w : World) (hx : x = n) (hn : x ≤ 9223372036854775807) (E : Hid (bo s n = A)) :
    Calls Trym.prog 19 #[.string s, .int .i64 x] w fun e w' => e = .returned (.int .i64 A) ∧ Below w.heap.size w w' := by
  subst hx
  have := zzbo_any s (n : Int) w (by omega) hn
  rw [Int.toNat_natCast, E.out] at this
  exact this

set_option maxHeartbeats 400000 in
theorem below128_any (s : ByteArray) (w : World) (hs : s.size ≤ maxLen) :
    Calls Trym.prog 18 #[.string s] w fun e w' => e = .returned (.bool (allB asc s s.size)) ∧ w' = w := by
  unfold maxLen at hs
  go_enter Trym.func18, Trym.ntmps18
  go_wp2
  go_loop [3] (fun i => ∃ k : Nat, k ≤ s.size ∧ i = .int .i64 k ∧ allB asc s k = true) (fun i => s.size - (intOf i).toNat)
  case atStart => exact ⟨0, Nat.zero_le _, rfl, rfl⟩
  case round =>
    obtain ⟨k, hk, rfl, hall⟩ := hrel
    have H : Hid _ := hall
    clear hall
    by_cases hlt : k < s.size
    · by_cases hb : 128 ≤ (s[k].toNat : Int)
      · go_wp2
        go_ret
        exact ⟨by rw [allB_false asc s s.size k hlt (by rw [byteAt_eq s k hlt]; simp [asc]; omega)]; rfl, rfl⟩
      · go_wp2
        go_round
        case rel => exact ⟨k + 1, by omega, by go_num, by rw [allB, H.out, byteAt_eq s k hlt]; simp [asc]; omega⟩
        case measure => simp [intOf]; omega
    · go_wp2
      go_ret
      have e : k = s.size := by omega
      exact ⟨by rw [← e, H.out]; rfl, rfl⟩
end Go.Proofs.Qxb6001709aMods
