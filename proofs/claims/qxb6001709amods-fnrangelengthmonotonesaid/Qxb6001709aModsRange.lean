/-
  rangeLength: the plain function 'rl', and the walks of 'jinja.rangeLength' and 'jinja.ZZrangeLength' (both return it and touch nothing).
-/
import Derived.Test.Qxb6001709aModsRows
import Derived.WalkKit
import Derived.WalkSpells
import Derived.WalkLawsBesides
import Derived.OpenShut
namespace Go.Proofs.Qxb6001709aMods
open Go.RowKit

/-- How many ints 'range(a, b, c)' gives. -/
def rl (a b c : Int) : Int := if 0 < c ∧ a < b then (b - a - 1) / c + 1 else if c < 0 ∧ b < a then (a - b - 1) / (-c) + 1 else 0

theorem rl_up {a b c : Int} (h : 0 < c) (h' : a < b) : rl a b c = (b - a - 1) / c + 1 := by simp [rl, h, h']
theorem rl_down {a b c : Int} (h : c < 0) (h' : b < a) : rl a b c = (a - b - 1) / (-c) + 1 := by
  unfold rl; rw [if_neg (by omega), if_pos ⟨h, h'⟩]
theorem rl_none {a b c : Int} (h : ¬ (0 < c ∧ a < b)) (h' : ¬ (c < 0 ∧ b < a)) : rl a b c = 0 := by
  unfold rl; rw [if_neg h, if_neg h']

theorem u64_sub {x y : Int} (h0 : 0 ≤ x - y) (h1 : x - y ≤ 18446744073709551615) : IntKind.u64.wrap (IntKind.u64.wrap x - IntKind.u64.wrap y) = x - y := by
  rw [IntKind.wrap_u64, IntKind.wrap_u64, IntKind.wrap_u64]; omega
theorem u64_self {x : Int} (h0 : 0 ≤ x) (h1 : x ≤ 18446744073709551615) : IntKind.u64.wrap x = x := by
  rw [IntKind.wrap_u64]; omega
theorem u64_minus {x : Int} (h0 : x < 0) (h1 : -9223372036854775808 ≤ x) : IntKind.u64.wrap (-IntKind.u64.wrap x) = -x := by
  rw [IntKind.wrap_u64, IntKind.wrap_u64]; omega
theorem u64_minus' {x : Int} (h0 : x < 0) (h1 : -9223372036854775808 ≤ x) : IntKind.u64.wrap (0 - IntKind.u64.wrap x) = -x := by
  rw [IntKind.wrap_u64, IntKind.wrap_u64]; omega

/-- (d - 1) / s + 1 in 64 bits, d from 1 up. -/
theorem u64_len {d s : Int} (hd : 1 ≤ d) (hd' : d ≤ 18446744073709551615) (hs : 1 ≤ s) :
    IntKind.u64.wrap (IntKind.u64.wrap ((IntKind.u64.wrap (d - 1)).tdiv s) + 1) = (d - 1) / s + 1 := by
  have h0 : 0 ≤ (d - 1) / s := Int.ediv_nonneg (by omega) (by omega)
  have h1 : (d - 1) / s ≤ d - 1 := Int.ediv_le_self _ (by omega)
  rw [u64_self (x := d - 1) (by omega) (by omega), Int.tdiv_eq_ediv_of_nonneg (by omega), u64_self h0 (by omega), u64_self (by omega) (by omega)]

theorem ret_int {k : IntKind} {a b : Int} (h : a = b) : Ending.returned (.int k a) = .returned (.int k b) := by rw [h]

set_option maxHeartbeats 400000 in
theorem rl_any (a b c : Int) (w0 : (Lit.int .i64 a).wf = true) (w1 : (Lit.int .i64 b).wf = true) (w2 : (Lit.int .i64 c).wf = true) (w : World) :
    Calls Trym.prog 26 #[.int .i64 a, .int .i64 b, .int .i64 c] w fun e w' => e = .returned (.int .u64 (rl a b c)) ∧ w' = w := by
  have b0 := bounds_i64 w0
  have b1 := bounds_i64 w1
  have b2 := bounds_i64 w2
  by_cases h1 : 0 < c
  · by_cases h2 : a < b
    · have hd : ¬ IntKind.u64.wrap c = 0 := by rw [u64_self (by omega) (by omega)]; omega
      go_enter Trym.func26, Trym.ntmps26
      go_wp2
      go_ret
      refine ⟨ret_int ?_, rfl⟩
      rw [rl_up h1 h2, u64_sub (by omega) (by omega), u64_len (by omega) (by omega) (by omega)]
    · have h3 : ¬ c < 0 := by omega
      go_enter Trym.func26, Trym.ntmps26
      go_wp2
      go_ret
      refine ⟨ret_int ?_, rfl⟩
      rw [rl_none (by omega) (by omega)]
  · by_cases h3 : c < 0
    · by_cases h2 : b < a
      · have hd : ¬ IntKind.u64.wrap (-IntKind.u64.wrap c) = 0 := by rw [u64_minus (by omega) (by omega)]; omega
        go_enter Trym.func26, Trym.ntmps26
        go_wp2
        go_ret
        refine ⟨ret_int ?_, rfl⟩
        rw [rl_down h3 h2, u64_sub (by omega) (by omega), u64_minus (by omega) (by omega), u64_len (by omega) (by omega) (by omega)]
      · go_enter Trym.func26, Trym.ntmps26
        go_wp2
        go_ret
        refine ⟨ret_int ?_, rfl⟩
        rw [rl_none (by omega) (by omega)]
    · go_enter Trym.func26, Trym.ntmps26
      go_wp2
      go_ret
      refine ⟨ret_int ?_, rfl⟩
      rw [rl_none (by omega) (by omega)]

set_option maxHeartbeats 400000 in
theorem zzrl_any (a b c : Int) (w0 : (Lit.int .i64 a).wf = true) (w1 : (Lit.int .i64 b).wf = true) (w2 : (Lit.int .i64 c).wf = true) (w : World) :
    Calls Trym.prog 16 #[.int .i64 a, .int .i64 b, .int .i64 c] w fun e w' => e = .returned (.int .u64 (rl a b c)) ∧ w' = w := by
  go_enter Trym.func16, Trym.ntmps16
  go_wp2_with (go_at_call 26; refine (rl_any _ _ _ w0 w1 w2 _).mono ?_; rintro e w' ⟨rfl, rfl⟩)
  go_ret
  exact ⟨rfl, rfl⟩

end Go.Proofs.Qxb6001709aMods
