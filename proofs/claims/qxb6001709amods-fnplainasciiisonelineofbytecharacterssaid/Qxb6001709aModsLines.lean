/-
  The walks of 'jinja.lineStarts' and 'jinja.ZZlineStarts': the answer is a slice of the call's own that holds 'ls s s.size'; nothing that was there turns.
-/
import Derived.Test.Qxb6001709aModsRows
import Derived.Test.Qxb6001709aModsPlain
import Derived.WalkKit
import Derived.WalkSpells
import Derived.WalkLawsBesides
namespace Go.Proofs.Qxb6001709aMods
open Go.RowKit Plain

theorem Trym.info3 : (Trym.prog.info? 3).map (fun i => (i.zero, i.size, i.bytes)) = some (some (.int .i64 0), 1, 8) := by kernel_rfl

/-- The slice v holds the line starts met in the first k bytes, in blocks from B on; below B nothing has turned. -/
def HasLines (s : ByteArray) (B : Nat) (w wr : World) (v : Value) (k : Nat) : Prop :=
  wr.ownsRow B 3 1 v (nl s k + 1) ((ls s k).map (Value.int .i64)) ∧ Below B w wr

theorem hasLines_start (s : ByteArray) (w : World) : HasLines s w.heap.size w (w.alloc (.cells #[.int .i64 0] 3)) (.slice (some ⟨w.heap.size, 0, none⟩) 1 1) 0 :=
  ⟨⟨rfl, .inr ⟨w.heap.size, 1, #[.int .i64 0], rfl, Nat.le_refl _, heap_alloc_new w _, Nat.le_refl _, by unfold maxLen; omega, rfl, rfl⟩⟩, (Below.refl _ _).alloc (Nat.le_refl _) _⟩

theorem hasLines_miss {s : ByteArray} {B : Nat} {w wr : World} {v : Value} {k : Nat} (h : HasLines s B w wr v k) (hb : ¬ byteAt s k = 10) : HasLines s B w wr v (k + 1) := by
  unfold HasLines at h ⊢
  rw [nl_miss s k hb, ls_miss s k hb]
  exact h

theorem hasLines_hit {s : ByteArray} {B : Nat} {w wr w1 : World} {v v' : Value} {k : Nat} {o : Obj} (h : HasLines s B w wr v k) (hB : B ≤ wr.heap.size) (hb : byteAt s k = 10)
    (hown : w1.ownsRow B 3 1 v' (nl s k + 1 + 1) ((ls s k).map (Value.int .i64) ++ [.int .i64 ((k : Int) + 1)])) (hgrow : (wr.alloc o).grownBy w1 v.ownBlock) : HasLines s B w w1 v' (k + 1) := by
  unfold HasLines at h ⊢
  rw [nl_hit s k hb, ls_hit s k hb]
  refine ⟨by simpa using hown, (h.2.alloc hB o).grown hgrow (by simp; omega) (fun j hj => (h.1.lt j hj).1)⟩

set_option maxHeartbeats 800000 in
set_option maxRecDepth 1000000 in
theorem lines_any (s : ByteArray) (w : World) (hs : s.size ≤ 1048576) :
    Calls Trym.prog 25 #[.string s] w fun e w' => ∃ v, e = .returned v ∧ HasLines s w.heap.size w w' v s.size := by
  obtain ⟨i0, hi, hz0, hz1, hz2⟩ := info_parts Trym.info3
  go_enter Trym.func25, Trym.ntmps25
  go_wp2
  go_loopw [3, 8] (fun v i wr => ∃ k : Nat, k ≤ s.size ∧ i = .int .i64 k ∧ HasLines s w.heap.size w wr v k) (fun _ i _ => s.size - (intOf i).toNat)
  case atStart => exact ⟨0, Nat.zero_le _, rfl, hasLines_start s w⟩
  case round =>
    obtain ⟨k, hk, rfl, hl⟩ := hrel
    have hn := nl_le s k
    have hB := hl.2.size
    by_cases hlt : k < s.size
    · by_cases hb : ((s[k].toNat : Int) == 10) = true
      · have Eb : Hid (byteAt s k = 10) := by
          show byteAt s k = 10
          rw [byteAt_eq s k hlt]
          have := eq_of_beq hb
          omega
        go_wp2_with (first
          | (at_builtin; refine wpList_append_own _ rfl _ _ 23 rfl w.heap.size 3 i0 (.int .i64 0) 1 8 Trym.underlying23 hi hz0 hz1 hz2 rfl (by decide) _ _ _ rfl (hl.1.alloc _) ⟨wr.heap.size, 0, none⟩ 1 1 [.int .i64 ((k : Int) + 1)] rfl rfl ?c1 ?c2 ?c3 ?c4 ?c5 ?_)
          | go_in)
        case c1 => exact cell_one_new _ _ _
        case c2 => intro u hu; simp at hu; subst hu; rfl
        case c3 => unfold maxLen; omega
        case c4 => omega
        case c5 => simp; omega
        intro v' w1 hown' hgrow _
        have R := hasLines_hit hl hB Eb.out hown' hgrow
        clear hown' hgrow
        go_wp2
        go_roundw
        case rel => exact ⟨k + 1, by omega, by go_num, R⟩
        case measure => simp [intOf]; omega
      · have hb' : ((s[k].toNat : Int) == 10) = false := by simpa using hb
        have Eb : Hid (¬ byteAt s k = 10) := by
          show ¬ byteAt s k = 10
          rw [byteAt_eq s k hlt]
          intro he
          apply hb
          rw [he]
          rfl
        clear hb
        go_wp2
        go_roundw
        case rel => exact ⟨k + 1, by omega, by go_num, hasLines_miss hl Eb.out⟩
        case measure => simp [intOf]; omega
    · go_wp2
      go_ret
      have e : k = s.size := by omega
      subst e
      exact ⟨_, rfl, hl⟩

set_option maxHeartbeats 400000 in
theorem zzlines_any (s : ByteArray) (w : World) (hs : s.size ≤ 1048576) :
    Calls Trym.prog 14 #[.string s] w fun e w' => ∃ v, e = .returned v ∧ HasLines s w.heap.size w w' v s.size := by
  go_enter Trym.func14, Trym.ntmps14
  go_wp2_with (go_at_call 25; refine (lines_any s _ hs).mono ?_; rintro e w' ⟨v, rfl, hl⟩)
  go_ret
  exact ⟨_, rfl, hl⟩
end Go.Proofs.Qxb6001709aMods
