/-
  PLAIN LAWS, MORE: the bytes of a joined text and of a part of a text.
-/
import Derived.Test.Qxb6001709aModsPlain
namespace Go.Proofs.Qxb6001709aMods.Plain

theorem byteAt_append_left (a b : ByteArray) (k : Nat) (h : k < a.size) : byteAt (a ++ b) k = byteAt a k := by
  rw [byteAt_eq _ k (by rw [ByteArray.size_append]; omega), byteAt_eq a k h, ByteArray.getElem_append_left h]
theorem byteAt_append_right (a b : ByteArray) (k : Nat) (h : k < b.size) : byteAt (a ++ b) (a.size + k) = byteAt b k := by
  rw [byteAt_eq _ (a.size + k) (by rw [ByteArray.size_append]; omega), byteAt_eq b k h, ByteArray.getElem_append_right (by omega)]
  simp
theorem byteAt_extract (s : ByteArray) (i j k : Nat) (h : k < (s.extract i j).size) : byteAt (s.extract i j) k = byteAt s (i + k) := by
  have hs := h
  rw [ByteArray.size_extract] at hs
  rw [byteAt_eq _ k h, byteAt_eq s (i + k) (by omega), ByteArray.getElem_extract]

/-- THE LAW 'plain of a joined text'. -/
theorem pln_join (a b : ByteArray) : allB pln (a ++ b) (a ++ b).size = (allB pln a a.size && allB pln b b.size) :=
  allB_join pln a b (a ++ b) ByteArray.size_append (byteAt_append_left a b) (byteAt_append_right a b)

/-- THE LAW 'splits at a character', of the parts themselves. -/
theorem bo_head (s : ByteArray) (n j : Nat) (hj : j ≤ n) : bo (s.extract 0 (bo s n)) j = bo s j := by
  have hle := bo_le s n
  refine bo_front s _ n (by rw [ByteArray.size_extract]; omega) (fun k hk => ?_) j hj
  rw [byteAt_extract s 0 (bo s n) k hk, Nat.zero_add]
theorem bo_rest (s : ByteArray) (n m : Nat) : bo s (n + m) = bo s n + bo (s.extract (bo s n) s.size) m := by
  have hle := bo_le s n
  exact bo_suffix s _ n (by rw [ByteArray.size_extract]; omega) (fun k hk => byteAt_extract s (bo s n) s.size k hk) m
end Go.Proofs.Qxb6001709aMods.Plain
