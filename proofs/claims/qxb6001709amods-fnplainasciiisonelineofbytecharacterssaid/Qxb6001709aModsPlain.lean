/-
  THE PLAIN LAWS of this seat: no Go in sight. 'bo s n': where the n-th character of s starts (or its length); 'ls s k': the line starts met in the first k bytes; 'pa', 'below128' on bytes.
-/
import Derived.Laws.RangeAny
namespace Go.Proofs.Qxb6001709aMods.Plain

/-! ### bytes -/
def byteAt (s : ByteArray) (k : Nat) : Nat := (s.get! k).toNat

theorem byteAt_eq (s : ByteArray) (k : Nat) (h : k < s.size) : byteAt s k = (s[k]'h).toNat := by
  have := get_at s k h
  simp only [Nat.add_zero] at this
  simp [byteAt, this]

theorem byteAt_lt (s : ByteArray) (k : Nat) : byteAt s k < 256 := (s.get! k).toNat_lt

/-! ### the width of the character at a place -/
def wd (s : ByteArray) (i : Nat) : Nat := (Utf8.decode s i).2

theorem wd_bounds (s : ByteArray) (i : Nat) (h : i < s.size) : 1 ≤ wd s i ∧ wd s i ≤ 4 ∧ i + wd s i ≤ s.size := by
  simp only [wd, Utf8.decode]
  repeat' split
  all_goals simp_all
  all_goals omega

/-- The width hangs on the bytes from the place on alone. -/
theorem wd_shift (s t : ByteArray) (i j : Nat) (hsz : t.size - j = s.size - i) (hj : j < t.size) (hi : i < s.size)
    (hb : ∀ k, i + k < s.size → byteAt t (j + k) = byteAt s (i + k)) : wd t j = wd s i := by
  have g : ∀ k, i + k < s.size → (t.get! (j + k)).toNat = (s.get! (i + k)).toNat := fun k hk => hb k hk
  have c : ∀ k, (decide (j + k < t.size) && (t.get! (j + k)).toNat / 64 == 2) = (decide (i + k < s.size) && (s.get! (i + k)).toNat / 64 == 2) := by
    intro k
    by_cases hk : i + k < s.size
    · have hk' : j + k < t.size := by omega
      simp [hk, hk', g k hk]
    · have hk' : ¬ j + k < t.size := by omega
      simp [hk, hk']
  have g0 := g 0 (by omega)
  simp only [wd, Utf8.decode, c, g0]
  by_cases h1 : i + 1 < s.size
  · have g1 := g 1 h1
    by_cases h2 : i + 2 < s.size
    · have g2 := g 2 h2
      by_cases h3 : i + 3 < s.size
      · have g3 := g 3 h3
        simp only [g1, g2, g3]
      · simp only [g1, g2, h3, decide_false, Bool.false_and, Bool.and_false]
        simp
    · simp only [g1, h2, decide_false, Bool.false_and, Bool.and_false]
      simp
  · simp only [h1, decide_false, Bool.false_and, Bool.and_false]
    simp

/-- The width as a function of four bytes and of how many of them there are. -/
def dw (x0 x1 x2 x3 : Nat) (k1 k2 k3 : Bool) : Nat :=
  if x0 < 0x80 then 1
  else if x0 / 32 == 6 && (k1 && x1 / 64 == 2) then
    if (x0 % 32) * 64 + x1 % 64 ≥ 0x80 then 2 else 1
  else if x0 / 16 == 14 && (k1 && x1 / 64 == 2) && (k2 && x2 / 64 == 2) then
    if (x0 % 16) * 4096 + (x1 % 64) * 64 + x2 % 64 ≥ 0x800 && Utf8.valid ((x0 % 16) * 4096 + (x1 % 64) * 64 + x2 % 64 : Nat) then 3 else 1
  else if x0 / 8 == 30 && (k1 && x1 / 64 == 2) && (k2 && x2 / 64 == 2) && (k3 && x3 / 64 == 2) then
    if (x0 % 8) * 262144 + (x1 % 64) * 4096 + (x2 % 64) * 64 + x3 % 64 ≥ 0x10000 && Utf8.valid ((x0 % 8) * 262144 + (x1 % 64) * 4096 + (x2 % 64) * 64 + x3 % 64 : Nat) then 4 else 1
  else 1

theorem wd_dw (s : ByteArray) (i : Nat) : wd s i = dw (byteAt s (i + 0)) (byteAt s (i + 1)) (byteAt s (i + 2)) (byteAt s (i + 3)) (decide (i + 1 < s.size)) (decide (i + 2 < s.size)) (decide (i + 3 < s.size)) := by
  unfold wd Utf8.decode dw byteAt
  dsimp only
  repeat' split
  all_goals first | rfl | contradiction

theorem dw_cut1 (x0 x1 x2 x3 y1 y2 y3 : Nat) (k1 k2 k3 : Bool) (h : dw x0 x1 x2 x3 k1 k2 k3 ≤ 1) : dw x0 y1 y2 y3 false false false = dw x0 x1 x2 x3 k1 k2 k3 := by
  unfold dw at h ⊢
  simp only [Bool.false_and, Bool.and_false]
  repeat' split at h
  all_goals (repeat' split)
  all_goals simp_all

theorem dw_cut2 (x0 x1 x2 x3 y2 y3 : Nat) (k1 k2 k3 : Bool) (h : dw x0 x1 x2 x3 k1 k2 k3 ≤ 2) : dw x0 x1 y2 y3 k1 false false = dw x0 x1 x2 x3 k1 k2 k3 := by
  unfold dw at h ⊢
  simp only [Bool.false_and, Bool.and_false]
  repeat' split at h
  all_goals (repeat' split)
  all_goals simp_all

theorem dw_cut3 (x0 x1 x2 x3 y3 : Nat) (k1 k2 k3 : Bool) (h : dw x0 x1 x2 x3 k1 k2 k3 ≤ 3) : dw x0 x1 x2 y3 k1 k2 false = dw x0 x1 x2 x3 k1 k2 k3 := by
  unfold dw at h ⊢
  simp only [Bool.false_and, Bool.and_false]
  repeat' split at h
  all_goals (repeat' split)
  all_goals simp_all

/-- A front part that holds the whole character shows the same width. -/
theorem wd_front (s t : ByteArray) (i : Nat) (hts : t.size ≤ s.size) (hi : i + wd s i ≤ t.size) (hit : i < t.size)
    (hb : ∀ k, k < t.size → byteAt t k = byteAt s k) : wd t i = wd s i := by
  rw [wd_dw s] at hi ⊢
  rw [wd_dw t, hb (i + 0) hit]
  by_cases h1 : i + 1 < t.size
  · have h1' : i + 1 < s.size := by omega
    rw [hb _ h1]
    by_cases h2 : i + 2 < t.size
    · have h2' : i + 2 < s.size := by omega
      rw [hb _ h2]
      by_cases h3 : i + 3 < t.size
      · have h3' : i + 3 < s.size := by omega
        rw [hb _ h3]
        simp only [h1, h2, h3, h1', h2', h3']
      · simp only [h1, h2, h3, h1', h2', decide_true, decide_false] at hi ⊢
        exact dw_cut3 _ _ _ _ _ _ _ _ (by omega)
    · have h3 : ¬ i + 3 < t.size := by omega
      simp only [h1, h2, h3, h1', decide_true, decide_false] at hi ⊢
      exact dw_cut2 _ _ _ _ _ _ _ _ _ (by omega)
  · have h2 : ¬ i + 2 < t.size := by omega
    have h3 : ¬ i + 3 < t.size := by omega
    simp only [h1, h2, h3, decide_false] at hi ⊢
    exact dw_cut1 _ _ _ _ _ _ _ _ _ _ (by omega)

/-! ### where the n-th character starts -/
def bo (s : ByteArray) : Nat → Nat
  | 0 => 0
  | n + 1 => if bo s n < s.size then bo s n + wd s (bo s n) else s.size

theorem bo_zero (s : ByteArray) : bo s 0 = 0 := rfl
theorem bo_succ (s : ByteArray) (n : Nat) (h : bo s n < s.size) : bo s (n + 1) = bo s n + wd s (bo s n) := by simp [bo, h]
theorem bo_succ_end (s : ByteArray) (n : Nat) (h : ¬ bo s n < s.size) : bo s (n + 1) = s.size := by simp [bo, h]

theorem bo_le (s : ByteArray) (n : Nat) : bo s n ≤ s.size := by
  induction n with
  | zero => exact Nat.zero_le _
  | succ n ih =>
    by_cases h : bo s n < s.size
    · rw [bo_succ s n h]; exact (wd_bounds s _ h).2.2
    · rw [bo_succ_end s n h]; exact Nat.le_refl _

theorem bo_step (s : ByteArray) (n : Nat) : bo s n ≤ bo s (n + 1) := by
  by_cases h : bo s n < s.size
  · rw [bo_succ s n h]; omega
  · rw [bo_succ_end s n h]; exact bo_le s n

theorem bo_mono (s : ByteArray) (n m : Nat) : bo s n ≤ bo s (n + m) := by
  induction m with
  | zero => exact Nat.le_refl _
  | succ m ih => exact Nat.le_trans ih (bo_step s (n + m))

/-- Past the end it stays. -/
theorem bo_stay (s : ByteArray) (n k : Nat) (hk : k ≤ n) (h : ¬ bo s k < s.size) : bo s n = s.size := by
  obtain ⟨m, rfl⟩ : ∃ m, n = k + m := ⟨n - k, by omega⟩
  have := bo_mono s k m
  have := bo_le s (k + m)
  omega

/-- THE LAW 'advances one to four bytes'. -/
theorem bo_adv (s : ByteArray) (n : Nat) (h : bo s n < s.size) : bo s n < bo s (n + 1) ∧ bo s (n + 1) ≤ bo s n + 4 := by
  rw [bo_succ s n h]
  have := wd_bounds s _ h
  omega

/-- THE LAW 'splits at a character', its first half: the front part up to the n-th character counts as the whole does. -/
theorem bo_front (s t : ByteArray) (n : Nat) (ht : t.size = bo s n) (hb : ∀ k, k < t.size → byteAt t k = byteAt s k) :
    ∀ j, j ≤ n → bo t j = bo s j := by
  have hle := bo_le s n
  intro j
  induction j with
  | zero => intro _; rfl
  | succ j ih =>
    intro hj
    have e := ih (by omega)
    have hm := bo_mono s (j + 1) (n - (j + 1))
    rw [show j + 1 + (n - (j + 1)) = n from by omega] at hm
    have hst := bo_step s j
    by_cases h : bo s j < s.size
    · have hadv := bo_adv s j h
      have es := bo_succ s j h
      have h' : bo t j < t.size := by rw [e]; omega
      rw [bo_succ t j h', e, es]
      rw [wd_front s t (bo s j) (by omega) (by omega) (by omega) hb]
    · have e1 := bo_succ_end s j h
      have h' : ¬ bo t j < t.size := by rw [e]; omega
      rw [bo_succ_end t j h', e1]
      omega

/-- .. its second half: counting on behind the n-th character. -/
theorem bo_suffix (s t : ByteArray) (n : Nat) (ht : t.size = s.size - bo s n) (hb : ∀ k, k < t.size → byteAt t k = byteAt s (bo s n + k)) :
    ∀ m, bo s (n + m) = bo s n + bo t m := by
  have hle := bo_le s n
  intro m
  induction m with
  | zero => rfl
  | succ m ih =>
    rw [← Nat.add_assoc]
    by_cases h : bo t m < t.size
    · have h' : bo s (n + m) < s.size := by omega
      rw [bo_succ t m h, bo_succ s (n + m) h', ih]
      have := wd_shift s t (bo s n + bo t m) (bo t m) (by omega) h (by omega) (fun k hk => by rw [hb _ (by omega)]; congr 1; omega)
      omega
    · have := bo_le t m
      have h' : ¬ bo s (n + m) < s.size := by omega
      rw [bo_succ_end t m h, bo_succ_end s (n + m) h']
      omega

/-- THE LAW 'of ASCII bytes alone the n-th character starts at byte n'. -/
theorem bo_ascii (s : ByteArray) (h : ∀ k, k < s.size → byteAt s k < 128) : ∀ n, bo s n = min n s.size := by
  intro n
  induction n with
  | zero => simp [bo]
  | succ n ih =>
    by_cases hn : bo s n < s.size
    · have hw : wd s (bo s n) = 1 := by
        have := h _ hn
        rw [byteAt_eq s _ hn] at this
        simp [wd, decode_ascii s _ hn this]
      rw [bo_succ s n hn, hw]
      omega
    · rw [bo_succ_end s n hn]
      omega

/-! ### the line starts -/
def ls (s : ByteArray) : Nat → List Int
  | 0 => [0]
  | k + 1 => if byteAt s k = 10 then ls s k ++ [(k : Int) + 1] else ls s k

theorem ls_hit (s : ByteArray) (k : Nat) (h : byteAt s k = 10) : ls s (k + 1) = ls s k ++ [(k : Int) + 1] := by simp [ls, h]
theorem ls_miss (s : ByteArray) (k : Nat) (h : ¬ byteAt s k = 10) : ls s (k + 1) = ls s k := by simp [ls, h]

/-- How many newlines the first k bytes hold. -/
def nl (s : ByteArray) : Nat → Nat
  | 0 => 0
  | k + 1 => if byteAt s k = 10 then nl s k + 1 else nl s k

theorem nl_hit (s : ByteArray) (k : Nat) (h : byteAt s k = 10) : nl s (k + 1) = nl s k + 1 := by simp [nl, h]
theorem nl_miss (s : ByteArray) (k : Nat) (h : ¬ byteAt s k = 10) : nl s (k + 1) = nl s k := by simp [nl, h]
theorem nl_le (s : ByteArray) (k : Nat) : nl s k ≤ k := by
  induction k with
  | zero => simp [nl]
  | succ k ih => simp only [nl]; split <;> omega

theorem ls_length (s : ByteArray) (k : Nat) : (ls s k).length = nl s k + 1 := by
  induction k with
  | zero => rfl
  | succ k ih =>
    by_cases h : byteAt s k = 10
    · rw [ls_hit s k h, nl_hit s k h]; simp [ih]
    · rw [ls_miss s k h, nl_miss s k h]; exact ih

theorem ls_head (s : ByteArray) (k : Nat) : (ls s k)[0]? = some 0 := by
  induction k with
  | zero => rfl
  | succ k ih =>
    by_cases h : byteAt s k = 10
    · rw [ls_hit s k h, List.getElem?_append_left (by rw [ls_length]; omega)]; exact ih
    · rw [ls_miss s k h]; exact ih

/-- Each entry lies between 0 and k. -/
theorem ls_bd (s : ByteArray) (k : Nat) : ∀ (j : Nat) (x : Int), (ls s k)[j]? = some x → 0 ≤ x ∧ x ≤ k := by
  induction k with
  | zero =>
    intro j x h
    match j, h with
    | 0, h => simp [ls] at h; omega
  | succ k ih =>
    intro j x h
    by_cases hb : byteAt s k = 10
    · rw [ls_hit s k hb, List.getElem?_append] at h
      split at h
      · have := ih j x h; omega
      · have hx : x = (k : Int) + 1 := by
          rw [List.getElem?_singleton] at h
          split at h
          · exact (Option.some.inj h).symm
          · cases h
        omega
    · rw [ls_miss s k hb] at h
      have := ih j x h; omega

/-- THE LAW 'characterised': behind the first entry each is greater than the one before it, and stands just behind a newline. -/
theorem ls_char (s : ByteArray) (k : Nat) : ∀ (j : Nat) (x y : Int), (ls s k)[j]? = some x → (ls s k)[j + 1]? = some y →
    x < y ∧ 1 ≤ y ∧ y ≤ k ∧ byteAt s (y - 1).toNat = 10 := by
  induction k with
  | zero =>
    intro j x y _ h
    simp [ls] at h
  | succ k ih =>
    intro j x y hx hy
    by_cases hb : byteAt s k = 10
    · rw [ls_hit s k hb, List.getElem?_append] at hx hy
      by_cases h1 : j + 1 < (ls s k).length
      · rw [if_pos h1] at hy
        rw [if_pos (by omega)] at hx
        have := ih j x y hx hy
        exact ⟨this.1, this.2.1, by omega, this.2.2.2⟩
      · rw [if_neg h1] at hy
        have hj : j + 1 = (ls s k).length ∧ y = (k : Int) + 1 := by
          rw [List.getElem?_singleton] at hy
          split at hy
          · exact ⟨by omega, (Option.some.inj hy).symm⟩
          · cases hy
        rw [if_pos (by omega)] at hx
        have hbd := ls_bd s k j x hx
        obtain ⟨_, rfl⟩ := hj
        refine ⟨by omega, by omega, by omega, ?_⟩
        rw [show ((k : Int) + 1 - 1).toNat = k from by omega]
        exact hb
    · rw [ls_miss s k hb] at hx hy
      have := ih j x y hx hy
      exact ⟨this.1, this.2.1, by omega, this.2.2.2⟩

theorem ls_one (s : ByteArray) (k : Nat) (h : ∀ j, j < k → ¬ byteAt s j = 10) : ls s k = [0] := by
  induction k with
  | zero => rfl
  | succ k ih => rw [ls_miss s k (h k (by omega))]; exact ih (fun j hj => h j (by omega))

/-! ### bytes below 128; plain ASCII -/
def asc (c : Nat) : Bool := decide (c < 128)
def pln (c : Nat) : Bool := decide (32 ≤ c) && decide (c ≤ 126) && !decide (c = 92)

/-- Do the first k bytes of s all meet p? -/
def allB (p : Nat → Bool) (s : ByteArray) : Nat → Bool
  | 0 => true
  | k + 1 => allB p s k && p (byteAt s k)

theorem allB_iff (p : Nat → Bool) (s : ByteArray) (k : Nat) : allB p s k = true ↔ ∀ j, j < k → p (byteAt s j) = true := by
  induction k with
  | zero => simp [allB]
  | succ k ih =>
    simp only [allB, Bool.and_eq_true, ih]
    constructor
    · intro ⟨h1, h2⟩ j hj
      by_cases e : j = k
      · rw [e]; exact h2
      · exact h1 j (by omega)
    · intro h
      exact ⟨fun j hj => h j (by omega), h k (by omega)⟩

theorem allB_false (p : Nat → Bool) (s : ByteArray) (n k : Nat) (hk : k < n) (h : p (byteAt s k) = false) : allB p s n = false := by
  cases e : allB p s n with
  | false => rfl
  | true => rw [(allB_iff p s n).1 e k hk] at h; cases h

theorem pln_asc (c : Nat) (h : pln c = true) : asc c = true ∧ ¬ c = 10 := by
  simp [pln, asc] at h ⊢
  omega

/-- THE LAW 'plain of a joined text'. -/
theorem allB_join (p : Nat → Bool) (a b t : ByteArray) (ht : t.size = a.size + b.size) (ha : ∀ k, k < a.size → byteAt t k = byteAt a k) (hb : ∀ k, k < b.size → byteAt t (a.size + k) = byteAt b k) :
    allB p t t.size = (allB p a a.size && allB p b b.size) := by
  rw [Bool.eq_iff_iff, Bool.and_eq_true, allB_iff, allB_iff, allB_iff]
  constructor
  · intro h
    exact ⟨fun j hj => by rw [← ha j hj]; exact h j (by omega), fun j hj => by rw [← hb j hj]; exact h _ (by omega)⟩
  · intro ⟨h1, h2⟩ j hj
    by_cases hl : j < a.size
    · rw [ha j hl]; exact h1 j hl
    · have := h2 (j - a.size) (by omega)
      rw [← hb _ (by omega), show a.size + (j - a.size) = j from by omega] at this
      exact this

end Go.Proofs.Qxb6001709aMods.Plain
