namespace Go.Proofs.Qxb6604186a

/-- Is there a '/' right behind a '/'? -/
def hasDS : List UInt8 → Bool
  | [] => false
  | a :: r => (a == 47 && r.head? == some 47) || hasDS r

/-- Is segment k empty? -/
def segEmpty : List UInt8 → Nat → Bool
  | [], _ => false
  | c :: r, k => if c = 47 then (match k with | 0 => r.isEmpty || r.head? == some 47 | k + 1 => segEmpty r k) else segEmpty r k

/-- How many slashes? -/
def slashes : List UInt8 → Nat
  | [] => 0
  | c :: r => (if c = 47 then 1 else 0) + slashes r

/-- What lies behind the first segment. -/
def skipSeg (l : List UInt8) : List UInt8 := l.tail.dropWhile (· != 47)
/-- The first segment. -/
def oneSeg (l : List UInt8) : List UInt8 := l.tail.takeWhile (· != 47)

/-- Segment k, by skipping k segments. -/
def valSeg : List UInt8 → Nat → List UInt8
  | l, 0 => oneSeg l
  | l, k + 1 => valSeg (skipSeg l) k

theorem slashes_le (l : List UInt8) : slashes l ≤ l.length := by
  induction l with
  | nil => simp [slashes]
  | cons c r ih => simp only [slashes, List.length_cons]; split <;> omega

theorem slashes_snoc (l : List UInt8) (c : UInt8) : slashes (l ++ [c]) = slashes l + if c = 47 then 1 else 0 := by
  induction l with
  | nil => simp [slashes]
  | cons d r ih => simp only [List.cons_append, slashes, ih]; omega

theorem slashes_dropWhile (l : List UInt8) : slashes (l.dropWhile (· != 47)) = slashes l := by
  induction l with
  | nil => rfl
  | cons c r ih =>
    by_cases h : c = 47
    · subst h; rfl
    · rw [List.dropWhile_cons_of_pos (by simpa using h), ih]; simp [slashes, h]

theorem segEmpty_dropWhile (l : List UInt8) (k : Nat) : segEmpty (l.dropWhile (· != 47)) k = segEmpty l k := by
  induction l with
  | nil => rfl
  | cons c r ih =>
    by_cases h : c = 47
    · subst h; rfl
    · rw [List.dropWhile_cons_of_pos (by simpa using h), ih]; simp [segEmpty, h]

theorem head_dropWhile (l : List UInt8) (h : 0 < slashes l) : (l.dropWhile (· != 47)).head? = some 47 := by
  induction l with
  | nil => simp [slashes] at h
  | cons c r ih =>
    by_cases hc : c = 47
    · subst hc; rfl
    · rw [List.dropWhile_cons_of_pos (by simpa using hc)]; exact ih (by simpa [slashes, hc] using h)

theorem head_cons {l : List UInt8} (h : l.head? = some 47) : ∃ r, l = 47 :: r := by
  cases l with
  | nil => simp at h
  | cons c r => simp at h; exact ⟨r, by rw [h]⟩

theorem slashes_skip {l : List UInt8} (h : l.head? = some 47) : slashes (skipSeg l) + 1 = slashes l := by
  obtain ⟨r, rfl⟩ := head_cons h
  simp only [skipSeg, List.tail_cons, slashes_dropWhile, slashes]; simp; omega

theorem segEmpty_skip {l : List UInt8} (h : l.head? = some 47) (k : Nat) : segEmpty (skipSeg l) k = segEmpty l (k + 1) := by
  obtain ⟨r, rfl⟩ := head_cons h
  simp [skipSeg, segEmpty_dropWhile, segEmpty]

theorem head_skip {l : List UInt8} (h : 0 < slashes (skipSeg l)) : (skipSeg l).head? = some 47 := by
  unfold skipSeg at h ⊢
  rw [slashes_dropWhile] at h
  exact head_dropWhile _ h

theorem segEmpty_zero {l : List UInt8} (h : l.head? = some 47) : segEmpty l 0 = (oneSeg l).isEmpty := by
  obtain ⟨r, rfl⟩ := head_cons h
  simp only [segEmpty, oneSeg, List.tail_cons, if_true]
  cases r with
  | nil => rfl
  | cons c r =>
    by_cases hc : c = 47
    · subst hc; rfl
    · simp [hc]

theorem valSeg_empty : ∀ (k : Nat) (l : List UInt8), l.head? = some 47 → k < slashes l → (valSeg l k).isEmpty = segEmpty l k
  | 0, l, h, _ => (segEmpty_zero h).symm
  | k + 1, l, h, hk => by
    have h1 := slashes_skip h
    rw [valSeg, valSeg_empty k (skipSeg l) (head_skip (by omega)) (by omega), segEmpty_skip h]

theorem head_cons_ds {l : List UInt8} (h : hasDS l = true) : l ≠ [] := by
  intro e; subst e; simp [hasDS] at h
end Go.Proofs.Qxb6604186a
