import Derived.Test.Qxb6604186aPlain
namespace Go.Proofs.Qxb6604186a

theorem byte47 {c : UInt8} (h : (c.toNat : Int) = 47) : c = 47 := UInt8.toNat_inj.1 (by simpa using (by omega : c.toNat = 47))
theorem byte47' {c : UInt8} (h : ¬ (c.toNat : Int) = 47) : c ≠ 47 := fun e => h (by subst e; rfl)

theorem drop_at (s : ByteArray) (k : Nat) (h : k < s.size) : s.data.toList.drop k = s[k] :: s.data.toList.drop (k + 1) := by
  rw [List.drop_eq_getElem_cons (by simpa using h)]; rfl
theorem head_at (s : ByteArray) (k : Nat) (h : k < s.size) : (s.data.toList.drop k).head? = some s[k] := by
  rw [drop_at s k h]; rfl
theorem take_snoc (s : ByteArray) (k : Nat) (h : k < s.size) : s.data.toList.take (k + 1) = s.data.toList.take k ++ [s[k]] := by
  rw [List.take_succ_eq_append_getElem (by simpa using h)]; rfl
theorem drop_end (s : ByteArray) (k : Nat) (h : s.size ≤ k) : s.data.toList.drop k = [] := List.drop_eq_nil_of_le (by simpa using h)

theorem hds_hit (s : ByteArray) (k : Nat) (h : k + 1 < s.size) (h1 : (s[k].toNat : Int) = 47) (h2 : ((s[k + 1].toNat : Int) == 47) = true) : hasDS (s.data.toList.drop k) = true := by
  rw [drop_at s k (by omega), hasDS, head_at s (k + 1) h, byte47 h1, byte47 (c := s[k + 1]) (by simpa using h2)]; rfl
theorem hds_miss2 (s : ByteArray) (k : Nat) (h : k + 1 < s.size) (h2 : ((s[k + 1].toNat : Int) == 47) = false) : hasDS (s.data.toList.drop k) = hasDS (s.data.toList.drop (k + 1)) := by
  have := byte47' (c := s[k + 1]) (by simpa using h2)
  rw [drop_at s k (by omega), hasDS, head_at s (k + 1) h]; simp [this]
theorem hds_miss1 (s : ByteArray) (k : Nat) (h : k < s.size) (h1 : ¬ (s[k].toNat : Int) = 47) : hasDS (s.data.toList.drop k) = hasDS (s.data.toList.drop (k + 1)) := by
  have := byte47' h1
  rw [drop_at s k h, hasDS]; simp [this]
theorem hds_end (s : ByteArray) (k : Nat) (h : ¬ k + 1 < s.size) : hasDS (s.data.toList.drop k) = false := by
  by_cases hk : k < s.size
  · rw [drop_at s k hk, hasDS, drop_end s (k + 1) (by omega)]; simp [hasDS]
  · rw [drop_end s k (by omega)]; rfl

/-- The slashes ahead of k and from k on. -/
theorem slashes_step (s : ByteArray) (k : Nat) (h : k < s.size) : slashes (s.data.toList.take (k + 1)) = slashes (s.data.toList.take k) + if (s[k].toNat : Int) = 47 then 1 else 0 := by
  rw [take_snoc s k h, slashes_snoc]
  by_cases hc : (s[k].toNat : Int) = 47
  · rw [if_pos hc, if_pos (byte47 hc)]
  · rw [if_neg hc, if_neg (byte47' hc)]

theorem seg_here (s : ByteArray) (j : Nat) (h : j < s.size) (h1 : (s[j].toNat : Int) = 47) : segEmpty (s.data.toList.drop j) 0 = ((s.data.toList.drop (j + 1)).isEmpty || (s.data.toList.drop (j + 1)).head? == some 47) := by
  rw [drop_at s j h, byte47 h1]; simp [segEmpty]
theorem seg_here_end (s : ByteArray) (j : Nat) (h : j < s.size) (h1 : (s[j].toNat : Int) = 47) (h2 : j + 1 = s.size) : segEmpty (s.data.toList.drop j) 0 = true := by
  rw [seg_here s j h h1, drop_end s (j + 1) (by omega)]; rfl
theorem seg_here_in (s : ByteArray) (j : Nat) (h : j + 1 < s.size) (h1 : (s[j].toNat : Int) = 47) : segEmpty (s.data.toList.drop j) 0 = ((s[j + 1].toNat : Int) == 47) := by
  rw [seg_here s j (by omega) h1, head_at s (j + 1) h, drop_at s (j + 1) h, List.isEmpty_cons, Bool.false_or, Bool.eq_iff_iff]
  simp only [beq_iff_eq, Option.some.injEq]
  exact ⟨fun e => by rw [e]; rfl, fun e => byte47 e⟩
theorem seg_on (s : ByteArray) (j k : Nat) (h : j < s.size) (h1 : (s[j].toNat : Int) = 47) : segEmpty (s.data.toList.drop j) (k + 1) = segEmpty (s.data.toList.drop (j + 1)) k := by
  rw [drop_at s j h, byte47 h1]; simp [segEmpty]
theorem seg_over (s : ByteArray) (j k : Nat) (h : j < s.size) (h1 : ¬ (s[j].toNat : Int) = 47) : segEmpty (s.data.toList.drop j) k = segEmpty (s.data.toList.drop (j + 1)) k := by
  have := byte47' h1
  rw [drop_at s j h]; simp [segEmpty, this]
end Go.Proofs.Qxb6604186a
