import Derived.Test.Qxb6604186aPlain
import Derived.Lib.Bytealg
import Derived.Lib.IndexMore
namespace Go.Proofs.Qxb6604186a

theorem ix_none : ∀ (l : List UInt8), Lib.indexByte l 47 < 0 → l.takeWhile (· != 47) = l ∧ l.dropWhile (· != 47) = []
  | [], _ => ⟨rfl, rfl⟩
  | b :: l, h => by
    unfold Lib.indexByte at h
    by_cases hb : b = 47
    · subst hb; simp at h
    · have hg := Lib.indexByte_ge l 47
      have hl : Lib.indexByte l 47 < 0 := by
        by_cases e : Lib.indexByte l 47 = -1
        · omega
        · simp [hb, e] at h; omega
      have ih := ix_none l hl
      rw [List.takeWhile_cons_of_pos (by simpa using hb), List.dropWhile_cons_of_pos (by simpa using hb), ih.1, ih.2]
      exact ⟨rfl, rfl⟩

theorem ix_some : ∀ (l : List UInt8) (i : Nat), Lib.indexByte l 47 = i → l.takeWhile (· != 47) = l.take i ∧ l.dropWhile (· != 47) = l.drop i ∧ i < l.length
  | [], i, h => by simp [Lib.indexByte] at h
  | b :: l, i, h => by
    unfold Lib.indexByte at h
    by_cases hb : b = 47
    · subst hb
      simp at h
      obtain rfl : i = 0 := by omega
      exact ⟨rfl, rfl, by simp⟩
    · have hg := Lib.indexByte_ge l 47
      by_cases e : Lib.indexByte l 47 = -1
      · simp [hb, e] at h
      · simp [hb, e] at h
        obtain ⟨j, rfl⟩ : ∃ j, i = j + 1 := ⟨i - 1, by omega⟩
        have ih := ix_some l j (by omega)
        rw [List.takeWhile_cons_of_pos (by simpa using hb), List.dropWhile_cons_of_pos (by simpa using hb), ih.1, ih.2.1]
        exact ⟨rfl, rfl, by simpa using ih.2.2⟩

theorem index_ge (sub : List UInt8) : ∀ l : List UInt8, -1 ≤ Lib.index l sub
  | [] => by unfold Lib.index; split <;> omega
  | b :: l => by
    have ih := index_ge sub l
    unfold Lib.index
    split
    · omega
    · split <;> omega

theorem index_ds : ∀ l : List UInt8, 0 ≤ Lib.index l [47, 47] ↔ hasDS l = true
  | [] => by simp [Lib.index, hasDS]
  | b :: l => by
    have ih := index_ds l
    have hg := index_ge [47, 47] l
    unfold Lib.index hasDS
    by_cases hp : b = 47 ∧ l.head? = some 47
    · obtain ⟨rfl, h2⟩ := hp
      obtain ⟨r, rfl⟩ := head_cons h2
      simp
    · have h1 : ([47, 47] : List UInt8).isPrefixOf (b :: l) = false := by
        cases l with
        | nil => simp [List.isPrefixOf]
        | cons c r =>
          simp at hp
          simp [List.isPrefixOf]
          exact fun e => fun e2 => hp e.symm e2.symm
      have h2 : (b == 47 && l.head? == some 47) = false := by
        cases hb : (b == 47 && l.head? == some 47) with
        | false => rfl
        | true => simp at hb; exact absurd hb hp
      rw [h1, h2, Bool.false_or, ← ih]
      by_cases e : Lib.index l [47, 47] = -1
      · simp [e]
      · simp [e]; omega

theorem contains_ds (l : List UInt8) : Lib.contains l [47, 47] = hasDS l := by
  unfold Lib.contains
  cases h : hasDS l with
  | true => exact decide_eq_true ((index_ds l).2 h)
  | false => exact decide_eq_false (fun e => by rw [(index_ds l).1 e] at h; cases h)
end Go.Proofs.Qxb6604186a
