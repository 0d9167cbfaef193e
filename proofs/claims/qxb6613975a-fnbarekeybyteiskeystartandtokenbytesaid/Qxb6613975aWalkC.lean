import Derived.Test.Qxb6613975aWalkB
namespace Go.Proofs.Qxb6613975a
open Go.RowKit

theorem mark_low_fin : ∀ n : Fin 128, decide (0 ≤ Lib.indexByte [33, 35, 36, 37, 38, 39, 42, 43, 46, 94, 96, 124, 126] n.val.toUInt8) = markB (n.val : Int) := by decide +kernel
theorem mark_low (c : Int) (h0 : 0 ≤ c) (h1 : c < 128) : decide (0 ≤ Lib.indexByte marks.data.toList c.toNat.toUInt8) = markB c := by
  obtain ⟨n, rfl⟩ := Int.eq_ofNat_of_zero_le h0
  exact mark_low_fin ⟨n, by omega⟩
theorem marks_ascii : ∀ b ∈ (⟨#[33, 35, 36, 37, 38, 39, 42, 43, 46, 94, 96, 124, 126]⟩ : ByteArray).data.toList, b.toNat < 128 := by decide

set_option maxHeartbeats 1000000 in
theorem cr_any (c : Int) (w : World) (h0 : 0 ≤ c) (h1 : c < 256) :
    Calls Try.prog 16 #[.string ⟨#[33, 35, 36, 37, 38, 39, 42, 43, 46, 94, 96, 124, 126]⟩, .int .i32 c] w fun e w' => e = .returned (.bool (markB c)) ∧ ∃ n, w' = w.drewN n := by
  by_cases hc : c < 128
  · have hm := mark_low c h0 hc
    have H := hid (ixr_low c w h0 hc)
    generalize Lib.indexByte marks.data.toList c.toNat.toUInt8 = x at *
    have Hm := hid hm
    clear hm
    go_enter Try.func16, Try.ntmps16
    go_wp2_with fail
    refine H.out.mono ?_
    rintro e w' ⟨rfl, n, rfl⟩
    go_wp2_with fail
    go_ret
    exact ⟨ret_bool Hm.out, n, rfl⟩
  · have H := hid (ixr_high ⟨#[33, 35, 36, 37, 38, 39, 42, 43, 46, 94, 96, 124, 126]⟩ c w (by omega) h1 (by decide) marks_ascii)
    go_enter Try.func16, Try.ntmps16
    go_wp2_with fail
    refine H.out.mono ?_
    rintro e w' ⟨rfl, n, rfl⟩
    go_wp2_with fail
    go_ret
    exact ⟨ret_bool (by symm; exact decide_eq_false (by omega)), n, rfl⟩

/-- A token: some bytes, each a byte of a token. -/
def tokB (l : List UInt8) : Bool := !l.isEmpty && l.all (fun b => tcharB (b.toNat : Int))

theorem take_snoc (s : ByteArray) (k : Nat) (h : k < s.size) : s.data.toList.take (k + 1) = s.data.toList.take k ++ [s[k]] := by
  rw [List.take_succ_eq_append_getElem (by simpa using h)]; rfl
theorem all_on {s : ByteArray} {k : Nat} (h : k < s.size) (ha : (s.data.toList.take k).all (fun b => tcharB (b.toNat : Int)) = true) (ht : tcharB (s[k].toNat : Int) = true) : (s.data.toList.take (k + 1)).all (fun b => tcharB (b.toNat : Int)) = true := by
  rw [take_snoc s k h, List.all_append, ha]; simp [ht]
theorem tok_no {s : ByteArray} {k : Nat} (h : k < s.size) (ht : tcharB (s[k].toNat : Int) = false) : tokB s.data.toList = false := by
  unfold tokB
  rw [Bool.and_eq_false_iff]
  right
  rw [List.all_eq_false]
  refine ⟨s[k], ?_, by simp [ht]⟩
  have : s[k] = s.data.toList[k]'(by simpa using h) := rfl
  rw [this]; exact List.getElem_mem _
theorem tok_yes {s : ByteArray} (h : 0 < s.size) (ha : s.data.toList.all (fun b => tcharB (b.toNat : Int)) = true) : tokB s.data.toList = true := by
  unfold tokB
  rw [ha, Bool.and_true]
  cases hl : s.data.toList with
  | nil => have : s.data.toList.length = s.size := by simp
           rw [hl] at this; simp at this; omega
  | cons => rfl
theorem byte_lt (b : UInt8) : 0 ≤ (b.toNat : Int) ∧ (b.toNat : Int) < 256 := by have := b.toNat_lt; omega

set_option maxHeartbeats 1000000 in
theorem ist_any (s : ByteArray) (w : World) (hs : s.size ≤ 1048576) :
    Calls Try.prog 14 #[.string s] w fun e w' => e = .returned (.bool (tokB s.data.toList)) ∧ ∃ n, w' = w.drewN n := by
  by_cases h0 : s.size = 0
  · have he : s = ⟨#[]⟩ := by
      obtain ⟨⟨l⟩⟩ := s
      have : l.length = 0 := h0
      rw [List.length_eq_zero_iff.1 this]
    subst he
    go_enter Try.func14, Try.ntmps14
    go_wp2_with fail
    go_ret
    exact ⟨rfl, 0, rfl⟩
  · have hpos : 0 < s.size := by omega
    have hem : s.toList.isEmpty = false := by
      rw [ByteArray.toList_eq]; cases hl : s.data.toList with
      | nil => have h2 : s.data.toList.length = s.size := by simp
               rw [hl] at h2; simp at h2; omega
      | cons => rfl
    go_enter Try.func14, Try.ntmps14
    go_wp2_with fail
    go_loopw [9] (fun i wr => ∃ k : Nat, k ≤ s.size ∧ i = .int .i64 k ∧ Hid ((s.data.toList.take k).all (fun b => tcharB (b.toNat : Int)) = true) ∧ ∃ q, wr = w.drewN q) (fun i _ => s.size - (intOf i).toNat)
    case atStart => exact ⟨0, Nat.zero_le _, rfl, hid rfl, 0, rfl⟩
    case round =>
      obtain ⟨k, hk, rfl, HA, q, hq⟩ := hrel
      have Hq := hid hq
      clear hq
      by_cases hlt : k < s.size
      · obtain ⟨g0, g1⟩ := byte_lt s[k]
        generalize hbb : (s[k].toNat : Int) = c at *
        have Hbb := hid hbb
        cases hb : bareB c with
        | true =>
          have ht : tcharB c = true := by have := of_decide_eq_true hb; exact decide_eq_true (by omega)
          have Ht := hid ht
          clear ht
          go_wp2_with fail
          refine (bare_any _ _).mono ?_
          rintro e w' ⟨rfl, rfl⟩
          rw [hb]
          go_wp2_with fail
          go_roundw
          case rel => exact ⟨k + 1, by omega, by go_num, hid (all_on hlt HA.out (by rw [Hbb.out]; exact Ht.out)), q, Hq.out⟩
          case measure => simp [intOf]; omega
        | false =>
          cases hm : markB c with
          | true =>
            have ht : tcharB c = true := by have := of_decide_eq_true hm; exact decide_eq_true (by omega)
            have Ht := hid ht
            clear ht
            go_wp2_with fail
            refine (bare_any _ _).mono ?_
            rintro e w' ⟨rfl, rfl⟩
            rw [hb]
            go_wp2_with fail
            refine (cr_any _ _ g0 g1).mono ?_
            rintro e w2 ⟨rfl, q2, rfl⟩
            rw [hm]
            go_wp2_with fail
            go_roundw
            case rel => exact ⟨k + 1, by omega, by go_num, hid (all_on hlt HA.out (by rw [Hbb.out]; exact Ht.out)), _, by rw [Hq.out, World.drewN_drewN]⟩
            case measure => simp [intOf]; omega
          | false =>
            have ht : tcharB c = false := by have := of_decide_eq_false hm; have := of_decide_eq_false hb; exact decide_eq_false (by omega)
            have Ht := hid ht
            clear ht
            go_wp2_with fail
            refine (bare_any _ _).mono ?_
            rintro e w' ⟨rfl, rfl⟩
            rw [hb]
            go_wp2_with fail
            refine (cr_any _ _ g0 g1).mono ?_
            rintro e w2 ⟨rfl, q2, rfl⟩
            rw [hm]
            go_wp2_with fail
            go_ret
            exact ⟨ret_bool (by rw [tok_no hlt (by rw [Hbb.out]; exact Ht.out)]), _, by rw [Hq.out, World.drewN_drewN]⟩
      · go_wp2_with fail
        go_ret
        exact ⟨ret_bool (by rw [tok_yes hpos (by have := HA.out; rwa [List.take_of_length_le (by simp; omega)] at this)]), q, Hq.out⟩
end Go.Proofs.Qxb6613975a
