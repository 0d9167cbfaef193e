import Derived.Test.Qxb6613975aWalkA
import Derived.Lib.IndexBytes
namespace Go.Proofs.Qxb6613975a
open Go.RowKit

set_option maxHeartbeats 1000000 in
theorem start_any (c : Int) (w : World) : Calls Try.prog 13 #[.int .u8 c] w fun e w' => e = .returned (.bool (startB c)) ∧ w' = w := by
  cases hb : bareB c with
  | true =>
    have hb' := of_decide_eq_true hb
    go_enter Try.func13, Try.ntmps13
    go_wp2_with (go_at_call 12; refine (bare_any _ _).mono ?_; rintro e w' ⟨rfl, rfl⟩; rw [hb])
    go_ret
    exact ⟨ret_bool (by rw [Bool.eq_iff_iff]; simp [startB] <;> omega), rfl⟩
  | false =>
    have hb' := of_decide_eq_false hb
    go_enter Try.func13, Try.ntmps13
    go_wp2_with (go_at_call 12; refine (bare_any _ _).mono ?_; rintro e w' ⟨rfl, rfl⟩; rw [hb])
    all_goals
      go_ret
      exact ⟨ret_bool (by rw [Bool.eq_iff_iff]; simp [startB] <;> omega), rfl⟩

set_option maxHeartbeats 2000000 in
theorem tchar_any (c : Int) (w : World) : Calls Try.prog 10 #[.int .u8 c] w fun e w' => e = .returned (.bool (tcharB c)) ∧ w' = w := by
  cases hb : alnumB c with
  | true =>
    have hb' := of_decide_eq_true hb
    go_enter Try.func10, Try.ntmps10
    go_wp2_with (go_at_call 9; refine (alnum_any _ _).mono ?_; rintro e w' ⟨rfl, rfl⟩; rw [hb])
    go_ret
    exact ⟨ret_bool (by rw [Bool.eq_iff_iff]; simp [tcharB] <;> omega), rfl⟩
  | false =>
    have hb' := of_decide_eq_false hb
    have Hb := hid hb'
    clear hb'
    go_enter Try.func10, Try.ntmps10
    go_wp2_with (go_at_call 9; refine (alnum_any _ _).mono ?_; rintro e w' ⟨rfl, rfl⟩; rw [hb])
    all_goals
      go_ret
      refine ⟨ret_bool ?_, rfl⟩
      have hq := Hb.out
      simp only [beq_eq_false_iff_ne, beq_iff_eq, ne_eq] at *
      rw [Bool.eq_iff_iff]
      simp [tcharB] <;> omega

set_option maxHeartbeats 1000000 in
set_option maxRecDepth 100000 in
theorem lixb_any (s : ByteArray) (c : Int) (w : World) :
    Calls Try.prog 22 #[.string s, .int .u8 c] w fun e w' => e = .returned (.int .i64 (Lib.indexByte s.data.toList c.toNat.toUInt8)) ∧ w' = w := by
  go_enter Try.func22, Try.ntmps22
  go_wp2
  rw [run_callFunc_extern Try.func23 (by kernel_rfl) (by kernel_rfl) (by kernel_rfl) (e := Extern.BytealgIndexByte.indexByte) (by kernel_rfl), Lib.run_indexByteString]
  simp only [Result.andThen]
  rw [Oper.upon_value]
  go_wp2
  go_ret
  exact ⟨rfl, rfl⟩

set_option maxHeartbeats 1000000 in
theorem ixb_any (s : ByteArray) (c : Int) (w : World) :
    Calls Try.prog 18 #[.string s, .int .u8 c] w fun e w' => e = .returned (.int .i64 (Lib.indexByte s.data.toList c.toNat.toUInt8)) ∧ w' = w := by
  go_enter Try.func18, Try.ntmps18
  go_wp2_with (go_at_call 22; refine (lixb_any _ _ _).mono ?_; rintro e w' ⟨rfl, rfl⟩)
  go_ret
  exact ⟨rfl, rfl⟩

set_option maxHeartbeats 1000000 in
theorem vr_any (r : Int) (w : World) (h1 : 128 ≤ r) (h2 : r < 256) : Calls Try.prog 19 #[.int .i32 r] w fun e w' => e = .returned (.bool true) ∧ w' = w := by
  go_enter Try.func19, Try.ntmps19
  go_wp2
  go_ret
  exact ⟨rfl, rfl⟩

/-- The marks of a token, as the text of 'isToken' lists them. -/
def marks : ByteArray := ⟨#[33, 35, 36, 37, 38, 39, 42, 43, 46, 94, 96, 124, 126]⟩

set_option maxHeartbeats 1000000 in
set_option maxRecDepth 100000 in
theorem ixr_low (r : Int) (w : World) (h0 : 0 ≤ r) (h1 : r < 128) :
    Calls Try.prog 17 #[.string ⟨#[33, 35, 36, 37, 38, 39, 42, 43, 46, 94, 96, 124, 126]⟩, .int .i32 r] w fun e w' => e = .returned (.int .i64 (Lib.indexByte marks.data.toList r.toNat.toUInt8)) ∧ ∃ n, w' = w.drewN n := by
  go_enter Try.func17, Try.ntmps17
  go_wp2_with (go_at_call 18; refine (ixb_any _ _ _).mono ?_; rintro e w' ⟨rfl, rfl⟩)
  go_ret
  exact ⟨rfl, 0, rfl⟩

theorem enc_two (r : Int) (h1 : 128 ≤ r) (h2 : r < 256) : Utf8.encode r = ⟨#[UInt8.ofNat (192 + r.toNat / 64), UInt8.ofNat (128 + r.toNat % 64)]⟩ := by
  have hv : Utf8.valid r = true := by simp [Utf8.valid]; omega
  unfold Utf8.encode
  rw [if_pos hv]
  simp only
  rw [if_neg (by omega), if_pos (by omega)]

theorem ix_absent : ∀ (l : List UInt8) (c : UInt8), (∀ b ∈ l, b.toNat < 128) → 128 ≤ c.toNat → Lib.indexByte l c = -1
  | [], _, _, _ => rfl
  | b :: l, c, h, hc => by
    have hb : (b == c) = false := beq_eq_false_iff_ne.2 (fun e => by have := h b (by simp); rw [e] at this; omega)
    unfold Lib.indexByte
    rw [hb, ix_absent l c (fun x hx => h x (by simp [hx])) hc]
    rfl

/-- A text of ASCII bytes holds no rune of two bytes: the search answers -1 at its first round. -/
theorem ascii_at {s : ByteArray} (ha : ∀ b ∈ s.data.toList, b.toNat < 128) (k : Nat) (h : k < s.size) : s[k].toNat < 128 :=
  ha _ (by have : s[k] = s.data.toList[k]'(by simpa using h) := rfl
           rw [this]; exact List.getElem_mem _)

set_option maxHeartbeats 1000000 in
theorem ixb_none (s : ByteArray) (k : Nat) (c : UInt8) (ha : ∀ b ∈ s.data.toList, b.toNat < 128) (hc : 128 ≤ c.toNat) (w : World) :
    Calls Try.prog 18 #[.string (s.extract k s.size), .int .u8 (c.toNat : Int)] w fun e w' => e = .returned (.int .i64 (-1)) ∧ w' = w := by
  refine (ixb_any _ _ _).mono ?_
  rintro e w' ⟨rfl, rfl⟩
  rw [Lib.extract_to_end, show ((c.toNat : Int)).toNat.toUInt8 = c by simp, ix_absent _ c (fun b hb => ha b (List.mem_of_mem_drop hb)) hc]
  exact ⟨rfl, rfl⟩

set_option maxHeartbeats 1000000 in
set_option maxRecDepth 100000 in
theorem ixr_high (s : ByteArray) (r : Int) (w : World) (h1 : 128 ≤ r) (h2 : r < 256) (_hs : s.size ≤ 1048576) (ha : ∀ b ∈ s.data.toList, b.toNat < 128) :
    Calls Try.prog 17 #[.string s, .int .i32 r] w fun e w' => e = .returned (.int .i64 (-1)) ∧ ∃ n, w' = w.drewN n := by
  obtain ⟨rs, l, henc, hsz, hl, hl3, hy⟩ : ∃ (rs : ByteArray) (l : Nat), Utf8.encode r = rs ∧ rs.size = l + 1 ∧ 1 ≤ l ∧ l ≤ 3 ∧ ∀ h : l < rs.size, 128 ≤ rs[l].toNat :=
    ⟨_, 1, enc_two r h1 h2, rfl, by omega, by omega, fun _ => by show 128 ≤ (UInt8.ofNat (128 + r.toNat % 64)).toNat; simp; omega⟩
  have hne : (r == 65533) = false := beq_eq_false_iff_ne.2 (by omega)
  have hr128 : decide (r < 128) = false := decide_eq_false (by omega)
  have hll : l < rs.size := by omega
  have hy' := hy hll
  have HA := hid ha
  clear hy ha
  go_enter Try.func17, Try.ntmps17
  go_wp2_with fail
  refine (vr_any r _ h1 h2).mono ?_
  rintro e w' ⟨rfl, rfl⟩
  go_wp2_with fail
  go_step3
  go_wp2_with fail
  go_loopw [9, 10] (fun i f wr => i = .int .i64 l ∧ f = .int .i64 0 ∧ wr = w') (fun _ _ _ => 0)
  case atStart => exact ⟨by go_num, rfl, rfl⟩
  case round =>
    obtain ⟨rfl, rfl, rfl⟩ := hrel
    clear hsz
    have hli : (l : Int) < (rs.size : Int) := by omega
    by_cases hk : l < s.size
    · have hki : (l : Int) < (s.size : Int) := by omega
      have hki1 : (l : Int) + 1 ≤ (s.size : Int) := by omega
      have hki0 : 0 ≤ (l : Int) + 1 := by omega
      have hwr : IntKind.i64.wrap ((l : Int) + 1) = (l : Int) + 1 := by rw [IntKind.wrap_i64]; omega
      have hsl := ascii_at HA.out l hk
      have hne2 : ((s[l].toNat : Int) != (rs[l].toNat : Int)) = true := by rw [bne_iff_ne]; omega
      have HI := hid (ixb_none s (l + 1) rs[l] HA.out hy')
      go_wp2_with fail
      go_step3
      go_wp2_with fail
      go_quiet (fail)
      go_wp2_with fail
      generalize hwq : wr.drewN nq = wq
      have Hwq := hid hwq
      clear hwq
      go_quiet ((go_at_call 18; exact Calls.quiet_of_same (HI.out _)))
      go_wp2_with fail
      rw [Exit.noGoto_ret]
      go_wp2_with fail
      rw [Exit.noGoto_ret]
      go_wp2_with fail
      go_ret
      exact ⟨rfl, _, by rw [← Hwq.out, World.drewN_drewN]⟩
    · go_wp2_with fail
      rw [Exit.noGoto_ret]
      go_wp2_with fail
      go_ret
      exact ⟨rfl, 0, rfl⟩
end Go.Proofs.Qxb6613975a
