import Derived.Test.Qxb6613975aWalkC
namespace Go.Proofs.Qxb6613975a
open Go.RowKit

set_option maxHeartbeats 1000000 in
theorem tok_any (s : ByteArray) (w : World) (hs : s.size ≤ 1048576) :
    Calls Try.prog 11 #[.string s] w fun e w' => e = .returned (.bool (tokB s.data.toList)) ∧ w' = w := by
  by_cases h0 : s.size = 0
  · have he : s = ⟨#[]⟩ := by
      obtain ⟨⟨l⟩⟩ := s
      have : l.length = 0 := h0
      rw [List.length_eq_zero_iff.1 this]
    subst he
    go_enter Try.func11, Try.ntmps11
    go_wp2_with fail
    go_ret
    exact ⟨rfl, rfl⟩
  · have hpos : 0 < s.size := by omega
    have hem : ((s.size : Int) == 0) = false := beq_eq_false_iff_ne.2 (by omega)
    go_enter Try.func11, Try.ntmps11
    go_wp2_with fail
    go_loop [3] (fun i => ∃ k : Nat, k ≤ s.size ∧ i = .int .i64 k ∧ Hid ((s.data.toList.take k).all (fun b => tcharB (b.toNat : Int)) = true)) (fun i => s.size - (intOf i).toNat)
    case atStart => exact ⟨0, Nat.zero_le _, rfl, hid rfl⟩
    case round =>
      obtain ⟨k, hk, rfl, HA⟩ := hrel
      by_cases hlt : k < s.size
      · generalize hbb : (s[k].toNat : Int) = c at *
        have Hbb := hid hbb
        cases ht : tcharB c with
        | true =>
          go_wp2_with fail
          refine (tchar_any _ _).mono ?_
          rintro e w' ⟨rfl, rfl⟩
          rw [ht]
          go_wp2_with fail
          go_round
          case rel => exact ⟨k + 1, by omega, by go_num, hid (all_on hlt HA.out (by rw [Hbb.out]; exact ht))⟩
          case measure => simp [intOf]; omega
        | false =>
          go_wp2_with fail
          refine (tchar_any _ _).mono ?_
          rintro e w' ⟨rfl, rfl⟩
          rw [ht]
          go_wp2_with fail
          go_ret
          exact ⟨ret_bool (by rw [tok_no hlt (by rw [Hbb.out]; exact ht)]), rfl⟩
      · go_wp2_with fail
        go_ret
        exact ⟨ret_bool (by rw [tok_yes hpos (by have := HA.out; rwa [List.take_of_length_le (by simp; omega)] at this)]), rfl⟩

set_option maxHeartbeats 1000000 in
theorem zzbare_any (c : Int) (w : World) : Calls Try.prog 6 #[.int .u8 c] w fun e w' => e = .returned (.bool (bareB c)) ∧ w' = w := by
  go_enter Try.func6, Try.ntmps6
  go_wp2_with (go_at_call 12; refine (bare_any _ _).mono ?_; rintro e w' ⟨rfl, rfl⟩)
  go_ret
  exact ⟨rfl, rfl⟩
set_option maxHeartbeats 1000000 in
theorem zzstart_any (c : Int) (w : World) : Calls Try.prog 7 #[.int .u8 c] w fun e w' => e = .returned (.bool (startB c)) ∧ w' = w := by
  go_enter Try.func7, Try.ntmps7
  go_wp2_with (go_at_call 13; refine (start_any _ _).mono ?_; rintro e w' ⟨rfl, rfl⟩)
  go_ret
  exact ⟨rfl, rfl⟩
set_option maxHeartbeats 1000000 in
theorem zztok_any (s : ByteArray) (w : World) (hs : s.size ≤ 1048576) : Calls Try.prog 8 #[.string s] w fun e w' => e = .returned (.bool (tokB s.data.toList)) ∧ ∃ n, w' = w.drewN n := by
  have H := hid (ist_any s w hs)
  go_enter Try.func8, Try.ntmps8
  go_wp2_with fail
  refine H.out.mono ?_
  rintro e w' ⟨rfl, n, rfl⟩
  go_wp2_with fail
  go_ret
  exact ⟨rfl, n, rfl⟩
set_option maxHeartbeats 1000000 in
theorem zzb_any (c : Int) (s : ByteArray) (w : World) (hs : s.size ≤ maxLen) : Calls Try.prog 5 #[.int .u8 c, .string s] w fun e w' => e = .returned (.bool (decide (s.size ≤ 1048576))) ∧ w' = w := by
  unfold maxLen at hs
  by_cases h : 1048576 < s.size
  · go_enter Try.func5, Try.ntmps5
    go_wp2
    go_ret
    exact ⟨ret_bool (by simp; omega), rfl⟩
  · go_enter Try.func5, Try.ntmps5
    go_wp2
    go_ret
    exact ⟨ret_bool (by simp; omega), rfl⟩

theorem run_one (b : UInt8) (w : World) :
    (convert 23 9 (.slice (some ⟨w.heap.size, 0, none⟩) 1 1)).run Try.prog (w.alloc (.cells #[.int .u8 (b.toNat : Int)] 5)) = .ok (.string ⟨#[b]⟩) (w.alloc (.cells #[.int .u8 (b.toNat : Int)] 5)) := by
  have := run_convert_bytes_back (P := Try.prog) (w.alloc (.cells #[.int .u8 (b.toNat : Int)] 5)) 23 9 5 ⟨w.heap.size, 0, none⟩ 1 [b] Try.underlying23 Try.underlying5 Try.underlying9 (fun j hj => by
    match j, hj with
    | 0, _ => simp [Addr.add])
  simpa using this

theorem grown_one (w : World) (o : Array Value) (n : Nat) : Grown w ((w.alloc (.cells o 5)).drewN n) :=
  ((Grown.refl w).alloc o 5 : Grown w (w.alloc (.cells o 5)))

set_option maxHeartbeats 2000000 in
theorem top (b : UInt8) (s : ByteArray) (w : World) (hs : s.size ≤ 4096)
    (al ba st tc ts jo em e95 e45 e34 e39 : Bool) (ha : alnumB (b.toNat : Int) = al) (hb : bareB (b.toNat : Int) = ba) (hst : startB (b.toNat : Int) = st) (htc : tcharB (b.toNat : Int) = tc) (ht1 : tokB [b] = tc)
    (hts : tokB s.data.toList = ts) (hjo : tokB (s.data.toList ++ [b]) = jo) (hem : s.toList.isEmpty = em) (h95 : ((b.toNat : Int) == 95) = e95) (h45 : ((b.toNat : Int) == 45) = e45) (h34 : ((b.toNat : Int) == 34) = e34) (h39 : ((b.toNat : Int) == 39) = e39)
    (q1 : ba = (al || e95 || e45)) (q2 : st = (ba || e34 || e39)) (q3 : (!ba || tc) = true) (q4 : jo = (tc && (em || ts))) :
    Calls Try.prog 3 #[.int .u8 (b.toNat : Int), .string s] w fun e w' => e = .returned (.bool true) ∧ Grown w w' := by
  have HZ := hid (zzb_any (b.toNat : Int) s w (by unfold maxLen; omega))
  have hcv := run_one b
  have Hb := hid hb
  have Hst := hid hst
  have Ha := hid ha
  have Ht1 := hid ht1
  have Hts := hid hts
  have Hjo := hid hjo
  have Htc := hid htc
  have H95 := hid h95
  have H45 := hid h45
  have H34 := hid h34
  have H39 := hid h39
  have Hem := hid hem
  have hdn : decide ((4096 : Int) < (s.size : Int)) = false := decide_eq_false (by omega)
  clear hb hst ha ht1 hts hjo htc h95 h45 h34 h39 hem
  go_enter Try.func3, Try.ntmps3
  go_wp2_with fail
  refine HZ.out.mono ?_
  rintro e w' ⟨rfl, rfl⟩
  rw [show decide (s.size ≤ 1048576) = true by simp; omega]
  clear HZ
  go_wp2_with fail
  refine (zzbare_any _ _).mono ?_
  rintro e w1 ⟨rfl, rfl⟩
  rw [Hb.out]
  go_wp2_with fail
  refine (zzstart_any _ _).mono ?_
  rintro e w1 ⟨rfl, rfl⟩
  rw [Hst.out]
  go_wp2_with fail
  refine (zztok_any ⟨#[b]⟩ _ (show 1 ≤ 1048576 by decide)).mono ?_
  rintro e w1 ⟨rfl, n1, rfl⟩
  rw [show (ByteArray.mk #[b]).data.toList = [b] from rfl, Ht1.out]
  go_wp2_with fail
  refine (zztok_any _ _ (by omega)).mono ?_
  rintro e w1 ⟨rfl, n2, rfl⟩
  rw [Hts.out]
  go_wp2_with fail
  refine (zztok_any _ _ (by rw [ByteArray.size_append]; show s.size + 1 ≤ 1048576; omega)).mono ?_
  rintro e w1 ⟨rfl, n3, rfl⟩
  rw [show (s ++ ByteArray.mk #[b]).data.toList = s.data.toList ++ [b] by simp, Hjo.out]
  go_wp2_with fail
  refine (alnum_any _ _).mono ?_
  rintro e w1 ⟨rfl, rfl⟩
  rw [Ha.out]
  have h95 := H95.out
  have h45 := H45.out
  have h34 := H34.out
  have h39 := H39.out
  have hem := Hem.out
  clear H95 H45 H34 H39 Hem
  cases al with
  | true =>
    simp only [Bool.true_or] at q1
    subst q1
    simp only [Bool.true_or] at q2
    subst q2
    simp only [Bool.not_true, Bool.false_or] at q3
    subst q3
    go_wp2_with (first | (go_at_call 10; refine (tchar_any _ _).mono ?_; rintro e w1 ⟨rfl, rfl⟩; rw [Htc.out]) | (go_at_call 11; refine (tok_any _ _ (by omega)).mono ?_; rintro e w1 ⟨rfl, rfl⟩; rw [Hts.out]))
    all_goals
      go_ret
      exact ⟨rfl, grown_one _ _ _⟩
  | false =>
    cases e95 with
    | true =>
      simp only [Bool.false_or, Bool.true_or] at q1
      subst q1
      simp only [Bool.true_or] at q2
      subst q2
      simp only [Bool.not_true, Bool.false_or] at q3
      subst q3
      go_wp2_with (first | (go_at_call 10; refine (tchar_any _ _).mono ?_; rintro e w1 ⟨rfl, rfl⟩; rw [Htc.out]) | (go_at_call 11; refine (tok_any _ _ (by omega)).mono ?_; rintro e w1 ⟨rfl, rfl⟩; rw [Hts.out]))
      all_goals
        go_ret
        exact ⟨rfl, grown_one _ _ _⟩
    | false =>
      cases e45 with
      | true =>
        simp only [Bool.false_or] at q1
        subst q1
        simp only [Bool.true_or] at q2
        subst q2
        simp only [Bool.not_true, Bool.false_or] at q3
        subst q3
        go_wp2_with (first | (go_at_call 10; refine (tchar_any _ _).mono ?_; rintro e w1 ⟨rfl, rfl⟩; rw [Htc.out]) | (go_at_call 11; refine (tok_any _ _ (by omega)).mono ?_; rintro e w1 ⟨rfl, rfl⟩; rw [Hts.out]))
        all_goals
          go_ret
          exact ⟨rfl, grown_one _ _ _⟩
      | false =>
        simp only [Bool.false_or] at q1
        subst q1
        simp only [Bool.false_or] at q2
        subst q2
        clear q3
        cases e34 <;> cases e39 <;> cases tc
        all_goals
          go_wp2_with (first | (go_at_call 10; refine (tchar_any _ _).mono ?_; rintro e w1 ⟨rfl, rfl⟩; rw [Htc.out]) | (go_at_call 11; refine (tok_any _ _ (by omega)).mono ?_; rintro e w1 ⟨rfl, rfl⟩; rw [Hts.out]))
        all_goals
          go_ret
          exact ⟨rfl, grown_one _ _ _⟩
end Go.Proofs.Qxb6613975a
