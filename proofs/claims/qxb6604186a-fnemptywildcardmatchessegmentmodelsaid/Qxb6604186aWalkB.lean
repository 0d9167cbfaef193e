import Derived.Test.Qxb6604186aWalkA
import Derived.Test.Qxb6604186aBytes
namespace Go.Proofs.Qxb6604186a
open Go.RowKit

theorem hid {p : Prop} (h : p) : Hid p := h
theorem ret_bool {a b : Bool} (h : a = b) : Ending.returned (.bool a) = .returned (.bool b) := by rw [h]
theorem ret_int {k : IntKind} {a b : Int} (h : a = b) : Ending.returned (.int k a) = .returned (.int k b) := by rw [h]

set_option maxHeartbeats 400000 in
theorem hds_any (s : ByteArray) (w : World) (hs : s.size ≤ 1048576) :
    Calls Try.prog 11 #[.string s] w fun e w' => e = .returned (.bool (hasDS s.data.toList)) ∧ w' = w := by
  go_enter Try.func11, Try.ntmps11
  go_wp2
  go_loop [3] (fun i => ∃ k : Nat, k ≤ s.size ∧ i = .int .i64 k ∧ Hid (hasDS s.data.toList = hasDS (s.data.toList.drop k))) (fun i => s.size - (intOf i).toNat)
  case atStart => exact ⟨0, Nat.zero_le _, rfl, hid rfl⟩
  case round =>
    obtain ⟨k, hk, rfl, HD⟩ := hrel
    by_cases hlt : k + 1 < s.size
    · go_wp2
      · go_ret
        exact ⟨ret_bool (by rw [HD.out, hds_hit s k hlt ‹_› ‹_›]), rfl⟩
      · go_round
        case rel => exact ⟨k + 1, by omega, by go_num, hid (by rw [HD.out, hds_miss2 s k hlt ‹_›])⟩
        case measure => simp [intOf]; omega
      · go_round
        case rel => exact ⟨k + 1, by omega, by go_num, hid (by rw [HD.out, hds_miss1 s k (by omega) ‹_›])⟩
        case measure => simp [intOf]; omega
    · go_wp2
      go_ret
      exact ⟨ret_bool (by rw [HD.out, hds_end s k hlt]), rfl⟩

set_option maxHeartbeats 400000 in
theorem cnt_any (s : ByteArray) (w : World) (hs : s.size ≤ 1048576) :
    Calls Try.prog 22 #[.string s] w fun e w' => e = .returned (.int .i64 (slashes s.data.toList)) ∧ w' = w := by
  go_enter Try.func22, Try.ntmps22
  go_wp2
  go_loop [3, 4] (fun n i => ∃ k : Nat, k ≤ s.size ∧ i = .int .i64 k ∧ n = .int .i64 (slashes (s.data.toList.take k))) (fun _ i => s.size - (intOf i).toNat)
  case atStart => exact ⟨0, Nat.zero_le _, rfl, rfl⟩
  case round =>
    obtain ⟨k, hk, rfl, rfl⟩ := hrel
    have hd := slashes_le (s.data.toList.take k)
    have hl : (s.data.toList.take k).length ≤ k := List.length_take_le _ _
    by_cases hlt : k < s.size
    · have HS : Hid (slashes (s.data.toList.take (k + 1)) = slashes (s.data.toList.take k) + if (s[k].toNat : Int) = 47 then 1 else 0) := hid (slashes_step s k hlt)
      go_wp2
      all_goals
        go_round
        case rel => exact ⟨k + 1, by omega, by go_num, by rw [HS.out]; first | (rw [if_pos (beq_iff_eq.1 ‹_›)]; go_num) | (rw [if_neg (beq_eq_false_iff_ne.1 ‹_›)]; go_num)⟩
        case measure => simp [intOf]; omega
    · go_wp2
      go_ret
      exact ⟨ret_int (by rw [List.take_of_length_le (by simp; omega)]), rfl⟩

set_option maxHeartbeats 400000 in
theorem sie_any (s : ByteArray) (kk : Nat) (w : World) (hs : s.size ≤ 1048576) :
    Calls Try.prog 17 #[.string s, .int .i64 kk] w fun e w' => e = .returned (.bool (segEmpty s.data.toList kk)) ∧ w' = w := by
  go_enter Try.func17, Try.ntmps17
  go_wp2
  go_loop [5, 6] (fun n i => ∃ k m : Nat, k ≤ s.size ∧ i = .int .i64 k ∧ m ≤ k ∧ m ≤ kk ∧ n = .int .i64 m ∧ Hid (segEmpty s.data.toList kk = segEmpty (s.data.toList.drop k) (kk - m))) (fun _ i => s.size - (intOf i).toNat)
  case atStart => exact ⟨0, 0, Nat.zero_le _, rfl, Nat.zero_le _, Nat.zero_le _, rfl, hid rfl⟩
  case round =>
    obtain ⟨k, m, hk, rfl, hm, hmk, rfl, HD⟩ := hrel
    by_cases hlt : k < s.size
    · go_wp2
      · obtain rfl : m = kk := by have := beq_iff_eq.1 ‹((m : Int) == (kk : Int)) = true›; omega
        go_ret
        exact ⟨ret_bool (by rw [HD.out, Nat.sub_self, seg_here_end s k hlt (beq_iff_eq.1 ‹_›) (by omega)]), rfl⟩
      · obtain rfl : m = kk := by have := beq_iff_eq.1 ‹((m : Int) == (kk : Int)) = true›; omega
        have hlt2 : k + 1 < s.size := by omega
        go_ret
        exact ⟨ret_bool (by rw [HD.out, Nat.sub_self, seg_here_in s k hlt2 (beq_iff_eq.1 ‹_›)]; simp; omega), rfl⟩
      · have hne : m ≠ kk := by have := beq_eq_false_iff_ne.1 ‹((m : Int) == (kk : Int)) = false›; omega
        go_round
        case rel => exact ⟨k + 1, m + 1, by omega, by go_num, by omega, by omega, by go_num, hid (by rw [HD.out, show kk - m = (kk - (m + 1)) + 1 by omega, seg_on s k _ hlt (beq_iff_eq.1 ‹_›)])⟩
        case measure => simp [intOf]; omega
      · go_round
        case rel => exact ⟨k + 1, m, by omega, by go_num, by omega, by omega, rfl, hid (by rw [HD.out, seg_over s k _ hlt (beq_eq_false_iff_ne.1 ‹_›)])⟩
        case measure => simp [intOf]; omega
    · go_wp2
      go_ret
      exact ⟨ret_bool (by rw [HD.out, drop_end s k (by omega)]; rfl), rfl⟩
end Go.Proofs.Qxb6604186a
