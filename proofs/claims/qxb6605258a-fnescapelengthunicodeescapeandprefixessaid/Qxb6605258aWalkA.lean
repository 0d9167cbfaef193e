import Derived.Test.Qxb6605258aProg
import Derived.WalkKit
import Derived.WalkSpells
import Derived.WalkLawsBesides
namespace Go.Proofs.Qxb6605258a
open Go.RowKit

theorem hid {p : Prop} (h : p) : Hid p := h

/-- The bytes that spell a hex digit. -/
def HexP (x : Int) : Prop := (48 ≤ x ∧ x ≤ 57) ∨ (97 ≤ x ∧ x ≤ 102) ∨ (65 ≤ x ∧ x ≤ 70)

set_option maxHeartbeats 400000 in
theorem ishex_yes (x : Int) (h : HexP x) (w : World) : Calls Try.prog 24 #[.int .u8 x] w fun e w' => e = .returned (.bool true) ∧ w' = w := by
  rcases h with ⟨h1, h2⟩ | ⟨h1, h2⟩ | ⟨h1, h2⟩
  · go_enter Try.func24, Try.ntmps24
    go_wp2
    go_ret
    exact ⟨rfl, rfl⟩
  · have h3 : ¬ x ≤ 57 := by omega
    have h4 : 48 ≤ x := by omega
    go_enter Try.func24, Try.ntmps24
    go_wp2
    go_ret
    exact ⟨rfl, rfl⟩
  · have h3 : ¬ x ≤ 57 := by omega
    have h4 : 48 ≤ x := by omega
    have h5 : ¬ 97 ≤ x := by omega
    go_enter Try.func24, Try.ntmps24
    go_wp2
    go_ret
    exact ⟨rfl, rfl⟩

/-- The digit's byte. -/
def hexOf (v : Int) (u : Bool) : Int := if v < 10 then 48 + v else if u then 55 + v else 87 + v
theorem hexOf_hex (v : Int) (u : Bool) (h0 : 0 ≤ v) (h1 : v < 16) : HexP (hexOf v u) := by
  unfold hexOf HexP
  by_cases h : v < 10
  · rw [if_pos h]; omega
  · rw [if_neg h]; cases u <;> simp <;> omega

theorem ret_pair {a b : Int} {p q : Bool} (h : a = b) (k : p = q) : Ending.returned (.tuple #[.int .i64 a, .bool p]) = .returned (.tuple #[.int .i64 b, .bool q]) := by rw [h, k]
theorem ret_int {k : IntKind} {a b : Int} (h : a = b) : Ending.returned (.int k a) = .returned (.int k b) := by rw [h]

set_option maxHeartbeats 400000 in
theorem hexof_any (v : Int) (u : Bool) (h0 : 0 ≤ v) (h1 : v < 16) (w : World) : Calls Try.prog 11 #[.int .u8 v, .bool u] w fun e w' => e = .returned (.int .u8 (hexOf v u)) ∧ w' = w := by
  by_cases h : v < 10
  · go_enter Try.func11, Try.ntmps11
    go_wp2
    go_ret
    exact ⟨ret_int (by rw [hexOf, if_pos h]), rfl⟩
  · cases u with
    | true =>
      go_enter Try.func11, Try.ntmps11
      go_wp2
      go_ret
      exact ⟨ret_int (by rw [hexOf, if_neg (by omega)]; simp; omega), rfl⟩
    | false =>
      go_enter Try.func11, Try.ntmps11
      go_wp2
      go_ret
      exact ⟨ret_int (by rw [hexOf, if_neg (by omega)]; simp; omega), rfl⟩

set_option maxHeartbeats 400000 in
theorem escl_short (a : Option Addr) (n c : Nat) (hn : n < 2) (w : World) : Calls Try.prog 16 #[.slice a n c] w fun e w' => e = .returned (.tuple #[.int .i64 n, .bool false]) ∧ w' = w := by
  go_enter Try.func16, Try.ntmps16
  go_wp2
  go_ret2
  exact ⟨rfl, rfl⟩

set_option maxHeartbeats 400000 in
theorem escl_long (b off n c : Nat) (F : Nat → Int) (hn : 2 ≤ n) (hm : n ≤ 2000000) (w : World) (hc : ∀ i, i < n → i < 6 → w.cell? ⟨b, off + i, none⟩ = some (.int .u8 (F i))) (h1 : F 1 = 117) (hx : ∀ i, 2 ≤ i → i < 6 → i < n → HexP (F i)) :
    Calls Try.prog 16 #[.slice (some ⟨b, off, none⟩) n c] w fun e w' => e = .returned (.tuple #[.int .i64 (min n 6 : Nat), .bool (decide (6 ≤ n))]) ∧ w' = w := by
  have c1 := hc 1 (by omega) (by omega)
  rw [h1] at c1
  have HC := hid hc
  have HX := hid hx
  clear hc hx h1
  go_enter Try.func16, Try.ntmps16
  go_wp2
  go_loop [4] (fun i => ∃ k : Nat, 2 ≤ k ∧ k ≤ 6 ∧ k ≤ n ∧ i = .int .i64 k) (fun i => 6 - (intOf i).toNat)
  case atStart => exact ⟨2, by omega, by omega, by omega, rfl⟩
  case round =>
    obtain ⟨k, hk2, hk6, hkn, rfl⟩ := hrel
    by_cases hlt : k < 6
    · by_cases hl : k < n
      · have ck := HC.out k hl hlt
        have hxk := HX.out k hk2 hlt hl
        have hne : ((k : Int) == (n : Int)) = false := beq_eq_false_iff_ne.2 (by omega)
        go_wp2_with (go_at_call 24; refine (ishex_yes _ hxk _).mono ?_; rintro e w' ⟨rfl, rfl⟩)
        go_round
        case rel => exact ⟨k + 1, by omega, by omega, by omega, by go_num⟩
        case measure => simp [intOf]; omega
      · obtain rfl : k = n := by omega
        go_wp2
        go_ret2
        exact ⟨ret_pair (by omega) (by simp; omega), rfl⟩
    · go_wp2
      go_ret2
      exact ⟨ret_pair (by omega) (by simp; omega), rfl⟩

set_option maxHeartbeats 400000 in
theorem zz_short (a : Option Addr) (n c : Nat) (hn : n < 2) (w : World) : Calls Try.prog 8 #[.slice a n c] w fun e w' => e = .returned (.tuple #[.int .i64 n, .bool false]) ∧ w' = w := by
  go_enter Try.func8, Try.ntmps8
  go_wp2_with (go_at_call 16; refine (escl_short _ _ _ hn _).mono ?_; rintro e w' ⟨rfl, rfl⟩)
  go_ret2
  exact ⟨rfl, rfl⟩

set_option maxHeartbeats 400000 in
theorem zz_long (b off n c : Nat) (F : Nat → Int) (hn : 2 ≤ n) (hm : n ≤ 2000000) (w : World) (hc : ∀ i, i < n → i < 6 → w.cell? ⟨b, off + i, none⟩ = some (.int .u8 (F i))) (h1 : F 1 = 117) (hx : ∀ i, 2 ≤ i → i < 6 → i < n → HexP (F i)) :
    Calls Try.prog 8 #[.slice (some ⟨b, off, none⟩) n c] w fun e w' => e = .returned (.tuple #[.int .i64 (min n 6 : Nat), .bool (decide (6 ≤ n))]) ∧ w' = w := by
  have H := hid (escl_long b off n c F hn hm w hc h1 hx)
  clear hc h1 hx
  go_enter Try.func8, Try.ntmps8
  go_wp2_with fail
  refine H.out.mono ?_
  rintro e w' ⟨rfl, rfl⟩
  go_wp2_with fail
  go_ret2
  exact ⟨rfl, rfl⟩

set_option maxHeartbeats 400000 in
theorem zzb_any (code : Int) (u : Bool) (a : Option Addr) (n c : Nat) (hn : n ≤ maxLen) (w : World) : Calls Try.prog 10 #[.int .u16 code, .bool u, .slice a n c] w fun e w' => e = .returned (.bool (decide (n ≤ 1048576))) ∧ w' = w := by
  unfold maxLen at hn
  by_cases h : 1048576 < n
  · go_enter Try.func10, Try.ntmps10
    go_wp2
    go_ret
    exact ⟨congrArg (fun b => Ending.returned (.bool b)) (by simp; omega), rfl⟩
  · go_enter Try.func10, Try.ntmps10
    go_wp2
    go_ret
    exact ⟨congrArg (fun b => Ending.returned (.bool b)) (by simp; omega), rfl⟩
end Go.Proofs.Qxb6605258a
