import Derived.Test.Qxb6604186aWalkD
import Derived.Test.Qxb6604186aSearch
import Derived.Lib.Strings
import Derived.Lib.Slices
import Derived.Lib.Walk
import Derived.Lib.Bytealg
import Derived.Lib.IndexBytes
import Derived.Deep.QuietTactic
import Derived.BigQuiet
namespace Go.Proofs.Qxb6604186a
open Go.RowKit

set_option maxHeartbeats 1000000 in
set_option maxRecDepth 100000 in
theorem lixb_any (s : ByteArray) (c : Int) (w : World) :
    Calls Try.prog 30 #[.string s, .int .u8 c] w fun e w' => e = .returned (.int .i64 (Lib.indexByte s.data.toList c.toNat.toUInt8)) ∧ w' = w := by
  go_enter Try.func30, Try.ntmps30
  go_wp2
  rw [run_callFunc_extern Try.func34 (by kernel_rfl) (by kernel_rfl) (by kernel_rfl) (e := Extern.BytealgIndexByte.indexByte) (by kernel_rfl), Lib.run_indexByteString]
  simp only [Result.andThen]
  rw [Oper.upon_value]
  go_wp2
  go_ret
  exact ⟨rfl, rfl⟩

set_option maxHeartbeats 1000000 in
theorem ixb_any (s : ByteArray) (c : Int) (w : World) :
    Calls Try.prog 29 #[.string s, .int .u8 c] w fun e w' => e = .returned (.int .i64 (Lib.indexByte s.data.toList c.toNat.toUInt8)) ∧ w' = w := by
  go_enter Try.func29, Try.ntmps29
  go_wp2_with (go_at_call 30; refine (lixb_any _ _ _).mono ?_; rintro e w' ⟨rfl, rfl⟩)
  go_ret
  exact ⟨rfl, rfl⟩

/-- Two strings: the first segment, and what lies behind it; the world has drawn at most. -/
def NextAns (l : List UInt8) (w : World) (e : Ending) (w' : World) : Prop :=
  ∃ s1 s2 : ByteArray, e = .returned (.tuple #[.string s1, .string s2]) ∧ s1.data.toList = oneSeg l ∧ s2.data.toList = skipSeg l ∧ ∃ n, w' = w.drewN n

set_option maxHeartbeats 400000 in
theorem nxt_any (s : ByteArray) (w : World) (h1 : 1 ≤ s.size) (hs : s.size ≤ 1048576) :
    Calls Try.prog 27 #[.string s] w (NextAns s.data.toList w) := by
  have hix := ixb_any (s.extract 1 s.size) 47 w
  have et : (s.extract 1 s.size).data.toList = s.data.toList.tail := by rw [Lib.extract_to_end, List.drop_one]
  have es : (s.extract 1 s.size).size = s.size - 1 := by simp
  rw [et] at hix
  generalize hi : Lib.indexByte s.data.toList.tail (Int.toNat 47).toUInt8 = i at hix
  have Hix := hid hix
  have Hi := hid hi
  have Het := hid et
  clear hix hi et
  by_cases h0 : 0 ≤ i
  · obtain ⟨j, rfl⟩ := Int.eq_ofNat_of_zero_le h0
    obtain ⟨t1, t2, t3⟩ := ix_some _ _ Hi.out
    have hj : j < s.size - 1 := by simpa using t3
    have T1 := hid t1
    have T2 := hid t2
    clear t1 t2 t3
    go_enter Try.func27, Try.ntmps27
    go_wp2_with fail
    refine Hix.out.mono ?_
    rintro e w' ⟨rfl, rfl⟩
    go_wp2_with fail
    go_quiet (fail)
    go_wp2
    go_ret2
    refine ⟨_, _, rfl, ?_, ?_, _, rfl⟩
    · rw [Lib.extract_data, Het.out, oneSeg, T1.out, List.drop_zero]; simp
    · rw [Lib.extract_data, Het.out, skipSeg, T2.out]
      exact List.take_of_length_le (by simp; omega)
  · go_enter Try.func27, Try.ntmps27
    go_wp2_with fail
    refine Hix.out.mono ?_
    rintro e w' ⟨rfl, rfl⟩
    go_wp2
    go_ret2
    obtain ⟨t1, t2⟩ := ix_none _ (show Lib.indexByte s.data.toList.tail 47 < 0 by have := Hi.out; simp at this; omega)
    exact ⟨_, _, rfl, by rw [Het.out, oneSeg, t1], by rw [skipSeg, t2], 0, rfl⟩

theorem bytes_back (s : ByteArray) (l : List UInt8) (h : s.data.toList = l) : s = ⟨l.toArray⟩ := by
  subst h; cases s; simp
theorem ret_str {s : ByteArray} {l : List UInt8} (h : s.data.toList = l) : Ending.returned (.string s) = .returned (.string ⟨l.toArray⟩) := by rw [bytes_back s l h]

theorem StrRow.drewN {w : World} {a : Option Addr} {n : Nat} {S : Nat → ByteArray} (h : StrRow w a n S) (q : Nat) : StrRow (w.drewN q) a n S := h
theorem IntRow.drewN {w : World} {a : Option Addr} {n : Nat} {S : Nat → Int} (h : IntRow w a n S) (q : Nat) : IntRow (w.drewN q) a n S := h
theorem SegRow.drewN {w : World} {a : Option Addr} {n : Nat} {L : Nat → ByteArray} {D R : Nat → Bool} (h : SegRow w a n L D R) (q : Nat) : SegRow (w.drewN q) a n L D R := h

set_option maxHeartbeats 1000000 in
theorem val_any (pb b2 o2 b1 o1 ng cg ni ci i kk : Nat) (path : ByteArray) (w : World) (hs : path.size ≤ 1048576)
    (p5 : w.cell? ⟨pb, 5, none⟩ = some (.slice (some ⟨b2, o2, none⟩) ni ci)) (p4 : w.cell? ⟨pb, 4, none⟩ = some (.slice (some ⟨b1, o1, none⟩) ng cg))
    (hi : i < ni) (hk : kk < ng) (hki : w.cell? ⟨b2, o2 + i, none⟩ = some (.int .i64 kk)) (hr : w.cell? ⟨b1, o1 + kk * 3 + 2, none⟩ = some (.bool false))
    (_hn : ni ≤ 131072) (hn2 : ng ≤ 43690) (hh : path.data.toList.head? = some 47) (hsl : kk < slashes path.data.toList) :
    Calls Try.prog 25 #[.pointer (some ⟨pb, 0, none⟩), .string path, .int .i64 i] w fun e w' => e = .returned (.string ⟨(valSeg path.data.toList kk).toArray⟩) ∧ ∃ n, w' = w.drewN n := by
  have Hh := hid hh
  clear hh
  go_enter Try.func25, Try.ntmps25
  go_wp2_with fail
  go_loopw [1, 18] (fun p j wr => ∃ (m : Nat) (pj : ByteArray), m ≤ kk ∧ j = .int .i64 m ∧ p = .string pj ∧ pj.size ≤ 1048576 ∧ Hid (pj.data.toList.head? = some 47 ∧ slashes pj.data.toList + m = slashes path.data.toList ∧ valSeg path.data.toList kk = valSeg pj.data.toList (kk - m)) ∧ ∃ q, wr = w.drewN q) (fun _ j _ => kk - (intOf j).toNat)
  case atStart => exact ⟨0, path, Nat.zero_le _, rfl, rfl, hs, hid ⟨Hh.out, rfl, rfl⟩, 0, rfl⟩
  case round =>
    obtain ⟨m, pj, hm, rfl, rfl, hpj, HP, q, rfl⟩ := hrel
    have h1 : 1 ≤ pj.size := by
      have := HP.out.1
      have h2 : pj.data.toList ≠ [] := by intro e; rw [e] at this; simp at this
      have h3 := List.length_pos_iff.2 h2
      have h4 : pj.data.toList.length = pj.size := by simp
      omega
    by_cases hlt : m < kk
    · go_wp2_with fail
      refine (nxt_any pj _ h1 hpj).mono ?_
      rintro e w' ⟨s1, s2, rfl, e1, e2, q2, rfl⟩
      have HE := hid e2
      have hz : s2.size ≤ 1048576 := by
        have h2 : s2.data.toList.length = s2.size := by simp
        have h3 : pj.data.toList.length = pj.size := by simp
        have h4 : (skipSeg pj.data.toList).length ≤ pj.data.toList.tail.length := (List.dropWhile_suffix _).length_le
        rw [e2] at h2
        simp at h4
        omega
      clear e1 e2
      go_wp2
      go_roundw
      case rel =>
        obtain ⟨a1, a2, a3⟩ := HP.out
        have b1 := slashes_skip a1
        have b2 : (skipSeg pj.data.toList).head? = some 47 := head_skip (by omega)
        refine ⟨m + 1, s2, by omega, by go_num, rfl, hz, hid ⟨by rw [HE.out]; exact b2, by rw [HE.out]; omega, ?_⟩, _, rfl⟩
        rw [HE.out, a3, show kk - m = kk - (m + 1) + 1 by omega, valSeg]
      case measure => simp [intOf]; omega
    · go_wp2_with fail
      refine (nxt_any pj _ h1 hpj).mono ?_
      rintro e w' ⟨s1, s2, rfl, e1, e2, q2, rfl⟩
      have HE := hid e1
      clear e1 e2
      go_wp2
      go_ret
      obtain ⟨a1, a2, a3⟩ := HP.out
      exact ⟨ret_str (by rw [a3, HE.out, show kk - m = 0 by omega, valSeg]), _, rfl⟩
end Go.Proofs.Qxb6604186a
