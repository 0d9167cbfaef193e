import Derived.Test.Qxb6604186aProg
import Derived.WalkKit
import Derived.WalkSpells
import Derived.WalkLawsBesides
namespace Go.Proofs.Qxb6604186a
open Go.RowKit

/-- A call that answers one bool and leaves the world: where it answers 'no', p holds. -/
def BoolAns (p : Prop) (w : World) (e : Ending) (w' : World) : Prop := ∃ b : Bool, e = .returned (.bool b) ∧ (b = false → p) ∧ w' = w
theorem BoolAns.yes {p : Prop} {w : World} : BoolAns p w (.returned (.bool true)) w := ⟨true, rfl, (fun h => by cases h), rfl⟩
theorem BoolAns.no {p : Prop} {w : World} (h : p) : BoolAns p w (.returned (.bool false)) w := ⟨false, rfl, fun _ => h, rfl⟩

/-- A slice of strings as the walk reads it. -/
def StrRow (w : World) (a : Option Addr) (n : Nat) (S : Nat → ByteArray) : Prop :=
  0 < n → ∃ b off, a = some ⟨b, off, none⟩ ∧ ∀ i, i < n → w.cell? ⟨b, off + i, none⟩ = some (.string (S i))
/-- A slice of segments as the walk reads it: literal, wildcard, rest. -/
def SegRow (w : World) (a : Option Addr) (n : Nat) (L : Nat → ByteArray) (D R : Nat → Bool) : Prop :=
  0 < n → ∃ b off, a = some ⟨b, off, none⟩ ∧ ∀ i, i < n → w.cell? ⟨b, off + i * 3, none⟩ = some (.string (L i)) ∧ w.cell? ⟨b, off + i * 3 + 1, none⟩ = some (.bool (D i)) ∧ w.cell? ⟨b, off + i * 3 + 2, none⟩ = some (.bool (R i))
/-- A slice of ints as the walk reads it. -/
def IntRow (w : World) (a : Option Addr) (n : Nat) (K : Nat → Int) : Prop :=
  0 < n → ∃ b off, a = some ⟨b, off, none⟩ ∧ ∀ i, i < n → w.cell? ⟨b, off + i, none⟩ = some (.int .i64 (K i))

set_option maxHeartbeats 400000 in
theorem stb_any (aw : Option Addr) (nw cw : Nat) (S : Nat → ByteArray) (w : World)
    (hw : StrRow w aw nw S) (hn : nw ≤ maxLen) :
    Calls Try.prog 21 #[.slice aw nw cw] w (BoolAns (nw ≤ 65536) w) := by
  unfold maxLen at hn
  by_cases h : 65536 < nw
  · go_enter Try.func21, Try.ntmps21
    go_wp2
    go_ret
    exact BoolAns.yes
  · go_enter Try.func21, Try.ntmps21
    go_wp2
    go_loop [3, 4] (fun t i => ∃ k : Nat, k ≤ nw ∧ i = .int .i64 k ∧ ∃ z : Int, t = .int .i64 z) (fun _ i => nw - (intOf i).toNat)
    case atStart => exact ⟨0, Nat.zero_le _, rfl, _, rfl⟩
    case round =>
      obtain ⟨k, hk, rfl, z, rfl⟩ := hrel
      by_cases hlt : k < nw
      · obtain ⟨b, off, rfl, hc⟩ := hw (by omega)
        have hck := hc k hlt
        go_wp2
        · go_ret; exact BoolAns.yes
        · go_ret; exact BoolAns.yes
        · go_round
          case rel => exact ⟨k + 1, by omega, by go_num, _, rfl⟩
          case measure => simp [intOf]; omega
      · go_wp2
        go_ret
        exact BoolAns.no (by omega)

set_option maxHeartbeats 400000 in
theorem zzb_any (er : Bool) (mux tpl path : ByteArray) (aw ag ai : Option Addr) (nw cw ng cg ni ci : Nat) (S L : Nat → ByteArray) (D R : Nat → Bool) (w : World)
    (hw : StrRow w aw nw S) (hg : SegRow w ag ng L D R) (hn : nw ≤ maxLen) (hn2 : ng ≤ maxLen) :
    Calls Try.prog 9 #[.bool er, .string mux, .string tpl, .slice aw nw cw, .slice ag ng cg, .slice ai ni ci, .string path] w (BoolAns True w) := by
  unfold maxLen at hn hn2
  go_enter Try.func9, Try.ntmps9
  go_wp2
  all_goals try (go_ret; exact BoolAns.no trivial)
  go_loop [15, 16] (fun t i => ∃ k : Nat, k ≤ nw ∧ i = .int .i64 k ∧ ∃ z : Int, t = .int .i64 z) (fun _ i => nw - (intOf i).toNat)
  case atStart => exact ⟨0, Nat.zero_le _, rfl, _, rfl⟩
  case round =>
    obtain ⟨k, hk, rfl, z, rfl⟩ := hrel
    by_cases hlt : k < nw
    · obtain ⟨b, off, rfl, hc⟩ := hw (by omega)
      have hck := hc k hlt
      go_wp2
      · go_ret; exact BoolAns.no trivial
      · go_ret; exact BoolAns.no trivial
      · go_round
        case rel => exact ⟨k + 1, by omega, by go_num, _, rfl⟩
        case measure => simp [intOf]; omega
    · go_wp2
      all_goals try (go_ret; exact BoolAns.no trivial)
      go_loop [15, 17] (fun t i => ∃ k : Nat, k ≤ ng ∧ i = .int .i64 k ∧ ∃ z : Int, t = .int .i64 z) (fun _ i => ng - (intOf i).toNat)
      case atStart => exact ⟨0, Nat.zero_le _, rfl, _, rfl⟩
      case round =>
        obtain ⟨k, hk, rfl, z, rfl⟩ := hrel
        by_cases hlt : k < ng
        · obtain ⟨b, off, rfl, hc⟩ := hg (by omega)
          have hck := (hc k hlt).1
          go_wp2
          · go_ret; exact BoolAns.no trivial
          · go_ret; exact BoolAns.no trivial
          · go_round
            case rel => exact ⟨k + 1, by omega, by go_num, _, rfl⟩
            case measure => simp [intOf]; omega
        · go_wp2
          all_goals try (go_ret; exact BoolAns.no trivial)
          all_goals (go_ret; exact BoolAns.yes)

/-- What 'emptyWildcardTooBig' answering 'no' tells. -/
def Small (nw ng ni m : Nat) : Prop := nw ≤ 65536 ∧ ng ≤ 43690 ∧ ni ≤ 131072 ∧ m ≤ 1048576

set_option maxHeartbeats 1000000 in
theorem ewtb_any (mux tpl path : ByteArray) (aw ag ai : Option Addr) (nw cw ng cg ni ci : Nat) (S L : Nat → ByteArray) (D R : Nat → Bool) (w : World)
    (hw : StrRow w aw nw S) (hg : SegRow w ag ng L D R) (hn : nw ≤ maxLen) (hn2 : ng ≤ maxLen) (hn3 : ni ≤ maxLen) :
    Calls Try.prog 10 #[.string mux, .string tpl, .slice aw nw cw, .slice ag ng cg, .slice ai ni ci, .string path] w (BoolAns (Small nw ng ni path.size) w) := by
  have hstb := stb_any aw nw cw S w hw hn
  have Hstb : Hid (Calls Try.prog 21 #[.slice aw nw cw] w (BoolAns (nw ≤ 65536) w)) := hstb
  clear hstb
  unfold maxLen at hn hn2 hn3
  by_cases c1 : 1048576 < mux.size
  · go_enter Try.func10, Try.ntmps10
    go_wp2
    go_ret; exact BoolAns.yes
  by_cases c2 : 1048576 < tpl.size
  · go_enter Try.func10, Try.ntmps10
    go_wp2
    go_ret; exact BoolAns.yes
  by_cases c3 : 1048576 < path.size
  · go_enter Try.func10, Try.ntmps10
    go_wp2
    go_ret; exact BoolAns.yes
  by_cases c4 : 131072 < ni
  · go_enter Try.func10, Try.ntmps10
    go_wp2
    go_ret; exact BoolAns.yes
  by_cases c5 : 43690 < ng
  · go_enter Try.func10, Try.ntmps10
    go_wp2
    go_ret; exact BoolAns.yes
  go_enter Try.func10, Try.ntmps10
  go_wp2_with fail
  refine Hstb.out.mono ?_
  rintro e w' ⟨b, rfl, hb, rfl⟩
  cases b with
  | true =>
    go_wp2
    go_ret; exact BoolAns.yes
  | false =>
    have hb' := hb rfl
    clear hb
    go_wp2
    go_loop [13, 14] (fun t i => ∃ k : Nat, k ≤ nw ∧ i = .int .i64 k ∧ ∃ z : Int, t = .int .i64 z) (fun _ i => nw - (intOf i).toNat)
    case atStart => exact ⟨0, Nat.zero_le _, rfl, _, rfl⟩
    case round =>
      obtain ⟨k, hk, rfl, z, rfl⟩ := hrel
      by_cases hlt : k < nw
      · obtain ⟨b, off, rfl, hc⟩ := hw (by omega)
        have hck := hc k hlt
        go_wp2
        · go_round
          case rel => exact ⟨k + 1, by omega, by go_num, _, rfl⟩
          case measure => simp [intOf]; omega
      · go_wp2
        all_goals try (go_ret; exact BoolAns.yes)
        go_loop [13, 15] (fun t i => ∃ k : Nat, k ≤ ng ∧ i = .int .i64 k ∧ ∃ z : Int, t = .int .i64 z) (fun _ i => ng - (intOf i).toNat)
        case atStart => exact ⟨0, Nat.zero_le _, rfl, _, rfl⟩
        case round =>
          obtain ⟨k, hk, rfl, z, rfl⟩ := hrel
          by_cases hlt : k < ng
          · obtain ⟨b, off, rfl, hc⟩ := hg (by omega)
            have hck := (hc k hlt).1
            go_wp2
            · go_ret; exact BoolAns.yes
            · go_ret; exact BoolAns.yes
            · go_round
              case rel => exact ⟨k + 1, by omega, by go_num, _, rfl⟩
              case measure => simp [intOf]; omega
          · go_wp2
            go_ret; exact BoolAns.no ⟨by omega, by omega, by omega, by omega⟩
end Go.Proofs.Qxb6604186a
