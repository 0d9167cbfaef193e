import Derived.Test.Qxb6605258aWalkA
namespace Go.Proofs.Qxb6605258a
open Go.RowKit

theorem Try.info5 : (Try.prog.info? 5).map (fun i => (i.zero, i.size, i.bytes)) = some (some (.int .u8 0), 1, 1) := by kernel_rfl

/-- What has been gathered so far. -/
def Good (ys : List Int) : Prop := ys[1]? = some 117 ∧ ∀ i, 2 ≤ i → i < 6 → ∀ x, ys[i]? = some x → HexP x

/-- The row that is being filled, in its world: k bytes of cap, the bytes ys; nothing below B has turned. -/
structure Fill (B g cap k : Nat) (ys : List Int) (w wr : World) : Prop where
  own : wr.ownsRow B 5 1 (.slice (some ⟨g, 0, none⟩) k cap) k (ys.map (Value.int .u8))
  len : ys.length = k
  good : Good ys
  below : Below B w wr

theorem run_mk (n : Nat) (hn : n ≤ 1048576) (w : World) :
    (Instr.makeSlice 22 (.int .i64 0) (.int .i64 (6 + (n : Int)))).run Try.prog w = .ok (.slice (some ⟨w.heap.size, 0, none⟩) 0 (6 + n)) (w.alloc (.cells (madeCells #[.int .u8 0] (6 + n)) 5)) := by
  obtain ⟨i, h1, h2, h3, h4⟩ := info_parts Try.info5
  have := run_make (P := Try.prog) w 22 5 i _ Try.underlying22 h1 h2 .i64 .i64 0 (6 + (n : Int)) (by omega) (by omega) (by rw [h4]; omega) (by omega)
  rw [show (6 + (n : Int)).toNat = 6 + n by omega] at this
  simpa [h3, Value.cells] using this

theorem Good.snoc {ys : List Int} (h : Good ys) (h2 : 2 ≤ ys.length) (x : Int) (hx : ys.length < 6 → HexP x) : Good (ys ++ [x]) := by
  refine ⟨by rw [List.getElem?_append_left (by omega)]; exact h.1, fun i h1 h6 y hy => ?_⟩
  by_cases hi : i < ys.length
  · rw [List.getElem?_append_left hi] at hy; exact h.2 i h1 h6 y hy
  · rw [List.getElem?_append_right (by omega)] at hy
    obtain ⟨hl, e⟩ := List.getElem?_eq_some_iff.1 hy
    simp at hl e
    subst e
    exact hx (by omega)

theorem Fill.snoc {B g cap k : Nat} {ys : List Int} {w wr w1 : World} {o : Obj} (h : Fill B g cap k ys w wr) (h2 : 2 ≤ k) (hB : B ≤ g) (x : Int) (hx : k < 6 → HexP x)
    (hown : w1.ownsRow B 5 1 (.slice (some ⟨g, 0, none⟩) (k + 1) cap) (k + 1) (ys.map (Value.int .u8) ++ [.int .u8 x])) (hg : (wr.alloc o).grownBy w1 (some g)) (hBw : B ≤ w.heap.size) : Fill B g cap (k + 1) (ys ++ [x]) w w1 where
  own := by rw [List.map_append]; exact hown
  len := by rw [List.length_append, h.len]; rfl
  good := h.good.snoc (by rw [h.len]; exact h2) x (by rw [h.len]; exact hx)
  below := ((h.below).alloc (by have := h.below.size; omega) o).grown hg (by have := h.below.size; simp; omega) (fun k hk => by cases hk; exact hB)

/-- What the finished row reads as. -/
theorem Fill.reads {B g cap k : Nat} {ys : List Int} {w wr : World} (h : Fill B g cap k ys w wr) (h6 : 6 ≤ k) :
    (∀ i, i < 6 → wr.cell? ⟨g, 0 + i, none⟩ = some (.int .u8 (ys.getD i 0))) ∧ ys.getD 1 0 = 117 ∧ ∀ i, 2 ≤ i → i < 6 → HexP (ys.getD i 0) := by
  have hl := h.len
  refine ⟨fun i hi => ?_, ?_, fun i h2 hi => ?_⟩
  · rw [Nat.zero_add, h.own.cellAt i (by omega)]
    simp [List.getD_eq_getElem?_getD, List.getElem?_eq_getElem (show i < ys.length by omega)]
  · rw [List.getD_eq_getElem?_getD, h.good.1]; rfl
  · rw [List.getD_eq_getElem?_getD]
    have e := List.getElem?_eq_getElem (show i < ys.length by omega)
    rw [e]
    exact h.good.2 i h2 hi _ e

set_option maxHeartbeats 1000000 in
theorem top (code : Int) (u : Bool) (b off n c : Nat) (Z : Nat → Int) (w : World) (_hcode : (Lit.int .u16 code).wf = true) (hn : n ≤ 1048576)
    (a : Option Addr) (ha : 0 < n → a = some ⟨b, off, none⟩ ∧ ∀ i, i < n → w.cell? ⟨b, off + i, none⟩ = some (.int .u8 (Z i))) :
    Calls Try.prog 4 #[.int .u16 code, .bool u, .slice a n c] w fun e w' => e = .returned (.bool true) ∧ Below w.heap.size w w' := by
  obtain ⟨i0, hi0, hz0, hz1, hz2⟩ := info_parts Try.info5
  have hzz := zzb_any code u a n c (by unfold maxLen; omega) w
  have HZ := hid hzz
  clear hzz
  have hmk := run_mk n hn
  have hdn : decide ((1048576 : Int) < (n : Int)) = false := decide_eq_false (by omega)
  go_enter Try.func4, Try.ntmps4
  go_wp2_with fail
  refine HZ.out.mono ?_
  rintro e w' ⟨rfl, rfl⟩
  clear HZ
  go_wp2_with (at_builtin; refine wpList_append_fits _ rfl _ _ 22 rfl w'.heap.size 5 i0 1 Try.underlying22 hi0 hz1 w'.heap.size 0 (6 + n) [] rfl ?own ⟨w'.heap.size + 1, 0, none⟩ 2 2 [.int .u8 92, .int .u8 117] rfl rfl ?c1 ?c2 (by omega) ?_)
  case own => exact (World.ownsRow_made w' _ (6 + n) (Nat.le_refl _) (by unfold maxLen; omega) (by rw [size_madeCells]; omega)).alloc _
  case c1 =>
    intro j v hj
    match j, hj with
    | 0, hj => simp at hj; subst hj; simp [Addr.add]
    | 1, hj => simp at hj; subst hj; simp [Addr.add]
  case c2 => intro v hv; simp at hv; rcases hv with rfl | rfl <;> rfl
  intro w1 hown hgrow
  have F1 : Fill w'.heap.size w'.heap.size (6 + n) 2 [92, 117] w' w1 := ⟨hown, rfl, ⟨rfl, fun i h1 h2 x hx => by rw [List.getElem?_eq_none (by simpa using h1)] at hx; cases hx⟩, (((Below.refl _ w').alloc (Nat.le_refl _) _).alloc (by simp) _).grown hgrow (by simp; omega) (fun k hk => by cases hk; exact Nat.le_refl _)⟩
  have HF := hid F1
  clear hown hgrow F1
  go_wp2_with fail
  go_loopw [7, 8] (fun v i wr => ∃ (k : Nat) (ys : List Int), k ≤ 4 ∧ v = .slice (some ⟨w'.heap.size, 0, none⟩) (2 + k) (6 + n) ∧ i = .int .i64 (12 - 4 * k) ∧ Hid (Fill w'.heap.size w'.heap.size (6 + n) (2 + k) ys w' wr)) (fun _ i _ => (16 + intOf i).toNat)
  case atStart => exact ⟨0, _, by omega, rfl, rfl, HF⟩
  case round =>
    obtain ⟨k, ys, hk, rfl, rfl, HF2⟩ := hrel
    by_cases hlt : k < 4
    · have hx := hexOf_hex (code / 2 ^ (12 - 4 * k) % 16) u (Int.emod_nonneg _ (by decide)) (Int.emod_lt_of_pos _ (by decide))
      go_wp2_with fail
      refine (hexof_any _ u (Int.emod_nonneg _ (by decide)) (Int.emod_lt_of_pos _ (by decide)) _).mono ?_
      rintro e w2 ⟨rfl, rfl⟩
      generalize hexOf (code / 2 ^ (12 - 4 * k) % 16) u = x at *
      go_wp2_with (at_builtin; refine wpList_append_fits _ rfl _ _ 22 rfl w'.heap.size 5 i0 1 Try.underlying22 hi0 hz1 w'.heap.size (2 + k) (6 + n) (ys.map (Value.int .u8)) rfl ?own ⟨w2.heap.size, 0, none⟩ 1 1 [.int .u8 x] rfl rfl ?c1 ?c2 (by omega) ?_)
      case own => exact HF2.out.own.alloc _
      case c1 =>
        intro j v hj
        match j, hj with
        | 0, hj => simp at hj; subst hj; simp [Addr.add]
      case c2 => intro v hv; simp at hv; subst hv; rfl
      intro w3 hown hgrow
      have F3 := HF2.out.snoc (by omega) (Nat.le_refl _) x (fun _ => hx) hown hgrow (Nat.le_refl _)
      have HF3 := hid F3
      clear hown hgrow F3
      go_wp2_with fail
      go_roundw
      case rel => exact ⟨k + 1, ys ++ [x], by omega, rfl, by go_num, HF3⟩
      case measure => simp [intOf]; omega
    · obtain rfl : k = 4 := by omega
      go_wp2_with fail
      go_loopw [7, 9] (fun v i wr => ∃ (k : Nat) (ys : List Int), k ≤ n ∧ v = .slice (some ⟨w'.heap.size, 0, none⟩) (6 + k) (6 + n) ∧ i = .int .i64 k ∧ Hid (Fill w'.heap.size w'.heap.size (6 + n) (6 + k) ys w' wr)) (fun _ i _ => n - (intOf i).toNat)
      case atStart => exact ⟨0, ys, Nat.zero_le _, rfl, rfl, HF2⟩
      case round =>
        clear hlt hk HF HF2
        obtain ⟨k, ys, hk, rfl, rfl, HF2⟩ := hrel
        by_cases hlt : k < n
        · obtain ⟨rfl, hc⟩ := ha (by omega)
          have hck := hc k hlt
          have hbl : b < w'.heap.size := by
            by_cases hb : b < w'.heap.size
            · exact hb
            · simp [World.cell?, hb] at hck
          have hck2 : wr.cell? ⟨b, off + k, none⟩ = some (.int .u8 (Z k)) := by rw [HF2.out.below.cell (p := ⟨b, off + k, none⟩) hbl]; exact hck
          clear hck hc
          go_wp2_with (at_builtin; refine wpList_append_fits _ rfl _ _ 22 rfl w'.heap.size 5 i0 1 Try.underlying22 hi0 hz1 w'.heap.size (6 + k) (6 + n) (ys.map (Value.int .u8)) rfl ?own9 ⟨wr.heap.size, 0, none⟩ 1 1 [.int .u8 (Z k)] rfl rfl ?c91 ?c92 (by omega) ?_)
          case own9 => exact HF2.out.own.alloc _
          case c92 => rfl
          intro w3 hown hgrow
          have F3 := HF2.out.snoc (by omega) (Nat.le_refl _) (Z k) (fun h => absurd h (by omega)) hown hgrow (Nat.le_refl _)
          have HF3 := hid F3
          clear hown hgrow F3
          go_wp2_with fail
          go_roundw
          case rel => (repeat apply Exists.intro); exact ⟨⟨k + 1, ys ++ [Z k], by omega, rfl, by go_num, HF3⟩, rfl⟩
          case measure => simp [intOf]; omega
        · obtain rfl : k = n := by omega
          obtain ⟨r1, r2, r3⟩ := HF2.out.reads (by omega)
          have HR := hid r1
          have HR2 := hid r2
          have HR3 := hid r3
          clear r1 r2 r3
          go_wp2_with fail
          refine (zz_long _ 0 _ _ (fun i => ys.getD i 0) (by omega) (by omega) _ (fun i _ h6 => HR.out i h6) HR2.out (fun i h2 h6 _ => HR3.out i h2 h6)).mono ?_
          rintro e w5 ⟨rfl, rfl⟩
          rw [show min (6 + k) 6 = 6 by omega, show decide (6 ≤ 6 + k) = true by simp]
          go_wp2_with fail
          go_loop [12] (fun i => ∃ m : Nat, m ≤ 6 ∧ i = .int .i64 m) (fun i => 6 - (intOf i).toNat)
          case atStart => exact ⟨0, by omega, rfl⟩
          case round =>
            obtain ⟨m, hm, rfl⟩ := hrel
            by_cases hm6 : m < 6
            · have hmm : ((m : Int) != (m : Int)) = false := by simp
              by_cases hm2 : m < 2
              · go_wp2_with fail
                refine (zz_short _ m _ hm2 _).mono ?_
                rintro e w6 ⟨rfl, rfl⟩
                go_wp2_with fail
                go_round
                case rel => exact ⟨m + 1, by omega, by go_num⟩
                case measure => simp [intOf]; omega
              · go_wp2_with fail
                refine (zz_long _ 0 m _ (fun i => ys.getD i 0) (by omega) (by omega) _ (fun i _ h6 => HR.out i h6) HR2.out (fun i h2 h6 _ => HR3.out i h2 h6)).mono ?_
                rintro e w6 ⟨rfl, rfl⟩
                rw [show min m 6 = m by omega, show decide (6 ≤ m) = false by simp; omega]
                go_wp2_with fail
                go_round
                case rel => exact ⟨m + 1, by omega, by go_num⟩
                case measure => simp [intOf]; omega
            · go_wp2_with fail
              go_ret
              exact ⟨rfl, HF2.out.below⟩
end Go.Proofs.Qxb6605258a
