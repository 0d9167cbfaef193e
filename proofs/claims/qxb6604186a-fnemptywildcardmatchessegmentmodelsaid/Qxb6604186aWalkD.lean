import Derived.Test.Qxb6604186aWalkC
import Derived.Deep.OwnRows
namespace Go.Proofs.Qxb6604186a
open Go.RowKit

theorem Try.info9 : (Try.prog.info? 9).map (fun i => (i.zero, i.size, i.bytes)) = some (some (.string ⟨#[]⟩), 1, 16) := by kernel_rfl
theorem Try.info3 : (Try.prog.info? 3).map (fun i => (i.zero, i.size, i.bytes)) = some (some (.int .i64 0), 1, 8) := by kernel_rfl
theorem Try.info4 : (Try.prog.info? 4).map (fun i => (i.zero, i.size, i.bytes)) = some (some (.bool false), 1, 1) := by kernel_rfl
theorem Try.info36 : (Try.prog.info? 36).map (fun i => (i.zero, i.size, i.bytes)) = some (some (.agg #[.string ⟨#[]⟩, .bool false, .bool false]), 3, 24) := by kernel_rfl
theorem Try.info45 : (Try.prog.info? 45).map (fun i => (i.zero, i.size, i.bytes)) = some (some (.agg #[.string ⟨#[]⟩, .bool false, .bool false]), 3, 24) := by kernel_rfl

theorem lt_of_cell {w : World} {b o : Nat} {v : Value} (h : w.cell? ⟨b, o, none⟩ = some v) : b < w.heap.size := by
  by_cases hb : b < w.heap.size
  · exact hb
  · simp [World.cell?, hb] at h

/-- A new slice of n strings; nothing that was there has turned. -/
def MadeStr (n : Nat) (S : Nat → ByteArray) (w : World) (e : Ending) (w' : World) : Prop :=
  ∃ a c, e = .returned (.slice a n c) ∧ StrRow w' a n S ∧ w.Since w.heap.size w'

set_option maxHeartbeats 400000 in
theorem cps_any (a : Option Addr) (n c : Nat) (S : Nat → ByteArray) (w : World) (hw : StrRow w a n S) (hn : n ≤ 65536) (h0 : a = none → n = 0) :
    Calls Try.prog 13 #[.slice a n c] w (MadeStr n S w) := by
  have q : ∀ (w : World) (a : Option Addr) (n c n' c' : Nat), (binOp .eql 25 (.slice a n c) (.slice none n' c')).run Try.prog w = .ok (.bool a.isNone) w := fun w a n c n' c' => Lib.run_eql_slice_nil w _ _ a n c n' c' Try.underlying25
  have hmk := fun w => run_make_row' (P := Try.prog) 25 9 (.string ⟨#[]⟩) 16 Try.underlying25 Try.info9 rfl .i64 .i64 n (by omega) (by omega) w
  cases a with
  | none =>
    have := h0 rfl
    subst this
    go_enter Try.func13, Try.ntmps13
    go_wp2
    go_ret
    exact ⟨_, _, rfl, fun h => absurd h (by omega), World.Since.refl _ _⟩
  | some x =>
    go_enter Try.func13, Try.ntmps13
    go_wp2
    go_loopw [4] (fun i wr => ∃ k : Nat, k ≤ n ∧ i = .int .i64 k ∧ wr.rowIs w.heap.size 9 n (fun j => if j < k then .string (S j) else .string ⟨#[]⟩) ∧ w.Since w.heap.size wr) (fun i _ => n - (intOf i).toNat)
    case atStart => exact ⟨0, Nat.zero_le _, rfl, (World.rowIs_made _ _ _ _).congr (fun i _ => by simp), (World.Since.refl _ _).alloc (Nat.le_refl _) _⟩
    case round =>
      obtain ⟨k, hk, rfl, hrow, hsn⟩ := hrel
      by_cases hlt : k < n
      · obtain ⟨b, off, hx, hc⟩ := hw (by omega)
        obtain rfl := Option.some.inj hx
        have hck := hc k hlt
        have hck2 : wr.cell? ⟨b, off + k, none⟩ = some (.string (S k)) := by rw [hsn.cell (lt_of_cell hck)]; exact hck
        have hr1 := hrow.cell hlt
        have hr2 := hrow.frozen k
        clear hck hc
        simp only [Nat.lt_irrefl, if_false] at hr1
        go_wp2
        go_roundw
        case rel =>
          refine ⟨k + 1, by omega, by go_num, (hrow.set k _).congr (fun j hj => ?_), hsn.setCell (Nat.le_refl _) _⟩
          by_cases hjk : j = k
          · subst hjk; simp
          · simp only [if_neg hjk]
            by_cases h : j < k
            · rw [if_pos h, if_pos (by omega)]
            · rw [if_neg h, if_neg (by omega)]
        case measure => simp [intOf]; omega
      · go_wp2
        go_ret
        refine ⟨_, _, rfl, fun _ => ⟨_, _, rfl, fun i hi => ?_⟩, hsn⟩
        rw [Nat.zero_add, hrow.cell hi, if_pos (by omega)]

/-- A new slice of n ints; nothing that was there has turned. -/
def MadeInt (n : Nat) (K : Nat → Int) (w : World) (e : Ending) (w' : World) : Prop :=
  ∃ a c, e = .returned (.slice a n c) ∧ IntRow w' a n K ∧ w.Since w.heap.size w'

set_option maxHeartbeats 400000 in
theorem cpi_any (a : Option Addr) (n c : Nat) (K : Nat → Int) (w : World) (hw : IntRow w a n K) (hn : n ≤ 131072) (h0 : a = none → n = 0) :
    Calls Try.prog 15 #[.slice a n c] w (MadeInt n K w) := by
  have q : ∀ (w : World) (a : Option Addr) (n c n' c' : Nat), (binOp .eql 27 (.slice a n c) (.slice none n' c')).run Try.prog w = .ok (.bool a.isNone) w := fun w a n c n' c' => Lib.run_eql_slice_nil w _ _ a n c n' c' Try.underlying27
  have hmk := fun w => run_make_row' (P := Try.prog) 27 3 (.int .i64 0) 8 Try.underlying27 Try.info3 rfl .i64 .i64 n (by omega) (by omega) w
  cases a with
  | none =>
    have := h0 rfl
    subst this
    go_enter Try.func15, Try.ntmps15
    go_wp2
    go_ret
    exact ⟨_, _, rfl, fun h => absurd h (by omega), World.Since.refl _ _⟩
  | some x =>
    go_enter Try.func15, Try.ntmps15
    go_wp2
    go_loopw [4] (fun i wr => ∃ k : Nat, k ≤ n ∧ i = .int .i64 k ∧ wr.rowIs w.heap.size 3 n (fun j => if j < k then .int .i64 (K j) else .int .i64 0) ∧ w.Since w.heap.size wr) (fun i _ => n - (intOf i).toNat)
    case atStart => exact ⟨0, Nat.zero_le _, rfl, (World.rowIs_made _ _ _ _).congr (fun i _ => by simp), (World.Since.refl _ _).alloc (Nat.le_refl _) _⟩
    case round =>
      obtain ⟨k, hk, rfl, hrow, hsn⟩ := hrel
      by_cases hlt : k < n
      · obtain ⟨b, off, hx, hc⟩ := hw (by omega)
        obtain rfl := Option.some.inj hx
        have hck := hc k hlt
        have hck2 : wr.cell? ⟨b, off + k, none⟩ = some (.int .i64 (K k)) := by rw [hsn.cell (lt_of_cell hck)]; exact hck
        have hr1 := hrow.cell hlt
        have hr2 := hrow.frozen k
        clear hck hc
        simp only [Nat.lt_irrefl, if_false] at hr1
        go_wp2
        go_roundw
        case rel =>
          refine ⟨k + 1, by omega, by go_num, (hrow.set k _).congr (fun j hj => ?_), hsn.setCell (Nat.le_refl _) _⟩
          by_cases hjk : j = k
          · subst hjk; simp
          · simp only [if_neg hjk]
            by_cases h : j < k
            · rw [if_pos h, if_pos (by omega)]
            · rw [if_neg h, if_neg (by omega)]
        case measure => simp [intOf]; omega
      · go_wp2
        go_ret
        refine ⟨_, _, rfl, fun _ => ⟨_, _, rfl, fun i hi => ?_⟩, hsn⟩
        rw [Nat.zero_add, hrow.cell hi, if_pos (by omega)]

/-- A new slice of n segments; nothing that was there has turned. -/
def MadeSeg (n : Nat) (L : Nat → ByteArray) (D R : Nat → Bool) (w : World) (e : Ending) (w' : World) : Prop :=
  ∃ a c, e = .returned (.slice a n c) ∧ SegRow w' a n L D R ∧ w.Since w.heap.size w'

/-- A row of segments in a block of its own, the first k told. -/
def SegBlk (w : World) (b t n k : Nat) (L : Nat → ByteArray) (D R : Nat → Bool) : Prop :=
  ∃ g : Nat → Value, w.rowIs b t (n * 3) g ∧ ∀ i, i < k → g (i * 3) = .string (L i) ∧ g (i * 3 + 1) = .bool (D i) ∧ g (i * 3 + 2) = .bool (R i)

theorem SegBlk.made (w : World) (c : Array Value) (t n : Nat) (hc : c.size = n * 3) (L : Nat → ByteArray) (D R : Nat → Bool) : SegBlk (w.alloc (.cells c t)) w.heap.size t n 0 L D R :=
  ⟨fun i => c.getD i (.bool false), by rw [← hc]; exact World.rowIs_alloc w c t _ (fun i hi => by simp [hi]), fun i hi => absurd hi (by omega)⟩

theorem SegBlk.set {w : World} {b t n k : Nat} {L : Nat → ByteArray} {D R : Nat → Bool} (h : SegBlk w b t n k L D R) :
    SegBlk (((w.setCell ⟨b, k * 3, none⟩ (.string (L k))).setCell ⟨b, k * 3 + 1, none⟩ (.bool (D k))).setCell ⟨b, k * 3 + 2, none⟩ (.bool (R k))) b t n (k + 1) L D R := by
  obtain ⟨g, hrow, hg⟩ := h
  refine ⟨_, ((hrow.set _ _).set _ _).set _ _, fun i hi => ?_⟩
  by_cases hik : i = k
  · subst hik
    refine ⟨?_, ?_, ?_⟩
    · rw [if_neg (by omega), if_neg (by omega), if_pos rfl]
    · rw [if_neg (by omega), if_pos rfl]
    · rw [if_pos rfl]
  · obtain ⟨g0, g1, g2⟩ := hg i (by omega)
    refine ⟨?_, ?_, ?_⟩
    · rw [if_neg (by omega), if_neg (by omega), if_neg (by omega), g0]
    · rw [if_neg (by omega), if_neg (by omega), if_neg (by omega), g1]
    · rw [if_neg (by omega), if_neg (by omega), if_neg (by omega), g2]

theorem SegBlk.row {w : World} {b t n : Nat} {L : Nat → ByteArray} {D R : Nat → Bool} (h : SegBlk w b t n n L D R) : SegRow w (some ⟨b, 0, none⟩) n L D R := by
  obtain ⟨g, hrow, hg⟩ := h
  refine fun _ => ⟨_, _, rfl, fun i hi => ?_⟩
  rw [Nat.zero_add, hrow.cell (by omega), hrow.cell (by omega), hrow.cell (by omega), (hg i (by omega)).1, (hg i (by omega)).2.1, (hg i (by omega)).2.2]
  exact ⟨rfl, rfl, rfl⟩

theorem run_make_seg (t e : TypeId) (ht : Try.prog.underlying t = some (.slice e)) (hi : (Try.prog.info? e).map (fun i => (i.zero, i.size, i.bytes)) = some (some (.agg #[.string ⟨#[]⟩, .bool false, .bool false]), 3, 24)) (n : Nat) (hn : n ≤ 65536) (w : World) :
    (Instr.makeSlice t (.int .i64 (n : Int)) (.int .i64 (n : Int))).run Try.prog w = .ok (.slice (some ⟨w.heap.size, 0, none⟩) n n) (w.alloc (.cells (madeCells #[.string ⟨#[]⟩, .bool false, .bool false] (n * 3)) e)) := by
  obtain ⟨i, h1, h2, h3, h4⟩ := info_parts hi
  have := run_make (P := Try.prog) w t e i _ ht h1 h2 .i64 .i64 n n (by omega) (Int.le_refl _) (by rw [h4]; omega) (by omega)
  simpa [h3, Value.cells] using this

set_option maxHeartbeats 400000 in
theorem cpg_any (a : Option Addr) (n c : Nat) (L : Nat → ByteArray) (D R : Nat → Bool) (w : World) (hw : SegRow w a n L D R) (hn : n ≤ 43690) (h0 : a = none → n = 0) :
    Calls Try.prog 14 #[.slice a n c] w (MadeSeg n L D R w) := by
  have q : ∀ (w : World) (a : Option Addr) (n c n' c' : Nat), (binOp .eql 26 (.slice a n c) (.slice none n' c')).run Try.prog w = .ok (.bool a.isNone) w := fun w a n c n' c' => Lib.run_eql_slice_nil w _ _ a n c n' c' Try.underlying26
  have hmk := run_make_seg 26 36 Try.underlying26 Try.info36 n (by omega)
  cases a with
  | none =>
    have := h0 rfl
    subst this
    go_enter Try.func14, Try.ntmps14
    go_wp2
    go_ret
    exact ⟨_, _, rfl, fun h => absurd h (by omega), World.Since.refl _ _⟩
  | some x =>
    go_enter Try.func14, Try.ntmps14
    go_wp2
    go_loopw [4] (fun i wr => ∃ k : Nat, k ≤ n ∧ i = .int .i64 k ∧ Hid (SegBlk wr w.heap.size 36 n k L D R) ∧ w.Since w.heap.size wr) (fun i _ => n - (intOf i).toNat)
    case atStart => exact ⟨0, Nat.zero_le _, rfl, hid (SegBlk.made _ _ _ _ (size_madeCells _ _) _ _ _), (World.Since.refl _ _).alloc (Nat.le_refl _) _⟩
    case round =>
      obtain ⟨k, hk, rfl, hblk, hsn⟩ := hrel
      by_cases hlt : k < n
      · obtain ⟨g, hrow, -⟩ := hblk.out
        obtain ⟨b, off, hx, hc⟩ := hw (by omega)
        obtain rfl := Option.some.inj hx
        obtain ⟨hk1, hk2, hk3⟩ := hc k hlt
        have hck1 : wr.cell? ⟨b, off + k * 3, none⟩ = some (.string (L k)) := by rw [hsn.cell (lt_of_cell hk1)]; exact hk1
        have hck2 : wr.cell? ⟨b, off + k * 3 + 1, none⟩ = some (.bool (D k)) := by rw [hsn.cell (lt_of_cell hk1)]; exact hk2
        have hck3 : wr.cell? ⟨b, off + k * 3 + 2, none⟩ = some (.bool (R k)) := by rw [hsn.cell (lt_of_cell hk1)]; exact hk3
        have hr0 := hrow.cell (show k * 3 < n * 3 by omega)
        have hr1 := hrow.cell (show k * 3 + 1 < n * 3 by omega)
        have hr2 := hrow.cell (show k * 3 + 2 < n * 3 by omega)
        have hf0 := hrow.frozen (k * 3)
        have hf1 := hrow.frozen (k * 3 + 1)
        have hf2 := hrow.frozen (k * 3 + 2)
        clear hk1 hk2 hk3 hc hrow
        go_wp2
        go_roundw
        case rel => exact ⟨k + 1, by omega, by go_num, hid (SegBlk.set hblk.out), ((hsn.setCell (Nat.le_refl _) _).setCell (Nat.le_refl _) _).setCell (Nat.le_refl _) _⟩
        case measure => simp [intOf]; omega
      · go_wp2
        go_ret
        obtain rfl : k = n := by omega
        exact ⟨_, _, rfl, hblk.out.row, hsn⟩
end Go.Proofs.Qxb6604186a
