import Derived.Test.Qxb6604186aWalkF
import Derived.Test.Qxb6604186aShelf
import Derived.BigRegion
namespace Go.Proofs.Qxb6604186a
open Go.RowKit

/-- A slice of bools as the walk reads it. -/
def BoolRow (w : World) (a : Option Addr) (n : Nat) (S : Nat → Bool) : Prop :=
  0 < n → ∃ b off, a = some ⟨b, off, none⟩ ∧ ∀ i, i < n → w.cell? ⟨b, off + i, none⟩ = some (.bool (S i))

theorem StrRow.since {w w' : World} {a : Option Addr} {n : Nat} {S : Nat → ByteArray} (h : StrRow w a n S) (hs : w.Since w.heap.size w') : StrRow w' a n S := by
  intro hn
  obtain ⟨b, off, rfl, hc⟩ := h hn
  exact ⟨b, off, rfl, fun i hi => by rw [hs.cell (lt_of_cell (hc i hi))]; exact hc i hi⟩
theorem BoolRow.since {w w' : World} {a : Option Addr} {n : Nat} {S : Nat → Bool} (h : BoolRow w a n S) (hs : w.Since w.heap.size w') : BoolRow w' a n S := by
  intro hn
  obtain ⟨b, off, rfl, hc⟩ := h hn
  exact ⟨b, off, rfl, fun i hi => by rw [hs.cell (lt_of_cell (hc i hi))]; exact hc i hi⟩
theorem IntRow.since {w w' : World} {a : Option Addr} {n : Nat} {S : Nat → Int} (h : IntRow w a n S) (hs : w.Since w.heap.size w') : IntRow w' a n S := by
  intro hn
  obtain ⟨b, off, rfl, hc⟩ := h hn
  exact ⟨b, off, rfl, fun i hi => by rw [hs.cell (lt_of_cell (hc i hi))]; exact hc i hi⟩
theorem SegRow.since {w w' : World} {a : Option Addr} {n : Nat} {L : Nat → ByteArray} {D R : Nat → Bool} (h : SegRow w a n L D R) (hs : w.Since w.heap.size w') : SegRow w' a n L D R := by
  intro hn
  obtain ⟨b, off, rfl, hc⟩ := h hn
  exact ⟨b, off, rfl, fun i hi => by rw [hs.cell (lt_of_cell (hc i hi).1), hs.cell (lt_of_cell (hc i hi).1), hs.cell (lt_of_cell (hc i hi).1)]; exact hc i hi⟩

theorem since_drewN {B : Nat} {w w' : World} (h : w.Since B w') (q : Nat) : w.Since B (w'.drewN q) := ⟨h.os, h.tape, h.output, h.size, h.block⟩

/-- The library's variable holds some int. -/
def MaxAt (w : World) : Prop := ∃ m, w.cell? ⟨0, 0, none⟩ = some (.int .i64 m)
theorem MaxAt.since {w w' : World} (h : MaxAt w) (hs : w.Since w.heap.size w') : MaxAt w' := by
  obtain ⟨m, hm⟩ := h
  exact ⟨m, by rw [hs.cell (lt_of_cell hm)]; exact hm⟩

theorem ct_any (path : ByteArray) (w : World) (hs : path.size ≤ 1048576) (hm : MaxAt w) :
    Calls Try.prog 24 #[.string path, .string ⟨#[47, 47]⟩] w fun e w' => e = .returned (.bool (hasDS path.data.toList)) ∧ w' = w := by
  obtain ⟨m, hm⟩ := hm
  refine (Try.strings_Contains path ⟨#[47, 47]⟩ m w (by omega) hm).mono ?_
  rintro e w' ⟨rfl, rfl⟩
  exact ⟨ret_bool (contains_ds _), rfl⟩

/-- The answer of the shim: the first wildcard at an empty segment; nothing that was there has turned. -/
def ZzAns (n : Nat) (S : Nat → ByteArray) (P : Nat → Bool) (w : World) (e : Ending) (w' : World) : Prop :=
  ∃ nm ok, e = .returned (.tuple #[.string nm, .bool ok]) ∧ FirstHit n S P nm ok ∧ w.Since w.heap.size w'

set_option maxHeartbeats 1000000 in
theorem zzew_some (er : Bool) (mux tpl path : ByteArray) (nw cw ng c4 c5 c6 ni ci : Nat) (aw a4 a5 a6 ai : Option Addr) (w : World) (S L : Nat → ByteArray) (D R : Nat → Bool) (K : Nat → Nat)
    (hd : hasDS path.data.toList = true) (hs : path.size ≤ 1048576) (hm : MaxAt w)
    (hw : StrRow w aw nw S) (h4 : StrRow w a4 ng L) (h5 : BoolRow w a5 ng D) (h6 : BoolRow w a6 ng R) (hi : IntRow w ai nw (fun i => (K i : Int)))
    (hn : nw ≤ 65536) (hn2 : ng ≤ 43690) (hn3 : ni ≤ 131072)
    (dom : Hid (path.data.toList.head? = some 47 ∧ nw ≤ ni ∧ ∀ i, i < nw → K i < ng ∧ (R (K i) = false → K i < slashes path.data.toList))) :
    Calls Try.prog 16 #[.bool er, .string mux, .string tpl, .slice aw nw cw, .slice a4 ng c4, .slice a5 ng c5, .slice a6 ng c6, .slice ai ni ci, .string path] w (ZzAns nw S (hitB path.data.toList R K) w) := by
  have hmk := run_make_seg 43 45 Try.underlying43 Try.info45 ng (by omega)
  go_enter Try.func16, Try.ntmps16
  go_wp2
  go_loopw [28] (fun i wr => ∃ k : Nat, k ≤ ng ∧ i = .int .i64 k ∧ Hid (SegBlk wr w.heap.size 45 ng k L D R) ∧ w.Since w.heap.size wr) (fun i _ => ng - (intOf i).toNat)
  case atStart => exact ⟨0, Nat.zero_le _, rfl, hid (SegBlk.made _ _ _ _ (size_madeCells _ _) _ _ _), (World.Since.refl _ _).alloc (Nat.le_refl _) _⟩
  case round =>
    obtain ⟨k, hk, rfl, hblk, hsn⟩ := hrel
    by_cases hlt : k < ng
    · obtain ⟨g, hrow, -⟩ := hblk.out
      obtain ⟨b4, o4, rfl, q4⟩ := (h4.since hsn) (by omega)
      obtain ⟨b5, o5, rfl, q5⟩ := (h5.since hsn) (by omega)
      obtain ⟨b6, o6, rfl, q6⟩ := (h6.since hsn) (by omega)
      have c4k := q4 k hlt
      have c5k := q5 k hlt
      have c6k := q6 k hlt
      have hr0 := hrow.cell (show k * 3 < ng * 3 by omega)
      have hr1 := hrow.cell (show k * 3 + 1 < ng * 3 by omega)
      have hr2 := hrow.cell (show k * 3 + 2 < ng * 3 by omega)
      have hf0 := hrow.frozen (k * 3)
      have hf1 := hrow.frozen (k * 3 + 1)
      have hf2 := hrow.frozen (k * 3 + 2)
      have hki : (k : Int) < (ng : Int) := by omega
      clear q4 q5 q6 hrow
      go_wp2
      go_region
      all_goals
        go_wp2
        go_roundw
        case rel => exact ⟨k + 1, by omega, by go_num, hid (SegBlk.set hblk.out), (((hsn.setCell (Nat.le_refl _) _).setCell (Nat.le_refl _) _).setCell (Nat.le_refl _) _).drew⟩
        case measure => simp [intOf]; omega
    · obtain rfl : k = ng := by omega
      have hrow := hblk.out.row
      have wrw : ∀ o, wr.Since wr.heap.size (wr.alloc o) := fun o => (World.Since.refl _ _).alloc (Nat.le_refl _) o
      go_wp2_with fail
      refine (ew_some _ nw cw k k ni ci aw (some ⟨w.heap.size, 0, none⟩) ai path _ S L D R K ?hct hd hs ?p3 ?p4 ?p5 ?hw ?hg ?hi hn hn2 hn3 dom).mono ?_
      case hct => exact hid (ct_any path _ hs ((hm.since hsn).since (wrw _)))
      case p3 => simp
      case p4 => simp
      case p5 => simp
      case hw => exact (hw.since hsn).since (wrw _)
      case hg => exact hrow.since (wrw _)
      case hi => exact (hi.since hsn).since (wrw _)
      rintro e w' ⟨nm, ok, rfl, hf, q, rfl⟩
      go_wp2
      go_ret2
      exact ⟨nm, ok, rfl, hf, since_drewN (hsn.alloc hsn.size _) q⟩

set_option maxHeartbeats 1000000 in
theorem zzew_none (er : Bool) (mux tpl path : ByteArray) (nw cw ng c4 c5 c6 ni ci : Nat) (aw a4 a5 a6 ai : Option Addr) (w : World) (S L : Nat → ByteArray) (D R : Nat → Bool)
    (hd : hasDS path.data.toList = false) (hs : path.size ≤ 1048576) (hm : MaxAt w)
    (h4 : StrRow w a4 ng L) (h5 : BoolRow w a5 ng D) (h6 : BoolRow w a6 ng R) (hn2 : ng ≤ 43690) :
    Calls Try.prog 16 #[.bool er, .string mux, .string tpl, .slice aw nw cw, .slice a4 ng c4, .slice a5 ng c5, .slice a6 ng c6, .slice ai ni ci, .string path] w (ZzAns 0 S (fun _ => false) w) := by
  have hmk := run_make_seg 43 45 Try.underlying43 Try.info45 ng (by omega)
  go_enter Try.func16, Try.ntmps16
  go_wp2
  go_loopw [28] (fun i wr => ∃ k : Nat, k ≤ ng ∧ i = .int .i64 k ∧ Hid (SegBlk wr w.heap.size 45 ng k L D R) ∧ w.Since w.heap.size wr) (fun i _ => ng - (intOf i).toNat)
  case atStart => exact ⟨0, Nat.zero_le _, rfl, hid (SegBlk.made _ _ _ _ (size_madeCells _ _) _ _ _), (World.Since.refl _ _).alloc (Nat.le_refl _) _⟩
  case round =>
    obtain ⟨k, hk, rfl, hblk, hsn⟩ := hrel
    by_cases hlt : k < ng
    · obtain ⟨g, hrow, -⟩ := hblk.out
      obtain ⟨b4, o4, rfl, q4⟩ := (h4.since hsn) (by omega)
      obtain ⟨b5, o5, rfl, q5⟩ := (h5.since hsn) (by omega)
      obtain ⟨b6, o6, rfl, q6⟩ := (h6.since hsn) (by omega)
      have c4k := q4 k hlt
      have c5k := q5 k hlt
      have c6k := q6 k hlt
      have hr0 := hrow.cell (show k * 3 < ng * 3 by omega)
      have hr1 := hrow.cell (show k * 3 + 1 < ng * 3 by omega)
      have hr2 := hrow.cell (show k * 3 + 2 < ng * 3 by omega)
      have hf0 := hrow.frozen (k * 3)
      have hf1 := hrow.frozen (k * 3 + 1)
      have hf2 := hrow.frozen (k * 3 + 2)
      have hki : (k : Int) < (ng : Int) := by omega
      clear q4 q5 q6 hrow
      go_wp2
      go_region
      all_goals
        go_wp2
        go_roundw
        case rel => exact ⟨k + 1, by omega, by go_num, hid (SegBlk.set hblk.out), (((hsn.setCell (Nat.le_refl _) _).setCell (Nat.le_refl _) _).setCell (Nat.le_refl _) _).drew⟩
        case measure => simp [intOf]; omega
    · obtain rfl : k = ng := by omega
      have wrw : ∀ o, wr.Since wr.heap.size (wr.alloc o) := fun o => (World.Since.refl _ _).alloc (Nat.le_refl _) o
      go_wp2_with fail
      refine (ew_none _ path _ S (hid (ct_any path _ hs ((hm.since hsn).since (wrw _)))) hd).mono ?_
      rintro e w' ⟨nm, ok, rfl, hf, q, rfl⟩
      go_wp2
      go_ret2
      exact ⟨nm, ok, rfl, hf, since_drewN (hsn.alloc hsn.size _) q⟩
end Go.Proofs.Qxb6604186a
