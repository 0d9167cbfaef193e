import Derived.Test.Qxb6604186aWalkH
import Derived.Test.Qxb6604186aRows
import Derived.ProofKit
import Derived.OpenShut
import Derived.ShutString
import Derived.ChangeOld
import Derived.Below
import Derived.SliceStrings
import Derived.Deep.Slices
import Derived.Deep.Strs
import Derived.HandedShaped
namespace Go.Proofs.Qxb6604186a
open Go.ChangeShapes Go.WideShapes Go.ChangeAt Go.RowKit Go.Deep
open Go.ChangeMaps (open_string shut_string)

theorem Try.cells9 : Try.prog.cellsOf 9 = 1 := by kernel_rfl
theorem Try.cells4 : Try.prog.cellsOf 4 = 1 := by kernel_rfl
theorem Try.cells3 : Try.prog.cellsOf 3 = 1 := by kernel_rfl
theorem Try.cells36 : Try.prog.cellsOf 36 = 3 := by kernel_rfl

section
variable {H : Type} {enc : TypeId × Value → H} {w : World} {base : Nat} {spare : Nat → Bool} {held : Bool}

theorem spot_none {a : Addr} {v : Value} (h : w.cell? (a.add 0) = some v) : a = ⟨a.block, a.off, none⟩ := by
  obtain ⟨b, off, spot⟩ := a
  have hspot : spot = none := by simpa [Addr.add] using World.cell?_spot h
  subst hspot
  rfl

theorem row_str {fuel : Nat} {a : Option Addr} {len cap : Nat} {x : DataW H × List MemPlace} (h : DataW.trod enc Try.prog w base spare held fuel 25 [.slice a len cap] = some x) :
    (∃ S, StrRow w a len S) ∧ len ≤ maxLen ∧ (a = none → len = 0) := by
  rcases open_strings Try.underlying25 Try.underlying9 Try.cells9 h with ⟨hcs, _⟩ | ⟨x, l, c, ss, hcs, _, hl, hm, hz, _, hcell, _⟩
  · simp at hcs
    obtain ⟨rfl, rfl, rfl⟩ := hcs
    exact ⟨⟨fun _ => ⟨#[]⟩, fun h => absurd h (by omega)⟩, Nat.zero_le _, fun _ => rfl⟩
  · simp at hcs
    obtain ⟨rfl, rfl, rfl⟩ := hcs
    refine ⟨⟨fun i => ss.getD i ByteArray.empty, fun hpos => ?_⟩, Nat.le_trans hl hm, fun h => by cases h⟩
    have hlz : len ≤ ss.length := by rw [hz]; split <;> omega
    have e := spot_none (hcell 0 (by omega))
    refine ⟨x.block, x.off, congrArg some e, fun i hi => ?_⟩
    have := hcell i (by omega)
    rw [e, add_plain] at this
    exact this

theorem row_int {fuel : Nat} {a : Option Addr} {len cap : Nat} {x : DataW H × List MemPlace} (h : DataW.trod enc Try.prog w base spare held fuel 27 [.slice a len cap] = some x) :
    (∃ K, IntRow w a len K) ∧ len ≤ maxLen ∧ (a = none → len = 0) := by
  rcases open_ints Try.underlying27 Try.underlying3 Try.cells3 h with ⟨hcs, _⟩ | ⟨x, l, c, zs, hcs, _, hl, hm, hz, _, hcell, _⟩
  · simp at hcs
    obtain ⟨rfl, rfl, rfl⟩ := hcs
    exact ⟨⟨fun _ => 0, fun h => absurd h (by omega)⟩, Nat.zero_le _, fun _ => rfl⟩
  · simp at hcs
    obtain ⟨rfl, rfl, rfl⟩ := hcs
    refine ⟨⟨fun i => zs.getD i 0, fun hpos => ?_⟩, Nat.le_trans hl hm, fun h => by cases h⟩
    have hlz : len ≤ zs.length := by rw [hz]; split <;> omega
    have e := spot_none (hcell 0 (by omega))
    refine ⟨x.block, x.off, congrArg some e, fun i hi => ?_⟩
    have := hcell i (by omega)
    rw [e, add_plain] at this
    exact this

theorem row_seg {fuel : Nat} {a : Option Addr} {len cap : Nat} {x : DataW H × List MemPlace} (h : DataW.trod enc Try.prog w base spare held fuel 26 [.slice a len cap] = some x) :
    (∃ L D R, SegRow w a len L D R) ∧ len ≤ maxLen ∧ (a = none → len = 0) := by
  rcases open_slice Try.underlying26 h with ⟨hcs, _⟩ | ⟨x, l, c, m, n, D, Pl, hcs, hb, hl, hm, hmm, _, hx⟩
  · simp at hcs
    obtain ⟨rfl, rfl, rfl⟩ := hcs
    exact ⟨⟨fun _ => ⟨#[]⟩, fun _ => false, fun _ => false, fun h => absurd h (by omega)⟩, Nat.zero_le _, fun _ => rfl⟩
  · simp at hcs
    obtain ⟨rfl, rfl, rfl⟩ := hcs
    have hlm : len ≤ m := by rw [hmm]; split <;> omega
    have each : ∀ i, i < m → ∃ q : ByteArray × Bool × Bool, w.cell? (x.add (i * 3)) = some (.string q.1) ∧ w.cell? (x.add (i * 3 + 1)) = some (.bool q.2.1) ∧ w.cell? (x.add (i * 3 + 2)) = some (.bool q.2.2) := by
      intro i hi
      obtain ⟨cs', h1, h2⟩ := hx i hi
      rw [Try.cells36] at h1
      obtain ⟨_, hlen, hcell⟩ := World.cells?_some h1
      obtain ⟨y0, y1, y2, k, _, _, g0, g1, g2⟩ := trod_struct3 Try.underlying36 h2
      match cs', hlen with
      | [v0, v1, v2], _ =>
        simp [Try.cells9, Try.cells4] at g0 g1 g2
        obtain ⟨s, e0, _, _⟩ := DataW.trod_string Try.underlying9 g0
        obtain ⟨b1, e1, _⟩ := DataW.trod_bool Try.underlying4 g1
        obtain ⟨b2, e2, _⟩ := DataW.trod_bool Try.underlying4 g2
        simp at e0 e1 e2
        subst e0 e1 e2
        have f0 := hcell 0 (by omega)
        have f1 := hcell 1 (by omega)
        have f2 := hcell 2 (by omega)
        rw [Deep.add_add] at f0 f1 f2
        exact ⟨(s, b1, b2), by simpa using f0, by simpa using f1, by simpa using f2⟩
    obtain ⟨q, hq⟩ := choose_lt each
    refine ⟨⟨fun i => (q i).1, fun i => (q i).2.1, fun i => (q i).2.2, fun hpos => ?_⟩, Nat.le_trans hl hm, fun h => by cases h⟩
    have e := spot_none (by simpa using (hq 0 (by omega)).1)
    refine ⟨x.block, x.off, congrArg some e, fun i hi => ?_⟩
    have := hq i (by omega)
    rw [e, add_plain, add_plain, add_plain] at this
    exact this
end

theorem below_of_since {w w' : World} (h : w.Since w.heap.size w') : Below w.heap.size w w' := ⟨h.os, h.tape, h.output, h.size, h.block⟩
end Go.Proofs.Qxb6604186a
