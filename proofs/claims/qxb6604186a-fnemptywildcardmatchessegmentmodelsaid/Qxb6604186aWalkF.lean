import Derived.Test.Qxb6604186aWalkE
namespace Go.Proofs.Qxb6604186a
open Go.RowKit

/-- Does wildcard i stand at an empty segment? -/
def hitB (l : List UInt8) (R : Nat → Bool) (K : Nat → Nat) (i : Nat) : Bool := !R (K i) && segEmpty l (K i)

/-- The answer: the first wildcard that stands at an empty segment. -/
def FirstHit (n : Nat) (S : Nat → ByteArray) (P : Nat → Bool) (nm : ByteArray) (ok : Bool) : Prop :=
  (∃ i, i < n ∧ P i = true ∧ (∀ j, j < i → P j = false) ∧ nm = S i ∧ ok = true) ∨ ((∀ j, j < n → P j = false) ∧ nm = ⟨#[]⟩ ∧ ok = false)

def EwAns (n : Nat) (S : Nat → ByteArray) (P : Nat → Bool) (w : World) (e : Ending) (w' : World) : Prop :=
  ∃ nm ok, e = .returned (.tuple #[.string nm, .bool ok]) ∧ FirstHit n S P nm ok ∧ ∃ q, w' = w.drewN q

theorem hits_on {P : Nat → Bool} {m : Nat} (h : ∀ j, j < m → P j = false) (hm : P m = false) : ∀ j, j < m + 1 → P j = false := by
  intro j hj
  by_cases e : j = m
  · subst e; exact hm
  · exact h j (by omega)

set_option maxHeartbeats 1000000 in
theorem ew_none (pb : Nat) (path : ByteArray) (w : World) (S : Nat → ByteArray)
    (hct : Hid (Calls Try.prog 24 #[.string path, .string ⟨#[47, 47]⟩] w fun e w' => e = .returned (.bool (hasDS path.data.toList)) ∧ w' = w))
    (hd : hasDS path.data.toList = false) :
    Calls Try.prog 23 #[.pointer (some ⟨pb, 0, none⟩), .string path] w (EwAns 0 S (fun _ => false) w) := by
  go_enter Try.func23, Try.ntmps23
  go_wp2_with fail
  refine hct.out.mono ?_
  rintro e w' ⟨rfl, rfl⟩
  go_wp2
  go_ret2
  exact ⟨_, _, rfl, Or.inr ⟨fun j h => absurd h (by omega), rfl, rfl⟩, 0, rfl⟩

set_option maxHeartbeats 1000000 in
theorem ew_some (pb nw cw ng cg ni ci : Nat) (aw ag ai : Option Addr) (path : ByteArray) (w : World) (S L : Nat → ByteArray) (D R : Nat → Bool) (K : Nat → Nat)
    (hct : Hid (Calls Try.prog 24 #[.string path, .string ⟨#[47, 47]⟩] w fun e w' => e = .returned (.bool (hasDS path.data.toList)) ∧ w' = w))
    (hd : hasDS path.data.toList = true) (hs : path.size ≤ 1048576)
    (p3 : w.cell? ⟨pb, 3, none⟩ = some (.slice aw nw cw)) (p4 : w.cell? ⟨pb, 4, none⟩ = some (.slice ag ng cg)) (p5 : w.cell? ⟨pb, 5, none⟩ = some (.slice ai ni ci))
    (hw : StrRow w aw nw S) (hg : SegRow w ag ng L D R) (hi : IntRow w ai nw (fun i => (K i : Int)))
    (hn : nw ≤ 65536) (hn2 : ng ≤ 43690) (hn3 : ni ≤ 131072)
    (dom : Hid (path.data.toList.head? = some 47 ∧ nw ≤ ni ∧ ∀ i, i < nw → K i < ng ∧ (R (K i) = false → K i < slashes path.data.toList))) :
    Calls Try.prog 23 #[.pointer (some ⟨pb, 0, none⟩), .string path] w (EwAns nw S (hitB path.data.toList R K) w) := by
  have hni : nw ≤ ni := dom.out.2.1
  go_enter Try.func23, Try.ntmps23
  go_wp2_with fail
  refine hct.out.mono ?_
  rintro e w' ⟨rfl, rfl⟩
  go_wp2_with fail
  go_loopw [16] (fun j wr => ∃ (m : Nat), m ≤ nw ∧ j = .int .i64 m ∧ Hid (∀ j, j < m → hitB path.data.toList R K j = false) ∧ ∃ q, wr = w'.drewN q) (fun j _ => nw - (intOf j).toNat)
  case atStart => exact ⟨0, Nat.zero_le _, rfl, hid (fun j h => absurd h (by omega)), 0, rfl⟩
  case round =>
    obtain ⟨m, hm, rfl, HP, q, hq⟩ := hrel
    have Hq := hid hq
    have p4r : wr.cell? ⟨pb, 4, none⟩ = some (.slice ag ng cg) := by rw [hq]; exact p4
    have p5r : wr.cell? ⟨pb, 5, none⟩ = some (.slice ai ni ci) := by rw [hq]; exact p5
    by_cases hlt : m < nw
    · obtain ⟨b3, o3, rfl, c3⟩ := hw (by omega)
      obtain ⟨b2, o2, rfl, c2⟩ := hi (by omega)
      obtain ⟨d1, d2⟩ := dom.out.2.2 m hlt
      obtain ⟨b1, o1, rfl, c1⟩ := hg (by omega)
      have c3m : wr.cell? ⟨b3, o3 + m, none⟩ = some (.string (S m)) := by rw [hq]; exact c3 m hlt
      have c2m : wr.cell? ⟨b2, o2 + m, none⟩ = some (.int .i64 (K m)) := by rw [hq]; exact c2 m hlt
      have c1m : wr.cell? ⟨b1, o1 + K m * 3 + 2, none⟩ = some (.bool (R (K m))) := by rw [hq]; exact (c1 (K m) d1).2.2
      have hmi : (m : Int) < (ni : Int) := by omega
      have hmw : (m : Int) < (nw : Int) := by omega
      have hkm : (K m : Int) < (ng : Int) := by omega
      clear c1 c2 c3 hq
      cases hr : R (K m) with
      | true =>
        rw [hr] at c1m
        go_wp2_with fail
        go_quiet (fail)
        go_wp2
        go_roundw
        case rel => exact ⟨m + 1, by omega, by go_num, hid (hits_on HP.out (by simp [hitB, hr])), _, by rw [Hq.out, World.drewN_drewN]⟩
        case measure => simp [intOf]; omega
      | false =>
        rw [hr] at c1m
        have hv := fun w (h5 : w.cell? ⟨pb, 5, none⟩ = some (.slice (some ⟨b2, o2, none⟩) ni ci)) (h4 : w.cell? ⟨pb, 4, none⟩ = some (.slice (some ⟨b1, o1, none⟩) ng cg)) (hc2 : w.cell? ⟨b2, o2 + m, none⟩ = some (.int .i64 (K m))) (hc1 : w.cell? ⟨b1, o1 + K m * 3 + 2, none⟩ = some (.bool false)) => val_any pb b2 o2 b1 o1 ng cg ni ci m (K m) path w hs h5 h4 (by omega) d1 hc2 hc1 hn3 hn2 dom.out.1 (d2 hr)
        have HV := hid hv
        clear hv
        go_wp2_with fail
        go_quiet ((go_at_call 25; exact Calls.quiet_of (HV.out _ p5r p4r c2m c1m)))
        go_wp2
        · have he : (valSeg path.data.toList (K m)).isEmpty = true := by assumption
          go_ret2
          refine ⟨_, _, rfl, Or.inl ⟨m, hlt, ?_, HP.out, rfl, rfl⟩, _, by rw [Hq.out, World.drewN_drewN]⟩
          rw [valSeg_empty _ _ dom.out.1 (d2 hr)] at he
          simp [hitB, hr, he]
        · have he : (valSeg path.data.toList (K m)).isEmpty = false := by assumption
          go_roundw
          case rel =>
            refine ⟨m + 1, by omega, by go_num, hid (hits_on HP.out ?_), _, by rw [Hq.out, World.drewN_drewN]⟩
            rw [valSeg_empty _ _ dom.out.1 (d2 hr)] at he
            simp [hitB, hr, he]
          case measure => simp [intOf]; omega
    · clear hq
      go_wp2_with fail
      go_ret2
      exact ⟨_, _, rfl, Or.inr ⟨fun j h => HP.out j (by omega), rfl, rfl⟩, _, Hq.out⟩
end Go.Proofs.Qxb6604186a
