import Derived.Test.Qxb6604186aWalkG
namespace Go.Proofs.Qxb6604186a
open Go.RowKit

/-- What the law's loop keeps: the three new rows, told up to k. -/
structure Three (w3 wr : World) (ng k : Nat) (L : Nat → ByteArray) (D R : Nat → Bool) : Prop where
  since : w3.Since w3.heap.size wr
  lit : wr.rowIs w3.heap.size 9 ng (fun j => if j < k then .string (L j) else .string ⟨#[]⟩)
  wild : wr.rowIs (w3.heap.size + 1) 4 ng (fun j => if j < k then .bool (D j) else .bool false)
  rest : wr.rowIs (w3.heap.size + 1 + 1) 4 ng (fun j => if j < k then .bool (R j) else .bool false)

theorem Three.start (w3 : World) (ng : Nat) (L : Nat → ByteArray) (D R : Nat → Bool) :
    Three w3 (((w3.alloc (.cells (madeCells #[.string ⟨#[]⟩] ng) 9)).alloc (.cells (madeCells #[.bool false] ng) 4)).alloc (.cells (madeCells #[.bool false] ng) 4)) ng 0 L D R where
  since := (((World.Since.refl _ _).alloc (Nat.le_refl _) _).alloc (by simp) _).alloc (by simp; omega) _
  lit := (((World.rowIs_made w3 (.string ⟨#[]⟩) ng 9).alloc _).alloc _).congr (fun i _ => by simp)
  wild := by
    have := ((World.rowIs_made (w3.alloc (.cells (madeCells #[.string ⟨#[]⟩] ng) 9)) (.bool false) ng 4).alloc (.cells (madeCells #[.bool false] ng) 4)).congr (g := fun j => if j < 0 then .bool (D j) else .bool false) (fun i _ => by simp)
    simpa using this
  rest := by
    have := (World.rowIs_made ((w3.alloc (.cells (madeCells #[.string ⟨#[]⟩] ng) 9)).alloc (.cells (madeCells #[.bool false] ng) 4)) (.bool false) ng 4).congr (g := fun j => if j < 0 then .bool (R j) else .bool false) (fun i _ => by simp)
    simpa using this

theorem row_step {f : Nat → Value} {z : Value} {k j : Nat} : (if j = k then f k else if j < k then f j else z) = if j < k + 1 then f j else z := by
  by_cases h : j = k
  · subst h; rw [if_pos rfl, if_pos (by omega)]
  · rw [if_neg h]
    by_cases h2 : j < k
    · rw [if_pos h2, if_pos (by omega)]
    · rw [if_neg h2, if_neg (by omega)]

theorem Three.step {w3 wr : World} {ng k : Nat} {L : Nat → ByteArray} {D R : Nat → Bool} (h : Three w3 wr ng k L D R) (o : Obj) :
    Three w3 ((((wr.setCell ⟨w3.heap.size, k, none⟩ (.string (L k))).setCell ⟨w3.heap.size + 1, k, none⟩ (.bool (D k))).setCell ⟨w3.heap.size + 1 + 1, k, none⟩ (.bool (R k))).alloc o) ng (k + 1) L D R where
  since := by
    have hB := h.since.size
    exact (((h.since.setCell (Nat.le_refl _) _).setCell (by simp) _).setCell (by simp; omega) _).alloc (by simpa [World.setCell] using hB) o
  lit := ((((h.lit.set k _).setOther (by simp) _).setOther (by simp; omega) _).alloc o).congr (fun j _ => row_step (f := fun j => .string (L j)))
  wild := ((((h.wild.setOther (by simp) _).set k _).setOther (by simp) _).alloc o).congr (fun j _ => row_step (f := fun j => .bool (D j)))
  rest := ((((h.rest.setOther (by simp; omega) _).setOther (by simp) _).set k _).alloc o).congr (fun j _ => row_step (f := fun j => .bool (R j)))

theorem Three.rows {w3 wr : World} {ng : Nat} {L : Nat → ByteArray} {D R : Nat → Bool} (h : Three w3 wr ng ng L D R) :
    StrRow wr (some ⟨w3.heap.size, 0, none⟩) ng L ∧ BoolRow wr (some ⟨w3.heap.size + 1, 0, none⟩) ng D ∧ BoolRow wr (some ⟨w3.heap.size + 1 + 1, 0, none⟩) ng R :=
  ⟨fun _ => ⟨_, _, rfl, fun i hi => by rw [Nat.zero_add, h.lit.cell hi, if_pos hi]⟩, fun _ => ⟨_, _, rfl, fun i hi => by rw [Nat.zero_add, h.wild.cell hi, if_pos hi]⟩, fun _ => ⟨_, _, rfl, fun i hi => by rw [Nat.zero_add, h.rest.cell hi, if_pos hi]⟩⟩

theorem since_on {w w' w'' : World} (h : w.Since w.heap.size w') (k : w'.Since w'.heap.size w'') : w.Since w.heap.size w'' :=
  h.trans ⟨k.os, k.tape, k.output, k.size, fun i hi => k.block i (by have := h.size; omega)⟩

theorem hit_is {n : Nat} {S : Nat → ByteArray} {P : Nat → Bool} {nm : ByteArray} {ok : Bool} (h : FirstHit n S P nm ok) {m : Nat} (hm : m < n) (hP : P m = true) (hno : ∀ j, j < m → P j = false) : nm = S m ∧ ok = true := by
  rcases h with ⟨i, hi, h1, h2, h3, h4⟩ | ⟨h1, _, _⟩
  · obtain rfl : i = m := by
      by_cases e : i < m
      · rw [hno i e] at h1; cases h1
      · by_cases e2 : m < i
        · rw [h2 m e2] at hP; cases hP
        · omega
    exact ⟨h3, h4⟩
  · rw [h1 m hm] at hP; cases hP
theorem hit_no {n : Nat} {S : Nat → ByteArray} {P : Nat → Bool} {nm : ByteArray} {ok : Bool} (h : FirstHit n S P nm ok) (hno : ∀ j, j < n → P j = false) : nm = ⟨#[]⟩ ∧ ok = false := by
  rcases h with ⟨i, hi, h1, h2, h3, h4⟩ | ⟨_, h1, h2⟩
  · rw [hno i hi] at h1; cases h1
  · exact ⟨h1, h2⟩

/-- The law's answer. -/
def LawAns (w : World) (e : Ending) (w' : World) : Prop := e = .returned (.bool true) ∧ w.Since w.heap.size w'

set_option maxHeartbeats 2000000 in
theorem top_some (er : Bool) (mux tpl path : ByteArray) (aw ag ai : Option Addr) (nw cw ng cg ni ci : Nat) (S L : Nat → ByteArray) (D R : Nat → Bool) (Kz : Nat → Int) (w : World)
    (hw : StrRow w aw nw S) (hg : SegRow w ag ng L D R) (hi : IntRow w ai ni Kz) (hn : nw ≤ maxLen) (hn2 : ng ≤ maxLen) (hn3 : ni ≤ maxLen)
    (z1 : aw = none → nw = 0) (z2 : ag = none → ng = 0) (z3 : ai = none → ni = 0) (hm : MaxAt w) (hd : hasDS path.data.toList = true) :
    Calls Try.prog 4 #[.bool er, .string mux, .string tpl, .slice aw nw cw, .slice ag ng cg, .slice ai ni ci, .string path] w (LawAns w) := by
  have HA := hid (zzb_any er mux tpl path aw ag ai nw cw ng cg ni ci S L D R w hw hg hn hn2)
  have HB := hid (ewtb_any mux tpl path aw ag ai nw cw ng cg ni ci S L D R w hw hg hn hn2 hn3)
  have hmk1 := fun (h : ng ≤ 65536) w => run_make_row' (P := Try.prog) 25 9 (.string ⟨#[]⟩) 16 Try.underlying25 Try.info9 rfl .i64 .i64 ng (by omega) (by omega) w
  have hmk2 := fun (h : ng ≤ 65536) w => run_make_row' (P := Try.prog) 34 4 (.bool false) 1 Try.underlying34 Try.info4 rfl .i64 .i64 ng (by omega) (by omega) w
  unfold maxLen at hn hn2 hn3
  have h0 : 0 < path.size := by
    have := head_cons_ds hd
    have h3 := List.length_pos_iff.2 this
    have h4 : path.data.toList.length = path.size := by simp
    omega
  go_enter Try.func4, Try.ntmps4
  go_wp2_with fail
  refine HA.out.mono ?_
  rintro e w' ⟨b, rfl, -, rfl⟩
  cases b with
  | false =>
    go_wp2_with fail
    go_ret
    exact ⟨rfl, World.Since.refl _ _⟩
  | true =>
  go_wp2_with fail
  refine HB.out.mono ?_
  rintro e w0 ⟨b, rfl, hsm, rfl⟩
  cases b with
  | true =>
    go_wp2_with fail
    go_ret
    exact ⟨rfl, World.Since.refl _ _⟩
  | false =>
  have sm := hsm rfl
  have s1 := sm.1
  have s2 := sm.2.1
  have s3 := sm.2.2.1
  have s4 := sm.2.2.2
  have HS := hid sm
  clear hsm sm HA HB
  have mk1 := hmk1 (by omega)
  have mk2 := hmk2 (by omega)
  clear hmk1 hmk2
  go_wp2_with fail
  refine (hds_any path _ s4).mono ?_
  rintro e w1 ⟨rfl, rfl⟩
  go_wp2_with fail
  refine (ord_any path aw ag ai nw cw ng cg ni ci L D R Kz _ hg hi HS.out h0).mono ?_
  rintro e w2 ⟨b, rfl, hdom, rfl⟩
  cases b with
  | true =>
    go_wp2_with fail
    go_ret
    exact ⟨rfl, World.Since.refl _ _⟩
  | false =>
  have HD := hid (hdom rfl)
  clear hdom
  go_wp2_with fail
  refine (cps_any aw nw cw S _ hw s1 z1).mono ?_
  rintro e w3 ⟨awc, cwc, rfl, rw1, sn1⟩
  go_wp2_with fail
  refine (cpg_any ag ng cg L D R _ (hg.since sn1) s2 z2).mono ?_
  rintro e w4 ⟨agc, cgc, rfl, rw2, sn2⟩
  go_wp2_with fail
  refine (cpi_any ai ni ci Kz _ ((hi.since sn1).since sn2) s3 z3).mono ?_
  rintro e w5 ⟨aic, cic, rfl, rw3, sn3⟩
  go_wp2_with fail
  go_loopw [19] (fun i wr => ∃ k : Nat, k ≤ ng ∧ i = .int .i64 k ∧ Hid (Three w5 wr ng k L D R)) (fun i _ => ng - (intOf i).toNat)
  case atStart => exact ⟨0, Nat.zero_le _, rfl, hid (Three.start _ _ _ _ _)⟩
  case round =>
    obtain ⟨k, hk, rfl, hth⟩ := hrel
    by_cases hlt : k < ng
    · obtain ⟨bg, og, rfl, cg⟩ := (rw2.since sn3) (by omega)
      obtain ⟨c0, c1, c2⟩ := cg k hlt
      have d0 : wr.cell? ⟨bg, og + k * 3, none⟩ = some (.string (L k)) := by rw [hth.out.since.cell (lt_of_cell c0)]; exact c0
      have d1 : wr.cell? ⟨bg, og + k * 3 + 1, none⟩ = some (.bool (D k)) := by rw [hth.out.since.cell (lt_of_cell c0)]; exact c1
      have d2 : wr.cell? ⟨bg, og + k * 3 + 2, none⟩ = some (.bool (R k)) := by rw [hth.out.since.cell (lt_of_cell c0)]; exact c2
      have l0 := hth.out.lit.cell hlt
      have l1 := hth.out.wild.cell hlt
      have l2 := hth.out.rest.cell hlt
      have f0 := hth.out.lit.frozen k
      have f1 := hth.out.wild.frozen k
      have f2 := hth.out.rest.frozen k
      have e0 := hth.out.lit.lt
      have e1 := hth.out.wild.lt
      have e2 := hth.out.rest.lt
      simp only [Nat.lt_irrefl, if_false] at l0 l1 l2
      clear c0 c1 c2 cg
      go_wp2_with fail
      go_roundw
      case rel => exact ⟨k + 1, by omega, by go_num, hid (hth.out.step _)⟩
      case measure => simp [intOf]; omega
    · obtain rfl : k = ng := by omega
      obtain ⟨t4, t5, t6⟩ := hth.out.rows
      have sw := hth.out.since
      have all := since_on (since_on (since_on sn1 sn2) sn3) sw
      have hdo := HD.out
      have hki : IntRow wr aic nw (fun i => (((Kz i).toNat : Nat) : Int)) := by
        intro hpos
        obtain ⟨b, off, e, hc⟩ := (rw3.since sw) (by have := hdo.2.1; omega)
        refine ⟨b, off, e, fun i hi => ?_⟩
        have h1 := (hdo.2.2 i hi).1
        show _ = some (Value.int .i64 (((Kz i).toNat : Nat) : Int))
        rw [hc i (by have := hdo.2.1; omega), Int.toNat_of_nonneg h1]
      have dom2 : path.data.toList.head? = some 47 ∧ nw ≤ ni ∧ ∀ i, i < nw → (Kz i).toNat < k ∧ (R (Kz i).toNat = false → (Kz i).toNat < slashes path.data.toList) :=
        ⟨hdo.1, hdo.2.1, fun i hi => ⟨by have := hdo.2.2 i hi; omega, fun hr => by have := (hdo.2.2 i hi).1; have := (hdo.2.2 i hi).2.2 hr; omega⟩⟩
      have HZ := hid (zzew_some er mux tpl path nw cwc k k k k ni cic awc (some ⟨w5.heap.size, 0, none⟩) (some ⟨w5.heap.size + 1, 0, none⟩) (some ⟨w5.heap.size + 1 + 1, 0, none⟩) aic wr S L D R (fun i => (Kz i).toNat) hd s4 (hm.since all) (((rw1.since sn2).since sn3).since sw) t4 t5 t6 hki s1 s2 s3 (hid dom2))
      have HK := hid hki
      have HG := hid ((rw2.since sn3).since sw)
      have HW := hid (((rw1.since sn2).since sn3).since sw)
      have HD2 := hid dom2
      have hni := hdo.2.1
      clear hki t4 t5 t6 dom2 hdo rw1 rw2 rw3 hw hg hi
      go_wp2_with fail
      refine HZ.out.mono ?_
      rintro e w6 ⟨nm, ok, rfl, hf, sn6⟩
      have HF := hid hf
      have HK6 := hid (HK.out.since sn6)
      have HG6 := hid (HG.out.since sn6)
      have HW6 := hid (HW.out.since sn6)
      clear hf HZ HK HG HW
      go_wp2_with fail
      go_loop [23] (fun i => ∃ m : Nat, m ≤ nw ∧ i = .int .i64 m ∧ Hid (∀ j, j < m → hitB path.data.toList R (fun i => (Kz i).toNat) j = false)) (fun i => nw - (intOf i).toNat)
      case atStart => exact ⟨0, Nat.zero_le _, rfl, hid (fun j h => absurd h (by omega))⟩
      case round =>
        obtain ⟨m, hm2, rfl, HP⟩ := hrel
        by_cases hmn : m < nw
        · obtain ⟨bi, oi, rfl, ci2⟩ := HK6.out (by omega)
          obtain ⟨v1, v2⟩ := HD2.out.2.2 m hmn
          obtain ⟨bg, og, rfl, cg2⟩ := HG6.out (by omega)
          have cim : w6.cell? ⟨bi, oi + m, none⟩ = some (.int .i64 ((Kz m).toNat : Nat)) := ci2 m hmn
          have cgm := (cg2 (Kz m).toNat v1).2.2
          have HKm := hid (show (fun i => (Kz i).toNat) m = (Kz m).toNat from rfl)
          clear ci2 cg2
          generalize hkk : (Kz m).toNat = kk at *
          have Hkk := hid hkk
          clear hkk
          cases hr : R kk with
          | true =>
            rw [hr] at cgm
            go_wp2_with fail
            go_round
            case rel => exact ⟨m + 1, by omega, by go_num, hid (hits_on HP.out (by simp [hitB, Hkk.out, hr]))⟩
            case measure => simp [intOf]; omega
          | false =>
            rw [hr] at cgm
            go_wp2_with fail
            refine (sie_any path kk _ s4).mono ?_
            rintro e w7 ⟨rfl, rfl⟩
            cases hse : segEmpty path.data.toList kk with
            | true =>
              obtain ⟨rfl, rfl⟩ := hit_is HF.out hmn (by simp [hitB, Hkk.out, hr, hse]) HP.out
              obtain ⟨bw, ow, rfl, cw2⟩ := HW6.out (by omega)
              have cwm := cw2 m hmn
              clear cw2
              go_wp2_with fail
              go_ret
              exact ⟨ret_bool (by simp), since_on all sn6⟩
            | false =>
              go_wp2_with fail
              go_round
              case rel => exact ⟨m + 1, by omega, by go_num, hid (hits_on HP.out (by simp [hitB, Hkk.out, hr, hse]))⟩
              case measure => simp [intOf]; omega
        · obtain rfl : m = nw := by omega
          obtain ⟨rfl, rfl⟩ := hit_no HF.out HP.out
          go_wp2_with fail
          go_ret
          exact ⟨ret_bool (by simp), since_on all sn6⟩

set_option maxHeartbeats 2000000 in
theorem top_none (er : Bool) (mux tpl path : ByteArray) (aw ag ai : Option Addr) (nw cw ng cg ni ci : Nat) (S L : Nat → ByteArray) (D R : Nat → Bool) (Kz : Nat → Int) (w : World)
    (hw : StrRow w aw nw S) (hg : SegRow w ag ng L D R) (hi : IntRow w ai ni Kz) (hn : nw ≤ maxLen) (hn2 : ng ≤ maxLen) (hn3 : ni ≤ maxLen)
    (z1 : aw = none → nw = 0) (z2 : ag = none → ng = 0) (z3 : ai = none → ni = 0) (hm : MaxAt w) (hd : hasDS path.data.toList = false) :
    Calls Try.prog 4 #[.bool er, .string mux, .string tpl, .slice aw nw cw, .slice ag ng cg, .slice ai ni ci, .string path] w (LawAns w) := by
  have HA := hid (zzb_any er mux tpl path aw ag ai nw cw ng cg ni ci S L D R w hw hg hn hn2)
  have HB := hid (ewtb_any mux tpl path aw ag ai nw cw ng cg ni ci S L D R w hw hg hn hn2 hn3)
  have hmk1 := fun (h : ng ≤ 65536) w => run_make_row' (P := Try.prog) 25 9 (.string ⟨#[]⟩) 16 Try.underlying25 Try.info9 rfl .i64 .i64 ng (by omega) (by omega) w
  have hmk2 := fun (h : ng ≤ 65536) w => run_make_row' (P := Try.prog) 34 4 (.bool false) 1 Try.underlying34 Try.info4 rfl .i64 .i64 ng (by omega) (by omega) w
  unfold maxLen at hn hn2 hn3
  go_enter Try.func4, Try.ntmps4
  go_wp2_with fail
  refine HA.out.mono ?_
  rintro e w' ⟨b, rfl, -, rfl⟩
  cases b with
  | false =>
    go_wp2_with fail
    go_ret
    exact ⟨rfl, World.Since.refl _ _⟩
  | true =>
  go_wp2_with fail
  refine HB.out.mono ?_
  rintro e w0 ⟨b, rfl, hsm, rfl⟩
  cases b with
  | true =>
    go_wp2_with fail
    go_ret
    exact ⟨rfl, World.Since.refl _ _⟩
  | false =>
  have sm := hsm rfl
  have s1 := sm.1
  have s2 := sm.2.1
  have s3 := sm.2.2.1
  have s4 := sm.2.2.2
  have HS := hid sm
  clear hsm sm HA HB
  have mk1 := hmk1 (by omega)
  have mk2 := hmk2 (by omega)
  clear hmk1 hmk2
  go_wp2_with fail
  refine (hds_any path _ s4).mono ?_
  rintro e w1 ⟨rfl, rfl⟩
  go_wp2_with fail
  refine (cps_any aw nw cw S _ hw s1 z1).mono ?_
  rintro e w3 ⟨awc, cwc, rfl, rw1, sn1⟩
  go_wp2_with fail
  refine (cpg_any ag ng cg L D R _ (hg.since sn1) s2 z2).mono ?_
  rintro e w4 ⟨agc, cgc, rfl, rw2, sn2⟩
  go_wp2_with fail
  refine (cpi_any ai ni ci Kz _ ((hi.since sn1).since sn2) s3 z3).mono ?_
  rintro e w5 ⟨aic, cic, rfl, rw3, sn3⟩
  go_wp2_with fail
  go_loopw [19] (fun i wr => ∃ k : Nat, k ≤ ng ∧ i = .int .i64 k ∧ Hid (Three w5 wr ng k L D R)) (fun i _ => ng - (intOf i).toNat)
  case atStart => exact ⟨0, Nat.zero_le _, rfl, hid (Three.start _ _ _ _ _)⟩
  case round =>
    obtain ⟨k, hk, rfl, hth⟩ := hrel
    by_cases hlt : k < ng
    · obtain ⟨bg, og, rfl, cg⟩ := (rw2.since sn3) (by omega)
      obtain ⟨c0, c1, c2⟩ := cg k hlt
      have d0 : wr.cell? ⟨bg, og + k * 3, none⟩ = some (.string (L k)) := by rw [hth.out.since.cell (lt_of_cell c0)]; exact c0
      have d1 : wr.cell? ⟨bg, og + k * 3 + 1, none⟩ = some (.bool (D k)) := by rw [hth.out.since.cell (lt_of_cell c0)]; exact c1
      have d2 : wr.cell? ⟨bg, og + k * 3 + 2, none⟩ = some (.bool (R k)) := by rw [hth.out.since.cell (lt_of_cell c0)]; exact c2
      have l0 := hth.out.lit.cell hlt
      have l1 := hth.out.wild.cell hlt
      have l2 := hth.out.rest.cell hlt
      have f0 := hth.out.lit.frozen k
      have f1 := hth.out.wild.frozen k
      have f2 := hth.out.rest.frozen k
      have e0 := hth.out.lit.lt
      have e1 := hth.out.wild.lt
      have e2 := hth.out.rest.lt
      simp only [Nat.lt_irrefl, if_false] at l0 l1 l2
      clear c0 c1 c2 cg
      go_wp2_with fail
      go_roundw
      case rel => exact ⟨k + 1, by omega, by go_num, hid (hth.out.step _)⟩
      case measure => simp [intOf]; omega
    · obtain rfl : k = ng := by omega
      obtain ⟨t4, t5, t6⟩ := hth.out.rows
      have sw := hth.out.since
      have all := since_on (since_on (since_on sn1 sn2) sn3) sw
      have HZ := hid (zzew_none er mux tpl path nw cwc k k k k ni cic awc (some ⟨w5.heap.size, 0, none⟩) (some ⟨w5.heap.size + 1, 0, none⟩) (some ⟨w5.heap.size + 1 + 1, 0, none⟩) aic wr S L D R hd s4 (hm.since all) t4 t5 t6 s2)
      clear t4 t5 t6 rw1 rw2 rw3 hw hg hi
      go_wp2_with fail
      refine HZ.out.mono ?_
      rintro e w6 ⟨nm, ok, rfl, hf, sn6⟩
      obtain ⟨rfl, rfl⟩ := hit_no hf (fun j h => absurd h (by omega))
      clear hf HZ
      go_wp2_with fail
      go_ret
      exact ⟨ret_bool (by simp), since_on all sn6⟩

end Go.Proofs.Qxb6604186a
