/-
  'Rows.FnEmptyWildcardMatchesSegmentModelSaid' PROVED: the row's step, after the guide's frame (proof-skeleton.mjs) at seven parameters.
-/
import Derived.Test.Qxb6604186aOpens
namespace Go.Proofs.Qxb6604186a.fnEmptyWildcardMatchesSegmentModel
open Go.ChangeShapes Go.WideShapes Go.ChangeAt Go.RowKit Go.Deep
open Go.ChangeMaps (open_string shut_string)

theorem own : ownKnob Try.prog.godebug = none := by kernel_rfl
theorem laidOut : laidOutB Try.prog = true := by kernel_rfl

set_option maxRecDepth 100000 in
theorem lifted (os : Os) (started : os.Started) (H : Type) (enc : TypeId × Value → H) :
    ReturnsInHanded {} Try.checked os 4 .any (Rows.fnEmptyWildcardMatchesSegmentModelSpec.pre6 enc Try.prog Try.f4 Rows.fnEmptyWildcardMatchesSegmentModelRow.domain false) (Rows.fnEmptyWildcardMatchesSegmentModelSpec.post enc Try.prog Try.f4 false true false false) := by
  refine returnsInHanded_of_change_shaped (C := Try.checked) own started (by kernel_rfl) Try.func4
    (ChangeSpec.witness6 (enc := enc) (C := Try.checked) false ⟨#[], #[.bool false, .string ByteArray.empty, .string ByteArray.empty, .slice none 0 0, .slice none 0 0, .slice none 0 0, .string ByteArray.empty], []⟩ 8 (by kernel_rfl) (by kernel_rfl) (by kernel_rfl) (by kernel_rfl)) ?_
  intro W base args ds gs before hval0 hW hcnd _ hsh _
  have hval : ∀ (j : Nat) t v, Try.f4.params[j]? = some t → args[j]? = some v → Value.okWide Try.prog W .any base t v := hval0
  have hW' := hW
  obtain ⟨p, q, hA0, hV, rfl, hfz, hnd⟩ := hW
  have hA : DataW.TrodAll enc Try.prog W 0 (fun _ => true) true Try.f4.params.toList args.toList ds p := hA0
  rw [Try.params4] at hA hval
  obtain ⟨v0, vs0, d0, ds0, p0, q0, hargs, rfl, rfl, h0, r0⟩ := trodAll_cons hA
  obtain ⟨v1, vs1, d1, ds1, p1, q1, rfl, rfl, rfl, h1, r1⟩ := trodAll_cons r0
  obtain ⟨v2, vs2, d2, ds2, p2, q2, rfl, rfl, rfl, h2, r2⟩ := trodAll_cons r1
  obtain ⟨v3, vs3, d3, ds3, p3, q3, rfl, rfl, rfl, h3, r3⟩ := trodAll_cons r2
  obtain ⟨v4, vs4, d4, ds4, p4, q4, rfl, rfl, rfl, h4, r4⟩ := trodAll_cons r3
  obtain ⟨v5, vs5, d5, ds5, p5, q5, rfl, rfl, rfl, h5, r5⟩ := trodAll_cons r4
  obtain ⟨v6, vs6, d6, ds6, p6, q6, rfl, rfl, rfl, h6, r6⟩ := trodAll_cons r5
  obtain ⟨rfl, rfl, rfl⟩ := trodAll_nil r6
  obtain rfl : args = #[v0, v1, v2, v3, v4, v5, v6] := by cases args; simp_all
  obtain ⟨rfl, rfl⟩ := trodVars_none hV
  obtain ⟨a0, rfl, rfl, rfl⟩ := open_bool Try.underlying4 (hval 0 4 v0 rfl rfl) h0
  obtain ⟨a1, rfl, rfl, rfl, w1⟩ := open_string Try.underlying9 (hval 1 9 v1 rfl rfl) h1
  obtain ⟨a2, rfl, rfl, rfl, w2⟩ := open_string Try.underlying9 (hval 2 9 v2 rfl rfl) h2
  obtain ⟨a3, len3, cap3, rfl⟩ := okWide_slice Try.underlying25 (hval 3 25 v3 rfl rfl)
  obtain ⟨a4, len4, cap4, rfl⟩ := okWide_slice Try.underlying26 (hval 4 26 v4 rfl rfl)
  obtain ⟨a5, len5, cap5, rfl⟩ := okWide_slice Try.underlying27 (hval 5 27 v5 rfl rfl)
  obtain ⟨a6, rfl, rfl, rfl, w6⟩ := open_string Try.underlying9 (hval 6 9 v6 rfl rfl) h6
  have k3 := h3
  have k4 := h4
  have k5 := h5
  have lt3 : ∀ x ∈ p3, x.block < W.heap.size := by obtain ⟨m, hm⟩ := k3; exact DataW.trod_lt m _ _ _ hm
  have lt4 : ∀ x ∈ p4, x.block < W.heap.size := by obtain ⟨m, hm⟩ := k4; exact DataW.trod_lt m _ _ _ hm
  have lt5 : ∀ x ∈ p5, x.block < W.heap.size := by obtain ⟨m, hm⟩ := k5; exact DataW.trod_lt m _ _ _ hm
  obtain ⟨⟨S, hS⟩, n3, z3⟩ := (by obtain ⟨fuel, hf⟩ := h3; exact row_str hf : (∃ S, StrRow W a3 len3 S) ∧ len3 ≤ maxLen ∧ (a3 = none → len3 = 0))
  obtain ⟨⟨L, D, R, hG⟩, n4, z4⟩ := (by obtain ⟨fuel, hf⟩ := h4; exact row_seg hf : (∃ L D R, SegRow W a4 len4 L D R) ∧ len4 ≤ maxLen ∧ (a4 = none → len4 = 0))
  obtain ⟨⟨K, hK⟩, n5, z5⟩ := (by obtain ⟨fuel, hf⟩ := h5; exact row_int hf : (∃ K, IntRow W a5 len5 K) ∧ len5 ≤ maxLen ∧ (a5 = none → len5 = 0))
  have hmax : MaxAt W := Try.laysM144.s1_3 W hsh
  clear hA0 hval0
  have law : Calls Try.prog 4 #[.bool a0, .string a1, .string a2, .slice a3 len3 cap3, .slice a4 len4 cap4, .slice a5 len5 cap5, .string a6] W (LawAns W) := by
    cases hd : hasDS a6.data.toList with
    | true => exact top_some a0 a1 a2 a6 a3 a4 a5 len3 cap3 len4 cap4 len5 cap5 S L D R K W hS hG hK n3 n4 n5 z3 z4 z5 hmax hd
    | false => exact top_none a0 a1 a2 a6 a3 a4 a5 len3 cap3 len4 cap4 len5 cap5 S L D R K W hS hG hK n3 n4 n5 z3 z4 z5 hmax hd
  refine law.mono fun e W' ⟨he, hsn⟩ => ?_
  subst he
  have bel := below_of_since hsn
  exact ⟨_, rfl, _, _, _, [], _, [], hW', trodAll_mk1 (shut_bool Try.underlying4 _), (trodAll_cons_mk (shut_bool Try.underlying4 _) (trodAll_cons_mk (shut_string Try.underlying9 w1) (trodAll_cons_mk (shut_string Try.underlying9 w2) (trodAll_cons_mk (Below.trod laidOut (by kernel_rfl) (of_decide_eq_true (by kernel_rfl)) k3 bel lt3) (trodAll_cons_mk (Below.trod laidOut (by kernel_rfl) (of_decide_eq_true (by kernel_rfl)) k4 bel lt4) (trodAll_cons_mk (Below.trod laidOut (by kernel_rfl) (of_decide_eq_true (by kernel_rfl)) k5 bel lt5) (trodAll_cons_mk (shut_string Try.underlying9 w6) trodAll_mk0))))))), rfl, bel.frame _, fun h => by cases h⟩

theorem over : Rows.fnEmptyWildcardMatchesSegmentModelRow.holds Try.pinned (OpenSpec.ofChange Rows.fnEmptyWildcardMatchesSegmentModelSpec) :=
  OpenClaim.holds_of_wide 4 Try.f4 rfl rfl rfl rfl rfl rfl rfl ⟨rfl, rfl, rfl, rfl, rfl⟩ rfl rfl rfl rfl rfl (by kernel_rfl) Try.func4 (by kernel_rfl)
    (of_decide_eq_true (by kernel_rfl)) (by unfold Func.isWrapper; first | (rw [if_pos (by decide +kernel)]; kernel_rfl) | (rw [if_neg (by decide +kernel)]; exact ⟨rfl, rfl⟩))
    (fun os started H enc _ => lifted os started H enc)

end Go.Proofs.Qxb6604186a.fnEmptyWildcardMatchesSegmentModel
namespace Go.Proofs.Qxb6604186a

/-- THE STATEMENT. -/
theorem emptyWildcardProved : Rows.FnEmptyWildcardMatchesSegmentModelSaid := fnEmptyWildcardMatchesSegmentModel.over
end Go.Proofs.Qxb6604186a
