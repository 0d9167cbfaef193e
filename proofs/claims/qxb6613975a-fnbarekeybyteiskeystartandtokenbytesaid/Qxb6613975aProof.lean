/-
  'Rows.FnBareKeyByteIsKeyStartAndTokenByteSaid' PROVED: the given shell's frame at this function, its hole filled by the walk 'top'.
-/
import Derived.Test.Qxb6613975aRows
import Derived.Test.Qxb6613975aWalkD
import Derived.ProofKit
import Derived.OpenShut
import Derived.ShutString
namespace Go.Proofs.Qxb6613975a.fnBareKeyByteIsKeyStartAndTokenByte
open Go.ChangeShapes Go.WideShapes Go.ChangeAt Go.RowKit
open Go.ChangeMaps (open_string shut_string)
set_option linter.unusedVariables false

theorem own : ownKnob Try.prog.godebug = none := by kernel_rfl

theorem bare_eq (c : Int) : bareB c = (alnumB c || c == 95 || c == 45) := by
  rw [Bool.eq_iff_iff]; simp [bareB, alnumB]; omega
theorem start_eq (c : Int) : startB c = (bareB c || c == 34 || c == 39) := by
  rw [Bool.eq_iff_iff]; simp [startB, bareB]; omega
theorem bare_tchar (c : Int) : (!bareB c || tcharB c) = true := by
  cases hb : bareB c with
  | false => rfl
  | true => have := of_decide_eq_true hb; rw [show tcharB c = true from decide_eq_true (by omega)]; rfl
theorem tok_one (b : UInt8) : tokB [b] = tcharB (b.toNat : Int) := by simp [tokB]
theorem tok_snoc (l : List UInt8) (b : UInt8) : tokB (l ++ [b]) = (tcharB (b.toNat : Int) && (l.isEmpty || tokB l)) := by
  cases l with
  | nil => simp [tokB]
  | cons x l => simp [tokB, Bool.and_comm, Bool.and_left_comm]

set_option maxHeartbeats 1000000 in
theorem big (c : Int) (s : ByteArray) (w : World) (hs : s.size ≤ maxLen) (h : 4096 < s.size) :
    Calls Try.prog 3 #[.int .u8 c, .string s] w fun e w' => e = .returned (.bool true) ∧ Grown w w' := by
  have HZ := hid (zzb_any c s w hs)
  unfold maxLen at hs
  by_cases h2 : 1048576 < s.size
  · go_enter Try.func3, Try.ntmps3
    go_wp2_with fail
    refine HZ.out.mono ?_
    rintro e w' ⟨rfl, rfl⟩
    rw [show decide (s.size ≤ 1048576) = false by simp; omega]
    go_wp2_with fail
    go_ret
    exact ⟨rfl, Grown.refl _⟩
  · go_enter Try.func3, Try.ntmps3
    go_wp2_with fail
    refine HZ.out.mono ?_
    rintro e w' ⟨rfl, rfl⟩
    rw [show decide (s.size ≤ 1048576) = true by simp; omega]
    go_wp2_with fail
    go_ret
    exact ⟨rfl, Grown.refl _⟩

theorem walk (a0 : Int) (a1 : ByteArray) (w0 : (Lit.int .u8 a0).wf = true) (w1 : a1.size ≤ maxLen) (w : World) :
    Calls Try.prog 3 #[.int .u8 a0, .string a1] w fun e w' => e = .returned (.bool true) ∧ Grown w w' := by
  by_cases hb : 4096 < a1.size
  · exact big a0 a1 w w1 hb
  · obtain ⟨g0, g1⟩ := bounds_u8 w0
    obtain ⟨n, rfl⟩ := Int.eq_ofNat_of_zero_le g0
    have hn : n = (UInt8.ofNat n).toNat := by simp; omega
    generalize UInt8.ofNat n = b at hn
    subst hn
    exact top b a1 w (by omega) _ _ _ _ _ _ _ _ _ _ _ rfl rfl rfl rfl (tok_one b) rfl rfl rfl rfl rfl rfl rfl (bare_eq _) (start_eq _) (bare_tchar _) (by rw [tok_snoc, ByteArray.toList_eq])

set_option maxRecDepth 100000 in
theorem lifted (os : Os) (started : os.Started) (H : Type) (enc : TypeId × Value → H) :
    ReturnsInHanded {} Try.checked os 3 .any (Rows.fnBareKeyByteIsKeyStartAndTokenByteSpec.pre6 enc Try.prog Try.f3 Rows.fnBareKeyByteIsKeyStartAndTokenByteRow.domain false) (Rows.fnBareKeyByteIsKeyStartAndTokenByteSpec.post enc Try.prog Try.f3 false true false false) := by
  refine returnsInHanded_of_change (C := Try.checked) own started (by kernel_rfl) Try.func3
    (ChangeSpec.witness6 (enc := enc) (C := Try.checked) false ⟨#[], #[.int .u8 0, .string ByteArray.empty], []⟩ 8 (by kernel_rfl) (by kernel_rfl) (by kernel_rfl) (by kernel_rfl)) ?_
  intro W base args ds gs before hval0 hW hcnd _
  have hval : ∀ (j : Nat) t v, Try.f3.params[j]? = some t → args[j]? = some v → Value.okWide Try.prog W .any base t v := hval0
  have hW' := hW
  obtain ⟨p, q, hA0, hV, rfl, hfz, hnd⟩ := hW
  have hA : DataW.TrodAll enc Try.prog W 0 (fun _ => true) true Try.f3.params.toList args.toList ds p := hA0
  rw [Try.params3] at hA hval
  obtain ⟨v0, vs0, d0, ds0, p0, q0, hargs, rfl, rfl, h0, r0⟩ := trodAll_cons hA
  obtain ⟨v1, vs1, d1, ds1, p1, q1, rfl, rfl, rfl, h1, r1⟩ := trodAll_cons r0
  obtain ⟨rfl, rfl, rfl⟩ := trodAll_nil r1
  obtain rfl : args = #[v0, v1] := by cases args; simp_all
  obtain ⟨rfl, rfl⟩ := trodVars_none hV
  obtain ⟨a0, rfl, rfl, rfl, w0⟩ := open_int Try.underlying5 (hval 0 5 v0 rfl rfl) h0
  obtain ⟨a1, rfl, rfl, rfl, w1⟩ := open_string Try.underlying9 (hval 1 9 v1 rfl rfl) h1
  clear hA0 hval0
  simp only [List.append_nil] at hW'
  refine (walk a0 a1 w0 w1 W).mono fun e W' ⟨he, hg⟩ => ?_
  subst he
  exact ⟨_, rfl, post_of_same (pa := []) (pv := []) hW' (fun _ _ _ => (trodAll_cons_mk (shut_bool Try.underlying4 _) trodAll_mk0)) (fun sp _ => (trodAll_cons_mk (shut_int Try.underlying5 w0) (trodAll_cons_mk (shut_string Try.underlying9 w1) trodAll_mk0))) (fun _ _ => rfl) rfl
    (hg.frame _) hg.2.1 (ok_one (by kernel_rfl) rfl (okWide_bool_mk Try.underlying4 _))⟩

theorem over : Rows.fnBareKeyByteIsKeyStartAndTokenByteRow.holds Try.pinned (OpenSpec.ofChange Rows.fnBareKeyByteIsKeyStartAndTokenByteSpec) :=
  OpenClaim.holds_of_wide 3 Try.f3 rfl rfl rfl rfl rfl rfl rfl ⟨rfl, rfl, rfl, rfl, rfl⟩ rfl rfl rfl rfl rfl (by kernel_rfl) Try.func3 (by kernel_rfl)
    (of_decide_eq_true (by kernel_rfl)) (by unfold Func.isWrapper; first | (rw [if_pos (by decide +kernel)]; kernel_rfl) | (rw [if_neg (by decide +kernel)]; exact ⟨rfl, rfl⟩))
    (fun os started H enc _ => lifted os started H enc)
end Go.Proofs.Qxb6613975a.fnBareKeyByteIsKeyStartAndTokenByte
namespace Go.Proofs.Qxb6613975a

/-- THE STATEMENT. -/
theorem bareKeyByteProved : Rows.FnBareKeyByteIsKeyStartAndTokenByteSaid := fnBareKeyByteIsKeyStartAndTokenByte.over
end Go.Proofs.Qxb6613975a
