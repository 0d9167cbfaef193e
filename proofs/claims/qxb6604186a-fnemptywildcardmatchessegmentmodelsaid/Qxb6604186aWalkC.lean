import Derived.Test.Qxb6604186aWalkB
namespace Go.Proofs.Qxb6604186a
open Go.RowKit

/-- The documented domain, as 'outsideRouteDomain' asks it. -/
def Dom (l : List UInt8) (nw ng ni : Nat) (K : Nat → Int) (R : Nat → Bool) : Prop :=
  l.head? = some 47 ∧ nw ≤ ni ∧ ∀ i, i < nw → 0 ≤ K i ∧ K i < ng ∧ (R (K i).toNat = false → K i < slashes l)

set_option maxHeartbeats 1000000 in
theorem ord_any (path : ByteArray) (aw ag ai : Option Addr) (nw cw ng cg ni ci : Nat) (L : Nat → ByteArray) (D R : Nat → Bool) (K : Nat → Int) (w : World)
    (hg : SegRow w ag ng L D R) (hi : IntRow w ai ni K) (sm : Small nw ng ni path.size) (h0 : 0 < path.size) :
    Calls Try.prog 12 #[.slice aw nw cw, .slice ag ng cg, .slice ai ni ci, .string path] w (BoolAns (Dom path.data.toList nw ng ni K R) w) := by
  obtain ⟨s1, s2, s3, s4⟩ := sm
  have hcnt : Hid (Calls Try.prog 22 #[.string path] w fun e w' => e = .returned (.int .i64 (slashes path.data.toList)) ∧ w' = w) := hid (cnt_any path w s4)
  by_cases c1 : (path[0].toNat : Int) = 47
  · have hhd : path.data.toList.head? = some 47 := by have := head_at path 0 h0; rw [List.drop_zero] at this; rw [this, byte47 c1]
    have HH := hid hhd
    clear hhd
    by_cases c2 : ni < nw
    · go_enter Try.func12, Try.ntmps12
      go_wp2
      go_ret
      exact BoolAns.yes
    · go_enter Try.func12, Try.ntmps12
      go_wp2_with fail
      refine hcnt.out.mono ?_
      rintro e w' ⟨rfl, rfl⟩
      have hsl : slashes path.data.toList ≤ 1048576 := by have := slashes_le path.data.toList; simp at this; omega
      go_wp2
      go_loop [10] (fun i => ∃ k : Nat, k ≤ nw ∧ i = .int .i64 k ∧ Hid (∀ i, i < k → 0 ≤ K i ∧ K i < ng ∧ (R (K i).toNat = false → K i < slashes path.data.toList))) (fun i => nw - (intOf i).toNat)
      case atStart => exact ⟨0, Nat.zero_le _, rfl, hid (fun i h => absurd h (by omega))⟩
      case round =>
        obtain ⟨k, hk, rfl, HK⟩ := hrel
        by_cases hlt : k < nw
        · obtain ⟨b2, off2, rfl, hc2⟩ := hi (by omega)
          have hck := hc2 k (by omega)
          clear hc2
          by_cases d1 : 0 ≤ K k
          · by_cases d2 : K k < ng
            · obtain ⟨b1, off1, rfl, hc1⟩ := hg (by omega)
              have hsk := (hc1 (K k).toNat (by omega)).2.2
              clear hc1
              go_wp2
              · go_round
                case rel =>
                  have hR : R (K k).toNat = true := by assumption
                  refine ⟨k + 1, by omega, by go_num, hid (fun i h => ?_)⟩
                  by_cases hik : i < k
                  · exact HK.out i hik
                  · obtain rfl : i = k := by omega
                    exact ⟨d1, d2, fun hr => by rw [hR] at hr; cases hr⟩
                case measure => simp [intOf]; omega
              · go_ret
                exact BoolAns.yes
              · go_round
                case rel =>
                  have hR : K k < ↑(slashes path.data.toList) := by assumption
                  refine ⟨k + 1, by omega, by go_num, hid (fun i h => ?_)⟩
                  by_cases hik : i < k
                  · exact HK.out i hik
                  · obtain rfl : i = k := by omega
                    exact ⟨d1, d2, fun _ => hR⟩
                case measure => simp [intOf]; omega
            · go_wp2
              go_ret
              exact BoolAns.yes
          · go_wp2
            go_ret
            exact BoolAns.yes
        · go_wp2
          go_ret
          exact BoolAns.no ⟨HH.out, by omega, fun i h => HK.out i (by omega)⟩
  · go_enter Try.func12, Try.ntmps12
    go_wp2
    go_ret
    exact BoolAns.yes
end Go.Proofs.Qxb6604186a
