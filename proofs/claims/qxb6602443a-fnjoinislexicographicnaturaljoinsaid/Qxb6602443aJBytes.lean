/-
  THE WALK over the join law's bound on total length: whatever it answers, nothing turns.
-/
import Derived.Test.Qxb6602443aJKit
namespace Go.Proofs.Qxb6602443a
open Go.RowKit Go.Deep
set_option linter.unusedVariables false

set_option maxRecDepth 100000 in
set_option maxHeartbeats 2000000 in
theorem zzbytes_any (B : Nat) (w : World) (ca ra : Option Addr) (K K2 cc rc : Nat) (cA rA : Nat → Option Addr) (nc cC nr rC : Nat → Nat) (name : Nat → Nat → ByteArray) (rrA : Nat → Nat → Option Addr) (rl rrC : Nat → Nat → Nat) (val : Nat → Nat → Nat → ByteArray)
    (hK : K ≤ 9223372036854775807) (hK2 : K2 ≤ 9223372036854775807) (hG : Grid B w ca K cA nc cC name) (hC : Cube B w ra K2 rA nr rC rrA rl rrC val) :
    Calls Try.prog 11 #[.slice ca K cc, .slice ra K2 rc] w fun e w' => (∃ b, e = .returned (.bool b)) ∧ w = w' := by
  go_enter Try.func11, Try.ntmps11
  go_wp2
  · go_ret
    exact ⟨⟨_, rfl⟩, rfl⟩
  go_loopg [5, 6] K (fun g t i wr => ∃ (k : Nat) (T : Int), g = K - k ∧ k ≤ K ∧ 0 ≤ T ∧ T ≤ 1048576 ∧ t = .int .i64 T ∧ i = .int .i64 k ∧ w = wr)
  case atStart => exact ⟨0, _, rfl, Nat.zero_le _, by omega, by omega, rfl, rfl, rfl⟩
  case round =>
    obtain ⟨k, T, hg, hk, hT0, hT1, rfl, rfl, hw⟩ := hrel
    subst hw
    have HG : Hid (gk = K - k) := hg
    clear hg
    by_cases hlt : k < K
    · obtain ⟨b, o, hx, _, hc1⟩ := hG.at1 k hlt
      have hl1 := hG.len1 k hlt
      cases hx
      go_wp2
      · go_ret
        exact ⟨⟨_, rfl⟩, rfl⟩
      · go_ret
        exact ⟨⟨_, rfl⟩, rfl⟩
      have hnc : (nc k : Int) ≤ 1048576 := by assumption
      have hTk : T + (nc k : Int) ≤ 1048576 := by assumption
      go_loopg [5, 7] (nc k) (fun g t i wr => ∃ (c : Nat) (T : Int), g = nc k - c ∧ c ≤ nc k ∧ 0 ≤ T ∧ T ≤ 1048576 ∧ t = .int .i64 T ∧ i = .int .i64 c ∧ w = wr)
      case atStart => exact ⟨0, _, rfl, Nat.zero_le _, by omega, hTk, rfl, rfl, rfl⟩
      case round =>
        obtain ⟨c, T2, hg, hc, hT0, hT1, rfl, rfl, hw⟩ := hrel
        subst hw
        have HG2 : Hid (gk = nc k - c) := hg
        clear hg
        by_cases hlc : c < nc k
        · obtain ⟨b2, o2, hx2, _, hc2⟩ := hG.at2 k hlt c hlc
          have hl2 := hG.len2 k hlt c hlc
          go_wp2
          · go_ret
            exact ⟨⟨_, rfl⟩, rfl⟩
          · go_ret
            exact ⟨⟨_, rfl⟩, rfl⟩
          go_roundg (nc k - (c + 1))
          case measure => rw [HG2.out]; omega
          case rel => exact ⟨c + 1, _, rfl, by omega, by omega, by assumption, rfl, by go_num, rfl⟩
        · go_wp2
          go_roundg (K - (k + 1))
          case measure => rw [HG.out]; omega
          case rel => exact ⟨k + 1, _, rfl, by omega, hT0, hT1, rfl, by go_num, rfl⟩
    · go_wp2
      · go_ret
        exact ⟨⟨_, rfl⟩, rfl⟩
      · go_ret
        exact ⟨⟨_, rfl⟩, rfl⟩
      have hK2b : (K2 : Int) ≤ 1048576 := by assumption
      have hTK2 : T + (K2 : Int) ≤ 1048576 := by assumption
      go_loopg [5, 8] K2 (fun g t i wr => ∃ (k : Nat) (T : Int), g = K2 - k ∧ k ≤ K2 ∧ 0 ≤ T ∧ T ≤ 1048576 ∧ t = .int .i64 T ∧ i = .int .i64 k ∧ w = wr)
      case atStart => exact ⟨0, _, rfl, Nat.zero_le _, by omega, hTK2, rfl, rfl, rfl⟩
      case round =>
        clear hT0 hT1 hTK2 hlt HG hk
        obtain ⟨k, T, hg, hk, hT0, hT1, rfl, rfl, hw⟩ := hrel
        subst hw
        have HG : Hid (gk = K2 - k) := hg
        clear hg
        by_cases hlt : k < K2
        · obtain ⟨b, o, hx, _, hc1⟩ := hC.at1 k hlt
          have hl1 := hC.len1 k hlt
          have hGk := hC.at2 k hlt
          cases hx
          go_wp2
          · go_ret
            exact ⟨⟨_, rfl⟩, rfl⟩
          · go_ret
            exact ⟨⟨_, rfl⟩, rfl⟩
          have hnc : (nr k : Int) ≤ 1048576 := by assumption
          have hTk : T + (nr k : Int) ≤ 1048576 := by assumption
          go_loopg [5, 9] (nr k) (fun g t i wr => ∃ (c : Nat) (T : Int), g = nr k - c ∧ c ≤ nr k ∧ 0 ≤ T ∧ T ≤ 1048576 ∧ t = .int .i64 T ∧ i = .int .i64 c ∧ w = wr)
          case atStart => exact ⟨0, _, rfl, Nat.zero_le _, by omega, hTk, rfl, rfl, rfl⟩
          case round =>
            clear hT0 hT1 hTk
            obtain ⟨r, T, hg, hr, hT0, hT1, rfl, rfl, hw⟩ := hrel
            subst hw
            have HG2 : Hid (gk = nr k - r) := hg
            clear hg
            by_cases hlr : r < nr k
            · obtain ⟨b2, o2, hx2, _, hc2⟩ := hGk.at1 r hlr
              have hl2 := hGk.len1 r hlr
              go_wp2
              · go_ret
                exact ⟨⟨_, rfl⟩, rfl⟩
              · go_ret
                exact ⟨⟨_, rfl⟩, rfl⟩
              have hnr : (rl k r : Int) ≤ 1048576 := by assumption
              have hTr : T + (rl k r : Int) ≤ 1048576 := by assumption
              go_loopg [5, 10] (rl k r) (fun g t i wr => ∃ (c : Nat) (T : Int), g = rl k r - c ∧ c ≤ rl k r ∧ 0 ≤ T ∧ T ≤ 1048576 ∧ t = .int .i64 T ∧ i = .int .i64 c ∧ w = wr)
              case atStart => exact ⟨0, _, rfl, Nat.zero_le _, by omega, hTr, rfl, rfl, rfl⟩
              case round =>
                clear hT0 hT1 hTr
                obtain ⟨c, T, hg, hc, hT0, hT1, rfl, rfl, hw⟩ := hrel
                subst hw
                have HG3 : Hid (gk = rl k r - c) := hg
                clear hg
                by_cases hlc : c < rl k r
                · obtain ⟨b3, o3, hx3, _, hc3⟩ := hGk.at2 r hlr c hlc
                  have hl3 := hGk.len2 r hlr c hlc
                  go_wp2
                  · go_ret
                    exact ⟨⟨_, rfl⟩, rfl⟩
                  · go_ret
                    exact ⟨⟨_, rfl⟩, rfl⟩
                  go_roundg (rl k r - (c + 1))
                  case measure => rw [HG3.out]; omega
                  case rel => exact ⟨c + 1, _, rfl, by omega, by omega, by assumption, rfl, by go_num, rfl⟩
                · go_wp2
                  go_roundg (nr k - (r + 1))
                  case measure => rw [HG2.out]; omega
                  case rel => exact ⟨r + 1, _, rfl, by omega, hT0, hT1, rfl, by go_num, rfl⟩
            · go_wp2
              go_roundg (K2 - (k + 1))
              case measure => rw [HG.out]; omega
              case rel => exact ⟨k + 1, _, rfl, by omega, hT0, hT1, rfl, by go_num, rfl⟩
        · go_wp2
          go_ret
          exact ⟨⟨_, rfl⟩, rfl⟩
end Go.Proofs.Qxb6602443a
