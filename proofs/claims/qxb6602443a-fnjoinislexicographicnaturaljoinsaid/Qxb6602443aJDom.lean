/-
  THE WALK over the join law's domain test: where it says yes, the inputs are in the domain.
-/
import Derived.Test.Qxb6602443aJDefs
namespace Go.Proofs.Qxb6602443a
open Go.RowKit Go.Deep
set_option linter.unusedVariables false

theorem nul_any (s : ByteArray) (w : World) (hs : s.size ≤ 9223372036854775807) :
    Calls Try.prog 17 #[.string s] w fun e w' => (e = .returned (.bool true) ∨ (e = .returned (.bool false) ∧ NoNul s)) ∧ w = w' := by
  go_enter Try.func17, Try.ntmps17
  go_wp2
  go_loopg [3] s.size (fun g i wr => ∃ k : Nat, g = s.size - k ∧ k ≤ s.size ∧ i = .int .i64 k ∧ (∀ j, j < k → ∀ (h : j < s.size), (s[j].toNat : Int) ≠ 0) ∧ w = wr)
  case atStart => exact ⟨0, rfl, Nat.zero_le _, rfl, fun j hj => absurd hj (by omega), rfl⟩
  case round =>
    obtain ⟨k, hg, hk, rfl, hd, hw⟩ := hrel
    subst hw
    have HG : Hid (gk = s.size - k ∧ ∀ j, j < k → ∀ (h : j < s.size), (s[j].toNat : Int) ≠ 0) := ⟨hg, hd⟩
    clear hg hd
    by_cases hlt : k < s.size
    · go_wp2
      · go_ret
        exact ⟨.inl rfl, rfl⟩
      · have hne : ((s[k].toNat : Int) == 0) = false := by assumption
        go_roundg (s.size - (k + 1))
        case measure => rw [HG.out.1]; omega
        case rel => exact ⟨k + 1, rfl, by omega, by go_num, all_succ HG.out.2 (fun h => by simpa using hne), rfl⟩
    · go_wp2
      go_ret
      exact ⟨.inr ⟨rfl, fun i h => HG.out.2 i (by omega) h⟩, rfl⟩

set_option maxRecDepth 100000 in
set_option maxHeartbeats 4000000 in
theorem dom12_any (B : Nat) (w : World) (ca ra : Option Addr) (K K2 cc rc : Nat) (cA rA : Nat → Option Addr) (nc cC nr rC : Nat → Nat) (name : Nat → Nat → ByteArray) (rrA : Nat → Nat → Option Addr) (rl rrC : Nat → Nat → Nat) (val : Nat → Nat → Nat → ByteArray)
    (hK : K ≤ 4096) (hK2 : K2 ≤ 4096) (hG : Grid B w ca K cA nc cC name) (hC : Cube B w ra K2 rA nr rC rrA rl rrC val) :
    Calls Try.prog 12 #[.slice ca K cc, .slice ra K2 rc] w fun e w' => (e = .returned (.bool false) ∨ (e = .returned (.bool true) ∧ K = K2 ∧ InDom K nc nr name rl val)) ∧ ∃ m, w.drewN m = w' := by
  have hd1 := big_no hK
  have hd2 := big_no hK2
  go_enter Try.func12, Try.ntmps12
  go_wp2
  go_loopg [5, 6] K (fun g t i wr => ∃ (k : Nat) (T : Int), g = K - k ∧ k ≤ K ∧ 0 ≤ T ∧ T ≤ 1048576 ∧ t = .int .i64 T ∧ i = .int .i64 k ∧ (∀ k', k' < k → nc k' ≤ 65536 ∧ ∀ c, c < nc k' → (name k' c).size ≤ 1048576) ∧ w = wr)
  case atStart => exact ⟨0, _, rfl, Nat.zero_le _, by omega, by omega, rfl, rfl, fun _ h => absurd h (by omega), rfl⟩
  case round =>
    obtain ⟨k, T, hg, hk, hT0, hT1, rfl, rfl, hf, hw⟩ := hrel
    subst hw
    have HG : Hid (gk = K - k) := hg
    have HF : Hid (∀ k', k' < k → nc k' ≤ 65536 ∧ ∀ c, c < nc k' → (name k' c).size ≤ 1048576) := hf
    clear hg hf
    by_cases hlt : k < K
    · obtain ⟨b, o, hx, _, hc1⟩ := hG.at1 k hlt
      have hl1 := hG.len1 k hlt
      cases hx
      go_wp2
      · go_ret
        exact ⟨.inl rfl, 0, rfl⟩
      · go_ret
        exact ⟨.inl rfl, 0, rfl⟩
      have hnc : (nc k : Int) ≤ 1048576 := by assumption
      have hTk : T + 16 * (nc k : Int) ≤ 1048576 := by assumption
      go_loopg [5, 7] (nc k) (fun g t i wr => ∃ (c : Nat) (T : Int), g = nc k - c ∧ c ≤ nc k ∧ 0 ≤ T ∧ T ≤ 1048576 ∧ t = .int .i64 T ∧ i = .int .i64 c ∧ (∀ c', c' < c → (name k c').size ≤ 1048576) ∧ w = wr)
      case atStart => exact ⟨0, _, rfl, Nat.zero_le _, by omega, hTk, rfl, rfl, fun _ h => absurd h (by omega), rfl⟩
      case round =>
        obtain ⟨c, T2, hg, hc, hT2, hT3, rfl, rfl, hf, hw⟩ := hrel
        subst hw
        have HG2 : Hid (gk = nc k - c) := hg
        have HF2 : Hid (∀ c', c' < c → (name k c').size ≤ 1048576) := hf
        clear hg hf
        by_cases hlc : c < nc k
        · obtain ⟨b2, o2, hx2, _, hc2⟩ := hG.at2 k hlt c hlc
          have hl2 := hG.len2 k hlt c hlc
          go_wp2
          · go_ret
            exact ⟨.inl rfl, 0, rfl⟩
          · go_ret
            exact ⟨.inl rfl, 0, rfl⟩
          have hsz : ((name k c).size : Int) ≤ 1048576 := by assumption
          go_roundg (nc k - (c + 1))
          case measure => rw [HG2.out]; omega
          case rel => exact ⟨c + 1, _, rfl, by omega, by omega, by assumption, rfl, by go_num, all_succ HF2.out (by omega), rfl⟩
        · have hcn : nc k = c := by omega
          go_wp2
          go_roundg (K - (k + 1))
          case measure => rw [HG.out]; omega
          case rel => exact ⟨k + 1, _, rfl, by omega, hT2, hT3, rfl, by go_num, all_succ HF.out ⟨by omega, fun c' h => HF2.out c' (by omega)⟩, rfl⟩
    · have HFC : Hid (∀ k', k' < K → nc k' ≤ 65536 ∧ ∀ c, c < nc k' → (name k' c).size ≤ 1048576) := fun k' h => HF.out k' (by omega)
      clear HF HG
      go_wp2
      clear hlt hk
      go_loopg [5, 8] K2 (fun g t i wr => ∃ (k : Nat) (T : Int), g = K2 - k ∧ k ≤ K2 ∧ 0 ≤ T ∧ T ≤ 1048576 ∧ t = .int .i64 T ∧ i = .int .i64 k ∧ (∀ k', k' < k → nr k' ≤ 65536 ∧ ∀ r, r < nr k' → rl k' r ≤ 65536 ∧ ∀ c, c < rl k' r → (val k' r c).size ≤ 1048576) ∧ w = wr)
      case atStart => exact ⟨0, _, rfl, Nat.zero_le _, hT0, hT1, rfl, rfl, fun _ h => absurd h (by omega), rfl⟩
      case round =>
        clear hT0 hT1
        obtain ⟨k, T, hg, hk, hT0, hT1, rfl, rfl, hf, hw⟩ := hrel
        subst hw
        have HG : Hid (gk = K2 - k) := hg
        have HF : Hid (∀ k', k' < k → nr k' ≤ 65536 ∧ ∀ r, r < nr k' → rl k' r ≤ 65536 ∧ ∀ c, c < rl k' r → (val k' r c).size ≤ 1048576) := hf
        clear hg hf
        by_cases hlt : k < K2
        · obtain ⟨b, o, hx, _, hc1⟩ := hC.at1 k hlt
          have hl1 := hC.len1 k hlt
          have hGk := hC.at2 k hlt
          cases hx
          go_wp2
          · go_ret
            exact ⟨.inl rfl, 0, rfl⟩
          · go_ret
            exact ⟨.inl rfl, 0, rfl⟩
          have hnc : (nr k : Int) ≤ 1048576 := by assumption
          have hTk : T + 24 * (nr k : Int) ≤ 1048576 := by assumption
          go_loopg [5, 9] (nr k) (fun g t i wr => ∃ (c : Nat) (T : Int), g = nr k - c ∧ c ≤ nr k ∧ 0 ≤ T ∧ T ≤ 1048576 ∧ t = .int .i64 T ∧ i = .int .i64 c ∧ (∀ r, r < c → rl k r ≤ 65536 ∧ ∀ c, c < rl k r → (val k r c).size ≤ 1048576) ∧ w = wr)
          case atStart => exact ⟨0, _, rfl, Nat.zero_le _, by omega, hTk, rfl, rfl, fun _ h => absurd h (by omega), rfl⟩
          case round =>
            have hnr : nr k ≤ 65536 := by omega
            clear hT0 hT1 hTk
            obtain ⟨r, T, hg, hr, hT0, hT1, rfl, rfl, hf, hw⟩ := hrel
            subst hw
            have HG2 : Hid (gk = nr k - r) := hg
            have HF2 : Hid (∀ r', r' < r → rl k r' ≤ 65536 ∧ ∀ c, c < rl k r' → (val k r' c).size ≤ 1048576) := hf
            clear hg hf
            by_cases hlr : r < nr k
            · obtain ⟨b2, o2, hx2, _, hc2⟩ := hGk.at1 r hlr
              have hl2 := hGk.len1 r hlr
              have hrow := hGk.at2 r hlr
              obtain ⟨X, hX⟩ : ∃ X, X = rrA k r := ⟨_, rfl⟩
              rw [← hX] at hc2 hrow
              clear hX
              go_wp2
              · go_ret
                exact ⟨.inl rfl, 0, rfl⟩
              · go_ret
                exact ⟨.inl rfl, 0, rfl⟩
              have hrl : (rl k r : Int) ≤ 1048576 := by assumption
              have hTr : T + 16 * (rl k r : Int) ≤ 1048576 := by assumption
              clear hx2 hc2
              go_loopg [5, 11] (rl k r) (fun g t i wr => ∃ (c : Nat) (T : Int), g = rl k r - c ∧ c ≤ rl k r ∧ 0 ≤ T ∧ T ≤ 1048576 ∧ t = .int .i64 T ∧ i = .int .i64 c ∧ (∀ c', c' < c → (val k r c').size ≤ 1048576) ∧ w = wr)
              case atStart => exact ⟨0, _, rfl, Nat.zero_le _, by omega, hTr, rfl, rfl, fun _ h => absurd h (by omega), rfl⟩
              case round =>
                have hrl6 : rl k r ≤ 65536 := by omega
                clear hT0 hT1 hTr
                obtain ⟨c, T, hg, hc, hT0, hT1, rfl, rfl, hf, hw⟩ := hrel
                subst hw
                have HG3 : Hid (gk = rl k r - c) := hg
                have HF3 : Hid (∀ c', c' < c → (val k r c').size ≤ 1048576) := hf
                clear hg hf
                by_cases hlc : c < rl k r
                · obtain ⟨b3, o3, hx3, _, hc3⟩ := hrow c hlc
                  have hl3 := hGk.len2 r hlr c hlc
                  cases hx3
                  go_wp2
                  · go_ret
                    exact ⟨.inl rfl, 0, rfl⟩
                  · go_ret
                    exact ⟨.inl rfl, 0, rfl⟩
                  have hsz : ((val k r c).size : Int) ≤ 1048576 := by assumption
                  go_roundg (rl k r - (c + 1))
                  case measure => rw [HG3.out]; omega
                  case rel => exact ⟨c + 1, _, rfl, by omega, by omega, by assumption, rfl, by go_num, all_succ HF3.out (by omega), rfl⟩
                · have hcn : rl k r = c := by omega
                  have hthis : Hid (rl k r ≤ 65536 ∧ ∀ c, c < rl k r → (val k r c).size ≤ 1048576) := ⟨hrl6, fun c' h => HF3.out c' (by omega)⟩
                  clear hcn
                  go_wp2
                  go_roundg (nr k - (r + 1))
                  case measure => rw [HG2.out]; omega
                  case rel => exact ⟨r + 1, _, rfl, by omega, hT0, hT1, rfl, by go_num, all_succ HF2.out hthis.out, rfl⟩
            · have hthis : Hid (nr k ≤ 65536 ∧ ∀ r, r < nr k → rl k r ≤ 65536 ∧ ∀ c, c < rl k r → (val k r c).size ≤ 1048576) := ⟨hnr, fun r' h => HF2.out r' (by omega)⟩
              go_wp2
              go_roundg (K2 - (k + 1))
              case measure => rw [HG.out]; omega
              case rel => exact ⟨k + 1, _, rfl, by omega, hT0, hT1, rfl, by go_num, all_succ HF.out hthis.out, rfl⟩
        · have HFR : Hid (∀ k', k' < K2 → nr k' ≤ 65536 ∧ ∀ r, r < nr k' → rl k' r ≤ 65536 ∧ ∀ c, c < rl k' r → (val k' r c).size ≤ 1048576) := fun k' h => HF.out k' (by omega)
          clear HF HG hT0 hT1
          by_cases hK0 : K = 0
          · go_wp2
            go_ret
            exact ⟨.inl rfl, 0, rfl⟩
          by_cases hKK : K2 = K
          · subst hKK
            have hK0b := beq_zero_no hK0
            go_wp2
            clear hlt hk
            go_loopg [12, 13] K2 (fun g t i wr => ∃ (k P : Nat), g = K2 - k ∧ k ≤ K2 ∧ P = prodN nr k ∧ P ≤ 65536 ∧ t = .int .i64 P ∧ i = .int .i64 k ∧ (∀ k', k' < k → prodN nr (k' + 1) * K2 ≤ 1048576 ∧ prodN nr (k' + 1) ≤ 65536) ∧ w = wr)
            case atStart => exact ⟨0, 1, rfl, Nat.zero_le _, rfl, by omega, rfl, rfl, fun _ h => absurd h (by omega), rfl⟩
            case round =>
              obtain ⟨k, P, hg, hk, hP, hP1, rfl, rfl, hf, hw⟩ := hrel
              subst hw
              have HG : Hid (gk = K2 - k) := hg
              have HF : Hid (P = prodN nr k ∧ ∀ k', k' < k → prodN nr (k' + 1) * K2 ≤ 1048576 ∧ prodN nr (k' + 1) ≤ 65536) := ⟨hP, hf⟩
              clear hg hf hP
              by_cases hlt : k < K2
              · obtain ⟨b, o, hx, _, hc1⟩ := hC.at1 k hlt
                have hnr := (HFR.out k hlt).1
                have hps : prodN nr (k + 1) = P * nr k := by rw [HF.out.1]; rfl
                cases hx
                obtain ⟨n, hn⟩ : ∃ n, n = nr k := ⟨_, rfl⟩
                rw [← hn] at hc1 hnr hps
                obtain ⟨M, hM⟩ : ∃ M, M = P * n := ⟨_, rfl⟩
                rw [← hM] at hps
                have HPS : Hid (prodN nr (k + 1) = M) := hps
                have hMi : (P : Int) * (n : Int) = (M : Int) := by rw [hM]; exact (Int.natCast_mul P n).symm
                clear hn hps
                by_cases hn0 : n = 0
                · subst hn0
                  have hM0 : M = 0 := by rw [hM]; exact Nat.mul_zero P
                  subst hM0
                  clear hMi hM
                  go_wp2
                  go_roundg (K2 - (k + 1))
                  case measure => rw [HG.out]; omega
                  case rel => exact ⟨k + 1, 0, rfl, by omega, HPS.out.symm, by omega, rfl, by go_num, all_succ HF.out.2 (by rw [HPS.out]; omega), rfl⟩
                · by_cases hq : (65536 : Int) / (n : Int) < (P : Int)
                  · clear hMi hM
                    go_wp2
                    go_ret
                    exact ⟨.inl rfl, 0, rfl⟩
                  · have hM6 : M ≤ 65536 := div_bound hq hM
                    obtain ⟨L, hL⟩ : ∃ L, L = M * K2 := ⟨_, rfl⟩
                    have hLi : (M : Int) * (K2 : Int) = (L : Int) := by rw [hL]; exact (Int.natCast_mul M K2).symm
                    have hLb : L ≤ 268435456 := by rw [hL]; exact Nat.mul_le_mul hM6 hK
                    have HL : Hid (L = M * K2) := hL
                    clear hM hL
                    by_cases hbig : L ≤ 1048576
                    · go_wp2
                      go_roundg (K2 - (k + 1))
                      case measure => rw [HG.out]; omega
                      case rel => exact ⟨k + 1, M, rfl, by omega, HPS.out.symm, hM6, rfl, by go_num, all_succ HF.out.2 (by rw [HPS.out, ← HL.out]; omega), rfl⟩
                    · go_wp2
                      go_ret
                      exact ⟨.inl rfl, 0, rfl⟩
              · have HFP : Hid (∀ k', k' < K2 → prodN nr (k' + 1) * K2 ≤ 1048576 ∧ prodN nr (k' + 1) ≤ 65536) := fun k' h => HF.out.2 k' (by omega)
                clear HF HG
                go_wp2
                clear hlt hk hP1
                go_loopg [15] K2 (fun g i wr => ∃ (k m : Nat), g = K2 - k ∧ k ≤ K2 ∧ i = .int .i64 k ∧ (∀ k', k' < k → ∀ c, c < nc k' → ∀ d, d < c → name k' d ≠ name k' c) ∧ w.drewN m = wr)
                case atStart => exact ⟨0, 0, rfl, Nat.zero_le _, rfl, fun _ h => absurd h (by omega), rfl⟩
                case round =>
                  obtain ⟨k, m, hg, hk, rfl, hf, hw⟩ := hrel
                  subst hw
                  have HG : Hid (gk = K2 - k) := hg
                  have HF : Hid (∀ k', k' < k → ∀ c, c < nc k' → ∀ d, d < c → name k' d ≠ name k' c) := hf
                  clear hg hf
                  by_cases hlt : k < K2
                  · obtain ⟨b, o, hx, _, hc1⟩ := hG.at1 k hlt
                    have hl1 := (HFC.out k hlt).1
                    have hIk : (k : Int) < (K2 : Int) := by omega
                    cases hx
                    go_wp2
                    go_loopg [16] (nc k) (fun g i wr => ∃ (c m : Nat), g = nc k - c ∧ c ≤ nc k ∧ i = .int .i64 c ∧ (∀ c', c' < c → ∀ d, d < c' → name k d ≠ name k c') ∧ w.drewN m = wr)
                    case atStart => exact ⟨0, m, rfl, Nat.zero_le _, rfl, fun _ h => absurd h (by omega), rfl⟩
                    case round =>
                      obtain ⟨c, m2, hg, hc, rfl, hf, hw⟩ := hrel
                      subst hw
                      have HG2 : Hid (gk = nc k - c) := hg
                      have HF2 : Hid (∀ c', c' < c → ∀ d, d < c' → name k d ≠ name k c') := hf
                      clear hg hf
                      by_cases hlc : c < nc k
                      · obtain ⟨b2, o2, hx2, _, hc2⟩ := hG.at2 k hlt c hlc
                        have hIc : (c : Int) < (nc k : Int) := by omega
                        go_wp2
                        go_loopg [17] c (fun g i wr => ∃ (d m : Nat), g = c - d ∧ d ≤ c ∧ i = .int .i64 d ∧ (∀ d', d' < d → name k d' ≠ name k c) ∧ w.drewN m = wr)
                        case atStart => exact ⟨0, m2, rfl, Nat.zero_le _, rfl, fun _ h => absurd h (by omega), rfl⟩
                        case round =>
                          obtain ⟨d, m3, hg, hd, rfl, hf, hw⟩ := hrel
                          subst hw
                          have HG3 : Hid (gk = c - d) := hg
                          have HF3 : Hid (∀ d', d' < d → name k d' ≠ name k c) := hf
                          clear hg hf
                          by_cases hld : d < c
                          · obtain ⟨b3, o3, hx3, _, hc3⟩ := hG.at2 k hlt d (by omega)
                            obtain ⟨hbb, hoo⟩ : b3 = b2 ∧ o3 = o2 := by
                              rw [hx2] at hx3
                              cases hx3
                              exact ⟨rfl, rfl⟩
                            subst hbb
                            subst hoo
                            have hId : (d : Int) < (nc k : Int) := by omega
                            clear hx3
                            go_wp2
                            go_quiet (fail)
                            go_wp2
                            · go_ret
                              exact ⟨.inl rfl, _, rfl⟩
                            · have hne : ((name k d).toList == (name k c).toList) = false := by assumption
                              go_roundg (c - (d + 1))
                              case measure => rw [HG3.out]; omega
                              case rel => exact ⟨d + 1, _, rfl, by omega, by go_num, all_succ HF3.out (fun e => by rw [e] at hne; simp at hne), rfl⟩
                          · have hthis : Hid (∀ d, d < c → name k d ≠ name k c) := fun d' h => HF3.out d' (by omega)
                            go_wp2
                            go_roundg (nc k - (c + 1))
                            case measure => rw [HG2.out]; omega
                            case rel => exact ⟨c + 1, _, rfl, by omega, by go_num, all_succ HF2.out hthis.out, rfl⟩
                      · have hthis : Hid (∀ c, c < nc k → ∀ d, d < c → name k d ≠ name k c) := fun c' h => HF2.out c' (by omega)
                        go_wp2
                        go_roundg (K2 - (k + 1))
                        case measure => rw [HG.out]; omega
                        case rel => exact ⟨k + 1, _, rfl, by omega, by go_num, all_succ HF.out hthis.out, rfl⟩
                  · have HFD : Hid (∀ k', k' < K2 → ∀ c, c < nc k' → ∀ d, d < c → name k' d ≠ name k' c) := fun k' h => HF.out k' (by omega)
                    clear HF HG
                    go_wp2
                    clear hlt hk
                    go_loopg [18] K2 (fun g i wr => ∃ (k m : Nat), g = K2 - k ∧ k ≤ K2 ∧ i = .int .i64 k ∧ (∀ k', k' < k → ∀ r, r < nr k' → nc k' ≤ rl k' r ∧ ∀ c, c < nc k' → NoNul (val k' r c)) ∧ w.drewN m = wr)
                    case atStart => exact ⟨0, m, rfl, Nat.zero_le _, rfl, fun _ h => absurd h (by omega), rfl⟩
                    case round =>
                      obtain ⟨k, m, hg, hk, rfl, hf, hw⟩ := hrel
                      subst hw
                      have HG : Hid (gk = K2 - k) := hg
                      have HF : Hid (∀ k', k' < k → ∀ r, r < nr k' → nc k' ≤ rl k' r ∧ ∀ c, c < nc k' → NoNul (val k' r c)) := hf
                      clear hg hf
                      by_cases hlt : k < K2
                      · obtain ⟨b, o, hx, _, hc1⟩ := hC.at1 k hlt
                        have hl1 := (HFR.out k hlt).1
                        have hGk := hC.at2 k hlt
                        obtain ⟨bc, oc, hxc, _, hcc⟩ := hG.at1 k hlt
                        have hlc1 := (HFC.out k hlt).1
                        cases hx
                        cases hxc
                        go_wp2
                        go_loopg [19] (nr k) (fun g i wr => ∃ (r m : Nat), g = nr k - r ∧ r ≤ nr k ∧ i = .int .i64 r ∧ (∀ r', r' < r → nc k ≤ rl k r' ∧ ∀ c, c < nc k → NoNul (val k r' c)) ∧ w.drewN m = wr)
                        case atStart => exact ⟨0, m, rfl, Nat.zero_le _, rfl, fun _ h => absurd h (by omega), rfl⟩
                        case round =>
                          obtain ⟨r, m2, hg, hr, rfl, hf, hw⟩ := hrel
                          subst hw
                          have HG2 : Hid (gk = nr k - r) := hg
                          have HF2 : Hid (∀ r', r' < r → nc k ≤ rl k r' ∧ ∀ c, c < nc k → NoNul (val k r' c)) := hf
                          clear hg hf
                          by_cases hlr : r < nr k
                          · obtain ⟨b2, o2, hx2, _, hc2⟩ := hGk.at1 r hlr
                            have hl2 := ((HFR.out k hlt).2 r hlr).1
                            have hrow := hGk.at2 r hlr
                            obtain ⟨X, hX⟩ : ∃ X, X = rrA k r := ⟨_, rfl⟩
                            rw [← hX] at hc2 hrow
                            clear hX
                            by_cases hwd : nc k ≤ rl k r
                            · have hwd1 : decide (rl k r < nc k) = false := decide_eq_false (by omega)
                              have hwd2 : decide ((rl k r : Int) < (nc k : Int)) = false := decide_eq_false (by omega)
                              go_wp2
                              clear hx2 hc2
                              go_loopg [21] (nc k) (fun g i wr => ∃ (c m : Nat), g = nc k - c ∧ c ≤ nc k ∧ i = .int .i64 c ∧ (∀ c', c' < c → NoNul (val k r c')) ∧ w.drewN m = wr)
                              case atStart => exact ⟨0, m2, rfl, Nat.zero_le _, rfl, fun _ h => absurd h (by omega), rfl⟩
                              case round =>
                                obtain ⟨c, m3, hg, hc, rfl, hf, hw⟩ := hrel
                                subst hw
                                have HG3 : Hid (gk = nc k - c) := hg
                                have HF3 : Hid (∀ c', c' < c → NoNul (val k r c')) := hf
                                clear hg hf
                                by_cases hlc : c < nc k
                                · obtain ⟨b3, o3, hx3, _, hc3⟩ := hrow c (by omega)
                                  have hl3 := hGk.len2 r hlr c (by omega)
                                  cases hx3
                                  go_wp2_with (go_at_call 17; refine (nul_any (val k r c) _ hl3).mono ?_; rintro e w9 ⟨h9, rfl⟩; rcases h9 with rfl | ⟨rfl, hnn⟩)
                                  · go_ret
                                    exact ⟨.inl rfl, _, rfl⟩
                                  · go_roundg (nc k - (c + 1))
                                    case measure => rw [HG3.out]; omega
                                    case rel => exact ⟨c + 1, _, rfl, by omega, by go_num, all_succ HF3.out hnn, rfl⟩
                                · have hthis : Hid (nc k ≤ rl k r ∧ ∀ c, c < nc k → NoNul (val k r c)) := ⟨hwd, fun c' h => HF3.out c' (by omega)⟩
                                  go_wp2
                                  go_roundg (nr k - (r + 1))
                                  case measure => rw [HG2.out]; omega
                                  case rel => exact ⟨r + 1, _, rfl, by omega, by go_num, all_succ HF2.out hthis.out, rfl⟩
                            · go_wp2
                              go_ret
                              exact ⟨.inl rfl, _, rfl⟩
                          · have hthis : Hid (∀ r, r < nr k → nc k ≤ rl k r ∧ ∀ c, c < nc k → NoNul (val k r c)) := fun r' h => HF2.out r' (by omega)
                            go_wp2
                            go_roundg (K2 - (k + 1))
                            case measure => rw [HG.out]; omega
                            case rel => exact ⟨k + 1, _, rfl, by omega, by go_num, all_succ HF.out hthis.out, rfl⟩
                      · have hdom : Hid (InDom K2 nc nr name rl val) := ⟨by omega, hK, HFC.out, HFR.out, HFP.out, HFD.out, fun k' h => HF.out k' (by omega)⟩
                        go_wp2
                        go_ret
                        exact ⟨.inr ⟨rfl, hdom.out⟩, _, rfl⟩
          · have hK0b := beq_zero_no hK0
            have hne := bne_yes (fun h => hKK h.symm : K ≠ K2)
            go_wp2
            go_ret
            exact ⟨.inl rfl, 0, rfl⟩
end Go.Proofs.Qxb6602443a
