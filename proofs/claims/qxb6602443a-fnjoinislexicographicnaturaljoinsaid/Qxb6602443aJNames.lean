/-
  THE WALK over 'joinNamesAgree': at the scan's own names and origins it says yes.
-/
import Derived.Test.Qxb6602443aJDefs
import Derived.Test.Qxb6602443aJScan
namespace Go.Proofs.Qxb6602443a
open Go.RowKit Go.Deep
set_option linter.unusedVariables false

/-- A slice of n one-cell elements, by index. -/
def RowV (w : World) (ad : Option Addr) (n : Nat) (f : Nat → Value) : Prop := ∀ i, i < n → ∃ b o, ad = some ⟨b, o, none⟩ ∧ b < w.heap.size ∧ w.cell? ⟨b, o + i, none⟩ = some (f i)

set_option maxRecDepth 100000 in
set_option maxHeartbeats 4000000 in
theorem names_any (B : Nat) (w : World) (ca na sa oa : Option Addr) (K N cc nn sc oc : Nat) (cA : Nat → Option Addr) (nc cC nr : Nat → Nat) (name : Nat → Nat → ByteArray) (rl : Nat → Nat → Nat) (val : Nat → Nat → Nat → ByteArray) (F : List Ent)
    (hG : Grid B w ca K cA nc cC name) (hD : InDom K nc nr name rl val) (hF : F = stS nc name K) (hN : F.length = N) (hNb : N ≤ 268435456)
    (hn : RowV w na N (fun i => .string (F.getD i noEnt).1)) (hs : RowV w sa N (fun i => .int .i64 (((F.getD i noEnt).2.1 : Nat) : Int))) (ho : RowV w oa N (fun i => .int .i64 (((F.getD i noEnt).2.2 : Nat) : Int))) :
    Calls Try.prog 14 #[.slice ca K cc, .slice na N nn, .slice sa N sc, .slice oa N oc] w fun e w' => e = .returned (.bool true) ∧ w = w' := by
  have hK := hD.kmax
  have HF : Hid (F = stS nc name K ∧ F.length = N) := ⟨hF, hN⟩
  clear hF hN
  go_enter Try.func14, Try.ntmps14
  go_wp2
  go_loopg [9, 10] K (fun g t i wr => ∃ (k n : Nat), g = K - k ∧ k ≤ K ∧ i = .int .i64 k ∧ t = .int .i64 n ∧ n = (stS nc name k).length ∧ w = wr)
  case atStart => exact ⟨0, 0, rfl, Nat.zero_le _, rfl, rfl, rfl, rfl⟩
  case round =>
    obtain ⟨k, n, hg, hk, rfl, rfl, hnk, hw⟩ := hrel
    subst hw
    have HG : Hid (gk = K - k ∧ n = (stS nc name k).length) := ⟨hg, hnk⟩
    clear hg hnk
    by_cases hlt : k < K
    · obtain ⟨b, o, hx, _, hc1⟩ := hG.at1 k hlt
      have hl1 := (hD.ncb k hlt).1
      cases hx
      go_wp2
      go_loopg [9, 11] (nc k) (fun g t i wr => ∃ (c n : Nat), g = nc k - c ∧ c ≤ nc k ∧ i = .int .i64 c ∧ t = .int .i64 n ∧ n = (stC name k (stS nc name k) c).length ∧ w = wr)
      case atStart => exact ⟨0, n, rfl, Nat.zero_le _, rfl, rfl, HG.out.2, rfl⟩
      case round =>
        obtain ⟨c, n2, hg, hc, rfl, rfl, hnc, hw⟩ := hrel
        subst hw
        have HG2 : Hid (gk = nc k - c ∧ n2 = (stC name k (stS nc name k) c).length) := ⟨hg, hnc⟩
        clear hg hnc
        by_cases hlc : c < nc k
        · obtain ⟨b2, o2, hx2, _, hc2⟩ := hG.at2 k hlt c hlc
          have hpre := stAt_prefix nc name hlt (show c ≤ nc k by omega)
          have hpre1 := stAt_prefix nc name hlt (show c + 1 ≤ nc k by omega)
          have hn2 : n2 ≤ N := by rw [HG2.out.2, ← HF.out.2, HF.out.1]; exact hpre.length_le
          obtain ⟨L, hL⟩ : ∃ L, L = stC name k (stS nc name k) c := ⟨_, rfl⟩
          have hL1 : stC name k (stS nc name k) (c + 1) = stStep name k L c := by rw [hL]; rfl
          rw [← hL] at hpre
          rw [hL1] at hpre1
          rw [← HF.out.1] at hpre hpre1
          obtain ⟨s, hss⟩ : ∃ s, s = name k c := ⟨_, rfl⟩
          rw [← hss] at hc2
          have HL : Hid (L = stC name k (stS nc name k) c ∧ stC name k (stS nc name k) (c + 1) = stStep name k L c ∧ L <+: F ∧ stStep name k L c <+: F ∧ s = name k c ∧ n2 = L.length) := ⟨hL, hL1, hpre, hpre1, hss, by rw [hL]; exact HG2.out.2⟩
          clear hL hL1 hpre hpre1 hss
          go_wp2
          go_loopg [13, 14] n2 (fun g t i wr => ∃ (j : Nat), g = n2 - j ∧ j ≤ n2 ∧ i = .int .i64 j ∧ t = .bool false ∧ (∀ j', j' < j → ((L.getD j' noEnt).1.toList == s.toList) = false) ∧ w = wr)
          case atStart => exact ⟨0, rfl, Nat.zero_le _, rfl, rfl, fun _ h => absurd h (by omega), rfl⟩
          case round =>
            obtain ⟨j, hg, hj, rfl, rfl, hf, hw⟩ := hrel
            subst hw
            have HG3 : Hid (gk = n2 - j ∧ ∀ j', j' < j → ((L.getD j' noEnt).1.toList == s.toList) = false) := ⟨hg, hf⟩
            clear hg hf
            by_cases hlj : j < n2
            · obtain ⟨b3, o3, hx3, _, hc3⟩ := hn j (by omega)
              have e3 : F.getD j noEnt = L.getD j noEnt := prefix_getD HL.out.2.2.1 noEnt (by rw [← HL.out.2.2.2.2.2]; exact hlj)
              dsimp only at hc3
              rw [e3] at hc3
              obtain ⟨u, hu⟩ : ∃ u, u = (L.getD j noEnt).1 := ⟨_, rfl⟩
              rw [← hu] at hc3
              have HU : Hid (u = (L.getD j noEnt).1) := hu
              clear hu e3
              cases hx3
              by_cases hhit : (u.toList == s.toList) = true
              · have hseen : hasName L (name k c) = true := (hasName_iff _ _).2 ⟨j, by rw [← HL.out.2.2.2.2.2]; exact hlj, by rw [← HU.out, ← HL.out.2.2.2.2.1]; exact hhit⟩
                have hst : Hid (stC name k (stS nc name k) (c + 1) = L) := by rw [Hid, HL.out.2.1]; exact stStep_seen hseen
                clear hseen
                go_wp2
                go_roundg (nc k - (c + 1))
                case measure => rw [HG2.out.1]; omega
                case rel => exact ⟨c + 1, n2, rfl, by omega, by go_num, rfl, by rw [hst.out]; exact HL.out.2.2.2.2.2, rfl⟩
              · have hmiss : (u.toList == s.toList) = false := by simpa using hhit
                clear hhit
                go_wp2
                go_roundg (n2 - (j + 1))
                case measure => rw [HG3.out.1]; omega
                case rel => exact ⟨j + 1, rfl, by omega, by go_num, rfl, all_succ HG3.out.2 (by rw [← HU.out]; exact hmiss), rfl⟩
            · have hnot : hasName L (name k c) = false := hasName_no (fun i hi => by rw [← HL.out.2.2.2.2.1]; exact HG3.out.2 i (by have := HL.out.2.2.2.2.2; omega))
              have hst : stStep name k L c = L ++ [(name k c, k, c)] := stStep_new hnot
              have hp2 := HL.out.2.2.2.1
              rw [hst] at hp2
              have hlt2 : n2 < N := by
                have := hp2.length_le
                rw [HF.out.2] at this
                have := HL.out.2.2.2.2.2
                simp at *
                omega
              have eF : F.getD n2 noEnt = (name k c, k, c) := by
                rw [prefix_getD hp2 noEnt (by rw [HL.out.2.2.2.2.2]; simp), HL.out.2.2.2.2.2]
                simp
              obtain ⟨b3, o3, hx3, _, hc3⟩ := hn n2 hlt2
              obtain ⟨b4, o4, hx4, _, hc4⟩ := hs n2 hlt2
              obtain ⟨b5, o5, hx5, _, hc5⟩ := ho n2 hlt2
              dsimp only at hc3 hc4 hc5
              rw [eF] at hc3 hc4 hc5
              rw [← HL.out.2.2.2.2.1] at hc3
              have HST : Hid (stC name k (stS nc name k) (c + 1) = L ++ [(name k c, k, c)]) := by rw [Hid, HL.out.2.1]; exact hst
              clear hnot hst hp2 eF
              cases hx3
              cases hx4
              cases hx5
              have hI : (n2 : Int) < (N : Int) := by omega
              go_wp2
              go_roundg (nc k - (c + 1))
              case measure => rw [HG2.out.1]; omega
              case rel => exact ⟨c + 1, n2 + 1, rfl, by omega, by go_num, by go_num, by rw [HST.out, List.length_append, ← HL.out.2.2.2.2.2]; rfl, rfl⟩
        · have hcn : c = nc k := by omega
          subst hcn
          have hthis : Hid (n2 = (stS nc name (k + 1)).length) := HG2.out.2
          go_wp2
          go_roundg (K - (k + 1))
          case measure => rw [HG.out.1]; omega
          case rel => exact ⟨k + 1, n2, rfl, by omega, by go_num, rfl, hthis.out, rfl⟩
    · have hkK : k = K := by omega
      subst hkK
      have hnN : n = N := by rw [HG.out.2, ← HF.out.1]; exact HF.out.2
      subst hnN
      go_wp2
      go_ret
      exact ⟨by simp, rfl⟩
end Go.Proofs.Qxb6602443a
