/-
  THE WALK over 'joinConsistent'.
-/
import Derived.Test.Qxb6602443aJDefs
namespace Go.Proofs.Qxb6602443a
open Go.RowKit Go.Deep
set_option linter.unusedVariables false

theorem drew2 (w : World) (m n : Nat) : w.drewN (m + n) = (w.drewN m).drewN n := by simp

set_option maxRecDepth 100000 in
set_option maxHeartbeats 4000000 in
theorem cons_any (B : Nat) (w : World) (ca ra : Option Addr) (K cc rc tb tc : Nat) (cA rA : Nat → Option Addr) (nc cC nr rC : Nat → Nat) (name : Nat → Nat → ByteArray) (rrA : Nat → Nat → Option Addr) (rl rrC : Nat → Nat → Nat) (val : Nat → Nat → Nat → ByteArray) (tt : Nat → Nat)
    (hG : Grid B w ca K cA nc cC name) (hC : Cube B w ra K rA nr rC rrA rl rrC val) (hD : InDom K nc nr name rl val)
    (htt : ∀ k, k < K → tt k < nr k) (ht : ∀ k, k < K → w.cell? ⟨tb, k, none⟩ = some (.int .i64 (tt k : Nat))) :
    Calls Try.prog 15 #[.slice ca K cc, .slice ra K rc, .slice (some ⟨tb, 0, none⟩) K tc] w fun e w' => ((e = .returned (.bool true) ∧ Cons K nc name val tt) ∨ (e = .returned (.bool false) ∧ ¬ Cons K nc name val tt)) ∧ ∃ m, w.drewN m = w' := by
  have hK := hD.kmax
  have HT : Hid ((∀ k, k < K → tt k < nr k) ∧ ∀ k, k < K → w.cell? ⟨tb, k, none⟩ = some (.int .i64 (tt k : Nat))) := ⟨htt, ht⟩
  clear htt ht
  go_enter Try.func15, Try.ntmps15
  go_wp2
  go_loopg [7] (K - 1) (fun g i wr => ∃ (k m : Nat), g = K - k ∧ (k ≤ K ∨ k = 1) ∧ 1 ≤ k ∧ i = .int .i64 k ∧ (∀ k', k' < k → ∀ c, c < nc k' → ∀ k2, k2 < k' → ∀ c2, c2 < nc k2 → Meet name val tt k' c k2 c2) ∧ w.drewN m = wr)
  case atStart => exact ⟨1, 0, rfl, .inr rfl, by omega, rfl, fun k' h c hc k2 h2 => absurd h2 (by omega), rfl⟩
  case round =>
    obtain ⟨k, m, hg, hk, hk1, rfl, hf, hw⟩ := hrel
    subst hw
    have HG : Hid (gk = K - k) := hg
    have HF : Hid (∀ k', k' < k → ∀ c, c < nc k' → ∀ k2, k2 < k' → ∀ c2, c2 < nc k2 → Meet name val tt k' c k2 c2) := hf
    clear hg hf
    by_cases hlt : k < K
    · obtain ⟨b, o, hx, _, hc1⟩ := hG.at1 k hlt
      have hl1 := (hD.ncb k hlt).1
      have hIk : (k : Int) < (K : Int) := by omega
      cases hx
      go_wp2
      go_loopg [8] (nc k) (fun g i wr => ∃ (c m : Nat), g = nc k - c ∧ c ≤ nc k ∧ i = .int .i64 c ∧ (∀ c', c' < c → ∀ k2, k2 < k → ∀ c2, c2 < nc k2 → Meet name val tt k c' k2 c2) ∧ w.drewN m = wr)
      case atStart => exact ⟨0, m, rfl, Nat.zero_le _, rfl, fun _ h => absurd h (by omega), rfl⟩
      case round =>
        obtain ⟨c, m2, hg, hc, rfl, hf, hw⟩ := hrel
        subst hw
        have HG2 : Hid (gk = nc k - c) := hg
        have HF2 : Hid (∀ c', c' < c → ∀ k2, k2 < k → ∀ c2, c2 < nc k2 → Meet name val tt k c' k2 c2) := hf
        clear hg hf
        by_cases hlc : c < nc k
        · go_wp2
          go_loopg [9] k (fun g i wr => ∃ (k2 m : Nat), g = k - k2 ∧ k2 ≤ k ∧ i = .int .i64 k2 ∧ (∀ k2', k2' < k2 → ∀ c2, c2 < nc k2' → Meet name val tt k c k2' c2) ∧ w.drewN m = wr)
          case atStart => exact ⟨0, m2, rfl, Nat.zero_le _, rfl, fun _ h => absurd h (by omega), rfl⟩
          case round =>
            obtain ⟨k2, m3, hg, hk2, rfl, hf, hw⟩ := hrel
            subst hw
            have HG3 : Hid (gk = k - k2) := hg
            have HF3 : Hid (∀ k2', k2' < k2 → ∀ c2, c2 < nc k2' → Meet name val tt k c k2' c2) := hf
            clear hg hf
            by_cases hlk : k2 < k
            · obtain ⟨b2, o2, hx2, _, hc2⟩ := hG.at1 k2 (by omega)
              have hl2 := (hD.ncb k2 (by omega)).1
              have hIk2 : (k2 : Int) < (K : Int) := by omega
              cases hx2
              go_wp2
              go_loopg [10] (nc k2) (fun g i wr => ∃ (c2 m : Nat), g = nc k2 - c2 ∧ c2 ≤ nc k2 ∧ i = .int .i64 c2 ∧ (∀ c2', c2' < c2 → Meet name val tt k c k2 c2') ∧ w.drewN m = wr)
              case atStart => exact ⟨0, m3, rfl, Nat.zero_le _, rfl, fun _ h => absurd h (by omega), rfl⟩
              case round =>
                obtain ⟨c2, m4, hg, hcc2, rfl, hf, hw⟩ := hrel
                subst hw
                have HG4 : Hid (gk = nc k2 - c2) := hg
                have HF4 : Hid (∀ c2', c2' < c2 → Meet name val tt k c k2 c2') := hf
                clear hg hf
                by_cases hlc2 : c2 < nc k2
                · obtain ⟨bn, on, hxn, _, hcn⟩ := hG.at2 k hlt c hlc
                  obtain ⟨bm, om, hxm, _, hcm⟩ := hG.at2 k2 (by omega) c2 hlc2
                  have hIc : (c : Int) < (nc k : Int) := by omega
                  have hIc2 : (c2 : Int) < (nc k2 : Int) := by omega
                  by_cases heq : name k c = name k2 c2
                  · have hb := beq_str heq
                    have HQ : Hid (name k c = name k2 c2) := heq
                    clear heq
                    have hlt2 : k2 < K := by omega
                    have h1t := HT.out.2 k hlt
                    have h2t := HT.out.2 k2 hlt2
                    have htk := HT.out.1 k hlt
                    have htk2 := HT.out.1 k2 hlt2
                    have hw1 := (hD.wide k hlt (tt k) htk).1
                    have hw2 := (hD.wide k2 hlt2 (tt k2) htk2).1
                    obtain ⟨br, or, hxr, _, hr1⟩ := hC.at1 k hlt
                    obtain ⟨br2, or2, hxr2, _, hr2⟩ := hC.at1 k2 hlt2
                    cases hxr
                    cases hxr2
                    obtain ⟨bs, os, hxs, _, hs1⟩ := (hC.at2 k hlt).at1 (tt k) htk
                    obtain ⟨bs2, os2, hxs2, _, hs2⟩ := (hC.at2 k2 hlt2).at1 (tt k2) htk2
                    obtain ⟨bv, ov, hxv, _, hv1⟩ := (hC.at2 k hlt).at2 (tt k) htk c (by omega)
                    obtain ⟨bv2, ov2, hxv2, _, hv2⟩ := (hC.at2 k2 hlt2).at2 (tt k2) htk2 c2 (by omega)
                    obtain ⟨x, hxx⟩ : ∃ x, x = tt k := ⟨_, rfl⟩
                    obtain ⟨x2, hxx2⟩ : ∃ x, x = tt k2 := ⟨_, rfl⟩
                    have HX : Hid (x = tt k ∧ x2 = tt k2) := ⟨hxx, hxx2⟩
                    rw [← hxx] at h1t htk hw1 hs1 hxv hv1
                    rw [← hxx2] at h2t htk2 hw2 hs2 hxv2 hv2
                    clear hxx hxx2
                    have hIx : (x : Int) < (nr k : Int) := by omega
                    have hIx2 : (x2 : Int) < (nr k2 : Int) := by omega
                    have hIw : (c : Int) < (rl k x : Int) := by omega
                    have hIw2 : (c2 : Int) < (rl k2 x2 : Int) := by omega
                    go_wp2
                    go_quiet (fail)
                    go_wp2
                    · have hne : (!(val k x c).toList == (val k2 x2 c2).toList) = true := by assumption
                      have hno : Hid (¬ Cons K nc name val tt) := fun hcs => by
                        have h := hcs k hlt c hlc k2 hlk c2 hlc2 HQ.out
                        rw [← HX.out.1, ← HX.out.2] at h
                        rw [h] at hne
                        simp at hne
                      clear hne
                      go_ret
                      exact ⟨.inr ⟨rfl, hno.out⟩, _, drew2 _ _ _⟩
                    · have hne : (!(val k x c).toList == (val k2 x2 c2).toList) = false := by assumption
                      have hyes : Hid (Meet name val tt k c k2 c2) := fun _ => by
                        rw [← HX.out.1, ← HX.out.2]
                        by_cases h : val k x c = val k2 x2 c2
                        · exact h
                        · rw [beq_str_no h] at hne
                          cases hne
                      go_roundg (nc k2 - (c2 + 1))
                      case measure => rw [HG4.out]; omega
                      case rel => exact ⟨c2 + 1, _, rfl, by omega, by go_num, all_succ HF4.out hyes.out, rfl⟩
                  · have HQ : Hid (¬ name k c = name k2 c2) := heq
                    have hb := beq_str_no heq
                    clear heq
                    go_wp2
                    go_quiet (fail)
                    go_wp2
                    go_roundg (nc k2 - (c2 + 1))
                    case measure => rw [HG4.out]; omega
                    case rel => exact ⟨c2 + 1, _, rfl, by omega, by go_num, all_succ HF4.out (fun h => absurd h HQ.out), rfl⟩
                · have hthis : Hid (∀ c2, c2 < nc k2 → Meet name val tt k c k2 c2) := fun c' h => HF4.out c' (by omega)
                  go_wp2
                  go_roundg (k - (k2 + 1))
                  case measure => rw [HG3.out]; omega
                  case rel => exact ⟨k2 + 1, _, rfl, by omega, by go_num, all_succ HF3.out hthis.out, rfl⟩
            · have hthis : Hid (∀ k2, k2 < k → ∀ c2, c2 < nc k2 → Meet name val tt k c k2 c2) := fun k' h => HF3.out k' (by omega)
              go_wp2
              go_roundg (nc k - (c + 1))
              case measure => rw [HG2.out]; omega
              case rel => exact ⟨c + 1, _, rfl, by omega, by go_num, all_succ HF2.out hthis.out, rfl⟩
        · have hthis : Hid (∀ c, c < nc k → ∀ k2, k2 < k → ∀ c2, c2 < nc k2 → Meet name val tt k c k2 c2) := fun c' h => HF2.out c' (by omega)
          go_wp2
          go_roundg (K - (k + 1))
          case measure => rw [HG.out]; omega
          case rel => exact ⟨k + 1, _, rfl, by omega, by omega, by go_num, all_succ HF.out hthis.out, rfl⟩
    · have hthis : Hid (Cons K nc name val tt) := fun k' h => HF.out k' (by omega)
      go_wp2
      go_ret
      exact ⟨.inl ⟨rfl, hthis.out⟩, _, rfl⟩
end Go.Proofs.Qxb6602443a
