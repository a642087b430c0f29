/-
  THE WALKS over the parser's 'space' and its shim, the clone and the blank test.
-/
import Derived.Test.Qxb6602270aRows
import Derived.Test.Qxb6602270aPlain
import Derived.WalkKit
import Derived.ProofKit
import Derived.Deep.LoopGhost
import Derived.Deep.OwnRows
import Derived.Deep.QuietTactic
import Derived.BigQuiet
import Derived.WalkSmall
import Derived.WalkSpells
import Derived.Outline
namespace Go.Proofs.Qxb6602270a
open Go.RowKit
set_option linter.unusedVariables false

set_option maxHeartbeats 400000 in
/-- 'space': the parser's place moves on to the first byte that is no blank. -/
theorem space_any (B b off n c p : Nat) (zs : List Int) (w : World) (hn : zs.length = n) (hn' : n ≤ 1048576) (hp : p ≤ 9223372036854775807) (hbB : b < B) (hBw : B < w.heap.size)
    (h0 : w.cell? ⟨B, 0, none⟩ = some (.slice (some ⟨b, off, none⟩) n c)) (h1 : w.cell? ⟨B, 1, none⟩ = some (.int .i64 p)) (hf : w.frozen? ⟨B, 1, none⟩ = false)
    (hc : ∀ k, k < n → w.cell? ⟨b, off + k, none⟩ = some (.int .u8 (zs.getD k 0))) :
    Calls Try.prog 14 #[.pointer (some ⟨B, 0, none⟩)] w fun e w' => e = .returned (.tuple #[]) ∧ Below B w w' ∧ w'.cell? ⟨B, 1, none⟩ = some (.int .i64 (skip zs p)) := by
  go_enter Try.func14, Try.ntmps14
  go_wp2
  go_loopg [] (n + 1 - p) (fun k wr => ∃ q : Nat, q ≤ 9223372036854775807 ∧ k = n + 1 - q ∧ skip zs q = skip zs p ∧ Below B w wr ∧ wr.cell? ⟨B, 0, none⟩ = some (.slice (some ⟨b, off, none⟩) n c) ∧
     wr.cell? ⟨B, 1, none⟩ = some (.int .i64 q) ∧ wr.frozen? ⟨B, 1, none⟩ = false)
  case atStart => exact ⟨p, hp, rfl, rfl, Below.refl _ _, h0, h1, hf⟩
  case round =>
    
    obtain ⟨q, hq, hk, hs, hbel, g0, g1, gf⟩ := hrel
    have HS : Hid (gk = n + 1 - q ∧ skip zs q = skip zs p) := ⟨hk, hs⟩
    clear hs hk
    by_cases hlt : q < n
    · obtain ⟨x, hx⟩ : ∃ x, x = zs.getD q 0 := ⟨_, rfl⟩
      have gc : wr.cell? ⟨b, off + q, none⟩ = some (.int .u8 x) := by rw [hx]; exact (hbel.cell (p := ⟨b, off + q, none⟩) hbB).trans (hc q hlt)
      have HX : Hid (x = zs.getD q 0) := hx
      clear hx
      have hI : (q : Int) < (n : Int) := by omega
      have hI0 : (0 : Int) ≤ (q : Int) := by omega
      by_cases hb : x = 32 ∨ x = 9 ∨ x = 10 ∨ x = 13
      · have hs2 : skip zs (q + 1) = skip zs p := (skip_hit zs q (by omega) (by rw [← HX.out]; exact blank_yes hb)).trans HS.out.2
        have HS2 : Hid (skip zs (q + 1) = skip zs p) := hs2
        clear hs2
        go_wp2
        go_quiet (fail)
        go_wp2
        go_quiet (fail)
        go_wp2
        all_goals
          go_roundg (n + 1 - (q + 1))
          case measure => rw [HS.out.1]; omega
          case rel => exact ⟨q + 1, by omega, rfl, HS2.out, (below_drewN hbel _).setCell (Nat.le_refl _) _, by go_simp, by go_simp, by go_simp⟩
      · have e1 : x ≠ 32 := by omega
        have e2 : x ≠ 9 := by omega
        have e3 : x ≠ 10 := by omega
        have e4 : x ≠ 13 := by omega
        have hs2 : skip zs p = q := HS.out.2.symm.trans (skip_miss zs q (by omega) (by rw [← HX.out]; exact blank_no e1 e2 e3 e4))
        have HS2 : Hid (skip zs p = q) := hs2
        clear hs2 hb
        go_wp2
        go_quiet (fail)
        go_wp2
        go_quiet (fail)
        go_wp2
        refine bodyPost_ret (results_none rfl _ _ _) rfl ?_
        refine ⟨rfl, below_drewN hbel _, ?_⟩
        rw [HS2.out]
        simpa using g1
    · have hs2 : skip zs p = q := HS.out.2.symm.trans (skip_past zs q (by omega))
      have HS2 : Hid (skip zs p = q) := hs2
      clear hs2
      go_wp2
      go_quiet (fail)
      go_wp2
      go_end0
      refine ⟨rfl, below_drewN hbel _, ?_⟩
      rw [HS2.out]
      simpa using g1

/-- A slice of bytes of n cells that reads zs. -/
def Row (w : World) (ad : Option Addr) (n : Nat) (zs : List Int) : Prop :=
  zs.length = n ∧ (n = 0 ∨ ∃ b off, ad = some ⟨b, off, none⟩ ∧ b < w.heap.size ∧ ∀ k, k < n → w.cell? ⟨b, off + k, none⟩ = some (.int .u8 (zs.getD k 0)))
theorem Row.later {w w' : World} {ad : Option Addr} {n : Nat} {zs : List Int} (h : Row w ad n zs) (hb : Below w.heap.size w w') : Row w' ad n zs := by
  obtain ⟨h1, h2⟩ := h
  refine ⟨h1, ?_⟩
  rcases h2 with h2 | ⟨b, off, h3, h4, h5⟩
  · exact .inl h2
  · exact .inr ⟨b, off, h3, Nat.lt_of_lt_of_le h4 hb.size, fun k hk => (hb.cell (p := ⟨b, off + k, none⟩) h4).trans (h5 k hk)⟩

/-- 'space' over an empty text: nothing moves. -/
theorem space_empty (B c p : Nat) (ad : Option Addr) (w : World) (hp : p ≤ 9223372036854775807)
    (h0 : w.cell? ⟨B, 0, none⟩ = some (.slice ad 0 c)) (h1 : w.cell? ⟨B, 1, none⟩ = some (.int .i64 p)) :
    Calls Try.prog 14 #[.pointer (some ⟨B, 0, none⟩)] w fun e w' => e = .returned (.tuple #[]) ∧ Below B w w' ∧ w'.cell? ⟨B, 1, none⟩ = some (.int .i64 p) := by
  have hI : ¬ (p : Int) < 0 := by omega
  go_enter Try.func14, Try.ntmps14
  go_wp2
  refine wp_loop_rounds 1 ?_
  rw [rounds_succ]
  go_wp2
  go_quiet (fail)
  go_wp2
  go_end0
  exact ⟨rfl, below_drewN (Below.refl _ _) _, by simpa using h1⟩

/-- 'ZZSpace'. -/
theorem zzspace_any (ad : Option Addr) (n c p : Nat) (zs : List Int) (w : World) (hn' : n ≤ 1048576) (hp : p ≤ 9223372036854775807) (hr : Row w ad n zs) :
    Calls Try.prog 8 #[.slice ad n c, .int .i64 p] w fun e w' => e = .returned (.int .i64 (skip zs p)) ∧ Below w.heap.size w w' := by
  obtain ⟨hl, hr⟩ := hr
  rcases hr with rfl | ⟨b, off, rfl, hb, hc⟩
  · have hs : skip zs p = p := skip_past _ _ (by omega)
    rw [hs]
    clear hs
    go_enter Try.func8, Try.ntmps8
    go_wp2_with (go_at_call 14; refine (space_empty w.heap.size c p ad _ hp (by simp) (by simp)).mono ?_; rintro e w1 ⟨rfl, hb1, hc1⟩)
    go_ret
    exact ⟨rfl, ((Below.refl _ _).alloc (Nat.le_refl _) _).trans hb1⟩
  · go_enter Try.func8, Try.ntmps8
    go_wp2_with (go_at_call 14; refine (space_any w.heap.size b off n c p zs _ hl hn' hp hb (by simp) (by simp) (by simp) (by simp) (fun k hk => (((Below.refl w.heap.size w).alloc (Nat.le_refl _) _).cell (p := ⟨b, off + k, none⟩) hb).trans (hc k hk))).mono ?_; rintro e w1 ⟨rfl, hb1, hc1⟩)
    go_ret
    exact ⟨rfl, ((Below.refl _ _).alloc (Nat.le_refl _) _).trans hb1⟩
end Go.Proofs.Qxb6602270a
