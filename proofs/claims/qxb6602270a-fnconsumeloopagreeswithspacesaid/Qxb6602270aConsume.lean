/-
  THE WALKS over the parser's 'consume', its shim, and the law's choice of a blank byte.
-/
import Derived.Test.Qxb6602270aClone
namespace Go.Proofs.Qxb6602270a
open Go.RowKit Go.Deep
set_option linter.unusedVariables false

set_option maxHeartbeats 400000 in
theorem consume_hit (B b off n c q : Nat) (x : Int) (w : World) (hn' : n ≤ 1048576) (hq : q < n)
    (h0 : w.cell? ⟨B, 0, none⟩ = some (.slice (some ⟨b, off, none⟩) n c)) (h1 : w.cell? ⟨B, 1, none⟩ = some (.int .i64 q)) (hf : w.frozen? ⟨B, 1, none⟩ = false)
    (hc : w.cell? ⟨b, off + q, none⟩ = some (.int .u8 x)) :
    Calls Try.prog 15 #[.pointer (some ⟨B, 0, none⟩), .int .u8 x] w fun e w' => e = .returned (.bool true) ∧ Below B w w' ∧ w'.cell? ⟨B, 1, none⟩ = some (.int .i64 ((q : Int) + 1)) := by
  have hI : (q : Int) < (n : Int) := by omega
  have hI0 : (0 : Int) ≤ (q : Int) := by omega
  go_enter Try.func15, Try.ntmps15
  go_wp2
  go_quiet (fail)
  go_wp2
  go_ret
  refine ⟨rfl, (below_drewN (Below.refl B w) _).setCell (p := ⟨B, 1, none⟩) (Nat.le_refl B) _, ?_⟩
  go_simp

set_option maxHeartbeats 400000 in
theorem consume_miss (B b off n c q : Nat) (x y : Int) (w : World) (hn' : n ≤ 1048576) (hq : q < n) (hxy : x ≠ y)
    (h0 : w.cell? ⟨B, 0, none⟩ = some (.slice (some ⟨b, off, none⟩) n c)) (h1 : w.cell? ⟨B, 1, none⟩ = some (.int .i64 q))
    (hc : w.cell? ⟨b, off + q, none⟩ = some (.int .u8 x)) :
    Calls Try.prog 15 #[.pointer (some ⟨B, 0, none⟩), .int .u8 y] w fun e w' => e = .returned (.bool false) ∧ Below B w w' ∧ w'.cell? ⟨B, 1, none⟩ = some (.int .i64 q) := by
  have hI : (q : Int) < (n : Int) := by omega
  have hI0 : (0 : Int) ≤ (q : Int) := by omega
  have hb : (x == y) = false := by simpa using hxy
  clear hxy
  go_enter Try.func15, Try.ntmps15
  go_wp2
  go_quiet (fail)
  go_wp2
  go_ret
  exact ⟨rfl, below_drewN (Below.refl _ _) _, by simpa using h1⟩

set_option maxHeartbeats 400000 in
theorem consume_past (B n c q : Nat) (ad : Option Addr) (y : Int) (w : World) (hq : ¬ q < n)
    (h0 : w.cell? ⟨B, 0, none⟩ = some (.slice ad n c)) (h1 : w.cell? ⟨B, 1, none⟩ = some (.int .i64 q)) :
    Calls Try.prog 15 #[.pointer (some ⟨B, 0, none⟩), .int .u8 y] w fun e w' => e = .returned (.bool false) ∧ Below B w w' ∧ w'.cell? ⟨B, 1, none⟩ = some (.int .i64 q) := by
  have hd : decide ((q : Int) < (n : Int)) = false := decide_eq_false (by omega)
  have hd' : decide (q < n) = false := decide_eq_false (by omega)
  go_enter Try.func15, Try.ntmps15
  go_wp2
  go_quiet (fail)
  go_wp2
  go_ret
  exact ⟨rfl, below_drewN (Below.refl _ _) _, by simpa using h1⟩

theorem zzconsume_hit (ad : Option Addr) (n c q : Nat) (y : Int) (zs : List Int) (w : World) (hn' : n ≤ 1048576) (hr : Row w ad n zs) (hq : q < n) (hy : zs.getD q 0 = y) :
    Calls Try.prog 12 #[.slice ad n c, .int .i64 q, .int .u8 y] w fun e w' => e = .returned (.tuple #[.int .i64 ((q : Int) + 1), .bool true]) ∧ Below w.heap.size w w' := by
  obtain ⟨hl, hr⟩ := hr
  rcases hr with rfl | ⟨b, off, rfl, hb, hc⟩
  · omega
  · have hcq := hc q hq
    rw [hy] at hcq
    clear hy hc hl
    go_enter Try.func12, Try.ntmps12
    go_wp2_with (go_at_call 15; refine (consume_hit w.heap.size b off n c q y _ hn' hq (by simp) (by simp) (by simp) ((((Below.refl w.heap.size w).alloc (Nat.le_refl _) _).cell (p := ⟨b, off + q, none⟩) hb).trans hcq)).mono ?_; rintro e w1 ⟨rfl, hb1, hc1⟩)
    go_ret2
    exact ⟨rfl, ((Below.refl _ _).alloc (Nat.le_refl _) _).trans hb1⟩

theorem zzconsume_miss (ad : Option Addr) (n c q : Nat) (y : Int) (zs : List Int) (w : World) (hn' : n ≤ 1048576) (hr : Row w ad n zs) (hno : ¬ (q < n ∧ zs.getD q 0 = y)) :
    Calls Try.prog 12 #[.slice ad n c, .int .i64 q, .int .u8 y] w fun e w' => e = .returned (.tuple #[.int .i64 q, .bool false]) ∧ Below w.heap.size w w' := by
  obtain ⟨hl, hr⟩ := hr
  by_cases hq : q < n
  · rcases hr with rfl | ⟨b, off, rfl, hb, hc⟩
    · omega
    · have hcq := hc q hq
      have hne : zs.getD q 0 ≠ y := fun h => hno ⟨hq, h⟩
      obtain ⟨x, hx⟩ : ∃ x, x = zs.getD q 0 := ⟨_, rfl⟩
      rw [← hx] at hcq hne
      clear hno hx hc hl
      go_enter Try.func12, Try.ntmps12
      go_wp2_with (go_at_call 15; refine (consume_miss w.heap.size b off n c q x y _ hn' hq hne (by simp) (by simp) ((((Below.refl w.heap.size w).alloc (Nat.le_refl _) _).cell (p := ⟨b, off + q, none⟩) hb).trans hcq)).mono ?_; rintro e w1 ⟨rfl, hb1, hc1⟩)
      go_ret2
      exact ⟨rfl, ((Below.refl _ _).alloc (Nat.le_refl _) _).trans hb1⟩
  · clear hno hr
    go_enter Try.func12, Try.ntmps12
    go_wp2_with (go_at_call 15; refine (consume_past w.heap.size n c q ad y _ hq (by simp) (by simp)).mono ?_; rintro e w1 ⟨rfl, hb1, hc1⟩)
    go_ret2
    exact ⟨rfl, ((Below.refl _ _).alloc (Nat.le_refl _) _).trans hb1⟩

theorem byte_any (k : Nat) (hk : k < 4) (w : World) : Calls Try.prog 13 #[.int .i64 k] w fun e w' => e = .returned (.int .u8 (bb k)) ∧ w' = w := by
  match k, hk with
  | 0, _ => go_enter Try.func13, Try.ntmps13
            go_wp2
            go_ret
            exact ⟨rfl, rfl⟩
  | 1, _ => go_enter Try.func13, Try.ntmps13
            go_wp2
            go_ret
            exact ⟨rfl, rfl⟩
  | 2, _ => go_enter Try.func13, Try.ntmps13
            go_wp2
            go_ret
            exact ⟨rfl, rfl⟩
  | 3, _ => go_enter Try.func13, Try.ntmps13
            go_wp2
            go_ret
            exact ⟨rfl, rfl⟩

theorem bb_blank (k : Nat) : blank (bb k) = true := by
  unfold bb
  split
  · rfl
  · split
    · rfl
    · split <;> rfl

theorem stop_of (zs : List Int) (r : Nat) (h : r < zs.length → ∀ j, j < 4 → zs.getD r 0 ≠ bb j) : skip zs r = r := by
  by_cases hr : r < zs.length
  · exact skip_miss zs r hr (blank_no (h hr 0 (by omega)) (h hr 1 (by omega)) (h hr 2 (by omega)) (h hr 3 (by omega)))
  · exact skip_past zs r (by omega)
end Go.Proofs.Qxb6602270a
