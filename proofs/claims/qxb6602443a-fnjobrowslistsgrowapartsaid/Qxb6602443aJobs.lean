/-
  THE WALK over 'jobRows' and its shim.
-/
import Derived.Test.Qxb6602443aKit
namespace Go.Proofs.Qxb6602443a
open Go.RowKit Go.Deep
set_option linter.unusedVariables false

/-- What 'jobRows' leaves: the jobs' lists in block R, cut out of block A. -/
def Lists (w : World) (N : Nat) (rs : List Nat) (J R A : Nat) (X : Nat → Option Addr) (h : Nat → Int) : Prop :=
  N ≤ A ∧ A < R ∧ w.rowIs R 22 J (fun j => .slice (X j) (cnt j rs) (cnt j rs)) ∧ (∀ j, j < J → 0 < cnt j rs → X j = some ⟨A, cum j rs, none⟩) ∧ w.rowIs A 3 rs.length (fun i => .int .i64 (h i)) ∧ ∀ r, r < rs.length → h (rowPos rs r) = (r : Int)

set_option maxHeartbeats 1000000 in
theorem jobRows_any (ad : Option Addr) (n c J : Nat) (rs : List Nat) (w : World) (hn : n ≤ 65536) (hJ : J ≤ 65536) (hr : Row w ad n rs) (hall : ∀ k, k < n → rs.getD k 0 < J) :
    Calls Try.prog 16 #[.slice ad n c, .int .i64 J] w fun e w' => ∃ R A X h, e = .returned (.slice (some ⟨R, 0, none⟩) J J) ∧ Lists w' w.heap.size rs J R A X h ∧ Below w.heap.size w w' := by
  have hmk1 := run_make_row' (P := Try.prog) 22 3 (.int .i64 0) 8 Try.underlying22 Try.info3 rfl .i64 .i64 (J + 1) (by omega) (by omega)
  have ec : ((J + 1 : Nat) : Int) = (J : Int) + 1 := by omega
  rw [ec] at hmk1
  have hmk2 := run_make_row' (P := Try.prog) 22 3 (.int .i64 0) 8 Try.underlying22 Try.info3 rfl .i64 .i64 n (by omega) (by omega)
  have hmk3 := run_make_row' (P := Try.prog) 24 22 (.slice none 0 0) 24 Try.underlying24 Try.info22 rfl .i64 .i64 J (by omega) (by omega)
  have hl := hr.1
  have HL : Hid (rs.length = n) := hl
  have h1 := row1_zero (rs := rs) (World.rowIs_made w (.int .i64 0) (J + 1) 3)
  clear hl ec
  go_enter Try.func16, Try.ntmps16
  go_wp2
  go_loopg [20] n (fun g i wr => ∃ k : Nat, g = n - k ∧ k ≤ n ∧ i = .int .i64 k ∧ wr.heap.size = w.heap.size + 1 ∧ wr.rowIs w.heap.size 3 (J + 1) (fun i => .int .i64 (start1 rs k i : Nat)) ∧ Below w.heap.size w wr)
  case atStart => exact ⟨0, rfl, Nat.zero_le _, rfl, by simp, h1, (Below.refl _ _).alloc (Nat.le_refl _) _⟩
  case round =>
    obtain ⟨k, hg, hk, rfl, hsz, hrow, hbel⟩ := hrel
    clear h1
    have HG : Hid (gk = n - k ∧ wr.rowIs w.heap.size 3 (J + 1) (fun i => .int .i64 (start1 rs k i : Nat))) := ⟨hg, hrow⟩
    clear hg
    by_cases hlt : k < n
    · obtain ⟨b, off, hx, hcx⟩ := (hr.later hbel).at hlt
      obtain ⟨x, hxx⟩ : ∃ x, x = rs.getD k 0 := ⟨_, rfl⟩
      have hxJ := hall k hlt
      rw [← hxx] at hcx hxJ
      have hc1 := hrow.cell (show x + 1 < J + 1 by omega)
      have hf1 := hrow.frozen (x + 1)
      have hle := start1_le rs k (x + 1)
      rw [HL.out] at hle
      have HX : Hid (x = rs.getD k 0) := hxx
      clear hxx hall hrow
      subst hx
      go_wp2
      go_roundg (n - (k + 1))
      case measure => rw [HG.out.1]; omega
      case rel => exact ⟨k + 1, rfl, by omega, by go_num, by simp [hsz], row1_step HG.out.2 (by rw [HL.out]; exact hlt) HX.out, hbel.setCell (Nat.le_refl _) _⟩
    · have hkn : n = k := by omega
      subst hkn
      have h2 := row2_zero (rs := rs) (J := J) (S := w.heap.size) (w := wr) (by rw [HL.out]; exact HG.out.2)
      clear hrow HG
      go_wp2
      go_loopg [33] J (fun g i wr => ∃ j : Nat, g = J - j ∧ j ≤ J ∧ i = .int .i64 j ∧ wr.heap.size = w.heap.size + 1 ∧ wr.rowIs w.heap.size 3 (J + 1) (fun i => .int .i64 (start2 rs j i : Nat)) ∧ Below w.heap.size w wr)
      case atStart => exact ⟨0, rfl, Nat.zero_le _, rfl, hsz, h2, hbel⟩
      case round =>
        clear h2 hsz hbel
        obtain ⟨j, hg, hj, rfl, hsz, hrow, hbel⟩ := hrel
        have HG : Hid (gk = J - j ∧ wr.rowIs w.heap.size 3 (J + 1) (fun i => .int .i64 (start2 rs j i : Nat))) := ⟨hg, hrow⟩
        clear hg
        by_cases hlt : j < J
        · have hc0 := hrow.cell (show j < J + 1 by omega)
          have hc1 := hrow.cell (show j + 1 < J + 1 by omega)
          have hf1 := hrow.frozen (j + 1)
          have hl0 := start2_le rs j j
          have hl1 := start2_le rs j (j + 1)
          rw [HL.out] at hl0 hl1
          clear hrow
          go_wp2
          go_region
          go_wp2
          go_roundg (J - (j + 1))
          case measure => rw [HG.out.1]; omega
          case rel => exact ⟨j + 1, rfl, by omega, by go_num, by simp [hsz], row2_step HG.out.2, (hbel.setCell (Nat.le_refl _) _).drew⟩
        · have hjJ : J = j := by omega
          subst hjJ
          have h3 := row2_done HG.out.2
          clear hrow HG
          have h4 := h3.alloc (.cells (madeCells #[.int .i64 0] n) 3)
          have hA := World.rowIs_made wr (.int .i64 0) n 3
          have hbA := hbel.alloc (by omega) (.cells (madeCells #[.int .i64 0] n) 3)
          have hszA : (wr.alloc (.cells (madeCells #[.int .i64 0] n) 3)).heap.size = w.heap.size + 2 := by simp [hsz]
          rw [hsz] at hA
          obtain ⟨wA, hwA⟩ : ∃ wA, wA = wr.alloc (.cells (madeCells #[.int .i64 0] n) 3) := ⟨_, rfl⟩
          rw [← hwA] at h4 hA hbA hszA
          have HW : Hid (wA = wr.alloc (.cells (madeCells #[.int .i64 0] n) 3)) := hwA
          clear hwA h3 hbel
          go_wp2_with (go_at_call 19; rw [← HW.out]; refine (Try.slices_Clone_int w.heap.size 0 J (J + 1) ((List.range J).map fun i => ((cum i rs : Nat) : Int)) _ (by simp) (by omega) (clone_src h4)).mono ?_; rintro e w2 ⟨v2, rfl, hown, hv2, hb2⟩; obtain ⟨G, cap, gf, hvG, hGB, hJc, hG⟩ := clone_row hown hv2; clear hown hv2; subst hvG)
          have hbN : Below w.heap.size w w2 := hbA.trans (hb2.mono (by omega))
          have hS2 := rowIs_below h4 hb2 (by omega)
          have hA2 := rowIs_below hA hb2 (by omega)
          clear hA h4 hb2 hbA HW
          rw [hszA] at hGB
          clear hszA hsz
          go_loopg [57] n (fun g i wr => ∃ (k : Nat) (h : Nat → Int), g = n - k ∧ k ≤ n ∧ i = .int .i64 k ∧ wr.rowIs w.heap.size 3 (J + 1) (fun i => .int .i64 (cum i rs : Nat)) ∧ wr.rowIs (w.heap.size + 1) 3 n (fun i => .int .i64 (h i)) ∧ (∀ r, r < k → h (rowPos rs r) = (r : Int)) ∧
             wr.rowIs G 3 cap (fun i => if i < J then .int .i64 (next3 rs k i : Nat) else gf i) ∧ Below w.heap.size w wr)
          case atStart => exact ⟨0, fun _ => 0, rfl, Nat.zero_le _, rfl, hS2, hA2, fun r hr => absurd hr (by omega), hG, hbN⟩
          case round =>
            clear hS2 hA2 hG hbN
            obtain ⟨k, h, hg, hk, rfl, hS, hA, hp, hG, hbel⟩ := hrel
            by_cases hlt : k < n
            · obtain ⟨b, off, hx, hcx⟩ := (hr.later hbel).at hlt
              obtain ⟨x, hxx⟩ : ∃ x, x = rs.getD k 0 := ⟨_, rfl⟩
              have hxJ := hall k hlt
              rw [← hxx] at hcx hxJ
              obtain ⟨y, hyy⟩ : ∃ y, y = next3 rs k x := ⟨_, rfl⟩
              have hyn : y < n := by rw [hyy, hxx, next3_pos, ← HL.out]; exact rowPos_lt rs k (by rw [HL.out]; exact hlt)
              have hc1 := hG.cell (show x < cap by omega)
              rw [if_pos hxJ, ← hyy] at hc1
              have hf1 := hG.frozen x
              have hc2 := hA.cell hyn
              have hf2 := hA.frozen y
              have hGA : G ≠ w.heap.size + 1 := by omega
              have R := third_step (w := w) HL.out hlt hxx hxJ hyy hS hA hp hG hbel (by omega) (by omega)
              have HG : Hid (gk = n - k) := hg
              clear hg hS hA hp hG hxx hyy hall
              subst hx
              go_wp2
              obtain ⟨h', R1, R2, R3, R4, R5⟩ := R
              go_roundg (n - (k + 1))
              case measure => rw [HG.out]; omega
              case rel => exact ⟨k + 1, h', rfl, by omega, by go_num, R1, R2, R3, R4, R5⟩
            · have hkn : n = k := by omega
              subst hkn
              have HP : Hid (∀ r, r < n → h (rowPos rs r) = (r : Int)) := hp
              have hR := World.rowIs_made wr (.slice none 0 0) J 22
              have hS5 := hS.alloc (.cells (madeCells #[.slice none 0 0] J) 22)
              have hA5 := hA.alloc (.cells (madeCells #[.slice none 0 0] J) 22)
              have hb5 := hbel.alloc hbel.size (.cells (madeCells #[.slice none 0 0] J) 22)
              have hRl : G < wr.heap.size := hG.lt
              obtain ⟨R, hRR⟩ : ∃ R, R = wr.heap.size := ⟨_, rfl⟩
              rw [← hRR] at hR hRl
              clear hS hA hbel hG hp hg
              go_wp2
              rw [← hRR]
              clear hRR
              go_loopg [79] J (fun g i wr => ∃ (j : Nat) (X : Nat → Option Addr), g = J - j ∧ j ≤ J ∧ i = .int .i64 j ∧ wr.rowIs R 22 J (fun i => if i < j then .slice (X i) (cnt i rs) (cnt i rs) else .slice none 0 0) ∧ (∀ i, i < j → 0 < cnt i rs → X i = some ⟨w.heap.size + 1, cum i rs, none⟩) ∧
                 wr.rowIs w.heap.size 3 (J + 1) (fun i => .int .i64 (cum i rs : Nat)) ∧ wr.rowIs (w.heap.size + 1) 3 n (fun i => .int .i64 (h i)) ∧ Below w.heap.size w wr)
              case atStart => exact ⟨0, fun _ => none, rfl, Nat.zero_le _, rfl, hR.congr fun i hi => by simp, fun i hi => absurd hi (by omega), hS5, hA5, hb5⟩
              case round =>
                clear hR hS5 hA5 hb5
                obtain ⟨j, X, hg, hj, rfl, hR, hX, hS, hA, hbel⟩ := hrel
                by_cases hlt : j < J
                · have hc0 := hS.cell (show j < J + 1 by omega)
                  have hc1 := hS.cell (show j + 1 < J + 1 by omega)
                  have hcR := hR.cell hlt
                  have hfR := hR.frozen j
                  have hm := cum_succ j rs
                  have hle := cum_le (j + 1) rs
                  rw [HL.out] at hle
                  obtain ⟨p, hpp⟩ : ∃ p, p = cum j rs := ⟨_, rfl⟩
                  obtain ⟨q, hqq⟩ : ∃ q, q = cum (j + 1) rs := ⟨_, rfl⟩
                  rw [← hpp] at hc0
                  rw [← hqq] at hc1
                  have hpq : p ≤ q := by omega
                  have hqn : q ≤ n := by omega
                  have HI : Hid (gk = J - j ∧ p = cum j rs ∧ q = cum (j + 1) rs ∧ cum (j + 1) rs = cum j rs + cnt j rs) := ⟨hg, hpp, hqq, hm⟩
                  have HR : Hid (wr.rowIs R 22 J (fun i => if i < j then .slice (X i) (cnt i rs) (cnt i rs) else .slice none 0 0) ∧ (∀ i, i < j → 0 < cnt i rs → X i = some ⟨w.heap.size + 1, cum i rs, none⟩) ∧
                    wr.rowIs w.heap.size 3 (J + 1) (fun i => .int .i64 (cum i rs : Nat)) ∧ wr.rowIs (w.heap.size + 1) 3 n (fun i => .int .i64 (h i))) := ⟨hR, hX, hS, hA⟩
                  clear hg hpp hqq hm hle hR hX hS hA hall
                  go_wp2
                  go_region
                  go_wp2
                  · have hqp : q = p := by assumption
                    obtain ⟨X', R5, R6⟩ := fourth_step (d := 0) (Y := some ⟨w.heap.size + 1, 0, none⟩) (by have := HI.out; omega) (fun h => absurd h (by omega)) HR.out.1 HR.out.2.1
                    go_roundg (J - (j + 1))
                    case measure => rw [HI.out.1]; omega
                    case rel => exact ⟨j + 1, X', rfl, by omega, by go_num, R5, R6, (HR.out.2.2.1.setOther (by simp; omega) _).drew, (HR.out.2.2.2.setOther (by simp; omega) _).drew, (hbel.setCell (by simp; omega) _).drew⟩
                  · obtain ⟨X', R5, R6⟩ := fourth_step (d := q - p) (Y := some ⟨w.heap.size + 1, p, none⟩) (by have := HI.out; omega) (fun h => by rw [HI.out.2.1]) HR.out.1 HR.out.2.1
                    go_roundg (J - (j + 1))
                    case measure => rw [HI.out.1]; omega
                    case rel => exact ⟨j + 1, X', rfl, by omega, by go_num, R5, R6, (HR.out.2.2.1.setOther (by simp; omega) _).drew, (HR.out.2.2.2.setOther (by simp; omega) _).drew, (hbel.setCell (by simp; omega) _).drew⟩
                · have hjJ : J = j := by omega
                  subst hjJ
                  have hout : Lists wr w.heap.size rs J R (w.heap.size + 1) X h := by
                    refine ⟨by omega, by omega, hR.congr fun i hi => ?_, hX, ?_, fun r hr2 => ?_⟩
                    · rw [if_pos hi]
                    · rw [HL.out]; exact hA
                    · rw [HL.out] at hr2
                      exact HP.out r hr2
                  clear hR hX hA hS hall hg
                  go_wp2
                  go_ret
                  exact ⟨R, w.heap.size + 1, X, h, rfl, hout, hbel⟩
end Go.Proofs.Qxb6602443a
