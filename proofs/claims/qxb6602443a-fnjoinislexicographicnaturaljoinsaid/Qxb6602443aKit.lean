/-
  WHAT EACH ROUND OF 'jobRows' DOES TO ITS OWN ROWS: lemmas on worlds, outside every walk.
-/
import Derived.Test.Qxb6602443aRows
import Derived.Test.Qxb6602443aPlain
import Derived.Test.Qxb6602443aShelf
import Derived.WalkKit
import Derived.ProofKit
import Derived.Deep.LoopGhost
import Derived.Deep.OwnRows
import Derived.Deep.QuietTactic
import Derived.BigQuiet
import Derived.BigRegion
import Derived.WalkSmall
import Derived.WalkSpells
import Derived.Outline
import Derived.Lib.SliceRun
namespace Go.Proofs.Qxb6602443a
open Go.RowKit Go.Deep
set_option linter.unusedVariables false

theorem Try.info3 : (Try.prog.info? 3).map (fun i => (i.zero, i.size, i.bytes)) = some (some (.int .i64 0), 1, 8) := by kernel_rfl
theorem Try.info22 : (Try.prog.info? 22).map (fun i => (i.zero, i.size, i.bytes)) = some (some (.slice none 0 0), 1, 24) := by kernel_rfl

/-- A slice of ints of n cells that reads rs. -/
def Row (w : World) (ad : Option Addr) (n : Nat) (rs : List Nat) : Prop :=
  rs.length = n ∧ (n = 0 ∨ ∃ b off, ad = some ⟨b, off, none⟩ ∧ b < w.heap.size ∧ ∀ k, k < n → w.cell? ⟨b, off + k, none⟩ = some (.int .i64 ((rs.getD k 0 : Nat) : Int)))
theorem Row.later {w w' : World} {ad : Option Addr} {n : Nat} {zs : List Nat} (h : Row w ad n zs) (hb : Below w.heap.size w w') : Row w' ad n zs := by
  obtain ⟨h1, h2⟩ := h
  refine ⟨h1, ?_⟩
  rcases h2 with h2 | ⟨b, off, h3, h4, h5⟩
  · exact .inl h2
  · exact .inr ⟨b, off, h3, Nat.lt_of_lt_of_le h4 hb.size, fun k hk => (hb.cell (p := ⟨b, off + k, none⟩) h4).trans (h5 k hk)⟩
theorem Row.at {w : World} {ad : Option Addr} {n : Nat} {rs : List Nat} (h : Row w ad n rs) {k : Nat} (hk : k < n) : ∃ b off, ad = some ⟨b, off, none⟩ ∧ w.cell? ⟨b, off + k, none⟩ = some (.int .i64 ((rs.getD k 0 : Nat) : Int)) := by
  rcases h.2 with h2 | ⟨b, off, h3, h4, h5⟩
  · omega
  · exact ⟨b, off, h3, h5 k hk⟩

theorem rowIs_below {w w' : World} {b : Nat} {t : TypeId} {n : Nat} {f : Nat → Value} (h : w.rowIs b t n f) {B : Nat} (hb : Below B w w') (hB : b < B) : w'.rowIs b t n f := h.of_block (hb.block b hB)
theorem rowIs_drewN {w : World} {b : Nat} {t : TypeId} {n : Nat} {f : Nat → Value} (h : w.rowIs b t n f) (m : Nat) : (w.drewN m).rowIs b t n f := h

def start1 (rs : List Nat) (k i : Nat) : Nat := if i = 0 then 0 else cnt (i - 1) (rs.take k)
def start2 (rs : List Nat) (j i : Nat) : Nat := if i ≤ j then cum i rs else cnt (i - 1) rs
def next3 (rs : List Nat) (k i : Nat) : Nat := cum i rs + cnt i (rs.take k)

theorem start1_le (rs : List Nat) (k i : Nat) : start1 rs k i ≤ rs.length := by
  unfold start1
  split
  · omega
  · exact Nat.le_trans (cnt_take_le _ _ _) (cnt_le _ _)
theorem start2_le (rs : List Nat) (k i : Nat) : start2 rs k i ≤ rs.length := by
  unfold start2
  split
  · exact cum_le _ _
  · exact cnt_le _ _

theorem row1_zero {w : World} {S J : Nat} {rs : List Nat} (h : w.rowIs S 3 (J + 1) (fun _ => .int .i64 0)) : w.rowIs S 3 (J + 1) (fun i => .int .i64 (start1 rs 0 i : Nat)) :=
  h.congr fun i hi => by
    have : start1 rs 0 i = 0 := by unfold start1; split <;> simp [cnt]
    rw [this]; rfl

theorem row1_step {w : World} {S J k x : Nat} {rs : List Nat} (h : w.rowIs S 3 (J + 1) (fun i => .int .i64 (start1 rs k i : Nat))) (hk : k < rs.length) (hx : x = rs.getD k 0) :
    (w.setCell ⟨S, x + 1, none⟩ (.int .i64 (((start1 rs k (x + 1) : Nat) : Int) + 1))).rowIs S 3 (J + 1) (fun i => .int .i64 (start1 rs (k + 1) i : Nat)) := by
  refine (h.set (x + 1) _).congr fun i hi => ?_
  have e := fun j => cnt_take_succ j rs k hk
  unfold start1
  by_cases hi0 : i = 0
  · subst hi0; simp
  · by_cases hix : i = x + 1
    · subst hix
      simp only [if_true, Nat.add_sub_cancel, Nat.succ_ne_zero, if_false]
      rw [e x, if_pos hx.symm]
      simp
    · rw [if_neg hix, if_neg hi0, if_neg hi0, e (i - 1), if_neg (by omega)]
      simp

theorem row2_zero {w : World} {S J : Nat} {rs : List Nat} (h : w.rowIs S 3 (J + 1) (fun i => .int .i64 (start1 rs rs.length i : Nat))) : w.rowIs S 3 (J + 1) (fun i => .int .i64 (start2 rs 0 i : Nat)) :=
  h.congr fun i hi => by
    unfold start1 start2
    by_cases hi0 : i = 0
    · subst hi0; simp [cum_zero]
    · rw [if_neg hi0, if_neg (by omega), List.take_length]

theorem row2_step {w : World} {S J j : Nat} {rs : List Nat} (h : w.rowIs S 3 (J + 1) (fun i => .int .i64 (start2 rs j i : Nat))) :
    (w.setCell ⟨S, j + 1, none⟩ (.int .i64 (((start2 rs j (j + 1) : Nat) : Int) + ((start2 rs j j : Nat) : Int)))).rowIs S 3 (J + 1) (fun i => .int .i64 (start2 rs (j + 1) i : Nat)) := by
  refine (h.set (j + 1) _).congr fun i hi => ?_
  unfold start2
  by_cases hij : i = j + 1
  · subst hij
    simp only [if_true]
    rw [if_neg (by omega), if_pos (Nat.le_refl _), if_pos (Nat.le_refl _), cum_succ]
    simp only [Nat.add_sub_cancel]
    congr 1
    omega
  · rw [if_neg hij]
    by_cases h1 : i ≤ j
    · rw [if_pos h1, if_pos (by omega)]
    · rw [if_neg h1, if_neg (by omega)]

theorem row2_done {w : World} {S J : Nat} {rs : List Nat} (h : w.rowIs S 3 (J + 1) (fun i => .int .i64 (start2 rs J i : Nat))) : w.rowIs S 3 (J + 1) (fun i => .int .i64 (cum i rs : Nat)) :=
  h.congr fun i hi => by unfold start2; rw [if_pos (by omega)]

/-- What 'slices.Clone' hands back, as a row. -/
theorem clone_row {w : World} {B J : Nat} {v : Value} {rs : List Nat} (h : w.ownsRow B 3 1 v J (((((List.range J).map fun i => ((cum i rs : Nat) : Int))).take J).map (Value.int .i64))) (hv : v ≠ .slice none 0 0) :
    ∃ (G cap : Nat) (g : Nat → Value), v = .slice (some ⟨G, 0, none⟩) J cap ∧ B ≤ G ∧ J ≤ cap ∧ w.rowIs G 3 cap (fun i => if i < J then .int .i64 (next3 rs 0 i : Nat) else g i) := by
  obtain ⟨_, h2⟩ := h
  rcases h2 with ⟨h0, _⟩ | ⟨G, cap, cur, rfl, hB, hh, hn, hcap, hsz, htake⟩
  · exact absurd h0 hv
  · refine ⟨G, cap, fun i => cur.getD i undef, rfl, hB, hn, cur, hh, by simpa using hsz, fun i hi => ?_⟩
    have hic : i < cur.size := by omega
    by_cases hiJ : i < J
    · dsimp only
      rw [if_pos hiJ]
      have h3 : (cur.toList.take (J * 1))[i]? = some (Value.int .i64 ((cum i rs : Nat) : Int)) := by
        rw [htake]
        simp [hiJ]
      rw [List.getElem?_take_of_lt (by omega)] at h3
      have e : next3 rs 0 i = cum i rs := by simp [next3, cnt]
      rw [e]
      simpa using h3
    · dsimp only
      rw [if_neg hiJ]
      simp [hic]

theorem clone_src {w : World} {S J : Nat} {rs : List Nat} (h : w.rowIs S 3 (J + 1) (fun i => .int .i64 (cum i rs : Nat))) :
    ∀ j, j < ((List.range J).map fun i => ((cum i rs : Nat) : Int)).length → w.cell? ⟨S, 0 + j, none⟩ = some (.int .i64 (((List.range J).map fun i => ((cum i rs : Nat) : Int)).getD j 0)) := by
  intro j hj
  have hj' : j < J := by simpa using hj
  have e : ((List.range J).map fun i => ((cum i rs : Nat) : Int)).getD j 0 = ((cum j rs : Nat) : Int) := by simp [hj']
  rw [Nat.zero_add, e]
  exact h.cell (show j < J + 1 by omega)

theorem next3_le (rs : List Nat) (k i : Nat) : next3 rs k i ≤ rs.length := by
  unfold next3
  have h1 := cnt_take_le i rs k
  have h2 := cum_succ i rs
  have h3 := cum_le (i + 1) rs
  omega
theorem next3_pos (rs : List Nat) (k : Nat) : next3 rs k (rs.getD k 0) = rowPos rs k := rfl

theorem row3_step {w : World} {G J cap k x : Nat} {g : Nat → Value} {rs : List Nat} (h : w.rowIs G 3 cap (fun i => if i < J then .int .i64 (next3 rs k i : Nat) else g i)) (hk : k < rs.length) (hx : x = rs.getD k 0) (hxJ : x < J) :
    (w.setCell ⟨G, x, none⟩ (.int .i64 (((next3 rs k x : Nat) : Int) + 1))).rowIs G 3 cap (fun i => if i < J then .int .i64 (next3 rs (k + 1) i : Nat) else g i) := by
  refine (h.set x _).congr fun i hi => ?_
  have e := cnt_take_succ i rs k hk
  by_cases hix : i = x
  · subst hix
    rw [if_pos rfl, if_pos hxJ]
    unfold next3
    rw [e, if_pos hx.symm]
    congr 1
  · rw [if_neg hix]
    by_cases hiJ : i < J
    · rw [if_pos hiJ, if_pos hiJ]
      unfold next3
      rw [e, if_neg (by omega)]
      rfl
    · rw [if_neg hiJ, if_neg hiJ]

/-- The rows laid so far lie at their places. -/
theorem all_step {w : World} {A n k : Nat} {h : Nat → Int} {rs : List Nat} (hn : rs.length = n) (hr : w.rowIs A 3 n (fun i => .int .i64 (h i))) (hp : ∀ r, r < k → h (rowPos rs r) = (r : Int)) (hk : k < n) :
    ∃ h' : Nat → Int, (w.setCell ⟨A, rowPos rs k, none⟩ (.int .i64 (k : Int))).rowIs A 3 n (fun i => .int .i64 (h' i)) ∧ ∀ r, r < k + 1 → h' (rowPos rs r) = (r : Int) := by
  refine ⟨fun i => if i = rowPos rs k then (k : Int) else h i, (hr.set (rowPos rs k) _).congr fun i hi => ?_, fun r hr => ?_⟩
  · by_cases e : i = rowPos rs k
    · simp [e]
    · simp [e]
  · by_cases e : r = k
    · simp [e]
    · have hne := rowPos_ne rs (show r < k by omega) (by omega)
      simp [hne, hp r (by omega)]

/-- One round of the third loop: the row is laid at its place, the job's next place moves on. -/
theorem third_step {w wr : World} {N A G J n cap k x y : Nat} {h : Nat → Int} {g : Nat → Value} {rs : List Nat} (hn : rs.length = n) (hk : k < n) (hx : x = rs.getD k 0) (hxJ : x < J) (hy : y = next3 rs k x)
    (hS : wr.rowIs N 3 (J + 1) (fun i => .int .i64 (cum i rs : Nat))) (hA : wr.rowIs A 3 n (fun i => .int .i64 (h i))) (hp : ∀ r, r < k → h (rowPos rs r) = (r : Int))
    (hG : wr.rowIs G 3 cap (fun i => if i < J then .int .i64 (next3 rs k i : Nat) else g i)) (hbel : Below N w wr) (hNA : N < A) (hAG : A < G) :
    ∃ h' : Nat → Int, ((wr.setCell ⟨A, y, none⟩ (.int .i64 (k : Int))).setCell ⟨G, x, none⟩ (.int .i64 ((y : Int) + 1))).rowIs N 3 (J + 1) (fun i => .int .i64 (cum i rs : Nat)) ∧
      ((wr.setCell ⟨A, y, none⟩ (.int .i64 (k : Int))).setCell ⟨G, x, none⟩ (.int .i64 ((y : Int) + 1))).rowIs A 3 n (fun i => .int .i64 (h' i)) ∧ (∀ r, r < k + 1 → h' (rowPos rs r) = (r : Int)) ∧
      ((wr.setCell ⟨A, y, none⟩ (.int .i64 (k : Int))).setCell ⟨G, x, none⟩ (.int .i64 ((y : Int) + 1))).rowIs G 3 cap (fun i => if i < J then .int .i64 (next3 rs (k + 1) i : Nat) else g i) ∧
      Below N w ((wr.setCell ⟨A, y, none⟩ (.int .i64 (k : Int))).setCell ⟨G, x, none⟩ (.int .i64 ((y : Int) + 1))) := by
  have e : y = rowPos rs k := by rw [hy, hx]; exact next3_pos rs k
  obtain ⟨h', h1, h2⟩ := all_step hn hA hp hk
  rw [← e] at h1
  refine ⟨h', (hS.setOther (by simp; omega) _).setOther (by simp; omega) _, h1.setOther (by simp; omega) _, h2, ?_, (hbel.setCell (by simp; omega) _).setCell (by simp; omega) _⟩
  have h3 := row3_step (hG.setOther (a := ⟨A, y, none⟩) (by simp; omega) (.int .i64 (k : Int))) (by omega) hx hxJ
  rw [← hy] at h3
  exact h3

/-- One round of the fourth loop: the job's list is cut out of the one row. -/
theorem fourth_step {wr : World} {R J j A d : Nat} {Y : Option Addr} {X : Nat → Option Addr} {rs : List Nat} (hd : d = cnt j rs) (hY : 0 < d → Y = some ⟨A, cum j rs, none⟩)
    (hR : wr.rowIs R 22 J (fun i => if i < j then .slice (X i) (cnt i rs) (cnt i rs) else .slice none 0 0)) (hX : ∀ i, i < j → 0 < cnt i rs → X i = some ⟨A, cum i rs, none⟩) :
    ∃ X' : Nat → Option Addr, (wr.setCell ⟨R, j, none⟩ (.slice Y d d)).drew.rowIs R 22 J (fun i => if i < j + 1 then .slice (X' i) (cnt i rs) (cnt i rs) else .slice none 0 0) ∧
      ∀ i, i < j + 1 → 0 < cnt i rs → X' i = some ⟨A, cum i rs, none⟩ := by
  refine ⟨fun i => if i = j then Y else X i, ((hR.set j _).congr fun i hi => ?_).drew, fun i hi h0 => ?_⟩
  · by_cases e : i = j
    · subst e
      simp only [if_true, hd, Nat.lt_succ_self]
    · rw [if_neg e]
      by_cases h1 : i < j
      · have h2 : i < j + 1 := by omega
        simp only [h1, h2, e, if_true, if_false]
      · rw [if_neg h1, if_neg (by omega)]
  · by_cases e : i = j
    · subst e
      dsimp only
      rw [if_pos rfl, hY (by omega)]
    · dsimp only
      rw [if_neg e]
      exact hX i (by omega) h0
end Go.Proofs.Qxb6602443a
