/-
  WHAT THE APPENDS OF THE SECOND LAW DO TO THE LISTS: lemmas on worlds, outside every walk.
-/
import Derived.Test.Qxb6602443aParts
import Derived.ArgAppend
namespace Go.Proofs.Qxb6602443a
open Go.RowKit Go.Deep Go.ChangeShapes Go.WideShapes Go.ChangeAt
set_option linter.unusedVariables false

/-- The cells of job j's list. -/
def olds (rs : List Nat) (h : Nat → Int) (j : Nat) : List Value := (List.range (cnt j rs)).map fun t => .int .i64 (h (cum j rs + t))
theorem olds_length (rs : List Nat) (h : Nat → Int) (j : Nat) : (olds rs h j).length = cnt j rs := by simp [olds]
theorem olds_get (rs : List Nat) (h : Nat → Int) (j t : Nat) (ht : t < cnt j rs) : (olds rs h j)[t]? = some (.int .i64 (h (cum j rs + t))) := by simp [olds, ht]

/-- The first k lists have been grown, each into a block of its own. -/
def Grown (w3 wr : World) (rs : List Nat) (J R k : Nat) (X : Nat → Option Addr) (h : Nat → Int) (G C : Nat → Nat) : Prop :=
  wr.rowIs R 22 J (fun i => if i < k then .slice (some ⟨G i, 0, none⟩) (cnt i rs + 1) (C i) else .slice (X i) (cnt i rs) (cnt i rs)) ∧
  (∀ i, i < k → R < G i ∧ cnt i rs + 1 ≤ C i ∧ ∃ cur : Array Value, wr.heap[G i]? = some (.cells cur 3 (0, 0)) ∧ cur.toList.take (cnt i rs + 1) = olds rs h i ++ [.int .i64 (-1 - (i : Int))]) ∧ Below R w3 wr

theorem grown_zero {w3 : World} {rs : List Nat} {J R : Nat} {X : Nat → Option Addr} {h : Nat → Int} (hR : w3.rowIs R 22 J (fun i => .slice (X i) (cnt i rs) (cnt i rs))) : Grown w3 w3 rs J R 0 X h (fun _ => 0) (fun _ => 0) :=
  ⟨hR.congr fun i hi => by simp, fun i hi => absurd hi (by omega), Below.refl _ _⟩

theorem own_shape {w : World} {B n : Nat} {v : Value} {xs : List Value} (h : w.ownsRow B 3 1 v (n + 1) xs) :
    ∃ g cap, v = .slice (some ⟨g, 0, none⟩) (n + 1) cap ∧ B ≤ g ∧ n + 1 ≤ cap ∧ ∃ cur : Array Value, w.heap[g]? = some (.cells cur 3 (0, 0)) ∧ cur.toList.take (n + 1) = xs := by
  obtain ⟨_, h2⟩ := h
  rcases h2 with ⟨_, h0⟩ | ⟨g, cap, cur, rfl, hB, hh, hn, hcap, hsz, htake⟩
  · omega
  · exact ⟨g, cap, rfl, hB, hn, cur, hh, by simpa using htake⟩

theorem grown_step {w3 wr w4 : World} {rs : List Nat} {J R j g cap : Nat} {X : Nat → Option Addr} {h : Nat → Int} {G C : Nat → Nat} {o : Obj} {cur : Array Value} (hG : Grown w3 wr rs J R j X h G C) (hgr : (wr.alloc o).grownBy w4 none)
    (hg : (wr.alloc o).heap.size ≤ g) (hcap : cnt j rs + 1 ≤ cap) (hcur : w4.heap[g]? = some (.cells cur 3 (0, 0))) (htake : cur.toList.take (cnt j rs + 1) = olds rs h j ++ [.int .i64 (-1 - (j : Int))]) :
    Grown w3 (w4.setCell ⟨R, j, none⟩ (.slice (some ⟨g, 0, none⟩) (cnt j rs + 1) cap)) rs J R (j + 1) X h (fun i => if i = j then g else G i) (fun i => if i = j then cap else C i) := by
  obtain ⟨hR, hB, hbel⟩ := hG
  have hRlt := hR.lt
  have hsz : (wr.alloc o).heap.size = wr.heap.size + 1 := by simp
  have hb4 : Below wr.heap.size wr w4 := ((Below.refl wr.heap.size wr).alloc (Nat.le_refl _) o).grown hgr (by simp) (fun k hk => by cases hk)
  have hR4 := rowIs_below hR hb4 hRlt
  refine ⟨(hR4.set j _).congr fun i hi => ?_, fun i hi => ?_, (hbel.trans (hb4.mono (by omega))).setCell (Nat.le_refl _) _⟩
  · by_cases e : i = j
    · subst e; simp
    · rw [if_neg e]
      by_cases h1 : i < j
      · have h2 : i < j + 1 := by omega
        simp only [h1, h2, e, if_true, if_false]
      · have h2 : ¬ i < j + 1 := by omega
        simp only [h1, h2, if_false]
  · by_cases e : i = j
    · subst e
      simp only [if_true]
      refine ⟨by omega, hcap, cur, ?_, htake⟩
      rw [blk_setCell_other _ _ _ _ (show g ≠ R by omega)]
      exact hcur
    · simp only [e, if_false]
      obtain ⟨h1, h2, cur2, h3, h4⟩ := hB i (by omega)
      have hlt : G i < wr.heap.size := by
        obtain ⟨hlt, _⟩ := Array.getElem?_eq_some_iff.1 h3
        exact hlt
      refine ⟨h1, h2, cur2, ?_, h4⟩
      rw [blk_setCell_other _ _ _ _ (show G i ≠ R by omega), hb4.block _ hlt]
      exact h3

/-- The grown list passes the filter test, and bears its marker. -/
theorem got_of_grown {w3 wr : World} {N : Nat} {rs : List Nat} {J R A : Nat} {X : Nat → Option Addr} {h : Nat → Int} {G C : Nat → Nat} (hL : Lists w3 N rs J R A X h) (hG : Grown w3 wr rs J R J X h G C) {j : Nat} (hj : j < J) :
    Got wr (some ⟨G j, 0, none⟩) (cnt j rs + 1) rs j ∧ wr.cell? ⟨G j, cnt j rs, none⟩ = some (.int .i64 (-1 - (j : Int))) := by
  obtain ⟨hR, hB, hbel⟩ := hG
  obtain ⟨_, _, _, _, hA, hc⟩ := hL
  obtain ⟨h1, h2, cur, h3, h4⟩ := hB j hj
  have at_ : ∀ t, t < cnt j rs + 1 → wr.cell? ⟨G j, t, none⟩ = (olds rs h j ++ [.int .i64 (-1 - (j : Int))])[t]? := fun t ht => by
    rw [← h4, List.getElem?_take_of_lt ht]
    simp [World.cell?, h3]
  refine ⟨fun r hr e => ?_, ?_⟩
  · have hlt := cnt_take_lt rs r hr
    rw [e] at hlt
    refine ⟨by omega, G j, 0, rfl, ?_⟩
    rw [Nat.zero_add, at_ _ (by omega), List.getElem?_append_left (by rw [olds_length]; exact hlt), olds_get _ _ _ _ hlt]
    have := hc r hr
    unfold rowPos at this
    rw [e] at this
    rw [this]
  · rw [at_ _ (by omega), List.getElem?_append_right (by rw [olds_length]; exact Nat.le_refl _), olds_length]
    simp

theorem olds_src {w3 wr : World} {N : Nat} {rs : List Nat} {J R A : Nat} {X : Nat → Option Addr} {h : Nat → Int} {G C : Nat → Nat} {o : Obj} (hL : Lists w3 N rs J R A X h) {j : Nat} (hG : Grown w3 wr rs J R j X h G C) (hj : j < J) :
    (X j = none → cnt j rs = 0 ∧ cnt j rs = 0) ∧ (olds rs h j).length = cnt j rs * 1 ∧ ∀ b, X j = some b → ∀ t u, (olds rs h j)[t]? = some u → (wr.alloc o).cell? (b.add t) = some u := by
  obtain ⟨hR, hB, hbel⟩ := hG
  obtain ⟨_, hAR, hR3, hX, hA, hc⟩ := hL
  have hsz := hR3.lt
  refine ⟨fun hn => ?_, by rw [olds_length, Nat.mul_one], fun b hb t u hu => ?_⟩
  · have : cnt j rs = 0 := by
      apply Nat.eq_zero_of_not_pos
      intro h0
      rw [hX j hj h0] at hn
      cases hn
    exact ⟨this, this⟩
  · have ht : t < cnt j rs := by
      have := (List.getElem?_eq_some_iff.1 hu).1
      rwa [olds_length] at this
    rw [olds_get _ _ _ _ ht] at hu
    rw [hX j hj (by omega)] at hb
    cases hb
    rw [add_plain]
    have h1 := cum_succ j rs
    have h2 := cum_le (j + 1) rs
    have hcell := hA.cell (show cum j rs + t < rs.length by omega)
    have hb1 : (wr.alloc o).cell? ⟨A, cum j rs + t, none⟩ = wr.cell? ⟨A, cum j rs + t, none⟩ := ((Below.refl wr.heap.size wr).alloc (Nat.le_refl _) o).cell (p := ⟨A, cum j rs + t, none⟩) (by have := hbel.size; show A < _; omega)
    rw [hb1, hbel.cell (p := ⟨A, cum j rs + t, none⟩) hAR, hcell]
    exact hu
end Go.Proofs.Qxb6602443a
