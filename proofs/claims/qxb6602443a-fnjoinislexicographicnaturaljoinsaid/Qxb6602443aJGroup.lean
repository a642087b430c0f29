/-
  THE ROWS OF A SHEET BY THEIR KEY: what the map of slices holds, and what a round does to it.
-/
import Derived.Test.Qxb6602443aJState
namespace Go.Proofs.Qxb6602443a
open Go.RowKit Go.Deep Go.Maps
set_option linter.unusedVariables false

def rowsOf (key : Nat → ByteArray) (s : ByteArray) (R : Nat) : List Nat := (List.range R).filter fun r => (key r).toList == s.toList
theorem rowsOf_hit (key : Nat → ByteArray) (R : Nat) : rowsOf key (key R) (R + 1) = rowsOf key (key R) R ++ [R] := by
  unfold rowsOf
  rw [List.range_succ, List.filter_append]
  simp
theorem rowsOf_miss (key : Nat → ByteArray) {s : ByteArray} {R : Nat} (h : s ≠ key R) : rowsOf key s (R + 1) = rowsOf key s R := by
  unfold rowsOf
  rw [List.range_succ, List.filter_append]
  have : ((key R).toList == s.toList) = false := beq_str_no (fun e => h e.symm)
  simp [this]
theorem rowsOf_length (key : Nat → ByteArray) (s : ByteArray) (R : Nat) : (rowsOf key s R).length ≤ R := by
  unfold rowsOf
  exact Nat.le_trans (List.length_filter_le _ _) (by simp)
theorem rowsOf_lt (key : Nat → ByteArray) (s : ByteArray) (R : Nat) : ∀ x ∈ rowsOf key s R, x < R := fun x hx => by
  unfold rowsOf at hx
  exact List.mem_range.1 (List.mem_filter.1 hx).1

structure G4 (wA : World) (M1 R : Nat) (key : Nat → ByteArray) (wr : World) (f : ByteArray → Option Value) : Prop where
  map : MapV wr M1 R (.slice none 0 0) f
  yes : ∀ s v, f s = some v → wr.ownsRow (M1 + 1) 3 1 v (rowsOf key s R).length (intCells (rowsOf key s R))
  no : ∀ s, f s = none → rowsOf key s R = []
  ap : ∀ s s' v v', s ≠ s' → f s = some v → f s' = some v' → Apart v v'
  bel : Below M1 wA wr
  sz : M1 + 1 ≤ wr.heap.size

variable {wA wr w1 w3 w4 : World} {M1 R : Nat} {key : Nat → ByteArray} {f : ByteArray → Option Value}

theorem G4.made (key : Nat → ByteArray) (wA : World) : G4 wA wA.heap.size 0 key (wA.alloc (.map #[] 0)) (fun _ => none) where
  map := mapV_made wA _
  yes := fun s v h => by cases h
  no := fun s _ => rfl
  ap := fun s s' v v' _ h => by cases h
  bel := (Below.refl _ _).alloc (Nat.le_refl _) _
  sz := by simp

theorem G4.at (h : G4 wA M1 R key wr f) (s : ByteArray) : wr.ownsRow (M1 + 1) 3 1 ((f s).getD (.slice none 0 0)) (rowsOf key s R).length (intCells (rowsOf key s R)) := by
  cases hf : f s with
  | some v => exact h.yes s v hf
  | none =>
    rw [h.no s hf]
    exact World.ownsRow_nil _ _ _ _

theorem G4.below (h : G4 wA M1 R key wr f) (hb : Below wr.heap.size wr w1) : G4 wA M1 R key w1 f where
  map := h.map.below hb h.map.lt
  yes := fun s v hv => own_below (h.yes s v hv) hb (own_lt (h.yes s v hv))
  no := h.no
  ap := h.ap
  bel := h.bel.trans (hb.mono (Nat.le_trans (Nat.le_succ _) h.sz))
  sz := Nat.le_trans h.sz hb.size

/-- One row more, under its key. -/
theorem G4.step (h : G4 wA M1 R key wr f) {v' : Value} (hg : wr.grownBy w3 ((f (key R)).getD (.slice none 0 0)).ownBlock)
    (ho : w3.ownsRow (M1 + 1) 3 1 v' ((rowsOf key (key R) R).length + 1) (intCells (rowsOf key (key R) R) ++ [.int .i64 ((R : Nat) : Int)]))
    (hloc : v'.ownBlock = ((f (key R)).getD (.slice none 0 0)).ownBlock ∨ v'.ownBlock = some wr.heap.size)
    (hg2 : w3.grownBy w4 (some M1)) (hm : MapV w4 M1 (R + 1) (.slice none 0 0) (upd f (key R) v')) : G4 wA M1 (R + 1) key w4 (upd f (key R) v') := by
  obtain ⟨es, cl, hb0⟩ := h.map.block
  have hrow := h.at (key R)
  have m3 : w3.heap[M1]? = some (.map es cl) := (hg.block M1 h.map.lt (map_apart hrow hb0)).trans hb0
  have hv1 := ho.kept hg2 (apart_map ho m3)
  have other : ∀ s v, s ≠ key R → f s = some v → Apart v ((f (key R)).getD (.slice none 0 0)) := fun s v hs hv => by
    cases hf : f (key R) with
    | some u => exact h.ap s (key R) v u hs hv hf
    | none =>
      cases hg : v.ownBlock with
      | none => exact .inl hg
      | some g => right; rw [hg]; simp [Value.ownBlock]
  exact {
    map := hm
    yes := fun s v hv => by
      by_cases e : s = key R
      · subst e
        unfold upd at hv
        rw [if_pos (beq_str rfl)] at hv
        cases hv
        have e2 : intCells (rowsOf key (key R) R ++ [R]) = intCells (rowsOf key (key R) R) ++ [.int .i64 ((R : Nat) : Int)] := by simp [intCells]
        rw [rowsOf_hit, e2, List.length_append]
        exact hv1
      · unfold upd at hv
        rw [beq_str_no e] at hv
        have hv' : f s = some v := hv
        rw [rowsOf_miss key e]
        have k3 := (h.yes s v hv').kept hg (other s v e hv')
        exact k3.kept hg2 (apart_map k3 m3)
    no := fun s hs => by
      by_cases e : s = key R
      · subst e
        unfold upd at hs
        rw [if_pos (beq_str rfl)] at hs
        cases hs
      · unfold upd at hs
        rw [beq_str_no e] at hs
        rw [rowsOf_miss key e]
        exact h.no s hs
    ap := fun s s' v u hne hv hu => by
      unfold upd at hv hu
      by_cases e : s = key R
      · by_cases e' : s' = key R
        · exact absurd (e.trans e'.symm) hne
        · subst e
          rw [if_pos (beq_str rfl)] at hv
          cases hv
          rw [beq_str_no e'] at hu
          exact (apart_grown (h.yes s' u hu) (other s' u e' hu) hloc).symm'
      · rw [beq_str_no e] at hv
        by_cases e' : s' = key R
        · subst e'
          rw [if_pos (beq_str rfl)] at hu
          cases hu
          exact apart_grown (h.yes s v hv) (other s v e hv) hloc
        · rw [beq_str_no e'] at hu
          exact h.ap s s' v u hne hv hu
    bel := by
      have c1 := h.bel.grown hg (Nat.le_trans (Nat.le_succ _) h.sz) (fun k hk => Nat.le_trans (Nat.le_succ _) (own_block hrow hk).1)
      exact c1.grown hg2 (Nat.le_trans (Nat.le_trans (Nat.le_succ _) h.sz) hg.size) (fun k hk => by cases hk; exact Nat.le_refl _)
    sz := Nat.le_trans h.sz (Nat.le_trans hg.size hg2.size) }
end Go.Proofs.Qxb6602443a
