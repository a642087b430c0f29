/-
  STEPS of the last two loops of 'join'.
-/
import Derived.Test.Qxb6602443aJLast
namespace Go.Proofs.Qxb6602443a
open Go.RowKit Go.Deep Go.Maps
set_option linter.unusedVariables false

def valL (ll : List Ent) (val : Nat → Nat → Nat → ByteArray) (t : List Nat) (i : Nat) : ByteArray := val (ll.getD i noEnt).2.1 (tupF t (ll.getD i noEnt).2.1) (ll.getD i noEnt).2.2

theorem vals_step {wO : World} {V qq j : Nat} {ll : List Ent} {val : Nat → Nat → Nat → ByteArray} {t : List Nat} {h : Nat → ByteArray} {s : ByteArray} (hs : s = valL ll val t j)
    (hr : wO.rowIs V 9 qq (fun i => if i < j then .string (valL ll val t i) else .string (h i))) :
    (wO.setCell ⟨V, j, none⟩ (.string s)).rowIs V 9 qq (fun i => if i < j + 1 then .string (valL ll val t i) else .string (h i)) := by
  subst hs
  refine (hr.set j _).congr fun i hi => ?_
  by_cases h : i = j
  · subst h; simp
  · rw [if_neg h]
    by_cases h2 : i < j
    · rw [if_pos h2, if_pos (by omega)]
    · rw [if_neg h2, if_neg (by omega)]

theorem vals_all {wO : World} {V qq : Nat} {ll : List Ent} {val : Nat → Nat → Nat → ByteArray} {t : List Nat} {h : Nat → ByteArray} (hq : qq = ll.length)
    (hr : wO.rowIs V 9 qq (fun i => if i < qq then .string (valL ll val t i) else .string (h i))) :
    wO.rowIs V 9 qq (fun i => .string ((ll.map fun e => val e.2.1 (tupF t e.2.1) e.2.2).getD i ByteArray.empty)) :=
  hr.congr fun i hi => by
    have hil : i < ll.length := by omega
    rw [if_pos hi]
    simp [valL, hil]

structure S7 (wB : World) (V qq : Nat) (x : Value) (xs : List Nat) (wr : World) : Prop where
  own : wr.ownsRow (V + 1) 3 1 x xs.length (intCells xs)
  row : ∃ h : Nat → ByteArray, wr.rowIs V 9 qq (fun i => .string (h i))
  bel : Below V wB wr
  sz : V + 1 ≤ wr.heap.size

theorem S7.grown {wB : World} {V qq : Nat} {x v' : Value} {xs ys : List Nat} {wr w1 : World} {m : Nat} (h : S7 wB V qq x xs wr) (hm : m = ys.length) (hg : wr.grownBy w1 x.ownBlock)
    (ho : w1.ownsRow (V + 1) 3 1 v' (xs.length + m) (intCells xs ++ intCells ys)) : S7 wB V qq v' (xs ++ ys) w1 where
  own := by rw [List.length_append, intCells_append, ← hm]; exact ho
  row := by
    obtain ⟨f, c, hb, hs, hc⟩ := h.row
    refine ⟨f, c, (hg.block V (by have := h.sz; omega) ?_).trans hb, hs, hc⟩
    intro e
    have := (own_block h.own e.symm).1
    omega
  bel := h.bel.grown hg (by have := h.sz; omega) (fun k hk => by have := (own_block h.own hk).1; omega)
  sz := Nat.le_trans h.sz hg.size
theorem S7.below {wB : World} {V qq : Nat} {x : Value} {xs : List Nat} {wr w1 : World} (h : S7 wB V qq x xs wr) (hb : Below wr.heap.size wr w1) : S7 wB V qq x xs w1 where
  own := own_below h.own hb (own_lt h.own)
  row := by
    obtain ⟨f, c, hb', hs, hc⟩ := h.row
    exact ⟨f, c, (hb.block V (by have := h.sz; omega)).trans hb', hs, hc⟩
  bel := h.bel.trans (hb.mono (by have := h.sz; omega))
  sz := Nat.le_trans h.sz hb.size
theorem S7.alloc {wB : World} {V qq : Nat} {x : Value} {xs : List Nat} {wr : World} (h : S7 wB V qq x xs wr) (o : Obj) : S7 wB V qq x xs (wr.alloc o) := h.below ((Below.refl _ _).alloc (Nat.le_refl _) o)

theorem rows_meets (nc nr : Nat → Nat) (name : Nat → Nat → ByteArray) (val : Nat → Nat → Nat → ByteArray) (k : Nat) (t : List Nat) : rowsOf (keyR nc name val k) (keyL nc name val k t) (nr k) = meets nc name val nr k t := rfl

theorem int_get (l : List Nat) (j : Nat) (u : Value) (h : (intCells l)[j]? = some u) : j < l.length ∧ u = .int .i64 ((l.getD j 0 : Nat) : Int) := by
  simp only [intCells, List.getElem?_map, Option.map_eq_some_iff] at h
  obtain ⟨a, ha, rfl⟩ := h
  exact ⟨(List.getElem?_eq_some_iff.1 ha).1, by rw [List.getD_eq_getElem?_getD, ha]; rfl⟩
end Go.Proofs.Qxb6602443a
