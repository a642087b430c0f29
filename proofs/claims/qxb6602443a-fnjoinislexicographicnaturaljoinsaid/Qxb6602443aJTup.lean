/-
  THE PLAIN JOIN: the tuples of row indices in lexicographic order, those that agree, and that the join's own way gives just those. No Go in sight.
-/
import Derived.Test.Qxb6602443aJKey
import Derived.Test.Qxb6602443aJScan
namespace Go.Proofs.Qxb6602443a

/-! ### All tuples, in order -/
def allT (nr : Nat → Nat) : Nat → List (List Nat)
  | 0 => [[]]
  | k + 1 => (allT nr k).flatMap fun t => (List.range (nr k)).map fun r => t ++ [r]

/-- The idx-th tuple: its last place varies fastest. -/
def dec (nr : Nat → Nat) : Nat → Nat → List Nat
  | 0, _ => []
  | k + 1, i => dec nr k (i / nr k) ++ [i % nr k]

theorem dec_length (nr : Nat → Nat) : ∀ k i, (dec nr k i).length = k
  | 0, _ => rfl
  | k + 1, i => by simp [dec, dec_length nr k]

theorem range_mul (P n : Nat) : List.range (P * n) = (List.range P).flatMap fun i => (List.range n).map fun r => i * n + r := by
  induction P with
  | zero => simp
  | succ P ih =>
    rw [Nat.succ_mul, List.range_add, ih, List.range_succ, List.flatMap_append]
    simp

theorem allT_dec (nr : Nat → Nat) : ∀ k, allT nr k = (List.range (prodN nr k)).map (dec nr k)
  | 0 => by simp [allT, prodN, dec]
  | k + 1 => by
    show (allT nr k).flatMap _ = (List.range (prodN nr k * nr k)).map (dec nr (k + 1))
    rw [allT_dec nr k, range_mul, List.map_flatMap, List.flatMap_map]
    congr 1
    funext i
    rw [List.map_map]
    apply List.map_congr_left
    intro r hr
    have hr' : r < nr k := List.mem_range.1 hr
    have hpos : 0 < nr k := by omega
    show dec nr k i ++ [r] = dec nr k ((i * nr k + r) / nr k) ++ [(i * nr k + r) % nr k]
    have e1 : (i * nr k + r) / nr k = i := by
      rw [Nat.mul_comm, Nat.mul_add_div hpos, Nat.div_eq_of_lt hr', Nat.add_zero]
    have e2 : (i * nr k + r) % nr k = r := by
      rw [Nat.mul_comm, Nat.mul_add_mod, Nat.mod_eq_of_lt hr']
    rw [e1, e2]

/-- A tuple's places lie within the sheets. -/
def Fits (nr : Nat → Nat) (k : Nat) (t : List Nat) : Prop := t.length = k ∧ ∀ i, i < k → t.getD i 0 < nr i

theorem allT_fits (nr : Nat → Nat) : ∀ k t, t ∈ allT nr k → Fits nr k t
  | 0, t, h => by
    simp [allT] at h
    subst h
    exact ⟨rfl, fun i hi => absurd hi (by omega)⟩
  | k + 1, t, h => by
    simp only [allT, List.mem_flatMap, List.mem_map, List.mem_range] at h
    obtain ⟨t0, h0, r, hr, rfl⟩ := h
    obtain ⟨h1, h2⟩ := allT_fits nr k t0 h0
    refine ⟨by simp [h1], fun i hi => ?_⟩
    by_cases e : i < k
    · rw [List.getD_eq_getElem?_getD, List.getElem?_append_left (by omega), ← List.getD_eq_getElem?_getD]
      exact h2 i e
    · have : i = k := by omega
      subst this
      rw [List.getD_eq_getElem?_getD, List.getElem?_append_right (by omega), h1]
      simpa using hr

/-! ### The tuples that agree -/
section
variable (nc : Nat → Nat) (name : Nat → Nat → ByteArray) (val : Nat → Nat → Nat → ByteArray)

def tupF (t : List Nat) : Nat → Nat := fun i => t.getD i 0

def leftL (k : Nat) : Nat → List Ent
  | 0 => []
  | c + 1 => match (stS nc name k).find? (fun e => e.1.toList == (name k c).toList) with
    | some e => leftL k c ++ [e]
    | none => leftL k c
def rightL (k : Nat) : Nat → List Nat
  | 0 => []
  | c + 1 => if hasName (stS nc name k) (name k c) then rightL k c ++ [c] else rightL k c

def keyR (k r : Nat) : ByteArray := keyB ((rightL nc name k (nc k)).map fun c => val k r c)
def keyL (k : Nat) (t : List Nat) : ByteArray := keyB ((leftL nc name k (nc k)).map fun e => val e.2.1 (tupF t e.2.1) e.2.2)
def agree (k : Nat) (t : List Nat) (r : Nat) : Bool := (keyR nc name val k r).toList == (keyL nc name val k t).toList
def meets (nr : Nat → Nat) (k : Nat) (t : List Nat) : List Nat := (List.range (nr k)).filter (agree nc name val k t)
/-- The join's tuples ahead of sheet k. -/
def jT (nr : Nat → Nat) : Nat → List (List Nat)
  | 0 => [[]]
  | k + 1 => (jT nr k).flatMap fun t => (meets nc name val nr k t).map fun r => t ++ [r]
end
end Go.Proofs.Qxb6602443a
