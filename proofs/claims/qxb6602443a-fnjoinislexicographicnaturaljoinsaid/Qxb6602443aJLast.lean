/-
  THE PLAIN SIDE of the join's last loops: the tuples laid flat.
-/
import Derived.Test.Qxb6602443aJMore
namespace Go.Proofs.Qxb6602443a
open Go.RowKit Go.Deep Go.Maps
set_option linter.unusedVariables false

def flatJ (nc nr : Nat → Nat) (name : Nat → Nat → ByteArray) (val : Nat → Nat → Nat → ByteArray) (k : Nat) : List Nat := (jT nc name val nr (if k = 0 then 1 else k)).flatten

theorem rightL_zero (nc : Nat → Nat) (name : Nat → Nat → ByteArray) : ∀ c, rightL nc name 0 c = []
  | 0 => rfl
  | c + 1 => by simp [rightL, stS, hasName, rightL_zero nc name c]
theorem leftL_zero (nc : Nat → Nat) (name : Nat → Nat → ByteArray) : ∀ c, leftL nc name 0 c = []
  | 0 => rfl
  | c + 1 => by simp [leftL, stS, leftL_zero nc name c]
theorem flatJ_zero (nc nr : Nat → Nat) (name : Nat → Nat → ByteArray) (val : Nat → Nat → Nat → ByteArray) : flatJ nc nr name val 0 = List.range (nr 0) := by
  have h : meets nc name val nr 0 [] = List.range (nr 0) := by
    unfold meets
    rw [List.filter_eq_self]
    intro r _
    unfold agree keyR keyL
    rw [rightL_zero, leftL_zero]
    simp
  simp [flatJ, jT, h]
  induction List.range (nr 0) with
  | nil => rfl
  | cons a l ih => simp [ih]

theorem flat_len {l : List (List Nat)} {k : Nat} (hl : ∀ t ∈ l, t.length = k) : l.flatten.length = l.length * k := by
  induction l with
  | nil => simp
  | cons a l ih =>
    rw [List.flatten_cons, List.length_append, ih (fun t ht => hl t (by simp [ht])), hl a (by simp), List.length_cons, Nat.succ_mul]
    omega

theorem flat_get {l : List (List Nat)} {k : Nat} (hl : ∀ t ∈ l, t.length = k) : ∀ {m j : Nat} {t : List Nat}, l[m]? = some t → j < k → l.flatten[m * k + j]? = t[j]? := by
  induction l with
  | nil => intro m j t h; simp at h
  | cons a l ih =>
    intro m j t h hj
    have ha := hl a (by simp)
    cases m with
    | zero =>
      simp at h
      subst h
      rw [Nat.zero_mul, Nat.zero_add, List.flatten_cons, List.getElem?_append_left (by omega)]
    | succ m =>
      simp at h
      rw [List.flatten_cons, List.getElem?_append_right (by rw [ha, Nat.succ_mul]; omega), ha]
      have e : (m + 1) * k + j - k = m * k + j := by rw [Nat.succ_mul]; omega
      rw [e]
      exact ih (fun t ht => hl t (by simp [ht])) h hj

section
variable {nc nr : Nat → Nat} {name : Nat → Nat → ByteArray} {val : Nat → Nat → Nat → ByteArray}

theorem jT_fits : ∀ k, ∀ t ∈ jT nc name val nr k, Fits nr k t
  | 0, t, h => by
    simp [jT] at h
    subst h
    exact ⟨rfl, fun i hi => absurd hi (by omega)⟩
  | k + 1, t, h => by
    simp only [jT, List.mem_flatMap, List.mem_map] at h
    obtain ⟨t0, h0, r, hr, rfl⟩ := h
    obtain ⟨h1, h2⟩ := jT_fits k t0 h0
    have hr' : r < nr k := by
      unfold meets at hr
      exact List.mem_range.1 (List.mem_filter.1 hr).1
    refine ⟨by simp [h1], fun i hi => ?_⟩
    show tupF (t0 ++ [r]) i < nr i
    by_cases e : i = k
    · subst e; rw [tupF_last h1]; exact hr'
    · rw [tupF_left h1 (by omega)]; exact h2 i (by omega)

theorem jT_length_le : ∀ k, (jT nc name val nr k).length ≤ prodN nr k
  | 0 => by simp [jT, prodN]
  | k + 1 => by
    have ih := jT_length_le k
    show ((jT nc name val nr k).flatMap _).length ≤ prodN nr k * nr k
    rw [List.length_flatMap]
    have : ∀ l : List (List Nat), (l.map fun t => ((meets nc name val nr k t).map fun r => t ++ [r]).length).sum ≤ l.length * nr k := by
      intro l
      induction l with
      | nil => simp
      | cons a l ih2 =>
        rw [List.map_cons, List.sum_cons, List.length_cons, Nat.succ_mul]
        have : ((meets nc name val nr k a).map fun r => a ++ [r]).length ≤ nr k := by
          rw [List.length_map]
          unfold meets
          exact Nat.le_trans (List.length_filter_le _ _) (by simp)
        omega
    exact Nat.le_trans (this _) (Nat.mul_le_mul_right _ ih)

/-- What the first m tuples give. -/
def fl (nc nr : Nat → Nat) (name : Nat → Nat → ByteArray) (val : Nat → Nat → Nat → ByteArray) (k m : Nat) : List Nat := ((jT nc name val nr k).take m).flatMap fun t => (meets nc name val nr k t).flatMap fun r => t ++ [r]

theorem fl_zero (k : Nat) : fl nc nr name val k 0 = [] := by simp [fl]
theorem fl_succ {k m : Nat} {t : List Nat} (h : (jT nc name val nr k)[m]? = some t) : fl nc nr name val k (m + 1) = fl nc nr name val k m ++ (meets nc name val nr k t).flatMap fun r => t ++ [r] := by
  have hm := (List.getElem?_eq_some_iff.1 h).1
  have ht := (List.getElem?_eq_some_iff.1 h).2
  unfold fl
  rw [List.take_succ_eq_append_getElem hm, List.flatMap_append, ht]
  simp
theorem fl_all (k : Nat) : fl nc nr name val k (jT nc name val nr k).length = flatJ nc nr name val (k + 1) := by
  unfold fl flatJ
  rw [List.take_length, if_neg (Nat.succ_ne_zero k)]
  show _ = ((jT nc name val nr k).flatMap fun t => (meets nc name val nr k t).map fun r => t ++ [r]).flatten
  generalize jT nc name val nr k = l
  induction l with
  | nil => rfl
  | cons a l ih =>
    rw [List.flatMap_cons, List.flatMap_cons, List.flatten_append, ih]
    rfl

theorem fl_le {k m : Nat} : (fl nc nr name val k m).length ≤ (flatJ nc nr name val (k + 1)).length := by
  rw [← fl_all]
  unfold fl
  rw [List.take_length]
  have : ((jT nc name val nr k).take m).flatMap (fun t => (meets nc name val nr k t).flatMap fun r => t ++ [r]) <+: (jT nc name val nr k).flatMap (fun t => (meets nc name val nr k t).flatMap fun r => t ++ [r]) := by
    conv => rhs; rw [← List.take_append_drop m (jT nc name val nr k), List.flatMap_append]
    exact List.prefix_append _ _
  exact this.length_le

theorem flatJ_bound {K : Nat} {rl : Nat → Nat → Nat} (hD : InDom K nc nr name rl val) {k : Nat} (hk : k < K) : (flatJ nc nr name val (k + 1)).length ≤ 268500992 := by
  unfold flatJ
  rw [if_neg (Nat.succ_ne_zero k), flat_len (fun t ht => (jT_fits (k + 1) t ht).1)]
  have h1 := jT_length_le (nc := nc) (nr := nr) (name := name) (val := val) (k + 1)
  have h2 := (hD.prod k hk).2
  have h3 := hD.kmax
  exact Nat.le_trans (Nat.mul_le_mul (Nat.le_trans h1 h2) (show k + 1 ≤ 4097 by omega)) (by decide)

theorem flatJ_bound' {K : Nat} {rl : Nat → Nat → Nat} (hD : InDom K nc nr name rl val) {k : Nat} (h0 : k ≠ 0) (hk : k < K) : (flatJ nc nr name val k).length ≤ 268500992 := by
  cases k with
  | zero => exact absurd rfl h0
  | succ k1 => exact flatJ_bound hD (by omega)
end

/-- The part of one tuple's yield that has been laid. -/
def part (t zs : List Nat) (x : Nat) : List Nat := (zs.take x).flatMap fun r => t ++ [r]
theorem part_succ {t zs : List Nat} {x r : Nat} (h : zs[x]? = some r) : part t zs (x + 1) = part t zs x ++ t ++ [r] := by
  have hm := (List.getElem?_eq_some_iff.1 h).1
  have ht := (List.getElem?_eq_some_iff.1 h).2
  unfold part
  rw [List.take_succ_eq_append_getElem hm, List.flatMap_append, ht]
  simp
theorem part_le (t zs : List Nat) (x : Nat) : (part t zs x).length ≤ (zs.flatMap fun r => t ++ [r]).length := by
  have : part t zs x <+: zs.flatMap (fun r => t ++ [r]) := by
    unfold part
    conv => rhs; rw [← List.take_append_drop x zs, List.flatMap_append]
    exact List.prefix_append _ _
  exact this.length_le
theorem part_all (t zs : List Nat) : part t zs zs.length = zs.flatMap fun r => t ++ [r] := by
  unfold part
  rw [List.take_length]
theorem intCells_append (a b : List Nat) : intCells (a ++ b) = intCells a ++ intCells b := by simp [intCells]
theorem intCells_length (a : List Nat) : (intCells a).length = a.length := by simp [intCells]
theorem intCells_one (l : List Nat) : ∀ u ∈ intCells l, u.oneCell' = true := by
  intro u hu
  obtain ⟨x, _, rfl⟩ := List.mem_map.1 hu
  rfl
end Go.Proofs.Qxb6602443a
