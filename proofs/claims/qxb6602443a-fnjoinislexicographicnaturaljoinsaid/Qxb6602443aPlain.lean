/-
  THE PLAIN LAWS on the rows of each job: counts, their sums, and the place that each row takes. No Go in sight.
-/
namespace Go.Proofs.Qxb6602443a

def cnt (j : Nat) (l : List Nat) : Nat := l.count j
def cum (j : Nat) (l : List Nat) : Nat := l.countP (· < j)
def rowPos (rs : List Nat) (r : Nat) : Nat := cum (rs.getD r 0) rs + cnt (rs.getD r 0) (rs.take r)

theorem cum_zero (l : List Nat) : cum 0 l = 0 := by simp [cum]

theorem cum_succ (j : Nat) (l : List Nat) : cum (j + 1) l = cum j l + cnt j l := by
  induction l with
  | nil => rfl
  | cons a l ih =>
    unfold cum cnt at ih ⊢
    rw [List.countP_cons, List.countP_cons, List.count_cons, ih]
    by_cases h1 : a < j
    · have h2 : a < j + 1 := by omega
      have h3 : (a == j) = false := by simp; omega
      simp [h1, h2, h3]; omega
    · by_cases h2 : a = j
      · subst h2; simp; omega
      · have h3 : ¬ a < j + 1 := by omega
        have h4 : (a == j) = false := by simpa using h2
        simp [h1, h3, h4]

theorem cum_le (j : Nat) (l : List Nat) : cum j l ≤ l.length := List.countP_le_length

theorem cum_mono {i j : Nat} (h : i ≤ j) (l : List Nat) : cum i l ≤ cum j l := by
  induction j with
  | zero => have : i = 0 := by omega
            subst this; exact Nat.le_refl _
  | succ j ih =>
    by_cases e : i = j + 1
    · subst e; exact Nat.le_refl _
    · have := ih (by omega)
      have := cum_succ j l
      omega

theorem cnt_le (j : Nat) (l : List Nat) : cnt j l ≤ l.length := List.count_le_length

theorem cnt_zero (j : Nat) (l : List Nat) : cnt j (l.take 0) = 0 := by simp [cnt]

theorem cnt_take_succ (j : Nat) (l : List Nat) (k : Nat) (h : k < l.length) : cnt j (l.take (k + 1)) = cnt j (l.take k) + if l.getD k 0 = j then 1 else 0 := by
  unfold cnt
  rw [List.take_succ_eq_append_getElem h, List.count_append]
  have e : l.getD k 0 = l[k] := by simp [h]
  rw [e]
  by_cases hj : l[k] = j
  · simp [hj]
  · simp [hj]

theorem cnt_take_mono (j : Nat) (l : List Nat) {a b : Nat} (h : a ≤ b) : cnt j (l.take a) ≤ cnt j (l.take b) := by
  unfold cnt
  have : (l.take a) = (l.take b).take a := by rw [List.take_take, Nat.min_eq_left h]
  rw [this]
  exact List.Sublist.count_le _ (List.take_sublist _ _)

theorem cnt_take_le (j : Nat) (l : List Nat) (a : Nat) : cnt j (l.take a) ≤ cnt j l := by
  unfold cnt
  exact List.Sublist.count_le _ (List.take_sublist _ _)

theorem cnt_take_lt (l : List Nat) (k : Nat) (h : k < l.length) : cnt (l.getD k 0) (l.take k) < cnt (l.getD k 0) l := by
  have h1 := cnt_take_succ (l.getD k 0) l k h
  have h2 := cnt_take_le (l.getD k 0) l (k + 1)
  simp only [if_true] at h1
  omega

theorem rowPos_lt_cum (rs : List Nat) (r : Nat) (h : r < rs.length) : rowPos rs r < cum (rs.getD r 0 + 1) rs := by
  unfold rowPos
  have := cnt_take_lt rs r h
  have := cum_succ (rs.getD r 0) rs
  omega

theorem rowPos_lt (rs : List Nat) (r : Nat) (h : r < rs.length) : rowPos rs r < rs.length :=
  Nat.lt_of_lt_of_le (rowPos_lt_cum rs r h) (cum_le _ _)

theorem rowPos_ge (rs : List Nat) (r : Nat) : cum (rs.getD r 0) rs ≤ rowPos rs r := by unfold rowPos; omega

theorem rowPos_ne (rs : List Nat) {r k : Nat} (h : r < k) (hk : k < rs.length) : rowPos rs r ≠ rowPos rs k := by
  have a1 := rowPos_lt_cum rs r (by omega)
  have a2 := rowPos_lt_cum rs k hk
  have b1 := rowPos_ge rs r
  have b2 := rowPos_ge rs k
  rcases Nat.lt_trichotomy (rs.getD r 0) (rs.getD k 0) with hlt | heq | hgt
  · have := cum_mono (show rs.getD r 0 + 1 ≤ rs.getD k 0 by omega) rs
    omega
  · unfold rowPos
    rw [heq]
    have h1 := cnt_take_succ (rs.getD r 0) rs r (by omega)
    have h2 := cnt_take_mono (rs.getD r 0) rs (show r + 1 ≤ k by omega)
    simp only [if_true] at h1
    rw [heq] at h1 h2
    omega
  · have := cum_mono (show rs.getD k 0 + 1 ≤ rs.getD r 0 by omega) rs
    omega

theorem cum_all (J : Nat) (l : List Nat) (h : ∀ x ∈ l, x < J) : cum J l = l.length := by
  unfold cum
  rw [List.countP_eq_length]
  simpa using h

end Go.Proofs.Qxb6602443a
