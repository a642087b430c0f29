/-
  THE PLAIN LAWS of this seat: no Go in sight. 'blank': one of the four white-space bytes; 'skip l p': the first place from p on that bears none.
-/
namespace Go.Proofs.Qxb6602270a

def blank (c : Int) : Bool := c == 32 || c == 9 || c == 10 || c == 13
def skip (l : List Int) (p : Nat) : Nat := p + ((l.drop p).takeWhile blank).length

theorem skip_past (l : List Int) (p : Nat) (h : l.length ≤ p) : skip l p = p := by
  unfold skip; rw [List.drop_eq_nil_of_le h]; simp

theorem skip_hit (l : List Int) (p : Nat) (h : p < l.length) (hb : blank (l.getD p 0) = true) : skip l (p + 1) = skip l p := by
  unfold skip
  rw [List.drop_eq_getElem_cons h]
  have e : l.getD p 0 = l[p] := by simp [h]
  rw [e] at hb
  rw [List.takeWhile_cons, if_pos hb]
  simp; omega

theorem skip_miss (l : List Int) (p : Nat) (h : p < l.length) (hb : blank (l.getD p 0) = false) : skip l p = p := by
  unfold skip
  rw [List.drop_eq_getElem_cons h]
  have e : l.getD p 0 = l[p] := by simp [h]
  rw [e] at hb
  rw [List.takeWhile_cons, if_neg (by simp [hb])]
  simp

theorem skip_le (l : List Int) (p : Nat) (h : p ≤ l.length) : skip l p ≤ l.length := by
  unfold skip
  have h1 : ((l.drop p).takeWhile blank).length ≤ (l.drop p).length := (List.takeWhile_sublist _).length_le
  rw [List.length_drop] at h1
  omega

theorem skip_ge (l : List Int) (p : Nat) : p ≤ skip l p := by unfold skip; omega

theorem blank_yes {c : Int} (h : c = 32 ∨ c = 9 ∨ c = 10 ∨ c = 13) : blank c = true := by
  rcases h with h | h | h | h <;> subst h <;> rfl
theorem blank_no {c : Int} (h1 : c ≠ 32) (h2 : c ≠ 9) (h3 : c ≠ 10) (h4 : c ≠ 13) : blank c = false := by
  simp [blank, h1, h2, h3, h4]

/-- The byte that the law tries at step k. -/
def bb (k : Nat) : Int := if k = 0 then 32 else if k = 1 then 9 else if k = 2 then 10 else 13

end Go.Proofs.Qxb6602270a
