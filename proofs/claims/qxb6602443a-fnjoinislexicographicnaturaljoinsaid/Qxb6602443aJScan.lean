/-
  THE PLAIN SCAN of the sheets' columns: the distinct names in the order of their first appearance, each with its sheet and column. No Go in sight.
-/
namespace Go.Proofs.Qxb6602443a

abbrev Ent := ByteArray × Nat × Nat
def noEnt : Ent := (ByteArray.empty, 0, 0)
def hasName (st : List Ent) (s : ByteArray) : Bool := st.any fun e => e.1.toList == s.toList
def stStep (name : Nat → Nat → ByteArray) (k : Nat) (st : List Ent) (c : Nat) : List Ent := if hasName st (name k c) then st else st ++ [(name k c, k, c)]
/-- Behind the first c columns of sheet k. -/
def stC (name : Nat → Nat → ByteArray) (k : Nat) (st0 : List Ent) : Nat → List Ent
  | 0 => st0
  | c + 1 => stStep name k (stC name k st0 c) c
/-- Ahead of sheet k. -/
def stS (nc : Nat → Nat) (name : Nat → Nat → ByteArray) : Nat → List Ent
  | 0 => []
  | k + 1 => stC name k (stS nc name k) (nc k)

theorem stStep_prefix (name : Nat → Nat → ByteArray) (k : Nat) (st : List Ent) (c : Nat) : st <+: stStep name k st c := by
  unfold stStep
  split
  · exact List.prefix_refl _
  · exact List.prefix_append _ _

theorem stC_prefix (name : Nat → Nat → ByteArray) (k : Nat) (st0 : List Ent) {c c' : Nat} (h : c ≤ c') : stC name k st0 c <+: stC name k st0 c' := by
  induction c' with
  | zero => have : c = 0 := by omega
            subst this; exact List.prefix_refl _
  | succ n ih =>
    by_cases e : c = n + 1
    · subst e; exact List.prefix_refl _
    · exact (ih (by omega)).trans (stStep_prefix name k _ n)

theorem stS_prefix (nc : Nat → Nat) (name : Nat → Nat → ByteArray) {k k' : Nat} (h : k ≤ k') : stS nc name k <+: stS nc name k' := by
  induction k' with
  | zero => have : k = 0 := by omega
            subst this; exact List.prefix_refl _
  | succ n ih =>
    by_cases e : k = n + 1
    · subst e; exact List.prefix_refl _
    · exact (ih (by omega)).trans (stC_prefix name n (stS nc name n) (Nat.zero_le (nc n)))

theorem stAt_prefix (nc : Nat → Nat) (name : Nat → Nat → ByteArray) {k c K : Nat} (hk : k < K) (hc : c ≤ nc k) : stC name k (stS nc name k) c <+: stS nc name K :=
  (stC_prefix name k _ hc).trans (stS_prefix nc name (show k + 1 ≤ K by omega))

theorem prefix_getD {α : Type} {l l' : List α} (h : l <+: l') (d : α) {i : Nat} (hi : i < l.length) : l'.getD i d = l.getD i d := by
  obtain ⟨t, rfl⟩ := h
  rw [List.getD_eq_getElem?_getD, List.getD_eq_getElem?_getD, List.getElem?_append_left hi]

theorem hasName_iff (st : List Ent) (s : ByteArray) : hasName st s = true ↔ ∃ i, i < st.length ∧ ((st.getD i noEnt).1.toList == s.toList) = true := by
  unfold hasName
  rw [List.any_eq_true]
  constructor
  · rintro ⟨e, he, h⟩
    obtain ⟨i, hi, rfl⟩ := List.getElem_of_mem he
    exact ⟨i, hi, by simpa [hi] using h⟩
  · rintro ⟨i, hi, h⟩
    exact ⟨st[i], List.getElem_mem hi, by simpa [hi] using h⟩

theorem hasName_no {st : List Ent} {s : ByteArray} (h : ∀ i, i < st.length → ((st.getD i noEnt).1.toList == s.toList) = false) : hasName st s = false := by
  cases hh : hasName st s with
  | false => rfl
  | true =>
    obtain ⟨i, hi, h1⟩ := (hasName_iff st s).1 hh
    rw [h i hi] at h1
    cases h1

theorem stStep_seen {name : Nat → Nat → ByteArray} {k c : Nat} {st : List Ent} (h : hasName st (name k c) = true) : stStep name k st c = st := by unfold stStep; rw [if_pos h]
theorem stStep_new {name : Nat → Nat → ByteArray} {k c : Nat} {st : List Ent} (h : hasName st (name k c) = false) : stStep name k st c = st ++ [(name k c, k, c)] := by unfold stStep; rw [h]; rfl

theorem stC_length_le (name : Nat → Nat → ByteArray) (k : Nat) (st0 : List Ent) (c : Nat) : (stC name k st0 c).length ≤ st0.length + c := by
  induction c with
  | zero => exact Nat.le_refl _
  | succ n ih =>
    show (stStep name k (stC name k st0 n) n).length ≤ _
    unfold stStep
    split
    · omega
    · simp; omega

theorem stS_length_le (nc : Nat → Nat) (name : Nat → Nat → ByteArray) (m : Nat) (K : Nat) (h : ∀ k, k < K → nc k ≤ m) : (stS nc name K).length ≤ K * m := by
  induction K with
  | zero => simp [stS]
  | succ n ih =>
    have h1 := ih (fun k hk => h k (by omega))
    have h2 := stC_length_le name n (stS nc name n) (nc n)
    have h3 := h n (by omega)
    show (stC name n (stS nc name n) (nc n)).length ≤ _
    rw [Nat.succ_mul]
    omega

end Go.Proofs.Qxb6602443a
