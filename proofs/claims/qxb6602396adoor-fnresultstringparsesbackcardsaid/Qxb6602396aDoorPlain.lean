/-
  THE PLAIN LAWS of this seat: the decimal numeral read back. No Go in sight.
-/
import Derived.Lib.ItoaLen
namespace Go.Proofs.Qxb6602396aDoor
open Go.Lib

/-- The number that a list of digits spells. -/
def val (l : List UInt8) : Nat := l.foldl (fun a c => a * 10 + (c.toNat - 48)) 0

theorem val_snoc (l : List UInt8) (c : UInt8) : val (l ++ [c]) = val l * 10 + (c.toNat - 48) := by simp [val]

theorem digit_toNat (i : Nat) (h : i < 10) : (UInt8.ofNat (48 + i)).toNat = 48 + i := by
  rw [UInt8.toNat_ofNat']
  omega

theorem val_decDigits (u : Nat) : val (decDigits u) = u := by
  induction u using Nat.strongRecOn with
  | _ u ih =>
    by_cases h : u < 10
    · rw [decDigits, dif_pos h]
      simp only [val, List.foldl_cons, List.foldl_nil]
      rw [digit_toNat u h]; omega
    · rw [decDigits, dif_neg h, val_snoc, ih (u / 10) (by omega), digit_toNat _ (by omega)]
      omega

theorem digits_decDigits (u : Nat) : ∀ c ∈ decDigits u, 48 ≤ c.toNat ∧ c.toNat ≤ 57 := by
  induction u using Nat.strongRecOn with
  | _ u ih =>
    intro c hc
    by_cases h : u < 10
    · rw [decDigits, dif_pos h] at hc
      simp only [List.mem_singleton] at hc
      rw [hc, digit_toNat u h]; omega
    · rw [decDigits, dif_neg h] at hc
      rcases List.mem_append.1 hc with hc | hc
      · exact ih (u / 10) (by omega) c hc
      · simp only [List.mem_singleton] at hc
        rw [hc, digit_toNat _ (by omega)]; omega

theorem length_decDigits_pos (u : Nat) : 1 ≤ (decDigits u).length := by rw [decDigits_length]; exact nDigits_pos u

/-- The first digit of a number that is not 0 is not '0'. -/
theorem head_decDigits (u : Nat) (hu : 1 ≤ u) : 49 ≤ ((decDigits u).getD 0 0).toNat := by
  induction u using Nat.strongRecOn with
  | _ u ih =>
    by_cases h : u < 10
    · rw [decDigits, dif_pos h]
      simp only [List.getD_cons_zero]
      rw [digit_toNat u h]; omega
    · rw [decDigits, dif_neg h]
      have := ih (u / 10) (by omega) (by omega)
      have hl := length_decDigits_pos (u / 10)
      rw [List.getD_eq_getElem?_getD, List.getElem?_append_left (by omega), ← List.getD_eq_getElem?_getD]
      exact this

theorem foldl_mono (l : List UInt8) (a : Nat) : a ≤ l.foldl (fun a c => a * 10 + (c.toNat - 48)) a := by
  induction l generalizing a with
  | nil => exact Nat.le_refl _
  | cons c l ih => exact Nat.le_trans (by omega) (ih (a * 10 + (c.toNat - 48)))

theorem val_take_le (l : List UInt8) (k : Nat) : val (l.take k) ≤ val l := by
  have e : val l = (l.drop k).foldl (fun a c => a * 10 + (c.toNat - 48)) (val (l.take k)) := by
    unfold val
    rw [← List.foldl_append, List.take_append_drop]
  rw [e]
  exact foldl_mono _ _

theorem val_take_succ (l : List UInt8) (k : Nat) (h : k < l.length) : val (l.take (k + 1)) = val (l.take k) * 10 + ((l.getD k 0).toNat - 48) := by
  rw [List.take_succ_eq_append_getElem h, val_snoc]
  simp [h]

/-- A numeral's first byte is '-' or a digit. -/
theorem head_itoa (n : Int) : ((itoa n).getD 0 0).toNat ≤ 57 := by
  unfold itoa
  split
  · simp
  · have hl := length_decDigits_pos n.toNat
    have := digits_decDigits n.toNat ((decDigits n.toNat).getD 0 0) (by
      rw [List.getD_eq_getElem?_getD, List.getElem?_eq_getElem (by omega)]
      exact List.getElem_mem _)
    exact this.2

def noneL : List UInt8 := [110, 111, 110, 101]

theorem itoa_ne_none (n : Int) : itoa n ≠ noneL := by
  intro h
  have := head_itoa n
  rw [h] at this
  exact absurd this (by decide)

/-- What a text spells. -/
def spells (l : List UInt8) : Int := if l.getD 0 0 = 45 then -(val l.tail : Int) else val l

theorem spells_itoa (n : Int) : spells (itoa n) = n := by
  unfold itoa
  split
  · rw [spells, if_pos (by simp), List.tail_cons, val_decDigits]
    omega
  · have hl := length_decDigits_pos n.toNat
    have := digits_decDigits n.toNat ((decDigits n.toNat).getD 0 0) (by
      rw [List.getD_eq_getElem?_getD, List.getElem?_eq_getElem (by omega)]
      exact List.getElem_mem _)
    rw [spells, if_neg (by intro h; rw [h] at this; exact absurd this.1 (by decide)), val_decDigits]
    omega

theorem itoa_inj {a b : Int} (h : itoa a = itoa b) : a = b := by rw [← spells_itoa a, h, spells_itoa b]

/-- The text of a result. -/
def txtL (v : Int) (f : Bool) : List UInt8 := if f then itoa v else noneL

theorem txtL_same (v1 : Int) (f1 : Bool) (v2 : Int) (f2 : Bool) : (txtL v1 f1 = txtL v2 f2) ↔ (f1 = f2 ∧ (f1 = false ∨ v1 = v2)) := by
  cases f1 <;> cases f2
  · simp [txtL]
  · simp only [txtL, Bool.false_eq_true, if_false, if_true, false_and, iff_false]
    exact fun h => itoa_ne_none v2 h.symm
  · simp only [txtL, Bool.false_eq_true, if_false, if_true]
    constructor
    · exact fun h => absurd h (itoa_ne_none v1)
    · intro h; cases h.1
  · simp only [txtL, if_true, true_and, Bool.true_eq_false, false_or]
    exact ⟨itoa_inj, fun h => by rw [h]⟩
end Go.Proofs.Qxb6602396aDoor
