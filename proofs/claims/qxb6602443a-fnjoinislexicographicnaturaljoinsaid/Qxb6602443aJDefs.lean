/-
  WHAT THE JOIN's DOMAIN TEST ASKS, in plain words; small laws.
-/
import Derived.Test.Qxb6602443aJKit
namespace Go.Proofs.Qxb6602443a
open Go.RowKit Go.Deep
set_option linter.unusedVariables false

/-- The product of the first k row counts. -/
def prodN (nr : Nat → Nat) : Nat → Nat
  | 0 => 1
  | k + 1 => prodN nr k * nr k

def NoNul (s : ByteArray) : Prop := ∀ i (h : i < s.size), (s[i].toNat : Int) ≠ 0

/-- WHAT 'joinInDomain' ASKS. -/
structure InDom (K : Nat) (nc nr : Nat → Nat) (name : Nat → Nat → ByteArray) (rl : Nat → Nat → Nat) (val : Nat → Nat → Nat → ByteArray) : Prop where
  one : 1 ≤ K
  kmax : K ≤ 4096
  ncb : ∀ k, k < K → nc k ≤ 65536 ∧ ∀ c, c < nc k → (name k c).size ≤ 1048576
  nrb : ∀ k, k < K → nr k ≤ 65536 ∧ ∀ r, r < nr k → rl k r ≤ 65536 ∧ ∀ c, c < rl k r → (val k r c).size ≤ 1048576
  prod : ∀ k, k < K → prodN nr (k + 1) * K ≤ 1048576 ∧ prodN nr (k + 1) ≤ 65536
  dist : ∀ k, k < K → ∀ c, c < nc k → ∀ d, d < c → name k d ≠ name k c
  wide : ∀ k, k < K → ∀ r, r < nr k → nc k ≤ rl k r ∧ ∀ c, c < nc k → NoNul (val k r c)

theorem all_succ {P : Nat → Prop} {n : Nat} (h : ∀ i, i < n → P i) (hn : P n) : ∀ i, i < n + 1 → P i := fun i hi => by
  by_cases e : i = n
  · rw [e]; exact hn
  · exact h i (by omega)

theorem toList_ne {a b : ByteArray} (h : ¬ a.toList = b.toList) : a ≠ b := fun e => h (by rw [e])

theorem beq_no {a b : Nat} (h : a ≠ b) : ((a : Int) == (b : Int)) = false := by
  have : (a : Int) ≠ (b : Int) := by omega
  simpa using this
theorem bne_yes {a b : Nat} (h : a ≠ b) : ((a : Int) != (b : Int)) = true := by
  rw [bne, beq_no h]; rfl
theorem beq_zero_no {a : Nat} (h : a ≠ 0) : ((a : Int) == 0) = false := beq_no h
theorem div_bound {P n M : Nat} (hq : ¬ (65536 : Int) / (n : Int) < (P : Int)) (hM : M = P * n) : M ≤ 65536 := by
  have e : ((65536 / n : Nat) : Int) = (65536 : Int) / (n : Int) := by rw [Int.natCast_ediv]; rfl
  have h1 : (P : Int) ≤ ((65536 / n : Nat) : Int) := by
    rw [e]
    exact Int.not_lt.1 hq
  have h2 : P ≤ 65536 / n := Int.ofNat_le.1 h1
  rw [hM]
  exact Nat.le_trans (Nat.mul_le_mul_right n h2) (Nat.div_mul_le_self 65536 n)

theorem big_no {a : Nat} (h : a ≤ 4096) : decide ((4096 : Int) < (a : Int)) = false := decide_eq_false (by omega)

/-- Two cells of one name hold one value. -/
def Meet (name : Nat → Nat → ByteArray) (val : Nat → Nat → Nat → ByteArray) (tt : Nat → Nat) (k c k2 c2 : Nat) : Prop := name k c = name k2 c2 → val k (tt k) c = val k2 (tt k2) c2
/-- The tuple agrees on every column name that two sheets share. -/
def Cons (K : Nat) (nc : Nat → Nat) (name : Nat → Nat → ByteArray) (val : Nat → Nat → Nat → ByteArray) (tt : Nat → Nat) : Prop :=
  ∀ k, k < K → ∀ c, c < nc k → ∀ k2, k2 < k → ∀ c2, c2 < nc k2 → Meet name val tt k c k2 c2

theorem beq_str {a b : ByteArray} (h : a = b) : (a.toList == b.toList) = true := by rw [h]; simp
theorem beq_str_no {a b : ByteArray} (h : a ≠ b) : (a.toList == b.toList) = false := by
  simp only [beq_eq_false_iff_ne, ne_eq]
  intro e
  apply h
  rw [ByteArray.toList_eq, ByteArray.toList_eq] at e
  cases a; cases b
  simp only at e
  rw [Array.toList_inj] at e
  rw [e]

/-- One address, told twice. -/
theorem same_addr {x : Option Addr} {b o b2 o2 : Nat} (h : x = some ⟨b, o, none⟩) (h2 : x = some ⟨b2, o2, none⟩) : b2 = b ∧ o2 = o := by
  rw [h] at h2
  cases h2
  exact ⟨rfl, rfl⟩

end Go.Proofs.Qxb6602443a
