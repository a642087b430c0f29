/-
  HOW THE TWO ARGUMENTS OF THE JOIN's LAW LIE IN MEMORY: cells, by index.
-/
import Derived.Test.Qxb6602443aKit
namespace Go.Proofs.Qxb6602443a
open Go.RowKit Go.Deep
set_option linter.unusedVariables false

/-- A slice of slices of strings (the sheets' columns; one sheet's rows). -/
structure Grid (B : Nat) (w : World) (ca : Option Addr) (K : Nat) (cA : Nat → Option Addr) (nc cC : Nat → Nat) (name : Nat → Nat → ByteArray) : Prop where
  at1 : ∀ k, k < K → ∃ b o, ca = some ⟨b, o, none⟩ ∧ b < B ∧ w.cell? ⟨b, o + k, none⟩ = some (.slice (cA k) (nc k) (cC k))
  at2 : ∀ k, k < K → ∀ c, c < nc k → ∃ b o, cA k = some ⟨b, o, none⟩ ∧ b < B ∧ w.cell? ⟨b, o + c, none⟩ = some (.string (name k c))
  len1 : ∀ k, k < K → nc k ≤ 9223372036854775807
  len2 : ∀ k, k < K → ∀ c, c < nc k → (name k c).size ≤ 9223372036854775807

/-- A slice of such (the sheets' rows). -/
structure Cube (B : Nat) (w : World) (ra : Option Addr) (K : Nat) (rA : Nat → Option Addr) (nr rC : Nat → Nat) (rrA : Nat → Nat → Option Addr) (rl rrC : Nat → Nat → Nat) (val : Nat → Nat → Nat → ByteArray) : Prop where
  at1 : ∀ k, k < K → ∃ b o, ra = some ⟨b, o, none⟩ ∧ b < B ∧ w.cell? ⟨b, o + k, none⟩ = some (.slice (rA k) (nr k) (rC k))
  at2 : ∀ k, k < K → Grid B w (rA k) (nr k) (rrA k) (rl k) (rrC k) (val k)
  len1 : ∀ k, k < K → nr k ≤ 9223372036854775807

theorem Grid.later {B : Nat} {w w' : World} {ca : Option Addr} {K : Nat} {cA : Nat → Option Addr} {nc cC : Nat → Nat} {name : Nat → Nat → ByteArray} (h : Grid B w ca K cA nc cC name) (hb : Below B w w') : Grid B w' ca K cA nc cC name where
  at1 := fun k hk => by
    obtain ⟨b, o, h1, h2, h3⟩ := h.at1 k hk
    exact ⟨b, o, h1, h2, (hb.cell (p := ⟨b, o + k, none⟩) h2).trans h3⟩
  at2 := fun k hk c hc => by
    obtain ⟨b, o, h1, h2, h3⟩ := h.at2 k hk c hc
    exact ⟨b, o, h1, h2, (hb.cell (p := ⟨b, o + c, none⟩) h2).trans h3⟩
  len1 := h.len1
  len2 := h.len2

theorem Cube.later {B : Nat} {w w' : World} {ra : Option Addr} {K : Nat} {rA : Nat → Option Addr} {nr rC : Nat → Nat} {rrA : Nat → Nat → Option Addr} {rl rrC : Nat → Nat → Nat} {val : Nat → Nat → Nat → ByteArray} (h : Cube B w ra K rA nr rC rrA rl rrC val) (hb : Below B w w') :
    Cube B w' ra K rA nr rC rrA rl rrC val where
  at1 := fun k hk => by
    obtain ⟨b, o, h1, h2, h3⟩ := h.at1 k hk
    exact ⟨b, o, h1, h2, (hb.cell (p := ⟨b, o + k, none⟩) h2).trans h3⟩
  at2 := fun k hk => (h.at2 k hk).later hb
  len1 := h.len1

theorem below_draws {B : Nat} {w : World} (n : Nat) : Below B w (w.drewN n) := below_drewN (Below.refl B w) n
end Go.Proofs.Qxb6602443a
