/-
  MORE LEMMAS for the walk over 'join'.
-/
import Derived.Test.Qxb6602443aJGroup
namespace Go.Proofs.Qxb6602443a
open Go.RowKit Go.Deep Go.Maps
set_option linter.unusedVariables false

theorem S3.reset {w : World} {B0 Bk M0 m : Nat} {vP : Value} {flat : List Nat} {wr : World} {st ll : List Ent} {rr : List Nat} {vN vO vL vR : Value} (h : S3 w B0 Bk M0 m vP flat wr st ll rr vN vO vL vR) :
    S3 w B0 wr.heap.size M0 m vP flat wr st [] [] vN vO (.slice none 0 0) (.slice none 0 0) where
  names := h.names
  orig := h.orig
  left := World.ownsRow_nil _ _ _ _
  right := World.ownsRow_nil _ _ _ _
  picks := h.picks
  pb := own_lt h.picks
  map := h.map
  hM := h.hM
  ap := by
    cases hg : vO.ownBlock with
    | none => exact .inl hg
    | some g => right; rw [hg]; simp [Value.ownBlock]
  bk := Nat.le_trans h.bk h.sz
  sz := Nat.le_refl _
  bel := h.bel

/-- The same with other picks. -/
theorem S3.repick {w : World} {B0 Bk M0 m : Nat} {vP vX : Value} {flat flat' : List Nat} {wr : World} {st ll : List Ent} {rr : List Nat} {vN vO vL vR : Value} (h : S3 w B0 Bk M0 m vP flat wr st ll rr vN vO vL vR) (ho : wr.ownsRow B0 3 1 vX flat'.length (intCells flat')) :
    S3 w B0 wr.heap.size M0 m vX flat' wr st [] [] vN vO (.slice none 0 0) (.slice none 0 0) where
  names := h.names
  orig := h.orig
  left := World.ownsRow_nil _ _ _ _
  right := World.ownsRow_nil _ _ _ _
  picks := ho
  pb := own_lt ho
  map := h.map
  hM := h.hM
  ap := h.reset.ap
  bk := Nat.le_trans h.bk h.sz
  sz := Nat.le_refl _
  bel := h.bel

/-- What is owned, as a slice written out. -/
theorem own_form {w : World} {B : Nat} {e : TypeId} {sz : Nat} {v : Value} {n : Nat} {xs : List Value} (h : w.ownsRow B e sz v n xs) :
    ∃ Y qc, v = .slice Y n qc ∧ n ≤ qc ∧ (n = 0 ∨ ∃ g, Y = some ⟨g, 0, none⟩ ∧ g < w.heap.size ∧ ∀ i u, xs[i]? = some u → w.cell? ⟨g, i, none⟩ = some u) := by
  have h0 := h
  obtain ⟨h1, h2⟩ := h
  rcases h2 with ⟨rfl, rfl⟩ | ⟨g, cap, cur, rfl, hB, hh, hn, hcap, hsz, htake⟩
  · exact ⟨none, 0, rfl, Nat.le_refl _, .inl rfl⟩
  · refine ⟨_, _, rfl, hn, .inr ⟨g, rfl, (Array.getElem?_eq_some_iff.1 hh).1, fun i u hu => ?_⟩⟩
    have hi : i < n * sz := by
      have := (List.getElem?_eq_some_iff.1 hu).1
      omega
    rw [← htake, List.getElem?_take_of_lt hi] at hu
    simp [World.cell?, hh]
    simpa using hu

theorem rowB_of {w : World} {Y : Option Addr} {n : Nat} {l : List Nat} (hl : l.length = n) (h : n = 0 ∨ ∃ g, Y = some ⟨g, 0, none⟩ ∧ g < w.heap.size ∧ ∀ i u, (intCells l)[i]? = some u → w.cell? ⟨g, i, none⟩ = some u) :
    RowB w.heap.size w Y n (fun i => .int .i64 ((l.getD i 0 : Nat) : Int)) := fun i hi => by
  rcases h with h | ⟨g, rfl, hg, hc⟩
  · omega
  · refine ⟨g, 0, rfl, hg, ?_⟩
    have hil : i < l.length := by omega
    have := hc i (.int .i64 ((l.getD i 0 : Nat) : Int)) (by simp [intCells, hil])
    rw [Nat.zero_add]
    exact this

theorem keyB_size (xs : List ByteArray) (hn : xs.length ≤ 65536) (h : ∀ x ∈ xs, x.size ≤ 1048576) : (keyB xs).size ≤ 9223372036854775807 := by
  have := join_len xs hn h
  have e : (keyB xs).size = (Lib.join (xs.map (·.data.toList)) [0]).length := by simp [keyB, ByteArray.size]
  omega

theorem comb_row {N n c : Nat} {xs : List ByteArray} {w : World} (hl : xs.length = n) (hc : n ≤ c) (hn : n ≤ 65536) (hs : ∀ x ∈ xs, x.size ≤ 1048576) (hr : w.rowIs N 9 n (fun i => .string (xs.getD i ByteArray.empty))) :
    Calls Try.prog 20 #[.slice (some ⟨N, 0, none⟩) n c] w fun e w' => e = .returned (.string (keyB xs)) ∧ Below w.heap.size w w' := by
  subst hl
  refine comb_any N c xs w hr.lt hc hn hs (fun j x hx => ?_)
  have hj := (List.getElem?_eq_some_iff.1 hx).1
  have := hr.cell hj
  rw [Nat.zero_add, this]
  have e : xs.getD j ByteArray.empty = x := by rw [List.getD_eq_getElem?_getD, hx]; rfl
  rw [e]

theorem G4.store {wA wr w3 : World} {M1 R : Nat} {key : Nat → ByteArray} {f : ByteArray → Option Value} (h : G4 wA M1 R key wr f) {v' : Value} (hg : wr.grownBy w3 ((f (key R)).getD (.slice none 0 0)).ownBlock)
    (ho : w3.ownsRow (M1 + 1) 3 1 v' ((rowsOf key (key R) R).length + 1) (intCells (rowsOf key (key R) R) ++ [.int .i64 ((R : Nat) : Int)]))
    (hloc : v'.ownBlock = ((f (key R)).getD (.slice none 0 0)).ownBlock ∨ v'.ownBlock = some wr.heap.size) (hR : R < maxLen) (hs : (key R).size ≤ maxLen) :
    ∃ w4, (Instr.mapUpdate 48 (.map (some M1)) (.string (key R)) v').run Try.prog w3 = .ok () w4 ∧ G4 wA M1 (R + 1) key w4 (upd f (key R) v') := by
  obtain ⟨es, cl, hb0⟩ := h.map.block
  have m3 := h.map.kept hg (map_apart (h.at (key R)) hb0)
  obtain ⟨w4, hrun, hm4, hg4⟩ := m3.store Try.underlying48 hR (key R) hs v'
  exact ⟨w4, hrun, h.step hg ho hloc hg4 hm4⟩
end Go.Proofs.Qxb6602443a
