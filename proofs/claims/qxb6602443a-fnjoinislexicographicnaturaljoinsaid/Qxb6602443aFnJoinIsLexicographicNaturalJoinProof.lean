/-
  The proof of 'Rows.FnJoinIsLexicographicNaturalJoinSaid': the two nested slices opened cell by cell (Grid, Cube), the law's walk (JEnd), and the row's step.
-/
import Derived.Test.Qxb6602443aRows
import Derived.WalkKit
import Derived.ProofKit
import Derived.OpenShut
import Derived.ShutString
import Derived.ChangeOld
import Derived.Below
import Derived.Deep.Slices
import Derived.Deep.Strs
import Derived.Test.Qxb6602443aJEnd
namespace Go.Proofs.Qxb6602443a.fnJoinIsLexicographicNaturalJoin
open Go.ChangeShapes Go.WideShapes Go.ChangeAt Go.RowKit Go.Deep
open Go.ChangeMaps (open_string shut_string)
set_option linter.unusedVariables false

theorem own : ownKnob Try.prog.godebug = none := by kernel_rfl
theorem laidOut : laidOutB Try.prog = true := by kernel_rfl

theorem one9 : Try.prog.cellsOf 9 = 1 := by kernel_rfl
theorem one30 : Try.prog.cellsOf 30 = 1 := by kernel_rfl
theorem one27 : Try.prog.cellsOf 27 = 1 := by kernel_rfl

/-- A cell that is read at an address lies at a plain address, in a block of the heap. -/
theorem plain_at {w : World} {x : Addr} {k : Nat} {v v0 : Value} (h0 : w.cell? (x.add 0) = some v0) (h : w.cell? (x.add k) = some v) : ∃ b o, x = ⟨b, o, none⟩ ∧ b < w.heap.size ∧ w.cell? ⟨b, o + k, none⟩ = some v := by
  obtain ⟨b, o, spot⟩ := x
  have hspot : spot = none := by simpa [Addr.add] using World.cell?_spot h0
  subst hspot
  rw [at_add] at h
  exact ⟨b, o, rfl, World.block_lt_of_cell? w _ h, h⟩

/-- One slice of strings, as it came in. -/
theorem strs_of {H : Type} {enc : TypeId × Value → H} {w : World} {base : Nat} {spare : Nat → Bool} {held : Bool} {fuel : Nat} {a : Option Addr} {n c : Nat} {x : DataW H × List MemPlace}
    (h : DataW.trod enc Try.prog w base spare held fuel 30 [.slice a n c] = some x) :
    n ≤ 9223372036854775807 ∧ ∃ S : Nat → ByteArray, ∀ k, k < n → (∃ b o, a = some ⟨b, o, none⟩ ∧ b < w.heap.size ∧ w.cell? ⟨b, o + k, none⟩ = some (.string (S k))) ∧ (S k).size ≤ 9223372036854775807 := by
  rcases open_strs Try.underlying30 Try.underlying9 one9 h with ⟨hcs, _⟩ | ⟨y, l, cp, m, S, hcs, _, hl, hm, hmm, _, hcell⟩
  · simp at hcs
    obtain ⟨rfl, rfl, rfl⟩ := hcs
    exact ⟨by omega, fun _ => ⟨#[]⟩, fun k hk => absurd hk (Nat.not_lt_zero _)⟩
  · simp at hcs
    obtain ⟨rfl, rfl, rfl⟩ := hcs
    have hlm : n ≤ m := by rw [hmm]; split <;> omega
    unfold maxLen at hm hcell
    refine ⟨by omega, S, fun k hk => ?_⟩
    obtain ⟨h1, h2⟩ := hcell k (by omega)
    obtain ⟨b, o, rfl, h3, h4⟩ := plain_at (hcell 0 (by omega)).1 h1
    exact ⟨⟨b, o, rfl, h3, h4⟩, h2⟩

/-- A read slice is a slice. -/
theorem slice_of {H : Type} {enc : TypeId × Value → H} {w : World} {base : Nat} {spare : Nat → Bool} {held : Bool} {fuel : Nat} {t e : TypeId} {v : Value} {x : DataW H × List MemPlace} (ht : Try.prog.underlying t = some (.slice e)) (hc : Try.prog.cellsOf e = 1)
    (h : DataW.trod enc Try.prog w base spare held fuel t [v] = some x) : ∃ a n c, v = .slice a n c := by
  rcases open_slice1 ht hc h with ⟨hcs, _⟩ | ⟨y, l, cp, m, n, V, D, Pl, hcs, _⟩
  · simp at hcs
    exact ⟨_, _, _, hcs⟩
  · simp at hcs
    exact ⟨_, _, _, hcs⟩

structure OneSlice where
  ad : Option Addr
  n : Nat
  c : Nat
  S : Nat → ByteArray

/-- A slice of slices of strings, as it came in. -/
theorem grid_of {H : Type} {enc : TypeId × Value → H} {w : World} {base : Nat} {spare : Nat → Bool} {held : Bool} {fuel : Nat} {a : Option Addr} {n c : Nat} {x : DataW H × List MemPlace}
    (h : DataW.trod enc Try.prog w base spare held fuel 27 [.slice a n c] = some x) :
    n ≤ 9223372036854775807 ∧ ∃ (cA : Nat → Option Addr) (nc cC : Nat → Nat) (name : Nat → Nat → ByteArray), Grid w.heap.size w a n cA nc cC name := by
  rcases open_slice1 Try.underlying27 one30 h with ⟨hcs, _⟩ | ⟨y, l, cp, m, fu, V, D, Pl, hcs, _, hl, hm, hmm, _, hcell⟩
  · simp at hcs
    obtain ⟨rfl, rfl, rfl⟩ := hcs
    exact ⟨by omega, fun _ => none, fun _ => 0, fun _ => 0, fun _ _ => ⟨#[]⟩, fun k hk => absurd hk (Nat.not_lt_zero _), fun k hk => absurd hk (Nat.not_lt_zero _), fun k hk => absurd hk (Nat.not_lt_zero _), fun k hk => absurd hk (Nat.not_lt_zero _)⟩
  · simp at hcs
    obtain ⟨rfl, rfl, rfl⟩ := hcs
    have hlm : n ≤ m := by rw [hmm]; split <;> omega
    unfold maxLen at hm
    refine ⟨by omega, ?_⟩
    have inh : Inhabited OneSlice := ⟨⟨none, 0, 0, fun _ => ⟨#[]⟩⟩⟩
    obtain ⟨F, hF⟩ := choose_lt (α := OneSlice) (n := n) (p := fun k (s : OneSlice) => w.cell? (y.add k) = some (.slice s.ad s.n s.c) ∧ s.n ≤ 9223372036854775807 ∧ ∀ j, j < s.n → (∃ b o, s.ad = some ⟨b, o, none⟩ ∧ b < w.heap.size ∧ w.cell? ⟨b, o + j, none⟩ = some (.string (s.S j))) ∧ (s.S j).size ≤ 9223372036854775807) (fun k hk => by
      obtain ⟨h1, h2⟩ := hcell k (by omega)
      obtain ⟨a', n', c', hv⟩ := slice_of Try.underlying30 one9 h2
      rw [hv] at h1 h2
      obtain ⟨h3, S, h4⟩ := strs_of h2
      exact ⟨⟨a', n', c', S⟩, h1, h3, h4⟩)
    refine ⟨fun k => (F k).ad, fun k => (F k).n, fun k => (F k).c, fun k => (F k).S, fun k hk => ?_, fun k hk j hj => ((hF k hk).2.2 j hj).1, fun k hk => (hF k hk).2.1, fun k hk j hj => ((hF k hk).2.2 j hj).2⟩
    obtain ⟨b, o, rfl, h3, h4⟩ := plain_at (hF 0 (by omega)).1 (hF k hk).1
    exact ⟨b, o, rfl, h3, h4⟩

structure OneGrid where
  ad : Option Addr
  n : Nat
  c : Nat
  cA : Nat → Option Addr
  nc : Nat → Nat
  cC : Nat → Nat
  name : Nat → Nat → ByteArray

/-- A slice of such, as it came in. -/
theorem cube_of {H : Type} {enc : TypeId × Value → H} {w : World} {base : Nat} {spare : Nat → Bool} {held : Bool} {fuel : Nat} {a : Option Addr} {n c : Nat} {x : DataW H × List MemPlace}
    (h : DataW.trod enc Try.prog w base spare held fuel 28 [.slice a n c] = some x) :
    n ≤ 9223372036854775807 ∧ ∃ (rA : Nat → Option Addr) (nr rC : Nat → Nat) (rrA : Nat → Nat → Option Addr) (rl rrC : Nat → Nat → Nat) (val : Nat → Nat → Nat → ByteArray), Cube w.heap.size w a n rA nr rC rrA rl rrC val := by
  rcases open_slice1 Try.underlying28 one27 h with ⟨hcs, _⟩ | ⟨y, l, cp, m, fu, V, D, Pl, hcs, _, hl, hm, hmm, _, hcell⟩
  · simp at hcs
    obtain ⟨rfl, rfl, rfl⟩ := hcs
    exact ⟨by omega, fun _ => none, fun _ => 0, fun _ => 0, fun _ _ => none, fun _ _ => 0, fun _ _ => 0, fun _ _ _ => ⟨#[]⟩, fun k hk => absurd hk (Nat.not_lt_zero _), fun k hk => absurd hk (Nat.not_lt_zero _), fun k hk => absurd hk (Nat.not_lt_zero _)⟩
  · simp at hcs
    obtain ⟨rfl, rfl, rfl⟩ := hcs
    have hlm : n ≤ m := by rw [hmm]; split <;> omega
    unfold maxLen at hm
    refine ⟨by omega, ?_⟩
    have inh : Inhabited OneGrid := ⟨⟨none, 0, 0, fun _ => none, fun _ => 0, fun _ => 0, fun _ _ => ⟨#[]⟩⟩⟩
    obtain ⟨F, hF⟩ := choose_lt (α := OneGrid) (n := n) (p := fun k (s : OneGrid) => w.cell? (y.add k) = some (.slice s.ad s.n s.c) ∧ s.n ≤ 9223372036854775807 ∧ Grid w.heap.size w s.ad s.n s.cA s.nc s.cC s.name) (fun k hk => by
      obtain ⟨h1, h2⟩ := hcell k (by omega)
      obtain ⟨a', n', c', hv⟩ := slice_of Try.underlying27 one30 h2
      rw [hv] at h1 h2
      obtain ⟨h3, cA, nc, cC, name, h4⟩ := grid_of h2
      exact ⟨⟨a', n', c', cA, nc, cC, name⟩, h1, h3, h4⟩)
    refine ⟨fun k => (F k).ad, fun k => (F k).n, fun k => (F k).c, fun k => (F k).cA, fun k => (F k).nc, fun k => (F k).cC, fun k => (F k).name, fun k hk => ?_, fun k hk => (hF k hk).2.2, fun k hk => (hF k hk).2.1⟩
    obtain ⟨b, o, rfl, h3, h4⟩ := plain_at (hF 0 (by omega)).1 (hF k hk).1
    exact ⟨b, o, rfl, h3, h4⟩

/-! ### THE ROW's STEP -/
set_option maxRecDepth 100000 in
theorem lifted (os : Os) (started : os.Started) (H : Type) (enc : TypeId × Value → H) :
    ReturnsInHanded {} Try.checked os 5 .any (Rows.fnJoinIsLexicographicNaturalJoinSpec.pre6 enc Try.prog Try.f5 Rows.fnJoinIsLexicographicNaturalJoinRow.domain false) (Rows.fnJoinIsLexicographicNaturalJoinSpec.post enc Try.prog Try.f5 false true false false) := by
  refine returnsInHanded_of_change (C := Try.checked) own started (by kernel_rfl) Try.func5
    (ChangeSpec.witness6 (enc := enc) (C := Try.checked) false ⟨#[], #[.slice none 0 0, .slice none 0 0], []⟩ 8 (by kernel_rfl) (by kernel_rfl) (by kernel_rfl) (by kernel_rfl)) ?_
  intro W base args ds gs before hval0 hW hcnd _
  have hval : ∀ (j : Nat) t v, Try.f5.params[j]? = some t → args[j]? = some v → Value.okWide Try.prog W .any base t v := hval0
  have hW' := hW
  obtain ⟨p, q, hA0, hV, rfl, hfz, hnd⟩ := hW
  have hA : DataW.TrodAll enc Try.prog W 0 (fun _ => true) true Try.f5.params.toList args.toList ds p := hA0
  rw [Try.params5] at hA hval
  obtain ⟨v0, vs0, d0, ds0, p0, q0, hargs, rfl, rfl, h0, r0⟩ := trodAll_cons hA
  obtain ⟨v1, vs1, d1, ds1, p1, q1, rfl, rfl, rfl, h1, r1⟩ := trodAll_cons r0
  obtain ⟨rfl, rfl, rfl⟩ := trodAll_nil r1
  obtain rfl : args = #[v0, v1] := by cases args; simp_all
  obtain ⟨rfl, rfl⟩ := trodVars_none hV
  obtain ⟨a0, len0, cap0, rfl⟩ := okWide_slice Try.underlying27 (hval 0 27 v0 rfl rfl)
  obtain ⟨a1, len1, cap1, rfl⟩ := okWide_slice Try.underlying28 (hval 1 28 v1 rfl rfl)
  have k0 := h0
  have k1 := h1
  have lt0 : ∀ x ∈ p0, x.block < W.heap.size := by obtain ⟨m, hm⟩ := k0; exact DataW.trod_lt m _ _ _ hm
  have lt1 : ∀ x ∈ p1, x.block < W.heap.size := by obtain ⟨m, hm⟩ := k1; exact DataW.trod_lt m _ _ _ hm
  obtain ⟨fuel0, hf0⟩ := h0
  obtain ⟨fuel1, hf1⟩ := h1
  have hf0' := hf0
  have hf1' := hf1
  simp only [Value.cells] at hf0' hf1'
  obtain ⟨hK, cA, nc, cC, name, hG⟩ := grid_of hf0'
  obtain ⟨hK2, rA, nr, rC, rrA, rl, rrC, val, hC⟩ := cube_of hf1'
  clear hA0 hval0
  refine (law_any W a0 a1 len0 len1 cap0 cap1 cA rA nc cC nr rC name rrA rl rrC val hK hK2 hG hC).mono fun e W' ⟨he, bel⟩ => ?_
  subst he
  exact ⟨_, rfl, _, _, _, [], _, [], hW', trodAll_mk1 (shut_bool Try.underlying4 _), (trodAll_cons_mk (Below.trod laidOut (by kernel_rfl) (of_decide_eq_true (by kernel_rfl)) k0 bel lt0) (trodAll_cons_mk (Below.trod laidOut (by kernel_rfl) (of_decide_eq_true (by kernel_rfl)) k1 bel lt1) trodAll_mk0)), rfl, bel.frame _, fun h => by cases h⟩

theorem over : Rows.fnJoinIsLexicographicNaturalJoinRow.holds Try.pinned (OpenSpec.ofChange Rows.fnJoinIsLexicographicNaturalJoinSpec) :=
  OpenClaim.holds_of_wide 5 Try.f5 rfl rfl rfl rfl rfl rfl rfl ⟨rfl, rfl, rfl, rfl, rfl⟩ rfl rfl rfl rfl rfl (by kernel_rfl) Try.func5 (by kernel_rfl)
    (of_decide_eq_true (by kernel_rfl)) (by unfold Func.isWrapper; first | (rw [if_pos (by decide +kernel)]; kernel_rfl) | (rw [if_neg (by decide +kernel)]; exact ⟨rfl, rfl⟩))
    (fun os started H enc _ => lifted os started H enc)

/-- ████ THE STATEMENT ████ -/
theorem proved : Rows.FnJoinIsLexicographicNaturalJoinSaid := over
#print axioms proved
end Go.Proofs.Qxb6602443a.fnJoinIsLexicographicNaturalJoin
