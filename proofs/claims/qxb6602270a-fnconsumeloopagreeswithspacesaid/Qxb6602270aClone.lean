/-
  THE WALK over the clone of a byte slice.
-/
import Derived.Test.Qxb6602270aSpace
import Derived.Lib.SliceRun
namespace Go.Proofs.Qxb6602270a
open Go.RowKit Go.Deep Go.ChangeShapes Go.WideShapes Go.ChangeAt
set_option linter.unusedVariables false

theorem Try.info5 : (Try.prog.info? 5).map (fun i => (i.zero, i.size, i.bytes)) = some (some (.int .u8 0), 1, 1) := by kernel_rfl

theorem clone_step {wr : World} {N n k : Nat} {zs : List Int} (hr : wr.rowIs N 5 n (fun j => .int .u8 (if j < k then zs.getD j 0 else 0))) :
    (wr.setCell ⟨N, k, none⟩ (.int .u8 (zs.getD k 0))).rowIs N 5 n (fun j => .int .u8 (if j < k + 1 then zs.getD j 0 else 0)) := by
  refine (hr.set k _).congr fun i hi => ?_
  by_cases h : i = k
  · subst h; simp
  · rw [if_neg h]
    by_cases h2 : i < k
    · rw [if_pos h2, if_pos (by omega)]
    · rw [if_neg h2, if_neg (by omega)]

set_option maxHeartbeats 400000 in
theorem clone_any (ad : Option Addr) (n c : Nat) (zs : List Int) (w : World) (hn' : n ≤ 1048576) (hr : Row w ad n zs) :
    Calls Try.prog 7 #[.slice ad n c] w fun e w' => ∃ ad' c', e = .returned (.slice ad' n c') ∧ Row w' ad' n zs ∧ Below w.heap.size w w' := by
  have q22 : ∀ (w : World) (a : Option Addr) (n c n' c' : Nat), (binOp .eql 22 (.slice a n c) (.slice none n' c')).run Try.prog w = .ok (.bool a.isNone) w := fun w a n c n' c' => Lib.run_eql_slice_nil w _ _ a n c n' c' Try.underlying22
  have hmk := run_make_row' (P := Try.prog) 22 5 (.int .u8 0) 1 Try.underlying22 Try.info5 rfl .i64 .i64 n (by omega) (by omega)
  have hr0 := hr
  obtain ⟨hl, hr⟩ := hr
  have hh0 := World.rowIs_made w (.int .u8 0) n 5
  match ad, hr0 with
  | none, hr0 =>
    have : n = 0 := by
      rcases hr with h | ⟨b, off, h, _⟩
      · exact h
      · cases h
    subst this
    clear hr hmk hh0 hl
    go_enter Try.func7, Try.ntmps7
    go_wp2
    go_ret
    exact ⟨none, 0, rfl, hr0, Below.refl _ _⟩
  | some x, hr0 =>
    rcases hr with h0 | ⟨b, off, hx, hb, hc⟩
    · subst h0
      have hmk0 : ∀ w, (Instr.makeSlice 22 (.int .i64 0) (.int .i64 0)).run Try.prog w = .ok (.slice (some ⟨w.heap.size, 0, none⟩) 0 0) (w.alloc (.cells (madeCells #[.int .u8 0] 0) 5)) := fun w => hmk w
      clear hmk hh0
      go_enter Try.func7, Try.ntmps7
      go_wp2
      refine wp_loop_rounds 1 ?_
      rw [rounds_succ]
      go_wp2
      go_ret
      exact ⟨_, _, rfl, ⟨hl, .inl rfl⟩, (Below.refl _ _).alloc (Nat.le_refl _) _⟩
    · cases hx
      clear hr0
      have HL : Hid (zs.length = n) := hl
      clear hl
      go_enter Try.func7, Try.ntmps7
      go_wp2
      go_loopg [4] n (fun g i wr => ∃ k : Nat, k ≤ n ∧ g = n - k ∧ i = .int .i64 k ∧ wr.rowIs w.heap.size 5 n (fun j => .int .u8 (if j < k then zs.getD j 0 else 0)) ∧ Below w.heap.size w wr)
      case atStart => exact ⟨0, Nat.zero_le _, rfl, rfl, by simpa using hh0, (Below.refl _ _).alloc (Nat.le_refl _) _⟩
      case round =>
        obtain ⟨k, hk, hg, rfl, hrow, hbel⟩ := hrel
        have HG : Hid (gk = n - k) := hg
        clear hg
        by_cases hlt : k < n
        · have c1 : wr.cell? ⟨b, off + k, none⟩ = some (.int .u8 (zs.getD k 0)) := (hbel.cell (p := ⟨b, off + k, none⟩) hb).trans (hc k hlt)
          have c2 := hrow.cell hlt
          have c3 := hrow.frozen k
          have HR : Hid (wr.rowIs w.heap.size 5 n (fun j => .int .u8 (if j < k then zs.getD j 0 else 0))) := hrow
          clear hrow
          go_wp2
          go_roundg (n - (k + 1))
          case measure => rw [HG.out]; omega
          case rel => exact ⟨k + 1, by omega, rfl, by go_num, clone_step HR.out, hbel.setCell (Nat.le_refl _) _⟩
        · have : k = n := by omega
          subst this
          go_wp2
          go_ret
          refine ⟨_, _, rfl, ⟨HL.out, .inr ⟨w.heap.size, 0, rfl, hrow.lt, fun j hj => ?_⟩⟩, hbel⟩
          have := hrow.cell hj
          rw [if_pos hj] at this
          simpa using this

/-- 'zzBlank'. -/
theorem blank_any (x : Int) (w : World) : Calls Try.prog 9 #[.int .u8 x] w fun e w' => e = .returned (.bool (blank x)) ∧ w' = w := by
  by_cases h1 : x = 32
  · subst h1
    go_enter Try.func9, Try.ntmps9
    go_wp2
    go_ret
    exact ⟨rfl, rfl⟩
  · by_cases h2 : x = 9
    · subst h2
      go_enter Try.func9, Try.ntmps9
      go_wp2
      go_ret
      exact ⟨rfl, rfl⟩
    · by_cases h3 : x = 10
      · subst h3
        go_enter Try.func9, Try.ntmps9
        go_wp2
        go_ret
        exact ⟨rfl, rfl⟩
      · have b1 : (x == 32) = false := by simpa using h1
        have b2 : (x == 9) = false := by simpa using h2
        have b3 : (x == 10) = false := by simpa using h3
        have e : blank x = (x == 13) := by simp [blank, b1, b2, b3]
        rw [e]
        clear e h1 h2 h3
        go_enter Try.func9, Try.ntmps9
        go_wp2
        go_ret
        exact ⟨rfl, rfl⟩

/-- What the frame tells of a slice of bytes, as a 'Row'. -/
theorem row_of {w : World} {a : Option Addr} {len cap : Nat} {zs : List Int}
    (h : (a = none ∧ len = 0 ∧ cap = 0 ∧ zs = []) ∨ ∃ x, a = some x ∧ len ≤ cap ∧ cap ≤ maxLen ∧ zs.length = cap ∧ (∀ i, i < zs.length → w.cell? (x.add i) = some (.int .u8 (zs.getD i 0))) ∧ ∀ n ∈ zs, (Lit.int .u8 n).wf = true) :
    Row w a len (zs.take len) := by
  rcases h with ⟨rfl, rfl, rfl, rfl⟩ | ⟨x, rfl, h1, h2, h3, h4, _⟩
  · exact ⟨rfl, .inl rfl⟩
  · refine ⟨by simp; omega, ?_⟩
    by_cases h0 : len = 0
    · exact .inl h0
    · right
      obtain ⟨b, off, spot⟩ := x
      have hspot : spot = none := by simpa [Addr.add] using World.cell?_spot (h4 0 (by omega))
      subst hspot
      refine ⟨b, off, rfl, ?_, fun k hk => ?_⟩
      · have := h4 0 (by omega)
        simpa [Addr.add] using World.block_lt_of_cell? w _ this
      · have := h4 k (by omega)
        rw [List.getD_eq_getElem?_getD, List.getElem?_take_of_lt hk, ← List.getD_eq_getElem?_getD]
        rw [add_plain] at this
        exact this
end Go.Proofs.Qxb6602270a
