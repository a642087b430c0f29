/-
  The proof of 'Rows.FnSpaceFirstNonBlankSaid': the seat's own shell, its one gap filled by the walk below.
-/
import Derived.Test.Qxb6602270aRows
import Derived.WalkKit
import Derived.ProofKit
import Derived.OpenShut
import Derived.ShutString
import Derived.ChangeOld
import Derived.Below
import Derived.Test.Qxb6602270aClone
namespace Go.Proofs.Qxb6602270a.fnSpaceFirstNonBlank
open Go.ChangeShapes Go.WideShapes Go.ChangeAt Go.RowKit
open Go.ChangeMaps (open_string shut_string)
set_option linter.unusedVariables false

theorem own : ownKnob Try.prog.godebug = none := by kernel_rfl
theorem laidOut : laidOutB Try.prog = true := by kernel_rfl

/-- WHAT THE WALK IS TOLD OF A SLICE OF INTEGERS THAT CAME IN: it is nil; or it leads to a row of 'cap' cells, the numbers 'zs' (the first 'len' are its elements, the rest its spare room), each fitting its kind. -/
def IsRow (k : IntKind) (w : World) (a : Option Addr) (len cap : Nat) (zs : List Int) : Prop :=
  (a = none ∧ len = 0 ∧ cap = 0 ∧ zs = []) ∨
  ∃ x, a = some x ∧ len ≤ cap ∧ cap ≤ maxLen ∧ zs.length = cap ∧ (∀ i, i < zs.length → w.cell? (x.add i) = some (.int k (zs.getD i 0))) ∧ ∀ n ∈ zs, (Lit.int k n).wf = true

/-! ### STEP 1: THE WALK: the Go text returns true, AND WRITES NOTHING THAT WAS THERE: 'Below w.heap.size w w'' (Derived/Below.lean: '.refl', '.alloc', '.drew', '.setCell' at a new block, '.trans'). Open each 'IsRow' by 'rcases' AHEAD of 'go_enter'; part every test ahead of the walk. -/
theorem walk (a0 : Option Addr) (len0 cap0 : Nat) (z0 : List Int) (a1 : Int) (w : World) (w0 : IsRow .u8 w a0 len0 cap0 z0) (w1 : (Lit.int .i64 a1).wf = true) :
    Calls Try.prog 3 #[.slice a0 len0 cap0, .int .i64 a1] w fun e w' => e = .returned (.bool true) ∧ Below w.heap.size w w' := by
  have hz := row_of w0
  obtain ⟨zs, hzs⟩ : ∃ zs, zs = z0.take len0 := ⟨_, rfl⟩
  rw [← hzs] at hz
  clear w0 hzs
  have hb1 : -9223372036854775808 ≤ a1 ∧ a1 ≤ 9223372036854775807 := bounds_i64 w1
  clear w1
  obtain ⟨hlo, hhi⟩ := hb1
  by_cases hbig : len0 ≤ 1048576
  · by_cases hneg : a1 < 0
    · go_enter Try.func3, Try.ntmps3
      go_wp2_with go_in
      go_ret
      exact ⟨rfl, Below.refl _ _⟩
    · obtain ⟨p, rfl⟩ : ∃ p : Nat, a1 = (p : Int) := ⟨a1.toNat, by omega⟩
      by_cases hpl : p < len0
      · go_enter Try.func3, Try.ntmps3
        go_wp2_with (first | (go_at_call 7; refine (clone_any a0 len0 cap0 zs _ hbig hz).mono ?_; rintro e w1 ⟨ad, c', rfl, hr1, hb1⟩) | (go_at_call 8; refine (zzspace_any ad len0 c' p zs _ hbig (by omega) hr1).mono ?_; rintro e w2 ⟨rfl, hb2⟩) | (go_at_call 6; go_in))
        go_loopg [6, 7] len0 (fun g t i wr => ∃ j : Nat, p ≤ j ∧ j ≤ len0 ∧ g = j ∧ i = .int .i64 ((j : Int) - 1) ∧ t = .int .i64 (skip zs j) ∧ wr = w2)
        case atStart => exact ⟨len0, by omega, Nat.le_refl _, rfl, by go_num, by rw [skip_past zs len0 (by rw [hr1.1]; exact Nat.le_refl _)], rfl⟩
        case round =>
          obtain ⟨j, hj1, hj2, hg, rfl, rfl, hw⟩ := hrel
          subst hw
          have HG : Hid (gk = j) := hg
          clear hg
          by_cases hlt : p < j
          · obtain ⟨m, rfl⟩ : ∃ m, j = m + 1 := ⟨j - 1, by omega⟩
            have e : ((m + 1 : Nat) : Int) - 1 = (m : Int) := by omega
            rw [e]
            have hr2 := hr1.later hb2
            obtain ⟨hl2, h0 | ⟨b, off, hx, hb, hc⟩⟩ := hr2
            · omega
            · subst hx
              have hcm := hc m (by omega)
              have hm2 : skip zs m = if blank (zs.getD m 0) = true then skip zs (m + 1) else m := by
                split
                · exact (skip_hit zs m (by omega) ‹_›).symm
                · exact skip_miss zs m (by omega) (Bool.eq_false_iff.2 ‹_›)
              have HM : Hid (skip zs m = if blank (zs.getD m 0) = true then skip zs (m + 1) else m) := hm2
              clear hm2 e hl2
              go_wp2_with (go_at_call 9; refine (blank_any _ _).mono ?_; rintro e w' ⟨rfl, rfl⟩)
              · have hq : blank (zs.getD m 0) = false := by have h : (!blank (zs[m]?.getD 0)) = true := by assumption
                                                            simpa [List.getD_eq_getElem?_getD] using h
                go_roundg m
                case measure => rw [HG.out]; omega
                case rel => exact ⟨m, by omega, by omega, rfl, rfl, by rw [HM.out, hq]; rfl, rfl⟩
              · have hq : blank (zs.getD m 0) = true := by have h : (!blank (zs[m]?.getD 0)) = false := by assumption
                                                           simpa [List.getD_eq_getElem?_getD] using h
                go_roundg m
                case measure => rw [HG.out]; omega
                case rel => exact ⟨m, by omega, by omega, rfl, rfl, by rw [HM.out, hq]; rfl, rfl⟩
          · have : p = j := by omega
            subst this
            go_wp2
            go_ret
            exact ⟨by simp, hb1.trans (hb2.mono hb1.size)⟩
      · go_enter Try.func3, Try.ntmps3
        go_wp2_with (first | (go_at_call 7; refine (clone_any a0 len0 cap0 zs _ hbig hz).mono ?_; rintro e w1 ⟨ad, c', rfl, hr1, hb1⟩) | (go_at_call 8; refine (zzspace_any ad len0 c' p zs _ hbig (by omega) hr1).mono ?_; rintro e w2 ⟨rfl, hb2⟩) | (go_at_call 6; go_in))
        have e := skip_past zs p (by rw [hr1.1]; omega)
        go_ret
        refine ⟨?_, hb1.trans (hb2.mono hb1.size)⟩
        rw [e]; simp
  · go_enter Try.func3, Try.ntmps3
    go_wp2_with go_in
    go_ret
    exact ⟨rfl, Below.refl _ _⟩

/-! ### THE ROW's STEP: WRITTEN OUT: LEAVE IT -/
set_option maxRecDepth 100000 in
theorem lifted (os : Os) (started : os.Started) (H : Type) (enc : TypeId × Value → H) :
    ReturnsInHanded {} Try.checked os 3 .any (Rows.fnSpaceFirstNonBlankSpec.pre6 enc Try.prog Try.f3 Rows.fnSpaceFirstNonBlankRow.domain false) (Rows.fnSpaceFirstNonBlankSpec.post enc Try.prog Try.f3 false true false false) := by
  refine returnsInHanded_of_change (C := Try.checked) own started (by kernel_rfl) Try.func3
    (ChangeSpec.witness6 (enc := enc) (C := Try.checked) false ⟨#[], #[.slice none 0 0, .int .i64 0], []⟩ 8 (by kernel_rfl) (by kernel_rfl) (by kernel_rfl) (by kernel_rfl)) ?_
  intro W base args ds gs before hval0 hW hcnd _
  have hval : ∀ (j : Nat) t v, Try.f3.params[j]? = some t → args[j]? = some v → Value.okWide Try.prog W .any base t v := hval0
  have hW' := hW
  obtain ⟨p, q, hA0, hV, rfl, hfz, hnd⟩ := hW
  have hA : DataW.TrodAll enc Try.prog W 0 (fun _ => true) true Try.f3.params.toList args.toList ds p := hA0
  rw [Try.params3] at hA hval
  obtain ⟨v0, vs0, d0, ds0, p0, q0, hargs, rfl, rfl, h0, r0⟩ := trodAll_cons hA
  obtain ⟨v1, vs1, d1, ds1, p1, q1, rfl, rfl, rfl, h1, r1⟩ := trodAll_cons r0
  obtain ⟨rfl, rfl, rfl⟩ := trodAll_nil r1
  obtain rfl : args = #[v0, v1] := by cases args; simp_all
  obtain ⟨rfl, rfl⟩ := trodVars_none hV
  obtain ⟨a0, len0, cap0, rfl⟩ := okWide_slice Try.underlying22 (hval 0 22 v0 rfl rfl)
  have k0 := h0
  have lt0 : ∀ x ∈ p0, x.block < W.heap.size := by obtain ⟨m, hm⟩ := k0; exact DataW.trod_lt m _ _ _ hm
  obtain ⟨z0, w0⟩ : ∃ zs, IsRow .u8 W a0 len0 cap0 zs := by
    obtain ⟨fuel, hf⟩ := h0
    rcases open_ints Try.underlying22 Try.underlying5 (by kernel_rfl) hf with ⟨hcs, _⟩ | ⟨x, l, c, zs, hcs, _, hl, hm, hz, _, hcell, hwz⟩
    · simp [Value.cells] at hcs
      obtain ⟨rfl, rfl, rfl⟩ := hcs
      exact ⟨[], .inl ⟨rfl, rfl, rfl, rfl⟩⟩
    · simp [Value.cells] at hcs
      obtain ⟨rfl, rfl, rfl⟩ := hcs
      exact ⟨zs, .inr ⟨_, rfl, hl, hm, by simpa using hz, hcell, hwz⟩⟩
  obtain ⟨a1, rfl, rfl, rfl, w1⟩ := open_int Try.underlying3 (hval 1 3 v1 rfl rfl) h1
  clear hA0 hval0
  refine (walk a0 len0 cap0 z0 a1 W w0 w1).mono fun e W' ⟨he, bel⟩ => ?_
  subst he
  exact ⟨_, rfl, _, _, _, [], _, [], hW', trodAll_mk1 (shut_bool Try.underlying4 _), (trodAll_cons_mk (Below.trod laidOut (by kernel_rfl) (of_decide_eq_true (by kernel_rfl)) k0 bel lt0) (trodAll_cons_mk (shut_int Try.underlying3 w1) trodAll_mk0)), rfl, bel.frame _, fun h => by cases h⟩

theorem over : Rows.fnSpaceFirstNonBlankRow.holds Try.pinned (OpenSpec.ofChange Rows.fnSpaceFirstNonBlankSpec) :=
  OpenClaim.holds_of_wide 3 Try.f3 rfl rfl rfl rfl rfl rfl rfl ⟨rfl, rfl, rfl, rfl, rfl⟩ rfl rfl rfl rfl rfl (by kernel_rfl) Try.func3 (by kernel_rfl)
    (of_decide_eq_true (by kernel_rfl)) (by unfold Func.isWrapper; first | (rw [if_pos (by decide +kernel)]; kernel_rfl) | (rw [if_neg (by decide +kernel)]; exact ⟨rfl, rfl⟩))
    (fun os started H enc _ => lifted os started H enc)

/-- ████ THE STATEMENT ████ -/
theorem proved : Rows.FnSpaceFirstNonBlankSaid := over
#print axioms proved
end Go.Proofs.Qxb6602270a.fnSpaceFirstNonBlank
