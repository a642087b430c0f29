/-
  The proof of 'Rows.FnJobRowsListsEachJobsRowsInTableOrderSaid': the seat's own shell, its one gap filled by the walk below.
-/
import Derived.Test.Qxb6602443aRows
import Derived.WalkKit
import Derived.ProofKit
import Derived.OpenShut
import Derived.ShutString
import Derived.ChangeOld
import Derived.Below
import Derived.Test.Qxb6602443aParts
namespace Go.Proofs.Qxb6602443a.fnJobRowsListsEachJobsRowsInTableOrder
open Go.ChangeShapes Go.WideShapes Go.ChangeAt Go.RowKit Go.Deep
open Go.ChangeMaps (open_string shut_string)
set_option linter.unusedVariables false

theorem own : ownKnob Try.prog.godebug = none := by kernel_rfl
theorem laidOut : laidOutB Try.prog = true := by kernel_rfl

/-- WHAT THE WALK IS TOLD OF A SLICE OF INTEGERS THAT CAME IN: it is nil; or it leads to a row of 'cap' cells, the numbers 'zs' (the first 'len' are its elements, the rest its spare room), each fitting its kind. -/
def IsRow (k : IntKind) (w : World) (a : Option Addr) (len cap : Nat) (zs : List Int) : Prop :=
  (a = none ∧ len = 0 ∧ cap = 0 ∧ zs = []) ∨
  ∃ x, a = some x ∧ len ≤ cap ∧ cap ≤ maxLen ∧ zs.length = cap ∧ (∀ i, i < zs.length → w.cell? (x.add i) = some (.int k (zs.getD i 0))) ∧ ∀ n ∈ zs, (Lit.int k n).wf = true

set_option maxHeartbeats 800000 in
theorem walk_main (a0 : Option Addr) (len0 cap0 : Nat) (zs : List Int) (J : Nat) (w : World) (hmid : len0 ≤ 65536) (hJ : J ≤ 65536) (hz : RowZ w a0 len0 zs) (hdom : Dom zs J) :
    Calls Try.prog 3 #[.slice a0 len0 cap0, .int .i64 J] w fun e w' => e = .returned (.bool true) ∧ Below w.heap.size w w' := by
  obtain ⟨rs, hrl, hre, hrJ⟩ := rs_of hdom
  have hrow := row_rs hz hrl hre
  have hzl := hz.1
  have hrn : rs.length = len0 := by omega
  have hrJ' : ∀ k, k < len0 → rs.getD k 0 < J := fun k hk => hrJ k (by omega)
  clear hrl hre hrJ hzl
  have q22 : ∀ (w : World) (a : Option Addr) (n c n' c' : Nat), (binOp .neq 22 (.slice a n c) (.slice none n' c')).run Try.prog w = .ok (.bool (!a.isNone)) w := fun w a n c n' c' => run_neq_slice_nil_any w _ _ a n c n' c' Try.underlying22
  have hmk := run_make_row' (P := Try.prog) 22 3 (.int .i64 0) 8 Try.underlying22 Try.info3 rfl .i64 .i64 len0 (by omega) (by omega)
  have HD : Hid (Dom zs J) := hdom
  clear hdom
  have hrl2 : rs.length ≤ 65536 := by omega
  match a0, hrow, hz with
  | none, hrow, hz =>
    have HR : Hid (∀ k, k < len0 → rs.getD k 0 < J) := hrJ'
    clear hrJ' hrn hmk
    go_enter Try.func3, Try.ntmps3
    go_wp2_with (first | (go_at_call 7; refine (dom_yes none len0 cap0 J zs _ hmid hJ hz HD.out).mono ?_; rintro e w1 ⟨rfl, rfl⟩) | (go_at_call 8; refine (zzjobs_any none len0 cap0 J rs _ hmid hJ hrow HR.out).mono ?_; rintro e w3 ⟨R, A, X, hf, rfl, hL, hb3⟩) | (go_at_call 6; go_in))
    obtain ⟨hNA, hAR, hRr, hX, hAl, hcells⟩ := id hL
    have hrow2 := hrow.later hb3
    have HL : Hid (Lists w3 w.heap.size rs J R A X hf) := hL
    have HRr : Hid (w3.rowIs R 22 J (fun j => .slice (X j) (cnt j rs) (cnt j rs))) := hRr
    clear hL hNA hX hAl hcells hRr
    go_loopg [7] J (fun g i wr => ∃ j : Nat, g = J - j ∧ j ≤ J ∧ i = .int .i64 j ∧ wr = w3)
    case atStart => exact ⟨0, rfl, Nat.zero_le _, rfl, rfl⟩
    case round =>
      obtain ⟨j, hg, hj, rfl, hw⟩ := hrel
      subst hw
      have HG : Hid (gk = J - j) := hg
      clear hg
      by_cases hlt : j < J
      · have hc := HRr.out.cell hlt
        have hgot := got_of_lists HL.out hlt
        have hcl : cnt j rs ≤ 65536 := by have := cnt_le j rs; omega
        go_wp2_with (go_at_call 9; refine (filter_any none (X j) len0 cap0 j (cnt j rs) (cnt j rs) rs _ hmid (by omega) (by omega) hrow2 hgot).mono ?_; rintro e w4 ⟨rfl, rfl⟩)
        go_roundg (J - (j + 1))
        case measure => rw [HG.out]; omega
        case rel => exact ⟨j + 1, rfl, by omega, by go_num, rfl⟩
      · go_wp2
        go_ret
        exact ⟨rfl, hb3⟩
  | some a, hrow, hz =>
    have HR : Hid (∀ k, k < len0 → rs.getD k 0 < J) := hrJ'
    have HN : Hid (rs.length = len0) := hrn
    clear hrJ' hrn
    clear HN
    obtain ⟨w2, hcp, hrow1, hb2⟩ := copy_run (c := cap0) hrow
    go_enter Try.func3, Try.ntmps3
    go_wp2_with (first | (go_at_call 7; refine (dom_yes (some a) len0 cap0 J zs _ hmid hJ hz HD.out).mono ?_; rintro e w1 ⟨rfl, rfl⟩) | (go_at_call 8; refine (zzjobs_any (some ⟨w.heap.size, 0, none⟩) len0 len0 J rs _ hmid hJ hrow1 HR.out).mono ?_; rintro e w3 ⟨R, A, X, hf, rfl, hL, hb3⟩) | (go_at_call 6; go_in))
    obtain ⟨hNA, hAR, hRr, hX, hAl, hcells⟩ := id hL
    have hrow2 := hrow1.later hb3
    have HL : Hid (Lists w3 w2.heap.size rs J R A X hf) := hL
    have HRr : Hid (w3.rowIs R 22 J (fun j => .slice (X j) (cnt j rs) (cnt j rs))) := hRr
    clear hL hNA hX hAl hcells hRr
    go_loopg [7] J (fun g i wr => ∃ j : Nat, g = J - j ∧ j ≤ J ∧ i = .int .i64 j ∧ wr = w3)
    case atStart => exact ⟨0, rfl, Nat.zero_le _, rfl, rfl⟩
    case round =>
      obtain ⟨j, hg, hj, rfl, hw⟩ := hrel
      subst hw
      have HG : Hid (gk = J - j) := hg
      clear hg
      by_cases hlt : j < J
      · have hc := HRr.out.cell hlt
        have hgot := got_of_lists HL.out hlt
        have hcl : cnt j rs ≤ 65536 := by have := cnt_le j rs; omega
        go_wp2_with (go_at_call 9; refine (filter_any (some ⟨w.heap.size, 0, none⟩) (X j) len0 len0 j (cnt j rs) (cnt j rs) rs _ hmid (by omega) (by omega) hrow2 hgot).mono ?_; rintro e w4 ⟨rfl, rfl⟩)
        go_roundg (J - (j + 1))
        case measure => rw [HG.out]; omega
        case rel => exact ⟨j + 1, rfl, by omega, by go_num, rfl⟩
      · go_wp2
        go_ret
        exact ⟨rfl, hb2.trans (hb3.mono hb2.size)⟩

/-! ### STEP 1: THE WALK: the Go text returns true, AND WRITES NOTHING THAT WAS THERE: 'Below w.heap.size w w'' (Derived/Below.lean: '.refl', '.alloc', '.drew', '.setCell' at a new block, '.trans'). Open each 'IsRow' by 'rcases' AHEAD of 'go_enter'; part every test ahead of the walk. -/
theorem walk (a0 : Option Addr) (len0 cap0 : Nat) (z0 : List Int) (a1 : Int) (w : World) (w0 : IsRow .i64 w a0 len0 cap0 z0) (w1 : (Lit.int .i64 a1).wf = true) :
    Calls Try.prog 3 #[.slice a0 len0 cap0, .int .i64 a1] w fun e w' => e = .returned (.bool true) ∧ Below w.heap.size w w' := by
  have hz := row_of w0
  obtain ⟨zs, hzs⟩ : ∃ zs, zs = z0.take len0 := ⟨_, rfl⟩
  rw [← hzs] at hz
  clear w0 hzs
  obtain ⟨hlo, hhi⟩ := bounds_i64 w1
  clear w1
  by_cases hbig : len0 ≤ 1048576
  · by_cases hmid : len0 ≤ 65536
    · by_cases hneg : a1 < 0
      · go_enter Try.func3, Try.ntmps3
        go_wp2_with go_in
        go_ret
        exact ⟨rfl, Below.refl _ _⟩
      · by_cases hjb : a1 ≤ 65536
        · obtain ⟨J, rfl⟩ : ∃ p : Nat, a1 = (p : Int) := ⟨a1.toNat, by omega⟩
          have hJ : J ≤ 65536 := by omega
          clear hneg hjb hlo hhi
          by_cases hdom : Dom zs J
          · exact walk_main a0 len0 cap0 zs J w hmid hJ hz hdom
          · go_enter Try.func3, Try.ntmps3
            go_wp2_with (first | (go_at_call 7; refine (dom_no a0 len0 cap0 J zs _ hmid hJ hz hdom).mono ?_; rintro e w1 ⟨rfl, rfl⟩) | go_in)
            go_ret
            exact ⟨rfl, Below.refl _ _⟩
        · go_enter Try.func3, Try.ntmps3
          go_wp2_with go_in
          go_ret
          exact ⟨rfl, Below.refl _ _⟩
    · go_enter Try.func3, Try.ntmps3
      go_wp2_with go_in
      go_ret
      exact ⟨rfl, Below.refl _ _⟩
  · go_enter Try.func3, Try.ntmps3
    go_wp2_with go_in
    go_ret
    exact ⟨rfl, Below.refl _ _⟩

/-! ### THE ROW's STEP: WRITTEN OUT: LEAVE IT -/
set_option maxRecDepth 100000 in
theorem lifted (os : Os) (started : os.Started) (H : Type) (enc : TypeId × Value → H) :
    ReturnsInHanded {} Try.checked os 3 .any (Rows.fnJobRowsListsEachJobsRowsInTableOrderSpec.pre6 enc Try.prog Try.f3 Rows.fnJobRowsListsEachJobsRowsInTableOrderRow.domain false) (Rows.fnJobRowsListsEachJobsRowsInTableOrderSpec.post enc Try.prog Try.f3 false true false false) := by
  refine returnsInHanded_of_change (C := Try.checked) own started (by kernel_rfl) Try.func3
    (ChangeSpec.witness6 (enc := enc) (C := Try.checked) false ⟨#[], #[.slice none 0 0, .int .i64 0], []⟩ 8 (by kernel_rfl) (by kernel_rfl) (by kernel_rfl) (by kernel_rfl)) ?_
  intro W base args ds gs before hval0 hW hcnd _
  have hval : ∀ (j : Nat) t v, Try.f3.params[j]? = some t → args[j]? = some v → Value.okWide Try.prog W .any base t v := hval0
  have hW' := hW
  obtain ⟨p, q, hA0, hV, rfl, hfz, hnd⟩ := hW
  have hA : DataW.TrodAll enc Try.prog W 0 (fun _ => true) true Try.f3.params.toList args.toList ds p := hA0
  rw [Try.params3] at hA hval
  obtain ⟨v0, vs0, d0, ds0, p0, q0, hargs, rfl, rfl, h0, r0⟩ := trodAll_cons hA
  obtain ⟨v1, vs1, d1, ds1, p1, q1, rfl, rfl, rfl, h1, r1⟩ := trodAll_cons r0
  obtain ⟨rfl, rfl, rfl⟩ := trodAll_nil r1
  obtain rfl : args = #[v0, v1] := by cases args; simp_all
  obtain ⟨rfl, rfl⟩ := trodVars_none hV
  obtain ⟨a0, len0, cap0, rfl⟩ := okWide_slice Try.underlying22 (hval 0 22 v0 rfl rfl)
  have k0 := h0
  have lt0 : ∀ x ∈ p0, x.block < W.heap.size := by obtain ⟨m, hm⟩ := k0; exact DataW.trod_lt m _ _ _ hm
  obtain ⟨z0, w0⟩ : ∃ zs, IsRow .i64 W a0 len0 cap0 zs := by
    obtain ⟨fuel, hf⟩ := h0
    rcases open_ints Try.underlying22 Try.underlying3 (by kernel_rfl) hf with ⟨hcs, _⟩ | ⟨x, l, c, zs, hcs, _, hl, hm, hz, _, hcell, hwz⟩
    · simp [Value.cells] at hcs
      obtain ⟨rfl, rfl, rfl⟩ := hcs
      exact ⟨[], .inl ⟨rfl, rfl, rfl, rfl⟩⟩
    · simp [Value.cells] at hcs
      obtain ⟨rfl, rfl, rfl⟩ := hcs
      exact ⟨zs, .inr ⟨_, rfl, hl, hm, by simpa using hz, hcell, hwz⟩⟩
  obtain ⟨a1, rfl, rfl, rfl, w1⟩ := open_int Try.underlying3 (hval 1 3 v1 rfl rfl) h1
  clear hA0 hval0
  refine (walk a0 len0 cap0 z0 a1 W w0 w1).mono fun e W' ⟨he, bel⟩ => ?_
  subst he
  exact ⟨_, rfl, _, _, _, [], _, [], hW', trodAll_mk1 (shut_bool Try.underlying4 _), (trodAll_cons_mk (Below.trod laidOut (by kernel_rfl) (of_decide_eq_true (by kernel_rfl)) k0 bel lt0) (trodAll_cons_mk (shut_int Try.underlying3 w1) trodAll_mk0)), rfl, bel.frame _, fun h => by cases h⟩

theorem over : Rows.fnJobRowsListsEachJobsRowsInTableOrderRow.holds Try.pinned (OpenSpec.ofChange Rows.fnJobRowsListsEachJobsRowsInTableOrderSpec) :=
  OpenClaim.holds_of_wide 3 Try.f3 rfl rfl rfl rfl rfl rfl rfl ⟨rfl, rfl, rfl, rfl, rfl⟩ rfl rfl rfl rfl rfl (by kernel_rfl) Try.func3 (by kernel_rfl)
    (of_decide_eq_true (by kernel_rfl)) (by unfold Func.isWrapper; first | (rw [if_pos (by decide +kernel)]; kernel_rfl) | (rw [if_neg (by decide +kernel)]; exact ⟨rfl, rfl⟩))
    (fun os started H enc _ => lifted os started H enc)

/-- ████ THE STATEMENT ████ -/
theorem proved : Rows.FnJobRowsListsEachJobsRowsInTableOrderSaid := over
#print axioms proved
end Go.Proofs.Qxb6602443a.fnJobRowsListsEachJobsRowsInTableOrder
