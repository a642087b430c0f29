/-
  The proof of 'Rows.FnConsumeLoopAgreesWithSpaceSaid': the seat's own shell, its one gap filled by the walk below.
-/
import Derived.Test.Qxb6602270aRows
import Derived.WalkKit
import Derived.ProofKit
import Derived.OpenShut
import Derived.ShutString
import Derived.ChangeOld
import Derived.Below
import Derived.Test.Qxb6602270aConsume
namespace Go.Proofs.Qxb6602270a.fnConsumeLoopAgreesWithSpace
open Go.ChangeShapes Go.WideShapes Go.ChangeAt Go.RowKit
open Go.ChangeMaps (open_string shut_string)
set_option linter.unusedVariables false

theorem own : ownKnob Try.prog.godebug = none := by kernel_rfl
theorem laidOut : laidOutB Try.prog = true := by kernel_rfl

/-- WHAT THE WALK IS TOLD OF A SLICE OF INTEGERS THAT CAME IN: it is nil; or it leads to a row of 'cap' cells, the numbers 'zs' (the first 'len' are its elements, the rest its spare room), each fitting its kind. -/
def IsRow (k : IntKind) (w : World) (a : Option Addr) (len cap : Nat) (zs : List Int) : Prop :=
  (a = none ∧ len = 0 ∧ cap = 0 ∧ zs = []) ∨
  ∃ x, a = some x ∧ len ≤ cap ∧ cap ≤ maxLen ∧ zs.length = cap ∧ (∀ i, i < zs.length → w.cell? (x.add i) = some (.int k (zs.getD i 0))) ∧ ∀ n ∈ zs, (Lit.int k n).wf = true

/-! ### STEP 1: THE WALK: the Go text returns true, AND WRITES NOTHING THAT WAS THERE: 'Below w.heap.size w w'' (Derived/Below.lean: '.refl', '.alloc', '.drew', '.setCell' at a new block, '.trans'). Open each 'IsRow' by 'rcases' AHEAD of 'go_enter'; part every test ahead of the walk. -/
theorem walk (a0 : Option Addr) (len0 cap0 : Nat) (z0 : List Int) (a1 : Int) (w : World) (w0 : IsRow .u8 w a0 len0 cap0 z0) (w1 : (Lit.int .i64 a1).wf = true) :
    Calls Try.prog 5 #[.slice a0 len0 cap0, .int .i64 a1] w fun e w' => e = .returned (.bool true) ∧ Below w.heap.size w w' := by
  have hz := row_of w0
  obtain ⟨zs, hzs⟩ : ∃ zs, zs = z0.take len0 := ⟨_, rfl⟩
  rw [← hzs] at hz
  clear w0 hzs
  have hb1 : -9223372036854775808 ≤ a1 ∧ a1 ≤ 9223372036854775807 := bounds_i64 w1
  clear w1
  obtain ⟨hlo, hhi⟩ := hb1
  by_cases hbig : len0 ≤ 1048576
  · by_cases hneg : a1 < 0
    · go_enter Try.func5, Try.ntmps5
      go_wp2_with go_in
      go_ret
      exact ⟨rfl, Below.refl _ _⟩
    · obtain ⟨p, rfl⟩ : ∃ p : Nat, a1 = (p : Int) := ⟨a1.toNat, by omega⟩
      go_enter Try.func5, Try.ntmps5
      go_wp2_with (first | (go_at_call 7; refine (clone_any a0 len0 cap0 zs _ hbig hz).mono ?_; rintro e w1 ⟨ad, c', rfl, hr1, hb1⟩) | (go_at_call 11; go_in))
      go_loopg [5, 6] (len0 + 2) (fun g t i wr => ∃ q s : Nat, g = len0 + 2 - s ∧ s ≤ len0 + 1 ∧ t = .int .i64 q ∧ i = .int .i64 s ∧ p + s ≤ q ∧ (q ≤ len0 ∨ q = p) ∧ skip zs q = skip zs p ∧ Below w1.heap.size w1 wr)
      case atStart => exact ⟨p, 0, rfl, by omega, rfl, rfl, by omega, .inr rfl, rfl, Below.refl _ _⟩
      case round =>
        obtain ⟨q, s, hg, hs, rfl, rfl, hq1, hq2, hsk, hbel⟩ := hrel
        by_cases hle : s ≤ len0
        · have HG : Hid (gk = len0 + 2 - s ∧ skip zs q = skip zs p) := ⟨hg, hsk⟩
          clear hg hsk
          go_wp2
          go_loopg [5, 7, 8] 4 (fun g t mv i wr => ∃ (k r : Nat) (m : Bool), g = 4 - k ∧ k ≤ 4 ∧ t = .int .i64 r ∧ mv = .bool m ∧ i = .int .i64 k ∧ q ≤ r ∧ (r ≤ len0 ∨ r = p) ∧ skip zs r = skip zs p ∧ Below w1.heap.size w1 wr ∧ (m = true → q + 1 ≤ r) ∧ (m = false → r = q ∧ ∀ j, j < k → ¬ (r < len0 ∧ zs.getD r 0 = bb j)))
          case atStart => exact ⟨0, q, false, rfl, by omega, rfl, rfl, rfl, Nat.le_refl _, hq2, HG.out.2, hbel, fun h => (by cases h), fun _ => ⟨rfl, fun j hj => absurd hj (by omega)⟩⟩
          case round =>
            obtain ⟨k, r, m, hg, hk, rfl, rfl, rfl, hr, hr2, hsk, hbel2, hm1, hm2⟩ := hrel
            have hrow := hr1.later hbel2
            by_cases hk4 : k < 4
            · have HI : Hid (gk = 4 - k ∧ skip zs r = skip zs p ∧ (m = true → q + 1 ≤ r) ∧ (m = false → r = q ∧ ∀ j, j < k → ¬ (r < len0 ∧ zs.getD r 0 = bb j))) := ⟨hg, hsk, hm1, hm2⟩
              clear hg hsk hm1 hm2
              by_cases hhit : r < len0 ∧ zs.getD r 0 = bb k
              · obtain ⟨hrl, hrz⟩ := hhit
                have HR : Hid (zs.getD r 0 = bb k) := hrz
                clear hrz
                go_wp2_with (first | (go_at_call 13; refine (byte_any k hk4 _).mono ?_; rintro e w2 ⟨rfl, rfl⟩) | (go_at_call 12; refine (zzconsume_hit ad len0 c' r (bb k) zs _ hbig hrow hrl HR.out).mono ?_; rintro e w2 ⟨rfl, hb2⟩))
                have hb3 : Below w1.heap.size w1 w2 := hbel2.trans (hb2.mono hbel2.size)
                go_roundg (4 - (k + 1))
                case measure => rw [HI.out.1]; omega
                case rel => exact ⟨k + 1, r + 1, true, rfl, by omega, by go_num, rfl, by go_num, by omega, .inl (by omega), (skip_hit zs r (by rw [hr1.1]; exact hrl) (by rw [HR.out]; exact bb_blank k)).trans HI.out.2.1, hb3, fun _ => by omega, fun h => by cases h⟩
              · have HR : Hid (¬ (r < len0 ∧ zs.getD r 0 = bb k)) := hhit
                clear hhit
                go_wp2_with (first | (go_at_call 13; refine (byte_any k hk4 _).mono ?_; rintro e w2 ⟨rfl, rfl⟩) | (go_at_call 12; refine (zzconsume_miss ad len0 c' r (bb k) zs _ hbig hrow HR.out).mono ?_; rintro e w2 ⟨rfl, hb2⟩))
                have hb3 : Below w1.heap.size w1 w2 := hbel2.trans (hb2.mono hbel2.size)
                go_roundg (4 - (k + 1))
                case measure => rw [HI.out.1]; omega
                case rel => exact ⟨k + 1, r, m, rfl, by omega, rfl, rfl, by go_num, hr, hr2, HI.out.2.1, hb3, HI.out.2.2.1, fun h => ⟨(HI.out.2.2.2 h).1, fun j hj => by rcases Nat.lt_succ_iff_lt_or_eq.1 hj with h1 | h1; exact (HI.out.2.2.2 h).2 j h1; rw [h1]; exact HR.out⟩⟩
            · have hk5 : k = 4 := by omega
              subst hk5
              cases m with
              | true =>
                have hup : q + 1 ≤ r := hm1 rfl
                have HI : Hid (skip zs r = skip zs p) := hsk
                clear hg hsk hm1 hm2
                go_wp2
                go_roundg (len0 + 2 - (s + 1))
                case measure => rw [HG.out.1]; omega
                case rel => exact ⟨r, s + 1, rfl, by omega, rfl, by go_num, by omega, hr2, HI.out, hbel2⟩
              | false =>
                obtain ⟨hrq, hno⟩ := hm2 rfl
                have hstop : skip zs r = r := stop_of zs r (fun h j hj => by have := hno j hj; rw [hr1.1] at h; exact fun hz => this ⟨h, hz⟩)
                have HI : Hid (skip zs p = r) := hsk.symm.trans hstop
                clear hg hsk hm1 hm2 hrq hno hstop
                go_wp2_with (go_at_call 8; refine (zzspace_any ad len0 c' p zs _ hbig (by omega) hrow).mono ?_; rintro e w2 ⟨rfl, hb2⟩)
                have hb3 : Below w1.heap.size w1 w2 := hbel2.trans (hb2.mono hbel2.size)
                go_ret
                exact ⟨by rw [HI.out]; simp, hb1.trans (hb3.mono hb1.size)⟩
        · omega
  · go_enter Try.func5, Try.ntmps5
    go_wp2_with go_in
    go_ret
    exact ⟨rfl, Below.refl _ _⟩

/-! ### THE ROW's STEP: WRITTEN OUT: LEAVE IT -/
set_option maxRecDepth 100000 in
theorem lifted (os : Os) (started : os.Started) (H : Type) (enc : TypeId × Value → H) :
    ReturnsInHanded {} Try.checked os 5 .any (Rows.fnConsumeLoopAgreesWithSpaceSpec.pre6 enc Try.prog Try.f5 Rows.fnConsumeLoopAgreesWithSpaceRow.domain false) (Rows.fnConsumeLoopAgreesWithSpaceSpec.post enc Try.prog Try.f5 false true false false) := by
  refine returnsInHanded_of_change (C := Try.checked) own started (by kernel_rfl) Try.func5
    (ChangeSpec.witness6 (enc := enc) (C := Try.checked) false ⟨#[], #[.slice none 0 0, .int .i64 0], []⟩ 8 (by kernel_rfl) (by kernel_rfl) (by kernel_rfl) (by kernel_rfl)) ?_
  intro W base args ds gs before hval0 hW hcnd _
  have hval : ∀ (j : Nat) t v, Try.f5.params[j]? = some t → args[j]? = some v → Value.okWide Try.prog W .any base t v := hval0
  have hW' := hW
  obtain ⟨p, q, hA0, hV, rfl, hfz, hnd⟩ := hW
  have hA : DataW.TrodAll enc Try.prog W 0 (fun _ => true) true Try.f5.params.toList args.toList ds p := hA0
  rw [Try.params5] at hA hval
  obtain ⟨v0, vs0, d0, ds0, p0, q0, hargs, rfl, rfl, h0, r0⟩ := trodAll_cons hA
  obtain ⟨v1, vs1, d1, ds1, p1, q1, rfl, rfl, rfl, h1, r1⟩ := trodAll_cons r0
  obtain ⟨rfl, rfl, rfl⟩ := trodAll_nil r1
  obtain rfl : args = #[v0, v1] := by cases args; simp_all
  obtain ⟨rfl, rfl⟩ := trodVars_none hV
  obtain ⟨a0, len0, cap0, rfl⟩ := okWide_slice Try.underlying22 (hval 0 22 v0 rfl rfl)
  have k0 := h0
  have lt0 : ∀ x ∈ p0, x.block < W.heap.size := by obtain ⟨m, hm⟩ := k0; exact DataW.trod_lt m _ _ _ hm
  obtain ⟨z0, w0⟩ : ∃ zs, IsRow .u8 W a0 len0 cap0 zs := by
    obtain ⟨fuel, hf⟩ := h0
    rcases open_ints Try.underlying22 Try.underlying5 (by kernel_rfl) hf with ⟨hcs, _⟩ | ⟨x, l, c, zs, hcs, _, hl, hm, hz, _, hcell, hwz⟩
    · simp [Value.cells] at hcs
      obtain ⟨rfl, rfl, rfl⟩ := hcs
      exact ⟨[], .inl ⟨rfl, rfl, rfl, rfl⟩⟩
    · simp [Value.cells] at hcs
      obtain ⟨rfl, rfl, rfl⟩ := hcs
      exact ⟨zs, .inr ⟨_, rfl, hl, hm, by simpa using hz, hcell, hwz⟩⟩
  obtain ⟨a1, rfl, rfl, rfl, w1⟩ := open_int Try.underlying3 (hval 1 3 v1 rfl rfl) h1
  clear hA0 hval0
  refine (walk a0 len0 cap0 z0 a1 W w0 w1).mono fun e W' ⟨he, bel⟩ => ?_
  subst he
  exact ⟨_, rfl, _, _, _, [], _, [], hW', trodAll_mk1 (shut_bool Try.underlying4 _), (trodAll_cons_mk (Below.trod laidOut (by kernel_rfl) (of_decide_eq_true (by kernel_rfl)) k0 bel lt0) (trodAll_cons_mk (shut_int Try.underlying3 w1) trodAll_mk0)), rfl, bel.frame _, fun h => by cases h⟩

theorem over : Rows.fnConsumeLoopAgreesWithSpaceRow.holds Try.pinned (OpenSpec.ofChange Rows.fnConsumeLoopAgreesWithSpaceSpec) :=
  OpenClaim.holds_of_wide 5 Try.f5 rfl rfl rfl rfl rfl rfl rfl ⟨rfl, rfl, rfl, rfl, rfl⟩ rfl rfl rfl rfl rfl (by kernel_rfl) Try.func5 (by kernel_rfl)
    (of_decide_eq_true (by kernel_rfl)) (by unfold Func.isWrapper; first | (rw [if_pos (by decide +kernel)]; kernel_rfl) | (rw [if_neg (by decide +kernel)]; exact ⟨rfl, rfl⟩))
    (fun os started H enc _ => lifted os started H enc)

/-- ████ THE STATEMENT ████ -/
theorem proved : Rows.FnConsumeLoopAgreesWithSpaceSaid := over
#print axioms proved
end Go.Proofs.Qxb6602270a.fnConsumeLoopAgreesWithSpace
