/-
  THE WALKS of this seat: the result's text, and the law that two texts are alike just where the results are.
-/
import Derived.Test.Qxb6602396aDoorShelf
import Derived.Test.Qxb6602396aDoorPlain
import Derived.WalkKit
import Derived.ProofKit
import Derived.Deep.LoopGhost
import Derived.Deep.QuietTactic
import Derived.BigQuiet
import Derived.WalkSmall
import Derived.WalkSpells
import Derived.Outline
namespace Go.Proofs.Qxb6602396aDoor
open Go.RowKit
set_option linter.unusedVariables false

/-- The table of powers of ten lies in the world. -/
def Tab (w : World) : Prop := Lib.TabIs Tryd.prog w Tryd.tabName .u64 Lib.pow10Tab
theorem gTab : Tryd.prog.globalNamed Tryd.tabName = some 0 := by kernel_rfl

def txt (v : Int) (f : Bool) : ByteArray := ⟨(txtL v f).toArray⟩

theorem below_grow {B : Nat} {a w : World} (h : Below B a w) (hB : B ≤ w.heap.size) (n : Nat) (os : Array Obj) : Below B a (Sort.grow (w.drewN n) os) := by
  refine h.trans ⟨rfl, rfl, rfl, ?_, fun k hk => ?_⟩
  · show w.heap.size ≤ (w.heap ++ os).size
    simp
  · show (w.heap ++ os)[k]? = w.heap[k]?
    rw [Array.getElem?_append_left (by omega)]

theorem Tab.later {w w' : World} {B : Nat} (h : Tab w) (hb : Below B w w') (hB : 0 < B) : Tab w' := by
  unfold Tab Lib.TabIs at h ⊢
  exact var?_below hb gTab hB h

/-- 'Result.String'. -/
theorem string_any (v : Int) (f : Bool) (w : World) (h0 : -9223372036854775808 ≤ v) (h1 : v ≤ 9223372036854775807) (ht : Tab w) :
    Calls Tryd.prog 5 #[.agg #[.int .i64 v, .bool f]] w fun e w' => e = .returned (.string (txt v f)) ∧ Below w.heap.size w w' := by
  have h0s : 0 < w.heap.size := by
    exact World.block_lt_of_cell? w ⟨0, 0, none⟩ (Lib.TabIs.cell ht gTab 0 (by decide))
  cases f with
  | false =>
    go_enter Tryd.func5, Tryd.ntmps5
    go_wp2
    go_ret
    exact ⟨rfl, (Below.refl _ _).alloc (Nat.le_refl _) _⟩
  | true =>
    have ht2 : Tab (w.alloc (.cells #[.int .i64 v, .bool true] 23)) := ht.later ((Below.refl w.heap.size w).alloc (Nat.le_refl _) _) h0s
    go_enter Tryd.func5, Tryd.ntmps5
    go_wp2_with (go_at_call 8; refine (Tryd.strconv_FormatInt_10 v h0 h1 _ ht2).mono ?_; rintro e w1 ⟨rfl, k, os, rfl⟩)
    go_ret
    exact ⟨rfl, below_grow ((Below.refl _ _).alloc (Nat.le_refl _) _) (by simp) _ _⟩

theorem txt_eq (v1 : Int) (f1 : Bool) (v2 : Int) (f2 : Bool) : ((txt v1 f1).toList == (txt v2 f2).toList) = (f1 == f2 && (!f1 || v1 == v2)) := by
  have e : ∀ v f, (txt v f).toList = txtL v f := fun v f => ByteArray.toList_mk _
  rw [e, e, Bool.eq_iff_iff]
  rw [beq_iff_eq, txtL_same]
  simp

set_option maxHeartbeats 400000 in
theorem walk_sep (v1 : Int) (f1 : Bool) (v2 : Int) (f2 : Bool) (w : World) (h0 : -9223372036854775808 ≤ v1) (h1 : v1 ≤ 9223372036854775807) (h2 : -9223372036854775808 ≤ v2) (h3 : v2 ≤ 9223372036854775807) (ht : Tab w) :
    Calls Tryd.prog 4 #[.int .i64 v1, .bool f1, .int .i64 v2, .bool f2] w fun e w' => e = .returned (.bool true) ∧ Below w.heap.size w w' := by
  have h0s : 0 < w.heap.size := World.block_lt_of_cell? w ⟨0, 0, none⟩ (Lib.TabIs.cell ht gTab 0 (by decide))
  have HE := txt_eq v1 f1 v2 f2
  have HX : Hid (((txt v1 f1).toList == (txt v2 f2).toList) = (f1 == f2 && (!f1 || v1 == v2))) := HE
  clear HE
  cases f1 <;> cases f2
  all_goals
   go_enter Tryd.func4, Tryd.ntmps4
   go_wp2_with fail
   refine (string_any v1 _ _ h0 h1 ht).mono ?_
   rintro e w1 ⟨rfl, hb1⟩
   go_wp2_with fail
   refine (string_any v2 _ _ h2 h3 (ht.later hb1 h0s)).mono ?_
   rintro e w2 ⟨rfl, hb2⟩
   go_wp2
   go_ret
   refine ⟨?_, hb1.trans (hb2.mono hb1.size)⟩
   rw [HX.out]
   simp
end Go.Proofs.Qxb6602396aDoor
