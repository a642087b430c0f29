/-
  THE WALK over the statement's text, and the plain law: each argument can be read off the text.
-/
import Derived.Test.Qxb6601669aRows
import Derived.WalkKit
import Derived.ProofKit
import Derived.WalkSmall
import Derived.WalkSpells
import Derived.Outline
namespace Go.Proofs.Qxb6601669a
open Go.RowKit
set_option linter.unusedVariables false

def p1 : ByteArray := ⟨#[68, 69, 76, 69, 84, 69, 32, 70, 82, 79, 77, 32, 107, 101, 112, 116, 112, 111, 115, 116, 46]⟩
def p2 : ByteArray := ⟨#[32, 87, 72, 69, 82, 69, 32, 99, 116, 105, 100, 32, 61, 32, 65, 78, 89, 32, 40, 65, 82, 82, 65, 89, 40, 10, 9, 83, 69, 76, 69, 67, 84, 32, 99, 116, 105, 100, 32, 70, 82, 79, 77, 32, 107, 101, 112, 116, 112, 111, 115, 116, 46]⟩
def p3 : ByteArray := ⟨#[10, 9, 87, 72, 69, 82, 69, 32]⟩
def p4 : ByteArray := ⟨#[32, 60, 32, 110, 111, 119, 40, 41, 32, 45, 32, 36, 49, 58, 58, 98, 105, 103, 105, 110, 116, 32, 42, 32, 105, 110, 116, 101, 114, 118, 97, 108, 32, 39, 49, 32, 109, 105, 99, 114, 111, 115, 101, 99, 111, 110, 100, 39]⟩
def p5 : ByteArray := ⟨#[10, 9, 79, 82, 68, 69, 82, 32, 66, 89, 32]⟩
def p6 : ByteArray := ⟨#[32, 76, 73, 77, 73, 84, 32, 36, 50, 32, 70, 79, 82, 32, 85, 80, 68, 65, 84, 69, 32, 83, 75, 73, 80, 32, 76, 79, 67, 75, 69, 68, 41, 41]⟩
def andB : ByteArray := ⟨#[32, 65, 78, 68, 32]⟩

/-- The statement, its condition as it stands in it. -/
def stmt (t a c : ByteArray) : ByteArray := p1 ++ t ++ p2 ++ t ++ p3 ++ a ++ p4 ++ c ++ p5 ++ a ++ p6
/-- The condition as it stands in the statement. -/
def cond (s : ByteArray) : ByteArray := if s.toList.isEmpty then s else andB ++ s

theorem toList_app (x y : ByteArray) : (x ++ y).toList = x.toList ++ y.toList := by
  simp [ByteArray.toList_eq]

theorem stmt_list (t a c : ByteArray) : (stmt t a c).toList = p1.toList ++ (t.toList ++ (p2.toList ++ (t.toList ++ (p3.toList ++ (a.toList ++ (p4.toList ++ (c.toList ++ (p5.toList ++ (a.toList ++ p6.toList))))))))) := by
  simp only [stmt, toList_app, List.append_assoc]

theorem two_inj {α : Type} {x y l m r : List α} (h : x ++ (l ++ (x ++ (m ++ r))) = y ++ (l ++ (y ++ (m ++ r)))) : x = y := by
  have hl := congrArg List.length h
  simp only [List.length_append] at hl
  exact (List.append_inj h (by omega)).1

theorem stmt_table (t t2 a c : ByteArray) : ((stmt t2 a c).toList == (stmt t a c).toList) = (t2.toList == t.toList) := by
  rw [Bool.eq_iff_iff, beq_iff_eq, beq_iff_eq, stmt_list, stmt_list]
  constructor
  · intro h
    exact two_inj (List.append_cancel_left h)
  · intro h; rw [h]

theorem stmt_age (t a a2 c : ByteArray) : ((stmt t a2 c).toList == (stmt t a c).toList) = (a2.toList == a.toList) := by
  rw [Bool.eq_iff_iff, beq_iff_eq, beq_iff_eq, stmt_list, stmt_list]
  constructor
  · intro h
    have h1 := List.append_cancel_left (List.append_cancel_left (List.append_cancel_left (List.append_cancel_left (List.append_cancel_left h))))
    have hl := congrArg List.length h1
    simp only [List.length_append] at hl
    exact (List.append_inj h1 (by omega)).1
  · intro h; rw [h]

theorem stmt_cond (t a c c2 : ByteArray) : ((stmt t a c2).toList == (stmt t a c).toList) = (c2.toList == c.toList) := by
  rw [Bool.eq_iff_iff, beq_iff_eq, beq_iff_eq, stmt_list, stmt_list]
  constructor
  · intro h
    have h1 := List.append_cancel_left (List.append_cancel_left (List.append_cancel_left (List.append_cancel_left (List.append_cancel_left (List.append_cancel_left (List.append_cancel_left h))))))
    exact List.append_cancel_right h1
  · intro h; rw [h]

theorem cond_list (s : ByteArray) : (cond s).toList = if s.toList.isEmpty then [] else andB.toList ++ s.toList := by
  unfold cond
  split
  · rename_i h; simpa using h
  · rw [toList_app]

theorem cond_inj (s s2 : ByteArray) : ((cond s2).toList == (cond s).toList) = (s2.toList == s.toList) := by
  rw [Bool.eq_iff_iff, beq_iff_eq, beq_iff_eq, cond_list, cond_list]
  have ha : andB.toList ≠ [] := by rw [ByteArray.toList_eq]; decide
  cases h1 : s.toList.isEmpty <;> cases h2 : s2.toList.isEmpty
  · simp
  · simp only [if_true, if_false, Bool.false_eq_true]
    constructor
    · intro h
      exact absurd (List.append_eq_nil_iff.1 h.symm).1 ha
    · intro h; rw [h, h1] at h2; cases h2
  · simp only [if_true, if_false, Bool.false_eq_true]
    constructor
    · intro h
      exact absurd (List.append_eq_nil_iff.1 h).1 ha
    · intro h; rw [h, h1] at h2; cases h2
  · simp only [if_true]
    rw [List.isEmpty_iff] at h1 h2
    simp [h1, h2]

theorem del_any (t a s : ByteArray) (w : World) (ht : t.size ≤ 131072) (ha : a.size ≤ 131072) (hs : s.size ≤ 131072) :
    Calls Try.prog 6 #[.string t, .string a, .string s] w fun e w' => e = .returned (.string (stmt t a (cond s))) ∧ w = w' := by
  cases hne : s.toList.isEmpty with
  | true =>
    have e : cond s = s := by unfold cond; rw [if_pos hne]
    rw [e]
    clear e
    go_enter Try.func6, Try.ntmps6
    go_wp2
    go_ret
    exact ⟨rfl, rfl⟩
  | false =>
    have e : cond s = andB ++ s := by unfold cond; rw [hne]; rfl
    rw [e]
    clear e
    go_enter Try.func6, Try.ntmps6
    go_wp2
    go_ret
    exact ⟨rfl, rfl⟩

theorem zzdel_any (t a s : ByteArray) (w : World) (ht : t.size ≤ 131072) (ha : a.size ≤ 131072) (hs : s.size ≤ 131072) :
    Calls Try.prog 5 #[.string t, .string a, .string s] w fun e w' => e = .returned (.string (stmt t a (cond s))) ∧ w = w' := by
  go_enter Try.func5, Try.ntmps5
  go_wp2_with (go_at_call 6; refine (del_any t a s _ ht ha hs).mono ?_; rintro e w1 ⟨rfl, rfl⟩)
  go_ret
  exact ⟨rfl, rfl⟩

set_option maxHeartbeats 800000 in
theorem zz_any (a0 a1 a2 a3 a4 a5 : ByteArray) (w : World) (w0 : a0.size ≤ maxLen) (w1 : a1.size ≤ maxLen) (w2 : a2.size ≤ maxLen) (w3 : a3.size ≤ maxLen) (w4 : a4.size ≤ maxLen) (w5 : a5.size ≤ maxLen) :
    Calls Try.prog 4 #[.string a0, .string a1, .string a2, .string a3, .string a4, .string a5] w fun e w' => ∃ b, e = .returned (.bool b) ∧ w = w' := by
  unfold maxLen at w0 w1 w2 w3 w4 w5
  go_enter Try.func4, Try.ntmps4
  go_wp2
  all_goals
    go_ret
    exact ⟨_, rfl, rfl⟩

theorem zz_true (a0 a1 a2 a3 a4 a5 : ByteArray) (w : World) (w0 : a0.size ≤ 131072) (w1 : a1.size ≤ 131072) (w2 : a2.size ≤ 131072) (w3 : a3.size ≤ 131072) (w4 : a4.size ≤ 131072) (w5 : a5.size ≤ 131072) :
    Calls Try.prog 4 #[.string a0, .string a1, .string a2, .string a3, .string a4, .string a5] w fun e w' => e = .returned (.bool true) ∧ w = w' := by
  go_enter Try.func4, Try.ntmps4
  go_wp2
  go_ret
  exact ⟨rfl, rfl⟩
end Go.Proofs.Qxb6601669a
