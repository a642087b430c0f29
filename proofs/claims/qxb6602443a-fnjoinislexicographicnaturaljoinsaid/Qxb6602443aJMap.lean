/-
  A MAP KEYED BY STRINGS, ITS ELEMENTS AS RAW VALUES: the laws of the join's two maps.
-/
import Derived.Test.Qxb6602443aJDefs
import Derived.Maps.OwnSet
import Derived.Maps.AppendAt
namespace Go.Proofs.Qxb6602443a
open Go.RowKit Go.Deep Go.Maps Go.WideMaps Go.WideElems
set_option linter.unusedVariables false

theorem law9 : Keyed Try.prog 9 := string_keyed Try.underlying9
/-- An element reads as itself. -/
def RVal : Value → Option (DataW Value × List MemPlace) := fun v => some (.held v, [])
def kl (s : ByteArray) : Lit := .string s.data.toList
theorem kl_ne {s s' : ByteArray} (h : s' ≠ s) : kl s' ≠ kl s := by
  intro e
  apply h
  unfold kl at e
  injection e with e
  cases s; cases s'
  simp only at e
  rw [Array.toList_inj] at e
  rw [e]

/-- Block b is a map of at most n entries that holds 'f s' at each key s (z: the element's zero). -/
def MapV (w : World) (b n : Nat) (z : Value) (f : ByteArray → Option Value) : Prop :=
  ∃ D : DataW Value, w.ownsMap Try.prog 9 RVal b n D ∧ ∀ s, Maps.has D (kl s) = (f s).isSome ∧ D.atKey (kl s) (.held z) = .held ((f s).getD z)

theorem mapV_made (w : World) (z : Value) : MapV (w.alloc (.map #[] 0)) w.heap.size 0 z (fun _ => none) :=
  ⟨.map [], World.ownsMap_made w _ _ _, fun s => ⟨rfl, rfl⟩⟩

theorem MapV.lt {w : World} {b n : Nat} {z : Value} {f : ByteArray → Option Value} (h : MapV w b n z f) : b < w.heap.size := by
  obtain ⟨D, h1, _⟩ := h
  exact h1.lt
theorem MapV.kept {w w' : World} {b n : Nat} {z : Value} {f : ByteArray → Option Value} {row : Option Nat} (h : MapV w b n z f) (hg : w.grownBy w' row) (hne : some b ≠ row) : MapV w' b n z f := by
  obtain ⟨D, h1, h2⟩ := h
  exact ⟨D, h1.kept hg hne, h2⟩
theorem grown_of_below {w w' : World} (h : Below w.heap.size w w') (row : Option Nat) : w.grownBy w' row := ⟨h.os, h.tape, h.output, h.size, fun k hk _ => h.block k hk⟩
theorem MapV.below {w w' : World} {b n : Nat} {z : Value} {f : ByteArray → Option Value} {B : Nat} (h : MapV w b n z f) (hb : Below B w w') (hB : b < B) : MapV w' b n z f := by
  obtain ⟨D, ⟨es, clock, h1, h2⟩, h3⟩ := h
  exact ⟨D, ⟨es, clock, (hb.block b hB).trans h1, h2⟩, h3⟩
theorem MapV.block {w : World} {b n : Nat} {z : Value} {f : ByteArray → Option Value} (h : MapV w b n z f) : ∃ es clock, w.heap[b]? = some (.map es clock) := by
  obtain ⟨D, ⟨es, clock, h1, _⟩, _⟩ := h
  exact ⟨es, clock, h1⟩

theorem held_inj {a b : Value} (h : (DataW.held a : DataW Value) = .held b) : a = b := by injection h

/-- 'v, ok := m[k]'. -/
theorem MapV.look_ok {w : World} {b n : Nat} {z : Value} {f : ByteArray → Option Value} (h : MapV w b n z f) {t e : TypeId} (ht : Try.prog.underlying t = some (.map 9 e)) (hz : (zeroValue e).run Try.prog w = .ok z w) (s : ByteArray) (hs : s.size ≤ maxLen) :
    (Instr.lookup t (.map (some b)) (.string s) true).run Try.prog w = .ok (.tuple #[(f s).getD z, .bool (f s).isSome]) w := by
  obtain ⟨D, h1, h2⟩ := h
  obtain ⟨v, ps, hrun, hv⟩ := h1.look_ok (R := RVal) law9 ht hz (zd := .held z) (zp := []) rfl (key := .string s) (kl := kl s) (keyOf_string_mk Try.underlying9 hs)
  rw [(h2 s).2] at hv
  unfold RVal at hv
  have e : v = (f s).getD z := by
    have := congrArg (fun o => o.map Prod.fst) hv
    simp only [Option.map_some, Option.some.injEq] at this
    exact held_inj this
  rw [hrun, (h2 s).1, e]
/-- 'm[k]'. -/
theorem MapV.look {w : World} {b n : Nat} {z : Value} {f : ByteArray → Option Value} (h : MapV w b n z f) {t e : TypeId} (ht : Try.prog.underlying t = some (.map 9 e)) (hz : (zeroValue e).run Try.prog w = .ok z w) (s : ByteArray) (hs : s.size ≤ maxLen) :
    (Instr.lookup t (.map (some b)) (.string s) false).run Try.prog w = .ok ((f s).getD z) w := by
  obtain ⟨D, h1, h2⟩ := h
  obtain ⟨v, ps, hrun, hv⟩ := h1.lookup (R := RVal) law9 ht hz (zd := .held z) (zp := []) rfl (key := .string s) (kl := kl s) (keyOf_string_mk Try.underlying9 hs)
  rw [(h2 s).2] at hv
  unfold RVal at hv
  have e : v = (f s).getD z := by
    have := congrArg (fun o => o.map Prod.fst) hv
    simp only [Option.map_some, Option.some.injEq] at this
    exact held_inj this
  rw [hrun, e]
def upd (f : ByteArray → Option Value) (s : ByteArray) (v : Value) : ByteArray → Option Value := fun s' => if (s'.toList == s.toList) = true then some v else f s'
/-- 'm[k] = v'. -/
theorem MapV.store {w : World} {b n : Nat} {z : Value} {f : ByteArray → Option Value} (h : MapV w b n z f) {t e : TypeId} (ht : Try.prog.underlying t = some (.map 9 e)) (hn : n < maxLen) (s : ByteArray) (hs : s.size ≤ maxLen) (v : Value) :
    ∃ w', (Instr.mapUpdate t (.map (some b)) (.string s) v).run Try.prog w = .ok () w' ∧ MapV w' b (n + 1) z (upd f s v) ∧ w.grownBy w' (some b) := by
  obtain ⟨D, h1, h2⟩ := h
  have hkey : keyOf Try.prog 9 (.string s) = some (kl s) := keyOf_string_mk Try.underlying9 hs
  obtain ⟨w', hrun, h3, h4⟩ := h1.update law9 ht hn (val := v) (d := .held v) (ps := []) hkey rfl
  refine ⟨w', hrun, ⟨_, h3, fun s' => ?_⟩, h4⟩
  have hk : WideAt.IsKeyLit (kl s) := by trivial
  by_cases e : s' = s
  · subst e
    unfold upd
    rw [if_pos (beq_str rfl)]
    exact ⟨has_put_same h1.isMap hk _, atKey_put_same h1.isMap hk _ _⟩
  · unfold upd
    rw [beq_str_no e]
    rw [has_put_other (kl_ne e), atKey_put_other (kl_ne e)]
    exact h2 s'
end Go.Proofs.Qxb6602443a
