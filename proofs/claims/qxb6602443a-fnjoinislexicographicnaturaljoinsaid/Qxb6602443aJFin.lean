/-
  PLAIN: the count through all tuples meets the join's own tuples in order.
-/
import Derived.Test.Qxb6602443aJLast
namespace Go.Proofs.Qxb6602443a
open Go.RowKit Go.Deep Go.Maps
set_option linter.unusedVariables false
section
variable {nc nr : Nat → Nat} {name : Nat → Nat → ByteArray} {val : Nat → Nat → Nat → ByteArray} {K : Nat} {rl : Nat → Nat → Nat}

/-- The tuple agrees, as a test. -/
def consB (K : Nat) (nc : Nat → Nat) (name : Nat → Nat → ByteArray) (val : Nat → Nat → Nat → ByteArray) (tt : Nat → Nat) : Bool :=
  (List.range K).all fun k => (List.range (nc k)).all fun c => (List.range k).all fun k2 => (List.range (nc k2)).all fun c2 => !(decide (name k c = name k2 c2)) || decide (val k (tt k) c = val k2 (tt k2) c2)
theorem consB_iff {tt : Nat → Nat} : consB K nc name val tt = true ↔ Cons K nc name val tt := by
  simp only [consB, Cons, Meet, List.all_eq_true, List.mem_range, Bool.or_eq_true, Bool.not_eq_true', decide_eq_false_iff_not, decide_eq_true_eq]
  constructor
  · intro h k hk c hc k2 hk2 c2 hc2 e
    rcases h k hk c hc k2 hk2 c2 hc2 with h1 | h1
    · exact absurd e h1
    · exact h1
  · intro h k hk c hc k2 hk2 c2 hc2
    by_cases e : name k c = name k2 c2
    · exact .inr (h k hk c hc k2 hk2 c2 hc2 e)
    · exact .inl e

/-- The tuple of number i agrees. -/
def okI (nc nr : Nat → Nat) (name : Nat → Nat → ByteArray) (val : Nat → Nat → Nat → ByteArray) (K i : Nat) : Bool := consB K nc name val (tupF (dec nr K i))
def cntI (nc nr : Nat → Nat) (name : Nat → Nat → ByteArray) (val : Nat → Nat → Nat → ByteArray) (K n : Nat) : Nat := ((List.range n).filter (okI nc nr name val K)).length

theorem jT_okI (hD : InDom K nc nr name rl val) : jT nc name val nr K = ((List.range (prodN nr K)).filter (okI nc nr name val K)).map (dec nr K) := by
  have h := jT_filter hD (fun k t => consB k nc name val (tupF t)) (fun k t _ _ => consB_iff) K (Nat.le_refl _)
  rw [h, allT_dec, List.filter_map]
  rfl

theorem cntI_zero : cntI nc nr name val K 0 = 0 := by simp [cntI]
theorem cntI_yes {n : Nat} (h : Cons K nc name val (tupF (dec nr K n))) : cntI nc nr name val K (n + 1) = cntI nc nr name val K n + 1 := by
  have : okI nc nr name val K n = true := consB_iff.2 h
  simp [cntI, List.range_succ, List.filter_append, this]
theorem cntI_no {n : Nat} (h : ¬ Cons K nc name val (tupF (dec nr K n))) : cntI nc nr name val K (n + 1) = cntI nc nr name val K n := by
  have : okI nc nr name val K n = false := by rw [← Bool.not_eq_true]; exact fun e => h (consB_iff.1 e)
  simp [cntI, List.range_succ, List.filter_append, this]
theorem cntI_all (hD : InDom K nc nr name rl val) : cntI nc nr name val K (prodN nr K) = (jT nc name val nr K).length := by
  rw [jT_okI hD, List.length_map]
  rfl

theorem cntI_at (hD : InDom K nc nr name rl val) {n : Nat} (hn : n < prodN nr K) (h : Cons K nc name val (tupF (dec nr K n))) : (jT nc name val nr K)[cntI nc nr name val K n]? = some (dec nr K n) := by
  rw [jT_okI hD, List.getElem?_map]
  have e : List.range (prodN nr K) = List.range n ++ (n :: (List.range (prodN nr K - n - 1)).map (n + 1 + ·)) := by
    have h1 : prodN nr K = n + 1 + (prodN nr K - n - 1) := by omega
    conv => lhs; rw [h1, List.range_add, List.range_succ]
    simp
  have ho : okI nc nr name val K n = true := consB_iff.2 h
  rw [e, List.filter_append, List.filter_cons_of_pos ho]
  unfold cntI
  rw [List.getElem?_append_right (Nat.le_refl _)]
  simp

theorem prod_pos : ∀ K, 0 < prodN nr K → ∀ j, j < K → 0 < nr j
  | 0, _, j, hj => absurd hj (Nat.not_lt_zero _)
  | K + 1, h, j, hj => by
    have h' : 0 < prodN nr K * nr K := h
    by_cases e : j = K
    · rw [e]; exact Nat.pos_of_mul_pos_left h'
    · exact prod_pos K (Nat.pos_of_mul_pos_right h') j (by omega)

theorem prod_le (hD : InDom K nc nr name rl val) {k : Nat} (hk : k ≤ K) : prodN nr k ≤ 65536 := by
  cases k with
  | zero => simp [prodN]
  | succ k => exact (hD.prod k (by omega)).2

theorem dec_next {j rem : Nat} {l s : List Nat} (h : l = dec nr (j + 1) rem ++ s) : l = dec nr j (rem / nr j) ++ ((rem % nr j) :: s) ∧ tupF l j = rem % nr j := by
  have h1 : l = dec nr j (rem / nr j) ++ ((rem % nr j) :: s) := by rw [h]; simp [dec]
  refine ⟨h1, ?_⟩
  rw [h1]
  unfold tupF
  rw [List.getD_eq_getElem?_getD, List.getElem?_append_right (by rw [dec_length]; exact Nat.le_refl _), dec_length]
  simp

theorem dec_fit {n : Nat} (hn : n < prodN nr K) : Fits nr K (dec nr K n) := by
  apply allT_fits
  rw [allT_dec]
  exact List.mem_map.2 ⟨n, List.mem_range.2 hn, rfl⟩
end
end Go.Proofs.Qxb6602443a
