/-
  THE PLAIN LAW of the join: its tuples are the agreeing ones of all tuples, in order. No Go in sight.
-/
import Derived.Test.Qxb6602443aJTup
namespace Go.Proofs.Qxb6602443a

section
variable {nc : Nat → Nat} {name : Nat → Nat → ByteArray} {val : Nat → Nat → Nat → ByteArray}

theorem str_inj {a b : ByteArray} (h : (a.toList == b.toList) = true) : a = b := by
  by_cases e : a = b
  · exact e
  · rw [beq_str_no e] at h; cases h

/-! ### Who owns a name -/
theorem stC_mem {k : Nat} {st0 : List Ent} : ∀ c, ∀ e ∈ stC name k st0 c, e ∈ st0 ∨ (e.2.1 = k ∧ e.2.2 < c ∧ name k e.2.2 = e.1)
  | 0, e, h => .inl h
  | c + 1, e, h => by
    simp only [stC, stStep] at h
    split at h
    · rcases stC_mem c e h with h1 | ⟨h1, h2, h3⟩
      · exact .inl h1
      · exact .inr ⟨h1, by omega, h3⟩
    · rcases List.mem_append.1 h with h | h
      · rcases stC_mem c e h with h1 | ⟨h1, h2, h3⟩
        · exact .inl h1
        · exact .inr ⟨h1, by omega, h3⟩
      · simp only [List.mem_singleton] at h
        subst h
        exact .inr ⟨rfl, Nat.lt_succ_self _, rfl⟩

theorem stS_mem : ∀ k, ∀ e ∈ stS nc name k, e.2.1 < k ∧ e.2.2 < nc e.2.1 ∧ name e.2.1 e.2.2 = e.1
  | 0, e, h => by simp [stS] at h
  | k + 1, e, h => by
    rcases stC_mem (nc k) e h with h1 | ⟨h1, h2, h3⟩
    · obtain ⟨a, b, c⟩ := stS_mem k e h1
      exact ⟨by omega, b, c⟩
    · exact ⟨by omega, by rw [h1]; exact h2, by rw [h1]; exact h3⟩

theorem hasName_mono {st st' : List Ent} (h : st <+: st') {s : ByteArray} (hs : hasName st s = true) : hasName st' s = true := by
  obtain ⟨t, rfl⟩ := h
  unfold hasName at hs ⊢
  rw [List.any_append, hs]
  rfl

theorem stS_has {k k2 c2 : Nat} (hk : k2 < k) (hc : c2 < nc k2) : hasName (stS nc name k) (name k2 c2) = true := by
  have h1 : hasName (stC name k2 (stS nc name k2) (c2 + 1)) (name k2 c2) = true := by
    show hasName (stStep name k2 (stC name k2 (stS nc name k2) c2) c2) (name k2 c2) = true
    cases hh : hasName (stC name k2 (stS nc name k2) c2) (name k2 c2) with
    | true => rw [stStep_seen hh]; exact hh
    | false =>
      rw [stStep_new hh]
      unfold hasName
      rw [List.any_append]
      simp
  exact hasName_mono (stAt_prefix nc name hk (show c2 + 1 ≤ nc k2 by omega)) h1

theorem find_some {st : List Ent} {s : ByteArray} (h : hasName st s = true) : ∃ e, st.find? (fun e => e.1.toList == s.toList) = some e := by
  unfold hasName at h
  rw [List.any_eq_true] at h
  obtain ⟨e, he, h1⟩ := h
  cases hf : st.find? (fun e => e.1.toList == s.toList) with
  | some e => exact ⟨e, rfl⟩
  | none =>
    rw [List.find?_eq_none] at hf
    exact absurd h1 (hf e he)
theorem find_none {st : List Ent} {s : ByteArray} (h : hasName st s = false) : st.find? (fun e => e.1.toList == s.toList) = none := by
  rw [List.find?_eq_none]
  intro e he h1
  have : hasName st s = true := by unfold hasName; rw [List.any_eq_true]; exact ⟨e, he, h1⟩
  rw [h] at this; cases this

theorem owner_of {k : Nat} {s : ByteArray} {e : Ent} (h : (stS nc name k).find? (fun e => e.1.toList == s.toList) = some e) : e.2.1 < k ∧ e.2.2 < nc e.2.1 ∧ name e.2.1 e.2.2 = s := by
  have h1 := List.mem_of_find?_eq_some h
  have h2 := List.find?_some h
  obtain ⟨a, b, c⟩ := stS_mem k e h1
  exact ⟨a, b, c.trans (str_inj h2)⟩

/-- One column more: the two lists grow together. -/
theorem left_right_step (k c : Nat) : (∃ e, (stS nc name k).find? (fun e => e.1.toList == (name k c).toList) = some e ∧ leftL nc name k (c + 1) = leftL nc name k c ++ [e] ∧ rightL nc name k (c + 1) = rightL nc name k c ++ [c] ∧ hasName (stS nc name k) (name k c) = true) ∨
    ((stS nc name k).find? (fun e => e.1.toList == (name k c).toList) = none ∧ leftL nc name k (c + 1) = leftL nc name k c ∧ rightL nc name k (c + 1) = rightL nc name k c ∧ hasName (stS nc name k) (name k c) = false) := by
  cases hh : hasName (stS nc name k) (name k c) with
  | true =>
    obtain ⟨e, he⟩ := find_some hh
    exact .inl ⟨e, he, by simp [leftL, he], by simp [rightL, hh], rfl⟩
  | false =>
    have he := find_none hh
    exact .inr ⟨he, by simp [leftL, he], by simp [rightL, hh], rfl⟩

theorem left_right_length (k : Nat) : ∀ c, (leftL nc name k c).length = (rightL nc name k c).length
  | 0 => rfl
  | c + 1 => by
    have ih := left_right_length k c
    rcases left_right_step (nc := nc) (name := name) k c with ⟨e, _, h1, h2, _⟩ | ⟨_, h1, h2, _⟩
    · rw [h1, h2]; simp [ih]
    · rw [h1, h2]; exact ih

theorem left_length_le (k : Nat) : ∀ c, (leftL nc name k c).length ≤ c
  | 0 => Nat.le_refl _
  | c + 1 => by
    have ih := left_length_le k c
    rcases left_right_step (nc := nc) (name := name) k c with ⟨e, _, h1, _, _⟩ | ⟨_, h1, _, _⟩
    · rw [h1]; simp; omega
    · rw [h1]; omega

theorem right_mem (k : Nat) : ∀ c, ∀ x ∈ rightL nc name k c, x < c
  | 0, x, h => by simp [rightL] at h
  | c + 1, x, h => by
    rcases left_right_step (nc := nc) (name := name) k c with ⟨e, _, _, h2, _⟩ | ⟨_, _, h2, _⟩
    · rw [h2] at h
      rcases List.mem_append.1 h with h | h
      · have := right_mem k c x h; omega
      · simp only [List.mem_singleton] at h; omega
    · rw [h2] at h
      have := right_mem k c x h; omega

theorem left_mem (k : Nat) : ∀ c, ∀ e ∈ leftL nc name k c, e.2.1 < k ∧ e.2.2 < nc e.2.1
  | 0, x, h => by simp [leftL] at h
  | c + 1, x, h => by
    rcases left_right_step (nc := nc) (name := name) k c with ⟨e, he, h1, _, _⟩ | ⟨_, h1, _, _⟩
    · rw [h1] at h
      rcases List.mem_append.1 h with h | h
      · exact left_mem k c x h
      · simp only [List.mem_singleton] at h
        subst h
        exact ⟨(owner_of he).1, (owner_of he).2.1⟩
    · rw [h1] at h
      exact left_mem k c x h

theorem concat_inj {α : Type} {a b : List α} {x y : α} : a ++ [x] = b ++ [y] ↔ a = b ∧ x = y := by
  constructor
  · intro h
    have h1 := congrArg List.length h
    simp at h1
    obtain ⟨h2, h3⟩ := List.append_inj h h1
    exact ⟨h2, by simpa using h3⟩
  · rintro ⟨rfl, rfl⟩; rfl

theorem maps_eq_iff (k : Nat) (f : Nat → ByteArray) (g : Ent → ByteArray) : ∀ c, ((rightL nc name k c).map f = (leftL nc name k c).map g ↔ ∀ c', c' < c → ∀ e, (stS nc name k).find? (fun e => e.1.toList == (name k c').toList) = some e → f c' = g e)
  | 0 => by simp [rightL, leftL]
  | c + 1 => by
    have ih := maps_eq_iff k f g c
    rcases left_right_step (nc := nc) (name := name) k c with ⟨e, he, h1, h2, _⟩ | ⟨he, h1, h2, _⟩
    · rw [h1, h2, List.map_append, List.map_append, List.map_singleton, List.map_singleton, concat_inj, ih]
      constructor
      · rintro ⟨a, b⟩ c' hc' e' he'
        by_cases ec : c' = c
        · subst ec; rw [he] at he'; cases he'; exact b
        · exact a c' (by omega) e' he'
      · intro h
        exact ⟨fun c' hc' e' he' => h c' (by omega) e' he', h c (by omega) e he⟩
    · rw [h1, h2, ih]
      constructor
      · intro a c' hc' e' he'
        by_cases ec : c' = c
        · subst ec; rw [he] at he'; cases he'
        · exact a c' (by omega) e' he'
      · intro h c' hc' e' he'
        exact h c' (by omega) e' he'

theorem agree_iff {K k r : Nat} {nr : Nat → Nat} {rl : Nat → Nat → Nat} {t : List Nat} (hD : InDom K nc nr name rl val) (hk : k < K) (hr : r < nr k) (ht : Fits nr k t) :
    agree nc name val k t r = true ↔ ∀ c, c < nc k → ∀ e, (stS nc name k).find? (fun e => e.1.toList == (name k c).toList) = some e → val k r c = val e.2.1 (tupF t e.2.1) e.2.2 := by
  unfold agree
  have hkey : ((keyR nc name val k r).toList == (keyL nc name val k t).toList) = true ↔ keyR nc name val k r = keyL nc name val k t := ⟨str_inj, beq_str⟩
  rw [hkey]
  unfold keyR keyL
  rw [keyB_inj (by simp [left_right_length]) ?_ ?_, maps_eq_iff]
  · intro x hx
    obtain ⟨c, hc, rfl⟩ := List.mem_map.1 hx
    exact (hD.wide k hk r hr).2 c (right_mem k (nc k) c hc)
  · intro x hx
    obtain ⟨e, he, rfl⟩ := List.mem_map.1 hx
    obtain ⟨h1, h2⟩ := left_mem k (nc k) e he
    exact (hD.wide e.2.1 (by omega) _ (ht.2 e.2.1 h1)).2 e.2.2 h2

theorem tupF_left {t : List Nat} {k r i : Nat} (hl : t.length = k) (hi : i < k) : tupF (t ++ [r]) i = tupF t i := by
  unfold tupF
  rw [List.getD_eq_getElem?_getD, List.getElem?_append_left (by omega), ← List.getD_eq_getElem?_getD]
theorem tupF_last {t : List Nat} {k r : Nat} (hl : t.length = k) : tupF (t ++ [r]) k = r := by
  unfold tupF
  rw [List.getD_eq_getElem?_getD, List.getElem?_append_right (by omega), hl]
  simp

theorem cons_succ {K k r : Nat} {nr : Nat → Nat} {rl : Nat → Nat → Nat} {t : List Nat} (hD : InDom K nc nr name rl val) (hk : k < K) (hr : r < nr k) (ht : Fits nr k t) :
    Cons (k + 1) nc name val (tupF (t ++ [r])) ↔ Cons k nc name val (tupF t) ∧ agree nc name val k t r = true := by
  rw [agree_iff hD hk hr ht]
  have hl := ht.1
  constructor
  · intro h
    refine ⟨fun k1 hk1 c hc k2 hk2 c2 hc2 hn => ?_, fun c hc e he => ?_⟩
    · have := h k1 (by omega) c hc k2 hk2 c2 hc2 hn
      rwa [tupF_left hl hk1, tupF_left hl (by omega)] at this
    · obtain ⟨h1, h2, h3⟩ := owner_of he
      have := h k (by omega) c hc e.2.1 h1 e.2.2 h2 h3.symm
      rwa [tupF_last hl, tupF_left hl h1] at this
  · rintro ⟨h1, h2⟩ k1 hk1 c hc k2 hk2 c2 hc2 hn
    by_cases e1 : k1 = k
    · subst e1
      rw [tupF_last hl, tupF_left hl hk2]
      have hhas := stS_has (name := name) hk2 hc2
      obtain ⟨e, he⟩ := find_some (st := stS nc name k1) (s := name k1 c) (by rw [hn]; exact hhas)
      obtain ⟨o1, o2, o3⟩ := owner_of he
      rw [h2 c hc e he]
      rcases Nat.lt_trichotomy e.2.1 k2 with hlt | heq | hgt
      · exact (h1 k2 (by omega) c2 hc2 e.2.1 hlt e.2.2 o2 (hn.symm.trans o3.symm)).symm
      · have hcc : e.2.2 = c2 := by
          have hnn : name k2 e.2.2 = name k2 c2 := by rw [← heq, o3, hn, heq]
          rw [heq] at o2
          rcases Nat.lt_trichotomy e.2.2 c2 with hl2 | he2 | hg2
          · exact absurd hnn (hD.dist k2 (by omega) c2 hc2 e.2.2 hl2)
          · exact he2
          · exact absurd hnn.symm (hD.dist k2 (by omega) e.2.2 o2 c2 hg2)
        rw [heq, hcc]
      · exact h1 e.2.1 o1 e.2.2 o2 k2 hgt c2 hc2 (o3.trans hn)
    · have hk1' : k1 < k := by omega
      rw [tupF_left hl hk1', tupF_left hl (by omega)]
      exact h1 k1 hk1' c hc k2 hk2 c2 hc2 hn

/-- THE JOIN's TUPLES ARE THE AGREEING ONES, IN ORDER. -/
theorem jT_filter {K : Nat} {nr : Nat → Nat} {rl : Nat → Nat → Nat} (hD : InDom K nc nr name rl val) (p : Nat → List Nat → Bool) (hp : ∀ k t, k ≤ K → Fits nr k t → (p k t = true ↔ Cons k nc name val (tupF t))) :
    ∀ k, k ≤ K → jT nc name val nr k = (allT nr k).filter (p k)
  | 0, h => by
    have : p 0 [] = true := (hp 0 [] h ⟨rfl, fun i hi => absurd hi (by omega)⟩).2 (fun k1 hk1 => absurd hk1 (by omega))
    simp [jT, allT, this]
  | k + 1, h => by
    have ih := jT_filter hD p hp k (by omega)
    show (jT nc name val nr k).flatMap _ = ((allT nr k).flatMap _).filter _
    rw [ih, List.filter_flatMap]
    have hall := allT_fits nr k
    generalize allT nr k = l at hall ⊢
    induction l with
    | nil => rfl
    | cons t l ihl =>
      have hft := hall t (by simp)
      have hrest := ihl (fun t ht => hall t (by simp [ht]))
      have hstep : ((List.range (nr k)).map fun r => t ++ [r]).filter (p (k + 1)) = if p k t = true then (meets nc name val nr k t).map (fun r => t ++ [r]) else [] := by
        rw [List.filter_map]
        unfold meets
        have hpt := hp k t (by omega) hft
        by_cases hc : p k t = true
        · rw [if_pos hc]
          congr 1
          apply List.filter_congr
          intro r hr
          have hr' := List.mem_range.1 hr
          have hfit : Fits nr (k + 1) (t ++ [r]) := by
            refine ⟨by simp [hft.1], fun i hi => ?_⟩
            by_cases e : i = k
            · subst e; show tupF (t ++ [r]) i < _; rw [tupF_last hft.1]; exact hr'
            · show tupF (t ++ [r]) i < _; rw [tupF_left hft.1 (by omega)]; exact hft.2 i (by omega)
          rw [Bool.eq_iff_iff]
          show p (k + 1) (t ++ [r]) = true ↔ _
          rw [hp (k + 1) _ h hfit, cons_succ hD (by omega) hr' hft]
          exact ⟨fun x => x.2, fun x => ⟨hpt.1 hc, x⟩⟩
        · rw [if_neg hc]
          have : (List.range (nr k)).filter (p (k + 1) ∘ fun r => t ++ [r]) = [] := by
            rw [List.filter_eq_nil_iff]
            intro r hr hh
            have hr' := List.mem_range.1 hr
            have hfit : Fits nr (k + 1) (t ++ [r]) := by
              refine ⟨by simp [hft.1], fun i hi => ?_⟩
              by_cases e : i = k
              · subst e; show tupF (t ++ [r]) i < _; rw [tupF_last hft.1]; exact hr'
              · show tupF (t ++ [r]) i < _; rw [tupF_left hft.1 (by omega)]; exact hft.2 i (by omega)
            have := (hp (k + 1) _ h hfit).1 hh
            rw [cons_succ hD (by omega) hr' hft] at this
            exact hc (hpt.2 this.1)
          rw [this]; rfl
      rw [List.flatMap_cons, hstep, List.filter_cons]
      by_cases hc : p k t = true
      · rw [if_pos hc, if_pos hc, List.flatMap_cons, hrest]
      · rw [if_neg hc, if_neg hc, hrest]; rfl
end
end Go.Proofs.Qxb6602443a
