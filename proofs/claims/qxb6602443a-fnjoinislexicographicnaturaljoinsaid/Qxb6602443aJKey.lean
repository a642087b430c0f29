/-
  THE KEYS OF THE JOIN: a row's values in some columns, joined on NUL; the walks over 'pick' and 'combination'.
-/
import Derived.Test.Qxb6602443aJDefs
namespace Go.Proofs.Qxb6602443a
open Go.RowKit Go.Deep
set_option linter.unusedVariables false

/-- A slice of n one-cell elements, by index, below block B. -/
def RowB (B : Nat) (w : World) (ad : Option Addr) (n : Nat) (f : Nat → Value) : Prop := ∀ i, i < n → ∃ b o, ad = some ⟨b, o, none⟩ ∧ b < B ∧ w.cell? ⟨b, o + i, none⟩ = some (f i)
theorem RowB.later {B : Nat} {w w' : World} {ad : Option Addr} {n : Nat} {f : Nat → Value} (h : RowB B w ad n f) (hb : Below B w w') : RowB B w' ad n f := fun i hi => by
  obtain ⟨b, o, h1, h2, h3⟩ := h i hi
  exact ⟨b, o, h1, h2, (hb.cell (p := ⟨b, o + i, none⟩) h2).trans h3⟩
theorem RowB.mono {B B' : Nat} {w : World} {ad : Option Addr} {n : Nat} {f : Nat → Value} (h : RowB B w ad n f) (hB : B ≤ B') : RowB B' w ad n f := fun i hi => by
  obtain ⟨b, o, h1, h2, h3⟩ := h i hi
  exact ⟨b, o, h1, by omega, h3⟩

/-! ### The key is told by its parts -/
def keyB (xs : List ByteArray) : ByteArray := ⟨(Lib.join (xs.map (·.data.toList)) [0]).toArray⟩

theorem split_zero : ∀ (x y t t2 : List UInt8), (0 : UInt8) ∉ x → (0 : UInt8) ∉ y → (t = [] ∨ ∃ r, t = 0 :: r) → (t2 = [] ∨ ∃ r, t2 = 0 :: r) → x ++ t = y ++ t2 → x = y ∧ t = t2
  | [], [], t, t2, _, _, _, _, h => ⟨rfl, h⟩
  | [], b :: y, t, t2, _, hy, ht, _, h => by
    rcases ht with rfl | ⟨r, rfl⟩
    · simp at h
    · simp at h
      exact absurd h.1 (fun e => hy (by rw [← e]; simp))
  | a :: x, [], t, t2, hx, _, _, ht2, h => by
    rcases ht2 with rfl | ⟨r, rfl⟩
    · simp at h
    · simp at h
      exact absurd h.1 (fun e => hx (by rw [e]; simp))
  | a :: x, b :: y, t, t2, hx, hy, ht, ht2, h => by
    simp only [List.cons_append, List.cons.injEq] at h
    obtain ⟨h1, h2⟩ := h
    obtain ⟨h3, h4⟩ := split_zero x y t t2 (fun e => hx (List.mem_cons_of_mem _ e)) (fun e => hy (List.mem_cons_of_mem _ e)) ht ht2 h2
    exact ⟨by rw [h1, h3], h4⟩

theorem joinTail_cons (a : List UInt8) (r : List (List UInt8)) : Lib.joinTail [0] (a :: r) = 0 :: (a ++ Lib.joinTail [0] r) := by simp [Lib.joinTail]
theorem joinTail_form (r : List (List UInt8)) : Lib.joinTail [0] r = [] ∨ ∃ t, Lib.joinTail [0] r = 0 :: t := by
  cases r with
  | nil => exact .inl rfl
  | cons a r => exact .inr ⟨_, joinTail_cons a r⟩

theorem joinTail_inj : ∀ (r r2 : List (List UInt8)), (∀ x ∈ r, (0 : UInt8) ∉ x) → (∀ x ∈ r2, (0 : UInt8) ∉ x) → Lib.joinTail [0] r = Lib.joinTail [0] r2 → r = r2
  | [], [], _, _, _ => rfl
  | [], b :: r2, _, _, h => by rw [joinTail_cons] at h; simp [Lib.joinTail] at h
  | a :: r, [], _, _, h => by rw [joinTail_cons] at h; simp [Lib.joinTail] at h
  | a :: r, b :: r2, h1, h2, h => by
    rw [joinTail_cons, joinTail_cons] at h
    simp only [List.cons.injEq, true_and] at h
    obtain ⟨e1, e2⟩ := split_zero a b _ _ (h1 a (by simp)) (h2 b (by simp)) (joinTail_form r) (joinTail_form r2) h
    rw [e1, joinTail_inj r r2 (fun x hx => h1 x (by simp [hx])) (fun x hx => h2 x (by simp [hx])) e2]

theorem join_inj (xs ys : List (List UInt8)) (hl : xs.length = ys.length) (h1 : ∀ x ∈ xs, (0 : UInt8) ∉ x) (h2 : ∀ x ∈ ys, (0 : UInt8) ∉ x) (h : Lib.join xs [0] = Lib.join ys [0]) : xs = ys := by
  match xs, ys, hl with
  | [], [], _ => rfl
  | a :: r, b :: r2, _ =>
    rw [Lib.join_cons, Lib.join_cons] at h
    obtain ⟨e1, e2⟩ := split_zero a b _ _ (h1 a (by simp)) (h2 b (by simp)) (joinTail_form r) (joinTail_form r2) h
    rw [e1, joinTail_inj r r2 (fun x hx => h1 x (by simp [hx])) (fun x hx => h2 x (by simp [hx])) e2]

theorem noNul_mem {s : ByteArray} (h : NoNul s) : (0 : UInt8) ∉ s.data.toList := by
  intro hm
  obtain ⟨i, hi, e⟩ := List.getElem_of_mem hm
  have hi' : i < s.size := by simpa using hi
  have := h i hi'
  apply this
  have e2 : s[i] = 0 := e
  rw [e2]
  rfl

theorem keyB_inj {xs ys : List ByteArray} (hl : xs.length = ys.length) (h1 : ∀ x ∈ xs, NoNul x) (h2 : ∀ x ∈ ys, NoNul x) : keyB xs = keyB ys ↔ xs = ys := by
  constructor
  · intro h
    have h3 : Lib.join (xs.map (·.data.toList)) [0] = Lib.join (ys.map (·.data.toList)) [0] := by
      have := congrArg ByteArray.data h
      exact Array.toList_inj.2 this |> fun e => by simpa [keyB] using e
    have h4 := join_inj _ _ (by simpa using hl) (fun x hx => by obtain ⟨s, hs, rfl⟩ := List.mem_map.1 hx; exact noNul_mem (h1 s hs)) (fun x hx => by obtain ⟨s, hs, rfl⟩ := List.mem_map.1 hx; exact noNul_mem (h2 s hs)) h3
    refine List.map_inj_right (f := fun s : ByteArray => s.data.toList) (fun a b e => ?_) |>.1 h4
    cases a; cases b
    simp only at e
    rw [Array.toList_inj] at e
    rw [e]
  · intro h; rw [h]

theorem lens_le (xs : List ByteArray) (m : Nat) (h : ∀ x ∈ xs, x.size ≤ m) : Lib.lens (xs.map (·.data.toList)) ≤ xs.length * m := by
  induction xs with
  | nil => simp [Lib.lens]
  | cons a r ih =>
    have h1 := ih (fun x hx => h x (by simp [hx]))
    have h2 : a.data.toList.length ≤ m := h a (by simp)
    simp only [List.map_cons, Lib.lens, List.length_cons] at h1 ⊢
    rw [Nat.succ_mul]
    simp only [List.sum_cons] at *
    omega

theorem join_len (xs : List ByteArray) (hn : xs.length ≤ 65536) (h : ∀ x ∈ xs, x.size ≤ 1048576) : (Lib.join (xs.map (·.data.toList)) [0]).length ≤ 140737488355328 := by
  have hl := lens_le xs 1048576 h
  cases xs with
  | nil => simp [Lib.join_nil]
  | cons a r =>
    rw [List.map_cons] at hl ⊢
    rw [Lib.join_length]
    simp only [List.length_cons, List.length_map, List.length_nil] at hl hn ⊢
    omega

/-! ### The walks -/
theorem Try.info9 : (Try.prog.info? 9).map (fun i => (i.zero, i.size, i.bytes)) = some (some (.string ⟨#[]⟩), 1, 16) := by kernel_rfl

theorem pick_step {wr : World} {N q k : Nat} {f : Nat → ByteArray} {cs : List Nat} {g : Nat → Value} (hr : wr.rowIs N 9 q (fun j => if j < k then .string (f (cs.getD j 0)) else g j)) :
    (wr.setCell ⟨N, k, none⟩ (.string (f (cs.getD k 0)))).rowIs N 9 q (fun j => if j < k + 1 then .string (f (cs.getD j 0)) else g j) := by
  refine (hr.set k _).congr fun i hi => ?_
  by_cases h : i = k
  · subst h; simp
  · rw [if_neg h]
    by_cases h2 : i < k
    · rw [if_pos h2, if_pos (by omega)]
    · rw [if_neg h2, if_neg (by omega)]

set_option maxRecDepth 100000 in
set_option maxHeartbeats 1000000 in
theorem pick_any (X Y : Option Addr) (L lc q qc : Nat) (f : Nat → ByteArray) (cs : List Nat) (w : World) (hqb : q ≤ 65536) (hL : L ≤ 65536)
    (hrow : RowB w.heap.size w X L (fun i => .string (f i))) (hcs : RowB w.heap.size w Y q (fun i => .int .i64 ((cs.getD i 0 : Nat) : Int))) (hlt : ∀ i, i < q → cs.getD i 0 < L) :
    Calls Try.prog 21 #[.slice X L lc, .slice Y q qc] w fun e w' => e = .returned (.slice (some ⟨w.heap.size, 0, none⟩) q q) ∧ w'.rowIs w.heap.size 9 q (fun i => .string (f (cs.getD i 0))) ∧ Below w.heap.size w w' := by
  have hmk := run_make_row' (P := Try.prog) 30 9 (.string ⟨#[]⟩) 16 Try.underlying30 Try.info9 rfl .i64 .i64 q (by omega) (by omega)
  have h0 := World.rowIs_made w (.string ⟨#[]⟩) q 9
  have HLT : Hid (∀ i, i < q → cs.getD i 0 < L) := hlt
  clear hlt
  go_enter Try.func21, Try.ntmps21
  go_wp2
  go_loopg [13] q (fun g i wr => ∃ k : Nat, g = q - k ∧ k ≤ q ∧ i = .int .i64 k ∧ wr.rowIs w.heap.size 9 q (fun j => if j < k then .string (f (cs.getD j 0)) else .string ⟨#[]⟩) ∧ Below w.heap.size w wr)
  case atStart => exact ⟨0, rfl, Nat.zero_le _, rfl, h0.congr fun i hi => by simp, (Below.refl _ _).alloc (Nat.le_refl _) _⟩
  case round =>
    clear h0
    obtain ⟨k, hg, hk, rfl, hr, hbel⟩ := hrel
    have HG : Hid (gk = q - k ∧ wr.rowIs w.heap.size 9 q (fun j => if j < k then .string (f (cs.getD j 0)) else .string ⟨#[]⟩)) := ⟨hg, hr⟩
    clear hg
    by_cases hl : k < q
    · obtain ⟨b, o, hx, hb, hc⟩ := hcs k hl
      have hcl := HLT.out k hl
      obtain ⟨b2, o2, hx2, hb2, hc2⟩ := hrow (cs.getD k 0) hcl
      have hc' := (hbel.cell (p := ⟨b, o + k, none⟩) hb).trans hc
      have hc2' := (hbel.cell (p := ⟨b2, o2 + cs.getD k 0, none⟩) hb2).trans hc2
      have hcr := hr.cell hl
      have hfr := hr.frozen k
      rw [if_neg (Nat.lt_irrefl k)] at hcr
      obtain ⟨x, hxx⟩ : ∃ x, x = cs.getD k 0 := ⟨_, rfl⟩
      dsimp only at hc' hc2'
      rw [← hxx] at hc' hc2' hcl
      have HX : Hid (x = cs.getD k 0) := hxx
      obtain ⟨s, hss⟩ : ∃ s, s = f x := ⟨_, rfl⟩
      rw [← hss] at hc2'
      have HS : Hid (s = f x) := hss
      clear hc hc2 hr hxx hss
      cases hx
      cases hx2
      go_wp2
      have R := pick_step HG.out.2
      rw [← HX.out, ← HS.out] at R
      go_roundg (q - (k + 1))
      case measure => rw [HG.out.1]; omega
      case rel => exact ⟨k + 1, rfl, by omega, by go_num, R, hbel.setCell (Nat.le_refl _) _⟩
    · have hkq : q = k := by omega
      subst hkq
      go_wp2
      go_ret
      exact ⟨rfl, HG.out.2.congr fun i hi => by rw [if_pos hi], hbel⟩

theorem comb_any (b c : Nat) (xs : List ByteArray) (w : World) (hb : b < w.heap.size) (hc : xs.length ≤ c) (hn : xs.length ≤ 65536) (hs : ∀ x ∈ xs, x.size ≤ 1048576)
    (hcells : ∀ (j : Nat) x, xs[j]? = some x → w.cell? ⟨b, 0 + j, none⟩ = some (.string x)) :
    Calls Try.prog 20 #[.slice (some ⟨b, 0, none⟩) xs.length c] w fun e w' => e = .returned (.string (keyB xs)) ∧ Below w.heap.size w w' := by
  have hlen := join_len xs hn hs
  go_enter Try.func20, Try.ntmps20
  go_wp2_with (go_at_call 22; refine (Try.strings_Join b 0 c xs ⟨#[0]⟩ _ hcells hb (by omega) hc hlen).mono ?_; rintro e w1 ⟨rfl, hb1⟩)
  go_ret
  exact ⟨rfl, hb1⟩
end Go.Proofs.Qxb6602443a
