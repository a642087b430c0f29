/-
  THE WALKS over the laws' own helpers: the domain test, the filter test; the copy of the rows.
-/
import Derived.Test.Qxb6602443aJobs
import Derived.Laws.CopyOwn
namespace Go.Proofs.Qxb6602443a
open Go.RowKit Go.Deep Go.ChangeShapes Go.WideShapes Go.ChangeAt
set_option linter.unusedVariables false

/-- A slice of ints of n cells that reads zs. -/
def RowZ (w : World) (ad : Option Addr) (n : Nat) (zs : List Int) : Prop :=
  zs.length = n ∧ (n = 0 ∨ ∃ b off, ad = some ⟨b, off, none⟩ ∧ b < w.heap.size ∧ ∀ k, k < n → w.cell? ⟨b, off + k, none⟩ = some (.int .i64 (zs.getD k 0)))
theorem RowZ.at {w : World} {ad : Option Addr} {n : Nat} {rs : List Int} (h : RowZ w ad n rs) {k : Nat} (hk : k < n) : ∃ b off, ad = some ⟨b, off, none⟩ ∧ w.cell? ⟨b, off + k, none⟩ = some (.int .i64 (rs.getD k 0)) := by
  rcases h.2 with h2 | ⟨b, off, h3, h4, h5⟩
  · omega
  · exact ⟨b, off, h3, h5 k hk⟩

/-- What the frame tells of a slice of ints, as a 'RowZ'. -/
theorem row_of {w : World} {a : Option Addr} {len cap : Nat} {zs : List Int}
    (h : (a = none ∧ len = 0 ∧ cap = 0 ∧ zs = []) ∨ ∃ x, a = some x ∧ len ≤ cap ∧ cap ≤ maxLen ∧ zs.length = cap ∧ (∀ i, i < zs.length → w.cell? (x.add i) = some (.int .i64 (zs.getD i 0))) ∧ ∀ n ∈ zs, (Lit.int .i64 n).wf = true) :
    RowZ w a len (zs.take len) := by
  rcases h with ⟨rfl, rfl, rfl, rfl⟩ | ⟨x, rfl, h1, h2, h3, h4, _⟩
  · exact ⟨rfl, .inl rfl⟩
  · refine ⟨by simp; omega, ?_⟩
    by_cases h0 : len = 0
    · exact .inl h0
    · right
      obtain ⟨b, off, spot⟩ := x
      have hspot : spot = none := by simpa [Addr.add] using World.cell?_spot (h4 0 (by omega))
      subst hspot
      refine ⟨b, off, rfl, ?_, fun k hk => ?_⟩
      · have := h4 0 (by omega)
        simpa [Addr.add] using World.block_lt_of_cell? w _ this
      · have := h4 k (by omega)
        rw [List.getD_eq_getElem?_getD, List.getElem?_take_of_lt hk, ← List.getD_eq_getElem?_getD]
        rw [add_plain] at this
        exact this

/-- Every row's job is one of 0 .. J-1. -/
def Dom (zs : List Int) (J : Nat) : Prop := ∀ k, k < zs.length → 0 ≤ zs.getD k 0 ∧ zs.getD k 0 < (J : Int)

theorem rs_of {zs : List Int} {J : Nat} (h : Dom zs J) : ∃ rs : List Nat, rs.length = zs.length ∧ (∀ k, k < zs.length → zs.getD k 0 = ((rs.getD k 0 : Nat) : Int)) ∧ ∀ k, k < zs.length → rs.getD k 0 < J := by
  refine ⟨zs.map Int.toNat, by simp, fun k hk => ?_, fun k hk => ?_⟩
  · have := h k hk
    simp [hk] at this ⊢
    omega
  · have := h k hk
    simp [hk] at this ⊢
    omega

theorem row_rs {w : World} {ad : Option Addr} {n : Nat} {zs : List Int} {rs : List Nat} (h : RowZ w ad n zs) (hl : rs.length = zs.length) (he : ∀ k, k < zs.length → zs.getD k 0 = ((rs.getD k 0 : Nat) : Int)) : Row w ad n rs := by
  obtain ⟨h1, h2⟩ := h
  refine ⟨by omega, ?_⟩
  rcases h2 with h2 | ⟨b, off, h3, h4, h5⟩
  · exact .inl h2
  · exact .inr ⟨b, off, h3, h4, fun k hk => by rw [← he k (by omega)]; exact h5 k hk⟩

set_option maxHeartbeats 400000 in
theorem dom_any (ad : Option Addr) (n c J : Nat) (zs : List Int) (w : World) (hn : n ≤ 65536) (hJ : J ≤ 65536) (hr : RowZ w ad n zs) :
    Calls Try.prog 7 #[.slice ad n c, .int .i64 J] w fun e w' => ((Dom zs J ∧ e = .returned (.bool true)) ∨ (¬ Dom zs J ∧ e = .returned (.bool false))) ∧ w' = w := by
  have hl := hr.1
  have HL : Hid (zs.length = n) := hl
  clear hl
  go_enter Try.func7, Try.ntmps7
  go_wp2
  go_loopg [5] n (fun g i wr => ∃ k : Nat, g = n - k ∧ k ≤ n ∧ i = .int .i64 k ∧ (∀ j, j < k → 0 ≤ zs.getD j 0 ∧ zs.getD j 0 < (J : Int)) ∧ wr = w)
  case atStart => exact ⟨0, rfl, Nat.zero_le _, rfl, fun j hj => absurd hj (by omega), rfl⟩
  case round =>
    obtain ⟨k, hg, hk, rfl, hd, hw⟩ := hrel
    subst hw
    have HG : Hid (gk = n - k ∧ ∀ j, j < k → 0 ≤ zs.getD j 0 ∧ zs.getD j 0 < (J : Int)) := ⟨hg, hd⟩
    clear hg hd
    by_cases hlt : k < n
    · obtain ⟨b, off, hx, hcx⟩ := hr.at hlt
      obtain ⟨x, hxx⟩ : ∃ x, x = zs.getD k 0 := ⟨_, rfl⟩
      rw [← hxx] at hcx
      have HX : Hid (x = zs.getD k 0) := hxx
      clear hxx
      subst hx
      by_cases hin : 0 ≤ x ∧ x < (J : Int)
      · obtain ⟨i1, i2⟩ := hin
        go_wp2
        go_roundg (n - (k + 1))
        case measure => rw [HG.out.1]; omega
        case rel =>
          refine ⟨k + 1, rfl, by omega, by go_num, fun j hj => ?_, rfl⟩
          by_cases e : j = k
          · subst e; rw [← HX.out]; exact ⟨i1, i2⟩
          · exact HG.out.2 j (by omega)
      · have hno : Hid (¬ Dom zs J) := fun hd => hin (by rw [HX.out]; exact hd k (by rw [HL.out]; exact hlt))
        by_cases hneg : x < 0
        · clear hin
          go_wp2
          go_ret
          exact ⟨.inr ⟨hno.out, rfl⟩, rfl⟩
        · have hge : (J : Int) ≤ x := by omega
          clear hin
          go_wp2
          go_ret
          exact ⟨.inr ⟨hno.out, rfl⟩, rfl⟩
    · have hkn : n = k := by omega
      subst hkn
      have hyes : Hid (Dom zs J) := fun j hj => HG.out.2 j (by rw [HL.out] at hj; exact hj)
      go_wp2
      go_ret
      exact ⟨.inl ⟨hyes.out, rfl⟩, rfl⟩

theorem dom_yes (ad : Option Addr) (n c J : Nat) (zs : List Int) (w : World) (hn : n ≤ 65536) (hJ : J ≤ 65536) (hr : RowZ w ad n zs) (hd : Dom zs J) :
    Calls Try.prog 7 #[.slice ad n c, .int .i64 J] w fun e w' => e = .returned (.bool true) ∧ w = w' :=
  (dom_any ad n c J zs w hn hJ hr).mono fun e w' h => ⟨by rcases h.1 with ⟨_, h1⟩ | ⟨h1, _⟩; exact h1; exact absurd hd h1, h.2.symm⟩
theorem dom_no (ad : Option Addr) (n c J : Nat) (zs : List Int) (w : World) (hn : n ≤ 65536) (hJ : J ≤ 65536) (hr : RowZ w ad n zs) (hd : ¬ Dom zs J) :
    Calls Try.prog 7 #[.slice ad n c, .int .i64 J] w fun e w' => e = .returned (.bool false) ∧ w = w' :=
  (dom_any ad n c J zs w hn hJ hr).mono fun e w' h => ⟨by rcases h.1 with ⟨h1, _⟩ | ⟨_, h1⟩; exact absurd h1 hd; exact h1, h.2.symm⟩

/-- The list 'got' holds, one behind the other, the rows of job j (and perhaps more). -/
def Got (w : World) (Y : Option Addr) (m : Nat) (rs : List Nat) (j : Nat) : Prop :=
  ∀ r, r < rs.length → rs.getD r 0 = j → cnt j (rs.take r) < m ∧ ∃ b o, Y = some ⟨b, o, none⟩ ∧ w.cell? ⟨b, o + cnt j (rs.take r), none⟩ = some (.int .i64 (r : Int))

set_option maxHeartbeats 400000 in
theorem filter_any (ad Y : Option Addr) (n c j m c2 : Nat) (rs : List Nat) (w : World) (hn : n ≤ 65536) (hj : j ≤ 65536) (hm : m ≤ 100000) (hr : Row w ad n rs) (hg : Got w Y m rs j) :
    Calls Try.prog 9 #[.slice ad n c, .int .i64 j, .slice Y m c2] w fun e w' => e = .returned (.int .i64 (cnt j rs : Nat)) ∧ w' = w := by
  have hl := hr.1
  have HL : Hid (rs.length = n) := hl
  clear hl
  have HG0 : Hid (Got w Y m rs j) := hg
  clear hg
  go_enter Try.func9, Try.ntmps9
  go_wp2
  go_loopg [7, 8] n (fun g t i wr => ∃ k : Nat, g = n - k ∧ k ≤ n ∧ i = .int .i64 k ∧ t = .int .i64 (cnt j (rs.take k) : Nat) ∧ wr = w)
  case atStart => exact ⟨0, rfl, Nat.zero_le _, rfl, by rw [cnt_zero]; rfl, rfl⟩
  case round =>
    obtain ⟨k, hg, hk, rfl, rfl, hw⟩ := hrel
    subst hw
    have HG : Hid (gk = n - k) := hg
    clear hg
    by_cases hlt : k < n
    · obtain ⟨b, off, hx, hcx⟩ := hr.at hlt
      obtain ⟨x, hxx⟩ : ∃ x, x = rs.getD k 0 := ⟨_, rfl⟩
      obtain ⟨i, hi⟩ : ∃ i, i = cnt j (rs.take k) := ⟨_, rfl⟩
      have hi2 : i ≤ 65536 := by have := cnt_take_le j rs k; have := cnt_le j rs; have := HL.out; omega
      have hs := cnt_take_succ j rs k (by rw [HL.out]; exact hlt)
      rw [← hxx, ← hi] at hs
      rw [← hxx] at hcx
      rw [← hi]
      have HX : Hid (x = rs.getD k 0 ∧ i = cnt j (rs.take k) ∧ cnt j (rs.take (k + 1)) = i + if x = j then 1 else 0) := ⟨hxx, hi, hs⟩
      clear hxx hi hs
      subst hx
      by_cases hxj : x = j
      · obtain ⟨hgm, bg, og, hY, hcg⟩ := HG0.out k (by rw [HL.out]; exact hlt) (by rw [← HX.out.1]; exact hxj)
        rw [← HX.out.2.1] at hgm hcg
        subst hY
        subst hxj
        go_wp2
        go_roundg (n - (k + 1))
        case measure => rw [HG.out]; omega
        case rel => exact ⟨k + 1, rfl, by omega, by go_num, by rw [HX.out.2.2]; simp, rfl⟩
      · have hne : ((x : Int) == (j : Int)) = false := by simp; omega
        go_wp2
        go_roundg (n - (k + 1))
        case measure => rw [HG.out]; omega
        case rel => exact ⟨k + 1, rfl, by omega, by go_num, by rw [HX.out.2.2, if_neg hxj]; go_num, rfl⟩
    · have hkn : n = k := by omega
      subst hkn
      have e : cnt j (rs.take n) = cnt j rs := by rw [← HL.out, List.take_length]
      rw [e]
      clear e
      go_wp2
      go_ret
      exact ⟨rfl, rfl⟩

theorem zzjobs_any (ad : Option Addr) (n c J : Nat) (rs : List Nat) (w : World) (hn : n ≤ 65536) (hJ : J ≤ 65536) (hr : Row w ad n rs) (hall : ∀ k, k < n → rs.getD k 0 < J) :
    Calls Try.prog 8 #[.slice ad n c, .int .i64 J] w fun e w' => ∃ R A X h, e = .returned (.slice (some ⟨R, 0, none⟩) J J) ∧ Lists w' w.heap.size rs J R A X h ∧ Below w.heap.size w w' := by
  go_enter Try.func8, Try.ntmps8
  go_wp2_with (go_at_call 16; refine (jobRows_any ad n c J rs _ hn hJ hr hall).mono ?_; rintro e w1 ⟨R, A, X, h, rfl, h1, h2⟩)
  go_ret
  exact ⟨R, A, X, h, rfl, h1, h2⟩

/-- The lists that 'jobRows' leaves pass the filter test. -/
theorem got_of_lists {w : World} {N J R A : Nat} {X : Nat → Option Addr} {hf : Nat → Int} {rs : List Nat} (h : Lists w N rs J R A X hf) {j : Nat} (hj : j < J) : Got w (X j) (cnt j rs) rs j := by
  intro r hr e
  obtain ⟨_, _, _, hX, hA, hc⟩ := h
  have hlt := cnt_take_lt rs r hr
  rw [e] at hlt
  refine ⟨hlt, A, cum j rs, hX j hj (by omega), ?_⟩
  have := hA.cell (rowPos_lt rs r hr)
  rw [hc r hr] at this
  unfold rowPos at this
  rw [e] at this
  exact this

theorem Try.size3 : (Try.prog.info? 3).map (·.size) = some 1 := by kernel_rfl

/-- The cells that the copy carries over. -/
def cells (rs : List Nat) : List Value := rs.map fun r => .int .i64 ((r : Nat) : Int)
theorem cells_length (rs : List Nat) : (cells rs).length = rs.length := by simp [cells]
theorem cells_one (rs : List Nat) : ∀ v ∈ cells rs, v.oneCell' = true := by
  intro v hv
  obtain ⟨x, _, rfl⟩ := List.mem_map.1 hv
  rfl
theorem cells_src {w : World} {a : Addr} {n : Nat} {rs : List Nat} {o : Obj} (h : Row w (some a) n rs) : 0 < (cells rs).length → ∃ ad, some a = some ad ∧ ∀ j v, (cells rs)[j]? = some v → (w.alloc o).cell? (ad.add j) = some v := by
  intro h0
  rw [cells_length] at h0
  obtain ⟨hl, h2⟩ := h
  rcases h2 with h2 | ⟨b, off, h3, h4, h5⟩
  · omega
  · cases h3
    refine ⟨_, rfl, fun j v hj => ?_⟩
    have hjl : j < rs.length := by
      have := (List.getElem?_eq_some_iff.1 hj).1
      rwa [cells_length] at this
    rw [add_plain]
    refine (((Below.refl w.heap.size w).alloc (Nat.le_refl _) _).cell (p := ⟨b, off + j, none⟩) h4).trans ?_
    rw [h5 j (by omega)]
    have e : (cells rs)[j]? = some (.int .i64 ((rs.getD j 0 : Nat) : Int)) := by simp [cells, hjl]
    rw [e] at hj
    exact hj
theorem made_block (w : World) (n : Nat) : (w.alloc (.cells (madeCells #[.int .i64 0] n) 3)).heap[w.heap.size]? = some (.cells (madeCells #[.int .i64 0] n).toList.toArray 3 (0, 0)) := by
  rw [Array.toArray_toList]
  exact blk_alloc_new _ _
theorem row_copied {w : World} {N n : Nat} {rs : List Nat} (hl : rs.length = n) (h : w.heap[N]? = some (.cells (splice (madeCells #[.int .i64 0] n).toList 0 (cells rs)).toArray 3 (0, 0))) : Row w (some ⟨N, 0, none⟩) n rs := by
  have e : splice (madeCells #[.int .i64 0] n).toList 0 (cells rs) = cells rs := by
    unfold splice
    rw [cells_length, hl, List.take_zero, List.nil_append, List.drop_eq_nil_of_le (by simp [size_madeCells]), List.append_nil]
  rw [e] at h
  refine ⟨hl, ?_⟩
  by_cases h0 : n = 0
  · exact .inl h0
  · refine .inr ⟨N, 0, rfl, ?_, fun k hk => ?_⟩
    · obtain ⟨hlt, _⟩ := Array.getElem?_eq_some_iff.1 h
      exact hlt
    · have hk' : k < rs.length := by omega
      simp [World.cell?, h, cells, hk']

/-- 'copy' of the rows into the new slice, as one equation for the walk. -/
theorem copy_run {w : World} {a : Addr} {n c : Nat} {rs : List Nat} (h : Row w (some a) n rs) :
    ∃ w2, (Builtin.copy_ #[22, 22] 3 #[.slice (some ⟨w.heap.size, 0, none⟩) n n, .slice (some a) n c]).run Try.prog (w.alloc (.cells (madeCells #[.int .i64 0] n) 3)) = .ok (.int .i64 (n : Int)) w2 ∧ Row w2 (some ⟨w.heap.size, 0, none⟩) n rs ∧ Below w.heap.size w w2 := by
  have hl := h.1
  have hcl : (cells rs).length = n := by rw [cells_length]; exact hl
  have hB := made_block w n
  have hrun := run_copy_row (P := Try.prog) (w.alloc (.cells (madeCells #[.int .i64 0] n) 3)) 22 22 3 3 w.heap.size 0 n n a n c (madeCells #[.int .i64 0] n).toList.toArray 3 (cells rs) Try.underlying22 Try.size3 hB
    (by rw [hcl]; exact (Nat.min_self n).symm)
    (fun j v hj => by
      have hp : 0 < (cells rs).length := by
        have := (List.getElem?_eq_some_iff.1 hj).1
        omega
      obtain ⟨ad, he, hs⟩ := cells_src (o := .cells (madeCells #[.int .i64 0] n) 3) h hp
      cases he
      exact hs j v hj)
    (by rw [hcl]; simp [size_madeCells]) (cells_one rs)
  rw [hcl] at hrun
  refine ⟨_, hrun, ?_, below_setRow ((Below.refl _ _).alloc (Nat.le_refl _) _) (Nat.le_refl _) _⟩
  refine row_copied hl ?_
  rw [setRow_heap _ _ _ _ _ _ hB]
  unfold splice
  rw [hcl, List.append_assoc]
end Go.Proofs.Qxb6602443a
