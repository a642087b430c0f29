/-
  THE WALK over 'join'.
-/
import Derived.Test.Qxb6602443aJStep
import Derived.Carry
namespace Go.Proofs.Qxb6602443a
open Go.RowKit Go.Deep Go.Maps
set_option linter.unusedVariables false

/-- The sheets as the shim lays them. -/
structure Sheets (B : Nat) (w : World) (SH K : Nat) (SB : Nat → Nat) (cA rA : Nat → Option Addr) (nc cC nr rC : Nat → Nat) : Prop where
  hSH : SH < B
  at0 : ∀ k, k < K → w.cell? ⟨SH, k, none⟩ = some (.pointer (some ⟨SB k, 0, none⟩))
  lt : ∀ k, k < K → SB k < B
  cols : ∀ k, k < K → w.cell? ⟨SB k, 1, none⟩ = some (.slice (cA k) (nc k) (cC k))
  rows : ∀ k, k < K → w.cell? ⟨SB k, 2, none⟩ = some (.slice (rA k) (nr k) (rC k))
theorem Sheets.later {B : Nat} {w w' : World} {SH K : Nat} {SB : Nat → Nat} {cA rA : Nat → Option Addr} {nc cC nr rC : Nat → Nat} (h : Sheets B w SH K SB cA rA nc cC nr rC) (hb : Below B w w') : Sheets B w' SH K SB cA rA nc cC nr rC where
  hSH := h.hSH
  at0 := fun k hk => (hb.cell (p := ⟨SH, k, none⟩) h.hSH).trans (h.at0 k hk)
  lt := h.lt
  cols := fun k hk => (hb.cell (p := ⟨SB k, 1, none⟩) (h.lt k hk)).trans (h.cols k hk)
  rows := fun k hk => (hb.cell (p := ⟨SB k, 2, none⟩) (h.lt k hk)).trans (h.rows k hk)

theorem at_add (g o i : Nat) : (⟨g, o, none⟩ : Addr).add i = ⟨g, o + i, none⟩ := by simp [Addr.add]

theorem row_owned {wr : World} {B g n : Nat} (h : wr.rowIs g 3 n (fun i => .int .i64 (i : Int))) (hB : B ≤ g) (hn : n ≤ 1048576) : wr.ownsRow B 3 1 (.slice (some ⟨g, 0, none⟩) n n) (List.range n).length (intCells (List.range n)) := by
  obtain ⟨c, hb, hs, hc⟩ := h
  refine ⟨by simp [intCells], .inr ⟨g, n, c, by simp, hB, hb, by simp, by unfold maxLen; omega, by simp [hs], ?_⟩⟩
  apply List.ext_getElem?
  intro i
  by_cases hi : i < n
  · have := hc i hi
    rw [List.getElem?_take_of_lt (by simp; omega)]
    simp [intCells, hi, this]
  · rw [List.getElem?_eq_none (by simp; omega), List.getElem?_eq_none (by simp [intCells]; omega)]

theorem first_step {wr : World} {g n r : Nat} (h : wr.rowIs g 3 n (fun i => if i < r then .int .i64 (i : Int) else .int .i64 0)) : (wr.setCell ⟨g, r, none⟩ (.int .i64 (r : Int))).rowIs g 3 n (fun i => if i < r + 1 then .int .i64 (i : Int) else .int .i64 0) := by
  refine (h.set r _).congr fun i hi => ?_
  by_cases e : i = r
  · subst e; simp
  · rw [if_neg e]
    by_cases h2 : i < r
    · rw [if_pos h2, if_pos (by omega)]
    · rw [if_neg h2, if_neg (by omega)]

theorem zero46 (w : World) : (zeroValue 44).run Try.prog w = .ok (.agg #[.int .i64 0, .int .i64 0]) w := by kernel_rfl
theorem zero48 (w : World) : (zeroValue 22).run Try.prog w = .ok (.slice none 0 0) w := by kernel_rfl
theorem Try.info44 : (Try.prog.info? 44).map (fun i => (i.zero, i.size, i.bytes)) = some (some (.agg #[.int .i64 0, .int .i64 0]), 2, 16) := by kernel_rfl

theorem Hid.intro {p : Prop} (h : p) : Hid p := h
theorem two_one (a b : Int) : ∀ u ∈ [Value.int .i64 a, .int .i64 b], u.oneCell' = true := by
  intro u hu
  simp only [List.mem_cons, List.not_mem_nil, or_false] at hu
  rcases hu with rfl | rfl <;> rfl
theorem one_one (a : Int) : ∀ u ∈ [Value.int .i64 a], u.oneCell' = true := by
  intro u hu
  simp only [List.mem_singleton] at hu
  subst hu
  rfl

theorem size_le_alloc (w : World) (o : Obj) : w.heap.size ≤ (w.alloc o).heap.size := by simp
theorem str_one (s : ByteArray) : ∀ u ∈ [Value.string s], u.oneCell' = true := by
  intro u hu
  simp only [List.mem_singleton] at hu
  subst hu
  rfl

theorem comb_key {N n c : Nat} {xs : List ByteArray} {ks : ByteArray} {w : World} (hk : ks = keyB xs) (hl : xs.length = n) (hc : n ≤ c) (hn : n ≤ 65536) (hs : ∀ x ∈ xs, x.size ≤ 1048576) (hr : w.rowIs N 9 n (fun i => .string (xs.getD i ByteArray.empty))) :
    Calls Try.prog 20 #[.slice (some ⟨N, 0, none⟩) n c] w fun e w' => e = .returned (.string ks) ∧ Below w.heap.size w w' := by
  subst hk
  exact comb_row hl hc hn hs hr
theorem ent_get : ∀ (l : List Ent) (j : Nat), j < l.length → (entCells l)[2 * j]? = some (.int .i64 (((l.getD j noEnt).2.1 : Nat) : Int)) ∧ (entCells l)[2 * j + 1]? = some (.int .i64 (((l.getD j noEnt).2.2 : Nat) : Int))
  | [], j, h => by simp at h
  | a :: l, 0, _ => by simp [entCells]
  | a :: l, j + 1, h => by
    have ih := ent_get l j (by simpa using h)
    have e : entCells (a :: l) = .int .i64 ((a.2.1 : Nat) : Int) :: .int .i64 ((a.2.2 : Nat) : Int) :: entCells l := by simp [entCells]
    rw [e, List.getD_cons_succ]
    have e1 : 2 * (j + 1) = 2 * j + 1 + 1 := by omega
    have e2 : 2 * (j + 1) + 1 = 2 * j + 1 + 1 + 1 := by omega
    rw [e1, List.getElem?_cons_succ, List.getElem?_cons_succ, List.getElem?_cons_succ, List.getElem?_cons_succ]
    exact ih
theorem own_at {w : World} {B : Nat} {v v0 : Value} {n : Nat} {xs : List Value} (hv : v = v0) (h : w.ownsRow B 3 1 v0 n xs) (o : Obj) : (w.alloc o).ownsRow B 3 1 v n xs := by
  subst hv
  exact h.alloc o
theorem pick_list {w : World} {N q : Nat} {l : List Nat} {f : Nat → ByteArray} (hq : q = l.length) (h : w.rowIs N 9 q (fun i => .string (f (l.getD i 0)))) : w.rowIs N 9 q (fun i => .string ((l.map f).getD i ByteArray.empty)) :=
  h.congr fun i hi => by
    have hil : i < l.length := by omega
    simp [hil]

set_option maxRecDepth 100000 in
set_option maxHeartbeats 8000000 in
theorem join_any (w : World) (SH K : Nat) (SB : Nat → Nat) (ca ra : Option Addr) (cA rA : Nat → Option Addr) (nc cC nr rC : Nat → Nat) (name : Nat → Nat → ByteArray) (rrA : Nat → Nat → Option Addr) (rl rrC : Nat → Nat → Nat) (val : Nat → Nat → Nat → ByteArray)
    (hSh : Sheets w.heap.size w SH K SB cA rA nc cC nr rC) (hG : Grid w.heap.size w ca K cA nc cC name) (hC : Cube w.heap.size w ra K rA nr rC rrA rl rrC val) (hD : InDom K nc nr name rl val) :
    Calls Try.prog 18 #[.slice (some ⟨SH, 0, none⟩) K K] w fun e w' => ∃ vP vN vO, e = .returned (.tuple #[vP, vN, vO]) ∧ w'.ownsRow w.heap.size 3 1 vP (flatJ nc nr name val K).length (intCells (flatJ nc nr name val K)) ∧
      w'.ownsRow w.heap.size 9 1 vN (stS nc name K).length (nameCells (stS nc name K)) ∧ w'.ownsRow w.heap.size 44 2 vO (stS nc name K).length (entCells (stS nc name K)) ∧ Below w.heap.size w w' := by
  have hK := hD.kmax
  have hK1 := hD.one
  have hn0 := (hD.nrb 0 (by omega)).1
  have hmk0 := run_make_row' (P := Try.prog) 22 3 (.int .i64 0) 8 Try.underlying22 Try.info3 rfl .i64 .i64 (nr 0) (by omega) (by omega)
  have hmm := @run_makeMap Try.prog
  have s0 := hSh.at0 0 (by omega)
  have s1 := hSh.rows 0 (by omega)
  have h0 := World.rowIs_made w (.int .i64 0) (nr 0) 3
  have hIK : (0 : Int) < (K : Int) := by omega
  obtain ⟨i0, hi3, hz0, hz1, hz2⟩ := info_parts Try.info3
  obtain ⟨i4, hi4, hy0, hy1, hy2⟩ := info_parts Try.info44
  obtain ⟨i9, hi9, hx0, hx1, hx2⟩ := info_parts Try.info9
  go_enter Try.func18, Try.ntmps18
  go_wp2
  clear s0 s1 hmk0
  go_loopg [37] (nr 0) (fun g i wr => ∃ r : Nat, g = nr 0 - r ∧ r ≤ nr 0 ∧ i = .int .i64 r ∧ wr.heap.size = w.heap.size + 1 ∧ wr.rowIs w.heap.size 3 (nr 0) (fun i => if i < r then .int .i64 (i : Int) else .int .i64 0) ∧ Below w.heap.size w wr)
  case atStart => exact ⟨0, rfl, Nat.zero_le _, rfl, by simp, h0.congr fun i hi => by simp, (Below.refl _ _).alloc (Nat.le_refl _) _⟩
  case round =>
    clear h0
    obtain ⟨r, hg, hr, rfl, hsz, hrow, hbel⟩ := hrel
    have HG : Hid (gk = nr 0 - r ∧ wr.rowIs w.heap.size 3 (nr 0) (fun i => if i < r then .int .i64 (i : Int) else .int .i64 0)) := ⟨hg, hrow⟩
    clear hg
    by_cases hlt : r < nr 0
    · have hc := hrow.cell hlt
      have hf := hrow.frozen r
      rw [if_neg (Nat.lt_irrefl r)] at hc
      clear hrow
      go_wp2
      go_roundg (nr 0 - (r + 1))
      case measure => rw [HG.out.1]; omega
      case rel => exact ⟨r + 1, rfl, by omega, by go_num, by simp [hsz], first_step HG.out.2, hbel.setCell (Nat.le_refl _) _⟩
    · have hrn : nr 0 = r := by omega
      have hown : wr.ownsRow w.heap.size 3 1 (.slice (some ⟨w.heap.size, 0, none⟩) (nr 0) (nr 0)) (flatJ nc nr name val 0).length (intCells (flatJ nc nr name val 0)) := by
        rw [flatJ_zero]
        exact row_owned (hrow.congr fun i hi => by rw [if_pos (by omega)]) (Nat.le_refl _) (by omega)
      have HO : Hid (wr.ownsRow w.heap.size 3 1 (.slice (some ⟨w.heap.size, 0, none⟩) (nr 0) (nr 0)) (flatJ nc nr name val 0).length (intCells (flatJ nc nr name val 0))) := hown
      clear hown HG hrow hrn
      go_wp2
      clear hlt hr
      have hS0 : S3 w w.heap.size (wr.alloc (.map #[] 0)).heap.size (w.heap.size + 1) (stS nc name 0).length (.slice (some ⟨w.heap.size, 0, none⟩) (nr 0) (nr 0)) (flatJ nc nr name val 0) (wr.alloc (.map #[] 0)) (stS nc name 0) [] [] (.slice none 0 0) (.slice none 0 0) (.slice none 0 0) (.slice none 0 0) := {
        names := World.ownsRow_nil _ _ _ _
        orig := World.ownsRow_nil _ _ _ _
        left := World.ownsRow_nil _ _ _ _
        right := World.ownsRow_nil _ _ _ _
        picks := HO.out.alloc _
        pb := fun g hg => by simp [Value.ownBlock] at hg; simp [hsz]; omega
        map := by rw [← hsz]; exact mapV_made wr _
        hM := by omega
        ap := .inl rfl
        bk := by simp [hsz]; omega
        sz := Nat.le_refl _
        bel := hbel.alloc (by omega) _ }
      clear HO
      go_loopg [2, 3, 4, 48] K (fun g p n o i wr => ∃ k : Nat, g = K - k ∧ k ≤ K ∧ i = .int .i64 k ∧ S3 w w.heap.size wr.heap.size (w.heap.size + 1) (stS nc name k).length p (flatJ nc nr name val k) wr (stS nc name k) [] [] n o (.slice none 0 0) (.slice none 0 0))
      case atStart => exact ⟨0, rfl, Nat.zero_le _, rfl, hS0⟩
      case round =>
        clear hS0 hsz hbel
        obtain ⟨k, hg, hk, rfl, hS⟩ := hrel
        have HG : Hid (gk = K - k) := hg
        clear hg
        by_cases hlt : k < K
        · have hsh := hSh.later hS.bel
          have g1 := hsh.at0 k hlt
          have g2 := hsh.cols k hlt
          have hnc := (hD.ncb k hlt).1
          have hnm := hG.at2 k hlt
          obtain ⟨X, hX⟩ : ∃ X, X = cA k := ⟨_, rfl⟩
          rw [← hX] at g2 hnm
          clear hsh hX
          go_wp2
          obtain ⟨Bk, hBk⟩ : ∃ Bk, Bk = wr.heap.size := ⟨_, rfl⟩
          rw [← hBk] at hS
          clear g1 g2 hBk
          go_loopg [3, 4, 9, 10, 58] (nc k) (fun g n o l r i wr => ∃ c : Nat, g = nc k - c ∧ c ≤ nc k ∧ i = .int .i64 c ∧ S3 w w.heap.size Bk (w.heap.size + 1) (stC name k (stS nc name k) c).length u2 (flatJ nc nr name val k) wr (stC name k (stS nc name k) c) (leftL nc name k c) (rightL nc name k c) n o l r)
          case atStart => exact ⟨0, rfl, Nat.zero_le _, rfl, hS⟩
          case round =>
            clear hS
            obtain ⟨c, hg, hc, rfl, hS⟩ := hrel
            have HG3 : Hid (gk = nc k - c) := hg
            clear hg
            by_cases hlc : c < nc k
            · obtain ⟨b, o, hx, hb, hcn⟩ := hnm c hlc
              have hcn' := (hS.bel.cell (p := ⟨b, o + c, none⟩) hb).trans hcn
              have hsb := (hD.ncb k hlt).2 c hlc
              have hfind := stC_find (st0 := stS nc name k) (name := name) (k := k) (c := c) (fun d hd => hD.dist k hlt c hlc d hd) c (Nat.le_refl _)
              have hlk := hS.map.look_ok Try.underlying46 (zero46 _) (name k c) (by unfold maxLen; omega)
              rcases left_right_step (nc := nc) (name := name) k c with ⟨e, he, hl1, hr1, hhas⟩ | ⟨he, hl1, hr1, hhas⟩
              · have hst : stC name k (stS nc name k) (c + 1) = stC name k (stS nc name k) c := stStep_seen (by rw [hasName_find, hfind, he]; rfl)
                have ho : ownF (stC name k (stS nc name k) c) (name k c) = some (.agg #[.int .i64 ((e.2.1 : Nat) : Int), .int .i64 ((e.2.2 : Nat) : Int)]) := by unfold ownF; rw [hfind, he]; rfl
                rw [ho] at hlk
                simp only [Option.getD_some, Option.isSome_some] at hlk
                obtain ⟨s, hss⟩ : ∃ s, s = name k c := ⟨_, rfl⟩
                rw [← hss] at hlk hcn'
                obtain ⟨a1, ha1⟩ : ∃ a, a = e.2.1 := ⟨_, rfl⟩
                obtain ⟨a2, ha2⟩ : ∃ a, a = e.2.2 := ⟨_, rfl⟩
                rw [← ha1, ← ha2] at hlk
                have HE : Hid (a1 = e.2.1 ∧ a2 = e.2.2 ∧ stC name k (stS nc name k) (c + 1) = stC name k (stS nc name k) c ∧ leftL nc name k (c + 1) = leftL nc name k c ++ [e] ∧ rightL nc name k (c + 1) = rightL nc name k c ++ [c]) := ⟨ha1, ha2, hst, hl1, hr1⟩
                clear ho he hfind hcn hst hl1 hr1 hss ha1 ha2 hhas
                cases hx
                have hS2 := (hS.alloc (.cells #[.int .i64 (a1 : Int), .int .i64 (a2 : Int)] 44)).alloc (.cells #[.int .i64 (a1 : Int), .int .i64 (a2 : Int)] 44)
                have hnews := cell_two_new (wr.alloc (.cells #[.int .i64 (a1 : Int), .int .i64 (a2 : Int)] 44)) (.int .i64 (a1 : Int)) (.int .i64 (a2 : Int)) 44
                have hsz1 : (wr.alloc (.cells #[.int .i64 (a1 : Int), .int .i64 (a2 : Int)] 44)).heap.size = wr.heap.size + 1 := by simp
                rw [hsz1] at hnews
                have hll := left_length_le (nc := nc) (name := name) k c
                have hrr := left_right_length (nc := nc) (name := name) k c
                have HW : Hid (S3 w w.heap.size Bk (w.heap.size + 1) (stC name k (stS nc name k) c).length u2 (flatJ nc nr name val k) ((wr.alloc (.cells #[.int .i64 (a1 : Int), .int .i64 (a2 : Int)] 44)).alloc (.cells #[.int .i64 (a1 : Int), .int .i64 (a2 : Int)] 44)) (stC name k (stS nc name k) c) (leftL nc name k c) (rightL nc name k c) u3 u4 u9 u10 ∧
                    (∀ j u, [Value.int .i64 (a1 : Int), .int .i64 (a2 : Int)][j]? = some u → ((wr.alloc (.cells #[.int .i64 (a1 : Int), .int .i64 (a2 : Int)] 44)).alloc (.cells #[.int .i64 (a1 : Int), .int .i64 (a2 : Int)] 44)).cell? ((⟨wr.heap.size + 1, 0, none⟩ : Addr).add j) = some u) ∧ (leftL nc name k c).length ≤ 65536 ∧ (rightL nc name k c).length ≤ 65536) := ⟨hS2, hnews, by omega, by omega⟩
                have hsB := hS.sz
                clear hS2 hnews hsz1 hll hrr hS
                go_wp2_with (first | (at_builtin; refine wpList_append_own_at _ rfl (.tmp 70) (.tmp 72) 40 rfl Bk 44 i4 (.agg #[.int .i64 0, .int .i64 0]) 2 16 Try.underlying40 hi4 hy0 hy1 hy2 rfl (by decide) _ _ _ rfl HW.out.1.left ⟨wr.heap.size + 1, 0, none⟩ 1 1 [.int .i64 (a1 : Int), .int .i64 (a2 : Int)] rfl rfl HW.out.2.1 (two_one _ _) (by have := HW.out.2.2; unfold maxLen; omega) (by have := HW.out.2.2; omega) (by simp; omega) ?_; intro v1 w1 ho1 hg1 hn1 hl1; have hS3 := Hid.intro (S3.appLeft HW.out.1 (e := e) hg1 (by rw [← HE.out.1, ← HE.out.2.1]; exact ho1) hl1); clear ho1 hg1 hn1 hl1) | (at_builtin; refine wpList_append_own_at _ rfl (.tmp 74) (.tmp 76) 22 rfl Bk 3 i0 (.int .i64 0) 1 8 Try.underlying22 hi3 hz0 hz1 hz2 rfl (by decide) _ _ _ rfl (hS3.out.right.alloc _) ⟨w1.heap.size, 0, none⟩ 1 1 [.int .i64 (c : Int)] rfl rfl (cell_one_new _ _ _) (one_one _) (by have := HW.out.2.2; unfold maxLen; omega) (by have := HW.out.2.2; omega) (by have := hS3.out.sz; simp; omega) ?_; intro v2 w2 ho2 hg2 hn2 hl2; have hS5 := Hid.intro (S3.appRight (hS3.out.alloc _) (c := c) hg2 ho2); clear ho2 hg2 hn2 hl2))
                go_roundg (nc k - (c + 1))
                case measure => rw [HG3.out]; omega
                case rel => exact ⟨c + 1, rfl, by omega, by go_num, by rw [HE.out.2.2.1, HE.out.2.2.2.1, HE.out.2.2.2.2]; exact hS5.out⟩
              · have hno : hasName (stC name k (stS nc name k) c) (name k c) = false := by rw [hasName_find, hfind, he]; rfl
                have hst : stC name k (stS nc name k) (c + 1) = stC name k (stS nc name k) c ++ [(name k c, k, c)] := stStep_new hno
                have ho : ownF (stC name k (stS nc name k) c) (name k c) = none := by unfold ownF; rw [hfind, he]; rfl
                rw [ho] at hlk
                simp only [Option.getD_none, Option.isSome_none] at hlk
                have hlen := st_len hD hlt hc
                have hS1 := hS.alloc (.cells #[.int .i64 0, .int .i64 0] 44)
                obtain ⟨w2, hup, hm2, hg2⟩ := hS1.map.store Try.underlying46 (by unfold maxLen; omega) (name k c) (by unfold maxLen; omega) (entV (name k c, k, c))
                obtain ⟨n1, n2, n3, n4, n5, n6, n7, n8⟩ := hS1.mapNew hg2 hm2 hno
                obtain ⟨s, hss⟩ : ∃ s, s = name k c := ⟨_, rfl⟩
                have hup' : (Instr.mapUpdate 46 (.map (some (w.heap.size + 1))) (.string s) (.agg #[.int .i64 (k : Int), .int .i64 (c : Int)])).run Try.prog (wr.alloc (.cells #[.int .i64 0, .int .i64 0] 44)) = .ok () w2 := by rw [hss]; exact hup
                rw [← hss] at hlk hcn' hno
                have hm2' : MapV w2 (w.heap.size + 1) ((stC name k (stS nc name k) c).length + 1) (.agg #[.int .i64 0, .int .i64 0]) (upd (ownF (stC name k (stS nc name k) c)) s (entV (s, k, c))) := by rw [hss]; exact hm2
                have HS : Hid (S3 w w.heap.size Bk (w.heap.size + 1) (stC name k (stS nc name k) c).length u2 (flatJ nc nr name val k) (wr.alloc (.cells #[.int .i64 0, .int .i64 0] 44)) (stC name k (stS nc name k) c) (leftL nc name k c) (rightL nc name k c) u3 u4 u9 u10) := hS1
                have HM : Hid (hasName (stC name k (stS nc name k) c) s = false ∧ (wr.alloc (.cells #[.int .i64 0, .int .i64 0] 44)).grownBy w2 (some (w.heap.size + 1)) ∧ MapV w2 (w.heap.size + 1) ((stC name k (stS nc name k) c).length + 1) (.agg #[.int .i64 0, .int .i64 0]) (upd (ownF (stC name k (stS nc name k) c)) s (entV (s, k, c)))) := ⟨hno, hg2, hm2'⟩
                have HN : Hid (w2.ownsRow w.heap.size 9 1 u3 (stC name k (stS nc name k) c).length (nameCells (stC name k (stS nc name k) c)) ∧ Bk ≤ w2.heap.size ∧ w.heap.size ≤ Bk ∧ (stC name k (stS nc name k) c).length ≤ 268500992) := ⟨n1, n7, hS.bk, hlen⟩
                have HE : Hid (s = name k c ∧ stC name k (stS nc name k) (c + 1) = stC name k (stS nc name k) c ++ [(name k c, k, c)] ∧ leftL nc name k (c + 1) = leftL nc name k c ∧ rightL nc name k (c + 1) = rightL nc name k c) := ⟨hss, hst, hl1, hr1⟩
                clear ho he hfind hcn hst hl1 hr1 hss hhas hno hup hm2 hm2' hg2 n1 n2 n3 n4 n5 n6 n7 n8 hS1 hS hlen
                cases hx
                go_wp2_with (first | (at_builtin; refine wpList_append_own_at _ rfl (.tmp 83) (.tmp 85) 30 rfl w.heap.size 9 i9 (.string ⟨#[]⟩) 1 16 Try.underlying30 hi9 hx0 hx1 hx2 rfl (by decide) _ _ _ rfl (HN.out.1.alloc _) ⟨w2.heap.size, 0, none⟩ 1 1 [.string s] rfl rfl (cell_one_new _ _ _) (str_one _) (by have := HN.out; unfold maxLen; omega) (by have := HN.out; omega) (by have := HN.out; simp; omega) ?_; intro v1 w4 ho4 hg4 hn4 hl4; have HO := Hid.intro (S3.origMid HS.out HM.out.1 HM.out.2.1 HM.out.2.2 hg4); have H4 := Hid.intro (And.intro hg4 ho4); have hb4 := Hid.intro (Nat.le_trans (Nat.le_trans HN.out.2.2.1 HN.out.2.1) (Nat.le_trans (size_le_alloc w2 _) hg4.size)); clear ho4 hg4 hn4 hl4) | (at_builtin; refine wpList_append_own_at _ rfl (.tmp 87) (.tmp 91) 40 rfl w.heap.size 44 i4 (.agg #[.int .i64 0, .int .i64 0]) 2 16 Try.underlying40 hi4 hy0 hy1 hy2 rfl (by decide) _ _ _ rfl (HO.out.alloc _) ⟨w4.heap.size, 0, none⟩ 1 1 [.int .i64 (k : Int), .int .i64 (c : Int)] rfl rfl (cell_two_new _ _ _ _) (two_one _ _) (by have := HN.out; unfold maxLen; omega) (by have := HN.out; omega) (Nat.le_trans hb4.out (size_le_alloc w4 _)) ?_; intro v2 w6 ho6 hg6 hn6 hl6; have hS6 := Hid.intro (S3.appNames HS.out HM.out.1 HM.out.2.1 HM.out.2.2 rfl H4.out.1 H4.out.2 rfl hg6 ho6 hl6); clear ho6 hg6 hn6 hl6))
                have hS7 := hS6.out
                rw [HE.out.1] at hS7
                go_roundg (nc k - (c + 1))
                case measure => rw [HG3.out]; omega
                case rel => exact ⟨c + 1, rfl, by omega, by go_num, by rw [HE.out.2.1, HE.out.2.2.1, HE.out.2.2.2]; simp only [List.length_append, List.length_cons, List.length_nil]; exact hS7⟩
            · have hcn : c = nc k := by omega
              subst hcn
              have hS' : S3 w w.heap.size Bk (w.heap.size + 1) (stS nc name (k + 1)).length u2 (flatJ nc nr name val k) wr (stS nc name (k + 1)) (leftL nc name k (nc k)) (rightL nc name k (nc k)) u3 u4 u9 u10 := hS
              clear hS HG3 hc hnm
              by_cases hk0 : k = 0
              · subst hk0
                have HR : Hid (S3 w w.heap.size wr.heap.size (w.heap.size + 1) (stS nc name 1).length u2 (flatJ nc nr name val 1) wr (stS nc name 1) [] [] u3 u4 (.slice none 0 0) (.slice none 0 0)) := hS'.reset
                clear hS'
                go_wp2
                go_roundg (K - 1)
                case measure => rw [HG.out]; omega
                case rel => exact ⟨1, rfl, by omega, by go_num, HR.out⟩
              · obtain ⟨YR, qR, hvR, hqR, hYR⟩ := own_form hS'.right
                have hrowR := rowB_of rfl hYR
                obtain ⟨q, hq⟩ : ∃ q, q = (rightL nc name k (nc k)).length := ⟨_, rfl⟩
                rw [← hq] at hvR hrowR
                have hqb : q ≤ 65536 := by have := left_length_le (nc := nc) (name := name) k (nc k); have := left_right_length (nc := nc) (name := name) k (nc k); omega
                have HS : Hid (S3 w w.heap.size Bk (w.heap.size + 1) (stS nc name (k + 1)).length u2 (flatJ nc nr name val k) wr (stS nc name (k + 1)) (leftL nc name k (nc k)) (rightL nc name k (nc k)) u3 u4 u9 u10) := hS'
                subst hvR
                have hsh := hSh.later (hS'.bel.alloc (Nat.le_trans hS'.bk hS'.sz) (.map #[] 0))
                have g3 := hsh.rows k hlt
                have hnr := (hD.nrb k hlt).1
                obtain ⟨XR, hXR⟩ : ∃ X, X = rA k := ⟨_, rfl⟩
                have hgrid := hC.at2 k hlt
                rw [← hXR] at g3 hgrid
                have HRB : Hid (RowB wr.heap.size wr YR q (fun i => .int .i64 (((rightL nc name k (nc k)).getD i 0 : Nat) : Int)) ∧ q = (rightL nc name k (nc k)).length) := ⟨hrowR, hq⟩
                have hbA := Hid.intro hS'.bel
                have hszA := Nat.le_trans hS'.bk hS'.sz
                have hk0b : ((k : Int) == 0) = false := beq_zero_no hk0
                obtain ⟨wA, hwA⟩ : ∃ wA, wA = wr := ⟨_, rfl⟩
                have hg4 := G4.made (keyR nc name val k) wr
                rw [← hwA] at hg4 hszA hbA HRB HS g3 ⊢
                clear hsh hXR hS' hrowR hYR hqR hq hwA
                go_wp2
                clear g3
                obtain ⟨M1, hM1⟩ : ∃ M1, M1 = wA.heap.size := ⟨_, rfl⟩
                rw [← hM1] at hg4 ⊢
                have HM1 := Hid.intro hM1
                clear hM1
                go_loopg [102] (nr k) (fun g i wr => ∃ (r : Nat) (f : ByteArray → Option Value), g = nr k - r ∧ r ≤ nr k ∧ i = .int .i64 r ∧ G4 wA M1 r (keyR nc name val k) wr f)
                case atStart => exact ⟨0, _, rfl, Nat.zero_le _, rfl, hg4⟩
                case round =>
                  clear hg4
                  obtain ⟨r, f, hg, hr, rfl, hg4⟩ := hrel
                  have HG4 : Hid (gk = nr k - r ∧ G4 wA M1 r (keyR nc name val k) wr f) := ⟨hg, hg4⟩
                  have hbr := hg4.bel
                  have hszr := hg4.sz
                  clear hg hg4
                  by_cases hlr : r < nr k
                  · obtain ⟨b, o, hx, hb, hc1⟩ := hgrid.at1 r hlr
                    have hbw : Below w.heap.size w wr := hbA.out.trans (hbr.mono (by have := HM1.out; omega))
                    have hc1' := (hbw.cell (p := ⟨b, o + r, none⟩) hb).trans hc1
                    have hrlb := (hD.nrb k hlt).2 r hlr
                    have hwide := (hD.wide k hlt r hlr).1
                    have hRow : RowB wr.heap.size wr (rrA k r) (rl k r) (fun i => .string (val k r i)) := fun i hi => by
                      obtain ⟨b2, o2, h1, h2, h3⟩ := hgrid.at2 r hlr i hi
                      exact ⟨b2, o2, h1, by have := hbw.size; omega, (hbw.cell (p := ⟨b2, o2 + i, none⟩) h2).trans h3⟩
                    have hRgt : RowB wr.heap.size wr YR q (fun i => .int .i64 (((rightL nc name k (nc k)).getD i 0 : Nat) : Int)) := fun i hi => by
                      obtain ⟨b2, o2, h1, h2, h3⟩ := HRB.out.1 i hi
                      exact ⟨b2, o2, h1, by have := hbr.size; omega, (hbr.cell (p := ⟨b2, o2 + i, none⟩) (show b2 < M1 by have := HM1.out; omega)).trans h3⟩
                    have hltR : ∀ i, i < q → (rightL nc name k (nc k)).getD i 0 < rl k r := fun i hi => by
                      have hil : i < (rightL nc name k (nc k)).length := by rw [← HRB.out.2]; exact hi
                      have := right_mem k (nc k) _ (List.getElem_mem hil)
                      rw [List.getD_eq_getElem?_getD, List.getElem?_eq_getElem hil]
                      simp only [Option.getD_some]
                      omega
                    obtain ⟨XX, hXX⟩ : ∃ X, X = rrA k r := ⟨_, rfl⟩
                    rw [← hXX] at hc1' hRow
                    have hxsl : ((rightL nc name k (nc k)).map fun c => val k r c).length = q := by rw [List.length_map]; exact HRB.out.2.symm
                    have hxss : ∀ x ∈ (rightL nc name k (nc k)).map (fun c => val k r c), x.size ≤ 1048576 := fun x hx => by
                      obtain ⟨c, hc, rfl⟩ := List.mem_map.1 hx
                      have := right_mem k (nc k) c hc
                      exact hrlb.2 c (by omega)
                    have hks : (keyR nc name val k r).size ≤ 9223372036854775807 := keyB_size _ (by omega) hxss
                    have HP : Hid (RowB wr.heap.size wr XX (rl k r) (fun i => .string (val k r i)) ∧ RowB wr.heap.size wr YR q (fun i => .int .i64 (((rightL nc name k (nc k)).getD i 0 : Nat) : Int)) ∧ (∀ i, i < q → (rightL nc name k (nc k)).getD i 0 < rl k r) ∧ ((rightL nc name k (nc k)).map fun c => val k r c).length = q ∧ (∀ x ∈ (rightL nc name k (nc k)).map (fun c => val k r c), x.size ≤ 1048576) ∧ (keyR nc name val k r).size ≤ 9223372036854775807 ∧ rl k r ≤ 65536) := ⟨hRow, hRgt, hltR, hxsl, hxss, hks, hrlb.1⟩
                    obtain ⟨ks, hkk⟩ : ∃ ks, ks = keyR nc name val k r := ⟨_, rfl⟩
                    have HK := Hid.intro hkk
                    obtain ⟨v, hvv⟩ : ∃ v, v = (f (keyR nc name val k r)).getD (.slice none 0 0) := ⟨_, rfl⟩
                    have HV := Hid.intro hvv
                    have hrof := rowsOf_length (keyR nc name val k) (keyR nc name val k r) r
                    clear hc1 hbw hrlb hwide hRow hRgt hltR hxsl hxss hks hXX hkk hvv
                    cases hx
                    go_wp2_with (first | (go_at_call 21; refine (pick_any XX YR (rl k r) (rrC k r) q qR (val k r) (rightL nc name k (nc k)) _ hqb HP.out.2.2.2.2.2.2 HP.out.1 HP.out.2.1 HP.out.2.2.1).mono ?_; rintro e w1 ⟨rfl, hr1, hb1⟩; have HP1 := Hid.intro (And.intro hr1 hb1); clear hr1 hb1) | (go_at_call 20; refine (comb_key HK.out HP.out.2.2.2.1 (Nat.le_refl _) hqb HP.out.2.2.2.2.1 (pick_list HRB.out.2 HP1.out.1)).mono ?_; rintro e w2 ⟨rfl, hb2⟩; have HG5 := Hid.intro (G4.below (G4.below HG4.out.2 HP1.out.2) hb2); clear hb2; have hlk := HG5.out.map.look Try.underlying48 (zero48 _) (keyR nc name val k r) HP.out.2.2.2.2.2.1; rw [← HK.out] at hlk; rw [HK.out, ← HV.out, ← HK.out] at hlk) | (at_builtin; refine wpList_append_own_at _ rfl (.tmp 115) (.tmp 117) 22 rfl (M1 + 1) 3 i0 (.int .i64 0) 1 8 Try.underlying22 hi3 hz0 hz1 hz2 rfl (by decide) _ _ _ rfl (own_at HV.out (HG5.out.at (keyR nc name val k r)) _) ⟨w2.heap.size, 0, none⟩ 1 1 [.int .i64 (r : Int)] rfl rfl (cell_one_new _ _ _) (one_one _) (by unfold maxLen; omega) (by omega) (Nat.le_trans HG5.out.sz (size_le_alloc _ _)) ?_; intro v3 w3 ho3 hg3 hn3 hl3; rw [HV.out] at hg3 hl3; obtain ⟨w4, hup, hG6⟩ := G4.store (G4.below HG5.out ((Below.refl _ _).alloc (Nat.le_refl _) _)) hg3 ho3 hl3 (by unfold maxLen; omega) HP.out.2.2.2.2.2.1; rw [← HK.out] at hup; have HG7 := Hid.intro hG6; clear hG6 ho3 hg3 hn3 hl3))
                    go_roundg (nr k - (r + 1))
                    case measure => rw [HG4.out.1]; omega
                    case rel => exact ⟨r + 1, _, rfl, by omega, by go_num, HG7.out⟩
                  · have hrn : r = nr k := by omega
                    subst hrn
                    have hSB := S3.below HS.out (by rw [← HM1.out]; exact hbr)
                    have hGB := HG4.out.2
                    obtain ⟨YL, qL, hvL, hqL, hYL⟩ := own_form hSB.left
                    obtain ⟨YP, qP, hvP, hqP, hYP⟩ := own_form hSB.picks
                    have HSB := Hid.intro hSB
                    have HGB := Hid.intro hGB
                    subst hvL
                    subst hvP
                    obtain ⟨qq, hqq⟩ : ∃ n, n = (leftL nc name k (nc k)).length := ⟨_, rfl⟩
                    have hqqb : qq ≤ 65536 := by have := left_length_le (nc := nc) (name := name) k (nc k); omega
                    obtain ⟨np, hnp⟩ : ∃ n, n = (flatJ nc nr name val k).length := ⟨_, rfl⟩
                    have hfk : flatJ nc nr name val k = (jT nc name val nr k).flatten := by unfold flatJ; rw [if_neg hk0]
                    have hnpT : np = (jT nc name val nr k).length * k := by rw [hnp, hfk, flat_len (fun t ht => (jT_fits k t ht).1)]
                    have hnpb : np ≤ 268500992 := by rw [hnp]; exact flatJ_bound' hD hk0 hlt
                    rw [← hqq] at hYL hqL HSB ⊢
                    rw [← hnp] at hYP hqP HSB ⊢
                    have HLEN := Hid.intro (And.intro hqq (And.intro hnp (And.intro hfk hnpT)))
                    have hmkV := run_make_row' (P := Try.prog) 30 9 (.string ⟨#[]⟩) 16 Try.underlying30 Try.info9 rfl .i64 .i64 qq (by omega) (by omega)
                    have hV0 := World.rowIs_made wr (.string ⟨#[]⟩) qq 9
                    have hbV := (Below.refl wr.heap.size wr).alloc (Nat.le_refl _) (.cells (madeCells #[.string ⟨#[]⟩] qq) 9)
                    have hsV : wr.heap.size + 1 ≤ (wr.alloc (.cells (madeCells #[.string ⟨#[]⟩] qq) 9)).heap.size := by simp
                    have HL0 := Hid.intro (And.intro hYL (And.intro hqL (And.intro hYP hqP)))
                    clear hqq hnp hfk hnpT hSB hGB hYL hqL hYP hqP HG4 hgrid hr hbr hszr
                    go_wp2
                    obtain ⟨wB, hwB⟩ : ∃ wB, wB = wr := ⟨_, rfl⟩
                    rw [← hwB] at HSB HGB hV0 hbV hsV HL0 ⊢
                    obtain ⟨V, hV⟩ : ∃ V, V = wB.heap.size := ⟨_, rfl⟩
                    rw [← hV] at hV0 hbV hsV ⊢
                    have HVV := Hid.intro (And.intro hV hwB)
                    clear hV hwB hmkV hlr
                    go_loopg [20, 21] (jT nc name val nr k).length (fun g x i wr => ∃ (m I : Nat) (h : Nat → ByteArray), g = (jT nc name val nr k).length - m ∧ m ≤ (jT nc name val nr k).length ∧ I = m * k ∧ i = .int .i64 I ∧ wr.ownsRow (V + 1) 3 1 x (fl nc nr name val k m).length (intCells (fl nc nr name val k m)) ∧
                      wr.rowIs V 9 qq (fun i => .string (h i)) ∧ Below V wB wr ∧ V + 1 ≤ wr.heap.size)
                    case atStart => exact ⟨0, 0, fun _ => ⟨#[]⟩, rfl, Nat.zero_le _, by simp, rfl, by rw [fl_zero]; exact World.ownsRow_nil _ _ _ _, hV0, hbV, hsV⟩
                    case round =>
                      clear hV0 hbV hsV
                      obtain ⟨m, I, h, hg, hm, hI, rfl, hx, hrV, hbV, hsV⟩ := hrel
                      have HG5 := Hid.intro (And.intro hg hI)
                      by_cases hlm : m < (jT nc name val nr k).length
                      · obtain ⟨t, ht⟩ : ∃ t, (jT nc name val nr k)[m]? = some t := ⟨_, List.getElem?_eq_getElem hlm⟩
                        have hfit := jT_fits k t (List.mem_of_getElem? ht)
                        have hIk : I + k ≤ np := by
                          have h1 : (m + 1) * k ≤ (jT nc name val nr k).length * k := Nat.mul_le_mul_right k hlm
                          rw [Nat.succ_mul, ← HLEN.out.2.2.2] at h1
                          omega
                        have hqP := HL0.out.2.2.2
                        obtain ⟨gP, hgP, hgPl, hcP⟩ : ∃ g, YP = some ⟨g, 0, none⟩ ∧ g < V ∧ ∀ j, j < k → wB.cell? ⟨g, I + j, none⟩ = some (.int .i64 ((tupF t j : Nat) : Int)) := by
                          rcases HL0.out.2.2.1 with h1 | ⟨g, h1, h2, h3⟩
                          · omega
                          · refine ⟨g, h1, by rw [HVV.out.1]; exact h2, fun j hj => h3 (I + j) _ ?_⟩
                            have e1 := flat_get (fun t ht => (jT_fits k t ht).1) ht hj
                            rw [← HG5.out.2] at e1
                            have htl : j < t.length := by rw [hfit.1]; exact hj
                            rw [HLEN.out.2.2.1]
                            simp only [intCells, List.getElem?_map, e1, Option.map_eq_some_iff]
                            exact ⟨t[j], List.getElem?_eq_getElem htl, by simp [tupF, htl]⟩
                        clear hg hI
                        subst hgP
                        go_wp2
                        have eIk : I + k - I = k := by omega
                        rw [eIk]
                        clear eIk
                        have HX := Hid.intro (And.intro hx ht)
                        clear hx ht
                        go_loopg [138] qq (fun g i wr => ∃ j : Nat, g = qq - j ∧ j ≤ qq ∧ i = .int .i64 j ∧ wr.ownsRow (V + 1) 3 1 u20 (fl nc nr name val k m).length (intCells (fl nc nr name val k m)) ∧
                          wr.rowIs V 9 qq (fun i => if i < j then .string (valL (leftL nc name k (nc k)) val t i) else .string (h i)) ∧ Below V wB wr ∧ V + 1 ≤ wr.heap.size)
                        case atStart => exact ⟨0, rfl, Nat.zero_le _, rfl, HX.out.1, hrV.congr fun i hi => by simp, hbV, hsV⟩
                        case round =>
                          clear hrV hbV hsV
                          obtain ⟨j, hg, hj, rfl, hx, hrV, hbV, hsV⟩ := hrel
                          have HG6 := Hid.intro (And.intro hg (And.intro hx hrV))
                          clear hg hx
                          by_cases hlj : j < qq
                          · obtain ⟨e, hee⟩ : ∃ e, e = (leftL nc name k (nc k)).getD j noEnt := ⟨_, rfl⟩
                            have hjl : j < (leftL nc name k (nc k)).length := by rw [← HLEN.out.1]; exact hlj
                            have hmem : e ∈ leftL nc name k (nc k) := by
                              rw [hee, List.getD_eq_getElem?_getD, List.getElem?_eq_getElem hjl]
                              exact List.getElem_mem hjl
                            obtain ⟨he1, he2⟩ := left_mem k (nc k) e hmem
                            obtain ⟨gL, hgL, hgLl, hcL1, hcL2⟩ : ∃ g, YL = some ⟨g, 0, none⟩ ∧ g < V ∧ wB.cell? ⟨g, j * 2, none⟩ = some (.int .i64 ((e.2.1 : Nat) : Int)) ∧ wB.cell? ⟨g, j * 2 + 1, none⟩ = some (.int .i64 ((e.2.2 : Nat) : Int)) := by
                              rcases HL0.out.1 with h1 | ⟨g, h1, h2, h3⟩
                              · omega
                              · have e1 := ent_get (leftL nc name k (nc k)) j hjl
                                rw [← hee, Nat.mul_comm] at e1
                                exact ⟨g, h1, by rw [HVV.out.1]; exact h2, h3 _ _ e1.1, h3 _ _ e1.2⟩
                            have hL1 := (hbV.cell (p := ⟨gL, j * 2, none⟩) hgLl).trans hcL1
                            have hL2 := (hbV.cell (p := ⟨gL, j * 2 + 1, none⟩) hgLl).trans hcL2
                            clear hcL1 hcL2
                            subst hgL
                            obtain ⟨a1, ha1⟩ : ∃ a, a = e.2.1 := ⟨_, rfl⟩
                            obtain ⟨a2, ha2⟩ : ∃ a, a = e.2.2 := ⟨_, rfl⟩
                            rw [← ha1] at he1 he2 hL1
                            rw [← ha2] at he2 hL2
                            obtain ⟨tr, htr⟩ : ∃ a, a = tupF t a1 := ⟨_, rfl⟩
                            have htrl : tr < nr a1 := by rw [htr]; exact hfit.2 a1 he1
                            have ha1K : a1 < K := by omega
                            have hcP1 := hcP a1 he1
                            rw [← htr] at hcP1
                            have hwd := (hD.wide a1 ha1K tr htrl).1
                            obtain ⟨br, or, hbr1, hbr2, hbr3⟩ := (hC.at2 a1 ha1K).at1 tr htrl
                            obtain ⟨bv, ov, hbv1, hbv2, hbv3⟩ := (hC.at2 a1 ha1K).at2 tr htrl a2 (by omega)
                            obtain ⟨wO, hwO⟩ : ∃ x, x = wr.alloc (.cells #[.int .i64 (a1 : Int), .int .i64 (a2 : Int)] 44) := ⟨_, rfl⟩
                            have hbB : Below w.heap.size w wB := HSB.out.bel
                            have hszV : w.heap.size ≤ V := by rw [HVV.out.1]; exact hbB.size
                            have hbO : Below V wB wO := by rw [hwO]; exact hbV.alloc (by omega) _
                            have hbW : Below w.heap.size w wO := hbB.trans (hbO.mono hszV)
                            have f1 := (hSh.later hbW).at0 a1 ha1K
                            have f2 := (hSh.later hbW).rows a1 ha1K
                            have f3 := (hbO.cell (p := ⟨gP, I + a1, none⟩) hgPl).trans hcP1
                            have f4 := (hbW.cell (p := ⟨br, or + tr, none⟩) hbr2).trans hbr3
                            have f5 := (hbW.cell (p := ⟨bv, ov + a2, none⟩) hbv2).trans hbv3
                            have hrO : wO.rowIs V 9 qq (fun i => if i < j then .string (valL (leftL nc name k (nc k)) val t i) else .string (h i)) := by rw [hwO]; exact hrV.alloc _
                            have f6 := hrO.cell hlj
                            have f7 := hrO.frozen j
                            have f8 : wO.cell? ⟨wr.heap.size, 0, none⟩ = some (.int .i64 (a1 : Int)) := by rw [hwO]; exact (cell_two_new wr _ _ 44) 0 _ rfl
                            have f9 : wO.cell? ⟨wr.heap.size, 1, none⟩ = some (.int .i64 (a2 : Int)) := by rw [hwO]; exact (cell_two_new wr _ _ 44) 1 _ rfl
                            have hIa : (a1 : Int) < (K : Int) := by omega
                            have hIt : (tr : Int) < (nr a1 : Int) := by omega
                            have hIc : (a2 : Int) < (rl a1 tr : Int) := by omega
                            have hIk1 : (a1 : Int) < (k : Int) := by omega
                            have hIj : (j : Int) < (qq : Int) := by omega
                            have HO := Hid.intro (And.intro hbO (And.intro hrO (And.intro hwO (And.intro htr (And.intro ha1 (And.intro ha2 hee))))))
                            clear hbO hrO hrV hbV hbr3 hbv3 hcP1 htr ha1 ha2 hee hwd hmem hjl hbW hwO
                            go_wp2
                            rw [← HO.out.2.2.1]
                            clear hL1 hL2
                            rw [hbr1] at f2
                            rw [hbv1] at f4
                            clear hbr1 hbv1
                            go_region
                            go_wp2
                            go_roundg (qq - (j + 1))
                            case measure => rw [HG6.out.1]; omega
                            case rel =>
                              have hown := HG6.out.2.1.alloc (.cells #[.int .i64 (a1 : Int), .int .i64 (a2 : Int)] 44)
                              rw [← HO.out.2.2.1] at hown
                              refine ⟨j + 1, rfl, by omega, by go_num, ownsRow_setCell_below hown (a := ⟨V, j, none⟩) (show V < V + 1 by omega) _, vals_step ?_ HO.out.2.1, (HO.out.1.setCell (Nat.le_refl _) _).drew, ?_⟩
                              · unfold valL
                                rw [← HO.out.2.2.2.2.2.2, ← HO.out.2.2.2.2.1, ← HO.out.2.2.2.2.2.1, ← HO.out.2.2.2.1]
                              · have h1 : V + 1 ≤ wO.heap.size := by rw [HO.out.2.2.1]; simp; omega
                                simpa using h1
                          · have hjq : j = qq := by omega
                            subst hjq
                            have hrA := vals_all HLEN.out.1 HG6.out.2.2
                            have hxsl : ((leftL nc name k (nc k)).map fun e => val e.2.1 (tupF t e.2.1) e.2.2).length = j := by rw [List.length_map]; exact HLEN.out.1.symm
                            have hxss : ∀ x ∈ (leftL nc name k (nc k)).map (fun e => val e.2.1 (tupF t e.2.1) e.2.2), x.size ≤ 1048576 := fun x hx => by
                              obtain ⟨e, he, rfl⟩ := List.mem_map.1 hx
                              obtain ⟨he1, he2⟩ := left_mem k (nc k) e he
                              have h1 := hfit.2 _ he1
                              have h2 := (hD.wide e.2.1 (by omega) _ h1).1
                              exact ((hD.nrb e.2.1 (by omega)).2 _ h1).2 e.2.2 (by omega)
                            have hks : (keyL nc name val k t).size ≤ 9223372036854775807 := keyB_size _ (by omega) hxss
                            obtain ⟨ks, hkk⟩ : ∃ ks, ks = keyL nc name val k t := ⟨_, rfl⟩
                            have hbVV : Below wB.heap.size wB wr := by rw [← HVV.out.1]; exact hbV
                            have hG8 := HGB.out.below hbVV
                            obtain ⟨YM, qm, hvM, hqm, hYM⟩ := own_form (HGB.out.at ks)
                            obtain ⟨zs, hzs⟩ : ∃ l, l = meets nc name val nr k t := ⟨_, rfl⟩
                            have hro : rowsOf (keyR nc name val k) ks (nr k) = zs := by rw [hkk, hzs]; rfl
                            rw [hro] at hvM hqm hYM
                            obtain ⟨nm, hnm⟩ : ∃ n, n = zs.length := ⟨_, rfl⟩
                            rw [← hnm] at hvM hqm hYM
                            have hS7 : S7 wB V j u20 (fl nc nr name val k m) wr := ⟨HG6.out.2.1, ⟨_, hrA⟩, hbV, hsV⟩
                            have H7 := Hid.intro (And.intro hrA (And.intro hxsl (And.intro hxss (And.intro hks (And.intro hkk (And.intro hG8 (And.intro hvM hS7)))))))
                            have HZ := Hid.intro (And.intro hzs (And.intro hnm hYM))
                            have hnmb : nm ≤ 65536 := by
                              rw [hnm, hzs]
                              refine Nat.le_trans (List.length_filter_le _ _) ?_
                              rw [List.length_range]
                              exact hnr
                            clear hrA hxsl hxss hks hkk hG8 hvM hS7 hzs hro hnm hYM hbVV hrV hbV hsV HG6
                            go_wp2_with (go_at_call 20; refine (comb_key H7.out.2.2.2.2.1 H7.out.2.1 (Nat.le_refl _) hqqb H7.out.2.2.1 H7.out.1).mono ?_; rintro e w2 ⟨rfl, hb2⟩; have hlk := (H7.out.2.2.2.2.2.1.below hb2).map.look Try.underlying48 (zero48 _) ks (by rw [H7.out.2.2.2.2.1]; exact H7.out.2.2.2.1); rw [H7.out.2.2.2.2.2.2.1] at hlk; have hS8 := H7.out.2.2.2.2.2.2.2.below hb2; clear hb2)
                            clear hlk
                            go_loopg [20, 171] nm (fun g x i wr => ∃ y : Nat, g = nm - y ∧ y ≤ nm ∧ i = .int .i64 y ∧ S7 wB V j x (fl nc nr name val k m ++ part t zs y) wr)
                            case atStart => exact ⟨0, rfl, Nat.zero_le _, rfl, by simp only [part, List.take_zero, List.flatMap_nil, List.append_nil]; exact hS8⟩
                            case round =>
                              clear hS8
                              obtain ⟨y, hg, hy, rfl, hS9⟩ := hrel
                              have HG7 := Hid.intro (And.intro hg hS9)
                              clear hg
                              by_cases hly : y < nm
                              · obtain ⟨z, hzy⟩ : ∃ z, zs[y]? = some z := ⟨_, List.getElem?_eq_getElem (by rw [← HZ.out.2.1]; exact hly)⟩
                                obtain ⟨gM, hgM, hgMl, hcM⟩ : ∃ g, YM = some ⟨g, 0, none⟩ ∧ g < V ∧ wB.cell? ⟨g, y, none⟩ = some (.int .i64 ((z : Nat) : Int)) := by
                                  rcases HZ.out.2.2 with h1 | ⟨g, h1, h2, h3⟩
                                  · omega
                                  · refine ⟨g, h1, by rw [HVV.out.1]; exact h2, h3 y _ ?_⟩
                                    simp only [intCells, List.getElem?_map, hzy, Option.map_some]
                                have hM1 := (hS9.bel.cell (p := ⟨gM, y, none⟩) hgMl).trans hcM
                                have hT1 : ∀ i u, (intCells t)[i]? = some u → wr.cell? ((⟨gP, I, none⟩ : Addr).add i) = some u := fun i u hu => by
                                  obtain ⟨h1, rfl⟩ := int_get t i u hu
                                  rw [hfit.1] at h1
                                  have h2 := (hS9.bel.cell (p := ⟨gP, I + i, none⟩) hgPl).trans (hcP i h1)
                                  rw [at_add]
                                  exact h2
                                have hb1 : (fl nc nr name val k m ++ part t zs y).length + k + 1 ≤ 268500992 := by
                                  have e1 := part_succ (t := t) hzy
                                  have e2 := part_le t zs (y + 1)
                                  rw [e1] at e2
                                  have e3 := fl_succ (nc := nc) (nr := nr) (name := name) (val := val) HX.out.2
                                  have e4 := fl_le (nc := nc) (nr := nr) (name := name) (val := val) (k := k) (m := m + 1)
                                  have e5 := flatJ_bound hD hlt
                                  rw [e3, ← HZ.out.1] at e4
                                  have e6 := hfit.1
                                  simp only [List.length_append, List.length_cons, List.length_nil] at e2 e4 ⊢
                                  omega
                                have hS9' := hS9.sz
                                have HT := Hid.intro (And.intro hzy (And.intro hT1 (And.intro hb1 hS9')))
                                clear hzy hT1 hb1 hcM hS9 hS9'
                                subst hgM
                                go_wp2_with (first | (at_builtin; refine wpList_append_own_at _ rfl (.tmp 175) (.tmp 176) 22 rfl (V + 1) 3 i0 (.int .i64 0) 1 8 Try.underlying22 hi3 hz0 hz1 hz2 rfl (by decide) _ _ _ rfl HG7.out.2.own ⟨gP, I, none⟩ k (qP - I) (intCells t) rfl (by rw [intCells_length, hfit.1, Nat.mul_one]) HT.out.2.1 (intCells_one t) (by have := HT.out.2.2.1; unfold maxLen; omega) (by have := HT.out.2.2.1; omega) HT.out.2.2.2 ?_; intro v1 w3 ho1 hg1 hn1 hl1; have hSA := Hid.intro (HG7.out.2.grown hfit.1.symm hg1 ho1); clear ho1 hg1 hn1 hl1) | (at_builtin; refine wpList_append_own_at _ rfl (.tmp 178) (.tmp 180) 22 rfl (V + 1) 3 i0 (.int .i64 0) 1 8 Try.underlying22 hi3 hz0 hz1 hz2 rfl (by decide) _ _ _ rfl (hSA.out.alloc _).own ⟨w3.heap.size, 0, none⟩ 1 1 [.int .i64 (z : Int)] rfl rfl (cell_one_new _ _ _) (one_one _) (by have := HT.out.2.2.1; have := hfit.1; unfold maxLen; rw [List.length_append]; omega) (by have := HT.out.2.2.1; have := hfit.1; rw [List.length_append]; omega) (Nat.le_trans hSA.out.sz (size_le_alloc _ _)) ?_; intro v2 w4 ho2 hg2 hn2 hl2; have hSB := Hid.intro ((hSA.out.alloc _).grown (ys := [z]) rfl hg2 ho2); clear ho2 hg2 hn2 hl2))
                                go_roundg (nm - (y + 1))
                                case measure => rw [HG7.out.1]; omega
                                case rel => exact ⟨y + 1, rfl, by omega, by go_num, by rw [part_succ HT.out.1, ← List.append_assoc, ← List.append_assoc]; exact hSB.out⟩
                              · have hyn : y = nm := by omega
                                subst hyn
                                have hS9' : S7 wB V j u20 (fl nc nr name val k (m + 1)) wr := by
                                  rw [fl_succ HX.out.2, ← HZ.out.1, ← part_all, ← HZ.out.2.1]
                                  exact hS9
                                have HS9 := Hid.intro hS9'
                                clear hS9 hS9' HG7
                                go_wp2
                                go_roundg ((jT nc name val nr k).length - (m + 1))
                                case measure => rw [HG5.out.1]; omega
                                case rel =>
                                  obtain ⟨h9, hr9⟩ := HS9.out.row
                                  exact ⟨m + 1, I + k, h9, rfl, by omega, by rw [Nat.succ_mul, HG5.out.2], by go_num, HS9.out.own, hr9, HS9.out.bel, HS9.out.sz⟩
                      · have hmT : m = (jT nc name val nr k).length := by omega
                        have hInp : I = np := by rw [HG5.out.2, hmT, ← HLEN.out.2.2.2]
                        subst hInp
                        have hfl : wr.ownsRow w.heap.size 3 1 u20 (flatJ nc nr name val (k + 1)).length (intCells (flatJ nc nr name val (k + 1))) := by
                          have h1 := hx
                          rw [hmT, fl_all] at h1
                          refine own_base h1 ?_
                          have := HSB.out.bel.size
                          rw [HVV.out.1]
                          omega
                        have hSC := (HSB.out.below (by rw [← HVV.out.1]; exact hbV)).repick hfl
                        have HSC := Hid.intro hSC
                        clear hSC hfl hx hrV hbV hsV hm hg hI hmT hlm
                        go_wp2
                        go_roundg (K - (k + 1))
                        case measure => rw [HG.out]; omega
                        case rel => exact ⟨k + 1, rfl, by omega, by go_num, HSC.out⟩
        · have hkK : K = k := by omega
          subst hkK
          have HSD := Hid.intro hS
          clear hS
          go_wp2
          go_ret3
          exact ⟨_, _, _, rfl, HSD.out.picks, HSD.out.names, HSD.out.orig, HSD.out.bel⟩
end Go.Proofs.Qxb6602443a
