/-
  THE WALK over 'ZZJoin'.
-/
import Derived.Test.Qxb6602443aJJoin
namespace Go.Proofs.Qxb6602443a
open Go.RowKit Go.Deep Go.Maps
set_option linter.unusedVariables false

theorem Try.info37 : (Try.prog.info? 37).map (fun i => (i.zero, i.size, i.bytes)) = some (some (.pointer none), 1, 8) := by kernel_rfl
theorem Try.underlying36' : Try.prog.underlying 36 = some (.slice 37) := by kernel_rfl

theorem results_tmp4 {fn : Func} {t u v x : Tmp} (h : fn.results = #[.tmp t, .tmp u, .tmp v, .tmp x]) (tmps : Array Value) (P : Program) (w : World) :
    (results fn tmps).run P w = .ok (.tuple #[tmps.getD t undef, tmps.getD u undef, tmps.getD v undef, tmps.getD x undef]) w := by
  simp [results, h]

theorem Grid.wider {B B' : Nat} {w : World} {ca : Option Addr} {K : Nat} {cA : Nat → Option Addr} {nc cC : Nat → Nat} {name : Nat → Nat → ByteArray} (h : Grid B w ca K cA nc cC name) (hb : B ≤ B') : Grid B' w ca K cA nc cC name where
  at1 := fun k hk => by
    obtain ⟨b, o, h1, h2, h3⟩ := h.at1 k hk
    exact ⟨b, o, h1, by omega, h3⟩
  at2 := fun k hk c hc => by
    obtain ⟨b, o, h1, h2, h3⟩ := h.at2 k hk c hc
    exact ⟨b, o, h1, by omega, h3⟩
  len1 := h.len1
  len2 := h.len2
theorem Cube.wider {B B' : Nat} {w : World} {ra : Option Addr} {K : Nat} {rA : Nat → Option Addr} {nr rC : Nat → Nat} {rrA : Nat → Nat → Option Addr} {rl rrC : Nat → Nat → Nat} {val : Nat → Nat → Nat → ByteArray} (h : Cube B w ra K rA nr rC rrA rl rrC val) (hb : B ≤ B') : Cube B' w ra K rA nr rC rrA rl rrC val where
  at1 := fun k hk => by
    obtain ⟨b, o, h1, h2, h3⟩ := h.at1 k hk
    exact ⟨b, o, h1, by omega, h3⟩
  at2 := fun k hk => (h.at2 k hk).wider hb
  len1 := h.len1

theorem sheet_step {wr : World} {g n k B : Nat} {o : Obj} (h : wr.rowIs g 37 n (fun i => if i < k then .pointer (some ⟨B + i, 0, none⟩) else .pointer none)) :
    (((wr.alloc o).setCell ⟨g, k, none⟩ (.pointer (some ⟨B + k, 0, none⟩))).drew).rowIs g 37 n (fun i => if i < k + 1 then .pointer (some ⟨B + i, 0, none⟩) else .pointer none) := by
  have h1 : ((wr.alloc o).setCell ⟨g, k, none⟩ (.pointer (some ⟨B + k, 0, none⟩))).rowIs g 37 n (fun i => if i < k + 1 then .pointer (some ⟨B + i, 0, none⟩) else .pointer none) := by
    refine ((h.alloc o).set k _).congr fun i hi => ?_
    by_cases e : i = k
    · subst e; simp
    · rw [if_neg e]
      by_cases h2 : i < k
      · rw [if_pos h2, if_pos (by omega)]
      · rw [if_neg h2, if_neg (by omega)]
  exact h1.drew

theorem new_at (w : World) (c : Array Value) (t : TypeId) (j : Nat) (u : Value) (h : c[j]? = some u) : (w.alloc (.cells c t)).cell? ⟨w.heap.size, j, none⟩ = some u := by
  simp [h]

theorem sheet_cells {w wr : World} {k : Nat} {cA rA : Nat → Option Addr} {nc cC nr rC : Nat → Nat} {X1 X2 : Option Addr} {z0 z3 z4 u : Value} (hsz : wr.heap.size = w.heap.size + 1 + k) (h1 : X1 = cA k) (h2 : X2 = rA k)
    (h : ∀ i, i < k → wr.cell? ⟨w.heap.size + 1 + i, 1, none⟩ = some (.slice (cA i) (nc i) (cC i)) ∧ wr.cell? ⟨w.heap.size + 1 + i, 2, none⟩ = some (.slice (rA i) (nr i) (rC i))) :
    ∀ i, i < k + 1 → (((wr.alloc (.cells #[z0, .slice X1 (nc k) (cC k), .slice X2 (nr k) (rC k), z3, z4] 39)).setCell ⟨w.heap.size, k, none⟩ u).drew).cell? ⟨w.heap.size + 1 + i, 1, none⟩ = some (.slice (cA i) (nc i) (cC i)) ∧
      (((wr.alloc (.cells #[z0, .slice X1 (nc k) (cC k), .slice X2 (nr k) (rC k), z3, z4] 39)).setCell ⟨w.heap.size, k, none⟩ u).drew).cell? ⟨w.heap.size + 1 + i, 2, none⟩ = some (.slice (rA i) (nr i) (rC i)) := by
  intro i hi
  subst h1 h2
  have e1 : ∀ j, (((wr.alloc (.cells #[z0, .slice (cA k) (nc k) (cC k), .slice (rA k) (nr k) (rC k), z3, z4] 39)).setCell ⟨w.heap.size, k, none⟩ u).drew).cell? ⟨w.heap.size + 1 + i, j, none⟩ = (wr.alloc (.cells #[z0, .slice (cA k) (nc k) (cC k), .slice (rA k) (nr k) (rC k), z3, z4] 39)).cell? ⟨w.heap.size + 1 + i, j, none⟩ := fun j =>
    World.cell?_setCell_other _ _ _ _ (by simp)
  rw [e1, e1]
  by_cases e : i = k
  · subst e
    rw [← hsz]
    exact ⟨new_at wr _ 39 1 _ rfl, new_at wr _ 39 2 _ rfl⟩
  · have hb := (Below.refl wr.heap.size wr).alloc (Nat.le_refl _) (.cells #[z0, .slice (cA k) (nc k) (cC k), .slice (rA k) (nr k) (rC k), z3, z4] 39)
    rw [hb.cell (p := ⟨w.heap.size + 1 + i, 1, none⟩) (show w.heap.size + 1 + i < wr.heap.size by omega), hb.cell (p := ⟨w.heap.size + 1 + i, 2, none⟩) (show w.heap.size + 1 + i < wr.heap.size by omega)]
    exact h i (by omega)

theorem int_step {wr : World} {g n k e : Nat} {f : Nat → Nat} (he : e = f k) (h : wr.rowIs g 3 n (fun i => if i < k then .int .i64 ((f i : Nat) : Int) else .int .i64 0)) :
    (wr.setCell ⟨g, k, none⟩ (.int .i64 (e : Int))).rowIs g 3 n (fun i => if i < k + 1 then .int .i64 ((f i : Nat) : Int) else .int .i64 0) := by
  subst he
  refine (h.set k _).congr fun i hi => ?_
  by_cases e : i = k
  · subst e; simp
  · rw [if_neg e]
    by_cases h2 : i < k
    · rw [if_pos h2, if_pos (by omega)]
    · rw [if_neg h2, if_neg (by omega)]

set_option maxRecDepth 100000 in
set_option maxHeartbeats 4000000 in
theorem zz_any (w : World) (K cc rc : Nat) (ca ra : Option Addr) (cA rA : Nat → Option Addr) (nc cC nr rC : Nat → Nat) (name : Nat → Nat → ByteArray) (rrA : Nat → Nat → Option Addr) (rl rrC : Nat → Nat → Nat) (val : Nat → Nat → Nat → ByteArray) (F : List Ent) (N : Nat)
    (hG : Grid w.heap.size w ca K cA nc cC name) (hC : Cube w.heap.size w ra K rA nr rC rrA rl rrC val) (hD : InDom K nc nr name rl val) (hF : F = stS nc name K) (hN : N = F.length) (hNb : N ≤ 268435456) :
    Calls Try.prog 13 #[.slice ca K cc, .slice ra K rc] w fun e w' => ∃ vP vN G1 G2, e = .returned (.tuple #[vP, vN, .slice (some ⟨G1, 0, none⟩) N N, .slice (some ⟨G2, 0, none⟩) N N]) ∧
      w'.ownsRow w.heap.size 3 1 vP (flatJ nc nr name val K).length (intCells (flatJ nc nr name val K)) ∧
      w'.ownsRow w.heap.size 9 1 vN N (nameCells F) ∧ w'.rowIs G1 3 N (fun i => .int .i64 (((F.getD i noEnt).2.1 : Nat) : Int)) ∧ w'.rowIs G2 3 N (fun i => .int .i64 (((F.getD i noEnt).2.2 : Nat) : Int)) ∧ Below w.heap.size w w' := by
  have hK := hD.kmax
  have hK1 := hD.one
  have hmkS := run_make_row' (P := Try.prog) 36 37 (.pointer none) 8 Try.underlying36' Try.info37 rfl .i64 .i64 K (by omega) (by omega)
  have h0 := World.rowIs_made w (.pointer none) K 37
  obtain ⟨S, hS⟩ : ∃ S, S = w.heap.size := ⟨_, rfl⟩
  have HS := Hid.intro hS
  go_enter Try.func13, Try.ntmps13
  go_wp2
  clear hmkS
  go_loopg [9] K (fun g i wr => ∃ k : Nat, g = K - k ∧ k ≤ K ∧ i = .int .i64 k ∧ wr.heap.size = w.heap.size + 1 + k ∧ wr.rowIs w.heap.size 37 K (fun i => if i < k then .pointer (some ⟨w.heap.size + 1 + i, 0, none⟩) else .pointer none) ∧
    (∀ i, i < k → wr.cell? ⟨w.heap.size + 1 + i, 1, none⟩ = some (.slice (cA i) (nc i) (cC i)) ∧ wr.cell? ⟨w.heap.size + 1 + i, 2, none⟩ = some (.slice (rA i) (nr i) (rC i))) ∧ Below w.heap.size w wr)
  case atStart => exact ⟨0, rfl, Nat.zero_le _, rfl, by simp, h0.congr fun i hi => by simp, fun i hi => absurd hi (Nat.not_lt_zero _), (Below.refl _ _).alloc (Nat.le_refl _) _⟩
  case round =>
    clear h0
    obtain ⟨k, hg, hk, rfl, hsz, hrow, hall, hbel⟩ := hrel
    have HR := Hid.intro (And.intro hg (And.intro hrow hall))
    clear hg hall
    by_cases hlt : k < K
    · obtain ⟨b1, o1, hx1, hb1, hc1⟩ := hG.at1 k hlt
      obtain ⟨b2, o2, hx2, hb2, hc2⟩ := hC.at1 k hlt
      have hc1' := (hbel.cell (p := ⟨b1, o1 + k, none⟩) hb1).trans hc1
      have hc2' := (hbel.cell (p := ⟨b2, o2 + k, none⟩) hb2).trans hc2
      obtain ⟨X1, hX1⟩ : ∃ X, X = cA k := ⟨_, rfl⟩
      obtain ⟨X2, hX2⟩ : ∃ X, X = rA k := ⟨_, rfl⟩
      have hrow2 := hrow.alloc (.cells #[.string ⟨#[]⟩, .slice X1 (nc k) (cC k), .slice X2 (nr k) (rC k), .slice none 0 0, .slice none 0 0] 39)
      have hS1 := hrow2.cell hlt
      have hf := hrow2.frozen k
      rw [if_neg (Nat.lt_irrefl k)] at hS1
      rw [← hX1] at hc1'
      rw [← hX2] at hc2'
      have HX := Hid.intro (And.intro hX1 hX2)
      clear hX1 hX2 hrow hrow2 hc1 hc2 hS
      cases hx1
      cases hx2
      have hIk : (k : Int) < (K : Int) := by omega
      go_wp2
      go_region
      go_wp2
      go_roundg (K - (k + 1))
      case measure => rw [HR.out.1]; omega
      case rel =>
        exact ⟨k + 1, rfl, by omega, by go_num, by simp [hsz]; omega, sheet_step HR.out.2.1, sheet_cells hsz HX.out.1 HX.out.2 HR.out.2.2, ((hbel.alloc (by omega) _).setCell (Nat.le_refl _) _).drew⟩
    · have hkK : K = k := by omega
      subst hkK
      have hrow' := hrow.congr fun i hi => by rw [if_pos hi]
      have hSh : Sheets wr.heap.size wr w.heap.size K (fun k => w.heap.size + 1 + k) cA rA nc cC nr rC := {
        hSH := by omega
        at0 := fun k hk => by
          have := hrow.cell hk
          rw [if_pos hk] at this
          exact this
        lt := fun k hk => by omega
        cols := fun k hk => (HR.out.2.2 k hk).1
        rows := fun k hk => (HR.out.2.2 k hk).2 }
      have hG2 := (hG.later hbel).wider (B' := wr.heap.size) (by omega)
      have hC2 := (hC.later hbel).wider (B' := wr.heap.size) (by omega)
      have HJ := Hid.intro (And.intro hSh (And.intro hG2 (And.intro hC2 (And.intro hF (And.intro hN hbel)))))
      have hszw : w.heap.size ≤ wr.heap.size := by omega
      clear HR hrow hrow' hSh hG2 hC2 hF hN hG hC hsz hbel hlt hk hS
      have hmkN := run_make_row' (P := Try.prog) 22 3 (.int .i64 0) 8 Try.underlying22 Try.info3 rfl .i64 .i64 N (by omega) (by omega)
      go_wp2_with (go_at_call 18; refine (join_any _ _ _ _ _ _ _ _ _ _ _ _ _ _ _ _ _ HJ.out.1 HJ.out.2.1 HJ.out.2.2.1 hD).mono ?_; rintro e w1 ⟨vP, vN, vO, rfl, hP1, hN1, hO1, hb1⟩; obtain ⟨YO, qO, hvO, hqO, hYO⟩ := own_form hO1; rw [← HJ.out.2.2.2.1, ← HJ.out.2.2.2.2.1] at hvO hqO hYO; subst hvO; have HP := Hid.intro (And.intro hP1 (And.intro hN1 (And.intro hYO hb1))); clear hP1 hN1 hO1 hb1 hYO)
      clear hmkN
      have hr1 : ((w1.alloc (.cells (madeCells #[.int .i64 0] N) 3)).alloc (.cells (madeCells #[.int .i64 0] N) 3)).rowIs w1.heap.size 3 N (fun _ => .int .i64 0) := (World.rowIs_made w1 (.int .i64 0) N 3).alloc _
      have hr2 : ((w1.alloc (.cells (madeCells #[.int .i64 0] N) 3)).alloc (.cells (madeCells #[.int .i64 0] N) 3)).rowIs (w1.heap.size + 1) 3 N (fun _ => .int .i64 0) := by
        have h := World.rowIs_made (w1.alloc (.cells (madeCells #[.int .i64 0] N) 3)) (.int .i64 0) N 3
        simpa using h
      have hbx : Below w1.heap.size w1 ((w1.alloc (.cells (madeCells #[.int .i64 0] N) 3)).alloc (.cells (madeCells #[.int .i64 0] N) 3)) := ((Below.refl _ _).alloc (Nat.le_refl _) _).alloc (by simp) _
      go_loopg [11] N (fun g i wr => ∃ k : Nat, g = N - k ∧ k ≤ N ∧ i = .int .i64 k ∧ wr.rowIs w1.heap.size 3 N (fun i => if i < k then .int .i64 (((F.getD i noEnt).2.1 : Nat) : Int) else .int .i64 0) ∧ wr.rowIs (w1.heap.size + 1) 3 N (fun i => if i < k then .int .i64 (((F.getD i noEnt).2.2 : Nat) : Int) else .int .i64 0) ∧ Below w1.heap.size w1 wr)
      case atStart => exact ⟨0, rfl, Nat.zero_le _, rfl, hr1.congr fun i hi => by simp, hr2.congr fun i hi => by simp, hbx⟩
      case round =>
        clear hr1 hr2 hbx
        obtain ⟨k, hg, hk, rfl, hr1, hr2, hbx⟩ := hrel
        have HR := Hid.intro (And.intro hg (And.intro hr1 hr2))
        clear hg
        by_cases hlt : k < N
        · have hkF : k < F.length := by rw [← HJ.out.2.2.2.2.1]; exact hlt
          obtain ⟨gO, hgO, hgOl, hcO1, hcO2⟩ : ∃ g, YO = some ⟨g, 0, none⟩ ∧ g < w1.heap.size ∧ w1.cell? ⟨g, k * 2, none⟩ = some (.int .i64 (((F.getD k noEnt).2.1 : Nat) : Int)) ∧ w1.cell? ⟨g, k * 2 + 1, none⟩ = some (.int .i64 (((F.getD k noEnt).2.2 : Nat) : Int)) := by
            rcases HP.out.2.2.1 with h1 | ⟨g, h1, h2, h3⟩
            · omega
            · have e1 := ent_get F k hkF
              rw [Nat.mul_comm] at e1
              exact ⟨g, h1, h2, h3 _ _ e1.1, h3 _ _ e1.2⟩
          have a1 := (hbx.cell (p := ⟨gO, k * 2, none⟩) hgOl).trans hcO1
          have a2 := (hbx.cell (p := ⟨gO, k * 2 + 1, none⟩) hgOl).trans hcO2
          obtain ⟨e1, he1⟩ : ∃ a, a = (F.getD k noEnt).2.1 := ⟨_, rfl⟩
          obtain ⟨e2, he2⟩ : ∃ a, a = (F.getD k noEnt).2.2 := ⟨_, rfl⟩
          rw [← he1] at a1
          rw [← he2] at a2
          have s1 := hr1.cell hlt
          have s2 := hr1.frozen k
          have hr3 := hr2.setOther (a := ⟨w1.heap.size, k, none⟩) (by simp) (.int .i64 (e1 : Int))
          have s3 := hr3.cell hlt
          have s4 := hr3.frozen k
          have a2' : (wr.setCell ⟨w1.heap.size, k, none⟩ (.int .i64 (e1 : Int))).cell? ⟨gO, k * 2 + 1, none⟩ = some (.int .i64 (e2 : Int)) := (World.cell?_setCell_other _ _ _ _ (by simp)).trans a2
          rw [if_neg (Nat.lt_irrefl k)] at s1 s3
          have HE := Hid.intro (And.intro he1 he2)
          clear hcO1 hcO2 he1 he2 hr1 hr2 hr3 a2 hkF
          subst hgO
          go_wp2
          go_roundg (N - (k + 1))
          case measure => rw [HR.out.1]; omega
          case rel => exact ⟨k + 1, rfl, by omega, by go_num, (int_step HE.out.1 HR.out.2.1).setOther (by simp) _, int_step HE.out.2 (HR.out.2.2.setOther (by simp) _), (hbx.setCell (Nat.le_refl _) _).setCell (by simp) _⟩
        · have hkN : k = N := by omega
          have h1 := hr1.congr (g := fun i => .int .i64 (((F.getD i noEnt).2.1 : Nat) : Int)) fun i hi => by rw [if_pos (by omega)]
          have h2 := hr2.congr (g := fun i => .int .i64 (((F.getD i noEnt).2.2 : Nat) : Int)) fun i hi => by rw [if_pos (by omega)]
          have HQ := Hid.intro (And.intro h1 h2)
          clear h1 h2 hr1 hr2 HR hkN
          go_wp2
          ((try simp only [Exit.inBlock, Exit.then]); refine bodyPost_ret (results_tmp4 rfl _ _ _) rfl ?_)
          have hb1 := HP.out.2.2.2
          refine ⟨_, _, _, _, rfl, ?_, ?_, HQ.out.1, HQ.out.2, ?_⟩
          · exact own_below (own_base HP.out.1 hszw) hbx (own_lt HP.out.1)
          · have h5 := own_below (own_base HP.out.2.1 hszw) hbx (own_lt HP.out.2.1)
            rw [HJ.out.2.2.2.2.1, HJ.out.2.2.2.1]
            exact h5
          · exact (HJ.out.2.2.2.2.2.trans (hb1.mono hszw)).trans (hbx.mono (Nat.le_trans hszw hb1.size))
end Go.Proofs.Qxb6602443a
