/-
  THE WALK over the law.
-/
import Derived.Test.Qxb6602443aJZz
import Derived.Test.Qxb6602443aJFin
import Derived.Test.Qxb6602443aJNames
import Derived.Test.Qxb6602443aJCons
import Derived.Test.Qxb6602443aJDom
import Derived.Test.Qxb6602443aJBytes
namespace Go.Proofs.Qxb6602443a
open Go.RowKit Go.Deep Go.Maps
set_option linter.unusedVariables false

theorem rowV_names {w : World} {Y : Option Addr} {N : Nat} {F : List Ent} (hN : N = F.length) (h : N = 0 ∨ ∃ g, Y = some ⟨g, 0, none⟩ ∧ g < w.heap.size ∧ ∀ i u, (nameCells F)[i]? = some u → w.cell? ⟨g, i, none⟩ = some u) :
    RowV w Y N (fun i => .string (F.getD i noEnt).1) := fun i hi => by
  rcases h with h | ⟨g, rfl, hg, hc⟩
  · omega
  · refine ⟨g, 0, rfl, hg, ?_⟩
    have hil : i < F.length := by omega
    have := hc i (.string (F.getD i noEnt).1) (by simp [nameCells, hil])
    rw [Nat.zero_add]
    exact this
theorem rowV_of {w : World} {g N : Nat} {f : Nat → Value} (h : w.rowIs g 3 N f) : RowV w (some ⟨g, 0, none⟩) N f := fun i hi => ⟨g, 0, rfl, h.lt, by rw [Nat.zero_add]; exact h.cell hi⟩

theorem zz_any2 (w : World) (K cc rc : Nat) (ca ra : Option Addr) (cA rA : Nat → Option Addr) (nc cC nr rC : Nat → Nat) (name : Nat → Nat → ByteArray) (rrA : Nat → Nat → Option Addr) (rl rrC : Nat → Nat → Nat) (val : Nat → Nat → Nat → ByteArray) (F : List Ent) (N np : Nat)
    (hG : Grid w.heap.size w ca K cA nc cC name) (hC : Cube w.heap.size w ra K rA nr rC rrA rl rrC val) (hD : InDom K nc nr name rl val) (hF : F = stS nc name K) (hN : N = F.length) (hNb : N ≤ 268435456) (hnp : np = (flatJ nc nr name val K).length) :
    Calls Try.prog 13 #[.slice ca K cc, .slice ra K rc] w fun e w' => ∃ YP qP YN qN G1 G2, e = .returned (.tuple #[.slice YP np qP, .slice YN N qN, .slice (some ⟨G1, 0, none⟩) N N, .slice (some ⟨G2, 0, none⟩) N N]) ∧
      (np = 0 ∨ ∃ g, YP = some ⟨g, 0, none⟩ ∧ g < w'.heap.size ∧ ∀ i u, (intCells (flatJ nc nr name val K))[i]? = some u → w'.cell? ⟨g, i, none⟩ = some u) ∧
      RowV w' YN N (fun i => .string (F.getD i noEnt).1) ∧ RowV w' (some ⟨G1, 0, none⟩) N (fun i => .int .i64 (((F.getD i noEnt).2.1 : Nat) : Int)) ∧ RowV w' (some ⟨G2, 0, none⟩) N (fun i => .int .i64 (((F.getD i noEnt).2.2 : Nat) : Int)) ∧ Below w.heap.size w w' := by
  refine (zz_any w K cc rc ca ra cA rA nc cC nr rC name rrA rl rrC val F N hG hC hD hF hN hNb).mono ?_
  rintro e w' ⟨vP, vN, G1, G2, rfl, hP, hNm, hr1, hr2, hb⟩
  obtain ⟨YP, qP, rfl, hqP, hYP⟩ := own_form hP
  obtain ⟨YN, qN, rfl, hqN, hYN⟩ := own_form hNm
  rw [← hnp] at hYP ⊢
  exact ⟨YP, qP, YN, qN, G1, G2, rfl, hYP, rowV_names hN hYN, rowV_of hr1, rowV_of hr2, hb⟩

theorem Grid.drawn {w w' : World} {m : Nat} {ca : Option Addr} {K : Nat} {cA : Nat → Option Addr} {nc cC : Nat → Nat} {name : Nat → Nat → ByteArray} (h : Grid w.heap.size w ca K cA nc cC name) (hm : w.drewN m = w') : Grid w'.heap.size w' ca K cA nc cC name := by
  subst hm
  exact h.later (below_drewN (Below.refl _ _) _)
theorem Cube.drawn {w w' : World} {m : Nat} {ra : Option Addr} {K : Nat} {rA : Nat → Option Addr} {nr rC : Nat → Nat} {rrA : Nat → Nat → Option Addr} {rl rrC : Nat → Nat → Nat} {val : Nat → Nat → Nat → ByteArray} (h : Cube w.heap.size w ra K rA nr rC rrA rl rrC val) (hm : w.drewN m = w') : Cube w'.heap.size w' ra K rA nr rC rrA rl rrC val := by
  subst hm
  exact h.later (below_drewN (Below.refl _ _) _)
theorem drawn_below {w w' : World} {m : Nat} (hm : w.drewN m = w') : Below w.heap.size w w' ∧ w'.heap.size = w.heap.size := by
  subst hm
  exact ⟨below_drewN (Below.refl _ _) _, rfl⟩
theorem st_total {K : Nat} {nc nr : Nat → Nat} {name : Nat → Nat → ByteArray} {rl : Nat → Nat → Nat} {val : Nat → Nat → Nat → ByteArray} (hD : InDom K nc nr name rl val) {F : List Ent} {N : Nat} (hF : F = stS nc name K) (hN : N = F.length) : N ≤ 268435456 := by
  subst hN hF
  have h1 := stS_length_le nc name 65536 K (fun k hk => (hD.ncb k hk).1)
  have h2 := hD.kmax
  omega

theorem div_val {rem n : Nat} (h : rem ≤ 65536) : Value.int .i64 (wrap64 ((rem : Int) / (n : Int))) = .int .i64 ((rem / n : Nat) : Int) := by
  have e : (rem : Int) / (n : Int) = ((rem / n : Nat) : Int) := (Int.natCast_ediv rem n).symm
  have h2 : rem / n ≤ rem := Nat.div_le_self _ _
  rw [e]
  generalize rem / n = y at h2 ⊢
  have e2 : wrap64 (y : Int) = (y : Int) := by unfold wrap64; omega
  rw [e2]
theorem yes_end {e : Ending} {p : Prop} (h : (e = .returned (.bool true) ∧ p) ∨ (e = .returned (.bool false) ∧ ¬ p)) (hp : p) : e = .returned (.bool true) := by
  rcases h with h | h
  · exact h.1
  · exact absurd hp h.2
theorem no_end {e : Ending} {p : Prop} (h : (e = .returned (.bool true) ∧ p) ∨ (e = .returned (.bool false) ∧ ¬ p)) (hp : ¬ p) : e = .returned (.bool false) := by
  rcases h with h | h
  · exact absurd h.2 hp
  · exact h.1
theorem row_drawn {w w' : World} {m g n : Nat} {f : Nat → Value} (hm : w.drewN m = w') (h : w.rowIs g 3 n f) : w'.rowIs g 3 n f := by
  subst hm
  exact h
theorem bel_drawn {w w' a : World} {m B : Nat} (hm : w.drewN m = w') (h : Below B a w) : Below B a w' := by
  subst hm
  exact below_drewN h m
theorem dec_step {wr : World} {T K j y : Nat} {d : List Nat} {h : Nat → Nat} (hy : tupF d j = y) (hr : wr.rowIs T 3 K (fun i => if j + 1 ≤ i then .int .i64 ((tupF d i : Nat) : Int) else .int .i64 ((h i : Nat) : Int))) :
    (wr.setCell ⟨T, j, none⟩ (.int .i64 (y : Int))).rowIs T 3 K (fun i => if j ≤ i then .int .i64 ((tupF d i : Nat) : Int) else .int .i64 ((h i : Nat) : Int)) := by
  subst hy
  refine (hr.set j _).congr fun i hi => ?_
  by_cases e : i = j
  · subst e; simp
  · rw [if_neg e]
    by_cases h2 : j + 1 ≤ i
    · rw [if_pos h2, if_pos (by omega)]
    · rw [if_neg h2, if_neg (by omega)]

set_option maxRecDepth 100000 in
set_option maxHeartbeats 4000000 in
theorem law_any (w : World) (ca ra : Option Addr) (K K2 cc rc : Nat) (cA rA : Nat → Option Addr) (nc cC nr rC : Nat → Nat) (name : Nat → Nat → ByteArray) (rrA : Nat → Nat → Option Addr) (rl rrC : Nat → Nat → Nat) (val : Nat → Nat → Nat → ByteArray)
    (hK : K ≤ 9223372036854775807) (hK2 : K2 ≤ 9223372036854775807) (hG : Grid w.heap.size w ca K cA nc cC name) (hC : Cube w.heap.size w ra K2 rA nr rC rrA rl rrC val) :
    Calls Try.prog 5 #[.slice ca K cc, .slice ra K2 rc] w fun e w' => e = .returned (.bool true) ∧ Below w.heap.size w w' := by
  by_cases hbig : K ≤ 4096 ∧ K2 ≤ 4096
  · obtain ⟨hb1, hb2⟩ := hbig
    have hd1 := big_no hb1
    have hd2 := big_no hb2
    obtain ⟨F, hF⟩ : ∃ F, F = stS nc name K := ⟨_, rfl⟩
    obtain ⟨N, hN⟩ : ∃ N, N = F.length := ⟨_, rfl⟩
    obtain ⟨np, hnp⟩ : ∃ N, N = (flatJ nc nr name val K).length := ⟨_, rfl⟩
    have HF := Hid.intro (And.intro hF (And.intro hN hnp))
    clear hF hN hnp
    go_enter Try.func5, Try.ntmps5
    go_wp2_with (first | (go_at_call 11; refine (zzbytes_any _ _ _ _ _ _ _ _ _ _ _ _ _ _ _ _ _ _ _ hK hK2 hG hC).mono ?_; rintro e w1 ⟨⟨b, rfl⟩, rfl⟩; rcases b with _ | _) | (go_at_call 12; refine (dom12_any _ _ _ _ _ _ _ _ _ _ _ _ _ _ _ _ _ _ _ hb1 hb2 hG hC).mono ?_; rintro e w2 ⟨rfl | ⟨rfl, hKK, hD⟩, m, hm⟩) | (go_at_call 13; subst hKK; have HGC := Hid.intro (And.intro (hG.drawn hm) (And.intro (hC.drawn hm) (drawn_below hm))); clear hG hC hm; refine (zz_any2 w2 K cc rc ca ra cA rA nc cC nr rC name rrA rl rrC val F N np HGC.out.1 HGC.out.2.1 hD HF.out.1 HF.out.2.1 (st_total hD HF.out.1 HF.out.2.1) HF.out.2.2).mono ?_; rintro e w3 ⟨YP, qP, YN, qN, G1, G2, rfl, hYP, hn, hs, ho, hb3⟩; have H3 := Hid.intro (And.intro hYP (And.intro hn (And.intro hs (And.intro ho hb3)))); clear hYP hn hs ho hb3) | (go_at_call 14; refine (names_any w2.heap.size w3 _ _ _ _ K N _ _ _ _ cA nc cC nr name rl val F (HGC.out.1.later H3.out.2.2.2.2) hD HF.out.1 HF.out.2.1.symm (st_total hD HF.out.1 HF.out.2.1) H3.out.2.1 H3.out.2.2.1 H3.out.2.2.2.1).mono ?_; rintro e w4 ⟨rfl, rfl⟩))
    · go_ret
      exact ⟨rfl, Below.refl _ _⟩
    · go_ret
      exact ⟨rfl, (drawn_below hm).1⟩
    have hK1 := hD.one
    have hC3 := HGC.out.2.1.later H3.out.2.2.2.2
    go_loopg [10, 11] K (fun g P i wr => ∃ k q : Nat, g = K - k ∧ k ≤ K ∧ i = .int .i64 k ∧ P = .int .i64 q ∧ q = prodN nr k ∧ w3 = wr)
    case atStart => exact ⟨0, 1, rfl, Nat.zero_le _, rfl, rfl, rfl, rfl⟩
    case round =>
      obtain ⟨k, q, hg, hk, rfl, rfl, hq, rfl⟩ := hrel
      have HG := Hid.intro (And.intro hg hq)
      clear hg hq
      by_cases hlt : k < K
      · obtain ⟨b, o, hx, hb, hc⟩ := hC3.at1 k hlt
        obtain ⟨M, hM⟩ : ∃ M, M = q * nr k := ⟨_, rfl⟩
        have hMb : M ≤ 65536 := by rw [hM, HG.out.2]; exact (hD.prod k hlt).2
        have hMi : (q : Int) * (nr k : Int) = (M : Int) := by rw [hM]; exact (Int.natCast_mul q (nr k)).symm
        have HM := Hid.intro hM
        clear hM
        cases hx
        go_wp2
        go_roundg (K - (k + 1))
        case measure => rw [HG.out.1]; omega
        case rel => exact ⟨k + 1, M, rfl, by omega, by go_num, by go_num, by rw [HM.out, HG.out.2]; rfl, rfl⟩
      · have hkK : K = k := by omega
        subst hkK
        have hqb : q ≤ 65536 := by rw [HG.out.2]; exact prod_le hD (Nat.le_refl _)
        have hmkT := run_make_row' (P := Try.prog) 22 3 (.int .i64 0) 8 Try.underlying22 Try.info3 rfl .i64 .i64 K (by omega) (by omega)
        have hT0 := World.rowIs_made w3 (.int .i64 0) K 3
        have hTb := (Below.refl w3.heap.size w3).alloc (Nat.le_refl _) (.cells (madeCells #[.int .i64 0] K) 3)
        have HQ := Hid.intro HG.out.2
        have HNP : Hid (np = (jT nc name val nr K).length * K) := by
          refine Hid.intro ?_
          rw [HF.out.2.2]
          unfold flatJ
          rw [if_neg (by omega), flat_len (fun t ht => (jT_fits K t ht).1)]
        have hnpb : np ≤ 268500992 := by
          have h1 := flatJ_bound hD (show K - 1 < K by omega)
          rw [Nat.sub_add_cancel hK1, ← HF.out.2.2] at h1
          exact h1
        clear HG hlt hk
        go_wp2
        clear hmkT
        go_loopg [13, 14] q (fun g p i wr => ∃ (x c P : Nat) (h : Nat → Nat), g = q - x ∧ x ≤ q ∧ i = .int .i64 x ∧ p = .int .i64 P ∧ P = c * K ∧ c = cntI nc nr name val K x ∧ wr.rowIs w3.heap.size 3 K (fun i => .int .i64 ((h i : Nat) : Int)) ∧ Below w3.heap.size w3 wr)
        case atStart => exact ⟨0, 0, 0, fun _ => 0, rfl, Nat.zero_le _, rfl, rfl, by simp, cntI_zero.symm, hT0, hTb⟩
        case round =>
          clear hT0 hTb
          obtain ⟨x, c, P, h, hg, hx, rfl, rfl, hP, hc, hrT, hbT⟩ := hrel
          have HG := Hid.intro (And.intro hg (And.intro hP hc))
          clear hg hP hc
          by_cases hlt : x < q
          · have hxp : x < prodN nr K := by rw [← HQ.out]; exact hlt
            have hpos := prod_pos K (Nat.lt_of_le_of_lt (Nat.zero_le _) hxp)
            have hfit := dec_fit hxp
            obtain ⟨d, hd⟩ : ∃ d, d = dec nr K x := ⟨_, rfl⟩
            have HDD := Hid.intro (And.intro hd hxp)
            rw [← hd] at hfit
            clear hd hxp
            go_wp2
            go_loopg [15, 16] K (fun g r i wr => ∃ (j rem : Nat) (v : Int) (s : List Nat), g = j ∧ j ≤ K ∧ r = .int .i64 rem ∧ rem ≤ 65536 ∧ i = .int .i64 v ∧ v = (j : Int) - 1 ∧ d = dec nr j rem ++ s ∧ wr.rowIs w3.heap.size 3 K (fun i => if j ≤ i then .int .i64 ((tupF d i : Nat) : Int) else .int .i64 ((h i : Nat) : Int)) ∧ Below w3.heap.size w3 wr)
            case atStart => exact ⟨K, x, (K : Int) - 1, [], rfl, Nat.le_refl _, rfl, by omega, by go_num, rfl, by rw [List.append_nil]; exact HDD.out.1, hrT.congr fun i hi => by rw [if_neg (by omega)], hbT⟩
            case round =>
              clear hrT hbT
              obtain ⟨j, rem, v, s, hg, hj, rfl, hrem, rfl, hv, hds, hrT, hbT⟩ := hrel
              have HG3 := Hid.intro (And.intro hg (And.intro hds hrT))
              clear hg hds
              rcases j with _ | j
              · have hv1 : v = -1 := by omega
                subst hv1
                clear hv
                have hrA := hrT.congr (g := fun i => .int .i64 ((tupF d i : Nat) : Int)) fun i hi => by rw [if_pos (Nat.zero_le _)]
                have HC := Hid.intro (And.intro hrA hbT)
                clear hrA hrT hbT HG3
                by_cases hcs : Cons K nc name val (tupF d)
                · have hat : (jT nc name val nr K)[c]? = some d := by
                    have h1 := cntI_at hD HDD.out.2 (by rw [← HDD.out.1]; exact hcs)
                    rw [← HG.out.2.2, ← HDD.out.1] at h1
                    exact h1
                  have hPK : P + K ≤ np := by
                    have h1 : (c + 1) * K ≤ (jT nc name val nr K).length * K := Nat.mul_le_mul_right K (List.getElem?_eq_some_iff.1 hat).1
                    rw [Nat.succ_mul, ← HNP.out, ← HG.out.2.1] at h1
                    exact h1
                  obtain ⟨gP, hgP, hgPl, hcP⟩ : ∃ g, YP = some ⟨g, 0, none⟩ ∧ g < w3.heap.size ∧ ∀ j, j < K → w3.cell? ⟨g, P + j, none⟩ = some (.int .i64 ((tupF d j : Nat) : Int)) := by
                    rcases H3.out.1 with h1 | ⟨g, h1, h2, h3⟩
                    · omega
                    · refine ⟨g, h1, h2, fun j hj => h3 (P + j) _ ?_⟩
                      have e1 := flat_get (fun t ht => (jT_fits K t ht).1) hat hj
                      rw [← HG.out.2.1] at e1
                      have htl : j < d.length := by rw [hfit.1]; exact hj
                      have hfk : flatJ nc nr name val K = (jT nc name val nr K).flatten := by unfold flatJ; rw [if_neg (by omega)]
                      rw [hfk]
                      simp only [intCells, List.getElem?_map, e1, Option.map_eq_some_iff]
                      exact ⟨d[j], List.getElem?_eq_getElem htl, by simp [tupF, htl]⟩
                  have HCS := Hid.intro hcs
                  clear hcs hat
                  subst hgP
                  go_wp2_with (go_at_call 15; refine (cons_any w2.heap.size _ ca ra K cc rc w3.heap.size K cA rA nc cC nr rC name rrA rl rrC val (tupF d) (HGC.out.1.later (H3.out.2.2.2.2.trans (HC.out.2.mono H3.out.2.2.2.2.size))) (HGC.out.2.1.later (H3.out.2.2.2.2.trans (HC.out.2.mono H3.out.2.2.2.2.size))) hD hfit.2 (fun i hi => HC.out.1.cell hi)).mono ?_; rintro e w5 ⟨h5, m, hm⟩; obtain rfl := yes_end h5 HCS.out; have HW := Hid.intro (And.intro (row_drawn hm HC.out.1) (bel_drawn hm HC.out.2)); clear h5 hm)
                  go_loopg [18] K (fun g i wr => ∃ k : Nat, g = K - k ∧ k ≤ K ∧ i = .int .i64 k ∧ wr.rowIs w3.heap.size 3 K (fun i => .int .i64 ((tupF d i : Nat) : Int)) ∧ Below w3.heap.size w3 wr)
                  case atStart => exact ⟨0, rfl, Nat.zero_le _, rfl, HW.out.1, HW.out.2⟩
                  case round =>
                    obtain ⟨k, hg, hk, rfl, hrT, hbT⟩ := hrel
                    have HG4 := Hid.intro (And.intro hg (And.intro hrT hbT))
                    clear hg
                    by_cases hlk : k < K
                    · have c1 := hrT.cell hlk
                      have c2 := (hbT.cell (p := ⟨gP, P + k, none⟩) hgPl).trans (hcP k hlk)
                      obtain ⟨y, hy⟩ : ∃ y, y = tupF d k := ⟨_, rfl⟩
                      rw [← hy] at c1 c2
                      have hIk : (k : Int) < (K : Int) := by omega
                      have hIp : (P : Int) + (k : Int) < (np : Int) := by omega
                      clear hrT hbT hy
                      go_wp2
                      go_quiet (fail)
                      go_wp2
                      go_roundg (K - (k + 1))
                      case measure => rw [HG4.out.1]; omega
                      case rel => exact ⟨k + 1, rfl, by omega, by go_num, row_drawn rfl HG4.out.2.1, bel_drawn rfl HG4.out.2.2⟩
                    · have hkK : K = k := by omega
                      clear hrT hbT
                      go_wp2
                      go_roundg (q - (x + 1))
                      case measure => rw [HG.out.1]; omega
                      case rel => exact ⟨x + 1, c + 1, P + K, tupF d, rfl, by omega, by go_num, by go_num, by rw [Nat.succ_mul, HG.out.2.1], by rw [cntI_yes (by rw [← HDD.out.1]; exact HCS.out), HG.out.2.2], HG4.out.2.1, HG4.out.2.2⟩
                · have HCS := Hid.intro hcs
                  clear hcs
                  go_wp2_with (go_at_call 15; refine (cons_any w2.heap.size _ ca ra K cc rc w3.heap.size K cA rA nc cC nr rC name rrA rl rrC val (tupF d) (HGC.out.1.later (H3.out.2.2.2.2.trans (HC.out.2.mono H3.out.2.2.2.2.size))) (HGC.out.2.1.later (H3.out.2.2.2.2.trans (HC.out.2.mono H3.out.2.2.2.2.size))) hD hfit.2 (fun i hi => HC.out.1.cell hi)).mono ?_; rintro e w5 ⟨h5, m, hm⟩; obtain rfl := no_end h5 HCS.out; have HW := Hid.intro (And.intro (row_drawn hm HC.out.1) (bel_drawn hm HC.out.2)); clear h5 hm)
                  go_roundg (q - (x + 1))
                  case measure => rw [HG.out.1]; omega
                  case rel => exact ⟨x + 1, c, P, tupF d, rfl, by omega, by go_num, rfl, HG.out.2.1, by rw [cntI_no (by rw [← HDD.out.1]; exact HCS.out), HG.out.2.2], HW.out.1, HW.out.2⟩
              · have hv1 : v = (j : Int) := by omega
                subst hv1
                clear hv
                obtain ⟨b, o, hx, hb, hc⟩ := hC3.at1 j (by omega)
                have hc' := (hbT.cell (p := ⟨b, o + j, none⟩) (show b < w3.heap.size by have := H3.out.2.2.2.2.size; omega)).trans hc
                have hn0 := hpos j (by omega)
                have hnb := (hD.nrb j (by omega)).1
                obtain ⟨n, hn⟩ : ∃ n, n = nr j := ⟨_, rfl⟩
                rw [← hn] at hc' hn0 hnb
                have hs1 := hrT.cell (show j < K by omega)
                have hs2 := hrT.frozen j
                have hn0' : ((n : Int) == 0) = false := beq_zero_no (by omega)
                rw [if_neg (by omega)] at hs1
                have HN := Hid.intro hn
                have hb' := Hid.intro hbT
                clear hn hrT hc hbT
                cases hx
                go_wp2
                go_roundg j
                case measure => rw [HG3.out.1]; omega
                case rel =>
                  have hdn := dec_next HG3.out.2.1
                  rw [← HN.out] at hdn
                  refine ⟨j, rem / n, (j : Int) - 1, _, rfl, by omega, ?_, Nat.le_trans (Nat.div_le_self _ _) hrem, ?_, rfl, hdn.1, dec_step hdn.2 HG3.out.2.2, hb'.out.setCell (Nat.le_refl _) _⟩
                  · exact div_val hrem
                  · go_num
          · have hxq : q = x := by omega
            have hPn : P = np := by rw [HNP.out, HG.out.2.1, HG.out.2.2, ← hxq, HQ.out, cntI_all hD]
            have hb9 := Hid.intro hbT
            clear hrT hbT HG
            subst hPn
            go_wp2
            go_ret
            have h9 := HGC.out.2.2.1.trans (H3.out.2.2.2.2.mono (by rw [HGC.out.2.2.2]; exact Nat.le_refl _))
            exact ⟨rfl, h9.trans (hb9.out.mono h9.size)⟩
  · have hor : 4096 < K ∨ 4096 < K2 := by omega
    clear hbig
    go_enter Try.func5, Try.ntmps5
    go_wp2_with (first | (go_at_call 11; refine (zzbytes_any _ _ _ _ _ _ _ _ _ _ _ _ _ _ _ _ _ _ _ hK hK2 hG hC).mono ?_; rintro e w1 ⟨⟨b, rfl⟩, rfl⟩; rcases b with _ | _))
    all_goals (go_ret; exact ⟨rfl, Below.refl _ _⟩)
end Go.Proofs.Qxb6602443a
