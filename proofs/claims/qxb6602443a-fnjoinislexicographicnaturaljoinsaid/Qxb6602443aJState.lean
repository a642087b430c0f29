/-
  WHAT THE JOIN HOLDS IN MEMORY WHILE IT SCANS A SHEET's COLUMNS, AND WHAT EACH STEP DOES TO IT: lemmas on worlds, outside every walk.
-/
import Derived.Test.Qxb6602443aJMap
import Derived.Test.Qxb6602443aJLaw
namespace Go.Proofs.Qxb6602443a
open Go.RowKit Go.Deep Go.Maps
set_option linter.unusedVariables false

/-! ### The owner of a name -/
def entV (e : Ent) : Value := .agg #[.int .i64 ((e.2.1 : Nat) : Int), .int .i64 ((e.2.2 : Nat) : Int)]
def ownF (st : List Ent) (s : ByteArray) : Option Value := (st.find? (fun e => e.1.toList == s.toList)).map entV

theorem ownF_new {st : List Ent} {s : ByteArray} (h : hasName st s = false) (k c : Nat) : ownF (st ++ [(s, k, c)]) = upd (ownF st) s (entV (s, k, c)) := by
  funext s'
  unfold ownF upd
  rw [List.find?_append]
  by_cases e : s' = s
  · subst e
    rw [find_none h, if_pos (beq_str rfl)]
    simp
  · rw [beq_str_no e]
    have : (s.toList == s'.toList) = false := beq_str_no (fun h => e h.symm)
    cases hf : st.find? (fun e => e.1.toList == s'.toList) <;> simp [this, hf]

/-- Within one sheet no column hides another: what owns the c-th name ahead of the sheet owns it still. -/
theorem stC_find {name : Nat → Nat → ByteArray} {k c : Nat} {st0 : List Ent} (hd : ∀ d, d < c → name k d ≠ name k c) : ∀ c', c' ≤ c → (stC name k st0 c').find? (fun e => e.1.toList == (name k c).toList) = st0.find? (fun e => e.1.toList == (name k c).toList)
  | 0, _ => rfl
  | c' + 1, h => by
    have ih := stC_find (st0 := st0) hd c' (by omega)
    show (stStep name k (stC name k st0 c') c').find? _ = _
    unfold stStep
    split
    · exact ih
    · rw [List.find?_append, ih]
      have : ((name k c').toList == (name k c).toList) = false := beq_str_no (hd c' (by omega))
      cases st0.find? (fun e => e.1.toList == (name k c).toList) <;> simp [this]

theorem hasName_find (st : List Ent) (s : ByteArray) : hasName st s = (st.find? (fun e => e.1.toList == s.toList)).isSome := by
  cases h : hasName st s with
  | true => obtain ⟨e, he⟩ := find_some h; rw [he]; rfl
  | false => rw [find_none h]; rfl

/-! ### Rows of the call's own, apart -/
def Apart (v v' : Value) : Prop := v.ownBlock = none ∨ v.ownBlock ≠ v'.ownBlock

theorem own_block {w : World} {B : Nat} {e : TypeId} {sz : Nat} {v : Value} {n : Nat} {xs : List Value} (h : w.ownsRow B e sz v n xs) {g : Nat} (hg : v.ownBlock = some g) : B ≤ g ∧ g < w.heap.size ∧ ∃ cur, w.heap[g]? = some (.cells cur e (0, 0)) := by
  obtain ⟨_, h2⟩ := h
  rcases h2 with ⟨rfl, _⟩ | ⟨g', cap, cur, rfl, hB, hh, _⟩
  · cases hg
  · simp only [Value.ownBlock, Option.some.injEq] at hg
    subst hg
    exact ⟨hB, (Array.getElem?_eq_some_iff.1 hh).1, cur, hh⟩

theorem apart_types {w : World} {B B' : Nat} {e e' : TypeId} {sz sz' : Nat} {v v' : Value} {n n' : Nat} {xs xs' : List Value} (h : w.ownsRow B e sz v n xs) (h' : w.ownsRow B' e' sz' v' n' xs') (he : e ≠ e') : Apart v v' := by
  cases hg : v.ownBlock with
  | none => exact .inl hg
  | some g =>
    right
    intro hh
    rw [hg] at hh
    obtain ⟨_, _, cur, h1⟩ := own_block h hg
    obtain ⟨_, _, cur', h2⟩ := own_block h' hh.symm
    rw [h1] at h2
    simp only [Option.some.injEq, Obj.cells.injEq] at h2
    exact he h2.2.1

theorem apart_map {w : World} {B : Nat} {e : TypeId} {sz : Nat} {v : Value} {n : Nat} {xs : List Value} (h : w.ownsRow B e sz v n xs) {b : Nat} {es : Array MapEntry} {clock : Nat} (hb : w.heap[b]? = some (.map es clock)) : v.ownBlock = none ∨ v.ownBlock ≠ some b := by
  cases hg : v.ownBlock with
  | none => exact .inl rfl
  | some g =>
    right
    intro hh
    cases hh
    obtain ⟨_, _, cur, h1⟩ := own_block h hg
    rw [h1] at hb
    cases hb
theorem map_apart {w : World} {B : Nat} {e : TypeId} {sz : Nat} {v : Value} {n : Nat} {xs : List Value} (h : w.ownsRow B e sz v n xs) {b : Nat} {es : Array MapEntry} {clock : Nat} (hb : w.heap[b]? = some (.map es clock)) : some b ≠ v.ownBlock := by
  intro hh
  obtain ⟨_, _, cur, h1⟩ := own_block h hh.symm
  rw [h1] at hb
  cases hb

theorem own_base {w : World} {B B' : Nat} {e : TypeId} {sz : Nat} {v : Value} {n : Nat} {xs : List Value} (h : w.ownsRow B e sz v n xs) (hB : B' ≤ B) : w.ownsRow B' e sz v n xs := by
  obtain ⟨h1, h2⟩ := h
  refine ⟨h1, ?_⟩
  rcases h2 with h2 | ⟨g, cap, cur, a, b, r⟩
  · exact .inl h2
  · exact .inr ⟨g, cap, cur, a, by omega, r⟩

theorem own_below {w w' : World} {B B' : Nat} {e : TypeId} {sz : Nat} {v : Value} {n : Nat} {xs : List Value} (h : w.ownsRow B e sz v n xs) (hb : Below B' w w') (hlt : ∀ g, v.ownBlock = some g → g < B') : w'.ownsRow B e sz v n xs := by
  obtain ⟨h1, h2⟩ := h
  refine ⟨h1, ?_⟩
  rcases h2 with h2 | ⟨g, cap, cur, rfl, b, c, r⟩
  · exact .inl h2
  · exact .inr ⟨g, cap, cur, rfl, b, (hb.block g (hlt g rfl)).trans c, r⟩

theorem own_lt {w : World} {B : Nat} {e : TypeId} {sz : Nat} {v : Value} {n : Nat} {xs : List Value} (h : w.ownsRow B e sz v n xs) : ∀ g, v.ownBlock = some g → g < w.heap.size := fun g hg => (own_block h hg).2.1

theorem apart_grown {w : World} {B : Nat} {e : TypeId} {sz : Nat} {v v' u : Value} {n : Nat} {xs : List Value} (hu : w.ownsRow B e sz u n xs) (hA : Apart u v) (hloc : v'.ownBlock = v.ownBlock ∨ v'.ownBlock = some w.heap.size) : Apart u v' := by
  cases hg : u.ownBlock with
  | none => exact .inl hg
  | some g =>
    right
    rcases hloc with h | h
    · rw [h]
      rcases hA with h1 | h1
      · rw [h1] at hg; cases hg
      · exact h1
    · rw [h, hg]
      intro e
      have := (own_block hu hg).2.1
      simp only [Option.some.injEq] at e
      omega
theorem Apart.symm' {v v' : Value} (h : Apart v v') : Apart v' v := by
  cases hg : v'.ownBlock with
  | none => exact .inl hg
  | some g =>
    right
    rcases h with h | h
    · rw [hg, h]; simp
    · exact fun e => h e.symm

/-! ### The scan's state -/
def nameCells (st : List Ent) : List Value := st.map fun e => .string e.1
def entCells (st : List Ent) : List Value := st.flatMap fun e => [.int .i64 ((e.2.1 : Nat) : Int), .int .i64 ((e.2.2 : Nat) : Int)]
def intCells (l : List Nat) : List Value := l.map fun x => .int .i64 ((x : Nat) : Int)

structure S3 (w : World) (B0 Bk M0 m : Nat) (vP : Value) (flat : List Nat) (wr : World) (st ll : List Ent) (rr : List Nat) (vN vO vL vR : Value) : Prop where
  names : wr.ownsRow B0 9 1 vN st.length (nameCells st)
  orig : wr.ownsRow B0 44 2 vO st.length (entCells st)
  left : wr.ownsRow Bk 44 2 vL ll.length (entCells ll)
  right : wr.ownsRow Bk 3 1 vR rr.length (intCells rr)
  picks : wr.ownsRow B0 3 1 vP flat.length (intCells flat)
  pb : ∀ g, vP.ownBlock = some g → g < Bk
  map : MapV wr M0 m (.agg #[.int .i64 0, .int .i64 0]) (ownF st)
  hM : B0 ≤ M0
  ap : Apart vO vL
  bk : B0 ≤ Bk
  sz : Bk ≤ wr.heap.size
  bel : Below B0 w wr

variable {w : World} {B0 Bk M0 m : Nat} {vP : Value} {flat : List Nat} {wr wr' : World} {st ll : List Ent} {rr : List Nat} {vN vO vL vR : Value}

theorem S3.alloc (h : S3 w B0 Bk M0 m vP flat wr st ll rr vN vO vL vR) (o : Obj) : S3 w B0 Bk M0 m vP flat (wr.alloc o) st ll rr vN vO vL vR where
  names := h.names.alloc o
  orig := h.orig.alloc o
  left := h.left.alloc o
  right := h.right.alloc o
  picks := h.picks.alloc o
  pb := h.pb
  map := h.map.kept (World.grownBy_alloc wr o none) (by simp)
  hM := h.hM
  ap := h.ap
  bk := h.bk
  sz := by have := h.sz; simp; omega
  bel := h.bel.alloc (Nat.le_trans h.bk h.sz) o

theorem S3.below (h : S3 w B0 Bk M0 m vP flat wr st ll rr vN vO vL vR) (hb : Below wr.heap.size wr wr') : S3 w B0 Bk M0 m vP flat wr' st ll rr vN vO vL vR where
  names := own_below h.names hb (own_lt h.names)
  orig := own_below h.orig hb (own_lt h.orig)
  left := own_below h.left hb (own_lt h.left)
  right := own_below h.right hb (own_lt h.right)
  picks := own_below h.picks hb (own_lt h.picks)
  pb := h.pb
  map := h.map.below hb h.map.lt
  hM := h.hM
  ap := h.ap
  bk := h.bk
  sz := Nat.le_trans h.sz hb.size
  bel := h.bel.trans (hb.mono (Nat.le_trans h.bk h.sz))

theorem S3.appLeft (h : S3 w B0 Bk M0 m vP flat wr st ll rr vN vO vL vR) {v' : Value} {e : Ent} (hg : wr.grownBy wr' vL.ownBlock) (ho : wr'.ownsRow Bk 44 2 v' (ll.length + 1) (entCells ll ++ [.int .i64 ((e.2.1 : Nat) : Int), .int .i64 ((e.2.2 : Nat) : Int)]))
    (hloc : v'.ownBlock = vL.ownBlock ∨ v'.ownBlock = some wr.heap.size) : S3 w B0 Bk M0 m vP flat wr' st (ll ++ [e]) rr vN vO v' vR where
  names := h.names.kept hg (apart_types h.names h.left (by decide))
  orig := h.orig.kept hg h.ap
  left := by
    have e1 : (ll ++ [e]).length = ll.length + 1 := by simp
    have e2 : entCells (ll ++ [e]) = entCells ll ++ [.int .i64 ((e.2.1 : Nat) : Int), .int .i64 ((e.2.2 : Nat) : Int)] := by simp [entCells]
    rw [e1, e2]; exact ho
  right := h.right.kept hg (apart_types h.right h.left (by decide))
  picks := h.picks.kept hg (apart_types h.picks h.left (by decide))
  pb := h.pb
  map := by
    obtain ⟨es, cl, hb⟩ := h.map.block
    exact h.map.kept hg (map_apart h.left hb)
  hM := h.hM
  ap := apart_grown h.orig h.ap hloc
  bk := h.bk
  sz := Nat.le_trans h.sz hg.size
  bel := h.bel.grown hg (Nat.le_trans h.bk h.sz) (fun k hk => Nat.le_trans h.bk (own_block h.left hk).1)

theorem S3.appRight (h : S3 w B0 Bk M0 m vP flat wr st ll rr vN vO vL vR) {v' : Value} {c : Nat} (hg : wr.grownBy wr' vR.ownBlock) (ho : wr'.ownsRow Bk 3 1 v' (rr.length + 1) (intCells rr ++ [.int .i64 ((c : Nat) : Int)]))
    : S3 w B0 Bk M0 m vP flat wr' st ll (rr ++ [c]) vN vO vL v' where
  names := h.names.kept hg (apart_types h.names h.right (by decide))
  orig := h.orig.kept hg (apart_types h.orig h.right (by decide))
  left := h.left.kept hg (apart_types h.left h.right (by decide))
  right := by
    have e1 : (rr ++ [c]).length = rr.length + 1 := by simp
    have e2 : intCells (rr ++ [c]) = intCells rr ++ [.int .i64 ((c : Nat) : Int)] := by simp [intCells]
    rw [e1, e2]; exact ho
  picks := h.picks.kept hg (by
    cases hp : vP.ownBlock with
    | none => exact .inl rfl
    | some g =>
      right
      intro e
      have h1 := h.pb g hp
      have h2 := (own_block h.right e.symm).1
      omega)
  pb := h.pb
  map := by
    obtain ⟨es, cl, hb⟩ := h.map.block
    exact h.map.kept hg (map_apart h.right hb)
  hM := h.hM
  ap := h.ap
  bk := h.bk
  sz := Nat.le_trans h.sz hg.size
  bel := h.bel.grown hg (Nat.le_trans h.bk h.sz) (fun k hk => Nat.le_trans h.bk (own_block h.right hk).1)

/-- A new name: into the map, .. -/
theorem S3.mapNew (h : S3 w B0 Bk M0 m vP flat wr st ll rr vN vO vL vR) {s : ByteArray} {k c : Nat} (hg : wr.grownBy wr' (some M0)) (hm : MapV wr' M0 (m + 1) (.agg #[.int .i64 0, .int .i64 0]) (upd (ownF st) s (entV (s, k, c)))) (hn : hasName st s = false) :
    wr'.ownsRow B0 9 1 vN st.length (nameCells st) ∧ wr'.ownsRow B0 44 2 vO st.length (entCells st) ∧ wr'.ownsRow Bk 44 2 vL ll.length (entCells ll) ∧ wr'.ownsRow Bk 3 1 vR rr.length (intCells rr) ∧ wr'.ownsRow B0 3 1 vP flat.length (intCells flat) ∧
      MapV wr' M0 (m + 1) (.agg #[.int .i64 0, .int .i64 0]) (ownF (st ++ [(s, k, c)])) ∧ Bk ≤ wr'.heap.size ∧ Below B0 w wr' := by
  obtain ⟨es, cl, hb⟩ := h.map.block
  refine ⟨h.names.kept hg (apart_map h.names hb), h.orig.kept hg (apart_map h.orig hb), h.left.kept hg (apart_map h.left hb), h.right.kept hg (apart_map h.right hb), h.picks.kept hg (apart_map h.picks hb), by rw [ownF_new hn]; exact hm, Nat.le_trans h.sz hg.size,
    h.bel.grown hg (Nat.le_trans h.bk h.sz) (fun k hk => by cases hk; exact h.hM)⟩

/-- .. the names and the origins. -/
theorem S3.appNames (h : S3 w B0 Bk M0 m vP flat wr st ll rr vN vO vL vR) {s : ByteArray} {k c : Nat} {w2 w3 w4 w5 w6 : World} {v1 v2 : Value} {o1 o2 : Obj} (hn : hasName st s = false)
    (hg2 : wr.grownBy w2 (some M0)) (hm : MapV w2 M0 (m + 1) (.agg #[.int .i64 0, .int .i64 0]) (upd (ownF st) s (entV (s, k, c))))
    (e3 : w3 = w2.alloc o1) (hg4 : w3.grownBy w4 vN.ownBlock) (ho4 : w4.ownsRow B0 9 1 v1 (st.length + 1) (nameCells st ++ [.string s]))
    (e5 : w5 = w4.alloc o2) (hg6 : w5.grownBy w6 vO.ownBlock) (ho6 : w6.ownsRow B0 44 2 v2 (st.length + 1) (entCells st ++ [.int .i64 (k : Int), .int .i64 (c : Int)])) (hloc : v2.ownBlock = vO.ownBlock ∨ v2.ownBlock = some w5.heap.size) :
    S3 w B0 Bk M0 (m + 1) vP flat w6 (st ++ [(s, k, c)]) ll rr v1 v2 vL vR := by
  obtain ⟨n1, n2, n3, n4, n5, n6, n7, n8⟩ := h.mapNew hg2 hm hn
  subst e3
  subst e5
  have a1 := n1.alloc o1
  have a2 := n2.alloc o1
  have a3 := n3.alloc o1
  have a4 := n4.alloc o1
  have a5 := n5.alloc o1
  have a6 := n6.kept (World.grownBy_alloc w2 o1 none) (by simp)
  have b2 := (a2.kept hg4 (apart_types a2 a1 (by decide))).alloc o2
  have b3 := (a3.kept hg4 (apart_types a3 a1 (by decide))).alloc o2
  have b4 := (a4.kept hg4 (apart_types a4 a1 (by decide))).alloc o2
  have b5 := (a5.kept hg4 (apart_types a5 a1 (by decide))).alloc o2
  obtain ⟨es, cl, hb⟩ := a6.block
  have b6 := (a6.kept hg4 (map_apart a1 hb)).kept (World.grownBy_alloc w4 o2 none) (by simp)
  have b1 := ho4.alloc o2
  obtain ⟨es2, cl2, hb2⟩ := b6.block
  have s2 : Bk ≤ w4.heap.size := Nat.le_trans n7 (Nat.le_trans (by simp) hg4.size)
  have l2 : st.length + 1 = (st ++ [(s, k, c)]).length := by simp
  exact {
    names := by
      have e2 : nameCells (st ++ [(s, k, c)]) = nameCells st ++ [.string s] := by simp [nameCells]
      rw [← l2, e2]; exact b1.kept hg6 (apart_types b1 b2 (by decide))
    orig := by
      have e2 : entCells (st ++ [(s, k, c)]) = entCells st ++ [.int .i64 (k : Int), .int .i64 (c : Int)] := by simp [entCells]
      rw [← l2, e2]; exact ho6
    left := b3.kept hg6 h.ap.symm'
    right := b4.kept hg6 (apart_types b4 b2 (by decide))
    picks := b5.kept hg6 (apart_types b5 b2 (by decide))
    pb := h.pb
    map := b6.kept hg6 (map_apart b2 hb2)
    hM := h.hM
    ap := (apart_grown b3 h.ap.symm' hloc).symm'
    bk := h.bk
    sz := Nat.le_trans s2 (Nat.le_trans (by simp) hg6.size)
    bel := by
      have c1 := n8.alloc (Nat.le_trans h.bk n7) o1
      have c2 := c1.grown hg4 (by have := h.bk; simp; omega) (fun k hk => (own_block a1 hk).1)
      have c3 := c2.alloc (Nat.le_trans h.bk s2) o2
      exact c3.grown hg6 (by have := h.bk; simp; omega) (fun k hk => (own_block b2 hk).1) }

/-- .. and between the two the origins are still owned. -/
theorem S3.origMid (h : S3 w B0 Bk M0 m vP flat wr st ll rr vN vO vL vR) {s : ByteArray} {k c : Nat} {w2 w4 : World} {o1 : Obj} (hn : hasName st s = false)
    (hg2 : wr.grownBy w2 (some M0)) (hm : MapV w2 M0 (m + 1) (.agg #[.int .i64 0, .int .i64 0]) (upd (ownF st) s (entV (s, k, c)))) (hg4 : (w2.alloc o1).grownBy w4 vN.ownBlock) : w4.ownsRow B0 44 2 vO st.length (entCells st) := by
  obtain ⟨n1, n2, n3, n4, n5, n6, n7, n8⟩ := h.mapNew hg2 hm hn
  exact (n2.alloc o1).kept hg4 (apart_types (n2.alloc o1) (n1.alloc o1) (by decide))

theorem st_len {K : Nat} {nc nr : Nat → Nat} {name : Nat → Nat → ByteArray} {rl : Nat → Nat → Nat} {val : Nat → Nat → Nat → ByteArray} (hD : InDom K nc nr name rl val) {k c : Nat} (hk : k < K) (hc : c ≤ nc k) : (stC name k (stS nc name k) c).length ≤ 268500992 := by
  have h1 := stC_length_le name k (stS nc name k) c
  have h2 := stS_length_le nc name 65536 k (fun k' hk' => (hD.ncb k' (by omega)).1)
  have h3 := hD.kmax
  have h4 := (hD.ncb k hk).1
  have h5 : k * 65536 ≤ 4096 * 65536 := Nat.mul_le_mul_right _ (by omega)
  omega
end Go.Proofs.Qxb6602443a
