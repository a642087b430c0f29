/-
  THE WALKS over the law's own prefix test and its own reader of canonical decimals.
-/
import Derived.Test.Qxb6602396aDoorWalks
namespace Go.Proofs.Qxb6602396aDoor
open Go.RowKit
set_option linter.unusedVariables false

def errB : ByteArray := ⟨#[101, 114, 114, 111, 114, 58, 32]⟩

set_option maxHeartbeats 400000 in
theorem prefix_no (s : ByteArray) (w : World) (hs0 : 0 < s.size) (hs1 : s.size ≤ 1000) (hne : (s[0].toNat : Int) ≠ 101) :
    Calls Tryd.prog 6 #[.string s, .string ⟨#[101, 114, 114, 111, 114, 58, 32]⟩] w fun e w' => e = .returned (.bool false) ∧ Below w.heap.size w w' := by
  by_cases h7 : s.size < 7
  · go_enter Tryd.func6, Tryd.ntmps6
    go_wp2
    go_ret
    exact ⟨rfl, Below.refl _ _⟩
  · have hb : (((s[0].toNat : Int) == 101) = false) := by simpa using hne
    clear hne
    go_enter Tryd.func6, Tryd.ntmps6
    go_wp2
    refine wp_loop_rounds 1 ?_
    rw [rounds_succ]
    go_wp2
    go_quiet (fail)
    go_wp2
    · go_ret
      exact ⟨rfl, below_drewN (Below.refl _ _) _⟩
    · exfalso
      have hx : ((s[0].toNat : Int) != 101) = false := by assumption
      rw [bne, hb] at hx
      cases hx

set_option maxHeartbeats 400000 in
theorem parse_none (w : World) : Calls Tryd.prog 7 #[.string ⟨#[110, 111, 110, 101]⟩] w fun e w' => e = .returned (.tuple #[.int .i64 0, .bool false]) ∧ w' = w := by
  go_enter Tryd.func7, Tryd.ntmps7
  go_wp2
  refine wp_loop_rounds 1 ?_
  rw [rounds_succ]
  go_wp2
  go_ret2
  exact ⟨rfl, rfl⟩


theorem parse_zero (w : World) : Calls Tryd.prog 7 #[.string ⟨#[48]⟩] w fun e w' => e = .returned (.tuple #[.int .i64 0, .bool true]) ∧ w' = w := by
  go_enter Tryd.func7, Tryd.ntmps7
  go_wp2
  refine wp_loop_rounds 2 ?_
  rw [rounds_succ]
  go_wp2
  rw [rounds_succ]
  go_wp2
  go_ret2
  exact ⟨rfl, rfl⟩

theorem val_step (s : ByteArray) (u k : Nat) (hs : s.data.toList = Lib.decDigits u) (hk : k < s.size) :
    48 ≤ (s[k].toNat : Int) ∧ (s[k].toNat : Int) ≤ 57 ∧ (val ((Lib.decDigits u).take (k + 1)) : Int) = (val ((Lib.decDigits u).take k) : Int) * 10 + ((s[k].toNat : Int) - 48) ∧ (val ((Lib.decDigits u).take k) : Int) * 10 + ((s[k].toNat : Int) - 48) ≤ u := by
  have hk' : k < (Lib.decDigits u).length := by rw [← hs]; exact hk
  have e : s[k] = (Lib.decDigits u).getD k 0 := by
    rw [← hs]
    simp only [List.getD_eq_getElem?_getD]
    rw [List.getElem?_eq_getElem (by simpa using hk)]
    rfl
  have hd := digits_decDigits u s[k] (by rw [← hs]; exact List.getElem_mem _)
  have h1 := val_take_succ (Lib.decDigits u) k hk'
  have h2 := val_take_le (Lib.decDigits u) (k + 1)
  rw [val_decDigits] at h2
  rw [← e] at h1
  omega

set_option maxHeartbeats 800000 in
theorem parse_pos (s : ByteArray) (u : Nat) (w : World) (hs : s.data.toList = Lib.decDigits u) (hu : u ≤ 9223372036854775807) (hu1 : 1 ≤ u) :
    Calls Tryd.prog 7 #[.string s] w fun e w' => e = .returned (.tuple #[.int .i64 u, .bool true]) ∧ w' = w := by
  have hz : s.size = (Lib.decDigits u).length := by rw [← hs]; rfl
  have hl1 := length_decDigits_pos u
  have hl2 := Lib.nDigits_le20 u (by omega)
  rw [← Lib.decDigits_length] at hl2
  have hs0 : 0 < s.size := by omega
  have hs1 : s.size ≤ 20 := by omega
  have h00 : 49 ≤ (s[0].toNat : Int) := by
    have e : s[0] = (Lib.decDigits u).getD 0 0 := by
      rw [← hs]
      simp only [List.getD_eq_getElem?_getD]
      rw [List.getElem?_eq_getElem (by simpa using hs0)]
      rfl
    have := head_decDigits u hu1
    rw [e]; omega
  have HZ : Hid (s.size = (Lib.decDigits u).length ∧ s.data.toList = Lib.decDigits u) := ⟨hz, hs⟩
  clear hz hs hl1 hl2
  go_enter Tryd.func7, Tryd.ntmps7
  go_wp2
  clear h00
  go_loopg [6, 8] s.size (fun g i t wr => ∃ k : Nat, g = s.size - k ∧ k ≤ s.size ∧ i = .int .i64 k ∧ t = .int .u64 (val ((Lib.decDigits u).take k)) ∧ wr = w)
  case atStart => exact ⟨0, rfl, Nat.zero_le _, rfl, rfl, rfl⟩
  case round =>
    obtain ⟨k, hg, hk, rfl, rfl, hw⟩ := hrel
    subst hw
    by_cases hlt : k < s.size
    · obtain ⟨c1, c2, c3, c4⟩ := val_step s u k HZ.out.2 hlt
      obtain ⟨V, hV⟩ : ∃ V, V = val ((Lib.decDigits u).take k) := ⟨_, rfl⟩
      rw [← hV] at c3 c4 ⊢
      have HG : Hid (gk = s.size - k ∧ (val ((Lib.decDigits u).take (k + 1)) : Int) = (V : Int) * 10 + ((s[k].toNat : Int) - 48)) := ⟨hg, c3⟩
      clear hg c3 hV
      go_wp2
      go_roundg (s.size - (k + 1))
      case measure => rw [HG.out.1]; omega
      case rel => exact ⟨k + 1, rfl, by omega, by go_num, by rw [HG.out.2], rfl⟩
    · have : k = s.size := by omega
      subst this
      have e : val ((Lib.decDigits u).take s.size) = u := by rw [HZ.out.1, List.take_length, val_decDigits]
      rw [e]
      clear e hg
      go_wp2
      go_ret2
      exact ⟨rfl, rfl⟩

theorem size_neg {s : ByteArray} {u : Nat} (hs : s.data.toList = 45 :: Lib.decDigits u) : s.size = (Lib.decDigits u).length + 1 := by
  have : s.data.toList.length = (45 :: Lib.decDigits u).length := by rw [hs]
  simpa using this

theorem at_neg (s : ByteArray) (u k : Nat) (hs : s.data.toList = 45 :: Lib.decDigits u) (hk : k + 1 < s.size) : s[k + 1] = (Lib.decDigits u).getD k 0 := by
  have e : s[k + 1] = s.data.toList.getD (k + 1) 0 := by
    simp only [List.getD_eq_getElem?_getD]
    rw [List.getElem?_eq_getElem (by simpa using hk)]
    rfl
  rw [e, hs, List.getD_cons_succ]

theorem val_step_neg (s : ByteArray) (u k : Nat) (hs : s.data.toList = 45 :: Lib.decDigits u) (hk : k + 1 < s.size) :
    48 ≤ (s[k + 1].toNat : Int) ∧ (s[k + 1].toNat : Int) ≤ 57 ∧ (val ((Lib.decDigits u).take (k + 1)) : Int) = (val ((Lib.decDigits u).take k) : Int) * 10 + ((s[k + 1].toNat : Int) - 48) ∧ (val ((Lib.decDigits u).take k) : Int) * 10 + ((s[k + 1].toNat : Int) - 48) ≤ u := by
  have hk' : k < (Lib.decDigits u).length := by have := size_neg hs; omega
  have e := at_neg s u k hs hk
  have hd := digits_decDigits u s[k + 1] (by
    rw [e, List.getD_eq_getElem?_getD, List.getElem?_eq_getElem hk']
    exact List.getElem_mem _)
  have h1 := val_take_succ (Lib.decDigits u) k hk'
  have h2 := val_take_le (Lib.decDigits u) (k + 1)
  rw [val_decDigits] at h2
  rw [← e] at h1
  omega

set_option maxHeartbeats 800000 in
theorem parse_neg (s : ByteArray) (u : Nat) (w : World) (hs : s.data.toList = 45 :: Lib.decDigits u) (hu : u ≤ 9223372036854775808) (hu1 : 1 ≤ u) :
    Calls Tryd.prog 7 #[.string s] w fun e w' => e = .returned (.tuple #[.int .i64 (-(u : Int)), .bool true]) ∧ w' = w := by
  have hz := size_neg hs
  have hl1 := length_decDigits_pos u
  have hl2 := Lib.nDigits_le20 u (by omega)
  rw [← Lib.decDigits_length] at hl2
  have hs0 : 0 < s.size := by omega
  have hs2 : 1 < s.size := by omega
  have hs1 : s.size ≤ 21 := by omega
  have h00 : (s[0].toNat : Int) = 45 := by
    have e : s[0] = s.data.toList.getD 0 0 := by
      simp only [List.getD_eq_getElem?_getD]
      rw [List.getElem?_eq_getElem (by simpa using hs0)]
      rfl
    rw [e, hs]
    rfl
  have h01 : 49 ≤ (s[1].toNat : Int) := by
    have e := at_neg s u 0 hs hs2
    have := head_decDigits u hu1
    rw [e]; omega
  have HZ : Hid (s.size = (Lib.decDigits u).length + 1 ∧ s.data.toList = 45 :: Lib.decDigits u) := ⟨hz, hs⟩
  clear hz hs hl1 hl2
  go_enter Tryd.func7, Tryd.ntmps7
  go_wp2
  clear h00 h01
  go_loopg [6, 8] s.size (fun g i t wr => ∃ k : Nat, g = s.size - k ∧ k + 1 ≤ s.size ∧ i = .int .i64 ((k : Int) + 1) ∧ t = .int .u64 (val ((Lib.decDigits u).take k)) ∧ wr = w)
  case atStart => exact ⟨0, rfl, by omega, rfl, rfl, rfl⟩
  case round =>
    obtain ⟨k, hg, hk, rfl, rfl, hw⟩ := hrel
    subst hw
    by_cases hlt : k + 1 < s.size
    · obtain ⟨c1, c2, c3, c4⟩ := val_step_neg s u k HZ.out.2 hlt
      obtain ⟨V, hV⟩ : ∃ V, V = val ((Lib.decDigits u).take k) := ⟨_, rfl⟩
      rw [← hV] at c3 c4 ⊢
      have HG : Hid (gk = s.size - k ∧ (val ((Lib.decDigits u).take (k + 1)) : Int) = (V : Int) * 10 + ((s[k + 1].toNat : Int) - 48)) := ⟨hg, c3⟩
      clear hg c3 hV
      go_wp2
      go_roundg (s.size - (k + 1))
      case measure => rw [HG.out.1]; omega
      case rel => exact ⟨k + 1, rfl, by omega, by go_num, by rw [HG.out.2], rfl⟩
    · have hk2 : k = (Lib.decDigits u).length := by have := HZ.out.1; omega
      have e : val ((Lib.decDigits u).take k) = u := by rw [hk2, List.take_length, val_decDigits]
      rw [e]
      clear e hg hk2
      by_cases hmin : u = 9223372036854775808
      · subst hmin
        go_wp2
        go_ret2
        exact ⟨rfl, rfl⟩
      · go_wp2
        go_ret2
        exact ⟨rfl, rfl⟩

theorem parse_itoa (v : Int) (w : World) (h0 : -9223372036854775808 ≤ v) (h1 : v ≤ 9223372036854775807) :
    Calls Tryd.prog 7 #[.string (txt v true)] w fun e w' => e = .returned (.tuple #[.int .i64 v, .bool true]) ∧ w' = w := by
  have ht : (txt v true).data.toList = Lib.itoa v := by simp [txt, txtL]
  by_cases hneg : v < 0
  · obtain ⟨u, rfl⟩ : ∃ u : Nat, v = -(u : Int) := ⟨v.natAbs, by omega⟩
    rw [Lib.itoa_neg u (by omega)] at ht
    exact parse_neg _ u w ht (by omega) (by omega)
  · obtain ⟨u, rfl⟩ : ∃ u : Nat, v = (u : Int) := ⟨v.toNat, by omega⟩
    by_cases hz : u = 0
    · subst hz
      have e : txt ((0 : Nat) : Int) true = ⟨#[48]⟩ := by
        have : Lib.itoa ((0 : Nat) : Int) = [48] := by rw [Lib.itoa_nonneg, Lib.decDigits_one (by omega)]; rfl
        simp only [txt, txtL, if_true]
        rw [this]
      rw [e]
      exact parse_zero w
    · rw [Lib.itoa_nonneg] at ht
      exact parse_pos _ u w ht (by omega) (by omega)

theorem head_ne {s : ByteArray} {l : List UInt8} (hs : s.data.toList = l) (h0 : 0 < s.size) (h : (l.getD 0 0).toNat ≠ 101) : (s[0].toNat : Int) ≠ 101 := by
  have e : s[0] = s.data.toList.getD 0 0 := by
    simp only [List.getD_eq_getElem?_getD]
    rw [List.getElem?_eq_getElem (by simpa using h0)]
    rfl
  rw [e, hs]
  omega

theorem prefix_txt (v : Int) (f : Bool) (w : World) (h0 : -9223372036854775808 ≤ v) (h1 : v ≤ 9223372036854775807) :
    Calls Tryd.prog 6 #[.string (txt v f), .string ⟨#[101, 114, 114, 111, 114, 58, 32]⟩] w fun e w' => e = .returned (.bool false) ∧ Below w.heap.size w w' := by
  have hd : (txt v f).data.toList = txtL v f := by simp [txt]
  have hz : (txt v f).size = (txtL v f).length := by rw [← hd]; rfl
  have hlen : 1 ≤ (txtL v f).length ∧ (txtL v f).length ≤ 21 := by
    cases f with
    | false => simp [txtL, noneL]
    | true =>
      simp only [txtL, if_true]
      refine ⟨?_, Lib.itoa_length_le v h0 h1⟩
      unfold Lib.itoa
      split
      · simp
      · exact length_decDigits_pos _
  refine prefix_no _ w (by omega) (by omega) (head_ne hd (by omega) ?_)
  cases f with
  | false => simp [txtL, noneL]
  | true =>
    have := head_itoa v
    simp only [txtL, if_true]
    omega

theorem txt_none (v : Int) : (txt v false).toList = [110, 111, 110, 101] := ByteArray.toList_mk _

theorem txt_some (v : Int) : ((txt v true).toList == [110, 111, 110, 101]) = false := by
  have e : (txt v true).toList = Lib.itoa v := ByteArray.toList_mk _
  rw [e]
  have := itoa_ne_none v
  simpa [noneL] using this

set_option maxHeartbeats 400000 in
theorem walk_parse (v : Int) (f : Bool) (w : World) (h0 : -9223372036854775808 ≤ v) (h1 : v ≤ 9223372036854775807) (ht : Tab w) :
    Calls Tryd.prog 3 #[.int .i64 v, .bool f] w fun e w' => e = .returned (.bool true) ∧ Below w.heap.size w w' := by
  cases f with
  | false =>
    have HN : Hid ((txt v false).toList = [110, 111, 110, 101]) := txt_none v
    go_enter Tryd.func3, Tryd.ntmps3
    go_wp2_with fail
    refine (string_any v false _ h0 h1 ht).mono ?_
    rintro e w1 ⟨rfl, hb1⟩
    go_wp2_with fail
    refine (prefix_txt v false _ h0 h1).mono ?_
    rintro e w2 ⟨rfl, hb2⟩
    go_wp2_with fail
    refine (parse_none _).mono ?_
    rintro e w3 ⟨rfl, rfl⟩
    go_wp2
    go_ret
    exact ⟨rfl, hb1.trans (hb2.mono hb1.size)⟩
  | true =>
    have HN : Hid (((txt v true).toList == [110, 111, 110, 101]) = false) := txt_some v
    go_enter Tryd.func3, Tryd.ntmps3
    go_wp2_with fail
    refine (string_any v true _ h0 h1 ht).mono ?_
    rintro e w1 ⟨rfl, hb1⟩
    go_wp2_with fail
    refine (prefix_txt v true _ h0 h1).mono ?_
    rintro e w2 ⟨rfl, hb2⟩
    go_wp2_with fail
    refine (parse_itoa v _ h0 h1).mono ?_
    rintro e w3 ⟨rfl, rfl⟩
    go_wp2
    go_ret
    refine ⟨?_, hb1.trans (hb2.mono hb1.size)⟩
    rw [HN.out]
    rfl
end Go.Proofs.Qxb6602396aDoor
