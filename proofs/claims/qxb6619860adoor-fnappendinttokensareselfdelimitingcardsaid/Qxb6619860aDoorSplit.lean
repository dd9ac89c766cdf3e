/-
  THE WALK OF 'FnAppendIntTokensAreSelfDelimiting'.
-/
import Derived.Test.Qxb6619860aDoorHead
import Derived.Deep.DeepCutAuto
namespace Go.Proofs.Qxb6619860aDoor
open Go.RowKit

theorem bytes12 (i i' : Int) (a : Option Addr) (n c : Nat) (w : World) (hn : n ≤ maxLen) :
    Calls Tryd.prog 12 #[.slice a n c, .int .i64 i, .int .i64 i'] w fun e w' => e = .returned (.bool (decide (n ≤ 1048576))) ∧ w = w' := by
  unfold maxLen at hn
  by_cases h : n ≤ 1048576
  · rw [decide_eq_true h]
    go_enter Tryd.func12, Tryd.ntmps12
    go_wp2
    go_ret
    exact ⟨rfl, rfl⟩
  · rw [decide_eq_false h]
    go_enter Tryd.func12, Tryd.ntmps12
    go_wp2
    go_ret
    exact ⟨rfl, rfl⟩

theorem split_long (i i' : Int) (a : Option Addr) (n c : Nat) (w : World) (hn : n ≤ maxLen) (hl : 1048576 < n) :
    Calls Tryd.prog 4 #[.slice a n c, .int .i64 i, .int .i64 i'] w fun e w' => e = .returned (.bool true) ∧ w = w' := by
  have hb := bytes12 i i' a n c w hn
  rw [decide_eq_false (by omega)] at hb
  go_enter Tryd.func4, Tryd.ntmps4
  go_wp2_with (go_at_call 12; refine hb.mono ?_; rintro e w' ⟨rfl, rfl⟩)
  go_ret
  exact ⟨rfl, rfl⟩

/-- No byte of a numeral is an 'e'. -/
theorem bt_itoa_le (v : Int) (t : Nat) (h : t < (Lib.itoa v).length) : bt (Lib.itoa v) t ≤ 57 := by
  by_cases hneg : v < 0
  · have e : Lib.itoa v = 45 :: Lib.decDigits v.natAbs := by unfold Lib.itoa; rw [if_pos hneg]
    rw [e] at h ⊢
    cases t with
    | zero => rw [bt_cons_zero]; decide
    | succ t =>
      rw [List.length_cons, Lib.decDigits_length] at h
      rw [bt_cons_succ, bt_decDigits _ _ (by omega)]
      have := dig_lt v.natAbs (Lib.nDigits v.natAbs) t
      omega
  · have e : Lib.itoa v = Lib.decDigits v.toNat := by unfold Lib.itoa; rw [if_neg hneg]
    rw [e] at h ⊢
    rw [Lib.decDigits_length] at h
    rw [bt_decDigits _ _ h]
    have := dig_lt v.toNat (Lib.nDigits v.toNat) t
    omega

theorem tokI_no_e (v : Int) (t : Nat) (h : t < (Lib.itoa v).length + 1) : bt (tokI v) t ≠ 101 := by
  cases t with
  | zero => rw [tokI_zero]; decide
  | succ t =>
    rw [Nat.add_comm t 1, tokI_mid v (by omega)]
    have := bt_itoa_le v t (by omega)
    omega

theorem bt_three_mid (l x y : List UInt8) (j : Nat) (h : j < x.length) : bt (l ++ x ++ y) (l.length + j) = bt x j := by
  rw [List.append_assoc, bt_append_right, bt_append_left _ _ h]
theorem bt_three_last (l x y : List UInt8) (j : Nat) : bt (l ++ x ++ y) (l.length + x.length + j) = bt y j := by
  rw [← List.length_append, bt_append_right]

set_option maxRecDepth 100000 in
set_option maxHeartbeats 1000000 in
theorem split_walk (i i' : Int) (h0 : -9223372036854775808 ≤ i) (h1 : i ≤ 9223372036854775807) (h0' : -9223372036854775808 ≤ i') (h1' : i' ≤ 9223372036854775807) (a : Option Addr) (g o n c : Nat) (l : List UInt8) (w : World) (hn : n ≤ 1048576) (hl : n = l.length) (hnil : a = none → n = 0 ∧ c = 0) (h : Sl w a g o n (bt l)) (hg : 0 < n → g < w.heap.size) (htab : Tab w.heap.size w) :
    Calls Tryd.prog 4 #[.slice a n c, .int .i64 i, .int .i64 i'] w fun e w' => e = .returned (.bool true) ∧ Below w.heap.size w w' := by
  have hb := bytes12 i i' a n c w (by unfold maxLen; omega)
  rw [decide_eq_true hn] at hb
  have hcl1 := clone_any a g o n c l w hn hl hnil h hg
  have hlen := Lib.itoa_length_le i h0 h1
  have hlen' := Lib.itoa_length_le i' h0' h1'
  have HL : Hid (n = l.length) := hl
  clear hl
  go_enter Tryd.func4, Tryd.ntmps4
  go_wp2_with (go_at_call 12; refine hb.mono ?_; rintro e w' ⟨rfl, rfl⟩)
  -- want := cloneBytes(b)
  refine hcl1.mono ?_
  rintro e w1 ⟨a1, c1, rfl, ho1, hb1⟩
  have ht1 : Tab w1.heap.size w1 := tab_size (htab.on hb1)
  go_wp2_with fail
  -- b = cloneBytes(b)
  refine (clone_any a g o n c l w1 hn HL.out hnil (h.below hb1 hg) (fun hp => Nat.lt_of_lt_of_le (hg hp) hb1.size)).mono ?_
  rintro e w2 ⟨a2, c2, rfl, ho2, hb2⟩
  go_wp2_with fail
  -- AppendInt(b, m)
  refine (append_any w1.heap.size i h0 h1 a2 n c2 l w2 ho2 hb2.size (by omega) (ht1.on hb2)).mono ?_
  rintro e w3 ⟨a3, n3, c3, rfl, ho3, hb3⟩
  have hz3 : n3 ≤ 4000000 := by rw [ho3.1, List.length_append, length_tokI, ← HL.out]; omega
  go_wp2_with fail
  -- both := AppendInt(.., n)
  refine (append_any w1.heap.size i' h0' h1' a3 n3 c3 _ w3 ho3 (by have := hb2.size; have := hb3.size; omega) hz3 ((ht1.on hb2).on hb3)).mono ?_
  rintro e w4 ⟨a4, n4, c4, rfl, ho4, hb4⟩
  have ht4 := tab_size (((ht1.on hb2).on hb3).on hb4)
  have hs4 : w1.heap.size ≤ w4.heap.size := by have := hb2.size; have := hb3.size; have := hb4.size; omega
  go_wp2_with fail
  -- tm := AppendInt(nil, m)
  refine (append_any w4.heap.size i h0 h1 none 0 0 [] w4 (own_nil _ _) (Nat.le_refl _) (by omega) ht4).mono ?_
  rintro e w5 ⟨a5, n5, c5, rfl, ho5, hb5⟩
  rw [List.nil_append] at ho5
  go_wp2_with fail
  -- tn := AppendInt(nil, n)
  refine (append_any w5.heap.size i' h0' h1' none 0 0 [] w5 (own_nil _ _) (Nat.le_refl _) (by omega) (tab_size (ht4.on hb5))).mono ?_
  rintro e w6 ⟨a6, n6, c6, rfl, ho6, hb6⟩
  rw [List.nil_append] at ho6
  have hb46 : Below w4.heap.size w4 w6 := hb5.trans (hb6.mono hb5.size)
  have hb16 : Below w1.heap.size w1 w6 := ((hb2.trans hb3).trans hb4).trans (hb46.mono hs4)
  have hfin : Below w.heap.size w w6 := hb1.trans (hb16.mono hb1.size)
  have hq1 := ho1.below hb16 (Nat.le_refl _)
  have hq4 := ho4.below hb46 (Nat.le_refl _)
  have hq5 := ho5.below hb6 (Nat.le_refl _)
  have e5 : n5 = (Lib.itoa i).length + 2 := by rw [hq5.1, length_tokI]
  have e6 : n6 = (Lib.itoa i').length + 2 := by rw [ho6.1, length_tokI]
  have e4 : n4 = n + n5 + n6 := by rw [hq4.1, List.length_append, List.length_append, ← HL.out, length_tokI, length_tokI, ← e5, ← e6]
  obtain ⟨g1, s1, _, m1, m1'⟩ := hq1.sl
  obtain ⟨g4, s4, _, m4, m4'⟩ := hq4.sl
  obtain ⟨g5, s5, _, m5, m5'⟩ := hq5.sl
  obtain ⟨g6, s6, _, m6, m6'⟩ := ho6.sl
  obtain rfl := s4.addr (by omega)
  obtain rfl := s5.addr (by omega)
  obtain rfl := s6.addr (by omega)
  clear ho1 ho2 ho3 ho4 ho5 ho6 hq1 hq4 hq5 hb1 hb2 hb3 hb4 hb5 hb6 hb46 hb16 ht1 ht4 hcl1 hs4 hz3
  have kt := token_any i h0 h1 (some ⟨g5, 0, none⟩) g5 0 n5 c5 (Lib.itoa i).length w6 rfl (by omega) e5 m5 m5' s5
  have kt' := token_any i' h0' h1' (some ⟨g6, 0, none⟩) g6 0 n6 c6 (Lib.itoa i').length w6 rfl (by omega) e6 m6 m6' s6
  unfold maxLen at m1' m4' m5' m6'
  obtain ⟨F, hF⟩ : ∃ F : Nat → Int, Hid (bt (l ++ tokI i ++ tokI i') = F) := ⟨_, rfl⟩
  rw [hF.out] at s4
  have hF1 : Hid (∀ j, j < n → F j = bt l j) := fun j hj => by rw [← hF.out, List.append_assoc]; exact bt_append_left _ _ (by have := HL.out; omega)
  have hF2 : Hid (∀ j, j < n5 → F (n + j) = bt (tokI i) j) := fun j hj => by rw [← hF.out, HL.out]; exact bt_three_mid _ _ _ _ (by rw [length_tokI]; omega)
  have hF3 : Hid (∀ j, F (n + n5 + j) = bt (tokI i') j) := fun j => by
    rw [← hF.out, HL.out, show n5 = (tokI i).length by rw [length_tokI]; omega]; exact bt_three_last _ _ _ _
  have i1 : 2 ≤ (n5 : Int) := by omega
  have i2 : 2 ≤ (n6 : Int) := by omega
  have i3 : (n5 : Int) ≤ 30 := by omega
  have i4 : (n6 : Int) ≤ 30 := by omega
  have i5 : (n : Int) + (n5 : Int) + (n6 : Int) ≤ (n4 : Int) := by omega
  have i6 : (n4 : Int) ≤ (n : Int) + (n5 : Int) + (n6 : Int) := by omega
  have E5 : Hid (n5 = (Lib.itoa i).length + 2) := e5
  clear e4 e5 e6 hlen hlen'
  go_wp2_with fail
  refine kt.mono ?_
  rintro e w' ⟨rfl, rfl⟩
  go_wp2_with fail
  refine kt'.mono ?_
  rintro e w' ⟨rfl, rfl⟩
  go_wp2_with fail
  refine (equal_two _ _ g4 g1 0 0 n n _ _ F (bt l) w6 rfl (by unfold maxLen; omega) (s4.head n (by omega)) s1 hF1.out).mono ?_
  rintro e w7 ⟨rfl, m, rfl⟩
  go_wp2_with fail
  go_loopg [11] n5 (fun gk s11 wx => ∃ J : Nat, gk = n + n5 - J ∧ n ≤ J ∧ J + 1 ≤ n + n5 ∧ s11 = .int .i64 J ∧ w6.drewN m = wx)
  case atStart => exact ⟨n, by omega, Nat.le_refl _, by omega, rfl, rfl⟩
  case round =>
    obtain ⟨J, hgk, hJ1, hJ2, rfl, rfl⟩ := hrel
    have cJ : w6.cell? ⟨g4, J, none⟩ = some (.int .u8 (F J)) := by have := s4.cell J (by omega); rwa [Nat.zero_add] at this
    have hJ3 : (J : Int) < (n4 : Int) := by omega
    have hFJ := hF2.out (J - n) (by omega)
    rw [show n + (J - n) = J by omega] at hFJ
    by_cases hend : J + 1 = n + n5
    · have h101 : (F J == 101) = true := by
        rw [hFJ, show J - n = (Lib.itoa i).length + 1 by have := E5.out; omega, tokI_last]; rfl
      have HE : Hid (J + 1 = n + n5) := hend
      have hcn : ¬ c4 = n := by omega
      have hcj : ¬ c4 = J + 1 := by omega
      clear hend hFJ hgk
      go_wp2_with fail
      have sx := s4.sub n (J + 1 - n) (by omega)
      rw [Nat.zero_add] at sx
      refine (equal_two _ _ g4 g5 n 0 (J + 1 - n) n5 _ _ _ (bt (tokI i)) (w6.drewN m) (by have := HE.out; omega) (by unfold maxLen; omega) (sx.drewN m) (s5.drewN m) (fun j hj => hF2.out j (by have := HE.out; omega))).mono ?_
      rintro e w8 ⟨rfl, m2, rfl⟩
      go_wp2_with fail
      have sy := s4.sub (J + 1) (n4 - (J + 1)) (by omega)
      rw [Nat.zero_add] at sy
      refine (equal_two _ _ g4 g6 (J + 1) 0 (n4 - (J + 1)) n6 _ _ _ (bt (tokI i')) (w6.drewN (m + m2)) (by have := HE.out; omega) (by unfold maxLen; omega) (sy.drewN (m + m2)) (s6.drewN (m + m2)) (fun j hj => by show F (J + 1 + j) = _; rw [HE.out]; exact hF3.out j)).mono ?_
      rintro e w9 ⟨rfl, m3, rfl⟩
      go_wp2_with fail
      go_ret
      exact ⟨rfl, ⟨hfin.os, hfin.tape, hfin.output, hfin.size, hfin.block⟩⟩
    · have h101 : (F J == 101) = false := by
        have := tokI_no_e i (J - n) (by have := E5.out; omega)
        rw [hFJ]; simpa using this
      clear hFJ
      go_wp2_with fail
      go_roundg (n + n5 - (J + 1))
      case measure => omega
      case rel => exact ⟨J + 1, rfl, by omega, by omega, by go_num, rfl⟩

end Go.Proofs.Qxb6619860aDoor
