/-
  THE WALK OF 'FnAppendIntAndHeaderShareDigits'.
-/
import Derived.Test.Qxb6619860aDoorFull
namespace Go.Proofs.Qxb6619860aDoor
open Go.RowKit

theorem bytes16 (i : Int) (a : Option Addr) (n c : Nat) (w : World) (hn : n ≤ maxLen) :
    Calls Tryd.prog 16 #[.slice a n c, .int .i64 i] w fun e w' => e = .returned (.bool (decide (n ≤ 1048576))) ∧ w = w' := by
  unfold maxLen at hn
  by_cases h : n ≤ 1048576
  · rw [decide_eq_true h]
    go_enter Tryd.func16, Tryd.ntmps16
    go_wp2
    go_ret
    exact ⟨rfl, rfl⟩
  · rw [decide_eq_false h]
    go_enter Tryd.func16, Tryd.ntmps16
    go_wp2
    go_ret
    exact ⟨rfl, rfl⟩

theorem share_long (i : Int) (a : Option Addr) (n c : Nat) (w : World) (hn : n ≤ maxLen) (hl : 1048576 < n) :
    Calls Tryd.prog 6 #[.slice a n c, .int .i64 i] w fun e w' => e = .returned (.bool true) ∧ w = w' := by
  have hb := bytes16 i a n c w hn
  rw [decide_eq_false (by omega)] at hb
  go_enter Tryd.func6, Tryd.ntmps6
  go_wp2_with (go_at_call 16; refine hb.mono ?_; rintro e w' ⟨rfl, rfl⟩)
  go_ret
  exact ⟨rfl, rfl⟩

set_option maxRecDepth 100000 in
set_option maxHeartbeats 2000000 in
theorem share_walk (i : Int) (h0 : -9223372036854775808 ≤ i) (h1 : i ≤ 9223372036854775807) (a : Option Addr) (g o n c : Nat) (l : List UInt8) (w : World) (hn : n ≤ 1048576) (hl : n = l.length) (hnil : a = none → n = 0 ∧ c = 0) (h : Sl w a g o n (bt l)) (hg : 0 < n → g < w.heap.size) (htab : Tab w.heap.size w) :
    Calls Tryd.prog 6 #[.slice a n c, .int .i64 i] w fun e w' => e = .returned (.bool true) ∧ Below w.heap.size w w' := by
  have hb := bytes16 i a n c w (by unfold maxLen; omega)
  rw [decide_eq_true hn] at hb
  have hcl1 := clone_full a g o n c l w hn hl hnil h hg
  have hlen := Lib.itoa_length_le i h0 h1
  have HL : Hid (n = l.length) := hl
  clear hl
  go_enter Tryd.func6, Tryd.ntmps6
  go_wp2_with (go_at_call 16; refine hb.mono ?_; rintro e w' ⟨rfl, rfl⟩)
  -- want := cloneBytes(b)
  refine hcl1.mono ?_
  rintro e w1 ⟨a1, rfl, ho1, hb1⟩
  go_wp2_with fail
  -- bi := cloneBytes(b)
  refine (clone_full a g o n c l w1 hn HL.out hnil (h.below hb1 hg) (fun hp => Nat.lt_of_lt_of_le (hg hp) hb1.size)).mono ?_
  rintro e w2 ⟨a2, rfl, ho2, hb2⟩
  have hb12 : Below w.heap.size w w2 := hb1.trans (hb2.mono hb1.size)
  go_wp2_with fail
  -- bh := cloneBytes(b)
  refine (clone_full a g o n c l w2 hn HL.out hnil (h.below hb12 hg) (fun hp => Nat.lt_of_lt_of_le (hg hp) hb12.size)).mono ?_
  rintro e w3 ⟨a3, rfl, ho3, hb3⟩
  have hb13 : Below w.heap.size w w3 := hb12.trans (hb3.mono hb12.size)
  have ht3 : Tab w3.heap.size w3 := tab_size (htab.on hb13)
  go_wp2_with fail
  -- ti := AppendInt(bi, n)
  refine (append_full w1.heap.size i h0 h1 a2 n l w3 (ho2.below hb3 (Nat.le_refl _)) (by have := hb2.size; have := hb3.size; omega) (by omega) ht3).mono ?_
  rintro e w4 ⟨a4, n4, c4, rfl, ho4, hb4⟩
  go_wp2_with fail
  -- th := AppendStringHeader(bh, n)
  refine (header_full w2.heap.size i h0 h1 a3 n l w4 (ho3.below hb4 (Nat.le_refl _)) (by have := hb3.size; have := hb4.size; omega) (by omega) (tab_size (ht3.on hb4))).mono ?_
  rintro e w5 ⟨a5, n5, c5, rfl, ho5, hb5⟩
  have hb35 : Below w3.heap.size w3 w5 := hb4.trans (hb5.mono hb4.size)
  have hb15 : Below w1.heap.size w1 w5 := (hb2.trans (hb3.mono hb2.size)).trans (hb35.mono (by have := hb2.size; have := hb3.size; omega))
  have hfin : Below w.heap.size w w5 := hb1.trans (hb15.mono hb1.size)
  have hq1 := ho1.below hb15 (Nat.le_refl _)
  have hq4 := ho4.below hb5 (Nat.le_refl _)
  have e4 : n4 = n + (Lib.itoa i).length + 2 := by rw [hq4.1, List.length_append, length_tokI, ← HL.out]; omega
  have e5 : n5 = n + (Lib.itoa i).length + 1 := by rw [ho5.1, List.length_append, length_tokH, ← HL.out]; omega
  obtain ⟨g1, s1, _, m1, m1'⟩ := hq1.sl
  obtain ⟨g4, s4, _, m4, m4'⟩ := hq4.sl
  obtain ⟨g5, s5, _, m5, m5'⟩ := ho5.sl
  obtain rfl := s4.addr (by omega)
  obtain rfl := s5.addr (by omega)
  clear ho1 ho2 ho3 ho4 ho5 hq1 hq4 hb1 hb2 hb3 hb4 hb5 hb12 hb13 hb35 hb15 ht3 hcl1
  unfold maxLen at m1' m4' m5'
  obtain ⟨F, hF⟩ : ∃ F : Nat → Int, Hid (bt (l ++ tokI i) = F) := ⟨_, rfl⟩
  obtain ⟨G, hG⟩ : ∃ G : Nat → Int, Hid (bt (l ++ tokH i) = G) := ⟨_, rfl⟩
  rw [hF.out] at s4
  rw [hG.out] at s5
  obtain ⟨k, hk⟩ : ∃ k, Hid ((Lib.itoa i).length = k) := ⟨_, rfl⟩
  rw [hk.out] at e4 e5 hlen
  have F1 : Hid (∀ j, j < n → F j = bt l j) := fun j hj => by rw [← hF.out]; exact bt_append_left _ _ (by have := HL.out; omega)
  have G1 : Hid (∀ j, j < n → G j = bt l j) := fun j hj => by rw [← hG.out]; exact bt_append_left _ _ (by have := HL.out; omega)
  have F2 : Hid (∀ j, F (n + j) = bt (tokI i) j) := fun j => by rw [← hF.out, HL.out]; exact bt_append_right _ _ _
  have G2 : Hid (∀ j, G (n + j) = bt (tokH i) j) := fun j => by rw [← hG.out, HL.out]; exact bt_append_right _ _ _
  have c1' : w5.cell? ⟨g4, n, none⟩ = some (.int .u8 105) := by
    have := s4.cell n (by omega)
    rw [Nat.zero_add] at this
    rw [this]; have := F2.out 0; rw [Nat.add_zero] at this; rw [this, tokI_zero]
  have c2' : w5.cell? ⟨g4, n4 - 1, none⟩ = some (.int .u8 101) := by
    have := s4.cell (n4 - 1) (by omega)
    rw [Nat.zero_add] at this
    rw [this, show n4 - 1 = n + (k + 1) by omega, F2.out, ← hk.out, tokI_last]
  have c3' : w5.cell? ⟨g5, n5 - 1, none⟩ = some (.int .u8 58) := by
    have := s5.cell (n5 - 1) (by omega)
    rw [Nat.zero_add] at this
    rw [this, show n5 - 1 = n + k by omega, G2.out, ← hk.out, tokH_last]
  have i1 : (n4 : Int) ≤ (n : Int) + (k : Int) + 2 := by omega
  have i2 : (n : Int) + (k : Int) + 2 ≤ (n4 : Int) := by omega
  have i3 : (n5 : Int) ≤ (n : Int) + (k : Int) + 1 := by omega
  have i4 : (n : Int) + (k : Int) + 1 ≤ (n5 : Int) := by omega
  have i5 : (k : Int) ≤ 21 := by omega
  have d1 : decide ((n4 : Int) < (n : Int) + 2) = false := decide_eq_false (by omega)
  have d2 : ((n5 : Int) != (n4 : Int) - 1) = false := by simp; omega
  clear e4 e5
  go_wp2_with fail
  refine (equal_two _ _ g4 g1 0 0 n n _ _ F (bt l) w5 rfl (by unfold maxLen; omega) (s4.head n (by omega)) s1 F1.out).mono ?_
  rintro e w6 ⟨rfl, m, rfl⟩
  go_wp2_with fail
  refine (equal_two _ _ g5 g1 0 0 n n _ _ G (bt l) (w5.drewN m) rfl (by unfold maxLen; omega) ((s5.head n (by omega)).drewN m) (s1.drewN m) G1.out).mono ?_
  rintro e w7 ⟨rfl, m2, rfl⟩
  have j1 : ¬ c4 = n + 1 := by omega
  have j2 : ¬ c5 = n := by omega
  go_wp2_with fail
  have q1 : (n : Int) + 1 ≤ (n4 : Int) - 1 := by omega
  have q2 : (n4 : Int) - 1 ≤ (c4 : Int) := by omega
  have q3 : (n : Int) ≤ (n5 : Int) - 1 := by omega
  have q4 : (n5 : Int) - 1 ≤ (c5 : Int) := by omega
  have hcall : ∀ x, Calls Tryd.prog 11 #[.slice (some ⟨g4, n + 1, none⟩) (n4 - 1 - (n + 1)) (c4 - (n + 1)), .slice (some ⟨g5, n, none⟩) (n5 - 1 - n) (c5 - n)] (w5.drewN (m + m2 + x)) fun e w'' => e = .returned (.bool true) ∧ ∃ y, w'' = w5.drewN (m + m2 + y) := fun x => by
    have sx := s4.sub (n + 1) (n4 - 1 - (n + 1)) (by omega)
    have sy := s5.sub n (n5 - 1 - n) (by omega)
    rw [Nat.zero_add] at sx sy
    refine (equal_two _ _ g4 g5 (n + 1) n (n4 - 1 - (n + 1)) (n5 - 1 - n) _ _ _ _ (w5.drewN (m + m2 + x)) (by omega) (by unfold maxLen; omega) (sx.drewN _) (sy.drewN _) (fun j hj => ?_)).mono ?_
    · show F (n + 1 + j) = G (n + j)
      rw [Nat.add_assoc, F2.out, G2.out, tokI_mid i (by rw [hk.out]; omega), tokH_mid i (by rw [hk.out]; omega)]
    · rintro e w'' ⟨rfl, m3, rfl⟩
      exact ⟨rfl, x + m3, by rw [World.drewN_drewN, Nat.add_assoc (m + m2)]⟩
  go_quiet ((go_at_call 11; exact hcall _))
  go_wp2_with fail
  have sz := s5.sub n (n5 - 1 - n) (by omega)
  rw [Nat.zero_add] at sz
  refine (decimal_any i h0 h1 (some ⟨g5, n, none⟩) g5 n (n5 - 1 - n) _ _ (w5.drewN (m + m2 + nq)) (by rw [hk.out]; omega) (by omega) (sz.drewN _) (fun j hj => ?_)).mono ?_
  · show G (n + j) = _
    rw [G2.out, tokH_mid i (by rw [hk.out]; omega)]
  rintro e w' ⟨rfl, rfl⟩
  go_wp2_with fail
  go_ret
  exact ⟨rfl, ⟨hfin.os, hfin.tape, hfin.output, hfin.size, hfin.block⟩⟩

end Go.Proofs.Qxb6619860aDoor
