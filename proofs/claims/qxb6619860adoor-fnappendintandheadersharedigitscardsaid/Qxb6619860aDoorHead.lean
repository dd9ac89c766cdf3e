/-
  THE WALK OF 'FnAppendStringHeaderKeepsPrefixAndWritesCanonicalHeader'.
-/
import Derived.Test.Qxb6619860aDoorTok
namespace Go.Proofs.Qxb6619860aDoor
open Go.RowKit

/-- The table that the row lists, and what keeps it. -/
abbrev Tab (B : Nat) (w : World) : Prop := Lib.TabBelow Tryd.prog B w powName .u64 Lib.pow10Tab

theorem tab_size {w : World} {B : Nat} (h : Tab B w) : Tab w.heap.size w := Lib.tabBelow_of_tabIs h.here

theorem equal_two (a a' : Option Addr) (g g' o o' n n' c c' : Nat) (F F' : Nat → Int) (w : World) (hnn : n = n') (hn : n ≤ maxLen) (h : Sl w a g o n F) (h' : Sl w a' g' o' n' F') (he : ∀ j, j < n → F j = F' j) :
    Calls Tryd.prog 11 #[.slice a n c, .slice a' n' c'] w fun e w' => e = .returned (.bool true) ∧ ∃ m, w.drewN m = w' := by
  subst hnn
  exact equal_any a a' g g' o o' n c c' F F' w hn h h' he

theorem bytes13 (i : Int) (a : Option Addr) (n c : Nat) (w : World) (hn : n ≤ maxLen) :
    Calls Tryd.prog 13 #[.slice a n c, .int .i64 i] w fun e w' => e = .returned (.bool (decide (n ≤ 1048576))) ∧ w = w' := by
  unfold maxLen at hn
  by_cases h : n ≤ 1048576
  · rw [decide_eq_true h]
    go_enter Tryd.func13, Tryd.ntmps13
    go_wp2
    go_ret
    exact ⟨rfl, rfl⟩
  · rw [decide_eq_false h]
    go_enter Tryd.func13, Tryd.ntmps13
    go_wp2
    go_ret
    exact ⟨rfl, rfl⟩

theorem head_long (i : Int) (a : Option Addr) (n c : Nat) (w : World) (hn : n ≤ maxLen) (hl : 1048576 < n) :
    Calls Tryd.prog 5 #[.slice a n c, .int .i64 i] w fun e w' => e = .returned (.bool true) ∧ w = w' := by
  have hb := bytes13 i a n c w hn
  rw [decide_eq_false (by omega)] at hb
  go_enter Tryd.func5, Tryd.ntmps5
  go_wp2_with (go_at_call 13; refine hb.mono ?_; rintro e w' ⟨rfl, rfl⟩)
  go_ret
  exact ⟨rfl, rfl⟩

set_option maxRecDepth 100000 in
set_option maxHeartbeats 1000000 in
theorem head_walk (i : Int) (h0 : -9223372036854775808 ≤ i) (h1 : i ≤ 9223372036854775807) (a : Option Addr) (g o n c : Nat) (l : List UInt8) (w : World) (hn : n ≤ 1048576) (hl : n = l.length) (hnil : a = none → n = 0 ∧ c = 0) (h : Sl w a g o n (bt l)) (hg : 0 < n → g < w.heap.size) (htab : Tab w.heap.size w) :
    Calls Tryd.prog 5 #[.slice a n c, .int .i64 i] w fun e w' => e = .returned (.bool true) ∧ Below w.heap.size w w' := by
  have hb := bytes13 i a n c w (by unfold maxLen; omega)
  rw [decide_eq_true hn] at hb
  have hcl1 := clone_any a g o n c l w hn hl hnil h hg
  have HL : Hid (n = l.length) := hl
  clear hl
  go_enter Tryd.func5, Tryd.ntmps5
  go_wp2_with (go_at_call 13; refine hb.mono ?_; rintro e w' ⟨rfl, rfl⟩)
  -- want := cloneBytes(b)
  refine hcl1.mono ?_
  rintro e w1 ⟨a1, c1, rfl, ho1, hb1⟩
  have ht1 : Tab w1.heap.size w1 := tab_size (htab.on hb1)
  go_wp2_with fail
  -- b = cloneBytes(b)
  refine (clone_any a g o n c l w1 hn HL.out hnil (h.below hb1 hg) (fun hp => Nat.lt_of_lt_of_le (hg hp) hb1.size)).mono ?_
  rintro e w2 ⟨a2, c2, rfl, ho2, hb2⟩
  go_wp2_with fail
  -- got := AppendStringHeader(b, n)
  refine (header_any w1.heap.size i h0 h1 a2 n c2 l w2 ho2 hb2.size (by omega) (ht1.on hb2)).mono ?_
  rintro e w3 ⟨a3, n3, c3, rfl, ho3, hb3⟩
  go_wp2_with fail
  -- alone := AppendStringHeader(nil, n)
  refine (header_any w3.heap.size i h0 h1 none 0 0 [] w3 (own_nil _ _) (Nat.le_refl _) (by omega) (tab_size ((ht1.on hb2).on hb3))).mono ?_
  rintro e w4 ⟨a4, n4, c4, rfl, ho4, hb4⟩
  rw [List.nil_append] at ho4
  have hb24 : Below w1.heap.size w1 w4 := (hb2.trans hb3).trans (hb4.mono (by have := hb2.size; have := hb3.size; omega))
  have hfin : Below w.heap.size w w4 := hb1.trans (hb24.mono hb1.size)
  have hq1 := ho1.below hb24 (Nat.le_refl _)
  have hq3 := ho3.below hb4 (Nat.le_refl _)
  have hlen := Lib.itoa_length_le i h0 h1
  have e3 : n3 = n + n4 := by rw [hq3.1, ho4.1, List.length_append, ← HL.out]
  have e4 : n4 = (Lib.itoa i).length + 1 := by rw [ho4.1, length_tokH]
  obtain ⟨g1, s1, _, m1, m1'⟩ := hq1.sl
  obtain ⟨g3, s3, _, m3, m3'⟩ := hq3.sl
  obtain ⟨g4, s4, _, m4, m4'⟩ := ho4.sl
  obtain rfl := s3.addr (by omega)
  obtain rfl := s4.addr (by omega)
  clear ho1 ho2 ho3 ho4 hq1 hq3 hb1 hb2 hb3 hb4 hb24 ht1 hcl1
  unfold maxLen at m1' m3' m4'
  have cl : w4.cell? ⟨g4, n4 - 1, none⟩ = some (.int .u8 58) := by
    have := s4.cell (n4 - 1) (by omega)
    rw [Nat.zero_add] at this
    rw [this, show n4 - 1 = (Lib.itoa i).length by omega, tokH_last]
  have kd := fun cc => decimal_any i h0 h1 (some ⟨g4, 0, none⟩) g4 0 (n4 - 1) cc (bt (tokH i)) w4 (by omega) (by omega) (s4.head (n4 - 1) (by omega)) (fun j hj => tokH_mid i (by omega))
  have i1 : (n3 : Int) ≤ (n : Int) + (n4 : Int) := by omega
  have i2 : (n : Int) + (n4 : Int) ≤ (n3 : Int) := by omega
  have i3 : 1 ≤ (n4 : Int) := by omega
  have i4 : (n4 : Int) ≤ 30 := by omega
  have E3 : Hid (n3 = n + n4) := e3
  have E4 : Hid (n4 = (Lib.itoa i).length + 1) := e4
  clear e3 e4 hlen
  go_wp2_with (go_at_call 15; refine (kd _).mono ?_; rintro e w' ⟨rfl, rfl⟩)
  refine (equal_two _ _ g3 g1 0 0 n n _ _ (bt (l ++ tokH i)) (bt l) w4 rfl (by unfold maxLen; omega) (s3.head n (by omega)) s1 (fun j hj => bt_append_left _ _ (by have := HL.out; omega))).mono ?_
  rintro e w5 ⟨rfl, m, rfl⟩
  have jn : ¬ c3 = n := by have := E3.out; omega
  go_wp2_with fail
  have sx := s3.sub n (n3 - n) (by omega)
  rw [Nat.zero_add] at sx
  refine (equal_two _ _ g3 g4 n 0 (n3 - n) n4 _ _ _ (bt (tokH i)) (w4.drewN m) (by have := E3.out; omega) (by unfold maxLen; omega) (sx.drewN m) (s4.drewN m) (fun j hj => by show bt (l ++ tokH i) (n + j) = _; rw [HL.out, bt_append_right])).mono ?_
  rintro e w6 ⟨rfl, m', rfl⟩
  go_wp2_with fail
  go_ret
  exact ⟨rfl, ⟨hfin.os, hfin.tape, hfin.output, hfin.size, hfin.block⟩⟩

end Go.Proofs.Qxb6619860aDoor
