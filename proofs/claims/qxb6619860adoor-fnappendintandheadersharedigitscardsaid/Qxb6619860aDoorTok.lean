/-
  THE WALKS OF 'isIntToken', 'cloneBytes', 'AppendInt', 'AppendStringHeader'.
-/
import Derived.Test.Qxb6619860aDoorMem
import Derived.Test.Qxb6619860aDoorShelf
import Derived.Deep.OwnRows
import Derived.OwnWalk
import Derived.Lib.ItoaLen
namespace Go.Proofs.Qxb6619860aDoor
open Go.RowKit

/-- 'i', the numeral, 'e'. -/
def tokI (v : Int) : List UInt8 := 105 :: (Lib.itoa v ++ [101])
/-- The numeral, ':'. -/
def tokH (v : Int) : List UInt8 := Lib.itoa v ++ [58]

theorem length_tokI (v : Int) : (tokI v).length = (Lib.itoa v).length + 2 := by simp [tokI]
theorem length_tokH (v : Int) : (tokH v).length = (Lib.itoa v).length + 1 := by simp [tokH]
theorem tokI_zero (v : Int) : bt (tokI v) 0 = 105 := rfl
theorem tokI_mid (v : Int) {j : Nat} (h : j < (Lib.itoa v).length) : bt (tokI v) (1 + j) = bt (Lib.itoa v) j := by
  rw [Nat.add_comm]; unfold tokI; rw [bt_cons_succ, bt_append_left _ _ h]
theorem tokI_last (v : Int) : bt (tokI v) ((Lib.itoa v).length + 1) = 101 := by
  unfold tokI; rw [bt_cons_succ]; have := bt_append_right (Lib.itoa v) [101] 0; rw [Nat.add_zero] at this; rw [this]; rfl
theorem tokH_mid (v : Int) {j : Nat} (h : j < (Lib.itoa v).length) : bt (tokH v) j = bt (Lib.itoa v) j := by
  unfold tokH; rw [bt_append_left _ _ h]
theorem tokH_last (v : Int) : bt (tokH v) (Lib.itoa v).length = 58 := by
  unfold tokH; have := bt_append_right (Lib.itoa v) [58] 0; rw [Nat.add_zero] at this; rw [this]; rfl

/-- 'isIntToken', of a number's token. -/
theorem token_any (v : Int) (h0 : -9223372036854775808 ≤ v) (h1 : v ≤ 9223372036854775807) (a : Option Addr) (g o n c k : Nat) (w : World) (hk : k = (Lib.itoa v).length) (hk64 : k ≤ 60) (hn : n = k + 2) (hc : n ≤ c) (hc2 : c ≤ maxLen) (h : Sl w a g o n (bt (tokI v))) :
    Calls Tryd.prog 10 #[.slice a n c, .int .i64 v] w fun e w' => e = .returned (.bool true) ∧ w = w' := by
  unfold maxLen at hc2
  obtain rfl := h.addr (by omega)
  have c0 : w.cell? ⟨g, o, none⟩ = some (.int .u8 105) := by have := h.cell 0 (by omega); rwa [Nat.add_zero, tokI_zero] at this
  have ce : w.cell? ⟨g, o + (n - 1), none⟩ = some (.int .u8 101) := by
    have := h.cell (n - 1) (by omega)
    rwa [show n - 1 = k + 1 by omega, hk, tokI_last, ← hk, show k + 1 = n - 1 by omega] at this
  have hd := fun cc => decimal_any v h0 h1 (some ⟨g, o + 1, none⟩) g (o + 1) (n - 1 - 1) cc (fun j => bt (tokI v) (1 + j)) w (by omega) (by omega) (h.sub 1 (n - 1 - 1) (by omega)) (fun j hj => tokI_mid v (by omega))
  have hn2 : ¬ (n : Int) < 2 := by omega
  have hl0 : (0 : Int) < (n : Int) := by omega
  have HN : Hid (n = k + 2) := hn
  clear hn hk
  go_enter Tryd.func10, Tryd.ntmps10
  go_wp2_with (go_at_call 15; refine (hd _).mono ?_; rintro e w' ⟨rfl, rfl⟩)
  go_ret
  exact ⟨rfl, rfl⟩

/-- The call owns the slice at a, of n bytes, which are l's; its block is one from B on. -/
def Own (w : World) (B : Nat) (a : Option Addr) (n c : Nat) (l : List UInt8) : Prop := n = l.length ∧ w.ownsRow B 5 1 (.slice a n c) n (Lib.byteCells l)

theorem own_nil (w : World) (B : Nat) : Own w B none 0 0 [] := ⟨rfl, World.ownsRow_nil _ _ _ _⟩

theorem byteCells_at (l : List UInt8) (j : Nat) (h : j < l.length) : (Lib.byteCells l)[j]? = some (.int .u8 (bt l j)) := by
  unfold Lib.byteCells bt
  rw [List.getElem?_map, List.getElem?_eq_getElem h, List.getD_eq_getElem?_getD, List.getElem?_eq_getElem h]
  rfl

theorem Own.sl {w : World} {B : Nat} {a : Option Addr} {n c : Nat} {l : List UInt8} (h : Own w B a n c l) : ∃ g, Sl w a g 0 n (bt l) ∧ (0 < n → B ≤ g ∧ g < w.heap.size) ∧ n ≤ c ∧ c ≤ maxLen := by
  obtain ⟨hn, _, h2⟩ := h
  rcases h2 with ⟨hv, h0⟩ | ⟨g, cap, cur, hv, hb, hg, hc, hm, hs, ht⟩
  · cases hv
    exact ⟨0, ⟨fun h => absurd h (by omega), fun j hj => absurd hj (by omega), bt_range l⟩, fun h => absurd h (by omega), Nat.le_refl _, by unfold maxLen; omega⟩
  · cases hv
    refine ⟨g, ⟨fun _ => rfl, fun j hj => ?_, bt_range l⟩, fun _ => ⟨hb, (Array.getElem?_eq_some_iff.1 hg).1⟩, hc, hm⟩
    have e : (cur.toList.take (n * 1))[j]? = some (.int .u8 (bt l j)) := by rw [ht]; exact byteCells_at l j (by omega)
    rw [List.getElem?_take_of_lt (by omega)] at e
    simp [World.cell?, hg]
    simpa using e

theorem Own.below {w w' : World} {B B' : Nat} {a : Option Addr} {n c : Nat} {l : List UInt8} (h : Own w B a n c l) (hb : Below B' w w') (hB : w.heap.size ≤ B') : Own w' B a n c l := by
  obtain ⟨hn, h1, h2⟩ := h
  refine ⟨hn, h1, ?_⟩
  rcases h2 with h2 | ⟨g, cap, cur, hv, hbg, hg, r⟩
  · exact Or.inl h2
  · exact Or.inr ⟨g, cap, cur, hv, hbg, (hb.block g (Nat.lt_of_lt_of_le (Array.getElem?_eq_some_iff.1 hg).1 hB)).trans hg, r⟩

theorem info5 : (Tryd.prog.info? 5).map (fun i => (i.zero, i.size, i.bytes)) = some (some (.int .u8 0), 1, 1) := by kernel_rfl
theorem eqNil (a : Addr) (n c : Nat) (w : World) : (binOp .eql 22 (.slice (some a) n c) (.slice none 0 0)).run Tryd.prog w = .ok (.bool false) w := by kernel_rfl

/-- A row whose cells are l's bytes is owned. -/
theorem own_of_row {w : World} {B g n : Nat} {l : List UInt8} {f : Nat → Value} (h : w.rowIs g 5 n f) (hl : n = l.length) (hf : ∀ j, j < n → f j = .int .u8 (bt l j)) (hB : B ≤ g) (hn : n ≤ maxLen) : Own w B (some ⟨g, 0, none⟩) n n l := by
  obtain ⟨c, hb, hs, hc⟩ := h
  refine ⟨hl, by rw [Lib.byteCells_length]; omega, Or.inr ⟨g, n, c, rfl, hB, hb, Nat.le_refl _, hn, by omega, ?_⟩⟩
  apply List.ext_getElem?
  intro j
  by_cases hj : j < n
  · rw [List.getElem?_take_of_lt (by omega), byteCells_at l j (by omega), ← hf j hj, ← hc j hj]
    simp
  · rw [List.getElem?_eq_none (by rw [List.length_take]; omega), List.getElem?_eq_none (by rw [Lib.byteCells_length]; omega)]

set_option maxRecDepth 100000 in
set_option maxHeartbeats 400000 in
/-- 'cloneBytes' -/
theorem clone_any (a : Option Addr) (g o n c : Nat) (l : List UInt8) (w : World) (hn : n ≤ 1048576) (hl : n = l.length) (hnil : a = none → n = 0 ∧ c = 0) (h : Sl w a g o n (bt l)) (hg : 0 < n → g < w.heap.size) :
    Calls Tryd.prog 8 #[.slice a n c] w fun e w' => ∃ a' c', e = .returned (.slice a' n c') ∧ Own w' w.heap.size a' n c' l ∧ Below w.heap.size w w' := by
  cases a with
  | none =>
    obtain ⟨rfl, rfl⟩ := hnil rfl
    obtain rfl : l = [] := List.eq_nil_of_length_eq_zero hl.symm
    clear hl hnil hg h
    have hq0 : ∀ w, (binOp .eql 22 (.slice none 0 0) (.slice none 0 0)).run Tryd.prog w = .ok (.bool true) w := fun _ => by kernel_rfl
    go_enter Tryd.func8, Tryd.ntmps8
    go_wp2
    go_ret
    exact ⟨none, 0, rfl, own_nil _ _, Below.refl _ _⟩
  | some x =>
    have hq := eqNil x n c
    have hmk := fun w => run_make_row' (P := Tryd.prog) 22 5 (.int .u8 0) 1 Tryd.underlying22 info5 rfl .i64 .i64 n (by omega) (by omega) w
    have ha := h.addr
    have HL : Hid (n = l.length) := hl
    clear hl hnil
    obtain ⟨F, hF⟩ : ∃ F : Nat → Int, Hid (bt l = F) := ⟨_, rfl⟩
    rw [hF.out] at h
    go_enter Tryd.func8, Tryd.ntmps8
    go_wp2
    go_loopg [4] n (fun g s4 wx => ∃ (k : Nat) (f : Nat → Value), g = n - k ∧ k ≤ n ∧ s4 = .int .i64 k ∧ wx.rowIs w.heap.size 5 n f ∧ (∀ j, j < k → f j = .int .u8 (F j)) ∧ (∀ j, k ≤ j → f j = .int .u8 0) ∧ Below w.heap.size w wx)
    case atStart => exact ⟨0, fun _ => .int .u8 0, rfl, Nat.zero_le _, rfl, World.rowIs_made w (.int .u8 0) n 5, fun j hj => by omega, fun j _ => rfl, (Below.refl _ _).alloc (Nat.le_refl _) _⟩
    case round =>
      obtain ⟨k, f, hgk, hk, rfl, hrow, hlo, hhi, hbel⟩ := hrel
      by_cases hlt : k < n
      · obtain rfl : x = ⟨g, o, none⟩ := by have := ha (by omega); cases this; rfl
        have hck : wr.cell? ⟨g, o + k, none⟩ = some (.int .u8 (F k)) := (hbel.cell (p := ⟨g, o + k, none⟩) (hg (by omega))).trans (h.cell k hlt)
        have hco : wr.cell? ⟨w.heap.size, k, none⟩ = some (.int .u8 0) := by rw [hrow.cell hlt, hhi k (Nat.le_refl _)]
        have hfo := hrow.frozen k
        have HF : Hid (∀ j, j < k → f j = .int .u8 (F j)) := hlo
        have HG : Hid (∀ j, k ≤ j → f j = .int .u8 0) := hhi
        clear hlo hhi
        go_wp2
        go_roundg (n - (k + 1))
        case measure => omega
        case rel =>
          refine ⟨k + 1, _, rfl, by omega, by go_num, hrow.set k _, fun j hj => ?_, fun j hj => ?_, hbel.setCell (Nat.le_refl _) _⟩
          · show (if j = k then _ else f j) = _
            by_cases e : j = k
            · subst e; rw [if_pos rfl]
            · rw [if_neg e]; exact HF.out j (by omega)
          · show (if j = k then _ else f j) = _
            rw [if_neg (by omega)]; exact HG.out j (by omega)
      · have hown := own_of_row (B := w.heap.size) (l := l) hrow HL.out (fun j hj => by rw [hlo j (by omega), hF.out]) (Nat.le_refl _) (by unfold maxLen; omega)
        clear hlo hhi
        go_wp2
        go_ret
        exact ⟨_, _, rfl, hown, hbel⟩

theorem own_shape {w : World} {B : Nat} {v : Value} {n : Nat} {xs : List Value} (h : w.ownsRow B 5 1 v n xs) : ∃ a c, v = .slice a n c := by
  rcases h.2 with ⟨rfl, rfl⟩ | ⟨g, cap, cur, rfl, _⟩
  · exact ⟨none, 0, rfl⟩
  · exact ⟨_, _, rfl⟩

theorem byteCells_append (l m : List UInt8) : Lib.byteCells (l ++ m) = Lib.byteCells l ++ Lib.byteCells m := by simp [Lib.byteCells]

set_option maxRecDepth 100000 in
set_option maxHeartbeats 1000000 in
/-- 'bencode.AppendInt' -/
theorem append_any (B : Nat) (i : Int) (h0 : -9223372036854775808 ≤ i) (h1 : i ≤ 9223372036854775807) (a : Option Addr) (n c : Nat) (l : List UInt8) (w : World) (hO : Own w B a n c l) (hBw : B ≤ w.heap.size) (hlim : n ≤ 4000000)
    (htab : Lib.TabBelow Tryd.prog B w powName .u64 Lib.pow10Tab) :
    Calls Tryd.prog 9 #[.slice a n c, .int .i64 i] w fun e w' => ∃ a' n' c', e = .returned (.slice a' n' c') ∧ Own w' B a' n' c' (l ++ tokI i) ∧ Below B w w' := by
  obtain ⟨i0, hi, hz0, hz1, hz2⟩ := info_parts info5
  obtain ⟨hn, hown⟩ := hO
  have HN : Hid (n = l.length) := hn
  clear hn
  have hlen := Lib.itoa_length_le i h0 h1
  go_enter Tryd.func9, Tryd.ntmps9
  go_wp2_with (at_builtin; refine wpList_append_own _ rfl _ _ 22 rfl B 5 i0 (.int .u8 0) 1 1 Tryd.underlying22 hi hz0 hz1 hz2 rfl (by decide) _ _ _ rfl (hown.alloc _) ⟨w.heap.size, 0, none⟩ 1 1 [Value.int .u8 105] rfl rfl (by intro j u' hj; match j, hj with | 0, hj => simp at hj; subst hj; simp [Addr.add]) (by intro u' hu'; simp at hu'; subst hu'; rfl) (by unfold maxLen; omega) (by omega) (by simp; omega) ?_)
  intro v1 w1 hown1 hgrow1 _
  have hnx1 : Below B w w1 := ((Below.refl B w).alloc hBw _).grown hgrow1 (by simp; omega) (fun k hk => (hown.lt k hk).1)
  have hB1 : B ≤ w1.heap.size := by have := hnx1.size; omega
  go_wp2_with (first
    | (go_at_call 17; refine (appendInt_shelf B (n + 1) i h0 h1 v1 _ w1 hown1 hB1 (by omega) (htab.on hnx1)).mono ?_; rintro e w2 ⟨v2, rfl, hown2, hnx2, _⟩; have hB2 : B ≤ w2.heap.size := by (have := hnx2.size; omega))
    | (at_builtin; refine wpList_append_own _ rfl _ _ 22 rfl B 5 i0 (.int .u8 0) 1 1 Tryd.underlying22 hi hz0 hz1 hz2 rfl (by decide) _ _ _ rfl (hown2.alloc _) ⟨w2.heap.size, 0, none⟩ 1 1 [Value.int .u8 101] rfl rfl (by intro j u' hj; match j, hj with | 0, hj => simp at hj; subst hj; simp [Addr.add]) (by intro u' hu'; simp at hu'; subst hu'; rfl) (by unfold maxLen; omega) (by omega) (by simp; omega) ?_; intro v3 w3 hown3 hgrow3 _))
  go_ret
  obtain ⟨a', c', rfl⟩ := own_shape hown3
  refine ⟨a', _, c', rfl, ⟨?_, ?_⟩, (hnx1.trans hnx2).trans (((Below.refl B w2).alloc hB2 _).grown hgrow3 (by simp; omega) (fun k hk => (hown2.lt k hk).1))⟩
  · rw [List.length_append, length_tokI, ← HN.out]; omega
  · have e : Lib.byteCells (l ++ tokI i) = Lib.byteCells l ++ [Value.int .u8 105] ++ Lib.byteCells (Lib.itoa i) ++ [Value.int .u8 101] := by simp [tokI, Lib.byteCells]
    rw [e]
    exact hown3

set_option maxRecDepth 100000 in
set_option maxHeartbeats 1000000 in
/-- 'bencode.AppendStringHeader' -/
theorem header_any (B : Nat) (i : Int) (h0 : -9223372036854775808 ≤ i) (h1 : i ≤ 9223372036854775807) (a : Option Addr) (n c : Nat) (l : List UInt8) (w : World) (hO : Own w B a n c l) (hBw : B ≤ w.heap.size) (hlim : n ≤ 4000000)
    (htab : Lib.TabBelow Tryd.prog B w powName .u64 Lib.pow10Tab) :
    Calls Tryd.prog 14 #[.slice a n c, .int .i64 i] w fun e w' => ∃ a' n' c', e = .returned (.slice a' n' c') ∧ Own w' B a' n' c' (l ++ tokH i) ∧ Below B w w' := by
  obtain ⟨i0, hi, hz0, hz1, hz2⟩ := info_parts info5
  obtain ⟨hn, hown⟩ := hO
  have HN : Hid (n = l.length) := hn
  clear hn
  have hlen := Lib.itoa_length_le i h0 h1
  go_enter Tryd.func14, Tryd.ntmps14
  go_wp2_with (first
    | (go_at_call 17; refine (appendInt_shelf B n i h0 h1 _ _ w hown hBw (by omega) htab).mono ?_; rintro e w2 ⟨v2, rfl, hown2, hnx2, _⟩; have hB2 : B ≤ w2.heap.size := by (have := hnx2.size; omega))
    | (at_builtin; refine wpList_append_own _ rfl _ _ 22 rfl B 5 i0 (.int .u8 0) 1 1 Tryd.underlying22 hi hz0 hz1 hz2 rfl (by decide) _ _ _ rfl (hown2.alloc _) ⟨w2.heap.size, 0, none⟩ 1 1 [Value.int .u8 58] rfl rfl (by intro j u' hj; match j, hj with | 0, hj => simp at hj; subst hj; simp [Addr.add]) (by intro u' hu'; simp at hu'; subst hu'; rfl) (by unfold maxLen; omega) (by omega) (by simp; omega) ?_; intro v3 w3 hown3 hgrow3 _))
  go_ret
  obtain ⟨a', c', rfl⟩ := own_shape hown3
  refine ⟨a', _, c', rfl, ⟨?_, ?_⟩, hnx2.trans (((Below.refl B w2).alloc hB2 _).grown hgrow3 (by simp; omega) (fun k hk => (hown2.lt k hk).1))⟩
  · rw [List.length_append, length_tokH, ← HN.out]; omega
  · have e : Lib.byteCells (l ++ tokH i) = Lib.byteCells l ++ Lib.byteCells (Lib.itoa i) ++ [Value.int .u8 58] := by simp [tokH, Lib.byteCells]
    rw [e]
    exact hown3

end Go.Proofs.Qxb6619860aDoor
