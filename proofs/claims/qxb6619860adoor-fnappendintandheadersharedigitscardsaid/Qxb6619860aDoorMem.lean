/-
  MEMORY: slices of bytes that are read ('Sl'), slices of bytes that the call owns ('Own'); the walks of 'equalBytes', 'isDecimalOf', 'isIntToken'.
-/
import Derived.Test.Qxb6619860aDoorPlain
import Derived.Test.Qxb6619860aDoorProg
import Derived.WalkKit
import Derived.WalkLawsBesides
import Derived.Below
import Derived.Deep.LoopGhost
import Derived.Deep.QuietTactic
import Derived.BigQuiet
import Derived.Outline
namespace Go.Proofs.Qxb6619860aDoor
open Go.RowKit

/-- The slice at a, of n bytes, lies at ⟨g, o⟩ and holds the numbers F. -/
structure Sl (w : World) (a : Option Addr) (g o n : Nat) (F : Nat → Int) : Prop where
  addr : 0 < n → a = some ⟨g, o, none⟩
  cell : ∀ j, j < n → w.cell? ⟨g, o + j, none⟩ = some (.int .u8 (F j))
  num : ∀ j, 0 ≤ F j ∧ F j ≤ 255

theorem Sl.below {w w' : World} {a : Option Addr} {g o n : Nat} {F : Nat → Int} (h : Sl w a g o n F) {B : Nat} (hb : Below B w w') (hg : 0 < n → g < B) : Sl w' a g o n F :=
  ⟨h.addr, fun j hj => (hb.cell (p := ⟨g, o + j, none⟩) (hg (by omega))).trans (h.cell j hj), h.num⟩
theorem Sl.drewN {w : World} {a : Option Addr} {g o n : Nat} {F : Nat → Int} (h : Sl w a g o n F) (m : Nat) : Sl (w.drewN m) a g o n F :=
  ⟨h.addr, fun j hj => by have := h.cell j hj; simpa using this, h.num⟩
theorem Sl.sub {w : World} {a : Option Addr} {g o n : Nat} {F : Nat → Int} (h : Sl w a g o n F) (k m : Nat) (hk : k + m ≤ n) : Sl w (some ⟨g, o + k, none⟩) g (o + k) m (fun j => F (k + j)) :=
  ⟨fun _ => rfl, fun j hj => by rw [Nat.add_assoc]; exact h.cell (k + j) (by omega), fun j => h.num (k + j)⟩
theorem Sl.head {w : World} {a : Option Addr} {g o n : Nat} {F : Nat → Int} (h : Sl w a g o n F) (m : Nat) (hm : m ≤ n) : Sl w a g o m F :=
  ⟨fun hp => h.addr (by omega), fun j hj => h.cell j (by omega), h.num⟩
theorem Sl.congr {w : World} {a : Option Addr} {g o n : Nat} {F G : Nat → Int} (h : Sl w a g o n F) (e : ∀ j, j < n → F j = G j) (hG : ∀ j, 0 ≤ G j ∧ G j ≤ 255) : Sl w a g o n G :=
  ⟨h.addr, fun j hj => by rw [h.cell j hj, e j hj], hG⟩

/-- 'equalBytes', of two slices that hold the same. -/
theorem equal_any (a a' : Option Addr) (g g' o o' n c c' : Nat) (F F' : Nat → Int) (w : World) (hn : n ≤ maxLen) (h : Sl w a g o n F) (h' : Sl w a' g' o' n F') (he : ∀ j, j < n → F j = F' j) :
    Calls Tryd.prog 11 #[.slice a n c, .slice a' n c'] w fun e w' => e = .returned (.bool true) ∧ ∃ m, w.drewN m = w' := by
  unfold maxLen at hn
  have ha := h.addr
  have ha' := h'.addr
  go_enter Tryd.func11, Tryd.ntmps11
  go_wp2
  go_loopg [5] n (fun g s5 wx => ∃ k m : Nat, g = n - k ∧ k ≤ n ∧ s5 = .int .i64 k ∧ w.drewN m = wx)
  case atStart => exact ⟨0, 0, rfl, Nat.zero_le _, rfl, rfl⟩
  case round =>
    obtain ⟨k, m, hg, hk, rfl, rfl⟩ := hrel
    by_cases hlt : k < n
    · obtain rfl := ha (by omega)
      obtain rfl := ha' (by omega)
      have c1 := h.cell k hlt
      have c2 := h'.cell k hlt
      rw [← he k hlt] at c2
      have hl : (k : Int) < (n : Int) := by omega
      go_wp2
      go_quiet (fail)
      go_wp2
      go_roundg (n - (k + 1))
      case measure => omega
      case rel => exact ⟨k + 1, _, rfl, by omega, by go_num, rfl⟩
    · go_wp2
      go_ret
      exact ⟨rfl, m, rfl⟩

/-- One round of the reading. -/
theorem round_num {u n t : Nat} (hu : u ≤ 9223372036854775808) (ht : t < n) : (pre u n t : Int) * 10 + (dig u n t : Int) = (pre u n (t + 1) : Int) ∧ (pre u n (t + 1) : Int) ≤ 9223372036854775808 ∧ (dig u n t : Int) ≤ 9 ∧ 0 ≤ (dig u n t : Int) := by
  have h1 := pre_succ (u := u) ht
  have h2 := pre_le u n (t + 1)
  have h3 := dig_lt u n t
  omega

set_option maxRecDepth 100000 in
set_option maxHeartbeats 1000000 in
/-- 'isDecimalOf', of the numeral of a number that is not negative. -/
theorem decimal_pos (u : Nat) (hu : u ≤ 9223372036854775807) (a : Option Addr) (g o n c : Nat) (F : Nat → Int) (w : World) (hn : n = Lib.nDigits u) (hn64 : n ≤ 64) (h : Sl w a g o n F) (hF : ∀ t, t < n → F t = 48 + (dig u n t : Int)) :
    Calls Tryd.prog 15 #[.slice a n c, .int .i64 u] w fun e w' => e = .returned (.bool true) ∧ w = w' := by
  have hp := Lib.nDigits_pos u
  have hlt := Lib.lt_pow_nDigits u
  have hfz := @first_zero u
  rw [← hn] at hp hlt hfz
  obtain rfl := h.addr (by omega)
  have c0 : w.cell? ⟨g, o, none⟩ = some (.int .u8 (F 0)) := by simpa using h.cell 0 (by omega)
  have hF0 := hF 0 (by omega)
  have hd0 := dig_lt u n 0
  have hm : ((0 : Int) < (n : Int)) := by omega
  have e45 : (F 0 == 45) = false := by simp; omega
  have hne : ((0 : Int) == (n : Int)) = false := by simp; omega
  have hcase : (F 0 == 48) = false ∨ ((F 0 == 48) = true ∧ n ≤ 1) := by
    by_cases e : F 0 = 48
    · exact Or.inr ⟨by simp [e], by have := (hfz (by omega)).2; omega⟩
    · exact Or.inl (by simp [e])
  have hp0 : Hid (((pre u n 0 : Nat) : Int) = 0) := by show _ = _; rw [pre_zero hlt]; rfl
  have hpe : Hid (((pre u n n : Nat) : Int) = (u : Int)) := by show _ = _; rw [pre_end]
  have HF : Hid (∀ t, t < n → F t = 48 + (dig u n t : Int)) := hF
  clear hn hF0 hd0 hfz hlt hF
  rcases hcase with hz | ⟨hz, hn1⟩
  all_goals
    go_enter Tryd.func15, Tryd.ntmps15
    go_wp2
    go_loopg [7, 8] n (fun g s7 s8 wx => ∃ (t : Nat) (mg : Int), g = n - t ∧ t ≤ n ∧ s8 = .int .i64 t ∧ s7 = .int .u64 mg ∧ Hid (((pre u n t : Nat) : Int) = mg) ∧ w = wx)
    case atStart => exact ⟨0, 0, rfl, Nat.zero_le _, rfl, rfl, hp0, rfl⟩
    case round =>
      obtain ⟨t, mg, hg, ht, rfl, rfl, hmg, rfl⟩ := hrel
      by_cases hlt : t < n
      · have ct := h.cell t hlt
        obtain ⟨r1, r2, r3, r4⟩ := round_num (u := u) (n := n) (t := t) (by omega) hlt
        have hc := HF.out t hlt
        rw [hmg.out] at r1
        have q1 : 48 ≤ F t := by omega
        have q2 : F t ≤ 57 := by omega
        have q3 : 0 ≤ mg := by rw [← hmg.out]; omega
        have q4 : mg * 10 + (F t - 48) ≤ 9223372036854775808 := by omega
        have HR : Hid (((pre u n (t + 1) : Nat) : Int) = mg * 10 + (F t - 48)) := by show _ = _; omega
        clear r1 r2 r3 r4 hc
        go_wp2
        go_roundg (n - (t + 1))
        case measure => omega
        case rel => exact ⟨t + 1, _, rfl, by omega, by go_num, rfl, HR, rfl⟩
      · obtain rfl : t = n := by omega
        obtain rfl : mg = (u : Int) := by rw [← hmg.out, hpe.out]
        go_wp2
        go_ret
        exact ⟨rfl, rfl⟩

set_option maxRecDepth 100000 in
set_option maxHeartbeats 1000000 in
/-- 'isDecimalOf', of the numeral of a negative number. -/
theorem decimal_neg (u : Nat) (hu1 : 1 ≤ u) (hu : u ≤ 9223372036854775808) (a : Option Addr) (g o n c : Nat) (F : Nat → Int) (w : World) (hn : n = Lib.nDigits u) (hn64 : n ≤ 64) (h : Sl w a g o (n + 1) F) (h45 : F 0 = 45) (hF : ∀ t, t < n → F (t + 1) = 48 + (dig u n t : Int)) :
    Calls Tryd.prog 15 #[.slice a ((n + 1 : Nat)) c, .int .i64 (-(u : Int))] w fun e w' => e = .returned (.bool true) ∧ w = w' := by
  have hp := Lib.nDigits_pos u
  have hlt := Lib.lt_pow_nDigits u
  have hfz := @first_zero u
  rw [← hn] at hp hlt hfz
  obtain rfl := h.addr (by omega)
  have c0 : w.cell? ⟨g, o, none⟩ = some (.int .u8 (F 0)) := by simpa using h.cell 0 (by omega)
  rw [h45] at c0
  have c1 := h.cell 1 (by omega)
  have hF1 : F 1 = 48 + (dig u n 0 : Int) := hF 0 (by omega)
  have hd0 := dig_lt u n 0
  have hz : (F 1 == 48) = false := by
    have e : F 1 ≠ 48 := fun e => by have := (hfz (by omega)).1; omega
    simp [e]
  have hp0 : Hid (((pre u n 0 : Nat) : Int) = 0) := by show _ = _; rw [pre_zero hlt]; rfl
  have hpe : Hid (((pre u n n : Nat) : Int) = (u : Int)) := by show _ = _; rw [pre_end]
  have HF : Hid (∀ t, t < n → F (t + 1) = 48 + (dig u n t : Int)) := hF
  obtain ⟨N, hN⟩ : ∃ N, Hid (n + 1 = N) := ⟨_, rfl⟩
  rw [hN.out] at h ⊢
  have hN1 : N ≤ 65 := by have := hN.out; omega
  have hN2 : 2 ≤ N := by have := hN.out; omega
  have hm : ((0 : Int) < (N : Int)) := by omega
  have hm1 : ((1 : Int) < (N : Int)) := by omega
  have hne : ((1 : Int) == (N : Int)) = false := by simp; omega
  clear hn hF1 hd0 hfz hlt hF h45
  go_enter Tryd.func15, Tryd.ntmps15
  go_wp2
  go_loopg [7, 8] n (fun g s7 s8 wx => ∃ (t : Nat) (mg : Int), g = n - t ∧ t ≤ n ∧ s8 = .int .i64 ((t + 1 : Nat) : Int) ∧ s7 = .int .u64 mg ∧ Hid (((pre u n t : Nat) : Int) = mg) ∧ w = wx)
  case atStart => exact ⟨0, 0, rfl, Nat.zero_le _, rfl, rfl, hp0, rfl⟩
  case round =>
    obtain ⟨t, mg, hg, ht, rfl, rfl, hmg, rfl⟩ := hrel
    by_cases hlt : t < n
    · obtain ⟨r1, r2, r3, r4⟩ := round_num (u := u) (n := n) (t := t) (by omega) hlt
      have hc := HF.out t hlt
      obtain ⟨t', ht'⟩ : ∃ t', Hid (t + 1 = t') := ⟨_, rfl⟩
      have htN : t' < N := by have := hN.out; have := ht'.out; omega
      rw [ht'.out] at hc r1 r2 ⊢
      have ct := h.cell t' htN
      rw [hmg.out] at r1
      have q1 : 48 ≤ F t' := by omega
      have q2 : F t' ≤ 57 := by omega
      have q3 : 0 ≤ mg := by rw [← hmg.out]; omega
      have q4 : mg * 10 + (F t' - 48) ≤ 9223372036854775808 := by omega
      have HR : Hid (((pre u n (t + 1) : Nat) : Int) = mg * 10 + (F t' - 48)) := by show _ = _; rw [ht'.out]; omega
      clear r1 r2 r3 r4 hc
      go_wp2
      go_roundg (n - (t + 1))
      case measure => omega
      case rel => exact ⟨t + 1, _, rfl, by omega, by have := ht'.out; go_num, rfl, HR, rfl⟩
    · have htn : t = n := by omega
      obtain rfl : mg = (u : Int) := by rw [← hmg.out, htn, hpe.out]
      rw [htn, hN.out]
      have hv : -(u : Int) < 0 := by omega
      have hq : ((u : Int) == -(-(u : Int) + 1) + 1) = true := by simp; omega
      go_wp2
      go_ret
      exact ⟨rfl, rfl⟩

/-- 'isDecimalOf', of a number's numeral. -/
theorem decimal_any (v : Int) (h0 : -9223372036854775808 ≤ v) (h1 : v ≤ 9223372036854775807) (a : Option Addr) (g o n c : Nat) (F : Nat → Int) (w : World) (hn : n = (Lib.itoa v).length) (hn64 : n ≤ 64) (h : Sl w a g o n F) (hF : ∀ j, j < n → F j = bt (Lib.itoa v) j) :
    Calls Tryd.prog 15 #[.slice a n c, .int .i64 v] w fun e w' => e = .returned (.bool true) ∧ w = w' := by
  by_cases hneg : v < 0
  · obtain ⟨u, rfl⟩ : ∃ u : Nat, v = -(u : Int) := ⟨v.natAbs, by omega⟩
    have e : Lib.itoa (-(u : Int)) = 45 :: Lib.decDigits u := by unfold Lib.itoa; rw [if_pos hneg]; simp
    rw [e] at hn hF
    rw [List.length_cons, Lib.decDigits_length] at hn
    obtain rfl := hn
    refine decimal_neg u (by omega) (by omega) a g o _ c F w rfl (by omega) h ?_ fun t ht => ?_
    · rw [hF 0 (by omega), bt_cons_zero]; rfl
    · rw [hF (t + 1) (by omega), bt_cons_succ, bt_decDigits u t ht]
  · obtain ⟨u, rfl⟩ : ∃ u : Nat, v = (u : Int) := ⟨v.toNat, by omega⟩
    have e : Lib.itoa (u : Int) = Lib.decDigits u := by unfold Lib.itoa; rw [if_neg hneg]; simp
    rw [e] at hn hF
    rw [Lib.decDigits_length] at hn
    obtain rfl := hn
    refine decimal_pos u (by omega) a g o _ c F w rfl (by omega) h fun t ht => ?_
    rw [hF t ht, bt_decDigits u t ht]

end Go.Proofs.Qxb6619860aDoor
