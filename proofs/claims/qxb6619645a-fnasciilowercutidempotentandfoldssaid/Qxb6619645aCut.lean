/-
  THE WALK OF 'FnAsciiLowerCutIdempotentAndFolds'.
-/
import Derived.Test.Qxb6619645aLower
import Derived.Deep.DeepCutAuto
import Derived.Deep.RegionWith
import Derived.WalkSpells
namespace Go.Proofs.Qxb6619645a
open Go.RowKit

theorem bytes6 (s : ByteArray) (k : Int) (w : World) (hn : s.size ≤ maxLen) :
    Calls Try.prog 6 #[.string s, .int .i64 k] w fun e w' => e = .returned (.bool (decide (s.size ≤ 1048576))) ∧ w = w' := by
  unfold maxLen at hn
  by_cases h : s.size ≤ 1048576
  · rw [decide_eq_true h]
    go_enter Try.func6, Try.ntmps6
    go_wp2
    go_ret
    exact ⟨rfl, rfl⟩
  · rw [decide_eq_false h]
    go_enter Try.func6, Try.ntmps6
    go_wp2
    go_ret
    exact ⟨rfl, rfl⟩

/-- 'isCapital' -/
theorem capital_yes (c : Int) (w : World) (h0 : 65 ≤ c) (h1 : c ≤ 90) : Calls Try.prog 8 #[.int .u8 c] w fun e w' => e = .returned (.bool true) ∧ w = w' := by
  go_enter Try.func8, Try.ntmps8
  go_wp2
  go_ret
  exact ⟨rfl, rfl⟩
theorem capital_no (c : Int) (w : World) (h : ¬ (65 ≤ c ∧ c ≤ 90)) : Calls Try.prog 8 #[.int .u8 c] w fun e w' => e = .returned (.bool false) ∧ w = w' := by
  by_cases h0 : 65 ≤ c
  · have h1 : ¬ c ≤ 90 := fun h1 => h ⟨h0, h1⟩
    clear h
    go_enter Try.func8, Try.ntmps8
    go_wp2
    go_ret
    exact ⟨rfl, rfl⟩
  · clear h
    go_enter Try.func8, Try.ntmps8
    go_wp2
    go_ret
    exact ⟨rfl, rfl⟩

theorem cut_long (s : ByteArray) (k : Int) (w : World) (hs : s.size ≤ maxLen) (hl : 1048576 < s.size) :
    Calls Try.prog 3 #[.string s, .int .i64 k] w fun e w' => e = .returned (.bool true) ∧ w = w' := by
  have hb := bytes6 s k w hs
  rw [decide_eq_false (by omega)] at hb
  go_enter Try.func3, Try.ntmps3
  go_wp2_with (go_at_call 6; refine hb.mono ?_; rintro e w' ⟨rfl, rfl⟩)
  go_ret
  exact ⟨rfl, rfl⟩

theorem cut_out (s : ByteArray) (k : Int) (w : World) (hs : s.size ≤ 1048576) (hk : k < 0 ∨ (s.size : Int) < k) :
    Calls Try.prog 3 #[.string s, .int .i64 k] w fun e w' => e = .returned (.bool true) ∧ w = w' := by
  have hb := bytes6 s k w (by unfold maxLen; omega)
  rw [decide_eq_true hs] at hb
  rcases hk with hk | hk
  · go_enter Try.func3, Try.ntmps3
    go_wp2_with (go_at_call 6; refine hb.mono ?_; rintro e w' ⟨rfl, rfl⟩)
    go_ret
    exact ⟨rfl, rfl⟩
  · have hk0 : ¬ k < 0 := by omega
    go_enter Try.func3, Try.ntmps3
    go_wp2_with (go_at_call 6; refine hb.mono ?_; rintro e w' ⟨rfl, rfl⟩)
    go_ret
    exact ⟨rfl, rfl⟩

theorem or32_all : ∀ n : Fin 26, bits BinOp.or IntKind.u8 (65 + (n.val : Int)) 32 = 97 + (n.val : Int) := by decide
theorem or32 {c : Int} (h0 : 65 ≤ c) (h1 : c ≤ 90) : bits BinOp.or IntKind.u8 c 32 = c + 32 := by
  have h := or32_all ⟨(c - 65).toNat, by omega⟩
  have e : (65 : Int) + ((c - 65).toNat : Int) = c := by omega
  simp only [e] at h
  omega

set_option maxHeartbeats 1000000 in
theorem cut_walk (s : ByteArray) (k : Nat) (w : World) (hs : s.size ≤ 1048576) (hk : k ≤ s.size) :
    Calls Try.prog 3 #[.string s, .int .i64 k] w fun e w' => e = .returned (.bool true) ∧ Below w.heap.size w w' := by
  have hb := bytes6 s k w (by unfold maxLen; omega)
  rw [decide_eq_true hs] at hb
  have hex : ∀ i j, (s.extract i j).size ≤ maxLen := fun i j => by rw [ByteArray.size_extract]; unfold maxLen; omega
  have hlow := zzlower_any s w (by unfold maxLen; omega)
  obtain ⟨l, hl⟩ : ∃ l, Hid (lowB s = l) := ⟨_, rfl⟩
  rw [hl.out] at hlow
  have hlz : l.size = s.size := by rw [← hl.out, size_lowB]
  have hxx : (s.extract 0 k).size + (s.extract k s.size).size = s.size := by rw [ByteArray.size_extract, ByteArray.size_extract]; omega
  have hadd : lowB (s.extract 0 k) ++ lowB (s.extract k s.size) = l := by rw [lowB_append, extract_append, hl.out]
  have hz1 : (lowB (s.extract 0 k)).size ≤ 1048576 := by rw [size_lowB]; omega
  have hz2 : (lowB (s.extract k s.size)).size ≤ 1048576 := by rw [size_lowB]; omega
  clear hxx
  go_enter Try.func3, Try.ntmps3
  go_upto_region 10 with (first
    | (go_at_call 6; refine hb.mono ?_; rintro e w' ⟨rfl, rfl⟩)
    | (go_at_call 7; refine hlow.mono ?_; rintro e w1 ⟨rfl, hb1⟩))
  go_cut [41] (fun s41 wc => s41 = .bool false ∧ Below w.heap.size w wc)
  case first =>
    have hB := hb1
    go_region_with (go_at_call 7; refine (zzlower_any _ _ (hex _ _)).mono ?_; rintro e w' ⟨rfl, hb2⟩; replace hB := Below.trans (b := _) (by exact ⟨hB.os, hB.tape, hB.output, hB.size, hB.block⟩) (hb2.mono (B' := w.heap.size) hB.size))
    go_wp2_with fail
    go_meet
    case rel => exact ⟨rfl, hB⟩
  case rest =>
    obtain ⟨rfl, hbc⟩ := hcut
    have hlow2 := fun w => zzlower_any l w (by unfold maxLen; omega)
    have hll : lowB l = l := by rw [← hl.out, lowB_idem]
    rw [hll] at hlow2
    clear hll hadd hz1 hz2
    go_wp2_with (go_at_call 7; refine (hlow2 _).mono ?_; rintro e w3 ⟨rfl, hb3⟩)
    go_loopg [6] s.size (fun g s6 wx => ∃ i : Nat, g = s.size - i ∧ i ≤ s.size ∧ s6 = .int .i64 i ∧ w3 = wx)
    case atStart => exact ⟨0, rfl, Nat.zero_le _, rfl, rfl⟩
    case round =>
      obtain ⟨i, hg, hi, rfl, rfl⟩ := hrel
      by_cases hlt : i < s.size
      · have hlt' : i < l.size := by omega
        have HD : Hid (((l[i].toNat : Nat) : Int) = lowI ((s[i].toNat : Nat) : Int)) := by
          have : ∀ (l : ByteArray) (h : i < l.size), lowB s = l → ((l[i].toNat : Nat) : Int) = lowI ((s[i].toNat : Nat) : Int) := by
            rintro _ h rfl
            exact getElem_lowB s i hlt h
          exact this l hlt' hl.out
        have hc0 := (byte_lt s[i]).1
        have hc1 := (byte_lt s[i]).2
        by_cases hcap : 65 ≤ ((s[i].toNat : Nat) : Int) ∧ ((s[i].toNat : Nat) : Int) ≤ 90
        · have he : ((l[i].toNat : Nat) : Int) = ((s[i].toNat : Nat) : Int) + 32 := by rw [HD.out]; exact if_pos hcap
          have hor : bits BinOp.or IntKind.u8 ((s[i].toNat : Nat) : Int) 32 = ((l[i].toNat : Nat) : Int) := by rw [he]; exact or32 hcap.1 hcap.2
          have hn : ¬ (65 ≤ ((l[i].toNat : Nat) : Int) ∧ ((l[i].toNat : Nat) : Int) ≤ 90) := by omega
          have k1 := fun w => capital_no ((l[i].toNat : Nat) : Int) w hn
          have k2 := fun w => capital_yes ((s[i].toNat : Nat) : Int) w hcap.1 hcap.2
          clear he hn hcap
          go_wp2_with fail
          refine (k1 _).mono ?_
          rintro e w' ⟨rfl, rfl⟩
          go_wp2_with fail
          refine (k2 _).mono ?_
          rintro e w' ⟨rfl, rfl⟩
          go_wp2_with fail
          go_roundg (s.size - (i + 1))
          case measure => omega
          case rel => exact ⟨i + 1, rfl, by omega, by go_num, rfl⟩
        · have he : ((l[i].toNat : Nat) : Int) = ((s[i].toNat : Nat) : Int) := by rw [HD.out]; exact if_neg hcap
          have k1 := fun w => capital_no ((l[i].toNat : Nat) : Int) w (by rw [he]; exact hcap)
          have k2 := fun w => capital_no ((s[i].toNat : Nat) : Int) w hcap
          have he1 : ((l[i].toNat : Nat) : Int) ≤ ((s[i].toNat : Nat) : Int) := by omega
          have he2 : ((s[i].toNat : Nat) : Int) ≤ ((l[i].toNat : Nat) : Int) := by omega
          clear he hcap
          go_wp2_with fail
          refine (k1 _).mono ?_
          rintro e w' ⟨rfl, rfl⟩
          go_wp2_with fail
          refine (k2 _).mono ?_
          rintro e w' ⟨rfl, rfl⟩
          go_wp2_with fail
          go_roundg (s.size - (i + 1))
          case measure => omega
          case rel => exact ⟨i + 1, rfl, by omega, by go_num, rfl⟩
      · go_wp2_with fail
        go_ret
        exact ⟨rfl, hbc.trans (hb3.mono hbc.size)⟩

end Go.Proofs.Qxb6619645a
