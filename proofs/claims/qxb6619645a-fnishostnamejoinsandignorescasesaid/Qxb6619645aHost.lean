/-
  THE WALKS OF 'isHostName', 'hostByte'.
-/
import Derived.Test.Qxb6619645aLower
import Derived.Deep.DeepCutAuto
import Derived.WalkSpells
namespace Go.Proofs.Qxb6619645a
open Go.RowKit

/-- The places of a byte between the tests of both functions. -/
theorem parts (c : Int) : c ≤ 44 ∨ c = 45 ∨ c = 46 ∨ c = 47 ∨ (48 ≤ c ∧ c ≤ 57) ∨ (58 ≤ c ∧ c ≤ 64) ∨ (65 ≤ c ∧ c ≤ 90) ∨ (91 ≤ c ∧ c ≤ 94) ∨ c = 95 ∨ c = 96 ∨ (97 ≤ c ∧ c ≤ 122) ∨ 123 ≤ c := by omega

theorem or_all : ∀ n : Fin 256, (((48 ≤ n.val ∧ n.val ≤ 57) ∨ n.val = 45 ∨ n.val = 46 ∨ n.val = 95) ∨ decide (97 ≤ bits BinOp.or IntKind.u8 (n.val : Int) 32 ∧ bits BinOp.or IntKind.u8 (n.val : Int) 32 ≤ 122) = hostI (n.val : Int)) := by decide +kernel

/-- 'hostByte' -/
theorem hostByte_any (c : Int) (w : World) (h0 : 0 ≤ c) (h1 : c ≤ 255) : Calls Try.prog 13 #[.int .u8 c] w fun e w' => e = .returned (.bool (hostI c)) ∧ w = w' := by
  by_cases hd : 48 ≤ c ∧ c ≤ 57
  · have he : hostI c = true := by unfold hostI; simp [hd]
    obtain ⟨hd0, hd1⟩ := hd
    rw [he]
    clear he
    go_enter Try.func13, Try.ntmps13
    go_wp2
    go_ret
    exact ⟨rfl, rfl⟩
  · by_cases hp : c = 45 ∨ c = 46 ∨ c = 95
    · have he : hostI c = true := by unfold hostI; rcases hp with rfl | rfl | rfl <;> decide
      rw [he]
      clear he hd
      rcases hp with rfl | rfl | rfl <;> (go_enter Try.func13, Try.ntmps13; go_wp2; go_ret; exact ⟨rfl, rfl⟩)
    · have hor := or_all ⟨c.toNat, by omega⟩
      have ec : ((c.toNat : Nat) : Int) = c := by omega
      simp only [ec] at hor
      have hor' : decide (97 ≤ bits BinOp.or IntKind.u8 c 32 ∧ bits BinOp.or IntKind.u8 c 32 ≤ 122) = hostI c := by
        rcases hor with hx | hx
        · omega
        · exact hx
      rw [← hor']
      clear hor hor' ec
      obtain ⟨u, hu⟩ : ∃ u, bits BinOp.or IntKind.u8 c 32 = u := ⟨_, rfl⟩
      rw [hu]
      have e1 : (c == 45) = false := by simp; omega
      have e2 : (c == 46) = false := by simp; omega
      have e3 : (c == 95) = false := by simp; omega
      clear hp
      have hparts : (c ≤ 47 ∨ 58 ≤ c) := by omega
      clear hd
      by_cases hu0 : 97 ≤ u
      · by_cases hu1 : u ≤ 122
        · rw [decide_eq_true ⟨hu0, hu1⟩]
          rcases hparts with hc | hc <;> (go_enter Try.func13, Try.ntmps13; go_wp2; go_ret; exact ⟨rfl, rfl⟩)
        · rw [decide_eq_false (fun h => hu1 h.2)]
          rcases hparts with hc | hc <;> (go_enter Try.func13, Try.ntmps13; go_wp2; go_ret; exact ⟨rfl, rfl⟩)
      · rw [decide_eq_false (fun h => hu0 h.1)]
        rcases hparts with hc | hc <;> (go_enter Try.func13, Try.ntmps13; go_wp2; go_ret; exact ⟨rfl, rfl⟩)

theorem hostL_take_succ (s : ByteArray) (k : Nat) (h : k < s.size) : hostL (s.data.toList.take (k + 1)) = (hostL (s.data.toList.take k) && hostI ((s[k].toNat : Nat) : Int)) := by
  have hl : k < s.data.toList.length := by simpa using h
  rw [List.take_succ_eq_append_getElem hl, hostL_append]
  congr 1
  simp [hostL, ByteArray.getElem_eq_getElem_data]

theorem hostL_false {l : List UInt8} {k : Nat} (h : hostL (l.take k) = false) : hostL l = false := by
  rw [← List.take_append_drop k l, hostL_append, h, Bool.false_and]

set_option maxRecDepth 100000 in
set_option maxHeartbeats 1000000 in
/-- 'isHostName' -/
theorem host_any (s : ByteArray) (w : World) (hs : s.size ≤ maxLen) : Calls Try.prog 15 #[.string s] w fun e w' => e = .returned (.bool (hostS s)) ∧ w = w' := by
  unfold maxLen at hs
  obtain ⟨r, hr⟩ : ∃ r, Hid (hostS s = r) := ⟨_, rfl⟩
  rw [hr.out]
  go_enter Try.func15, Try.ntmps15
  go_wp2
  go_loopg [3] s.size (fun g s3 wx => ∃ k : Nat, g = s.size - k ∧ k ≤ s.size ∧ s3 = .int .i64 k ∧ hostL (s.data.toList.take k) = true ∧ w = wx)
  case atStart => exact ⟨0, rfl, Nat.zero_le _, rfl, rfl, rfl⟩
  case round =>
    obtain ⟨k, hg, hk, rfl, hall, rfl⟩ := hrel
    have HA : Hid (hostL (s.data.toList.take k) = true) := hall
    clear hall
    by_cases hlt : k < s.size
    · obtain ⟨c, hcv⟩ : ∃ c : Int, ((s[k].toNat : Nat) : Int) = c := ⟨_, rfl⟩
      have hc0 : 0 ≤ c := hcv ▸ (byte_lt s[k]).1
      have hc1 : c ≤ 255 := hcv ▸ (byte_lt s[k]).2
      have HN : Hid (hostL (s.data.toList.take (k + 1)) = hostI c) := by
        show _ = _
        rw [hostL_take_succ s k hlt, HA.out, Bool.true_and, hcv]
      by_cases hh : hostI c = true
      · rw [hh] at HN
        have hcs : (97 ≤ c ∧ c ≤ 122) ∨ (65 ≤ c ∧ c ≤ 90) ∨ (48 ≤ c ∧ c ≤ 57) ∨ (45 ≤ c ∧ c ≤ 45) ∨ (46 ≤ c ∧ c ≤ 46) ∨ (95 ≤ c ∧ c ≤ 95) := by
          unfold hostI at hh
          simp at hh
          omega
        clear hh
        rcases hcs with ⟨i0, i1⟩ | ⟨i0, i1⟩ | ⟨i0, i1⟩ | ⟨i0, i1⟩ | ⟨i0, i1⟩ | ⟨i0, i1⟩
        · have d1 : decide (97 ≤ c) = true := decide_eq_true (by omega)
          have d2 : decide (c ≤ 122) = true := decide_eq_true (by omega)
          have d3 : decide (65 ≤ c) = true := decide_eq_true (by omega)
          have d4 : decide (c ≤ 90) = false := decide_eq_false (by omega)
          have d5 : decide (48 ≤ c) = true := decide_eq_true (by omega)
          have d6 : decide (c ≤ 57) = false := decide_eq_false (by omega)
          have d7 : (c == 45) = false := by simp; omega
          have d8 : (c == 46) = false := by simp; omega
          have d9 : (c == 95) = false := by simp; omega
          clear i0 i1 hc0 hc1
          go_wp2
          go_roundg (s.size - (k + 1))
          case measure => omega
          case rel => exact ⟨k + 1, rfl, by omega, by go_num, HN.out, rfl⟩
        · have d1 : decide (97 ≤ c) = false := decide_eq_false (by omega)
          have d2 : decide (c ≤ 122) = true := decide_eq_true (by omega)
          have d3 : decide (65 ≤ c) = true := decide_eq_true (by omega)
          have d4 : decide (c ≤ 90) = true := decide_eq_true (by omega)
          have d5 : decide (48 ≤ c) = true := decide_eq_true (by omega)
          have d6 : decide (c ≤ 57) = false := decide_eq_false (by omega)
          have d7 : (c == 45) = false := by simp; omega
          have d8 : (c == 46) = false := by simp; omega
          have d9 : (c == 95) = false := by simp; omega
          clear i0 i1 hc0 hc1
          go_wp2
          go_roundg (s.size - (k + 1))
          case measure => omega
          case rel => exact ⟨k + 1, rfl, by omega, by go_num, HN.out, rfl⟩
        · have d1 : decide (97 ≤ c) = false := decide_eq_false (by omega)
          have d2 : decide (c ≤ 122) = true := decide_eq_true (by omega)
          have d3 : decide (65 ≤ c) = false := decide_eq_false (by omega)
          have d4 : decide (c ≤ 90) = true := decide_eq_true (by omega)
          have d5 : decide (48 ≤ c) = true := decide_eq_true (by omega)
          have d6 : decide (c ≤ 57) = true := decide_eq_true (by omega)
          have d7 : (c == 45) = false := by simp; omega
          have d8 : (c == 46) = false := by simp; omega
          have d9 : (c == 95) = false := by simp; omega
          clear i0 i1 hc0 hc1
          go_wp2
          go_roundg (s.size - (k + 1))
          case measure => omega
          case rel => exact ⟨k + 1, rfl, by omega, by go_num, HN.out, rfl⟩
        · have d1 : decide (97 ≤ c) = false := decide_eq_false (by omega)
          have d2 : decide (c ≤ 122) = true := decide_eq_true (by omega)
          have d3 : decide (65 ≤ c) = false := decide_eq_false (by omega)
          have d4 : decide (c ≤ 90) = true := decide_eq_true (by omega)
          have d5 : decide (48 ≤ c) = false := decide_eq_false (by omega)
          have d6 : decide (c ≤ 57) = true := decide_eq_true (by omega)
          have d7 : (c == 45) = true := by simp; omega
          have d8 : (c == 46) = false := by simp; omega
          have d9 : (c == 95) = false := by simp; omega
          clear i0 i1 hc0 hc1
          go_wp2
          go_roundg (s.size - (k + 1))
          case measure => omega
          case rel => exact ⟨k + 1, rfl, by omega, by go_num, HN.out, rfl⟩
        · have d1 : decide (97 ≤ c) = false := decide_eq_false (by omega)
          have d2 : decide (c ≤ 122) = true := decide_eq_true (by omega)
          have d3 : decide (65 ≤ c) = false := decide_eq_false (by omega)
          have d4 : decide (c ≤ 90) = true := decide_eq_true (by omega)
          have d5 : decide (48 ≤ c) = false := decide_eq_false (by omega)
          have d6 : decide (c ≤ 57) = true := decide_eq_true (by omega)
          have d7 : (c == 45) = false := by simp; omega
          have d8 : (c == 46) = true := by simp; omega
          have d9 : (c == 95) = false := by simp; omega
          clear i0 i1 hc0 hc1
          go_wp2
          go_roundg (s.size - (k + 1))
          case measure => omega
          case rel => exact ⟨k + 1, rfl, by omega, by go_num, HN.out, rfl⟩
        · have d1 : decide (97 ≤ c) = false := decide_eq_false (by omega)
          have d2 : decide (c ≤ 122) = true := decide_eq_true (by omega)
          have d3 : decide (65 ≤ c) = true := decide_eq_true (by omega)
          have d4 : decide (c ≤ 90) = false := decide_eq_false (by omega)
          have d5 : decide (48 ≤ c) = true := decide_eq_true (by omega)
          have d6 : decide (c ≤ 57) = false := decide_eq_false (by omega)
          have d7 : (c == 45) = false := by simp; omega
          have d8 : (c == 46) = false := by simp; omega
          have d9 : (c == 95) = true := by simp; omega
          clear i0 i1 hc0 hc1
          go_wp2
          go_roundg (s.size - (k + 1))
          case measure => omega
          case rel => exact ⟨k + 1, rfl, by omega, by go_num, HN.out, rfl⟩
      · have hh' : hostI c = false := by simpa using hh
        rw [hh'] at HN
        obtain rfl : r = false := by
          have := hostL_false HN.out
          rw [← hr.out]; unfold hostS; rw [this]; rfl
        have hcs : (0 ≤ c ∧ c ≤ 44) ∨ (47 ≤ c ∧ c ≤ 47) ∨ (58 ≤ c ∧ c ≤ 64) ∨ (91 ≤ c ∧ c ≤ 94) ∨ (96 ≤ c ∧ c ≤ 96) ∨ (123 ≤ c ∧ c ≤ 255) := by
          unfold hostI at hh'
          simp at hh'
          omega
        clear hh hh'
        rcases hcs with ⟨i0, i1⟩ | ⟨i0, i1⟩ | ⟨i0, i1⟩ | ⟨i0, i1⟩ | ⟨i0, i1⟩ | ⟨i0, i1⟩
        · have d1 : decide (97 ≤ c) = false := decide_eq_false (by omega)
          have d2 : decide (c ≤ 122) = true := decide_eq_true (by omega)
          have d3 : decide (65 ≤ c) = false := decide_eq_false (by omega)
          have d4 : decide (c ≤ 90) = true := decide_eq_true (by omega)
          have d5 : decide (48 ≤ c) = false := decide_eq_false (by omega)
          have d6 : decide (c ≤ 57) = true := decide_eq_true (by omega)
          have d7 : (c == 45) = false := by simp; omega
          have d8 : (c == 46) = false := by simp; omega
          have d9 : (c == 95) = false := by simp; omega
          clear i0 i1 hc0 hc1
          go_wp2
          go_ret
          exact ⟨rfl, rfl⟩
        · have d1 : decide (97 ≤ c) = false := decide_eq_false (by omega)
          have d2 : decide (c ≤ 122) = true := decide_eq_true (by omega)
          have d3 : decide (65 ≤ c) = false := decide_eq_false (by omega)
          have d4 : decide (c ≤ 90) = true := decide_eq_true (by omega)
          have d5 : decide (48 ≤ c) = false := decide_eq_false (by omega)
          have d6 : decide (c ≤ 57) = true := decide_eq_true (by omega)
          have d7 : (c == 45) = false := by simp; omega
          have d8 : (c == 46) = false := by simp; omega
          have d9 : (c == 95) = false := by simp; omega
          clear i0 i1 hc0 hc1
          go_wp2
          go_ret
          exact ⟨rfl, rfl⟩
        · have d1 : decide (97 ≤ c) = false := decide_eq_false (by omega)
          have d2 : decide (c ≤ 122) = true := decide_eq_true (by omega)
          have d3 : decide (65 ≤ c) = false := decide_eq_false (by omega)
          have d4 : decide (c ≤ 90) = true := decide_eq_true (by omega)
          have d5 : decide (48 ≤ c) = true := decide_eq_true (by omega)
          have d6 : decide (c ≤ 57) = false := decide_eq_false (by omega)
          have d7 : (c == 45) = false := by simp; omega
          have d8 : (c == 46) = false := by simp; omega
          have d9 : (c == 95) = false := by simp; omega
          clear i0 i1 hc0 hc1
          go_wp2
          go_ret
          exact ⟨rfl, rfl⟩
        · have d1 : decide (97 ≤ c) = false := decide_eq_false (by omega)
          have d2 : decide (c ≤ 122) = true := decide_eq_true (by omega)
          have d3 : decide (65 ≤ c) = true := decide_eq_true (by omega)
          have d4 : decide (c ≤ 90) = false := decide_eq_false (by omega)
          have d5 : decide (48 ≤ c) = true := decide_eq_true (by omega)
          have d6 : decide (c ≤ 57) = false := decide_eq_false (by omega)
          have d7 : (c == 45) = false := by simp; omega
          have d8 : (c == 46) = false := by simp; omega
          have d9 : (c == 95) = false := by simp; omega
          clear i0 i1 hc0 hc1
          go_wp2
          go_ret
          exact ⟨rfl, rfl⟩
        · have d1 : decide (97 ≤ c) = false := decide_eq_false (by omega)
          have d2 : decide (c ≤ 122) = true := decide_eq_true (by omega)
          have d3 : decide (65 ≤ c) = true := decide_eq_true (by omega)
          have d4 : decide (c ≤ 90) = false := decide_eq_false (by omega)
          have d5 : decide (48 ≤ c) = true := decide_eq_true (by omega)
          have d6 : decide (c ≤ 57) = false := decide_eq_false (by omega)
          have d7 : (c == 45) = false := by simp; omega
          have d8 : (c == 46) = false := by simp; omega
          have d9 : (c == 95) = false := by simp; omega
          clear i0 i1 hc0 hc1
          go_wp2
          go_ret
          exact ⟨rfl, rfl⟩
        · have d1 : decide (97 ≤ c) = true := decide_eq_true (by omega)
          have d2 : decide (c ≤ 122) = false := decide_eq_false (by omega)
          have d3 : decide (65 ≤ c) = true := decide_eq_true (by omega)
          have d4 : decide (c ≤ 90) = false := decide_eq_false (by omega)
          have d5 : decide (48 ≤ c) = true := decide_eq_true (by omega)
          have d6 : decide (c ≤ 57) = false := decide_eq_false (by omega)
          have d7 : (c == 45) = false := by simp; omega
          have d8 : (c == 46) = false := by simp; omega
          have d9 : (c == 95) = false := by simp; omega
          clear i0 i1 hc0 hc1
          go_wp2
          go_ret
          exact ⟨rfl, rfl⟩
    · obtain rfl : r = !s.toList.isEmpty := by
        rw [List.take_of_length_le (by simp; omega)] at HA
        rw [← hr.out, ByteArray.toList_eq]; unfold hostS; rw [HA.out, Bool.true_and]
      go_wp2
      go_ret
      exact ⟨rfl, rfl⟩

/-- 'ZZisHostName' -/
theorem zzhost_any (s : ByteArray) (w : World) (hs : s.size ≤ maxLen) : Calls Try.prog 12 #[.string s] w fun e w' => e = .returned (.bool (hostS s)) ∧ w = w' := by
  go_enter Try.func12, Try.ntmps12
  go_wp2_with (go_at_call 15; refine (host_any s _ hs).mono ?_; rintro e w' ⟨rfl, rfl⟩)
  go_ret
  exact ⟨rfl, rfl⟩

end Go.Proofs.Qxb6619645a
