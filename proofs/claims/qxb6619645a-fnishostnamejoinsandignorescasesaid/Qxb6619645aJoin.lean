/-
  THE WALK OF 'FnIsHostNameJoinsAndIgnoresCase'.
-/
import Derived.Test.Qxb6619645aHost
import Derived.Deep.CutBlock
namespace Go.Proofs.Qxb6619645a
open Go.RowKit

theorem bytes11 (a b : ByteArray) (w : World) (ha : a.size ≤ maxLen) (hb : b.size ≤ maxLen) :
    Calls Try.prog 11 #[.string a, .string b] w fun e w' => e = .returned (.bool (decide (a.size + b.size ≤ 1048576))) ∧ w = w' := by
  unfold maxLen at ha hb
  by_cases h : a.size + b.size ≤ 1048576
  · rw [decide_eq_true h]
    go_enter Try.func11, Try.ntmps11
    go_wp2
    go_ret
    exact ⟨rfl, rfl⟩
  · rw [decide_eq_false h]
    by_cases h1 : a.size ≤ 1048576
    · by_cases h2 : b.size ≤ 1048576
      · go_enter Try.func11, Try.ntmps11
        go_wp2
        go_ret
        exact ⟨rfl, rfl⟩
      · go_enter Try.func11, Try.ntmps11
        go_wp2
        go_ret
        exact ⟨rfl, rfl⟩
    · go_enter Try.func11, Try.ntmps11
      go_wp2
      go_ret
      exact ⟨rfl, rfl⟩

theorem join_long (a b : ByteArray) (w : World) (ha : a.size ≤ maxLen) (hb : b.size ≤ maxLen) (hl : ¬ a.size + b.size ≤ 1048576) :
    Calls Try.prog 5 #[.string a, .string b] w fun e w' => e = .returned (.bool true) ∧ w = w' := by
  have hbb := bytes11 a b w ha hb
  rw [decide_eq_false hl] at hbb
  go_enter Try.func5, Try.ntmps5
  go_wp2_with (go_at_call 11; refine hbb.mono ?_; rintro e w' ⟨rfl, rfl⟩)
  go_ret
  exact ⟨rfl, rfl⟩

set_option maxRecDepth 100000 in
set_option maxHeartbeats 1000000 in
theorem join_walk (a b : ByteArray) (w : World) (hl : a.size + b.size ≤ 1048576) :
    Calls Try.prog 5 #[.string a, .string b] w fun e w' => e = .returned (.bool true) ∧ Below w.heap.size w w' := by
  have hbb := bytes11 a b w (by unfold maxLen; omega) (by unfold maxLen; omega)
  rw [decide_eq_true hl] at hbb
  have ha8 : a.size ≤ 1048576 := by omega
  have hb8 : b.size ≤ 1048576 := by omega
  obtain ⟨s, hab⟩ : ∃ s, a ++ b = s := ⟨_, rfl⟩
  have hsz : s.size ≤ 1048576 := by rw [← hab, ByteArray.size_append]; exact hl
  have hsm : s.size ≤ maxLen := by unfold maxLen; omega
  -- the Booleans, each under a name
  obtain ⟨em, hem⟩ : ∃ em, s.toList.isEmpty = em := ⟨_, rfl⟩
  obtain ⟨ea, hea⟩ : ∃ ea, a.toList.isEmpty = ea := ⟨_, rfl⟩
  obtain ⟨eb, heb⟩ : ∃ eb, b.toList.isEmpty = eb := ⟨_, rfl⟩
  obtain ⟨va, hva⟩ : ∃ va, Hid (hostS a = va) := ⟨_, rfl⟩
  obtain ⟨vb, hvb⟩ : ∃ vb, Hid (hostS b = vb) := ⟨_, rfl⟩
  obtain ⟨hv, hhv⟩ : ∃ hv, Hid (hostS s = hv) := ⟨_, rfl⟩
  have hall : Hid (hv = ((ea || va) && (eb || vb) && !em)) := by
    show hv = _
    rw [← hhv.out, ← hva.out, ← hvb.out, ← hem, ← hea, ← heb, ByteArray.toList_eq, ByteArray.toList_eq, ByteArray.toList_eq, ← hab]
    exact hostS_append a b
  have hhl : Hid (hv = (hostL s.data.toList && !em)) := by
    show hv = _
    rw [← hhv.out, ← hem, ByteArray.toList_eq]; rfl
  have kS := fun w => zzhost_any s w hsm
  have kA := fun w => zzhost_any a w (by unfold maxLen; omega)
  have kB := fun w => zzhost_any b w (by unfold maxLen; omega)
  have kL := fun w => zzlower_any s w hsm
  have kM := fun w => zzhost_any (lowB s) w (by rw [size_lowB]; exact hsm)
  rw [hostS_low] at kM
  rw [hhv.out] at kS kM
  rw [hva.out] at kA
  rw [hvb.out] at kB
  go_enter Try.func5, Try.ntmps5
  go_wp2_with (go_at_call 11; refine hbb.mono ?_; rintro e w' ⟨rfl, rfl⟩)
  refine (kS _).mono ?_
  rintro e w' ⟨rfl, rfl⟩
  go_upto_block 0 with fail
  go_cut [7] (fun s7 wc => s7 = .bool hv ∧ w = wc)
  case first =>
    go_wp2_with fail
    go_loopg [7, 8] s.size (fun g s7 s8 wx => ∃ k : Nat, g = s.size - k ∧ k ≤ s.size ∧ s8 = .int .i64 k ∧ s7 = .bool !em ∧ Hid (hostL (s.data.toList.take k) = true) ∧ w = wx)
    case atStart => exact ⟨0, rfl, Nat.zero_le _, rfl, rfl, rfl, rfl⟩
    case round =>
      obtain ⟨k, hg, hk, rfl, rfl, HA, rfl⟩ := hrel
      by_cases hlt : k < s.size
      · obtain ⟨c, hcv⟩ : ∃ c : Int, ((s[k].toNat : Nat) : Int) = c := ⟨_, rfl⟩
        have hc0 : 0 ≤ c := hcv ▸ (byte_lt s[k]).1
        have hc1 : c ≤ 255 := hcv ▸ (byte_lt s[k]).2
        have HN : Hid (hostL (s.data.toList.take (k + 1)) = hostI c) := by
          show _ = _
          rw [hostL_take_succ s k hlt, HA.out, Bool.true_and, hcv]
        have kH := fun w => hostByte_any c w hc0 hc1
        obtain ⟨v, hvv⟩ : ∃ v, hostI c = v := ⟨_, rfl⟩
        rw [hvv] at HN kH
        clear hvv
        cases v with
        | true =>
          go_wp2_with (go_at_call 13; refine (kH _).mono ?_; rintro e w' ⟨rfl, rfl⟩)
          go_roundg (s.size - (k + 1))
          case measure => omega
          case rel => exact ⟨k + 1, rfl, by omega, by go_num, rfl, HN, rfl⟩
        | false =>
          have hfin : Hid (hv = false) := by
            show hv = _
            rw [hhl.out, hostL_false HN.out, Bool.false_and]
          go_wp2_with (go_at_call 13; refine (kH _).mono ?_; rintro e w' ⟨rfl, rfl⟩)
          go_meet
          case rel => exact ⟨by rw [hfin.out], rfl⟩
      · have hfin : Hid (hv = !em) := by
          show hv = _
          rw [List.take_of_length_le (by simp; omega)] at HA
          rw [hhl.out, HA.out, Bool.true_and]
        go_wp2_with fail
        go_meet
        case rel => exact ⟨by rw [hfin.out], rfl⟩
  case rest =>
    obtain ⟨rfl, rfl⟩ := hcut
    obtain ⟨A, hA⟩ : ∃ A, Hid ((ea || va) = A) := ⟨_, rfl⟩
    obtain ⟨B, hB⟩ : ∃ B, Hid ((eb || vb) = B) := ⟨_, rfl⟩
    have hall' : Hid (hv = (A && B && !em)) := by
      show hv = _
      rw [hall.out, hA.out, hB.out]
    clear hall hhl
    go_upto_region 15 with fail
    go_cut [9] (fun s9 wc => s9 = .bool A ∧ w = wc)
    case first =>
      cases ea with
      | true =>
        obtain rfl : A = true := by rw [← hA.out]; rfl
        go_wp2_with fail
        go_meet
        case rel => exact ⟨rfl, rfl⟩
      | false =>
        obtain rfl : A = va := by rw [← hA.out]; rfl
        go_wp2_with (go_at_call 12; refine (kA _).mono ?_; rintro e w' ⟨rfl, rfl⟩)
        go_meet
        case rel => exact ⟨rfl, rfl⟩
    case rest =>
      obtain ⟨rfl, rfl⟩ := hcut
      go_upto_region 16 with fail
      go_cut [10] (fun s10 wc => s10 = .bool B ∧ w = wc)
      case first =>
        cases eb with
        | true =>
          obtain rfl : B = true := by rw [← hB.out]; rfl
          go_wp2_with fail
          go_meet
          case rel => exact ⟨rfl, rfl⟩
        | false =>
          obtain rfl : B = vb := by rw [← hB.out]; rfl
          go_wp2_with (go_at_call 12; refine (kB _).mono ?_; rintro e w' ⟨rfl, rfl⟩)
          go_meet
          case rel => exact ⟨rfl, rfl⟩
      case rest =>
        obtain ⟨rfl, rfl⟩ := hcut
        have hfin : ∀ t, (A && B && !em) = t → hv = t := fun t ht => by rw [hall'.out, ht]
        clear hA hB hall'
        cases A <;> cases B <;> cases em
        all_goals
          obtain rfl := hfin _ rfl
          go_wp2_with fail
          refine (kL _).mono ?_
          rintro e w2 ⟨rfl, hb2⟩
          go_wp2_with fail
          refine (kM _).mono ?_
          rintro e w3 ⟨rfl, rfl⟩
          go_wp2_with fail
          go_ret
          exact ⟨rfl, hb2⟩

end Go.Proofs.Qxb6619645a
