/-
  THE WALK OF 'FnSettleOneSeq'.
-/
import Derived.Test.Qxb6619618aSettle
import Derived.Deep.DeepCutAuto
namespace Go.Proofs.Qxb6619618a
open Go.RowKit Go.Maps

theorem run_makeMap_hint (x : Int) (w : World) : (Instr.makeMap 36 (some (.int .i64 x))).run Try.prog w = .ok (.map (some w.heap.size)) (w.alloc (.map #[] 0)) := by
  simp [Instr.makeMap, run_underlying Try.underlying36, asInt, asIntOf, Result.andThen]

set_option maxRecDepth 100000 in
theorem one_long (d seq : Int) (a : Option Addr) (n c : Nat) (w : World) (hn : n ≤ maxLen) (hl : 65536 < n) :
    Calls Try.prog 5 #[.int .u64 d, .slice a n c, .int .u64 seq] w fun e w' => e = .returned (.bool true) ∧ w' = w := by
  have hb := bytes13 d seq a n c w hn
  unfold maxLen at hn
  by_cases h : n ≤ 1048576
  · rw [decide_eq_true h] at hb
    go_enter Try.func5, Try.ntmps5
    go_wp2_with (go_at_call 13; refine hb.mono ?_; rintro e w' ⟨rfl, rfl⟩)
    go_ret
    exact ⟨rfl, rfl⟩
  · rw [decide_eq_false h] at hb
    go_enter Try.func5, Try.ntmps5
    go_wp2_with (go_at_call 13; refine hb.mono ?_; rintro e w' ⟨rfl, rfl⟩)
    go_ret
    exact ⟨rfl, rfl⟩

theorem bel1 (w : World) (n : Nat) : Below w.heap.size w (w.drewN n) := ⟨rfl, rfl, rfl, Nat.le_refl _, fun _ _ => rfl⟩
theorem bel2 (w : World) (n m : Nat) : Below w.heap.size w ((w.drewN n).drewN m) := ⟨rfl, rfl, rfl, Nat.le_refl _, fun _ _ => rfl⟩

theorem settled_u64 {d seq d' : Int} {S S' : List Int} (h : Settled d S seq d' S') (hd : U64 d) (hq : U64 seq) (hU : ∀ x ∈ S, U64 x) : U64 d' := by
  rcases h with ⟨_, rfl, _⟩ | ⟨_, hran, _⟩
  · exact hd
  · by_cases e : d' = d
    · exact e ▸ hd
    · rcases mem_insS.1 (hran.2.1 d' (by have := hran.1; omega) (Int.le_refl _)) with rfl | h
      · exact hq
      · exact hU _ h

set_option maxRecDepth 100000 in
set_option maxHeartbeats 1000000 in
theorem one_walk (d seq : Int) (a : Option Addr) (b off n c : Nat) (z : List Int) (w : World) (hd : U64 d) (hq : U64 seq) (hn : n ≤ 65536)
    (ha : 0 < n → a = some ⟨b, off, none⟩) (hbl : 0 < n → b < w.heap.size) (hc : ∀ j, j < n → w.cell? ⟨b, off + j, none⟩ = some (.int .u64 (z.getD j 0))) (hu : ∀ j, U64 (z.getD j 0)) :
    Calls Try.prog 5 #[.int .u64 d, .slice a n c, .int .u64 seq] w fun e w' => e = .returned (.bool true) ∧ Below w.heap.size w w' := by
  have hb := bytes13 d seq a n c w (by unfold maxLen; omega)
  rw [decide_eq_true (by omega)] at hb
  have hmk := run_makeMap_hint
  go_enter Try.func5, Try.ntmps5
  go_wp2_with (go_at_call 13; refine hb.mono ?_; rintro e w' ⟨rfl, rfl⟩)
  go_loopg [7] n (fun g s7 wx => ∃ k nn : Nat, g = n - k ∧ k ≤ n ∧ s7 = .int .i64 k ∧ wx = w.drewN nn ∧ (∀ j, j < k → d < z.getD j 0) ∧ Rising z k)
  case atStart => exact ⟨0, 0, rfl, Nat.zero_le _, rfl, rfl, fun j hj => by omega, fun i j h1 h2 => by omega⟩
  case round =>
    obtain ⟨k, nn, hg, hk, rfl, rfl, hgt, hri⟩ := hrel
    by_cases hlt : k < n
    · obtain rfl := ha (by omega)
      have hck : w.cell? ⟨b, off + k, none⟩ = some (.int .u64 (z[k]?.getD 0)) := hc k hlt
      have hu0 : 0 ≤ z[k]?.getD 0 := (hu k).1
      have hu1 : z[k]?.getD 0 ≤ 18446744073709551615 := (hu k).2
      by_cases hd1 : z[k]?.getD 0 ≤ d
      · go_wp2
        go_ret
        exact ⟨rfl, bel1 _ _⟩
      · have hgt' : ∀ j, j < k + 1 → d < z.getD j 0 := fun j hj => by
          by_cases e : j = k
          · subst e; exact Int.not_le.1 hd1
          · exact hgt j (by omega)
        by_cases hk0 : 0 < k
        · have hl0 : (0 : Int) < (k : Int) := by omega
          have hck1 : w.cell? ⟨b, off + (k - 1), none⟩ = some (.int .u64 (z[k - 1]?.getD 0)) := hc (k - 1) (by omega)
          by_cases hrs : z[k]?.getD 0 ≤ z[k - 1]?.getD 0
          · go_wp2
            go_quiet (fail)
            go_wp2
            go_ret
            exact ⟨rfl, bel2 _ _ _⟩
          · have hri' : Rising z (k + 1) := rising_step hri (Or.inr (Int.not_le.1 hrs))
            go_wp2
            go_quiet (fail)
            go_wp2
            go_roundg (n - (k + 1))
            case measure => omega
            case rel => exact ⟨k + 1, _, rfl, by omega, rfl, rfl, hgt', hri'⟩
        · have hl0 : decide ((0 : Int) < (k : Int)) = false := decide_eq_false (by omega)
          go_wp2
          go_quiet (fail)
          go_wp2
          go_roundg (n - (k + 1))
          case measure => omega
          case rel => exact ⟨k + 1, _, rfl, by omega, rfl, rfl, hgt', rising_step hri (Or.inl (by omega))⟩
    · have hkn : n = k := by omega
      subst hkn
      go_wp2
      go_loopg [9] n (fun g s9 wx => ∃ (k : Nat) (S : List Int), g = n - k ∧ k ≤ n ∧ s9 = .int .i64 k ∧ SetAt wx w.heap.size S ∧ (∀ x, x ∈ S ↔ At z k x) ∧ S.length ≤ k ∧ Below w.heap.size w wx ∧ Hid (wx.heap.size = w.heap.size + 1))
      case atStart => exact ⟨0, [], rfl, Nat.zero_le _, rfl, setAt_made (w.drewN nn), fun x => ⟨fun h => absurd h (by simp), fun h => absurd h at_zero⟩, Nat.le_refl _, (bel1 w nn).alloc (Nat.le_refl _) _, by simp [Hid]⟩
      case round =>
        obtain ⟨k, S, hg2, hk2, rfl, hset, hmem, hlen, hbel, hsz⟩ := hrel
        by_cases hlt : k < n
        · obtain rfl := ha (by omega)
          have hck : wr.cell? ⟨b, off + k, none⟩ = some (.int .u64 (z[k]?.getD 0)) := (hbel.cell (hbl (by omega))).trans (hc k hlt)
          have hb65 : S.length < maxLen := by unfold maxLen; omega
          go_wp2_with (first
            | (at_mapUpdate; refine wpList_setStore _ rfl _ _ _ rfl w.heap.size S hset hb65 _ (hu k) rfl rfl rfl ?_; intro w1 hset1 ht1)
            | go_in)
          go_roundg (n - (k + 1))
          case measure => omega
          case rel =>
            have hT := (Turns.refl wr (fun k => k = w.heap.size)).map rfl ht1
            refine ⟨k + 1, insS (z.getD k 0) S, rfl, by omega, rfl, hset1, fun x => ?_, Nat.le_trans (length_insS_le _ _) (by omega), hbel.trans (hT.below (fun i hi e => by omega)), by have := hT.size; simp only [Hid] at hsz ⊢; omega⟩
            rw [mem_insS, at_succ, hmem]
            exact Or.comm
        · have hkn : n = k := by omega
          subst hkn
          have hs0 := sess_new wr d w.heap.size
          have hb0 := hset.alloc (.cells #[.int .u64 d, .map (some w.heap.size)] 46)
          have hne : w.heap.size ≠ wr.heap.size := by simp only [Hid] at hsz; omega
          have hS0 : ∀ x ∈ S, d < x := fun x hx => by obtain ⟨j, hj, rfl⟩ := (hmem x).1 hx; exact hgt j hj
          have hU0 : ∀ x ∈ S, U64 x := fun x hx => by obtain ⟨j, hj, rfl⟩ := (hmem x).1 hx; exact hu j
          have hb65 : S.length < maxLen := by unfold maxLen; omega
          obtain ⟨ad, had⟩ : ∃ ad : Bool, decide (d < seq) = ad := ⟨_, rfl⟩
          go_upto_if 80 with (first
            | (go_at_call 14; refine (zznew_any _ _ _).mono ?_; rintro e w' ⟨rfl, rfl⟩)
            | (go_at_call 15; refine (zzsettle_any _ _ d seq S _ hs0 hb0 hne hb65 hS0 hU0 hd hq).mono ?_; rintro e w2 ⟨rfl, d', S', hs2, hb2, hset2, hT2⟩)
            | (go_at_call 16; refine (zzdone_any _ _ _ _ hs2).mono ?_; rintro e w' ⟨rfl, rfl⟩))
          have hres := oneRes_of hri hgt hset.nodup hmem hset2
          have hnd' := settled_u64 hset2 hd hq hU0
          go_cut [13] (fun s13 wc => s13 = .int .u64 d' ∧ w2 = wc)
          case first =>
            rcases hset2 with ⟨hle, rfl, rfl⟩ | ⟨hlt2, hran, hrest⟩
            · obtain rfl : ad = false := by rw [← had]; exact decide_eq_false (by omega)
              go_wp2
              go_meet
              case rel => exact ⟨rfl, rfl⟩
            · obtain rfl : ad = true := by rw [← had]; exact decide_eq_true hlt2
              have hd0 := hd.1
              have hd1 := hd.2
              have hq0 := hq.1
              have hq1 := hq.2
              go_wp2
              go_loopg [13, 14, 15] (n + 1) (fun g s13 s14 s15 wx => ∃ (want : Int) (i : Nat) (tk : Bool), s13 = .int .u64 want ∧ s14 = .int .i64 i ∧ s15 = .bool tk ∧ i ≤ n ∧ Merges d seq z n i tk want ∧ w2 = wx ∧ U64 want ∧ g = (n - i) + (if tk then 0 else 1))
              case atStart => exact ⟨d, 0, false, rfl, rfl, rfl, Nat.zero_le _, merges_start _ _ _ _, rfl, hd, rfl⟩
              case round =>
                obtain ⟨want, i, tk, rfl, rfl, rfl, hin, hmg, rfl, hwu, hg3⟩ := hrel
                have hw0 := hwu.1
                have hw1 := hwu.2
                have hfin : ∀ x, Ends d seq z n x → d' = x := fun x hx => one_end hmem hran hx
                cases tk with
                | true =>
                  by_cases hi : i < n
                  · obtain rfl := ha (by omega)
                    have hck : w2.cell? ⟨b, off + i, none⟩ = some (.int .u64 (z[i]?.getD 0)) := by
                      rw [hT2.cell (p := ⟨b, off + i, none⟩) (by have := hbl (by omega); simp only [Hid] at hsz; show ¬ (b = _ ∨ b = _); omega), World.cell?_alloc_lt _ _ _ (by have := hbl (by omega); simp only [Hid] at hsz; show b < _; omega)]
                      exact (hbel.cell (hbl (by omega))).trans (hc i hi)
                    have hu0 : 0 ≤ z[i]?.getD 0 := (hu i).1
                    have hu1 : z[i]?.getD 0 ≤ 18446744073709551615 := (hu i).2
                    by_cases hv1 : z[i]?.getD 0 ≤ want
                    · have hmg' := merges_at_skip hmg hv1
                      go_wp2
                      go_roundg (n - (i + 1))
                      case measure => simp at hg3; omega
                      case rel => exact ⟨want, i + 1, true, rfl, by go_num, rfl, by omega, hmg', rfl, hwu, by simp⟩
                    · by_cases hv2 : z[i]?.getD 0 ≤ want + 1
                      · have hv3 : want + 1 ≤ z[i]?.getD 0 := by omega
                        have hmg' := merges_at_step hmg hi (show z.getD i 0 = want + 1 from Int.le_antisymm hv2 hv3)
                        go_wp2
                        go_roundg (n - (i + 1))
                        case measure => simp at hg3; omega
                        case rel => exact ⟨_, i + 1, true, rfl, by go_num, rfl, by omega, hmg', rfl, hu i, by simp⟩
                      · have hend := hfin _ (merges_gap_at hri hmg hi (fun h => by cases h) (show want < z.getD i 0 from by show want < z[i]?.getD 0; omega) (show z.getD i 0 ≠ want + 1 from by show z[i]?.getD 0 ≠ want + 1; omega))
                        have hend' : Hid (want = d') := hend.symm
                        clear hend
                        go_wp2
                        go_meet
                        case rel => exact ⟨by rw [hend'.out], rfl⟩
                  · have hend' : Hid (want = d') := (hfin _ (merges_end hmg (by omega))).symm
                    go_wp2
                    go_meet
                    case rel => exact ⟨by rw [hend'.out], rfl⟩
                | false =>
                  by_cases hi : i < n
                  · obtain rfl := ha (by omega)
                    have hck : w2.cell? ⟨b, off + i, none⟩ = some (.int .u64 (z[i]?.getD 0)) := by
                      rw [hT2.cell (p := ⟨b, off + i, none⟩) (by have := hbl (by omega); simp only [Hid] at hsz; show ¬ (b = _ ∨ b = _); omega), World.cell?_alloc_lt _ _ _ (by have := hbl (by omega); simp only [Hid] at hsz; show b < _; omega)]
                      exact (hbel.cell (hbl (by omega))).trans (hc i hi)
                    have hu0 : 0 ≤ z[i]?.getD 0 := (hu i).1
                    have hu1 : z[i]?.getD 0 ≤ 18446744073709551615 := (hu i).2
                    by_cases hsq : seq ≤ z[i]?.getD 0
                    · by_cases hv1 : seq ≤ want
                      · have hmg' := merges_seq_skip hmg hv1
                        go_wp2
                        go_roundg (n - i)
                        case measure => simp at hg3; omega
                        case rel => exact ⟨want, i, true, rfl, rfl, rfl, by omega, hmg', rfl, hwu, by simp⟩
                      · by_cases hv2 : seq ≤ want + 1
                        · have hv3 : want + 1 ≤ seq := by omega
                          have hmg' := merges_seq_step hmg (Int.le_antisymm hv2 hv3)
                          go_wp2
                          go_roundg (n - i)
                          case measure => simp at hg3; omega
                          case rel => exact ⟨_, i, true, rfl, rfl, rfl, by omega, hmg', rfl, hq, by simp⟩
                        · have hend' : Hid (want = d') := (hfin _ (merges_gap_seq hri hmg (fun h => hsq) (by omega) (by omega))).symm
                          go_wp2
                          go_meet
                          case rel => exact ⟨by rw [hend'.out], rfl⟩
                    · by_cases hv1 : z[i]?.getD 0 ≤ want
                      · have hmg' := merges_at_skip hmg hv1
                        go_wp2
                        go_roundg (n - (i + 1) + 1)
                        case measure => simp at hg3; omega
                        case rel => exact ⟨want, i + 1, false, rfl, by go_num, rfl, by omega, hmg', rfl, hwu, by simp⟩
                      · by_cases hv2 : z[i]?.getD 0 ≤ want + 1
                        · have hv3 : want + 1 ≤ z[i]?.getD 0 := by omega
                          have hmg' := merges_at_step hmg hi (show z.getD i 0 = want + 1 from Int.le_antisymm hv2 hv3)
                          go_wp2
                          go_roundg (n - (i + 1) + 1)
                          case measure => simp at hg3; omega
                          case rel => exact ⟨_, i + 1, false, rfl, by go_num, rfl, by omega, hmg', rfl, hu i, by simp⟩
                        · have hend' : Hid (want = d') := (hfin _ (merges_gap_at hri hmg hi (fun _ => show z[i]?.getD 0 < seq by omega) (show want < z.getD i 0 from by show want < z[i]?.getD 0; omega) (show z.getD i 0 ≠ want + 1 from by show z[i]?.getD 0 ≠ want + 1; omega))).symm
                          go_wp2
                          go_meet
                          case rel => exact ⟨by rw [hend'.out], rfl⟩
                  · by_cases hv1 : seq ≤ want
                    · have hmg' := merges_seq_skip hmg hv1
                      go_wp2
                      go_roundg (n - i)
                      case measure => simp at hg3; omega
                      case rel => exact ⟨want, i, true, rfl, rfl, rfl, by omega, hmg', rfl, hwu, by simp⟩
                    · by_cases hv2 : seq ≤ want + 1
                      · have hv3 : want + 1 ≤ seq := by omega
                        have hmg' := merges_seq_step hmg (Int.le_antisymm hv2 hv3)
                        go_wp2
                        go_roundg (n - i)
                        case measure => simp at hg3; omega
                        case rel => exact ⟨_, i, true, rfl, rfl, rfl, by omega, hmg', rfl, hq, by simp⟩
                      · have hend' : Hid (want = d') := (hfin _ (merges_gap_seq hri hmg (fun h => absurd h hi) (by omega) (by omega))).symm
                        go_wp2
                        go_meet
                        case rel => exact ⟨by rw [hend'.out], rfl⟩
          case rest =>
            obtain ⟨rfl, rfl⟩ := hcut
            have hB2 : Below w.heap.size w w2 := (hbel.alloc hbel.size _).trans (hT2.below (fun i hi e => by simp only [Hid] at hsz; omega))
            have hdu0 := hnd'.1
            have hdu1 := hnd'.2
            go_wp2
            go_loopg [17, 18, 19] n (fun g s17 s18 s19 wx => ∃ k nn : Nat, g = n - k ∧ k ≤ n ∧ s19 = .int .i64 k ∧ s18 = .int .i64 (cnt z d' k) ∧ s17 = .bool (atB z seq k) ∧ wx = w2.drewN nn)
            case atStart => exact ⟨0, 0, rfl, Nat.zero_le _, rfl, rfl, rfl, rfl⟩
            case round =>
              obtain ⟨k, nn, hg4, hk4, rfl, rfl, rfl, rfl⟩ := hrel
              have hcl := cnt_le z d' k
              by_cases hlt : k < n
              · obtain rfl := ha (by omega)
                have hck : w2.cell? ⟨b, off + k, none⟩ = some (.int .u64 (z[k]?.getD 0)) := by
                  rw [hT2.cell (p := ⟨b, off + k, none⟩) (by have := hbl (by omega); simp only [Hid] at hsz; show ¬ (b = _ ∨ b = _); omega), World.cell?_alloc_lt _ _ _ (by have := hbl (by omega); simp only [Hid] at hsz; show b < _; omega)]
                  exact (hbel.cell (hbl (by omega))).trans (hc k hlt)
                have hu0 : 0 ≤ z[k]?.getD 0 := (hu k).1
                have hu1 : z[k]?.getD 0 ≤ 18446744073709551615 := (hu k).2
                have hlk : ∀ m, (Instr.lookup 36 (.map (some w.heap.size)) (.int .u64 (z[k]?.getD 0)) false).run Try.prog (w2.drewN m) = .ok (.bool (decide (d' < z[k]?.getD 0))) (w2.drewN m) := fun m => by
                  exact ((hb2.drewN m).look (hu k)).trans (congrArg (fun x => Result.ok (Value.bool x) _) (hres.each k hlt))
                have hce : ∀ t : Nat, (if d' < z[k]?.getD 0 then 1 else 0) = t → Hid ((cnt z d' (k + 1) : Int) = (cnt z d' k : Int) + t) := fun t ht => by
                  show ((cnt z d' k + (if d' < z[k]?.getD 0 then 1 else 0) : Nat) : Int) = _
                  rw [ht]; simp
                have hae : ∀ t : Bool, decide (z[k]?.getD 0 = seq) = t → Hid (atB z seq (k + 1) = (atB z seq k || t)) := fun t ht => by
                  show (atB z seq k || decide (z[k]?.getD 0 = seq)) = _
                  rw [ht]
                by_cases e1 : z[k]?.getD 0 = seq
                · have HA := hae true (decide_eq_true e1)
                  have e3 : (z[k]?.getD 0 == seq) = true := by simp [e1]
                  clear hae e1
                  by_cases e2 : d' < z[k]?.getD 0
                  · have HC := hce 1 (if_pos e2)
                    clear hce
                    go_wp2
                    go_quiet (fail)
                    go_wp2
                    go_roundg (n - (k + 1))
                    case measure => omega
                    case rel => exact ⟨k + 1, _, rfl, by omega, by go_num, by rw [HC.out]; rfl, by rw [HA.out, Bool.or_true], rfl⟩
                  · have HC := hce 0 (if_neg e2)
                    clear hce
                    go_wp2
                    go_quiet (fail)
                    go_wp2
                    go_roundg (n - (k + 1))
                    case measure => omega
                    case rel => exact ⟨k + 1, _, rfl, by omega, by go_num, by rw [HC.out]; simp, by rw [HA.out, Bool.or_true], rfl⟩
                · have HA := hae false (decide_eq_false e1)
                  have e3 : (z[k]?.getD 0 == seq) = false := by simp [e1]
                  clear hae e1
                  by_cases e2 : d' < z[k]?.getD 0
                  · have HC := hce 1 (if_pos e2)
                    clear hce
                    go_wp2
                    go_quiet (fail)
                    go_wp2
                    go_roundg (n - (k + 1))
                    case measure => omega
                    case rel => exact ⟨k + 1, _, rfl, by omega, by go_num, by rw [HC.out]; rfl, by rw [HA.out, Bool.or_false], rfl⟩
                  · have HC := hce 0 (if_neg e2)
                    clear hce
                    go_wp2
                    go_quiet (fail)
                    go_wp2
                    go_roundg (n - (k + 1))
                    case measure => omega
                    case rel => exact ⟨k + 1, _, rfl, by omega, by go_num, by rw [HC.out]; simp, by rw [HA.out, Bool.or_false], rfl⟩
              · have hkn : n = k := by omega
                subst hkn
                have hB3 : Below w.heap.size w (w2.drewN nn) := ⟨hB2.os, hB2.tape, hB2.output, hB2.size, hB2.block⟩
                have hb3 := hb2.drewN nn
                obtain ⟨ib, hib⟩ : ∃ ib : Bool, atB z seq n = ib := ⟨_, rfl⟩
                have hown := hres.own
                have hcount := hres.count
                rw [had] at hown hcount
                rw [hib] at hcount
                have hlook : ∀ t : Bool, (ad && decide (d' < seq)) = t → (Instr.lookup 36 (.map (some w.heap.size)) (.int .u64 seq) false).run Try.prog (w2.drewN nn) = .ok (.bool t) (w2.drewN nn) := fun t ht => by
                  rw [hb3.look hq, hown, ht]
                have hlen3 : ∀ t : Nat, (if (ad && !ib && decide (d' < seq)) = true then 1 else 0) = t → Hid ((S'.length : Int) = (cnt z d' n : Int) + t) := fun t ht => by
                  rw [ht] at hcount
                  show (S'.length : Int) = _
                  rw [hcount]; simp
                clear hown hcount hres
                cases ad with
                | false =>
                  have hlk := hlook false rfl
                  have HL := hlen3 0 rfl
                  clear hlook hlen3
                  go_wp2_with (first | (at_len; refine wpList_setLen _ rfl _ rfl _ S' hb3 rfl ?_) | go_in)
                  go_ret
                  exact ⟨by rw [HL.out]; simp, hB3⟩
                | true =>
                  by_cases e : d' < seq
                  · have ed := decide_eq_true e
                    cases ib with
                    | false =>
                      have hlk := hlook true (by rw [ed]; rfl)
                      have HL := hlen3 1 (by rw [ed]; rfl)
                      clear hlook hlen3
                      go_wp2_with (first | (at_len; refine wpList_setLen _ rfl _ rfl _ S' hb3 rfl ?_) | go_in)
                      go_ret
                      exact ⟨by rw [HL.out]; simp, hB3⟩
                    | true =>
                      have hlk := hlook true (by rw [ed]; rfl)
                      have HL := hlen3 0 (by rw [ed]; rfl)
                      clear hlook hlen3
                      go_wp2_with (first | (at_len; refine wpList_setLen _ rfl _ rfl _ S' hb3 rfl ?_) | go_in)
                      go_ret
                      exact ⟨by rw [HL.out]; simp, hB3⟩
                  · have ed := decide_eq_false e
                    cases ib with
                    | false =>
                      have hlk := hlook false (by rw [ed]; rfl)
                      have HL := hlen3 0 (by rw [ed]; rfl)
                      clear hlook hlen3
                      go_wp2_with (first | (at_len; refine wpList_setLen _ rfl _ rfl _ S' hb3 rfl ?_) | go_in)
                      go_ret
                      exact ⟨by rw [HL.out]; simp, hB3⟩
                    | true =>
                      have hlk := hlook false (by rw [ed]; rfl)
                      have HL := hlen3 0 (by rw [ed]; rfl)
                      clear hlook hlen3
                      go_wp2_with (first | (at_len; refine wpList_setLen _ rfl _ rfl _ S' hb3 rfl ?_) | go_in)
                      go_ret
                      exact ⟨by rw [HL.out]; simp, hB3⟩

end Go.Proofs.Qxb6619618a
