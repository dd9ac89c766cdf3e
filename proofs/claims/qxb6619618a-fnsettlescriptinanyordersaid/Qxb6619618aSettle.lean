/-
  THE WALK OF 'settle' AND OF THE SHIM ROUND IT.
-/
import Derived.Test.Qxb6619618aSet
import Derived.RegionTactic
import Derived.Deep.QuietTactic
import Derived.BigQuiet
import Derived.Deep.RegionLaw
import Derived.Outline
import Derived.Deep.LoopGhost
namespace Go.Proofs.Qxb6619618a
open Go.RowKit Go.Maps

/-- A session lies at block s: its two fields. -/
structure SessAt (w : World) (s : Nat) (d : Int) (b : Nat) : Prop where
  done : w.cell? ⟨s, 0, none⟩ = some (.int .u64 d)
  set : w.cell? ⟨s, 1, none⟩ = some (.map (some b))
  free : w.frozen? ⟨s, 0, none⟩ = false

theorem SessAt.set_done {w : World} {s b : Nat} {d : Int} (h : SessAt w s d b) (d' : Int) : SessAt (w.setCell ⟨s, 0, none⟩ (.int .u64 d')) s d' b :=
  ⟨World.cell?_setCell_same _ _ _ h.done, by rw [World.cell?_setCell_other _ _ _ _ (by simp)]; exact h.set, by rw [World.frozen?_setCell]; exact h.free⟩
theorem SessAt.turns {w w' : World} {s b : Nat} {d : Int} {T : Nat → Prop} (h : SessAt w s d b) (ht : Turns w w' T) (hs : ¬ T s) : SessAt w' s d b :=
  ⟨by rw [ht.cell (p := ⟨s, 0, none⟩) hs]; exact h.done, by rw [ht.cell (p := ⟨s, 1, none⟩) hs]; exact h.set, by rw [ht.frozen (p := ⟨s, 0, none⟩) hs]; exact h.free⟩
theorem SessAt.below {w w' : World} {s b B : Nat} {d : Int} (h : SessAt w s d b) (ht : Below B w w') (hs : s < B) : SessAt w' s d b :=
  ⟨by rw [ht.cell (p := ⟨s, 0, none⟩) hs]; exact h.done, by rw [ht.cell (p := ⟨s, 1, none⟩) hs]; exact h.set, by rw [ht.frozen (p := ⟨s, 0, none⟩) hs]; exact h.free⟩

/-- seq is settled already. -/
theorem settle_old (s b : Nat) (d seq : Int) (w : World) (hs : SessAt w s d b) (hle : seq ≤ d) :
    Calls Try.prog 20 #[.pointer (some ⟨s, 0, none⟩), .int .u64 seq] w fun e w' => e = .returned (.tuple #[]) ∧ w' = w := by
  have h0 := hs.done
  go_enter Try.func20, Try.ntmps20
  go_wp2
  refine bodyPost_ret (results_none rfl _ _ _) rfl ?_
  exact ⟨rfl, rfl⟩

set_option maxHeartbeats 400000 in
theorem settle_new (s b : Nat) (d seq : Int) (S : List Int) (w : World) (hs : SessAt w s d b) (hb : SetAt w b S) (hne : b ≠ s) (hn : S.length < maxLen) (hS : ∀ x ∈ S, d < x) (hU : ∀ x ∈ S, U64 x) (hd : U64 d) (hq : U64 seq) (hlt : ¬ seq ≤ d) :
    Calls Try.prog 20 #[.pointer (some ⟨s, 0, none⟩), .int .u64 seq] w fun e w' => e = .returned (.tuple #[]) ∧
      ∃ d' S', SessAt w' s d' b ∧ SetAt w' b S' ∧ Ran d (insS seq S) d' ∧ Rest (insS seq S) d' S' ∧ Turns w w' (fun k => k = s ∨ k = b) := by
  have h0 := hs.done
  have h1 := hs.set
  go_enter Try.func20, Try.ntmps20
  go_wp2_with (first
    | (at_mapUpdate; refine wpList_setStore _ rfl _ _ _ rfl b S hb hn seq hq rfl rfl rfl ?_; intro w1 hb1 ht1)
    | go_in)
  go_loopg [24] (insS seq S).length (fun g _ wr => ∃ dc Sc, g = Sc.length ∧ SessAt wr s dc b ∧ SetAt wr b Sc ∧ Climbs d (insS seq S) dc Sc ∧ U64 dc ∧ Turns w wr (fun k => k = s ∨ k = b))
  case atStart =>
    have hA : ∀ x, x ∈ insS seq S → d < x := fun x hx => by
      rcases mem_insS.1 hx with rfl | h
      · omega
      · exact hS x h
    have hT := (Turns.refl w (fun k => k = s ∨ k = b)).map (Or.inr rfl) ht1
    have hT1 := (Turns.refl w (fun k => k = b)).map rfl ht1
    exact ⟨d, insS seq S, rfl, hs.turns hT1 (fun e => hne e.symm), hb1, climbs_start hb1.nodup hA, hd, hT⟩
  case round =>
    obtain ⟨dc, Sc, hg, hss, hbb, hcl, hdc, hT⟩ := hrel
    have c0 := hss.done
    have c1 := hss.set
    have f0 := hss.free
    have hUc : ∀ x ∈ Sc, U64 x := fun x hx => by
      rcases mem_insS.1 ((hcl.2.2.2 x).1 hx).1 with rfl | h
      · exact hq
      · exact hU x h
    by_cases hin : dc + 1 ∈ Sc
    · have hu := hUc _ hin
      have hlk : ∀ n, (Instr.lookup 36 (.map (some b)) (.int .u64 (dc + 1)) false).run Try.prog (wr.drewN n) = .ok (.bool true) (wr.drewN n) := fun n => by
        rw [(hbb.drewN n).look hu, decide_eq_true hin]
      have b1 : dc + 1 ≤ 18446744073709551615 := hu.2
      have b0 : 0 ≤ dc := hdc.1
      go_wp2
      go_quiet (fail)
      go_wp2
      have hwr : IntKind.u64.wrap (dc + 1) = dc + 1 := by rw [IntKind.wrap_u64]; omega
      go_region_law (refine step_setDrop rfl _ _ rfl b Sc (by exact hbb) _ hu rfl rfl ?_; intro w2 hb2 ht2)
      all_goals
        have hT2 : Turns wr w2 (fun k => k = b) := ((Turns.refl wr (fun k => k = b)).drewN _).map rfl ht2
        have hss2 := hss.turns hT2 (fun e => hne e.symm)
        have q0 := hss2.done
        have q2 := hss2.free
        have hTT : Turns w w2 (fun k => k = s ∨ k = b) := (hT.drewN _).map (Or.inr rfl) ht2
        go_wp2
        go_roundg (Sc.erase (dc + 1)).length
        case measure =>
          have := List.length_pos_of_mem hin
          rw [List.length_erase_of_mem hin]; omega
        case rel => exact ⟨dc + 1, Sc.erase (dc + 1), rfl, hss2.set_done _, hb2.setCell (by exact hne) _, climbs_step hcl hin, hu, hTT.setCell (Or.inl rfl) _⟩
    · have hno : IntKind.u64.wrap (dc + 1) ∉ Sc := fun hx => by
        have h1 := ((hcl.2.2.2 _).1 hx).2
        have h2 := (hUc _ hx).2
        rw [IntKind.wrap_u64] at h1 hx
        have h3 := hdc.1
        have h4 := hdc.2
        by_cases e : dc = 18446744073709551615
        · subst e; simp at h1
        · rw [Int.emod_eq_of_lt (by omega) (by omega)] at hx
          exact hin hx
      have hlk : ∀ n, (Instr.lookup 36 (.map (some b)) (.int .u64 (IntKind.u64.wrap (dc + 1))) false).run Try.prog (wr.drewN n) = .ok (.bool false) (wr.drewN n) := fun n => by
        rw [(hbb.drewN n).look (by have := IntKind.wrap_u64 (dc + 1); constructor <;> omega), decide_eq_false hno]
      go_wp2
      go_quiet (fail)
      go_wp2
      go_end0
      exact ⟨rfl, dc, Sc, ⟨c0, c1, f0⟩, hbb.drewN _, (climbs_end hcl hin).1, (climbs_end hcl hin).2, hT.drewN _⟩

theorem settle_any (s b : Nat) (d seq : Int) (S : List Int) (w : World) (hs : SessAt w s d b) (hb : SetAt w b S) (hne : b ≠ s) (hn : S.length < maxLen) (hS : ∀ x ∈ S, d < x) (hU : ∀ x ∈ S, U64 x) (hd : U64 d) (hq : U64 seq) :
    Calls Try.prog 20 #[.pointer (some ⟨s, 0, none⟩), .int .u64 seq] w fun e w' => e = .returned (.tuple #[]) ∧
      ∃ d' S', SessAt w' s d' b ∧ SetAt w' b S' ∧ Settled d S seq d' S' ∧ Turns w w' (fun k => k = s ∨ k = b) := by
  by_cases hle : seq ≤ d
  · refine (settle_old s b d seq w hs hle).mono ?_
    rintro e w' ⟨rfl, rfl⟩
    exact ⟨rfl, d, S, hs, hb, Or.inl ⟨hle, rfl, rfl⟩, Turns.refl _ _⟩
  · refine (settle_new s b d seq S w hs hb hne hn hS hU hd hq hle).mono ?_
    rintro e w' ⟨rfl, d', S', h1, h2, h3, h4, h5⟩
    exact ⟨rfl, d', S', h1, h2, Or.inr ⟨by omega, h3, h4⟩, h5⟩

/-- 'ZZSettle' -/
theorem zzsettle_any (s b : Nat) (d seq : Int) (S : List Int) (w : World) (hs : SessAt w s d b) (hb : SetAt w b S) (hne : b ≠ s) (hn : S.length < maxLen) (hS : ∀ x ∈ S, d < x) (hU : ∀ x ∈ S, U64 x) (hd : U64 d) (hq : U64 seq) :
    Calls Try.prog 15 #[.pointer (some ⟨s, 0, none⟩), .int .u64 seq] w fun e w' => e = .returned (.tuple #[]) ∧
      ∃ d' S', SessAt w' s d' b ∧ SetAt w' b S' ∧ Settled d S seq d' S' ∧ Turns w w' (fun k => k = s ∨ k = b) := by
  go_enter Try.func15, Try.ntmps15
  go_wp2_with (go_at_call 20; refine (settle_any s b d seq S _ hs hb hne hn hS hU hd hq).mono ?_; rintro e w' ⟨rfl, hex⟩)
  go_end0
  exact ⟨rfl, hex⟩

/-- 'ZZNewSession' -/
theorem zznew_any (b : Nat) (d : Int) (w : World) :
    Calls Try.prog 14 #[.int .u64 d, .map (some b)] w fun e w' => e = .returned (.pointer (some ⟨w.heap.size, 0, none⟩)) ∧ w.alloc (.cells #[.int .u64 d, .map (some b)] 46) = w' := by
  go_enter Try.func14, Try.ntmps14
  go_wp2
  go_ret
  exact ⟨rfl, rfl⟩

/-- 'ZZSessionDone' -/
theorem zzdone_any (s b : Nat) (d : Int) (w : World) (hs : SessAt w s d b) :
    Calls Try.prog 16 #[.pointer (some ⟨s, 0, none⟩)] w fun e w' => e = .returned (.int .u64 d) ∧ w = w' := by
  have h0 := hs.done
  go_enter Try.func16, Try.ntmps16
  go_wp2
  go_ret
  exact ⟨rfl, rfl⟩

theorem sess_new (w : World) (d : Int) (b : Nat) : SessAt (w.alloc (.cells #[.int .u64 d, .map (some b)] 46)) w.heap.size d b :=
  ⟨by go_simp, by go_simp, by go_simp⟩

/-- The bounds on lengths, laid by program. -/
theorem bytes13 (a0 a2 : Int) (a : Option Addr) (n c : Nat) (w : World) (hn : n ≤ maxLen) :
    Calls Try.prog 13 #[.int .u64 a0, .slice a n c, .int .u64 a2] w fun e w' => e = .returned (.bool (decide (n ≤ 1048576))) ∧ w = w' := by
  unfold maxLen at hn
  by_cases h : n ≤ 1048576
  · rw [decide_eq_true h]
    go_enter Try.func13, Try.ntmps13
    go_wp2
    go_ret
    exact ⟨rfl, rfl⟩
  · rw [decide_eq_false h]
    go_enter Try.func13, Try.ntmps13
    go_wp2
    go_ret
    exact ⟨rfl, rfl⟩
theorem bytes17 (a0 : Int) (a : Option Addr) (n c : Nat) (w : World) (hn : n ≤ maxLen) :
    Calls Try.prog 17 #[.int .u64 a0, .slice a n c] w fun e w' => e = .returned (.bool (decide (n ≤ 1048576))) ∧ w = w' := by
  unfold maxLen at hn
  by_cases h : n ≤ 1048576
  · rw [decide_eq_true h]
    go_enter Try.func17, Try.ntmps17
    go_wp2
    go_ret
    exact ⟨rfl, rfl⟩
  · rw [decide_eq_false h]
    go_enter Try.func17, Try.ntmps17
    go_wp2
    go_ret
    exact ⟨rfl, rfl⟩

end Go.Proofs.Qxb6619618a
