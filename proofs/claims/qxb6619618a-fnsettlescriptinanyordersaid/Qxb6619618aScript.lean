/-
  THE WALK OF 'FnSettleScriptInAnyOrder'.
-/
import Derived.Test.Qxb6619618aSort
import Derived.Deep.RegionWith
import Derived.Deep.CutBlock
namespace Go.Proofs.Qxb6619618a
open Go.RowKit Go.Maps

/-- What lies at d+1 (round the corner too) is not in the set. -/
theorem wrap_out {d : Int} {S : List Int} (hd : U64 d) (hS : ∀ x ∈ S, d < x) (hU : ∀ x ∈ S, U64 x) (hno : d + 1 ∉ S) : IntKind.u64.wrap (d + 1) ∉ S := fun hx => by
  have h1 := hS _ hx
  have h2 := (hU _ hx).2
  rw [IntKind.wrap_u64] at h1 hx
  have h3 := hd.1
  have h4 := hd.2
  by_cases e : d = 18446744073709551615
  · subst e; simp at h1
  · rw [Int.emod_eq_of_lt (by omega) (by omega)] at hx
    exact hno hx

theorem wrap_u64_in (x : Int) : U64 (IntKind.u64.wrap x) := by have := IntKind.wrap_u64 x; constructor <;> omega

theorem settled_u64' {d seq d' : Int} {S S' : List Int} (h : Settled d S seq d' S') (hd : U64 d) (hq : U64 seq) (hU : ∀ x ∈ S, U64 x) : U64 d' := by
  rcases h with ⟨_, rfl, _⟩ | ⟨_, hran, _⟩
  · exact hd
  · by_cases e : d' = d
    · exact e ▸ hd
    · rcases mem_insS.1 (hran.2.1 d' (by have := hran.1; omega) (Int.le_refl _)) with rfl | h
      · exact hq
      · exact hU _ h

/-- A SESSION IN THE MIDDLE OF A SCRIPT: at block s, its set at block m, settled so far: what p holds of. -/
structure Mid (w : World) (s m : Nat) (d0 : Int) (p : Int → Prop) (d : Int) (S : List Int) : Prop where
  sess : SessAt w s d m
  set : SetAt w m S
  ran : RanP d0 p d
  rest : RestP p d S
  num : U64 d
  nums : ∀ x ∈ S, U64 x

theorem Mid.turns {w w' : World} {s m : Nat} {d0 : Int} {p : Int → Prop} {d : Int} {S : List Int} (h : Mid w s m d0 p d S) {T : Nat → Prop} (ht : Turns w w' T) (hs : ¬ T s) (hm : ¬ T m) : Mid w' s m d0 p d S :=
  ⟨h.sess.turns ht hs, h.set.turns ht hm, h.ran, h.rest, h.num, h.nums⟩
theorem Mid.below {w w' : World} {s m : Nat} {d0 : Int} {p : Int → Prop} {d : Int} {S : List Int} (h : Mid w s m d0 p d S) {B : Nat} (ht : Below B w w') (hs : s < B) (hm : m < B) : Mid w' s m d0 p d S :=
  ⟨h.sess.below ht hs, h.set.below ht hm, h.ran, h.rest, h.num, h.nums⟩
theorem Mid.out {w : World} {s m : Nat} {d0 : Int} {p : Int → Prop} {d : Int} {S : List Int} (h : Mid w s m d0 p d S) : IntKind.u64.wrap (d + 1) ∉ S :=
  wrap_out h.num (fun x hx => ((h.rest.2 x).1 hx).2) h.nums fun hx => h.ran.2.2 ((h.rest.2 _).1 hx).1
theorem Mid.look {w : World} {s m : Nat} {d0 : Int} {p : Int → Prop} {d : Int} {S : List Int} (h : Mid w s m d0 p d S) : (Instr.lookup 36 (.map (some m)) (.int .u64 (IntKind.u64.wrap (d + 1))) false).run Try.prog w = .ok (.bool false) w := by
  rw [h.set.look (wrap_u64_in _), decide_eq_false h.out]

/-- ONE SETTLE. -/
theorem mid_settle (s m : Nat) (d0 d seq : Int) (p q : Int → Prop) (S : List Int) (w : World) (h : Mid w s m d0 p d S) (hne : m ≠ s) (hn : S.length < maxLen) (hsq : U64 seq) (hq : ∀ x, q x ↔ x = seq ∨ p x) :
    Calls Try.prog 15 #[.pointer (some ⟨s, 0, none⟩), .int .u64 seq] w fun e w' => e = .returned (.tuple #[]) ∧
      ∃ d' S', Mid w' s m d0 q d' S' ∧ S'.length ≤ S.length + 1 ∧ Turns w w' (fun k => k = s ∨ k = m) := by
  refine (zzsettle_any s m d seq S w h.sess h.set hne hn (fun x hx => ((h.rest.2 x).1 hx).2) h.nums h.num hsq).mono ?_
  rintro e w' ⟨rfl, d', S', h1, h2, h3, h4⟩
  obtain ⟨r1, r2⟩ := ranP_step h.ran h.rest h3 hq
  have hmem : ∀ x, x ∈ S' → x ∈ insS seq S := fun x hx => by
    rcases h3 with ⟨_, _, rfl⟩ | ⟨_, _, hr⟩
    · exact mem_insS.2 (Or.inr hx)
    · exact ((hr.2 x).1 hx).1
  refine ⟨rfl, d', S', ⟨h1, h2, r1, r2, settled_u64' h3 h.num hsq h.nums, fun x hx => ?_⟩, ?_, h4⟩
  · rcases mem_insS.1 (hmem x hx) with rfl | h'
    · exact hsq
    · exact h.nums x h'
  · exact Nat.le_trans (length_le_of_nodup S' (insS seq S) r2.1 hmem) (length_insS_le _ _)

set_option maxRecDepth 100000 in
theorem script_long (d : Int) (a : Option Addr) (n c : Nat) (w : World) (hn : n ≤ maxLen) (hl : 4096 < n) :
    Calls Try.prog 6 #[.int .u64 d, .slice a n c] w fun e w' => e = .returned (.bool true) ∧ w = w' := by
  have hb := bytes17 d a n c w hn
  unfold maxLen at hn
  by_cases h : n ≤ 1048576
  · rw [decide_eq_true h] at hb
    go_enter Try.func6, Try.ntmps6
    go_wp2_with (go_at_call 17; refine hb.mono ?_; rintro e w' ⟨rfl, rfl⟩)
    go_ret
    exact ⟨rfl, rfl⟩
  · rw [decide_eq_false h] at hb
    go_enter Try.func6, Try.ntmps6
    go_wp2_with (go_at_call 17; refine hb.mono ?_; rintro e w' ⟨rfl, rfl⟩)
    go_ret
    exact ⟨rfl, rfl⟩

/-- 'len(m)' at the operation, under a guard that says yes. -/
theorem wpList_setLenW {ops : Array Oper} {rest : List Oper} {o : Oper} {a : Act} {Q : Exit → Act → World → Prop} (w : World) (hw : Region.wanted o (yielded ops a.tmps) = true) (m : Operand) (hop : o.op = Op.call { callee := Callee.builtin Builtin.len, args := #[m], argTypes := #[36] }) (b : Nat) (S : List Int) (h : SetAt w b S)
    (hm : a.eval m = .map (some b)) (hK : wpList Try.prog ops Q rest (a.put o.dst (.int .i64 S.length)) w) : wpList Try.prog ops Q (o :: rest) a w := by
  refine BigFrame.wpList_want hw fun K' hK' => ?_
  unfold Oper.wp
  simp [execOp, hop, resolve, invoke, builtin, hm, h.len o.type, Result.andThen]
  exact hK' _ _ hK

set_option maxRecDepth 100000 in
set_option maxHeartbeats 1000000 in
theorem script_walk (d : Int) (a : Option Addr) (b off n c : Nat) (z : List Int) (w : World) (hd : U64 d) (hn : n ≤ 4096)
    (ha : 0 < n → a = some ⟨b, off, none⟩) (hbl : 0 < n → b < w.heap.size) (hc : ∀ j, j < n → w.cell? ⟨b, off + j, none⟩ = some (.int .u64 (z.getD j 0))) (hu : ∀ j, U64 (z.getD j 0)) :
    Calls Try.prog 6 #[.int .u64 d, .slice a n c] w fun e w' => e = .returned (.bool true) ∧ Below w.heap.size w w' := by
  have hb := bytes17 d a n c w (by unfold maxLen; omega)
  rw [decide_eq_true (by omega)] at hb
  have hmk := @run_makeMap Try.prog
  go_enter Try.func6, Try.ntmps6
  go_wp2_with (first
    | (go_at_call 17; refine hb.mono ?_; rintro e w' ⟨rfl, rfl⟩)
    | (go_at_call 14; refine (zznew_any _ _ _).mono ?_; rintro e w' ⟨rfl, rfl⟩))
  go_loopg [7] n (fun g s7 wx => ∃ (k : Nat) (df : Int) (Sf : List Int), g = n - k ∧ k ≤ n ∧ s7 = .int .i64 k ∧ Mid wx (w.heap.size + 1) w.heap.size d (AtF (fun i => z.getD i 0) k) df Sf ∧ Sf.length ≤ k ∧ Below w.heap.size w wx ∧ Hid (wx.heap.size = w.heap.size + 2))
  case atStart =>
    have h0 := ranP_start d (p := AtF (fun i => z.getD i 0) 0) (fun x => atF_zero)
    refine ⟨0, d, [], rfl, Nat.zero_le _, rfl, ⟨?_, (setAt_made w).alloc _, h0.1, h0.2, hd, fun x hx => by simp at hx⟩, Nat.le_refl _, ?_, ?_⟩
    · have := sess_new (w.alloc (.map #[] 0)) d w.heap.size
      simpa using this
    · exact ((Below.refl _ _).alloc (Nat.le_refl _) _).alloc (by simp) _
    · simp [Hid]
  case round =>
    obtain ⟨k, df, Sf, hg, hk, rfl, hmid, hlen, hbel, hsz⟩ := hrel
    by_cases hlt : k < n
    · obtain rfl := ha (by omega)
      have hck : wr.cell? ⟨b, off + k, none⟩ = some (.int .u64 (z[k]?.getD 0)) := (hbel.cell (hbl (by omega))).trans (hc k hlt)
      have hset := mid_settle (w.heap.size + 1) w.heap.size d df (z[k]?.getD 0) _ (AtF (fun i => z.getD i 0) (k + 1)) Sf wr hmid (by omega) (by unfold maxLen; omega) (hu k) (fun x => atF_succ)
      go_wp2_with (first
        | (go_at_call 15; refine hset.mono ?_; rintro e w2 ⟨rfl, d2, S2, hmid2, hlen2, hT2⟩; have hlk := hmid2.look)
        | (go_at_call 16; refine (zzdone_any _ _ _ _ hmid2.sess).mono ?_; rintro e w' ⟨rfl, rfl⟩))
      go_roundg (n - (k + 1))
      case measure => omega
      case rel =>
        refine ⟨k + 1, d2, S2, rfl, by omega, by go_num, hmid2, by omega, hbel.trans (hT2.below (fun i hi e => by omega)), ?_⟩
        have := hT2.size
        simp only [Hid] at hsz ⊢
        omega
    · have hkn : n = k := by omega
      subst hkn
      go_wp2_with (go_at_call 14; refine (zznew_any _ _ _).mono ?_; rintro e w' ⟨rfl, rfl⟩)
      obtain ⟨wo, rfl⟩ : ∃ wo : World, wo = wr := ⟨_, rfl⟩
      go_loopg [10] n (fun g s10 wx => ∃ (k : Nat) (t : Int) (db : Int) (Sb : List Int), g = k ∧ k ≤ n ∧ t = (k : Int) - 1 ∧ s10 = .int .i64 t ∧ Mid wx (wo.heap.size + 1) wo.heap.size d (AtTo (fun i => z.getD i 0) k n) db Sb ∧ Sb.length ≤ n - k ∧
        Mid wx (w.heap.size + 1) w.heap.size d (AtF (fun i => z.getD i 0) n) df Sf ∧ Below w.heap.size w wx ∧ Hid (wx.heap.size = wo.heap.size + 2))
      case atStart =>
        have h0 := ranP_start d (p := AtTo (fun i => z.getD i 0) n n) (fun x => atTo_end)
        have hB : Below wo.heap.size wo ((wo.alloc (.map #[] 0)).alloc (.cells #[.int .u64 d, .map (some wo.heap.size)] 46)) := ((Below.refl _ _).alloc (Nat.le_refl _) _).alloc (by simp) _
        refine ⟨n, _, d, [], rfl, Nat.le_refl _, rfl, rfl, ⟨?_, (setAt_made wo).alloc _, h0.1, h0.2, hd, fun x hx => by simp at hx⟩, Nat.zero_le _, hmid.below hB (by simp only [Hid] at hsz; omega) (by simp only [Hid] at hsz; omega), hbel.trans (hB.mono (by simp only [Hid] at hsz; omega)), ?_⟩
        · have := sess_new (wo.alloc (.map #[] 0)) d wo.heap.size
          simpa using this
        · simp [Hid]
      case round =>
        obtain ⟨k, t, db, Sb, hg2, hk2, ht, rfl, hmb, hlb, hmf, hbel2, hsz2⟩ := hrel
        have hN : w.heap.size + 2 ≤ wo.heap.size := by simp only [Hid] at hsz; omega
        by_cases hlt : 0 < k
        · obtain ⟨j, rfl⟩ : ∃ j, k = j + 1 := ⟨k - 1, by omega⟩
          obtain rfl : t = (j : Int) := by omega
          clear ht
          obtain rfl := ha (by omega)
          have hck : wr.cell? ⟨b, off + j, none⟩ = some (.int .u64 (z[j]?.getD 0)) := (hbel2.cell (hbl (by omega))).trans (hc j (by omega))
          have hset := mid_settle (wo.heap.size + 1) wo.heap.size d db (z[j]?.getD 0) _ (AtTo (fun i => z.getD i 0) j n) Sb wr hmb (by omega) (by unfold maxLen; omega) (hu j) (fun x => atTo_step (by omega))
          go_wp2_with (first
            | (go_at_call 15; refine hset.mono ?_; rintro e w2 ⟨rfl, d2, S2, hmid2, hlen2, hT2⟩; have hlk := hmid2.look)
            | (go_at_call 16; refine (zzdone_any _ _ _ _ hmid2.sess).mono ?_; rintro e w' ⟨rfl, rfl⟩))
          go_roundg j
          case measure => omega
          case rel =>
            refine ⟨j, _, d2, S2, rfl, by omega, rfl, rfl, hmid2, by omega, hmf.turns hT2 (fun e => by omega) (fun e => by omega), hbel2.trans (hT2.below (fun i hi e => by omega)), ?_⟩
            have := hT2.size
            simp only [Hid] at hsz2 ⊢
            omega
        · obtain rfl : k = 0 := by omega
          obtain rfl : t = -1 := by omega
          clear ht hlt
          have hmem0 : ∀ x, AtTo (fun i => z.getD i 0) 0 n x ↔ AtF (fun i => z.getD i 0) n x := fun x => atTo_zero
          obtain rfl : db = df := hmb.ran.uniq hmf.ran hmem0
          have hsort := sorted_walk a b off n c z wr hn ha (fun h => Nat.lt_of_lt_of_le (hbl h) hbel2.size) (fun j hj => (hbel2.cell (hbl (by omega))).trans (hc j hj))
          have hNr : wo.heap.size + 2 = wr.heap.size := by simp only [Hid] at hsz2; omega
          have hNr' : Hid (wo.heap.size + 2 = wr.heap.size) := hNr
          clear hNr
          go_upto_block 4 with (go_at_call 18; refine hsort.mono ?_; rintro e w3 ⟨rfl, F, hrow, hso, hFm, hbel3, hsz3⟩)
          have hsz3' : Hid (w3.heap.size = wr.heap.size + 1) := hsz3
          clear hsz3
          have hmf3 := hmf.below hbel3 (by have := hNr'.out; omega) (by have := hNr'.out; omega)
          have hmb3 := hmb.below hbel3 (by have := hNr'.out; omega) (by have := hNr'.out; omega)
          have hbel4 : Below w.heap.size w w3 := hbel2.trans (hbel3.mono hbel2.size)
          have hUF : ∀ i, i < n → U64 (F i) := fun i hi => by
            obtain ⟨j, _, e⟩ := (hFm _).1 ⟨i, hi, rfl⟩
            rw [← e]; exact hu j
          have hfin : ∀ x, RanP d (AtF F n) x → db = x := fun x hx => hmf.ran.uniq hx (fun y => (hFm y).symm)
          have hd0 := hd.1
          have hd1 := hd.2
          go_cut [12] (fun s12 wc => s12 = .int .u64 db ∧ w3 = wc)
          case first =>
            go_wp2
            go_loopg [12, 13] n (fun g s12 s13 wx => ∃ (k : Nat) (want : Int), g = n - k ∧ k ≤ n ∧ s13 = .int .i64 k ∧ s12 = .int .u64 want ∧ Wants d F n k want ∧ U64 want ∧ w3 = wx)
            case atStart => exact ⟨0, d, rfl, Nat.zero_le _, rfl, rfl, wants_start _ _ _, hd, rfl⟩
            case round =>
              obtain ⟨k, want, hg3, hk3, rfl, rfl, hwa, hwu, rfl⟩ := hrel
              have hw0 := hwu.1
              have hw1 := hwu.2
              by_cases hlt : k < n
              · have hck := hrow.cell hlt
                have hu0 := (hUF k hlt).1
                have hu1 := (hUF k hlt).2
                by_cases hv1 : F k ≤ want
                · have hwa' := wants_skip hwa hv1
                  go_wp2
                  go_roundg (n - (k + 1))
                  case measure => omega
                  case rel => exact ⟨k + 1, want, rfl, by omega, by go_num, rfl, hwa', hwu, rfl⟩
                · by_cases hv2 : F k ≤ want + 1
                  · have hv3 : want + 1 ≤ F k := by omega
                    have hwa' := wants_step hwa hlt (Int.le_antisymm hv2 hv3)
                    have hUk := hUF k hlt
                    go_wp2
                    go_roundg (n - (k + 1))
                    case measure => omega
                    case rel => exact ⟨k + 1, F k, rfl, by omega, by go_num, rfl, hwa', hUk, rfl⟩
                  · have hend' : Hid (want = db) := (hfin _ (wants_gap hso hwa (by omega))).symm
                    go_wp2
                    go_meet
                    case rel => exact ⟨by rw [hend'.out], rfl⟩
              · have hkn : n = k := by omega
                subst hkn
                have hend' : Hid (want = db) := (hfin _ (wants_end hwa)).symm
                go_wp2
                go_meet
                case rel => exact ⟨by rw [hend'.out], rfl⟩
          case rest =>
            obtain ⟨rfl, rfl⟩ := hcut
            have hdu0 := hmf.num.1
            have hdu1 := hmf.num.2
            go_wp2
            go_loopg [14, 15] n (fun g s14 s15 wx => ∃ k nn : Nat, g = n - k ∧ k ≤ n ∧ s15 = .int .i64 k ∧ s14 = .int .i64 (cntD F db k) ∧ wx = w3.drewN nn)
            case atStart => exact ⟨0, 0, rfl, Nat.zero_le _, rfl, rfl, rfl⟩
            case round =>
              obtain ⟨k, nn, hg4, hk4, rfl, rfl, rfl⟩ := hrel
              have hcl := cntD_le F db k
              have hce : ∀ t : Nat, (if db < F k ∧ (k = 0 ∨ F k ≠ F (k - 1)) then 1 else 0) = t → Hid ((cntD F db (k + 1) : Int) = (cntD F db k : Int) + t) := fun t ht => by
                show ((cntD F db k + (if db < F k ∧ (k = 0 ∨ F k ≠ F (k - 1)) then 1 else 0) : Nat) : Int) = _
                rw [ht]; simp
              by_cases hlt : k < n
              · have hck := hrow.cell hlt
                have hu0 := (hUF k hlt).1
                have hu1 := (hUF k hlt).2
                by_cases e1 : db < F k
                · by_cases e0 : k = 0
                  · have HC := hce 1 (if_pos ⟨e1, Or.inl e0⟩)
                    clear hce
                    subst e0
                    go_wp2
                    go_quiet (fail)
                    go_wp2
                    go_roundg (n - (0 + 1))
                    case measure => omega
                    case rel => exact ⟨0 + 1, _, rfl, by omega, by go_num, by rw [HC.out]; rfl, rfl⟩
                  · have e2 : ((k : Int) == 0) = false := by simp; omega
                    have hck1 := hrow.cell (i := k - 1) (by omega)
                    by_cases e3 : F k = F (k - 1)
                    · have HC := hce 0 (if_neg (fun h => by rcases h.2 with h | h; exact e0 h; exact h e3))
                      have e4 : (F k == F (k - 1)) = true := by simp [e3]
                      clear hce e3
                      go_wp2
                      go_quiet (fail)
                      go_wp2
                      go_roundg (n - (k + 1))
                      case measure => omega
                      case rel => exact ⟨k + 1, _, rfl, by omega, by go_num, by rw [HC.out]; simp, rfl⟩
                    · have HC := hce 1 (if_pos ⟨e1, Or.inr e3⟩)
                      have e4 : (F k == F (k - 1)) = false := by simp [e3]
                      clear hce e3
                      go_wp2
                      go_quiet (fail)
                      go_wp2
                      go_roundg (n - (k + 1))
                      case measure => omega
                      case rel => exact ⟨k + 1, _, rfl, by omega, by go_num, by rw [HC.out]; rfl, rfl⟩
                · have HC := hce 0 (if_neg (fun h => e1 h.1))
                  have e2 : decide (db < F k) = false := decide_eq_false e1
                  clear hce
                  go_wp2
                  go_quiet (fail)
                  go_wp2
                  go_roundg (n - (k + 1))
                  case measure => omega
                  case rel => exact ⟨k + 1, _, rfl, by omega, by go_num, by rw [HC.out]; simp, rfl⟩
              · have hkn : n = k := by omega
                subst hkn
                clear hce
                have hsf : SessAt (w3.drewN nn) (w.heap.size + 1) db w.heap.size := hmf3.sess.turns ((Turns.refl w3 (fun _ => False)).drewN nn) (fun h => h)
                have hsb : SessAt (w3.drewN nn) (wo.heap.size + 1) db wo.heap.size := hmb3.sess.turns ((Turns.refl w3 (fun _ => False)).drewN nn) (fun h => h)
                go_wp2_with fail
                refine (zzdone_any _ _ _ _ hsf).mono ?_
                rintro e w' ⟨rfl, rfl⟩
                go_wp2_with fail
                refine (zzdone_any _ _ _ _ hsb).mono ?_
                rintro e w' ⟨rfl, rfl⟩
                go_wp2_with fail
                go_loopg [16] n (fun g s16 wx => ∃ k mm : Nat, g = n - k ∧ k ≤ n ∧ s16 = .int .i64 k ∧ wx = w3.drewN mm)
                case atStart => exact ⟨0, nn, rfl, Nat.zero_le _, rfl, rfl⟩
                case round =>
                  obtain ⟨k, mm, hg5, hk5, rfl, rfl⟩ := hrel
                  by_cases hlt : k < n
                  · obtain rfl := ha (by omega)
                    have hck : w3.cell? ⟨b, off + k, none⟩ = some (.int .u64 (z[k]?.getD 0)) := (hbel4.cell (hbl (by omega))).trans (hc k hlt)
                    have hu0 : 0 ≤ z[k]?.getD 0 := (hu k).1
                    have hu1 : z[k]?.getD 0 ≤ 18446744073709551615 := (hu k).2
                    have hAt : AtF (fun i => z.getD i 0) n (z[k]?.getD 0) := ⟨k, hlt, rfl⟩
                    have hlf : ∀ m (t : Bool), decide (db < z[k]?.getD 0) = t → (Instr.lookup 36 (.map (some w.heap.size)) (.int .u64 (z[k]?.getD 0)) false).run Try.prog (w3.drewN m) = .ok (.bool t) (w3.drewN m) := fun m t ht => by
                      have e : (z[k]?.getD 0 ∈ Sf) = (db < z[k]?.getD 0) := propext ⟨fun h => ((hmf3.rest.2 _).1 h).2, fun h => (hmf3.rest.2 _).2 ⟨hAt, h⟩⟩
                      refine ((hmf3.set.drewN m).look (hu k)).trans ?_
                      show Result.ok (Value.bool (decide (z[k]?.getD 0 ∈ Sf))) _ = _
                      simp only [e, ht]
                    have hlb2 : ∀ m (t : Bool), decide (db < z[k]?.getD 0) = t → (Instr.lookup 36 (.map (some wo.heap.size)) (.int .u64 (z[k]?.getD 0)) false).run Try.prog (w3.drewN m) = .ok (.bool t) (w3.drewN m) := fun m t ht => by
                      have e : (z[k]?.getD 0 ∈ Sb) = (db < z[k]?.getD 0) := propext ⟨fun h => ((hmb3.rest.2 _).1 h).2, fun h => (hmb3.rest.2 _).2 ⟨(hmem0 _).2 hAt, h⟩⟩
                      refine ((hmb3.set.drewN m).look (hu k)).trans ?_
                      show Result.ok (Value.bool (decide (z[k]?.getD 0 ∈ Sb))) _ = _
                      simp only [e, ht]
                    by_cases e1 : db < z[k]?.getD 0
                    · have l1 := fun m => hlf m true (decide_eq_true e1)
                      have l2 := fun m => hlb2 m true (decide_eq_true e1)
                      clear hlf hlb2
                      go_wp2
                      go_quiet (fail)
                      go_wp2
                      go_roundg (n - (k + 1))
                      case measure => omega
                      case rel => exact ⟨k + 1, _, rfl, by omega, by go_num, rfl⟩
                    · have l1 := fun m => hlf m false (decide_eq_false e1)
                      have l2 := fun m => hlb2 m false (decide_eq_false e1)
                      clear hlf hlb2
                      go_wp2
                      go_quiet (fail)
                      go_wp2
                      go_roundg (n - (k + 1))
                      case measure => omega
                      case rel => exact ⟨k + 1, _, rfl, by omega, by go_num, rfl⟩
                  · have hkn : n = k := by omega
                    subst hkn
                    have hLf : Hid ((Sf.length : Int) = cntD F db n) := by
                      show (Sf.length : Int) = _
                      rw [cntD_eq hso hmf3.rest hFm]
                    have hLb : Hid ((Sb.length : Int) = cntD F db n) := by
                      show (Sb.length : Int) = _
                      rw [cntD_eq hso hmb3.rest (fun x => (hFm x).trans (hmem0 x).symm)]
                    have hTf : ((Sf.length : Int) == (cntD F db n : Int)) = true := by rw [hLf.out]; simp
                    have hTb : ((Sb.length : Int) == (cntD F db n : Int)) = true := by rw [hLb.out]; simp
                    have hsetf : SetAt (w3.drewN mm) w.heap.size Sf := hmf3.set
                    have hsetb : SetAt (w3.drewN mm) wo.heap.size Sb := hmb3.set
                    have hBf : Below w.heap.size w (w3.drewN mm) := ⟨hbel4.os, hbel4.tape, hbel4.output, hbel4.size, hbel4.block⟩
                    go_wp2_with (first
                      | (at_len; refine wpList_setLen _ rfl _ rfl w.heap.size Sf hsetf rfl ?_)
                      | (at_len; refine wpList_setLenW _ (by rfl) _ rfl wo.heap.size Sb hsetb rfl ?_)
                      | go_in)
                    go_ret
                    exact ⟨rfl, hBf⟩

end Go.Proofs.Qxb6619618a
