/-
  THE WALK OF 'zzSortedCopy'.
-/
import Derived.Test.Qxb6619618aPlain2
import Derived.Test.Qxb6619618aSettle
import Derived.Deep.OwnRows
import Derived.Deep.DeepCutAuto
namespace Go.Proofs.Qxb6619618a
open Go.RowKit Go.Maps

theorem info33 : (Try.prog.info? 33).map (fun i => (i.zero, i.size, i.bytes)) = some (some (.int .u64 0), 1, 8) := by kernel_rfl

/-- Block g is a row of n numbers of the kind uint64. -/
def Row (w : World) (g n : Nat) (F : Nat → Int) : Prop := w.rowIs g 33 n (fun i => .int .u64 (F i))

theorem Row.cell {w : World} {g n : Nat} {F : Nat → Int} (h : Row w g n F) {i : Nat} (hi : i < n) : w.cell? ⟨g, i, none⟩ = some (.int .u64 (F i)) := World.rowIs.cell h hi
theorem Row.free {w : World} {g n : Nat} {F : Nat → Int} (h : Row w g n F) (i : Nat) : w.frozen? ⟨g, i, none⟩ = false := World.rowIs.frozen h i
theorem Row.store {w : World} {g n : Nat} {F : Nat → Int} (h : Row w g n F) (i : Nat) (x : Int) : Row (w.setCell ⟨g, i, none⟩ (.int .u64 x)) g n (upd F i x) :=
  (World.rowIs.set h i (.int .u64 x)).congr fun j _ => by
    by_cases e : j = i
    · subst e; rw [if_pos rfl, upd_same]
    · rw [if_neg e, upd_other _ _ e]
theorem Row.congr {w : World} {g n : Nat} {F G : Nat → Int} (h : Row w g n F) (e : ∀ i, i < n → F i = G i) : Row w g n G := World.rowIs.congr h fun i hi => by rw [e i hi]
theorem Row.below {w w' : World} {g n B : Nat} {F : Nat → Int} (h : Row w g n F) (hb : Below B w w') (hg : g < B) : Row w' g n F := World.rowIs.of_block h (hb.block g hg)
theorem Row.drewN {w : World} {g n : Nat} {F : Nat → Int} (h : Row w g n F) (m : Nat) : Row (w.drewN m) g n F := h

theorem size_setCell (w : World) (a : Addr) (v : Value) : (w.setCell a v).heap.size = w.heap.size := by simp [World.setCell]

set_option maxRecDepth 100000 in
set_option maxHeartbeats 1000000 in
theorem sorted_walk (a : Option Addr) (b off n c : Nat) (z : List Int) (w : World) (hn : n ≤ 4096)
    (ha : 0 < n → a = some ⟨b, off, none⟩) (hbl : 0 < n → b < w.heap.size) (hc : ∀ j, j < n → w.cell? ⟨b, off + j, none⟩ = some (.int .u64 (z.getD j 0))) :
    Calls Try.prog 18 #[.slice a n c] w fun e w' => e = .returned (.slice (some ⟨w.heap.size, 0, none⟩) n n) ∧
      ∃ F, Row w' w.heap.size n F ∧ SortedTo F n ∧ (∀ y, AtF F n y ↔ AtF (fun i => z.getD i 0) n y) ∧ Below w.heap.size w w' ∧ w'.heap.size = w.heap.size + 1 := by
  have hmk := fun w => run_make_row' (P := Try.prog) 34 33 (.int .u64 0) 8 Try.underlying34 info33 rfl .i64 .i64 n (by omega) (by omega) w
  go_enter Try.func18, Try.ntmps18
  go_wp2
  go_loopg [4] n (fun g s4 wx => ∃ (k : Nat) (F : Nat → Int), g = n - k ∧ k ≤ n ∧ s4 = .int .i64 k ∧ Row wx w.heap.size n F ∧ (∀ i, i < k → F i = z.getD i 0) ∧ Below w.heap.size w wx ∧ Hid (wx.heap.size = w.heap.size + 1))
  case atStart => exact ⟨0, fun _ => 0, rfl, Nat.zero_le _, rfl, World.rowIs_made w (.int .u64 0) n 33, fun i hi => by omega, (Below.refl _ _).alloc (Nat.le_refl _) _, by simp [Hid]⟩
  case round =>
    obtain ⟨k, F, hg, hk, rfl, hrow, hF, hbel, hsz⟩ := hrel
    by_cases hlt : k < n
    · obtain rfl := ha (by omega)
      have hck : wr.cell? ⟨b, off + k, none⟩ = some (.int .u64 (z[k]?.getD 0)) := (hbel.cell (hbl (by omega))).trans (hc k hlt)
      have hco := hrow.cell hlt
      have hfo := hrow.free k
      go_wp2
      go_roundg (n - (k + 1))
      case measure => omega
      case rel =>
        refine ⟨k + 1, upd F k (z.getD k 0), rfl, by omega, rfl, hrow.store k _, fun i hi => ?_, hbel.setCell (Nat.le_refl _) _, by simp only [Hid] at hsz ⊢; rw [size_setCell]; exact hsz⟩
        by_cases e : i = k
        · subst e; exact upd_same _ _ _
        · rw [upd_other _ _ e]; exact hF i (by omega)
    · have hkn : n = k := by omega
      subst hkn
      go_wp2
      have hm0 : ∀ y, AtF F n y ↔ AtF (fun i => z.getD i 0) n y := fun y => by
        constructor
        · rintro ⟨i, hi, rfl⟩; exact ⟨i, hi, (hF i hi).symm⟩
        · rintro ⟨i, hi, rfl⟩; exact ⟨i, hi, hF i hi⟩
      go_loopg [5] n (fun g s5 wx => ∃ (k : Nat) (F : Nat → Int), g = n + 1 - k ∧ 1 ≤ k ∧ k ≤ n + 1 ∧ s5 = .int .i64 k ∧ Row wx w.heap.size n F ∧ SortedTo F k ∧ (∀ y, AtF F n y ↔ AtF (fun i => z.getD i 0) n y) ∧ Below w.heap.size w wx ∧ Hid (wx.heap.size = w.heap.size + 1))
      case atStart => exact ⟨1, F, by omega, Nat.le_refl _, by omega, rfl, hrow, fun i j h1 h2 => by omega, hm0, hbel, hsz⟩
      case round =>
        obtain ⟨k, F, hg2, hk1, hk2, rfl, hrow2, hso, hmm, hbel2, hsz2⟩ := hrel
        by_cases hlt : k < n
        · have hck := hrow2.cell hlt
          have hs0 := sinks_start hlt hmm hso
          obtain ⟨x, hx⟩ : ∃ x, F k = x := ⟨_, rfl⟩
          rw [hx] at hck hs0
          clear hx
          go_wp2
          obtain ⟨wo, rfl⟩ : ∃ wo : World, wo = wr := ⟨_, rfl⟩
          go_loopg [7] k (fun g s7 wx => ∃ (j : Nat) (G : Nat → Int), g = j ∧ s7 = .int .i64 j ∧ Row wx w.heap.size n G ∧ Sinks (fun i => z.getD i 0) G n k j x ∧ Below w.heap.size w wx ∧ Hid (wx.heap.size = w.heap.size + 1))
          case atStart => exact ⟨k, F, rfl, rfl, hrow2, hs0, hbel2, hsz2⟩
          case round =>
            obtain ⟨j, G, hg3, rfl, hrow3, hsk, hbel3, hsz3⟩ := hrel
            have hlow := hsk.low
            by_cases hj : 0 < j
            · have hl0 : (0 : Int) < (j : Int) := by omega
              have hcj := hrow3.cell (i := j - 1) (by omega)
              by_cases hxx : x < G (j - 1)
              · have hst := sinks_step hsk hj hxx
                have hco := hrow3.cell (i := j) (by omega)
                have hfo := hrow3.free j
                go_wp2
                go_roundg (j - 1)
                case measure => omega
                case rel => exact ⟨j - 1, _, rfl, by go_num, hrow3.store j _, hst, hbel3.setCell (Nat.le_refl _) _, by simp only [Hid] at hsz3 ⊢; rw [size_setCell]; exact hsz3⟩
              · skip
                have hend := sinks_end hsk (fun _ => by omega)
                have hco := hrow3.cell (i := j) (by have := hsk.low; have := hsk.high; omega)
                have hfo := hrow3.free j
                go_wp2
                go_roundg (n + 1 - (k + 1))
                case measure => omega
                case rel => exact ⟨k + 1, upd G j x, rfl, by omega, by omega, by go_num, hrow3.store j x, hend.2, hend.1, hbel3.setCell (Nat.le_refl _) _, by simp only [Hid] at hsz3 ⊢; rw [size_setCell]; exact hsz3⟩
            · have hl0 : decide ((0 : Int) < (j : Int)) = false := decide_eq_false (by omega)
              have hend := sinks_end hsk (fun h => absurd h hj)
              have hco := hrow3.cell (i := j) (by have := hsk.low; have := hsk.high; omega)
              have hfo := hrow3.free j
              go_wp2
              go_roundg (n + 1 - (k + 1))
              case measure => omega
              case rel => exact ⟨k + 1, upd G j x, rfl, by omega, by omega, by go_num, hrow3.store j x, hend.2, hend.1, hbel3.setCell (Nat.le_refl _) _, by simp only [Hid] at hsz3 ⊢; rw [size_setCell]; exact hsz3⟩
        · go_wp2
          go_ret
          exact ⟨rfl, F, hrow2, fun i j h1 h2 => hso i j h1 (by omega), hmm, hbel2, hsz2⟩

end Go.Proofs.Qxb6619618a
