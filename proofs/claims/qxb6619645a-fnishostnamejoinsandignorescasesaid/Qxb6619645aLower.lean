/-
  THE WALK OF 'asciiLower' AND OF THE SHIM ROUND IT.
-/
import Derived.Test.Qxb6619645aPlain
import Derived.Test.Qxb6619645aProg
import Derived.WalkKit
import Derived.WalkLawsBesides
import Derived.Below
import Derived.Lib.ConvBytes
import Derived.Laws.IdiomStrings
import Derived.Deep.LoopGhost
import Derived.Outline
namespace Go.Proofs.Qxb6619645a
open Go.RowKit

/-- The first n cells of block g hold the numbers F, and may be written. -/
structure Cells (w : World) (g n : Nat) (F : Nat → Int) : Prop where
  cell : ∀ j, j < n → w.cell? ⟨g, j, none⟩ = some (.int .u8 (F j))
  free : ∀ j, j < n → w.frozen? ⟨g, j, none⟩ = false

theorem Cells.store {w : World} {g n : Nat} {F G : Nat → Int} (h : Cells w g n F) (k : Nat) (hk : k < n) (hG : ∀ j, j ≠ k → G j = F j) : Cells (w.setCell ⟨g, k, none⟩ (.int .u8 (G k))) g n G := by
  refine ⟨fun j hj => ?_, fun j hj => by rw [World.frozen?_setCell]; exact h.free j hj⟩
  by_cases e : j = k
  · subst e; exact World.cell?_setCell_same _ _ _ (h.cell j hj)
  · rw [World.cell?_setCell_other _ _ _ _ (fun h => e (by cases h; rfl)), h.cell j hj, hG j e]

theorem Cells.congr {w : World} {g n : Nat} {F G : Nat → Int} (h : Cells w g n F) (e : ∀ j, j < n → F j = G j) : Cells w g n G := ⟨fun j hj => by rw [h.cell j hj, e j hj], h.free⟩

theorem below_bytesWorld (w : World) (e : TypeId) (s : ByteArray) : Below w.heap.size w (Lib.bytesWorld w e s) :=
  ⟨rfl, rfl, rfl, by rw [Lib.bytesWorld_size]; omega, fun k hk => Lib.bytesWorld_at_old w e s k hk⟩

theorem free_bytesWorld (w : World) (e : TypeId) (s : ByteArray) (j : Nat) (hj : j < s.size) : (Lib.bytesWorld w e s).frozen? ⟨w.heap.size, j, none⟩ = false := by
  have hs : s.size ≤ (Lib.bytesCells w e s).size := by simp [Lib.bytesCells]
  simp [World.frozen?, Lib.bytesWorld_at_new]
  omega

theorem addr_add (b off i : Nat) : (⟨b, off, none⟩ : Addr).add i = ⟨b, off + i, none⟩ := by
  unfold Addr.add
  split <;> simp_all

set_option maxHeartbeats 400000 in
theorem lower_any (s : ByteArray) (w : World) (hs : s.size ≤ maxLen) :
    Calls Try.prog 14 #[.string s] w fun e w' => e = .returned (.string (lowB s)) ∧ Below w.heap.size w w' := by
  unfold maxLen at hs
  have hcv := Lib.run_convert_string_bytes (P := Try.prog) w 9 27 5 s Try.underlying9 Try.underlying27 Try.underlying5
  obtain ⟨F, hF⟩ : ∃ F : Nat → Int, Hid (∀ j, F j = ((s.data.toList.getD j 0).toNat : Int)) := ⟨_, fun _ => rfl⟩
  have hF0 : ∀ j, 0 ≤ F j := fun j => by rw [hF.out j]; exact (byte_lt _).1
  have hF1 : ∀ j, F j ≤ 255 := fun j => by rw [hF.out j]; exact (byte_lt _).2
  have hc0 : Cells (Lib.bytesWorld w 5 s) w.heap.size s.size F := ⟨fun j hj => by rw [Lib.bytesWorld_cell w 5 s j hj, hF.out j], fun j hj => free_bytesWorld w 5 s j hj⟩
  have hb0 := below_bytesWorld w 5 s
  generalize Lib.bytesWorld w 5 s = w1 at hcv hc0 hb0
  generalize grownCap w s.size 0 5 = cp at hcv
  go_enter Try.func14, Try.ntmps14
  go_wp2
  go_loopg [10] s.size (fun g s10 wx => ∃ (k : Nat) (G : Nat → Int), g = s.size - k ∧ k ≤ s.size ∧ s10 = .int .i64 k ∧ Cells wx w.heap.size s.size G ∧ (∀ j, j < k → G j = lowI (F j)) ∧ (∀ j, k ≤ j → G j = F j) ∧ Below w.heap.size w wx)
  case atStart => exact ⟨0, F, rfl, Nat.zero_le _, rfl, hc0, fun j hj => by omega, fun j _ => rfl, hb0⟩
  case round =>
    obtain ⟨k, G, hg, hk, rfl, hcl, hlo, hhi, hbel⟩ := hrel
    by_cases hlt : k < s.size
    · have hck : wr.cell? ⟨w.heap.size, k, none⟩ = some (.int .u8 (F k)) := by rw [hcl.cell k hlt, hhi k (Nat.le_refl _)]
      have hfk := hcl.free k hlt
      have hk0 := hF0 k
      have hk1 := hF1 k
      by_cases hcap : 65 ≤ F k ∧ F k ≤ 90
      · have hl : lowI (F k) = F k + 97 - 65 := by unfold lowI; rw [if_pos hcap]; omega
        have HL : Hid (lowI (F k) = F k + 97 - 65) := hl
        obtain ⟨h65, h90⟩ := hcap
        clear hl
        go_wp2
        go_roundg (s.size - (k + 1))
        case measure => omega
        case rel =>
          have hst := hcl.store (G := fun j => if j = k then lowI (F k) else G j) k hlt (fun j hj => if_neg hj)
          rw [if_pos rfl, HL.out] at hst
          refine ⟨k + 1, _, rfl, by omega, by go_num, hst, fun j hj => ?_, fun j hj => ?_, hbel.setCell (Nat.le_refl _) _⟩
          · by_cases e : j = k
            · subst e
              show (if j = j then _ else G j) = _
              rw [if_pos rfl, HL.out]
            · show (if j = k then _ else G j) = _
              rw [if_neg e]; exact hlo j (by omega)
          · show (if j = k then _ else G j) = _
            rw [if_neg (by omega)]; exact hhi j (by omega)
      · have hl : lowI (F k) = F k := by unfold lowI; rw [if_neg hcap]
        have HL : Hid (lowI (F k) = F k) := hl
        clear hl
        have hrel' : ∀ j, j < k + 1 → G j = lowI (F j) := fun j hj => by
          by_cases e : j = k
          · subst e; rw [HL.out]; exact hhi j (Nat.le_refl _)
          · exact hlo j (by omega)
        by_cases h65 : 65 ≤ F k
        · have h90 : ¬ F k ≤ 90 := fun h => hcap ⟨h65, h⟩
          clear hcap
          go_wp2
          go_roundg (s.size - (k + 1))
          case measure => omega
          case rel => exact ⟨k + 1, G, rfl, by omega, by go_num, hcl, hrel', fun j hj => hhi j (by omega), hbel⟩
        · clear hcap
          go_wp2
          go_roundg (s.size - (k + 1))
          case measure => omega
          case rel => exact ⟨k + 1, G, rfl, by omega, by go_num, hcl, hrel', fun j hj => hhi j (by omega), hbel⟩
    · have hlen : (s.data.toList.map low).length = s.size := by simp
      have hback := run_convert_bytes_back (P := Try.prog) wr 27 9 5 ⟨w.heap.size, 0, none⟩ cp (s.data.toList.map low) Try.underlying27 Try.underlying5 Try.underlying9 (fun j hj => by
        have hj' : j < s.size := by omega
        rw [addr_add, Nat.zero_add, hcl.cell j hj', hlo j (by omega), hF.out j, ← low_toNat, List.getElem_map, List.getD_eq_getElem?_getD, List.getElem?_eq_getElem (by simpa using hj')]
        rfl)
      rw [hlen] at hback
      clear hlen
      go_wp2
      go_ret
      exact ⟨rfl, hbel⟩

/-- 'ZZasciiLower' -/
theorem zzlower_any (s : ByteArray) (w : World) (hs : s.size ≤ maxLen) :
    Calls Try.prog 7 #[.string s] w fun e w' => e = .returned (.string (lowB s)) ∧ Below w.heap.size w w' := by
  go_enter Try.func7, Try.ntmps7
  go_wp2_with (go_at_call 14; refine (lower_any s _ hs).mono ?_; rintro e w' ⟨rfl, hb⟩)
  go_ret
  exact ⟨rfl, hb⟩

end Go.Proofs.Qxb6619645a
