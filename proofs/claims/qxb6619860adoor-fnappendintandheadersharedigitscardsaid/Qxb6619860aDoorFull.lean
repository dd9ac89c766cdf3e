/-
  APPEND ONTO A SLICE WITHOUT SPARE ROOM (its capacity is its length): what comes back lies in a new block: NOTHING THAT WAS THERE TURNS. The laws on append at that case, and the contracts of strconv.AppendInt, bencode.AppendInt, bencode.AppendStringHeader there.
-/
import Derived.Test.Qxb6619860aDoorHead
import Derived.Maps.AppendAt
import Derived.Lib.AppendStr
import Derived.Lib.ItoaMem
import Derived.Lib.AppendIntMem
namespace Go.Proofs.Qxb6619860aDoor
open Go.RowKit

theorem rebase {w : World} {B B' g n c : Nat} {xs : List Value} (h : w.ownsRow B 5 1 (.slice (some ⟨g, 0, none⟩) n c) n xs) (hB : B' ≤ g) : w.ownsRow B' 5 1 (.slice (some ⟨g, 0, none⟩) n c) n xs := by
  obtain ⟨h1, h2⟩ := h
  refine ⟨h1, ?_⟩
  rcases h2 with ⟨hv, _⟩ | ⟨g', cap, cur, hv, _, r⟩
  · cases hv
  · cases hv
    exact Or.inr ⟨g, c, cur, rfl, hB, r⟩

theorem below_drew_alloc (w : World) (o : Obj) : Below w.heap.size w (w.drew.alloc o) :=
  (Below.refl _ w).drew.alloc (Nat.le_refl _) o

/-- 'append(dst, src...)', dst without spare room. -/
theorem run_full_slice (w : World) (ty : TypeId) (B n : Nat) (a : Option Addr) (xs : List Value) (hown : w.ownsRow B 5 1 (.slice a n n) n xs) (hBw : B ≤ w.heap.size) (ad : Addr) (m c : Nat) (news : List Value) (hl : news.length = m) (hnews : ∀ j u, news[j]? = some u → w.cell? (ad.add j) = some u) (h1 : ∀ u ∈ news, u.oneCell' = true)
    (hm : 0 < m) (hlim : n + m ≤ 100000000) : ∃ v' w', (Builtin.append_ #[22, 22] ty #[.slice a n n, .slice (some ad) m c]).run Tryd.prog w = .ok v' w' ∧ w'.ownsRow w.heap.size 5 1 v' (n + m) (xs ++ news) ∧ Below w.heap.size w w' := by
  obtain ⟨i0, hi, hz0, hz1, hz2⟩ := info_parts info5
  obtain ⟨v', w', hr, hown', _, _, _⟩ := run_append_own_at (P := Tryd.prog) w B 22 ty 5 i0 (.int .u8 0) 1 1 Tryd.underlying22 hi hz0 hz1 hz2 rfl (by decide) (.slice a n n) n xs hown ad m c news (by omega) hnews h1 (by unfold maxLen; omega) (by omega) hBw
  rcases hown.2 with ⟨hv, h0⟩ | ⟨g, cap, cur, hv, hbg, hg, _⟩
  · cases hv
    have hx : xs = [] := List.eq_nil_of_length_eq_zero (by have := hown.1; omega)
    have hr2 := run_append_nil (P := Tryd.prog) w 22 ty 5 i0 (.int .u8 0) Tryd.underlying22 hi hz0 ad m c news (by rw [hz1]; omega) hnews hm (by omega) (by rw [hz2]; omega)
    rw [hr2] at hr
    cases hr
    simp only [Nat.zero_add] at hown' ⊢
    exact ⟨_, _, hr2, rebase hown' (Nat.le_refl _), below_drew_alloc _ _⟩
  · cases hv
    have hr2 := run_append_grow (P := Tryd.prog) w 22 ty 5 i0 (.int .u8 0) Tryd.underlying22 hi hz0 ⟨g, 0, none⟩ n n xs (by rw [hz1]; exact hown.1) (hown.cells (g := g) rfl) ad m c news (by rw [hz1]; omega) hnews (by omega) (by omega) (growslice_fits (by omega) (by rw [hz2]; omega))
    rw [hr2] at hr
    cases hr
    exact ⟨_, _, hr2, rebase hown' (Nat.le_refl _), below_drew_alloc _ _⟩

/-- 'append(dst, s...)', s a string, dst without spare room. -/
theorem run_full_string (w : World) (ty : TypeId) (B n : Nat) (a : Option Addr) (xs : List Value) (hown : w.ownsRow B 5 1 (.slice a n n) n xs) (hBw : B ≤ w.heap.size) (s : ByteArray)
    (hm : 0 < s.size) (hlim : n + s.size ≤ 100000000) : ∃ v' w', (Builtin.append_ #[22, 9] ty #[.slice a n n, .string s]).run Tryd.prog w = .ok v' w' ∧ w'.ownsRow w.heap.size 5 1 v' (n + s.size) (xs ++ Lib.strCells s) ∧ Below w.heap.size w w' := by
  obtain ⟨i0, hi, hz0, hz1, hz2⟩ := info_parts info5
  obtain ⟨v', w', hr, hown', _, _⟩ := Lib.run_append_own_string (P := Tryd.prog) w B 22 9 ty 5 i0 Tryd.underlying22 Tryd.underlying9 hi hz0 hz1 hz2 (.slice a n n) n xs hown s (by unfold maxLen; omega) (by omega) hBw
  rcases hown.2 with ⟨hv, h0⟩ | ⟨g, cap, cur, hv, hbg, hg, _⟩
  · cases hv
    have hr2 := run_append_nil_string (P := Tryd.prog) w 22 9 ty 5 i0 (.int .u8 0) Tryd.underlying22 Tryd.underlying9 hi hz0 s hm (by omega) (by rw [hz2]; omega)
    rw [hr2] at hr
    cases hr
    simp only [Nat.zero_add] at hown' ⊢
    exact ⟨_, _, hr2, rebase hown' (Nat.le_refl _), below_drew_alloc _ _⟩
  · cases hv
    have hr2 := Lib.run_append_grow_string (P := Tryd.prog) w 22 9 ty 5 i0 (.int .u8 0) Tryd.underlying22 Tryd.underlying9 hi hz0 ⟨g, 0, none⟩ n n xs (by rw [hz1]; exact hown.1) (hown.cells (g := g) rfl) s (by omega) (by omega) (growslice_fits (by omega) (by rw [hz2]; omega))
    rw [hr2] at hr
    cases hr
    exact ⟨_, _, hr2, rebase hown' (Nat.le_refl _), below_drew_alloc _ _⟩

section
variable {ops : Array Oper} {rest : List Oper} {o : Oper} {a : Act} {Q : Exit → Act → World → Prop}

theorem wpList_full_slice (w : World) (hg : o.guard = none) (s x : Operand) (hop : o.op = .call { callee := .builtin .append, args := #[s, x], argTypes := #[22, 22] }) (B n : Nat) (ad0 : Option Addr) (xs : List Value) (hs : a.eval s = .slice ad0 n n) (hown : w.ownsRow B 5 1 (.slice ad0 n n) n xs) (hBw : B ≤ w.heap.size)
    (ad : Addr) (m c : Nat) (news : List Value) (hx : a.eval x = .slice (some ad) m c) (hl : news.length = m) (hnews : ∀ j u, news[j]? = some u → w.cell? (ad.add j) = some u) (h1 : ∀ u ∈ news, u.oneCell' = true) (hm : 0 < m) (hlim : n + m ≤ 100000000)
    (hK : ∀ v' w', w'.ownsRow w.heap.size 5 1 v' (n + m) (xs ++ news) → Below w.heap.size w w' → wpList Tryd.prog ops Q rest (a.put o.dst v') w') : wpList Tryd.prog ops Q (o :: rest) a w := by
  refine wpList_plain hg fun K hK' => ?_
  obtain ⟨v', w', hr, h2, h3⟩ := run_full_slice w o.type B n ad0 xs hown hBw ad m c news hl hnews h1 hm hlim
  unfold Oper.wp execOp
  simp only [hop, resolve, invoke, builtin, Sem.run_bind, Sem.run_pure, Result.andThen_ok, List.map_toArray, List.map_cons, List.map_nil, hs, hx, hr]
  exact hK' _ _ (hK v' w' h2 h3)

theorem wpList_full_string (w : World) (hg : o.guard = none) (s x : Operand) (hop : o.op = .call { callee := .builtin .append, args := #[s, x], argTypes := #[22, 9] }) (B n : Nat) (ad0 : Option Addr) (xs : List Value) (hs : a.eval s = .slice ad0 n n) (hown : w.ownsRow B 5 1 (.slice ad0 n n) n xs) (hBw : B ≤ w.heap.size)
    (t : ByteArray) (hx : a.eval x = .string t) (hm : 0 < t.size) (hlim : n + t.size ≤ 100000000)
    (hK : ∀ v' w', w'.ownsRow w.heap.size 5 1 v' (n + t.size) (xs ++ Lib.strCells t) → Below w.heap.size w w' → wpList Tryd.prog ops Q rest (a.put o.dst v') w') : wpList Tryd.prog ops Q (o :: rest) a w := by
  refine wpList_plain hg fun K hK' => ?_
  obtain ⟨v', w', hr, h2, h3⟩ := run_full_string w o.type B n ad0 xs hown hBw t hm hlim
  unfold Oper.wp execOp
  simp only [hop, resolve, invoke, builtin, Sem.run_bind, Sem.run_pure, Result.andThen_ok, List.map_toArray, List.map_cons, List.map_nil, hs, hx, hr]
  exact hK' _ _ (hK v' w' h2 h3)
end

/-- internal/strconv.small, off the shelf, at this program. -/
theorem small_shelf (i : Nat) (h : i < 100) (w : World) : Calls Tryd.prog 20 #[.int .i64 i] w fun e w' => e = .returned (.string ⟨(Lib.decDigits i).toArray⟩) ∧ w' = w :=
  Any.internal_strconv_small (P := Tryd.prog) (ρ := lays176_ren) { lays176 with } i h w

theorem numDigits_shelf (u : Nat) (h1 : 1 ≤ u) (h2 : u < 18446744073709551616) (w : World) (htab : Lib.TabIs Tryd.prog w powName .u64 Lib.pow10Tab) : Calls Tryd.prog 21 #[.int .u64 u] w fun e w' => e = .returned (.int .i64 (Lib.nDigits u)) ∧ w' = w :=
  Any.internal_strconv_numDigits (P := Tryd.prog) (ρ := lays176_ren) { lays176 with } u h1 h2 w htab

open Go.Sort Go.Lib in
theorem format_shelf (blk off cap : Nat) (u : Nat) (d : Array UInt8) (w : World) (hH : Holds (fun (b : UInt8) => Value.int .u8 (b.toNat : Int)) w blk off d) (hu : u < 10 ^ d.size) (hu64 : u < 18446744073709551616) (hsz : d.size < 4611686018427387904) :
    Calls Tryd.prog 22 #[.slice (some ⟨blk, off, none⟩) d.size cap, .int .u64 u] w fun e w' =>
      e = .returned (.tuple #[]) ∧ ∃ (n v' : Nat) (dk : Array UInt8), w' = (putRow (fun (b : UInt8) => Value.int .u8 (b.toNat : Int)) w blk off dk).drewN n ∧ FmtInv d.size u 0 v' dk :=
  Any.internal_strconv_formatBase10 (P := Tryd.prog) (ρ := lays176_ren) { lays176 with } blk off cap u d w hH hu hu64 hsz

theorem nDigits_le (u : Nat) (h : u < 18446744073709551616) : Lib.nDigits u ≤ 20 := Lib.nDigits_le20 u h

theorem strCells_digits (u : Nat) : Lib.strCells ⟨(Lib.decDigits u).toArray⟩ = Lib.byteCells (Lib.decDigits u) := rfl
theorem size_digits (u : Nat) : (⟨(Lib.decDigits u).toArray⟩ : ByteArray).size = Lib.nDigits u := by rw [← Lib.decDigits_length]; simp [ByteArray.size]

set_option maxRecDepth 100000 in
set_option maxHeartbeats 1000000 in
/-- internal/strconv.AppendUint(dst, u, 10), dst without spare room, u below 100. -/
theorem uint_full_small (B n u : Nat) (hu : u < 100) (a : Option Addr) (xs : List Value) (w : World) (hown : w.ownsRow B 5 1 (.slice a n n) n xs) (hBw : B ≤ w.heap.size) (hlim : n ≤ 5000000) :
    Calls Tryd.prog 19 #[.slice a n n, .int .u64 u, .int .i64 10] w fun e w' => ∃ v', e = .returned v' ∧ w'.ownsRow w.heap.size 5 1 v' (n + (Lib.decDigits u).length) (xs ++ Lib.byteCells (Lib.decDigits u)) ∧ Below w.heap.size w w' := by
  have hd := nDigits_le u (by omega)
  have hp := Lib.nDigits_pos u
  have hsz := size_digits u
  obtain ⟨s, hs⟩ : ∃ s : ByteArray, Hid ((⟨(Lib.decDigits u).toArray⟩ : ByteArray) = s) := ⟨_, rfl⟩
  have hsm := small_shelf u hu w
  rw [hs.out] at hsm hsz
  have z0 : 0 < s.size := by omega
  have z1 : s.size ≤ 20 := by omega
  have HZ : Hid (s.size = Lib.nDigits u) := hsz
  clear hsz
  go_enter Tryd.func19, Tryd.ntmps19
  go_wp2_with (first
    | (go_at_call 20; refine hsm.mono ?_; rintro e w' ⟨rfl, rfl⟩)
    | (at_builtin; refine wpList_full_string _ rfl _ _ rfl B n a xs rfl hown hBw s rfl z0 (by omega) ?_; intro v1 w1 hown1 hb1))
  go_ret
  refine ⟨v1, rfl, ?_, hb1⟩
  rw [Lib.decDigits_length, ← HZ.out, ← strCells_digits, hs.out]
  exact hown1

theorem lower {w : World} {B B' : Nat} {v : Value} {n : Nat} {xs : List Value} (h : w.ownsRow B 5 1 v n xs) (hB : B' ≤ B) : w.ownsRow B' 5 1 v n xs := by
  obtain ⟨h1, h2⟩ := h
  refine ⟨h1, ?_⟩
  rcases h2 with h2 | ⟨g, cap, cur, hv, hb, r⟩
  · exact Or.inl h2
  · exact Or.inr ⟨g, cap, cur, hv, Nat.le_trans hB hb, r⟩

theorem byteCells_one (l : List UInt8) : ∀ u ∈ Lib.byteCells l, u.oneCell' = true := by
  intro u hu
  simp only [Lib.byteCells, List.mem_map] at hu
  obtain ⟨b, _, rfl⟩ := hu
  rfl

open Go.Sort Go.Lib in
/-- What formatBase10 leaves: the old world, grown; the new array's first cells are the numeral's. -/
theorem formatted (B n u : Nat) (v : Value) (xs : List Value) (w : World) (hown : w.ownsRow B 5 1 v n xs) (dk : Array UInt8) (k v' : Nat) (hF : FmtInv (nDigits u) u 0 v' dk) (hnd : nDigits u ≤ 24) :
    ∃ W2 : World, (putRow (fun (b : UInt8) => Value.int .u8 (b.toNat : Int)) (w.alloc (.cells zeros24 34)) w.heap.size 0 dk).drewN k = W2 ∧ W2.ownsRow B 5 1 v n xs ∧ Below w.heap.size w W2 ∧ w.heap.size ≤ W2.heap.size ∧
      ∀ j u', (byteCells (decDigits u))[j]? = some u' → W2.cell? ((⟨w.heap.size, 0, none⟩ : Addr).add j) = some u' := by
  have hH0 := holds_zero0 w 34 (nDigits u) hnd
  obtain ⟨os, eo⟩ := fin_at w (.cells zeros24 34) dk k 0
  refine ⟨_, rfl, by rw [eo]; exact ownsRow_grow hown k os, by rw [eo]; exact below_grow w.heap.size w (Nat.le_refl _) k os, by rw [eo]; exact size_grow w k os, ?_⟩
  intro j u' hj
  have hjl : j < (decDigits u).length := by
    have h5 := (List.getElem?_eq_some_iff.1 hj).1
    rwa [byteCells_length] at h5
  have e5 : (byteCells (decDigits u))[j]? = some (Value.int .u8 ((decDigits u)[j].toNat : Int)) := by simp [byteCells, hjl]
  rw [e5] at hj
  cases hj
  rw [row_is_numeral hF j hjl, Lib.add_plain, World.cell?_drewN]
  exact cell?_putRow (fun (b : UInt8) => Value.int .u8 (b.toNat : Int)) _ w.heap.size 0 _ dk hH0 (by rw [hF.size, Array.size_replicate]) j (by rw [hF.size]; rw [decDigits_length] at hjl; exact hjl)

set_option maxRecDepth 100000 in
set_option maxHeartbeats 2000000 in
/-- internal/strconv.AppendUint(dst, u, 10), dst without spare room, u from 100 on. -/
theorem uint_full_big (B n u : Nat) (hu : 100 ≤ u) (hu64 : u < 18446744073709551616) (a : Option Addr) (xs : List Value) (w : World) (hown : w.ownsRow B 5 1 (.slice a n n) n xs) (hBw : B ≤ w.heap.size) (hlim : n ≤ 5000000) (htab : Lib.TabIs Tryd.prog w powName .u64 Lib.pow10Tab) :
    Calls Tryd.prog 19 #[.slice a n n, .int .u64 u, .int .i64 10] w fun e w' => ∃ v', e = .returned v' ∧ w'.ownsRow w.heap.size 5 1 v' (n + (Lib.decDigits u).length) (xs ++ Lib.byteCells (Lib.decDigits u)) ∧ Below w.heap.size w w' := by
  have hnd := nDigits_le u hu64
  have hp := Lib.nDigits_pos u
  have hH0 := Lib.holds_zero0 w 34 (Lib.nDigits u) (by omega)
  have hfmt := format_shelf w.heap.size 0 24 u (Array.replicate (Lib.nDigits u) 0) (w.alloc (.cells Lib.zeros24 34)) hH0 (by rw [Array.size_replicate]; exact Lib.lt_pow_nDigits u) hu64 (by rw [Array.size_replicate]; omega)
  rw [Array.size_replicate] at hfmt
  have hnum := numDigits_shelf u (by omega) hu64 (w.alloc (.cells Lib.zeros24 34)) (Lib.tabIs_alloc htab _)
  have hform := fun dk k v' hF => formatted B n u (.slice a n n) xs w hown dk k v' hF (by omega)
  have hlc : (Lib.byteCells (Lib.decDigits u)).length = Lib.nDigits u := by rw [Lib.byteCells_length, Lib.decDigits_length]
  have hal : Tryd.prog.arrayLen 34 = 24 := by kernel_rfl
  have hsl : ∀ W, (Instr.sliceAt 34 (.pointer (some ⟨w.heap.size, 0, none⟩)) none (some (.int .i64 (Lib.nDigits u : Int))) none).run Tryd.prog W = .ok (.slice (some ⟨w.heap.size, 0, none⟩) (Lib.nDigits u) 24) W := fun W => by
    rw [run_sliceAt_array_h W 34 ⟨w.heap.size, 0, none⟩ (by kernel_rfl) .i64 (Lib.nDigits u : Int) (by omega) (by rw [hal]; omega)]
    go_simp
  have iu : (100 : Int) ≤ (u : Int) := by omega
  have HH := Lib.hid hH0
  have HC : Hid ((Lib.byteCells (Lib.decDigits u)).length = Lib.nDigits u) := hlc
  clear hH0 hal hlc
  go_enter Tryd.func19, Tryd.ntmps19
  go_wp2_with (go_at_call 21; refine hnum.mono ?_; rintro e w' ⟨rfl, rfl⟩)
  refine hfmt.mono ?_
  rintro e w' ⟨rfl, k, v', dk, rfl, hF⟩
  obtain ⟨W2, hW2, hown2, hnx2, hsz2, hcells⟩ := hform dk k v' hF
  rw [hW2]
  clear hW2 hform hfmt hnum HH hF
  have hB2 : B ≤ W2.heap.size := Nat.le_trans hBw hsz2
  go_wp2_with (at_builtin; refine wpList_full_slice _ rfl _ _ rfl B n a xs rfl hown2 hB2 ⟨w.heap.size, 0, none⟩ (Lib.nDigits u) 24 (Lib.byteCells (Lib.decDigits u)) rfl HC.out hcells (byteCells_one _) hp (by omega) ?_; intro v3 w3 hown3 hb3)
  go_ret
  refine ⟨v3, rfl, ?_, hnx2.trans (hb3.mono hsz2)⟩
  rw [Lib.decDigits_length]
  exact lower hown3 hsz2

/-- internal/strconv.AppendUint(dst, u, 10), dst without spare room. -/
theorem uint_full (B n u : Nat) (hu64 : u < 18446744073709551616) (a : Option Addr) (xs : List Value) (w : World) (hown : w.ownsRow B 5 1 (.slice a n n) n xs) (hBw : B ≤ w.heap.size) (hlim : n ≤ 5000000) (htab : Lib.TabIs Tryd.prog w powName .u64 Lib.pow10Tab) :
    Calls Tryd.prog 19 #[.slice a n n, .int .u64 u, .int .i64 10] w fun e w' => ∃ v', e = .returned v' ∧ w'.ownsRow w.heap.size 5 1 v' (n + (Lib.decDigits u).length) (xs ++ Lib.byteCells (Lib.decDigits u)) ∧ Below w.heap.size w w' := by
  by_cases h : u < 100
  · exact uint_full_small B n u h a xs w hown hBw hlim
  · exact uint_full_big B n u (by omega) hu64 a xs w hown hBw hlim htab

/-- internal/strconv.AppendUint(dst, u, 10), off the shelf. -/
theorem uint_shelf (B n u : Nat) (hu64 : u < 18446744073709551616) (sv : Value) (xs : List Value) (w : World) (hown : w.ownsRow B 5 1 sv n xs) (hBw : B ≤ w.heap.size) (hlim : n + 20 ≤ 140737488355328) (htab : Lib.TabIs Tryd.prog w powName .u64 Lib.pow10Tab) :
    Calls Tryd.prog 19 #[sv, .int .u64 u, .int .i64 10] w fun e w' => ∃ v', e = .returned v' ∧ w'.ownsRow B 5 1 v' (n + (Lib.decDigits u).length) (xs ++ Lib.byteCells (Lib.decDigits u)) ∧ Below B w w' ∧ Lib.OthersKept 5 none w w' :=
  Any.internal_strconv_AppendUint_10 (P := Tryd.prog) (ρ := lays176_ren) { lays176 with } B n u hu64 sv xs w hown hBw hlim htab

set_option maxRecDepth 100000 in
set_option maxHeartbeats 1000000 in
/-- internal/strconv.AppendInt(dst, i, 10), dst without spare room. -/
theorem int_full (B n : Nat) (i : Int) (h0 : -9223372036854775808 ≤ i) (h1 : i ≤ 9223372036854775807) (a : Option Addr) (xs : List Value) (w : World) (hown : w.ownsRow B 5 1 (.slice a n n) n xs) (hBw : B ≤ w.heap.size) (hlim : n ≤ 5000000) (htab : Tab w.heap.size w) :
    Calls Tryd.prog 18 #[.slice a n n, .int .i64 i, .int .i64 10] w fun e w' => ∃ v', e = .returned v' ∧ w'.ownsRow w.heap.size 5 1 v' (n + (Lib.itoa i).length) (xs ++ Lib.byteCells (Lib.itoa i)) ∧ Below w.heap.size w w' := by
  by_cases hneg : i < 0
  · obtain ⟨u, rfl⟩ : ∃ u : Nat, i = -(u : Int) := ⟨i.natAbs, by omega⟩
    have hu64 : u < 18446744073709551616 := by omega
    have hwr : IntKind.u64.wrap (-IntKind.u64.wrap (-(u : Int))) = (u : Int) := by rw [IntKind.wrap_u64, IntKind.wrap_u64]; omega
    rw [Lib.itoa_neg u (by omega)]
    go_enter Tryd.func18, Tryd.ntmps18
    go_wp2_with (at_builtin; refine wpList_full_slice _ rfl _ _ rfl B n a xs rfl (hown.alloc _) (by simp; omega) ⟨w.heap.size, 0, none⟩ 1 1 [Value.int .u8 45] rfl rfl (cell_one_new _ _ _) (by intro u' hu'; simp at hu'; subst hu'; rfl) (by omega) (by omega) ?_)
    intro v1 w1 hown1 hb1
    have hnx1 : Below w.heap.size w w1 := ((Below.refl _ w).alloc (Nat.le_refl _) _).trans (hb1.mono (by simp))
    have ho1 := lower hown1 (B' := w.heap.size) (by simp)
    go_wp2_with (go_at_call 19; refine (uint_shelf w.heap.size (n + 1) u hu64 v1 _ w1 ho1 hnx1.size (by omega) (htab w1 hnx1)).mono ?_; rintro e w2 ⟨v2, rfl, hown2, hb2, _⟩)
    go_ret
    refine ⟨v2, rfl, ?_, hnx1.trans hb2⟩
    have e1 : n + ((Lib.decDigits u).length + 1) = n + 1 + (Lib.decDigits u).length := by omega
    have e2 : xs ++ Lib.byteCells (45 :: Lib.decDigits u) = xs ++ [Value.int .u8 45] ++ Lib.byteCells (Lib.decDigits u) := by simp [Lib.byteCells]
    rw [e1, e2]
    exact hown2
  · obtain ⟨u, rfl⟩ : ∃ u : Nat, i = (u : Int) := ⟨i.toNat, by omega⟩
    have hu64 : u < 18446744073709551616 := by omega
    rw [Lib.itoa_nonneg]
    go_enter Tryd.func18, Tryd.ntmps18
    go_wp2_with (go_at_call 19; refine (uint_full B n u hu64 a xs w hown hBw hlim htab.here).mono ?_; rintro e w2 ⟨v2, rfl, hown2, hb2⟩)
    go_ret
    exact ⟨v2, rfl, hown2, hb2⟩

set_option maxRecDepth 100000 in
/-- strconv.AppendInt(dst, i, 10), dst without spare room. -/
theorem appendInt_full (B n : Nat) (i : Int) (h0 : -9223372036854775808 ≤ i) (h1 : i ≤ 9223372036854775807) (a : Option Addr) (xs : List Value) (w : World) (hown : w.ownsRow B 5 1 (.slice a n n) n xs) (hBw : B ≤ w.heap.size) (hlim : n ≤ 5000000) (htab : Tab w.heap.size w) :
    Calls Tryd.prog 17 #[.slice a n n, .int .i64 i, .int .i64 10] w fun e w' => ∃ v', e = .returned v' ∧ w'.ownsRow w.heap.size 5 1 v' (n + (Lib.itoa i).length) (xs ++ Lib.byteCells (Lib.itoa i)) ∧ Below w.heap.size w w' := by
  go_enter Tryd.func17, Tryd.ntmps17
  go_wp2_with (go_at_call 18; refine (int_full B n i h0 h1 a xs w hown hBw hlim htab).mono ?_; rintro e w2 ⟨v2, rfl, hown2, hb2⟩)
  go_ret
  exact ⟨v2, rfl, hown2, hb2⟩

set_option maxRecDepth 100000 in
set_option maxHeartbeats 1000000 in
/-- 'bencode.AppendStringHeader', onto a slice without spare room. -/
theorem header_full (B : Nat) (i : Int) (h0 : -9223372036854775808 ≤ i) (h1 : i ≤ 9223372036854775807) (a : Option Addr) (n : Nat) (l : List UInt8) (w : World) (hO : Own w B a n n l) (hBw : B ≤ w.heap.size) (hlim : n ≤ 4000000) (htab : Tab w.heap.size w) :
    Calls Tryd.prog 14 #[.slice a n n, .int .i64 i] w fun e w' => ∃ a' n' c', e = .returned (.slice a' n' c') ∧ Own w' w.heap.size a' n' c' (l ++ tokH i) ∧ Below w.heap.size w w' := by
  obtain ⟨i0, hi, hz0, hz1, hz2⟩ := info_parts info5
  obtain ⟨hn, hown⟩ := hO
  have HN : Hid (n = l.length) := hn
  clear hn
  have hlen := Lib.itoa_length_le i h0 h1
  go_enter Tryd.func14, Tryd.ntmps14
  go_wp2_with (first
    | (go_at_call 17; refine (appendInt_full B n i h0 h1 a _ w hown hBw (by omega) htab).mono ?_; rintro e w2 ⟨v2, rfl, hown2, hnx2⟩; have hB2 : w.heap.size ≤ w2.heap.size := hnx2.size)
    | (at_builtin; refine wpList_append_own _ rfl _ _ 22 rfl w.heap.size 5 i0 (.int .u8 0) 1 1 Tryd.underlying22 hi hz0 hz1 hz2 rfl (by decide) _ _ _ rfl (hown2.alloc _) ⟨w2.heap.size, 0, none⟩ 1 1 [Value.int .u8 58] rfl rfl (cell_one_new _ _ _) (by intro u' hu'; simp at hu'; subst hu'; rfl) (by unfold maxLen; omega) (by omega) (by simp; omega) ?_; intro v3 w3 hown3 hgrow3 _))
  go_ret
  obtain ⟨a', c', rfl⟩ := own_shape hown3
  refine ⟨a', _, c', rfl, ⟨?_, ?_⟩, hnx2.trans (((Below.refl w.heap.size w2).alloc hB2 _).grown hgrow3 (by simp; omega) (fun k hk => (hown2.lt k hk).1))⟩
  · rw [List.length_append, length_tokH, ← HN.out]; omega
  · have e : Lib.byteCells (l ++ tokH i) = Lib.byteCells l ++ Lib.byteCells (Lib.itoa i) ++ [Value.int .u8 58] := by simp [tokH, Lib.byteCells]
    rw [e]
    exact hown3

set_option maxRecDepth 100000 in
set_option maxHeartbeats 1000000 in
/-- 'bencode.AppendInt', onto a slice without spare room. -/
theorem append_full (B : Nat) (i : Int) (h0 : -9223372036854775808 ≤ i) (h1 : i ≤ 9223372036854775807) (a : Option Addr) (n : Nat) (l : List UInt8) (w : World) (hO : Own w B a n n l) (hBw : B ≤ w.heap.size) (hlim : n ≤ 4000000) (htab : Tab w.heap.size w) :
    Calls Tryd.prog 9 #[.slice a n n, .int .i64 i] w fun e w' => ∃ a' n' c', e = .returned (.slice a' n' c') ∧ Own w' w.heap.size a' n' c' (l ++ tokI i) ∧ Below w.heap.size w w' := by
  obtain ⟨i0, hi, hz0, hz1, hz2⟩ := info_parts info5
  obtain ⟨hn, hown⟩ := hO
  have HN : Hid (n = l.length) := hn
  clear hn
  have hlen := Lib.itoa_length_le i h0 h1
  go_enter Tryd.func9, Tryd.ntmps9
  go_wp2_with (at_builtin; refine wpList_full_slice _ rfl _ _ rfl B n a _ rfl (hown.alloc _) (by simp; omega) ⟨w.heap.size, 0, none⟩ 1 1 [Value.int .u8 105] rfl rfl (cell_one_new _ _ _) (by intro u' hu'; simp at hu'; subst hu'; rfl) (by omega) (by omega) ?_)
  intro v1 w1 hown1 hb1
  have hnx1 : Below w.heap.size w w1 := ((Below.refl _ w).alloc (Nat.le_refl _) _).trans (hb1.mono (by simp))
  have ho1 := lower hown1 (B' := w.heap.size) (by simp)
  have hB1 : w.heap.size ≤ w1.heap.size := hnx1.size
  go_wp2_with (first
    | (go_at_call 17; refine (appendInt_shelf w.heap.size (n + 1) i h0 h1 v1 _ w1 ho1 hB1 (by omega) (htab.on hnx1)).mono ?_; rintro e w2 ⟨v2, rfl, hown2, hnx2, _⟩; have hB2 : w.heap.size ≤ w2.heap.size := by (have := hnx2.size; omega))
    | (at_builtin; refine wpList_append_own _ rfl _ _ 22 rfl w.heap.size 5 i0 (.int .u8 0) 1 1 Tryd.underlying22 hi hz0 hz1 hz2 rfl (by decide) _ _ _ rfl (hown2.alloc _) ⟨w2.heap.size, 0, none⟩ 1 1 [Value.int .u8 101] rfl rfl (cell_one_new _ _ _) (by intro u' hu'; simp at hu'; subst hu'; rfl) (by unfold maxLen; omega) (by omega) (by simp; omega) ?_; intro v3 w3 hown3 hgrow3 _))
  go_ret
  obtain ⟨a', c', rfl⟩ := own_shape hown3
  refine ⟨a', _, c', rfl, ⟨?_, ?_⟩, (hnx1.trans hnx2).trans (((Below.refl w.heap.size w2).alloc hB2 _).grown hgrow3 (by simp; omega) (fun k hk => (hown2.lt k hk).1))⟩
  · rw [List.length_append, length_tokI, ← HN.out]; omega
  · have e : Lib.byteCells (l ++ tokI i) = Lib.byteCells l ++ [Value.int .u8 105] ++ Lib.byteCells (Lib.itoa i) ++ [Value.int .u8 101] := by simp [tokI, Lib.byteCells]
    rw [e]
    exact hown3

set_option maxRecDepth 100000 in
set_option maxHeartbeats 400000 in
/-- 'cloneBytes': what comes back has no spare room. -/
theorem clone_full (a : Option Addr) (g o n c : Nat) (l : List UInt8) (w : World) (hn : n ≤ 1048576) (hl : n = l.length) (hnil : a = none → n = 0 ∧ c = 0) (h : Sl w a g o n (bt l)) (hg : 0 < n → g < w.heap.size) :
    Calls Tryd.prog 8 #[.slice a n c] w fun e w' => ∃ a', e = .returned (.slice a' n n) ∧ Own w' w.heap.size a' n n l ∧ Below w.heap.size w w' := by
  cases a with
  | none =>
    obtain ⟨rfl, rfl⟩ := hnil rfl
    obtain rfl : l = [] := List.eq_nil_of_length_eq_zero hl.symm
    clear hl hnil hg h
    have hq0 : ∀ w, (binOp .eql 22 (.slice none 0 0) (.slice none 0 0)).run Tryd.prog w = .ok (.bool true) w := fun _ => by kernel_rfl
    go_enter Tryd.func8, Tryd.ntmps8
    go_wp2
    go_ret
    exact ⟨none, rfl, own_nil _ _, Below.refl _ _⟩
  | some x =>
    have hq := eqNil x n c
    have hmk := fun w => run_make_row' (P := Tryd.prog) 22 5 (.int .u8 0) 1 Tryd.underlying22 info5 rfl .i64 .i64 n (by omega) (by omega) w
    have ha := h.addr
    have HL : Hid (n = l.length) := hl
    clear hl hnil
    obtain ⟨F, hF⟩ : ∃ F : Nat → Int, Hid (bt l = F) := ⟨_, rfl⟩
    rw [hF.out] at h
    go_enter Tryd.func8, Tryd.ntmps8
    go_wp2
    go_loopg [4] n (fun g s4 wx => ∃ (k : Nat) (f : Nat → Value), g = n - k ∧ k ≤ n ∧ s4 = .int .i64 k ∧ wx.rowIs w.heap.size 5 n f ∧ (∀ j, j < k → f j = .int .u8 (F j)) ∧ (∀ j, k ≤ j → f j = .int .u8 0) ∧ Below w.heap.size w wx)
    case atStart => exact ⟨0, fun _ => .int .u8 0, rfl, Nat.zero_le _, rfl, World.rowIs_made w (.int .u8 0) n 5, fun j hj => by omega, fun j _ => rfl, (Below.refl _ _).alloc (Nat.le_refl _) _⟩
    case round =>
      obtain ⟨k, f, hgk, hk, rfl, hrow, hlo, hhi, hbel⟩ := hrel
      by_cases hlt : k < n
      · obtain rfl : x = ⟨g, o, none⟩ := by have := ha (by omega); cases this; rfl
        have hck : wr.cell? ⟨g, o + k, none⟩ = some (.int .u8 (F k)) := (hbel.cell (p := ⟨g, o + k, none⟩) (hg (by omega))).trans (h.cell k hlt)
        have hco : wr.cell? ⟨w.heap.size, k, none⟩ = some (.int .u8 0) := by rw [hrow.cell hlt, hhi k (Nat.le_refl _)]
        have hfo := hrow.frozen k
        have HF : Hid (∀ j, j < k → f j = .int .u8 (F j)) := hlo
        have HG : Hid (∀ j, k ≤ j → f j = .int .u8 0) := hhi
        clear hlo hhi
        go_wp2
        go_roundg (n - (k + 1))
        case measure => omega
        case rel =>
          refine ⟨k + 1, _, rfl, by omega, by go_num, hrow.set k _, fun j hj => ?_, fun j hj => ?_, hbel.setCell (Nat.le_refl _) _⟩
          · show (if j = k then _ else f j) = _
            by_cases e : j = k
            · subst e; rw [if_pos rfl]
            · rw [if_neg e]; exact HF.out j (by omega)
          · show (if j = k then _ else f j) = _
            rw [if_neg (by omega)]; exact HG.out j (by omega)
      · have hown := own_of_row (B := w.heap.size) (l := l) hrow HL.out (fun j hj => by rw [hlo j (by omega), hF.out]) (Nat.le_refl _) (by unfold maxLen; omega)
        clear hlo hhi
        go_wp2
        go_ret
        exact ⟨_, rfl, hown, hbel⟩

end Go.Proofs.Qxb6619860aDoor
