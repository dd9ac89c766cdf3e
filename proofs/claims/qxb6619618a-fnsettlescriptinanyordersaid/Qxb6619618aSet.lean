/-
  A MAP FROM uint64 TO bool THAT THE CALL HAS MADE AND THAT HOLDS NOTHING BUT true: A SET. 'SetAt w b S': block b of w is such a map, its keys are S's members, each once.
-/
import Derived.Test.Qxb6619618aPlain
import Derived.Test.Qxb6619618aProg
import Derived.Maps.OwnSet
import Derived.WalkKit
import Derived.WalkLawsBesides
namespace Go.Proofs.Qxb6619618a
open Go.RowKit Go.Maps

theorem law33 : Keyed Try.prog 33 := int_keyed Try.underlying33
theorem zero4 (w : World) : (zeroValue 4).run Try.prog w = .ok (.bool false) w := by kernel_rfl

/-- A number of the kind uint64. -/
def U64 (x : Int) : Prop := 0 ≤ x ∧ x ≤ 18446744073709551615

theorem wf_u64 {x : Int} (h : U64 x) : (Lit.int .u64 x).wf = true := WalkArith.wf_u64 h

/-! ### what has turned: some blocks, and no other -/
structure Turns (w w' : World) (T : Nat → Prop) : Prop where
  os : w'.os = w.os
  tape : w'.tape = w.tape
  output : w'.output = w.output
  size : w'.heap.size = w.heap.size
  block : ∀ k, ¬ T k → w'.heap[k]? = w.heap[k]?

theorem Turns.refl (w : World) (T : Nat → Prop) : Turns w w T := ⟨rfl, rfl, rfl, rfl, fun _ _ => rfl⟩
theorem Turns.trans {a b c : World} {T : Nat → Prop} (h : Turns a b T) (k : Turns b c T) : Turns a c T :=
  ⟨k.os.trans h.os, k.tape.trans h.tape, k.output.trans h.output, k.size.trans h.size, fun i hi => (k.block i hi).trans (h.block i hi)⟩
theorem Turns.drewN {a w : World} {T : Nat → Prop} (h : Turns a w T) (n : Nat) : Turns a (w.drewN n) T := ⟨h.os, h.tape, h.output, h.size, h.block⟩
theorem Turns.drew {a w : World} {T : Nat → Prop} (h : Turns a w T) : Turns a w.drew T := ⟨h.os, h.tape, h.output, h.size, h.block⟩
theorem Turns.map {a w w' : World} {T : Nat → Prop} (h : Turns a w T) {b : Nat} (hb : T b) (hm : w.mapTurned w' b) : Turns a w' T := by
  refine h.trans ?_
  have hg := hm.grown
  obtain ⟨es, clock, es', clock', e, rfl⟩ := hm
  refine ⟨rfl, rfl, rfl, by simp [ChangeMaps.setBlock], fun k hk => ?_⟩
  by_cases hlt : k < w.heap.size
  · exact hg.block k hlt (fun e => hk (by cases e; exact hb))
  · have e1 : w.heap[k]? = none := Array.getElem?_eq_none (by omega)
    have e2 : (ChangeMaps.setBlock w b (.map es' clock')).heap[k]? = none := Array.getElem?_eq_none (by simp [ChangeMaps.setBlock]; omega)
    rw [e1, e2]
theorem Turns.setCell {a w : World} {T : Nat → Prop} (h : Turns a w T) {p : Addr} (hp : T p.block) (u : Value) : Turns a (w.setCell p u) T :=
  h.trans ⟨rfl, rfl, rfl, by simp [World.setCell], fun k hk => Below.heap_setCell _ _ _ _ (fun e => hk (e ▸ hp))⟩
theorem Turns.below {w w' : World} {T : Nat → Prop} (h : Turns w w' T) {B : Nat} (hB : ∀ k, k < B → ¬ T k) : Below B w w' :=
  ⟨h.os, h.tape, h.output, Nat.le_of_eq h.size.symm, fun k hk => h.block k (hB k hk)⟩
theorem Turns.cell {w w' : World} {T : Nat → Prop} (h : Turns w w' T) {p : Addr} (hp : ¬ T p.block) : w'.cell? p = w.cell? p := World.cell?_of_block (w := w) (h.block p.block hp)
theorem Turns.frozen {w w' : World} {T : Nat → Prop} (h : Turns w w' T) {p : Addr} (hp : ¬ T p.block) : w'.frozen? p = w.frozen? p := World.frozen?_of_block (w := w) (h.block p.block hp)

/-! ### sets -/
/-- The datum D holds just S's members, each with true. -/
structure IsSet (D : DataW Unit) (S : List Int) : Prop where
  tidy : Tidy D
  nodup : S.Nodup
  size : Maps.size D = S.length
  at_ : ∀ x : Int, D.atKey (.int .u64 x) (.lit (.bool false)) = .lit (.bool (decide (x ∈ S)))
  has : ∀ x : Int, Maps.has D (.int .u64 x) = decide (x ∈ S)

theorem isKeyLit (x : Int) : WideAt.IsKeyLit (.int .u64 x) := by simp [WideAt.IsKeyLit]

theorem isSet_empty : IsSet (.map []) [] := ⟨tidy_empty, List.nodup_nil, rfl, fun _ => rfl, fun _ => rfl⟩

theorem IsSet.put {D : DataW Unit} {S : List Int} (h : IsSet D S) (x : Int) : IsSet (D.put (.int .u64 x) (.lit (.bool true))) (insS x S) := by
  refine ⟨h.tidy.put (isKeyLit x) _, nodup_insS h.nodup, ?_, fun y => ?_, fun y => ?_⟩
  · rw [size_put h.tidy, h.has, h.size]
    by_cases hx : x ∈ S <;> simp [insS, hx]
  · by_cases e : y = x
    · subst e
      rw [atKey_put_same h.tidy.isMap (isKeyLit y), decide_eq_true (mem_insS.2 (Or.inl rfl))]
    · rw [atKey_put_other (by simp [e]), h.at_]
      have : (y ∈ S) = (y ∈ insS x S) := by rw [mem_insS]; simp [e]
      simp only [this]
  · by_cases e : y = x
    · subst e
      rw [has_put_same h.tidy.isMap (isKeyLit y), decide_eq_true (mem_insS.2 (Or.inl rfl))]
    · rw [has_put_other (by simp [e]), h.has]
      have : (y ∈ S) = (y ∈ insS x S) := by rw [mem_insS]; simp [e]
      simp only [this]

theorem IsSet.del {D : DataW Unit} {S : List Int} (h : IsSet D S) (x : Int) : IsSet (D.del (.int .u64 x)) (S.erase x) := by
  have hm : ∀ y, y ∈ S.erase x ↔ y ≠ x ∧ y ∈ S := fun y => h.nodup.mem_erase_iff
  refine ⟨h.tidy.del _, h.nodup.erase _, ?_, fun y => ?_, fun y => ?_⟩
  · have := size_del h.tidy (k := .int .u64 x)
    rw [h.has, h.size] at this
    rw [List.length_erase]
    by_cases hx : x ∈ S
    · have hp := List.length_pos_of_mem hx
      simp [hx] at this ⊢
      omega
    · simp [hx] at this ⊢
      exact this
  · by_cases e : y = x
    · subst e
      rw [atKey_del_same, decide_eq_false (by rw [hm]; simp)]
    · rw [atKey_del_other (by simp [e]), h.at_]
      have : (y ∈ S) = (y ∈ S.erase x) := by rw [hm]; simp [e]
      simp only [this]
  · by_cases e : y = x
    · subst e
      rw [has_del_same, decide_eq_false (by rw [hm]; simp)]
    · rw [has_del_other (by simp [e]), h.has]
      have : (y ∈ S) = (y ∈ S.erase x) := by rw [hm]; simp [e]
      simp only [this]

/-- BLOCK b OF w IS A SET OF uint64 WITH THE MEMBERS S. -/
def SetAt (w : World) (b : Nat) (S : List Int) : Prop := ∃ D : DataW Unit, w.ownsMap Try.prog 33 (plainElem Try.prog 4) b S.length D ∧ IsSet D S

theorem tight {w : World} {b n : Nat} {D : DataW Unit} (h : w.ownsMap Try.prog 33 (plainElem Try.prog 4) b n D) : w.ownsMap Try.prog 33 (plainElem Try.prog 4) b (Maps.size D) D := by
  obtain ⟨es, clock, hb, F, _, rfl⟩ := h
  exact ⟨es, clock, hb, F, by simp [Maps.size, length_sorted], rfl⟩

theorem setAt_of {w : World} {b n : Nat} {D : DataW Unit} {S : List Int} (h : w.ownsMap Try.prog 33 (plainElem Try.prog 4) b n D) (hs : IsSet D S) : SetAt w b S :=
  ⟨D, hs.size ▸ tight h, hs⟩

theorem setAt_made (w : World) : SetAt (w.alloc (.map #[] 0)) w.heap.size [] := ⟨.map [], World.ownsMap_made _ _ _ _, isSet_empty⟩

variable {w : World} {b : Nat} {S : List Int}

theorem SetAt.nodup (h : SetAt w b S) : S.Nodup := let ⟨_, _, hs⟩ := h; hs.nodup
theorem SetAt.lt (h : SetAt w b S) : b < w.heap.size := let ⟨_, ho, _⟩ := h; ho.lt
theorem SetAt.alloc (h : SetAt w b S) (o : Obj) : SetAt (w.alloc o) b S := let ⟨D, ho, hs⟩ := h; ⟨D, ho.alloc o, hs⟩
theorem SetAt.drewN (h : SetAt w b S) (n : Nat) : SetAt (w.drewN n) b S := h
theorem SetAt.drew (h : SetAt w b S) : SetAt w.drew b S := h
theorem SetAt.setCell (h : SetAt w b S) {a : Addr} (ha : b ≠ a.block) (u : Value) : SetAt (w.setCell a u) b S := let ⟨D, ho, hs⟩ := h; ⟨D, ho.setCell ha u, hs⟩
theorem SetAt.turns {w' : World} {T : Nat → Prop} (h : SetAt w b S) (ht : Turns w w' T) (hb : ¬ T b) : SetAt w' b S := by
  obtain ⟨D, ⟨es, clock, he, r⟩, hs⟩ := h
  exact ⟨D, ⟨es, clock, (ht.block b hb).trans he, r⟩, hs⟩
theorem SetAt.below {w' : World} {B : Nat} (h : SetAt w b S) (ht : Below B w w') (hb : b < B) : SetAt w' b S := by
  obtain ⟨D, ⟨es, clock, he, r⟩, hs⟩ := h
  exact ⟨D, ⟨es, clock, (ht.block b hb).trans he, r⟩, hs⟩

/-- An element that reads as a bool's datum IS that bool. -/
theorem plainElem_bool_inv {v : Value} {z : DataW Unit × List MemPlace} (h : plainElem Try.prog 4 v = some z) : ∃ c, v = .bool c ∧ z = (.lit (.bool c), []) := by
  unfold plainElem at h
  rw [Try.underlying4] at h
  cases v <;> simp at h
  exact ⟨_, rfl, h.symm⟩

/-- 'm[k]'. -/
theorem SetAt.look (h : SetAt w b S) {x : Int} (hx : U64 x) : (Instr.lookup 36 (.map (some b)) (.int .u64 x) false).run Try.prog w = .ok (.bool (decide (x ∈ S))) w := by
  obtain ⟨D, ho, hs⟩ := h
  obtain ⟨v, ps, hrun, hv⟩ := ho.lookup law33 Try.underlying36 (zero4 _) (plainElem_bool Try.underlying4 false) (keyOf_int_mk Try.underlying33 (wf_u64 hx))
  obtain ⟨c, rfl, hc⟩ := plainElem_bool_inv hv
  simp only [Prod.mk.injEq, hs.at_, DataW.lit.injEq, Lit.bool.injEq] at hc
  rw [hrun, hc.1]

/-- 'm[k] = true'. -/
theorem SetAt.store (h : SetAt w b S) (hn : S.length < maxLen) {x : Int} (hx : U64 x) : ∃ w', (Instr.mapUpdate 36 (.map (some b)) (.int .u64 x) (.bool true)).run Try.prog w = .ok () w' ∧ SetAt w' b (insS x S) ∧ w.mapTurned w' b := by
  obtain ⟨D, ho, hs⟩ := h
  obtain ⟨w', hrun, ho', ht⟩ := ho.store law33 Try.underlying36 hn (keyOf_int_mk Try.underlying33 (wf_u64 hx)) (plainElem_bool Try.underlying4 true)
  exact ⟨w', hrun, setAt_of ho' (hs.put x), ht⟩

/-- 'delete(m, k)'. -/
theorem SetAt.drop (h : SetAt w b S) {x : Int} (hx : U64 x) (ty : TypeId) : ∃ w', (Builtin.delete_ #[36, 33] ty #[.map (some b), .int .u64 x]).run Try.prog w = .ok (.tuple #[]) w' ∧ SetAt w' b (S.erase x) ∧ w.mapTurned w' b := by
  obtain ⟨D, ho, hs⟩ := h
  obtain ⟨w', hrun, ho', ht⟩ := ho.drop law33 Try.underlying36 (keyOf_int_mk Try.underlying33 (wf_u64 hx)) ty
  exact ⟨w', hrun, setAt_of ho' (hs.del x), ht⟩

/-- 'len(m)'. -/
theorem SetAt.len (h : SetAt w b S) (ty : TypeId) : (Builtin.len_ #[36] ty #[.map (some b)]).run Try.prog w = .ok (.int .i64 S.length) w := by
  obtain ⟨D, ho, hs⟩ := h
  rw [ho.len Try.underlying36 ty, hs.size]

section
variable {ops : Array Oper} {rest : List Oper} {o : Oper} {a : Act} {Q : Exit → Act → World → Prop}

/-- 'm[k] = true' at the operation. -/
theorem wpList_setStore (w : World) (hg : o.guard = none) (m x v : Operand) (hop : o.op = Op.mapUpdate 36 m x v) (b : Nat) (S : List Int) (h : SetAt w b S) (hn : S.length < maxLen) (y : Int) (hy : U64 y)
    (hm : a.eval m = .map (some b)) (hx : a.eval x = .int .u64 y) (hv : a.eval v = .bool true)
    (hK : ∀ w', SetAt w' b (insS y S) → w.mapTurned w' b → wpList Try.prog ops Q rest (a.put o.dst undef) w') : wpList Try.prog ops Q (o :: rest) a w := by
  refine wpList_plain hg fun K' hK' => ?_
  obtain ⟨w', hrun, r1, r2⟩ := h.store hn hy
  unfold Oper.wp
  simp [execOp, hop, hm, hx, hv, hrun, Result.andThen]
  exact hK' _ _ (hK w' r1 r2)

/-- 'len(m)' at the operation. -/
theorem wpList_setLen (w : World) (hg : o.guard = none) (m : Operand) (hop : o.op = Op.call { callee := Callee.builtin Builtin.len, args := #[m], argTypes := #[36] }) (b : Nat) (S : List Int) (h : SetAt w b S)
    (hm : a.eval m = .map (some b)) (hK : wpList Try.prog ops Q rest (a.put o.dst (.int .i64 S.length)) w) : wpList Try.prog ops Q (o :: rest) a w := by
  refine wpList_plain hg fun K' hK' => ?_
  unfold Oper.wp
  simp [execOp, hop, resolve, invoke, builtin, hm, h.len o.type, Result.andThen]
  exact hK' _ _ hK

/-- 'delete(m, k)' as one step of a region that draws. -/
theorem step_setDrop {K : Act → World → Prop} {E : Prop} (hg : o.guard = none) (m x : Operand) (hop : o.op = Op.call { callee := Callee.builtin Builtin.delete, args := #[m, x], argTypes := #[36, 33] })
    (b : Nat) (S : List Int) (h : SetAt w b S) (y : Int) (hy : U64 y) (hm : a.eval m = .map (some b)) (hx : a.eval x = .int .u64 y)
    (hK : ∀ w', SetAt w' b (S.erase y) → w.mapTurned w' b → K (a.put o.dst (.tuple #[])) w') : if Region.wanted o (yielded ops a.tmps) = true then Oper.wp Try.prog o a w K Q else E := by
  have hw : Region.wanted o (yielded ops a.tmps) = true := by simp [Region.wanted, hg]
  rw [if_pos hw]
  obtain ⟨w', hrun, r1, r2⟩ := h.drop hy o.type
  unfold Oper.wp
  simp [execOp, hop, resolve, invoke, builtin, hm, hx, hrun, Result.andThen]
  exact hK _ r1 r2
end

end Go.Proofs.Qxb6619618a
