/-
  THE PLAIN MATHEMATICS OF A SCRIPT OF SETTLES, OF INSERTION SORT, AND OF THE COUNT OF WHAT IS LEFT: no Go in sight. A row of numbers is a function of the place.
-/
import Derived.Test.Qxb6619618aPlain
namespace Go.Proofs.Qxb6619618a

/-- d is the end of the unbroken run d0+1, d0+2, .. within p. -/
def RanP (d0 : Int) (p : Int → Prop) (d : Int) : Prop := d0 ≤ d ∧ (∀ x, d0 < x → x ≤ d → p x) ∧ ¬ p (d + 1)
/-- S holds just what p holds of above d, each once. -/
def RestP (p : Int → Prop) (d : Int) (S : List Int) : Prop := S.Nodup ∧ ∀ x, x ∈ S ↔ p x ∧ d < x

theorem RanP.uniq {d0 : Int} {p q : Int → Prop} {d d' : Int} (h : RanP d0 p d) (h' : RanP d0 q d') (hs : ∀ x, p x ↔ q x) : d = d' := by
  obtain ⟨a0, a1, a2⟩ := h
  obtain ⟨b0, b1, b2⟩ := h'
  have c1 : ¬ d < d' := fun hlt => a2 ((hs _).2 (b1 (d + 1) (by omega) (by omega)))
  have c2 : ¬ d' < d := fun hlt => b2 ((hs _).1 (a1 (d' + 1) (by omega) (by omega)))
  omega

theorem ranP_start (d : Int) {p : Int → Prop} (hp : ∀ x, ¬ p x) : RanP d p d ∧ RestP p d [] :=
  ⟨⟨Int.le_refl _, fun x h1 h2 => absurd h1 (by omega), hp _⟩, List.nodup_nil, fun x => ⟨fun h => absurd h (by simp), fun h => absurd h.1 (hp x)⟩⟩

/-- ONE SETTLE OF A SCRIPT. -/
theorem ranP_step {d0 d seq d' : Int} {p q : Int → Prop} {S S' : List Int} (hr : RanP d0 p d) (hs : RestP p d S) (h : Settled d S seq d' S') (hq : ∀ x, q x ↔ x = seq ∨ p x) : RanP d0 q d' ∧ RestP q d' S' := by
  obtain ⟨r0, r1, r2⟩ := hr
  obtain ⟨s0, s1⟩ := hs
  rcases h with ⟨hle, rfl, rfl⟩ | ⟨hlt, ⟨t0, t1, t2⟩, u0, u1⟩
  · refine ⟨⟨r0, fun x a b => (hq x).2 (Or.inr (r1 x a b)), fun hx => ?_⟩, s0, fun x => ?_⟩
    · rcases (hq _).1 hx with e | e
      · omega
      · exact r2 e
    · rw [s1, hq]
      constructor
      · rintro ⟨a, b⟩; exact ⟨Or.inr a, b⟩
      · rintro ⟨a | a, b⟩
        · omega
        · exact ⟨a, b⟩
  · have hm : ∀ x, x ∈ insS seq S ↔ x = seq ∨ (p x ∧ d < x) := fun x => by rw [mem_insS, s1]
    refine ⟨⟨by omega, fun x a b => ?_, fun hx => ?_⟩, u0, fun x => ?_⟩
    · by_cases e : x ≤ d
      · exact (hq x).2 (Or.inr (r1 x a e))
      · rcases (hm x).1 (t1 x (by omega) b) with e' | e'
        · exact (hq x).2 (Or.inl e')
        · exact (hq x).2 (Or.inr e'.1)
    · rcases (hq _).1 hx with e | e
      · exact t2 ((hm _).2 (Or.inl e))
      · exact t2 ((hm _).2 (Or.inr ⟨e, by omega⟩))
    · rw [u1, hm, hq]
      constructor
      · rintro ⟨a | a, b⟩
        · exact ⟨Or.inl a, b⟩
        · exact ⟨Or.inr a.1, b⟩
      · rintro ⟨a | a, b⟩
        · exact ⟨Or.inl a, b⟩
        · exact ⟨Or.inr ⟨a, by omega⟩, b⟩

theorem RestP.length_eq {p q : Int → Prop} {d : Int} {S T : List Int} (h : RestP p d S) (h' : RestP q d T) (hs : ∀ x, p x ↔ q x) : S.length = T.length :=
  length_eq_of_nodup h.1 h'.1 fun x => by rw [h.2, h'.2, hs]

/-! ### rows by places -/
/-- y stands at one of the first n places. -/
def AtF (F : Nat → Int) (n : Nat) (y : Int) : Prop := ∃ i, i < n ∧ F i = y
/-- y stands at one of the places k, .., n - 1. -/
def AtTo (F : Nat → Int) (k n : Nat) (y : Int) : Prop := ∃ i, k ≤ i ∧ i < n ∧ F i = y

theorem atF_zero {F : Nat → Int} {y : Int} : ¬ AtF F 0 y := by rintro ⟨i, hi, _⟩; omega
theorem atF_succ {F : Nat → Int} {k : Nat} {y : Int} : AtF F (k + 1) y ↔ y = F k ∨ AtF F k y := by
  constructor
  · rintro ⟨i, hi, rfl⟩
    by_cases e : i = k
    · subst e; exact Or.inl rfl
    · exact Or.inr ⟨i, by omega, rfl⟩
  · rintro (rfl | ⟨i, hi, rfl⟩)
    · exact ⟨k, by omega, rfl⟩
    · exact ⟨i, by omega, rfl⟩
theorem atTo_end {F : Nat → Int} {n : Nat} {y : Int} : ¬ AtTo F n n y := by rintro ⟨i, hi, hj, _⟩; omega
theorem atTo_step {F : Nat → Int} {k n : Nat} (hk : k < n) {y : Int} : AtTo F k n y ↔ y = F k ∨ AtTo F (k + 1) n y := by
  constructor
  · rintro ⟨i, hi, hj, rfl⟩
    by_cases e : i = k
    · subst e; exact Or.inl rfl
    · exact Or.inr ⟨i, by omega, hj, rfl⟩
  · rintro (rfl | ⟨i, hi, hj, rfl⟩)
    · exact ⟨k, Nat.le_refl _, hk, rfl⟩
    · exact ⟨i, by omega, hj, rfl⟩
theorem atTo_zero {F : Nat → Int} {n : Nat} {y : Int} : AtTo F 0 n y ↔ AtF F n y := by
  constructor
  · rintro ⟨i, _, hj, rfl⟩; exact ⟨i, hj, rfl⟩
  · rintro ⟨i, hj, rfl⟩; exact ⟨i, Nat.zero_le _, hj, rfl⟩

/-! ### insertion sort -/
def upd (F : Nat → Int) (j : Nat) (x : Int) : Nat → Int := fun i => if i = j then x else F i
theorem upd_same (F : Nat → Int) (j : Nat) (x : Int) : upd F j x j = x := if_pos rfl
theorem upd_other (F : Nat → Int) {i j : Nat} (x : Int) (h : i ≠ j) : upd F j x i = F i := if_neg h

/-- The first k places do not fall. -/
def SortedTo (F : Nat → Int) (k : Nat) : Prop := ∀ i j, i < j → j < k → F i ≤ F j

/-- What holds while x goes down to its place: it would stand at j; the places up to k, but for j, do not fall, and those behind j are above x. -/
structure Sinks (F0 F : Nat → Int) (n k j : Nat) (x : Int) : Prop where
  low : j ≤ k
  high : k < n
  mem : ∀ y, AtF (upd F j x) n y ↔ AtF F0 n y
  sorted : ∀ i i', i < i' → i' ≤ k → i ≠ j → i' ≠ j → F i ≤ F i'
  above : ∀ i, j < i → i ≤ k → x < F i

theorem sinks_start {F0 F : Nat → Int} {n k : Nat} (hk : k < n) (hm : ∀ y, AtF F n y ↔ AtF F0 n y) (hs : SortedTo F k) : Sinks F0 F n k k (F k) := by
  have e : upd F k (F k) = F := funext fun i => by
    by_cases h : i = k
    · subst h; exact upd_same _ _ _
    · exact upd_other _ _ h
  refine ⟨Nat.le_refl _, hk, by rw [e]; exact hm, fun i i' h1 h2 h3 h4 => hs i i' h1 (by omega), fun i h1 h2 => by omega⟩

theorem sinks_step {F0 F : Nat → Int} {n k j : Nat} {x : Int} (h : Sinks F0 F n k j x) (hj : 0 < j) (hx : x < F (j - 1)) : Sinks F0 (upd F j (F (j - 1))) n k (j - 1) x := by
  obtain ⟨l, hi, m, s, a⟩ := h
  refine ⟨by omega, hi, fun y => ?_, fun i i' h1 h2 h3 h4 => ?_, fun i h1 h2 => ?_⟩
  · rw [← m]
    constructor
    · rintro ⟨i, hi', rfl⟩
      by_cases e1 : i = j - 1
      · subst e1
        exact ⟨j, by omega, by rw [upd_same, upd_same]⟩
      · rw [upd_other _ _ e1]
        by_cases e2 : i = j
        · subst e2
          exact ⟨i - 1, by omega, by rw [upd_same, upd_other _ _ (by omega)]⟩
        · exact ⟨i, hi', by rw [upd_other _ _ e2, upd_other _ _ e2]⟩
    · rintro ⟨i, hi', rfl⟩
      by_cases e1 : i = j
      · subst e1
        exact ⟨i - 1, by omega, by rw [upd_same, upd_same]⟩
      · rw [upd_other _ _ e1]
        by_cases e2 : i = j - 1
        · subst e2
          exact ⟨j, by omega, by rw [upd_other _ _ (by omega), upd_same]⟩
        · exact ⟨i, hi', by rw [upd_other _ _ e2, upd_other _ _ e1]⟩
  · by_cases e1 : i = j
    · subst e1
      rw [upd_same, upd_other _ _ (by omega)]
      exact s (i - 1) i' (by omega) h2 (by omega) (by omega)
    · rw [upd_other _ _ e1]
      by_cases e2 : i' = j
      · subst e2
        rw [upd_same]
        exact s i (i' - 1) (by omega) (by omega) e1 (by omega)
      · rw [upd_other _ _ e2]
        exact s i i' h1 h2 e1 e2
  · by_cases e1 : i = j
    · subst e1; rw [upd_same]; exact hx
    · rw [upd_other _ _ e1]; exact a i (by omega) h2

theorem sinks_end {F0 F : Nat → Int} {n k j : Nat} {x : Int} (h : Sinks F0 F n k j x) (hx : 0 < j → F (j - 1) ≤ x) : (∀ y, AtF (upd F j x) n y ↔ AtF F0 n y) ∧ SortedTo (upd F j x) (k + 1) := by
  obtain ⟨l, hi, m, s, a⟩ := h
  refine ⟨m, fun i i' h1 h2 => ?_⟩
  by_cases e1 : i = j
  · subst e1
    rw [upd_same, upd_other _ _ (by omega)]
    have := a i' h1 (by omega)
    omega
  · rw [upd_other _ _ e1]
    by_cases e2 : i' = j
    · subst e2
      rw [upd_same]
      have h3 := hx (by omega)
      by_cases e3 : i = i' - 1
      · subst e3; exact h3
      · exact Int.le_trans (s i (i' - 1) (by omega) (by omega) e1 (by omega)) h3
    · rw [upd_other _ _ e2]
      exact s i i' h1 (by omega) e1 e2

/-! ### the walk along the sorted row -/
def Wants (d : Int) (F : Nat → Int) (n k : Nat) (want : Int) : Prop := d ≤ want ∧ (∀ x, d < x → x ≤ want → AtF F n x) ∧ ∀ i, i < k → F i ≤ want

theorem wants_start (d : Int) (F : Nat → Int) (n : Nat) : Wants d F n 0 d := ⟨Int.le_refl _, fun x h1 h2 => absurd h1 (by omega), fun i hi => by omega⟩
theorem wants_skip {d want : Int} {F : Nat → Int} {n k : Nat} (h : Wants d F n k want) (hk : F k ≤ want) : Wants d F n (k + 1) want := by
  obtain ⟨a, b, c⟩ := h
  refine ⟨a, b, fun i hi => ?_⟩
  by_cases e : i = k
  · subst e; exact hk
  · exact c i (by omega)
theorem wants_step {d want : Int} {F : Nat → Int} {n k : Nat} (h : Wants d F n k want) (hn : k < n) (hk : F k = want + 1) : Wants d F n (k + 1) (F k) := by
  obtain ⟨a, b, c⟩ := h
  refine ⟨by omega, fun x h1 h2 => ?_, fun i hi => ?_⟩
  · by_cases e : x = F k
    · exact ⟨k, hn, e.symm⟩
    · exact b x h1 (by omega)
  · by_cases e : i = k
    · subst e; exact Int.le_refl _
    · have := c i (by omega); omega
theorem wants_end {d want : Int} {F : Nat → Int} {n : Nat} (h : Wants d F n n want) : RanP d (AtF F n) want := by
  obtain ⟨a, b, c⟩ := h
  refine ⟨a, b, ?_⟩
  rintro ⟨i, hi, e⟩
  have := c i hi
  omega
theorem wants_gap {d want : Int} {F : Nat → Int} {n k : Nat} (hs : SortedTo F n) (h : Wants d F n k want) (hk : want + 1 < F k) : RanP d (AtF F n) want := by
  obtain ⟨a, b, c⟩ := h
  refine ⟨a, b, ?_⟩
  rintro ⟨i, hi, e⟩
  by_cases e1 : i < k
  · have := c i e1; omega
  · by_cases e2 : i = k
    · subst e2; omega
    · have := hs k i (by omega) hi; omega

/-! ### the count of the different ones -/
def cntD (F : Nat → Int) (want : Int) : Nat → Nat
  | 0 => 0
  | k + 1 => cntD F want k + if want < F k ∧ (k = 0 ∨ F k ≠ F (k - 1)) then 1 else 0
theorem cntD_le (F : Nat → Int) (want : Int) : ∀ k, cntD F want k ≤ k
  | 0 => Nat.le_refl _
  | k + 1 => by have := cntD_le F want k; unfold cntD; split <;> omega

theorem cntD_list {F : Nat → Int} {n : Nat} (hs : SortedTo F n) (want : Int) : ∀ k, k ≤ n → ∃ U : List Int, U.length = cntD F want k ∧ RestP (AtF F k) want U
  | 0, _ => ⟨[], rfl, List.nodup_nil, fun x => ⟨fun h => absurd h (by simp), fun h => absurd h.1 atF_zero⟩⟩
  | k + 1, hk => by
    obtain ⟨U, hl, hn, hm⟩ := cntD_list hs want k (by omega)
    by_cases hw : want < F k ∧ (k = 0 ∨ F k ≠ F (k - 1))
    · refine ⟨F k :: U, by rw [List.length_cons, hl, cntD, if_pos hw], List.nodup_cons.2 ⟨fun hx => ?_, hn⟩, fun x => ?_⟩
      · obtain ⟨i, hi, e⟩ := ((hm _).1 hx).1
        have h1 := hs (k - 1) k (by omega) (by omega)
        by_cases e1 : i = k - 1
        · subst e1
          rcases hw.2 with h | h
          · omega
          · exact h e.symm
        · have h2 := hs i (k - 1) (by omega) (by omega)
          rcases hw.2 with h | h
          · omega
          · omega
      · rw [List.mem_cons, hm, atF_succ]
        constructor
        · rintro (rfl | h)
          · exact ⟨Or.inl rfl, hw.1⟩
          · exact ⟨Or.inr h.1, h.2⟩
        · rintro ⟨h | h, h2⟩
          · exact Or.inl h
          · exact Or.inr ⟨h, h2⟩
    · refine ⟨U, by rw [hl, cntD, if_neg hw, Nat.add_zero], hn, fun x => ?_⟩
      rw [hm, atF_succ]
      constructor
      · rintro ⟨h1, h2⟩; exact ⟨Or.inr h1, h2⟩
      · rintro ⟨h | h, h2⟩
        · subst h
          by_cases e0 : k = 0
          · exact absurd ⟨h2, Or.inl e0⟩ hw
          · by_cases e1 : F k = F (k - 1)
            · exact ⟨⟨k - 1, by omega, e1.symm⟩, h2⟩
            · exact absurd ⟨h2, Or.inr e1⟩ hw
        · exact ⟨h, h2⟩

theorem cntD_eq {F : Nat → Int} {n : Nat} {p : Int → Prop} {want : Int} {S : List Int} (hs : SortedTo F n) (h : RestP p want S) (hp : ∀ x, AtF F n x ↔ p x) : S.length = cntD F want n := by
  obtain ⟨U, hl, hU⟩ := cntD_list hs want n (Nat.le_refl _)
  rw [← hl]
  exact h.length_eq hU fun x => (hp x).symm

end Go.Proofs.Qxb6619618a
