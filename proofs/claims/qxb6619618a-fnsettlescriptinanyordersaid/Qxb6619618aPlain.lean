/-
  THE PLAIN MATHEMATICS OF 'settle': no Go in sight. A session is a number d and a set S of numbers above it (a list without repeats).
-/
namespace Go.Proofs.Qxb6619618a

/-- d is the end of the unbroken run d0+1, d0+2, .. within L. -/
def Ran (d0 : Int) (L : List Int) (d : Int) : Prop := d0 ≤ d ∧ (∀ x, d0 < x → x ≤ d → x ∈ L) ∧ d + 1 ∉ L

theorem Ran.le_of {d0 : Int} {L L' : List Int} {d d' : Int} (h : Ran d0 L d) (h' : Ran d0 L' d') (hs : ∀ x, x ∈ L' → x ∈ L) : d' ≤ d := by
  apply Int.not_lt.1
  intro hlt
  exact h.2.2 (hs _ (h'.2.1 (d + 1) (by have := h.1; omega) (by omega)))

theorem Ran.uniq {d0 : Int} {L L' : List Int} {d d' : Int} (h : Ran d0 L d) (h' : Ran d0 L' d') (hs : ∀ x, x ∈ L ↔ x ∈ L') : d = d' := by
  have a := h.le_of h' (fun x hx => (hs x).2 hx)
  have b := h'.le_of h (fun x hx => (hs x).1 hx)
  omega

/-- S holds just the members of L above d, each once. -/
def Rest (L : List Int) (d : Int) (S : List Int) : Prop := S.Nodup ∧ ∀ x, x ∈ S ↔ x ∈ L ∧ d < x

/-- A list without repeats whose members all lie in another is no longer than that one. -/
theorem length_le_of_nodup : ∀ (S T : List Int), S.Nodup → (∀ x, x ∈ S → x ∈ T) → S.length ≤ T.length
  | [], _, _, _ => Nat.zero_le _
  | a :: S, T, hn, hs => by
    have ha : a ∈ T := hs a List.mem_cons_self
    have hn' := List.nodup_cons.1 hn
    have := length_le_of_nodup S (T.erase a) hn'.2 (fun x hx => by
      have hxa : x ≠ a := fun e => hn'.1 (e ▸ hx)
      exact (List.mem_erase_of_ne hxa).2 (hs x (List.mem_cons_of_mem _ hx)))
    rw [List.length_erase_of_mem ha] at this
    have hpos : 0 < T.length := List.length_pos_of_mem ha
    simp only [List.length_cons]
    omega

theorem length_eq_of_nodup {S T : List Int} (hS : S.Nodup) (hT : T.Nodup) (h : ∀ x, x ∈ S ↔ x ∈ T) : S.length = T.length :=
  Nat.le_antisymm (length_le_of_nodup S T hS fun x => (h x).1) (length_le_of_nodup T S hT fun x => (h x).2)

/-- A new member, once. -/
def insS (x : Int) (S : List Int) : List Int := if x ∈ S then S else x :: S

theorem mem_insS {x y : Int} {S : List Int} : y ∈ insS x S ↔ y = x ∨ y ∈ S := by
  unfold insS
  split
  · rename_i h
    constructor
    · exact Or.inr
    · rintro (rfl | h')
      · exact h
      · exact h'
  · exact List.mem_cons

theorem nodup_insS {x : Int} {S : List Int} (h : S.Nodup) : (insS x S).Nodup := by
  unfold insS
  split
  · exact h
  · rename_i hx; exact List.nodup_cons.2 ⟨hx, h⟩

theorem length_insS_le (x : Int) (S : List Int) : (insS x S).length ≤ S.length + 1 := by
  unfold insS; split <;> simp

/-! ### the climb -/
/-- What holds at the climb's every round: from d0 on, over the members A, the session stands at d with S. -/
def Climbs (d0 : Int) (A : List Int) (d : Int) (S : List Int) : Prop := d0 ≤ d ∧ (∀ x, d0 < x → x ≤ d → x ∈ A) ∧ Rest A d S

theorem climbs_start {d : Int} {S : List Int} (hn : S.Nodup) (hS : ∀ x, x ∈ S → d < x) : Climbs d S d S :=
  ⟨Int.le_refl _, fun x h1 h2 => absurd h1 (by omega), hn, fun x => ⟨fun h => ⟨h, hS x h⟩, fun h => h.1⟩⟩

theorem climbs_step {d0 d : Int} {A S : List Int} (h : Climbs d0 A d S) (hm : d + 1 ∈ S) : Climbs d0 A (d + 1) (S.erase (d + 1)) := by
  obtain ⟨h0, h1, hn, h2⟩ := h
  refine ⟨by omega, fun x a b => ?_, hn.erase _, fun x => ?_⟩
  · by_cases e : x = d + 1
    · subst e; exact ((h2 _).1 hm).1
    · exact h1 x a (by omega)
  · rw [hn.mem_erase_iff, h2]
    constructor
    · rintro ⟨a, b, c⟩; exact ⟨b, by omega⟩
    · rintro ⟨a, b⟩; exact ⟨by omega, a, by omega⟩

theorem climbs_end {d0 d : Int} {A S : List Int} (h : Climbs d0 A d S) (hm : d + 1 ∉ S) : Ran d0 A d ∧ Rest A d S := by
  obtain ⟨h0, h1, h2⟩ := h
  exact ⟨⟨h0, h1, fun hx => hm ((h2.2 _).2 ⟨hx, by omega⟩)⟩, h2⟩

/-- What 'settle' makes of the session (d, S) at seq. -/
def Settled (d : Int) (S : List Int) (seq d' : Int) (S' : List Int) : Prop :=
  (seq ≤ d ∧ d' = d ∧ S' = S) ∨ (d < seq ∧ Ran d (insS seq S) d' ∧ Rest (insS seq S) d' S')

/-! ### a list by its places -/
/-- y stands at one of the first n places. -/
def At (z : List Int) (n : Nat) (y : Int) : Prop := ∃ i, i < n ∧ z.getD i 0 = y

theorem mem_take_iff {z : List Int} {n : Nat} (hn : n ≤ z.length) {y : Int} : y ∈ z.take n ↔ At z n y := by
  constructor
  · intro h
    obtain ⟨i, hi, e⟩ := List.getElem_of_mem h
    have hi2 : i < n ∧ i < z.length := by rw [List.length_take] at hi; omega
    refine ⟨i, hi2.1, ?_⟩
    rw [List.getElem_take] at e
    rw [List.getD_eq_getElem?_getD, List.getElem?_eq_getElem hi2.2]
    exact e
  · rintro ⟨i, hi, rfl⟩
    have h2 : i < z.length := Nat.lt_of_lt_of_le hi hn
    rw [List.getD_eq_getElem?_getD, List.getElem?_eq_getElem h2]
    exact List.mem_take_iff_getElem.2 ⟨i, by omega, rfl⟩

theorem at_succ {z : List Int} {k : Nat} {y : Int} : At z (k + 1) y ↔ At z k y ∨ y = z.getD k 0 := by
  constructor
  · rintro ⟨i, hi, rfl⟩
    by_cases e : i = k
    · subst e; exact Or.inr rfl
    · exact Or.inl ⟨i, by omega, rfl⟩
  · rintro (⟨i, hi, rfl⟩ | rfl)
    · exact ⟨i, by omega, rfl⟩
    · exact ⟨k, by omega, rfl⟩

theorem at_zero {z : List Int} {y : Int} : ¬ At z 0 y := by rintro ⟨i, hi, _⟩; omega

/-- The first n places rise. -/
def Rising (z : List Int) (n : Nat) : Prop := ∀ i j, i < j → j < n → z.getD i 0 < z.getD j 0

theorem rising_step {z : List Int} {k : Nat} (h : Rising z k) (hk : k = 0 ∨ z.getD (k - 1) 0 < z.getD k 0) : Rising z (k + 1) := by
  intro i j hij hj
  by_cases e : j = k
  · subst e
    rcases hk with rfl | hk
    · omega
    · by_cases e2 : i = j - 1
      · subst e2; exact hk
      · exact Int.lt_trans (h i (j - 1) (by omega) (by omega)) hk
  · exact h i j hij (by omega)

/-! ### the model of one settle: seq merged into the rising list -/
/-- What holds at the merge's every round: the first i of the list (and seq, where it is taken) are at most 'want', the end of a run so far. -/
def Merges (d seq : Int) (z : List Int) (n i : Nat) (taken : Bool) (want : Int) : Prop :=
  d ≤ want ∧ (∀ x, d < x → x ≤ want → x = seq ∨ At z n x) ∧ (∀ j, j < i → z.getD j 0 ≤ want) ∧ (taken = true → seq ≤ want)

theorem merges_start (d seq : Int) (z : List Int) (n : Nat) : Merges d seq z n 0 false d :=
  ⟨Int.le_refl _, fun x h1 h2 => absurd h1 (by omega), fun j hj => by omega, fun h => by cases h⟩

/-- seq is next, and nothing new. -/
theorem merges_seq_skip {d seq want : Int} {z : List Int} {n i : Nat} {taken : Bool} (h : Merges d seq z n i taken want) (hs : seq ≤ want) : Merges d seq z n i true want :=
  ⟨h.1, h.2.1, h.2.2.1, fun _ => hs⟩
/-- seq is next, and goes on with the run. -/
theorem merges_seq_step {d seq want : Int} {z : List Int} {n i : Nat} {taken : Bool} (h : Merges d seq z n i taken want) (hs : seq = want + 1) : Merges d seq z n i true seq := by
  obtain ⟨h0, h1, h2, h3⟩ := h
  refine ⟨by omega, fun x a b => ?_, fun j hj => by have := h2 j hj; omega, fun _ => Int.le_refl _⟩
  by_cases e : x = seq
  · exact Or.inl e
  · exact h1 x a (by omega)
/-- The list's next is nothing new. -/
theorem merges_at_skip {d seq want : Int} {z : List Int} {n i : Nat} {taken : Bool} (h : Merges d seq z n i taken want) (hs : z.getD i 0 ≤ want) : Merges d seq z n (i + 1) taken want := by
  obtain ⟨h0, h1, h2, h3⟩ := h
  refine ⟨h0, h1, fun j hj => ?_, h3⟩
  by_cases e : j = i
  · subst e; exact hs
  · exact h2 j (by omega)
/-- The list's next goes on with the run. -/
theorem merges_at_step {d seq want : Int} {z : List Int} {n i : Nat} {taken : Bool} (h : Merges d seq z n i taken want) (hi : i < n) (hs : z.getD i 0 = want + 1) : Merges d seq z n (i + 1) taken (z.getD i 0) := by
  obtain ⟨h0, h1, h2, h3⟩ := h
  refine ⟨by omega, fun x a b => ?_, fun j hj => ?_, fun t => by have := h3 t; omega⟩
  · by_cases e : x = z.getD i 0
    · exact Or.inr ⟨i, hi, e.symm⟩
    · exact h1 x a (by omega)
  · by_cases e : j = i
    · subst e; exact Int.le_refl _
    · have := h2 j (by omega); omega

/-- The run's end, by a list given by its places and seq beside it. -/
def Ends (d seq : Int) (z : List Int) (n : Nat) (want : Int) : Prop :=
  d ≤ want ∧ (∀ x, d < x → x ≤ want → x = seq ∨ At z n x) ∧ want + 1 ≠ seq ∧ ¬ At z n (want + 1)

/-- All is taken. -/
theorem merges_end {d seq want : Int} {z : List Int} {n i : Nat} (h : Merges d seq z n i true want) (hi : n ≤ i) : Ends d seq z n want := by
  obtain ⟨h0, h1, h2, h3⟩ := h
  refine ⟨h0, h1, by have := h3 rfl; omega, ?_⟩
  rintro ⟨j, hj, e⟩
  have := h2 j (by omega)
  omega
/-- seq is next, the least of what is left, and leaves a gap. -/
theorem merges_gap_seq {d seq want : Int} {z : List Int} {n i : Nat} {taken : Bool} (hr : Rising z n) (h : Merges d seq z n i taken want) (hle : i < n → seq ≤ z.getD i 0) (h1' : want < seq) (h2' : seq ≠ want + 1) : Ends d seq z n want := by
  obtain ⟨h0, h1, h2, h3⟩ := h
  refine ⟨h0, h1, Ne.symm h2', ?_⟩
  rintro ⟨j, hj, e⟩
  by_cases hji : j < i
  · have := h2 j hji; omega
  · have hin : i < n := by omega
    have a := hle hin
    by_cases e2 : j = i
    · subst e2; omega
    · have := hr i j (by omega) hj; omega
/-- The list's next is the least of what is left, and leaves a gap. -/
theorem merges_gap_at {d seq want : Int} {z : List Int} {n i : Nat} {taken : Bool} (hr : Rising z n) (h : Merges d seq z n i taken want) (hin : i < n) (hle : taken = false → z.getD i 0 < seq) (h1' : want < z.getD i 0) (h2' : z.getD i 0 ≠ want + 1) : Ends d seq z n want := by
  obtain ⟨h0, h1, h2, h3⟩ := h
  refine ⟨h0, h1, ?_, ?_⟩
  · cases taken with
    | true => have := h3 rfl; omega
    | false => have := hle rfl; omega
  rintro ⟨j, hj, e⟩
  by_cases hji : j < i
  · have := h2 j hji; omega
  · by_cases e2 : j = i
    · subst e2; omega
    · have := hr i j (by omega) hj; omega

/-- THE LAW OF ONE SETTLE: the session's end is the model's. -/
theorem one_end {d seq d' want : Int} {z S : List Int} {n : Nat} (hS : ∀ x, x ∈ S ↔ At z n x) (h : Ran d (insS seq S) d') (h' : Ends d seq z n want) : d' = want := by
  have hm : ∀ x, x ∈ insS seq S ↔ x = seq ∨ At z n x := fun x => by rw [mem_insS, hS]
  obtain ⟨a0, a1, a2⟩ := h
  obtain ⟨b0, b1, b2, b3⟩ := h'
  have c1 : ¬ d' < want := fun hlt => a2 ((hm _).2 (b1 (d' + 1) (by omega) (by omega)))
  have c2 : ¬ want < d' := fun hlt => by
    rcases (hm _).1 (a1 (want + 1) (by omega) (by omega)) with e | e
    · exact b2 e
    · exact b3 e
  omega

/-! ### counting -/
/-- How many of the first k places lie above 'want'. -/
def cnt (z : List Int) (want : Int) : Nat → Nat
  | 0 => 0
  | k + 1 => cnt z want k + if want < z.getD k 0 then 1 else 0

theorem cnt_le (z : List Int) (want : Int) : ∀ k, cnt z want k ≤ k
  | 0 => Nat.le_refl _
  | k + 1 => by have := cnt_le z want k; unfold cnt; split <;> omega

/-- Those places as a list without repeats. -/
theorem cnt_list {z : List Int} {n : Nat} (hr : Rising z n) (want : Int) : ∀ k, k ≤ n → ∃ U : List Int, U.Nodup ∧ U.length = cnt z want k ∧ ∀ x, x ∈ U ↔ At z k x ∧ want < x
  | 0, _ => ⟨[], List.nodup_nil, rfl, fun x => ⟨fun h => absurd h (by simp), fun h => absurd h.1 at_zero⟩⟩
  | k + 1, hk => by
    obtain ⟨U, hn, hl, hm⟩ := cnt_list hr want k (by omega)
    by_cases hw : want < z.getD k 0
    · refine ⟨z.getD k 0 :: U, List.nodup_cons.2 ⟨fun hx => ?_, hn⟩, by rw [List.length_cons, hl, cnt, if_pos hw], fun x => ?_⟩
      · obtain ⟨i, hi, e⟩ := ((hm _).1 hx).1
        have := hr i k hi (by omega)
        omega
      · rw [List.mem_cons, hm, at_succ]
        constructor
        · rintro (rfl | h)
          · exact ⟨Or.inr rfl, hw⟩
          · exact ⟨Or.inl h.1, h.2⟩
        · rintro ⟨h | h, h2⟩
          · exact Or.inr ⟨h, h2⟩
          · exact Or.inl h
    · refine ⟨U, hn, by rw [hl, cnt, if_neg hw, Nat.add_zero], fun x => ?_⟩
      rw [hm, at_succ]
      constructor
      · rintro ⟨h1, h2⟩; exact ⟨Or.inl h1, h2⟩
      · rintro ⟨h | h, h2⟩
        · exact ⟨h, h2⟩
        · subst h; exact absurd h2 hw

/-- HOW MANY ARE LEFT IN THE SET behind one settle at a seq above d. -/
theorem one_count {seq want : Int} {z S S' : List Int} {n : Nat} (hr : Rising z n) (hS : ∀ x, x ∈ S ↔ At z n x) (h : Rest (insS seq S) want S') :
    (At z n seq → S'.length = cnt z want n) ∧ (¬ At z n seq → S'.length = cnt z want n + if want < seq then 1 else 0) := by
  obtain ⟨U, hn, hl, hm⟩ := cnt_list hr want n (Nat.le_refl _)
  obtain ⟨a0, a1⟩ := h
  have hx : ∀ x, x ∈ S' ↔ (x = seq ∨ At z n x) ∧ want < x := fun x => by rw [a1, mem_insS, hS]
  constructor
  · intro hs
    rw [← hl]
    refine length_eq_of_nodup a0 hn fun x => ?_
    rw [hx, hm]
    constructor
    · rintro ⟨rfl | h, h2⟩
      · exact ⟨hs, h2⟩
      · exact ⟨h, h2⟩
    · rintro ⟨h, h2⟩; exact ⟨Or.inr h, h2⟩
  · intro hs
    by_cases hw : want < seq
    · rw [if_pos hw, ← hl, ← List.length_cons (a := seq)]
      refine length_eq_of_nodup a0 (List.nodup_cons.2 ⟨fun h => hs ((hm _).1 h).1, hn⟩) fun x => ?_
      rw [hx, List.mem_cons, hm]
      constructor
      · rintro ⟨rfl | h, h2⟩
        · exact Or.inl rfl
        · exact Or.inr ⟨h, h2⟩
      · rintro (rfl | h)
        · exact ⟨Or.inl rfl, hw⟩
        · exact ⟨Or.inr h.1, h.2⟩
    · rw [if_neg hw, ← hl, Nat.add_zero]
      refine length_eq_of_nodup a0 hn fun x => ?_
      rw [hx, hm]
      constructor
      · rintro ⟨rfl | h, h2⟩
        · exact absurd h2 hw
        · exact ⟨h, h2⟩
      · rintro ⟨h, h2⟩; exact ⟨Or.inr h, h2⟩

/-- seq among the first k places? -/
def atB (z : List Int) (seq : Int) : Nat → Bool
  | 0 => false
  | k + 1 => atB z seq k || decide (z.getD k 0 = seq)

theorem atB_iff (z : List Int) (seq : Int) : ∀ k, atB z seq k = true ↔ At z k seq
  | 0 => ⟨fun h => by simp [atB] at h, fun h => absurd h at_zero⟩
  | k + 1 => by
    rw [at_succ, ← atB_iff z seq k, atB, Bool.or_eq_true, decide_eq_true_iff]
    constructor
    · rintro (h | h)
      · exact Or.inl h
      · exact Or.inr h.symm
    · rintro (h | h)
      · exact Or.inl h
      · exact Or.inr h.symm

/-- WHAT THE LAW ASKS OF ONE SETTLE's END (d', S'). -/
structure OneRes (d seq d' : Int) (z S' : List Int) (n : Nat) : Prop where
  each : ∀ j, j < n → decide (z.getD j 0 ∈ S') = decide (d' < z.getD j 0)
  own : decide (seq ∈ S') = (decide (d < seq) && decide (d' < seq))
  count : S'.length = cnt z d' n + (if (decide (d < seq) && !atB z seq n && decide (d' < seq)) = true then 1 else 0)

theorem oneRes_of {d seq d' : Int} {z S S' : List Int} {n : Nat} (hr : Rising z n) (hgt : ∀ j, j < n → d < z.getD j 0) (hn : S.Nodup) (hS : ∀ x, x ∈ S ↔ At z n x) (h : Settled d S seq d' S') : OneRes d seq d' z S' n := by
  rcases h with ⟨hle, rfl, rfl⟩ | ⟨hlt, hran, hrest⟩
  · refine ⟨fun j hj => ?_, ?_, ?_⟩
    · rw [decide_eq_true (hgt j hj), decide_eq_true ((hS _).2 ⟨j, hj, rfl⟩)]
    · rw [decide_eq_false (p := d' < seq) (by omega), Bool.and_false]
      refine decide_eq_false fun hx => ?_
      obtain ⟨j, hj, e⟩ := (hS _).1 hx
      have := hgt j hj
      omega
    · obtain ⟨U, un, ul, um⟩ := cnt_list hr d' n (Nat.le_refl _)
      rw [decide_eq_false (p := d' < seq) (by omega), Bool.and_false, if_neg (by simp), Nat.add_zero, ← ul]
      refine length_eq_of_nodup hn un fun x => ?_
      rw [hS, um]
      constructor
      · rintro ⟨j, hj, rfl⟩; exact ⟨⟨j, hj, rfl⟩, hgt j hj⟩
      · exact fun h => h.1
  · have hx : ∀ x, x ∈ S' ↔ (x = seq ∨ At z n x) ∧ d' < x := fun x => by rw [hrest.2, mem_insS, hS]
    refine ⟨fun j hj => ?_, ?_, ?_⟩
    · have : (z.getD j 0 ∈ S') = (d' < z.getD j 0) := by rw [hx]; exact propext ⟨fun h => h.2, fun h => ⟨Or.inr ⟨j, hj, rfl⟩, h⟩⟩
      simp only [this]
    · have : (seq ∈ S') = (d' < seq) := by rw [hx]; exact propext ⟨fun h => h.2, fun h => ⟨Or.inl rfl, h⟩⟩
      simp only [this, decide_eq_true hlt, Bool.true_and]
    · obtain ⟨c1, c2⟩ := one_count hr hS hrest
      rw [decide_eq_true hlt, Bool.true_and]
      by_cases hat : At z n seq
      · rw [(atB_iff z seq n).2 hat, c1 hat]; simp
      · have hb : atB z seq n = false := by
          cases hb : atB z seq n
          · rfl
          · exact absurd ((atB_iff z seq n).1 hb) hat
        rw [hb, c2 hat]
        by_cases hw : d' < seq
        · rw [if_pos hw, if_pos (by simp [hw])]
        · rw [if_neg hw, if_neg (by simp [hw])]

end Go.Proofs.Qxb6619618a
