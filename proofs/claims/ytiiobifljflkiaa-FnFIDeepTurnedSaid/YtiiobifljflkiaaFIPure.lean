/- Linear probing on a ring: finding, setting and deleting, in plain numbers; no program is in sight. -/
namespace Go.Proofs.Ytiiobifljflkiaa.FI

/-- The place d steps further on in a ring of n. -/
def pos (n i d : Nat) : Nat := if i + d < n then i + d else i + d - n
theorem pos_or (n i d : Nat) : (i + d < n ∧ pos n i d = i + d) ∨ (n ≤ i + d ∧ pos n i d = i + d - n) := by
  unfold pos
  by_cases h : i + d < n
  · exact Or.inl ⟨h, if_pos h⟩
  · exact Or.inr ⟨by omega, if_neg h⟩
theorem pos_lt {n i d : Nat} (hi : i < n) (hd : d ≤ n) : pos n i d < n := by rcases pos_or n i d with h | h <;> omega
theorem pos_zero {n i : Nat} (hi : i < n) : pos n i 0 = i := by rcases pos_or n i 0 with h | h <;> omega
theorem pos_inj {n i d e : Nat} (_hi : i < n) (hd : d < n) (he : e < n) (h : pos n i d = pos n i e) : d = e := by
  rcases pos_or n i d with h1 | h1 <;> rcases pos_or n i e with h2 | h2 <;> omega
theorem pos_add {n i d e : Nat} (hi : i < n) (hde : d + e ≤ n) : pos n (pos n i d) e = pos n i (d + e) := by
  rcases pos_or n i d with h1 | h1 <;> rcases pos_or n i (d + e) with h2 | h2 <;> rcases pos_or n (pos n i d) e with h3 | h3 <;> omega
/-- How far it is from i to x. -/
theorem pos_dist {n i x : Nat} (hi : i < n) (hx : x < n) : ∃ d, d < n ∧ x = pos n i d := by
  rcases Nat.lt_or_ge x i with h | h
  · refine ⟨x + n - i, by omega, ?_⟩
    rcases pos_or n i (x + n - i) with h1 | h1 <;> omega
  · refine ⟨x - i, by omega, ?_⟩
    rcases pos_or n i (x - i) with h1 | h1 <;> omega
theorem pos_mask {n i d : Nat} (hi : i < n) (hd : d ≤ n) : (i + d) % n = pos n i d := by
  rcases pos_or n i d with h | h
  · rw [h.2, Nat.mod_eq_of_lt h.1]
  · rw [h.2, Nat.mod_eq_sub_mod h.1, Nat.mod_eq_of_lt (by omega)]

/-- A slot turned. -/
def put (T : Nat → Option Nat) (i : Nat) (x : Option Nat) : Nat → Option Nat := fun j => if j = i then x else T j
theorem put_same (T : Nat → Option Nat) (i : Nat) (x : Option Nat) : put T i x i = x := by simp [put]
theorem put_other (T : Nat → Option Nat) {i j : Nat} (x : Option Nat) (h : j ≠ i) : put T i x j = T j := by simp [put, h]

/-- How many slots are taken. -/
def occ (T : Nat → Option Nat) : Nat → Nat
  | 0 => 0
  | n + 1 => occ T n + (T n).isSome.toNat
theorem occ_congr {T U : Nat → Option Nat} : ∀ n, (∀ j, j < n → (T j).isSome = (U j).isSome) → occ T n = occ U n
  | 0, _ => rfl
  | n + 1, h => by rw [occ, occ, occ_congr n fun j hj => h j (by omega), h n (by omega)]
theorem occ_le (T : Nat → Option Nat) : ∀ n, occ T n ≤ n
  | 0 => Nat.le_refl _
  | n + 1 => by
    have := occ_le T n
    rw [occ]
    cases (T n).isSome <;> simp <;> omega
theorem occ_put {T : Nat → Option Nat} {i : Nat} {x : Option Nat} : ∀ n, i < n → occ (put T i x) n + (T i).isSome.toNat = occ T n + x.isSome.toNat
  | 0, h => by omega
  | n + 1, h => by
    rw [occ, occ]
    rcases Nat.lt_or_ge i n with hi | hi
    · have := occ_put (T := T) (x := x) n hi
      rw [put_other T x (show n ≠ i by omega)]
      omega
    · obtain rfl : i = n := by omega
      rw [put_same, occ_congr (T := put T i x) (U := T) i fun j hj => by rw [put_other T x (by omega)]]
      omega
theorem occ_room {T : Nat → Option Nat} : ∀ n, occ T n < n → ∃ i, i < n ∧ T i = none
  | 0, h => by omega
  | n + 1, h => by
    rw [occ] at h
    cases hT : T n with
    | none => exact ⟨n, by omega, hT⟩
    | some b =>
      rw [hT] at h
      simp at h
      obtain ⟨i, h1, h2⟩ := occ_room n h
      exact ⟨i, by omega, h2⟩
theorem occ_none (T : Nat → Option Nat) : ∀ n, (∀ j, j < n → T j = none) → occ T n = 0
  | 0, _ => rfl
  | n + 1, h => by rw [occ, occ_none T n fun j hj => h j (by omega), h n (by omega)]; rfl

section
variable (n : Nat) (key hm : Nat → Nat)

/-- Each key stands once, and can be walked to from its own place. -/
structure WF (T : Nat → Option Nat) : Prop where
  uniq : ∀ i i' b b', i < n → i' < n → T i = some b → T i' = some b' → key b = key b' → i = i'
  path : ∀ i b, i < n → T i = some b → ∃ j, j < n ∧ i = pos n (hm (key b)) j ∧ ∀ j', j' < j → T (pos n (hm (key b)) j') ≠ none

/-- What the search for a key ends at. -/
def Finds (T : Nat → Option Nat) (k i : Nat) : Prop :=
  ∃ j, j < n ∧ i = pos n (hm k) j ∧ (T i = none ∨ ∃ b, T i = some b ∧ key b = k) ∧ ∀ j', j' < j → ∃ b, T (pos n (hm k) j') = some b ∧ key b ≠ k
end

section
variable {n : Nat} {key hm : Nat → Nat} {T : Nat → Option Nat} {k : Nat}

/-- What is found as empty is nowhere. -/
theorem Finds.gone (hw : WF n key hm T) {i : Nat} (hf : Finds n key hm T k i) (hi : T i = none) : ∀ x b, x < n → T x = some b → key b ≠ k := by
  intro x b hx hb hk
  obtain ⟨j, hj, rfl, _, hlow⟩ := hf
  obtain ⟨j2, hj2, rfl, hp⟩ := hw.path x b hx hb
  rw [hk] at hp hb
  rcases Nat.lt_trichotomy j j2 with h | h | h
  · exact hp j h hi
  · subst h; rw [hi] at hb; cases hb
  · obtain ⟨b', h1, h2⟩ := hlow j2 h
    rw [hb] at h1
    cases h1
    exact h2 hk

theorem WF.put_new (hh : ∀ k, hm k < n) (hw : WF n key hm T) {i b : Nat} (hf : Finds n key hm T (key b) i) (hi : T i = none) : WF n key hm (put T i (some b)) := by
  have hg := Finds.gone hw hf hi
  have hin : i < n := by obtain ⟨j, hj, rfl, _⟩ := hf; exact pos_lt (hh _) (by omega)
  refine ⟨fun x x' c c' hx hx' h1 h2 hk => ?_, fun x c hx h1 => ?_⟩
  · by_cases e : x = i
    · subst e
      rw [put_same] at h1
      cases h1
      by_cases e' : x' = x
      · exact e'.symm
      · rw [put_other T _ e'] at h2
        exact absurd hk.symm (hg x' c' hx' h2)
    · rw [put_other T _ e] at h1
      by_cases e' : x' = i
      · subst e'
        rw [put_same] at h2
        cases h2
        exact absurd hk (hg x c hx h1)
      · rw [put_other T _ e'] at h2
        exact hw.uniq x x' c c' hx hx' h1 h2 hk
  · by_cases e : x = i
    · subst e
      rw [put_same] at h1
      cases h1
      obtain ⟨j, hj, hp, _, hlow⟩ := hf
      refine ⟨j, hj, hp, fun j' hj' => ?_⟩
      obtain ⟨b', h1, _⟩ := hlow j' hj'
      rw [put_other T _ (fun e => by rw [e, hi] at h1; cases h1), h1]
      exact fun e => by cases e
    · rw [put_other T _ e] at h1
      obtain ⟨j, hj, hp, hlow⟩ := hw.path x c hx h1
      refine ⟨j, hj, hp, fun j' hj' => ?_⟩
      by_cases e2 : pos n (hm (key c)) j' = i
      · rw [e2, put_same]; exact fun e => by cases e
      · rw [put_other T _ e2]; exact hlow j' hj'

/-- While the entries behind a deleted one are set again: those in front of the place c steps behind it stand well; the others may reach over this zone. -/
structure Mid (n : Nat) (key hm : Nat → Nat) (T : Nat → Option Nat) (i0 c : Nat) : Prop where
  uniq : ∀ i i' b b', i < n → i' < n → T i = some b → T i' = some b' → key b = key b' → i = i'
  path : ∀ d b, d < n → T (pos n i0 d) = some b → ∃ j, j < n ∧ pos n i0 d = pos n (hm (key b)) j ∧
    ∀ j', j' < j → T (pos n (hm (key b)) j') ≠ none ∨ (c ≤ d ∧ ∃ e, e < c ∧ pos n (hm (key b)) j' = pos n i0 e)
  room : ∃ z, c ≤ z ∧ z < n ∧ T (pos n i0 z) = none

/-- The hole itself. -/
theorem Mid.start (hw : WF n key hm T) {i0 b0 : Nat} (hi : i0 < n) (hb : T i0 = some b0) (hroom : ∃ x, x < n ∧ T x = none) : Mid n key hm (put T i0 none) i0 1 := by
  refine ⟨fun x x' c c' hx hx' h1 h2 hk => ?_, fun d b hd h1 => ?_, ?_⟩
  · have e : x ≠ i0 := fun e => by rw [e, put_same] at h1; cases h1
    have e' : x' ≠ i0 := fun e => by rw [e, put_same] at h2; cases h2
    rw [put_other T _ e] at h1
    rw [put_other T _ e'] at h2
    exact hw.uniq x x' c c' hx hx' h1 h2 hk
  · have e : pos n i0 d ≠ i0 := fun e => by rw [e, put_same] at h1; cases h1
    rw [put_other T _ e] at h1
    obtain ⟨j, hj, hp, hlow⟩ := hw.path _ b (pos_lt hi (by omega)) h1
    refine ⟨j, hj, hp, fun j' hj' => ?_⟩
    by_cases e2 : pos n (hm (key b)) j' = i0
    · refine Or.inr ⟨?_, 0, by omega, by rw [e2, pos_zero hi]⟩
      rcases Nat.eq_zero_or_pos d with h | h
      · subst h; exact absurd (pos_zero hi) e
      · exact h
    · rw [put_other T _ e2]; exact Or.inl (hlow j' hj')
  · obtain ⟨x, hx, hT⟩ := hroom
    obtain ⟨z, hz, rfl⟩ := pos_dist hi hx
    refine ⟨z, ?_, hz, ?_⟩
    · rcases Nat.eq_zero_or_pos z with h | h
      · subst h; rw [pos_zero hi, hb] at hT; cases hT
      · exact h
    · rw [put_other T _ (fun e => by rw [e, hb] at hT; cases hT)]; exact hT

/-- Where a walk that leaves the zone must go through. -/
theorem through {i0 h d c e j j' : Nat} (hi : i0 < n) (hj : j < n) (hj' : j' < j) (hd : d < n) (hcd : c ≤ d) (hec : e < c)
    (h1 : pos n i0 d = pos n h j) (h2 : pos n h j' = pos n i0 e) : ∃ j2, j' < j2 ∧ j2 ≤ j ∧ pos n h j2 = pos n i0 c := by
  refine ⟨j' + (c - e), by omega, ?_, ?_⟩
  · rcases pos_or n i0 d with a | a <;> rcases pos_or n h j with b | b <;> rcases pos_or n h j' with g | g <;> rcases pos_or n i0 e with f | f <;> omega
  · rcases pos_or n i0 c with a | a <;> rcases pos_or n h (j' + (c - e)) with b | b <;> rcases pos_or n h j' with g | g <;> rcases pos_or n i0 e with f | f <;> rcases pos_or n i0 d with q | q <;> rcases pos_or n h j with r | r <;> omega

/-- At an empty slot behind the zone all is well again. -/
theorem Mid.done {i0 c : Nat} (hi : i0 < n) (hm' : Mid n key hm T i0 c) (hc : c < n) (hT : T (pos n i0 c) = none) : WF n key hm T := by
  refine ⟨hm'.uniq, fun x b hx hb => ?_⟩
  obtain ⟨d, hd, rfl⟩ := pos_dist hi hx
  obtain ⟨j, hj, hp, hlow⟩ := hm'.path d b hd hb
  refine ⟨j, hj, hp, fun j' hj' => ?_⟩
  rcases hlow j' hj' with h | ⟨hcd, e, he, h2⟩
  · exact h
  · exfalso
    obtain ⟨j2, h3, h4, h5⟩ := through hi hj hj' hd hcd he hp h2
    rcases Nat.lt_or_ge j2 j with h6 | h6
    · rcases hlow j2 h6 with h7 | ⟨_, e2, he2, h8⟩
      · rw [h5] at h7; exact h7 hT
      · rw [h5] at h8
        have := pos_inj hi (by omega) (by omega) h8
        omega
    · obtain rfl : j2 = j := by omega
      rw [hp, h5, hT] at hb
      cases hb

/-- One more entry is taken out and set again. -/
theorem Mid.step (hh : ∀ k, hm k < n) {i0 c b y : Nat} (hi : i0 < n) (hm' : Mid n key hm T i0 c) (hc : c < n) (hT : T (pos n i0 c) = some b)
    (hf : Finds n key hm (put T (pos n i0 c) none) (key b) y) :
    put T (pos n i0 c) none y = none ∧ y < n ∧ (∃ e, e ≤ c ∧ y = pos n i0 e) ∧ Mid n key hm (put (put T (pos n i0 c) none) y (some b)) i0 (c + 1) := by
  have hcn : pos n i0 c < n := pos_lt hi (by omega)
  have hgone : ∀ x c', x < n → put T (pos n i0 c) none x = some c' → key c' ≠ key b := by
    intro x c' hx h1 hk
    have e : x ≠ pos n i0 c := fun e => by rw [e, put_same] at h1; cases h1
    rw [put_other T _ e] at h1
    exact e (hm'.uniq x _ c' b hx hcn h1 hT hk)
  have hyn : y < n := by obtain ⟨j, hj, rfl, _⟩ := hf; exact pos_lt (hh _) (by omega)
  have hy0 : put T (pos n i0 c) none y = none := by
    obtain ⟨j, hj, rfl, h | ⟨b', h1, h2⟩, _⟩ := hf
    · exact h
    · exact absurd h2 (hgone _ b' hyn h1)
  obtain ⟨z, hz1, hz2, hz3⟩ := hm'.room
  have hzc : c < z := by
    rcases Nat.lt_or_ge c z with h | h
    · exact h
    · obtain rfl : c = z := by omega
      rw [hT] at hz3; cases hz3
  -- where y lies
  have hye : ∃ e, e ≤ c ∧ y = pos n i0 e := by
    obtain ⟨j, hj, rfl, _, hlow⟩ := hf
    obtain ⟨j0, hj0, hp0, hlow0⟩ := hm'.path c b hc hT
    by_cases e1 : pos n (hm (key b)) j = pos n i0 c
    · exact ⟨c, Nat.le_refl _, e1⟩
    · have hjj : j < j0 := by
        rcases Nat.lt_trichotomy j j0 with h | h | h
        · exact h
        · subst h; exact absurd hp0.symm e1
        · obtain ⟨b', h1, _⟩ := hlow j0 h
          rw [← hp0, put_same] at h1; cases h1
      rcases hlow0 j hjj with h | ⟨_, e, he, h2⟩
      · rw [put_other T _ e1] at hy0; exact absurd hy0 h
      · exact ⟨e, by omega, h2⟩
  refine ⟨hy0, hyn, hye, ?_, ?_, ?_⟩
  · intro x x' c1 c2 hx hx' h1 h2 hk
    by_cases e : x = y
    · subst e
      rw [put_same] at h1
      cases h1
      by_cases e' : x' = x
      · exact e'.symm
      · rw [put_other _ _ e'] at h2
        exact absurd hk.symm (hgone x' c2 hx' h2)
    · rw [put_other _ _ e] at h1
      by_cases e' : x' = y
      · subst e'
        rw [put_same] at h2
        cases h2
        exact absurd hk (hgone x c1 hx h1)
      · rw [put_other _ _ e'] at h2
        have e1 : x ≠ pos n i0 c := fun e => by rw [e, put_same] at h1; cases h1
        have e2 : x' ≠ pos n i0 c := fun e => by rw [e, put_same] at h2; cases h2
        rw [put_other T _ e1] at h1
        rw [put_other T _ e2] at h2
        exact hm'.uniq x x' c1 c2 hx hx' h1 h2 hk
  · intro d b1 hd h1
    by_cases e : pos n i0 d = y
    · rw [e, put_same] at h1
      cases h1
      obtain ⟨j, hj, hp, _, hlow⟩ := hf
      refine ⟨j, hj, by rw [e, hp], fun j' hj' => Or.inl ?_⟩
      obtain ⟨b', h2, _⟩ := hlow j' hj'
      rw [put_other _ _ (fun e => by rw [e, hy0] at h2; cases h2), h2]
      exact fun e => by cases e
    · rw [put_other _ _ e] at h1
      have e1 : pos n i0 d ≠ pos n i0 c := fun e => by rw [e, put_same] at h1; cases h1
      rw [put_other T _ e1] at h1
      have hdc : d ≠ c := fun e => e1 (by rw [e])
      obtain ⟨j, hj, hp, hlow⟩ := hm'.path d b1 hd h1
      refine ⟨j, hj, hp, fun j' hj' => ?_⟩
      rcases hlow j' hj' with h | ⟨hcd, e2, he2, h2⟩
      · by_cases e3 : pos n (hm (key b1)) j' = pos n i0 c
        · -- the walk goes over the emptied slot: then it does not come from the zone
          rcases Nat.lt_or_ge d c with hlt | hge
          · exfalso
            -- it would go through z, which is empty
            have hz : ∃ j2, j2 < j ∧ pos n (hm (key b1)) j2 = pos n i0 z := by
              refine ⟨j' + (z - c), ?_, ?_⟩
              · have hhk := hh (key b1)
                rcases pos_or n i0 d with a | a <;> rcases pos_or n (hm (key b1)) j with b2 | b2 <;> rcases pos_or n (hm (key b1)) j' with g | g <;> rcases pos_or n i0 c with f | f <;> omega
              · have hhk := hh (key b1)
                rcases pos_or n i0 z with a | a <;> rcases pos_or n (hm (key b1)) (j' + (z - c)) with b2 | b2 <;> rcases pos_or n (hm (key b1)) j' with g | g <;> rcases pos_or n i0 c with f | f <;> rcases pos_or n i0 d with q | q <;> rcases pos_or n (hm (key b1)) j with r | r <;> omega
            obtain ⟨j2, hj2, h3⟩ := hz
            rcases hlow j2 hj2 with h4 | ⟨_, e4, he4, h5⟩
            · rw [h3] at h4; exact h4 hz3
            · rw [h3] at h5
              have := pos_inj hi (by omega) (by omega) h5
              omega
          · exact Or.inr ⟨by omega, c, by omega, e3⟩
        · refine Or.inl ?_
          by_cases e4 : pos n (hm (key b1)) j' = y
          · rw [e4, put_same]; exact fun e => by cases e
          · rw [put_other _ _ e4, put_other T _ e3]; exact h
      · exact Or.inr ⟨by omega, e2, by omega, h2⟩
  · refine ⟨z, by omega, hz2, ?_⟩
    obtain ⟨e, he, rfl⟩ := hye
    have e1 : pos n i0 z ≠ pos n i0 e := fun h => by have := pos_inj hi hz2 (by omega) h; omega
    have e2 : pos n i0 z ≠ pos n i0 c := fun h => by have := pos_inj hi hz2 (by omega) h; omega
    rw [put_other _ _ e1, put_other T _ e2]
    exact hz3
end
end Go.Proofs.Ytiiobifljflkiaa.FI
