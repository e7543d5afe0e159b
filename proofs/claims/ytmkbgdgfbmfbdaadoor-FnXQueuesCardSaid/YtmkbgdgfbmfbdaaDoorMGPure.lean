/- Blocks of a list exchanged, a part turned, two ascending parts merged, in plain Lean. -/
namespace Go.Proofs.YtmkbgdgfbmfbdaaDoor.MG

abbrev Item := Int × Int
def gt_ (L : List Item) (k : Nat) : Item := L.getD k (0, 0)
def ky (L : List Item) (k : Nat) : Int := (gt_ L k).1
theorem gt_at {L : List Item} {k : Nat} {x : Item} (h : L[k]? = some x) : gt_ L k = x := by
  unfold gt_
  rw [List.getD_eq_getElem?_getD, h]; rfl
theorem at_gt {L : List Item} {k : Nat} (h : k < L.length) : L[k]? = some (gt_ L k) := by
  unfold gt_
  rw [List.getD_eq_getElem?_getD, List.getElem?_eq_getElem h]; rfl

theorem perm_set2 {α : Type} [DecidableEq α] {xs : List α} {i j : Nat} {x y : α} (hi : xs[i]? = some x) (hj : xs[j]? = some y) : ((xs.set i y).set j x).Perm xs := by
  obtain ⟨l1, e1⟩ := List.getElem?_eq_some_iff.1 hi
  obtain ⟨l2, e2⟩ := List.getElem?_eq_some_iff.1 hj
  rw [List.perm_iff_count]
  intro a
  rw [List.count_set (by simpa using l2), List.count_set l1]
  have h3 : (xs.set i y)[j]'(by simpa using l2) = y := by
    rw [List.getElem_set]
    split
    · rfl
    · exact e2
  rw [h3, e1]
  have hx : (if x == a then 1 else 0) ≤ xs.count a := by
    split
    · rename_i h
      rw [beq_iff_eq] at h
      subst h
      exact List.count_pos_iff.2 (List.mem_of_getElem? hi)
    · omega
  have hy : (if y == a then 1 else 0) ≤ xs.count a := by
    split
    · rename_i h
      rw [beq_iff_eq] at h
      subst h
      exact List.count_pos_iff.2 (List.mem_of_getElem? hj)
    · omega
  omega

/-- Two blocks of e elements, from a and from b on, are exchanged. -/
structure Swp (L L' : List Item) (a b e : Nat) : Prop where
  perm : L'.Perm L
  at_ : ∀ k, gt_ L' k = if a ≤ k ∧ k < a + e then gt_ L (k - a + b) else if b ≤ k ∧ k < b + e then gt_ L (k - b + a) else gt_ L k
theorem Swp.zero (L : List Item) (a b : Nat) : Swp L L a b 0 := ⟨.refl _, fun k => by
  rw [if_neg (by omega), if_neg (by omega)]⟩
theorem gt_set {L : List Item} {i k : Nat} {x : Item} (hi : i < L.length) : gt_ (L.set i x) k = if k = i then x else gt_ L k := by
  unfold gt_
  rw [List.getD_eq_getElem?_getD, List.getD_eq_getElem?_getD, List.getElem?_set]
  by_cases h : i = k
  · subst h; simp [hi]
  · rw [if_neg h, if_neg (fun e => h e.symm)]
theorem Swp.step {L L' : List Item} {a b e i : Nat} (h : Swp L L' a b i) (hi : i < e) (hab : a + e ≤ b) (hb : b + e ≤ L.length) : Swp L ((L'.set (a + i) (gt_ L' (b + i))).set (b + i) (gt_ L' (a + i))) a b (i + 1) := by
  have hl := h.perm.length_eq
  refine ⟨(perm_set2 (at_gt (by omega)) (at_gt (by omega))).trans h.perm, fun k => ?_⟩
  rw [gt_set (by rw [List.length_set]; omega), gt_set (by omega)]
  have e1 : gt_ L' (a + i) = gt_ L (a + i) := by
    rw [h.at_, if_neg (by omega), if_neg (by omega)]
  have e2 : gt_ L' (b + i) = gt_ L (b + i) := by
    rw [h.at_, if_neg (by omega), if_neg (by omega)]
  rw [e1, e2]
  by_cases h1 : k = b + i
  · subst h1
    rw [if_pos rfl, if_neg (by omega), if_pos (by omega)]
    congr 1; omega
  · rw [if_neg h1]
    by_cases h2 : k = a + i
    · subst h2
      rw [if_pos rfl, if_pos (by omega)]
      congr 1; omega
    · rw [if_neg h2, h.at_]
      by_cases h3 : a ≤ k ∧ k < a + i
      · rw [if_pos h3, if_pos (by omega)]
      · by_cases h4 : b ≤ k ∧ k < b + i
        · rw [if_neg h3, if_pos h4, if_neg (by omega), if_pos (by omega)]
        · rw [if_neg h3, if_neg h4, if_neg (by omega), if_neg (by omega)]
theorem Swp.len {L L' : List Item} {a b e : Nat} (h : Swp L L' a b e) : L'.length = L.length := h.perm.length_eq

/-- What stands at a place when [a, m) and [m, b) have changed places. -/
def tgt (L : List Item) (a m b k : Nat) : Item := if a ≤ k ∧ k < a + (b - m) then gt_ L (k + (m - a)) else if a + (b - m) ≤ k ∧ k < b then gt_ L (k - (b - m)) else gt_ L k
structure Rot (L L' : List Item) (a m b : Nat) : Prop where
  perm : L'.Perm L
  at_ : ∀ k, gt_ L' k = tgt L a m b k
theorem Rot.none {L : List Item} {a m b : Nat} (h1 : a ≤ m) (h2 : m ≤ b) (h : m = a ∨ b = m) : Rot L L a m b := ⟨.refl _, fun k => by
  unfold tgt
  by_cases h3 : a ≤ k ∧ k < a + (b - m)
  · rw [if_pos h3]; congr 1; omega
  · rw [if_neg h3]
    by_cases h4 : a + (b - m) ≤ k ∧ k < b
    · rw [if_pos h4]; congr 1; omega
    · rw [if_neg h4]⟩
/-- On the way: [m - i, m) and [m, m + j) are still to change places. -/
structure Way (L L' : List Item) (a m b i j : Nat) : Prop where
  perm : L'.Perm L
  low : a + i ≤ m
  high : m + j ≤ b
  at_ : ∀ k, tgt L a m b k = tgt L' (m - i) m (m + j) k
theorem Way.start {L : List Item} {a m b : Nat} (h1 : a ≤ m) (h2 : m ≤ b) : Way L L a m b (m - a) (b - m) :=
  ⟨.refl _, by omega, by omega, fun k => by rw [show m - (m - a) = a by omega, show m + (b - m) = b by omega]⟩
theorem Way.left {L L' L'' : List Item} {a m b i j : Nat} (h : Way L L' a m b i j) (hij : j < i) (hs : Swp L' L'' (m - i) m j) : Way L L'' a m b (i - j) j := by
  have hlow := h.low
  refine ⟨hs.perm.trans h.perm, by omega, h.high, fun k => ?_⟩
  rw [h.at_]
  unfold tgt
  rw [hs.at_, hs.at_, hs.at_]
  by_cases c1 : m - i ≤ k ∧ k < m - i + (m + j - m)
  · rw [if_pos c1, if_neg (by omega), if_neg (by omega), if_pos (by omega)]
    congr 1; omega
  · rw [if_neg c1]
    by_cases c2 : m - i + (m + j - m) ≤ k ∧ k < m + j
    · rw [if_pos c2]
      by_cases c3 : k < m - i + j + j
      · rw [if_pos (by omega), if_neg (by omega), if_pos (by omega)]
        congr 1; omega
      · rw [if_neg (by omega), if_pos (by omega), if_neg (by omega), if_neg (by omega)]
    · rw [if_neg c2, if_neg (by omega), if_neg (by omega), if_neg (by omega), if_neg (by omega)]
theorem Way.right {L L' L'' : List Item} {a m b i j : Nat} (h : Way L L' a m b i j) (hij : i < j) (hs : Swp L' L'' (m - i) (m + j - i) i) : Way L L'' a m b i (j - i) := by
  have hlow := h.low
  have hhigh := h.high
  refine ⟨hs.perm.trans h.perm, by omega, by omega, fun k => ?_⟩
  rw [h.at_]
  unfold tgt
  rw [hs.at_, hs.at_, hs.at_]
  by_cases c1 : m - i ≤ k ∧ k < m - i + (m + j - m)
  · rw [if_pos c1]
    by_cases c3 : k < m - i + (j - i)
    · rw [if_pos (by omega)]
      by_cases c4 : k + (m - (m - i)) < m + j - i
      · rw [if_neg (by omega), if_neg (by omega)]
      · omega
    · rw [if_neg (by omega)]
      by_cases c4 : k < m + j - i
      · rw [if_pos (by omega), if_pos (by omega)]
        congr 1; omega
      · omega
  · rw [if_neg c1]
    by_cases c2 : m - i + (m + j - m) ≤ k ∧ k < m + j
    · rw [if_pos c2, if_neg (by omega), if_neg (by omega), if_neg (by omega), if_pos (by omega)]
      congr 1; omega
    · rw [if_neg c2, if_neg (by omega), if_neg (by omega), if_neg (by omega), if_neg (by omega)]
theorem Way.done {L L' L'' : List Item} {a m b i : Nat} (h : Way L L' a m b i i) (hs : Swp L' L'' (m - i) m i) : Rot L L'' a m b := by
  have hlow := h.low
  refine ⟨hs.perm.trans h.perm, fun k => ?_⟩
  rw [h.at_, hs.at_]
  unfold tgt
  by_cases c1 : m - i ≤ k ∧ k < m - i + i
  · rw [if_pos c1, if_pos (by omega)]; congr 1; omega
  · by_cases c2 : m ≤ k ∧ k < m + i
    · rw [if_neg c1, if_pos c2, if_neg (by omega), if_pos (by omega)]; congr 1; omega
    · rw [if_neg c1, if_neg c2, if_neg (by omega), if_neg (by omega)]
theorem Rot.len {L L' : List Item} {a m b : Nat} (h : Rot L L' a m b) : L'.length = L.length := h.perm.length_eq

/-- A part is ascending. -/
def Srt (L : List Item) (a b : Nat) : Prop := ∀ i j, a ≤ i → i ≤ j → j < b → ky L i ≤ ky L j
/-- A part has been put in order. -/
structure Merged (L L' : List Item) (a b : Nat) : Prop where
  perm : L'.Perm L
  out : ∀ k, k < a ∨ b ≤ k → gt_ L' k = gt_ L k
  in_ : ∀ k, a ≤ k → k < b → ∃ k', a ≤ k' ∧ k' < b ∧ gt_ L' k = gt_ L k'
  srt : Srt L' a b
theorem Merged.len {L L' : List Item} {a b : Nat} (h : Merged L L' a b) : L'.length = L.length := h.perm.length_eq
theorem Merged.none {L : List Item} {a m b : Nat} (h1 : a ≤ m) (h2 : m ≤ b) (h : m = a ∨ b = m) (s1 : Srt L a m) (s2 : Srt L m b) : Merged L L a b :=
  ⟨.refl _, fun _ _ => rfl, fun k h3 h4 => ⟨k, h3, h4, rfl⟩, by
    rcases h with rfl | rfl
    · exact s2
    · exact s1⟩
/-- What the search has found. -/
structure Found (L : List Item) (lo hi t s : Nat) : Prop where
  low : lo ≤ s
  high : s ≤ hi
  yes : ∀ m, lo ≤ m → m < s → ky L m ≤ ky L (t - m)
  no : ∀ m, s ≤ m → m < hi → ky L (t - m) < ky L m
def cutlo (s1 s2 last : Nat) : Nat := if (s1 + last) / 2 < s2 then (s1 + last) / 2 + s2 - last else s1
def cuthi (s1 s2 last : Nat) : Nat := if (s1 + last) / 2 < s2 then (s1 + last) / 2 else s2
theorem cut_le {s1 s2 last : Nat} (h1 : s1 < s2) (h2 : s2 < last) : s1 ≤ cutlo s1 s2 last ∧ cutlo s1 s2 last ≤ cuthi s1 s2 last ∧ cuthi s1 s2 last ≤ s2 ∧ cuthi s1 s2 last ≤ (s1 + last) / 2 := by
  unfold cutlo cuthi
  split <;> omega
theorem cut_mono {L : List Item} {s1 s2 last : Nat} (h1 : s1 < s2) (h2 : s2 < last) (a1 : Srt L s1 s2) (a2 : Srt L s2 last) {m m' : Nat} (hm : cutlo s1 s2 last ≤ m) (hmm : m ≤ m') (hm' : m' < cuthi s1 s2 last)
    (h : ky L m' ≤ ky L ((s1 + last) / 2 + s2 - 1 - m')) : ky L m ≤ ky L ((s1 + last) / 2 + s2 - 1 - m) := by
  have b1 : ky L m ≤ ky L m' := a1 m m' (by unfold cutlo at hm; split at hm <;> omega) hmm (by unfold cuthi at hm'; split at hm' <;> omega)
  have b2 : ky L ((s1 + last) / 2 + s2 - 1 - m') ≤ ky L ((s1 + last) / 2 + s2 - 1 - m) := by
    refine a2 _ _ ?_ (by omega) ?_
    · unfold cuthi at hm'; split at hm' <;> omega
    · unfold cutlo at hm; split at hm <;> omega
  omega
theorem merge_parts {L L1 : List Item} {s1 s2 last s : Nat} (h1 : s1 < s2) (h2 : s2 < last) (a1 : Srt L s1 s2) (a2 : Srt L s2 last) (hf : Found L (cutlo s1 s2 last) (cuthi s1 s2 last) ((s1 + last) / 2 + s2 - 1) s) (hr : Rot L L1 s s2 ((s1 + last) / 2 + s2 - s)) :
    Srt L1 s1 s ∧ Srt L1 s ((s1 + last) / 2) ∧ Srt L1 ((s1 + last) / 2) ((s1 + last) / 2 + s2 - s) ∧ Srt L1 ((s1 + last) / 2 + s2 - s) last ∧
      (∀ i j, s1 ≤ i → i < (s1 + last) / 2 → (s1 + last) / 2 ≤ j → j < last → ky L1 i ≤ ky L1 j) ∧ (∀ k, k < s1 ∨ last ≤ k → gt_ L1 k = gt_ L k) ∧ (∀ k, s1 ≤ k → k < last → ∃ k', s1 ≤ k' ∧ k' < last ∧ gt_ L1 k = gt_ L k') := by
  obtain ⟨c1, c2, c3, c4⟩ := cut_le h1 h2
  have f1 := hf.low
  have f2 := hf.high
  obtain ⟨mid, hmid⟩ : ∃ mid, mid = (s1 + last) / 2 := ⟨_, rfl⟩
  have hlo : cutlo s1 s2 last = if mid < s2 then mid + s2 - last else s1 := by rw [hmid]; rfl
  have hhi : cuthi s1 s2 last = if mid < s2 then mid else s2 := by rw [hmid]; rfl
  obtain ⟨lo, hlo'⟩ : ∃ lo, lo = cutlo s1 s2 last := ⟨_, rfl⟩
  obtain ⟨hi, hhi'⟩ : ∃ hi, hi = cuthi s1 s2 last := ⟨_, rfl⟩
  rw [← hlo'] at hlo c1 c2 hf f1
  rw [← hhi'] at hhi c2 c3 c4 hf f2
  rw [← hmid] at hf hr c4 ⊢
  have hm1 : s1 < mid := by omega
  have hm2 : mid < last := by omega
  have he1 : mid + s2 - s ≤ last := by split at hlo <;> omega
  have he2 : s2 ≤ mid + s2 - s := by omega
  have g1 : ∀ k, k < s → gt_ L1 k = gt_ L k := fun k hk => by rw [hr.at_]; unfold tgt; rw [if_neg (by omega), if_neg (by omega)]
  have g2 : ∀ k, s ≤ k → k < mid → gt_ L1 k = gt_ L (k + (s2 - s)) := fun k hk hk' => by rw [hr.at_]; unfold tgt; rw [if_pos (by omega)]
  have g3 : ∀ k, mid ≤ k → k < mid + s2 - s → gt_ L1 k = gt_ L (k - (mid - s)) := fun k hk hk' => by
    rw [hr.at_]; unfold tgt; rw [if_neg (by omega), if_pos (by omega)]; congr 1; omega
  have g4 : ∀ k, mid + s2 - s ≤ k → gt_ L1 k = gt_ L k := fun k hk => by rw [hr.at_]; unfold tgt; rw [if_neg (by omega), if_neg (by omega)]
  -- the last of the left ones, the first of the right ones
  have x1 : ∀ i j, s1 ≤ i → i < s → mid + s2 - s ≤ j → j < last → ky L i ≤ ky L j := fun i j hi hi' hj hj' => by
    have b0 : lo ≤ s - 1 := by
      split at hlo <;> omega
    have b1 := hf.yes (s - 1) b0 (by omega)
    have b2 : ky L i ≤ ky L (s - 1) := a1 i (s - 1) hi (by omega) (by omega)
    have b3 : ky L (mid + s2 - 1 - (s - 1)) ≤ ky L j := a2 _ j (by omega) (by omega) hj'
    omega
  have x2 : ∀ i j, s2 ≤ i → i < mid + s2 - s → s ≤ j → j < s2 → ky L i ≤ ky L j := fun i j hi_ hi' hj hj' => by
    have b0 : s < hi := by
      split at hhi <;> omega
    have b1 := hf.no s (Nat.le_refl _) b0
    have b2 : ky L s ≤ ky L j := a1 s j (by omega) hj hj'
    have b3 : ky L i ≤ ky L (mid + s2 - 1 - s) := a2 i _ hi_ (by omega) (by omega)
    omega
  have K1 : ∀ k, k < s → ky L1 k = ky L k := fun k hk => by unfold ky; rw [g1 k hk]
  have K2 : ∀ k, s ≤ k → k < mid → ky L1 k = ky L (k + (s2 - s)) := fun k hk hk' => by unfold ky; rw [g2 k hk hk']
  have K3 : ∀ k, mid ≤ k → k < mid + s2 - s → ky L1 k = ky L (k - (mid - s)) := fun k hk hk' => by unfold ky; rw [g3 k hk hk']
  have K4 : ∀ k, mid + s2 - s ≤ k → ky L1 k = ky L k := fun k hk => by unfold ky; rw [g4 k hk]
  refine ⟨fun i j hi hij hj => ?_, fun i j hi hij hj => ?_, fun i j hi hij hj => ?_, fun i j hi hij hj => ?_, fun i j hi hi' hj hj' => ?_, fun k hk => ?_, fun k hk hk' => ?_⟩
  · rw [K1 i (by omega), K1 j hj]; exact a1 i j hi hij (by omega)
  · rw [K2 i hi (by omega), K2 j (by omega) hj]; exact a2 _ _ (by omega) (by omega) (by omega)
  · rw [K3 i hi (by omega), K3 j (by omega) hj]; exact a1 _ _ (by omega) (by omega) (by omega)
  · rw [K4 i hi, K4 j (by omega)]; exact a2 i j (by omega) hij hj
  · by_cases d1 : i < s
    · rw [K1 i d1]
      by_cases d2 : j < mid + s2 - s
      · rw [K3 j hj d2]; exact a1 _ _ hi (by omega) (by omega)
      · rw [K4 j (by omega)]; exact x1 i j hi d1 (by omega) hj'
    · rw [K2 i (by omega) hi']
      by_cases d2 : j < mid + s2 - s
      · rw [K3 j hj d2]; exact x2 _ _ (by omega) (by omega) (by omega) (by omega)
      · rw [K4 j (by omega)]; exact a2 _ _ (by omega) (by omega) hj'
  · rcases hk with hk | hk
    · exact g1 k (by omega)
    · exact g4 k (by omega)
  · by_cases d1 : k < s
    · exact ⟨k, hk, hk', g1 k d1⟩
    · by_cases d2 : k < mid
      · exact ⟨_, by omega, by omega, g2 k (by omega) d2⟩
      · by_cases d3 : k < mid + s2 - s
        · exact ⟨_, by omega, by omega, g3 k (by omega) d3⟩
        · exact ⟨k, hk, hk', g4 k (by omega)⟩
theorem merge_all {L L1 L2 L3 : List Item} {s1 last mid : Nat} (h1 : s1 ≤ mid) (h2 : mid ≤ last) (hp : L1.Perm L) (hx : ∀ i j, s1 ≤ i → i < mid → mid ≤ j → j < last → ky L1 i ≤ ky L1 j)
    (ho : ∀ k, k < s1 ∨ last ≤ k → gt_ L1 k = gt_ L k) (hi : ∀ k, s1 ≤ k → k < last → ∃ k', s1 ≤ k' ∧ k' < last ∧ gt_ L1 k = gt_ L k') (m1 : Merged L1 L2 s1 mid) (m2 : Merged L2 L3 mid last) : Merged L L3 s1 last := by
  have out2 : ∀ k, s1 ≤ k → k < mid → gt_ L3 k = gt_ L2 k := fun k _ hk => m2.out k (Or.inl hk)
  have in3 : ∀ k, mid ≤ k → k < last → ∃ k', mid ≤ k' ∧ k' < last ∧ gt_ L3 k = gt_ L1 k' := fun k hk hk' => by
    obtain ⟨k', b1, b2, b3⟩ := m2.in_ k hk hk'
    exact ⟨k', b1, b2, by rw [b3, m1.out k' (Or.inr b1)]⟩
  refine ⟨m2.perm.trans (m1.perm.trans hp), fun k hk => ?_, fun k hk hk' => ?_, fun i j b1 b2 b3 => ?_⟩
  · rw [m2.out k (by omega), m1.out k (by omega), ho k hk]
  · by_cases d : k < mid
    · rw [out2 k hk d]
      obtain ⟨k', b1, b2, b3⟩ := m1.in_ k hk d
      obtain ⟨k'', c1, c2, c3⟩ := hi k' b1 (by omega)
      exact ⟨k'', c1, c2, b3.trans c3⟩
    · obtain ⟨k', b1, b2, b3⟩ := in3 k (by omega) hk'
      obtain ⟨k'', c1, c2, c3⟩ := hi k' (by omega) b2
      exact ⟨k'', c1, c2, b3.trans c3⟩
  · by_cases d1 : j < mid
    · have e1 := out2 i b1 (by omega)
      have e2 := out2 j (by omega) d1
      unfold ky
      rw [e1, e2]
      exact m1.srt i j b1 b2 d1
    · by_cases d2 : i < mid
      · have e1 := out2 i b1 d2
        obtain ⟨i', c1, c2, c3⟩ := m1.in_ i b1 d2
        obtain ⟨j', d3, d4, d5⟩ := in3 j (by omega) b3
        have := hx i' j' c1 c2 d3 d4
        unfold ky at this ⊢
        rw [e1, c3, d5]
        exact this
      · exact m2.srt i j (by omega) b2 b3
end Go.Proofs.YtmkbgdgfbmfbdaaDoor.MG
