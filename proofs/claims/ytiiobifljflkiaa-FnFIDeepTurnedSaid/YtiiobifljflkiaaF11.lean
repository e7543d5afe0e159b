/- FnFIDeepMany, in plain words: the steps and the dictionary after each of them. -/
import Derived.Test.YtiiobifljflkiaaF10
namespace Go.Proofs.Ytiiobifljflkiaa
open Go.RowKit FI

def keyOf (first g i : Nat) : Nat := (first + (i * g) % 18446744073709551616) % 18446744073709551616
theorem keyOf_lt (first g i : Nat) : keyOf first g i < 18446744073709551616 := Nat.mod_lt _ (by decide)
theorem keyOf_inj {first g i j : Nat} (hg : g % 2 = 1) (hi : i < 300) (hj : j < 300) (h : keyOf first g i = keyOf first g j) : i = j := by
  have hc : Nat.Coprime 18446744073709551616 g := by
    have h2 : Nat.Coprime 2 g := by
      rw [Nat.coprime_iff_gcd_eq_one, Nat.gcd_rec, hg]; decide
    have := Nat.Coprime.pow_left 64 h2
    simpa using this
  have key : ∀ i j : Nat, i ≤ j → j < 300 → keyOf first g i = keyOf first g j → i = j := by
    intro i j hij hj h
    have hd : 18446744073709551616 ∣ (j - i) * g := by
      obtain ⟨d, rfl⟩ : ∃ d, j = i + d := ⟨j - i, by omega⟩
      have e : (i + d) * g = i * g + d * g := Nat.add_mul _ _ _
      unfold keyOf at h
      rw [e] at h
      rw [Nat.add_sub_cancel_left]
      generalize i * g = x at h
      generalize d * g = y at h
      omega
    have := Nat.Coprime.dvd_of_dvd_mul_right hc hd
    rcases Nat.eq_zero_or_pos (j - i) with h0 | h0
    · omega
    · have := Nat.le_of_dvd h0 this
      omega
  rcases Nat.le_total i j with hl | hl
  · exact key i j hl hj h
  · exact (key j i hl hi h.symm).symm

section
variable (key : Nat → Nat)
def Da : Nat → Nat → Option Nat
  | 0 => fun _ => none
  | m + 1 => setD (Da m) (key m) 1
def Db : Nat → Nat → Option Nat
  | 0 => fun _ => none
  | m + 1 => setD (Db m) (key m) (m + 2)
theorem Da_none : ∀ m q, (∀ i, i < m → key i ≠ q) → Da key m q = none
  | 0, _, _ => rfl
  | m + 1, q, h => by
    have := Da_none m q fun i hi => h i (by omega)
    simp only [Da, setD]
    rw [if_neg (fun e => h m (by omega) e.symm)]
    exact this
theorem Da_gone (inj : ∀ i j, i < 300 → j < 300 → key i = key j → i = j) (m : Nat) (hm : m < 300) : gone (Da key (m + 1)) (key m) = Da key m := by
  funext q
  unfold gone
  by_cases hq : q = key m
  · rw [if_pos hq, hq, Da_none]
    intro i hi e
    have := inj i m (by omega) hm e
    omega
  · rw [if_neg hq]
    simp only [Da, setD]
    rw [if_neg hq]
variable (n : Nat)
/-- The i-th step. -/
def stp (i : Nat) : Stp :=
  if i < n then ⟨1, key i, 1⟩ else if i < 3 * n then (if (i - n) % 2 = 0 then ⟨4, key (n - 1 - (i - n) / 2), 0⟩ else ⟨3, key (n - 1 - (i - n) / 2), 0⟩)
  else if (i - 3 * n) % 2 = 0 then ⟨1, key ((i - 3 * n) / 2), (i - 3 * n) / 2 + 2⟩ else ⟨2, key ((i - 3 * n) / 2), 0⟩
/-- Ahead of the i-th step. -/
def sts (i : Nat) : St :=
  if i < n then ⟨Da key i, i⟩ else if i < 3 * n then ⟨Da key (n - (i - n + 1) / 2), n - (i - n + 1) / 2⟩ else ⟨Db key ((i - 3 * n + 1) / 2), (i - 3 * n + 1) / 2⟩
variable {key} {n}
theorem stp_a {i : Nat} (h : i < n) : stp key n i = ⟨1, key i, 1⟩ := by simp [stp, h]
theorem stp_b {t : Nat} (h : t < n) : stp key n (n + 2 * t) = ⟨4, key (n - 1 - t), 0⟩ := by
  unfold stp; rw [if_neg (by omega), if_pos (by omega), if_pos (by omega)]; congr 3; omega
theorem stp_c {t : Nat} (h : t < n) : stp key n (n + 2 * t + 1) = ⟨3, key (n - 1 - t), 0⟩ := by
  unfold stp; rw [if_neg (by omega), if_pos (by omega), if_neg (by omega)]; congr 3; omega
theorem stp_d {t : Nat} : stp key n (3 * n + 2 * t) = ⟨1, key t, t + 2⟩ := by
  unfold stp; rw [if_neg (by omega), if_neg (by omega), if_pos (by omega), show (3 * n + 2 * t - 3 * n) / 2 = t by omega]
theorem stp_e {t : Nat} : stp key n (3 * n + 2 * t + 1) = ⟨2, key t, 0⟩ := by
  unfold stp; rw [if_neg (by omega), if_neg (by omega), if_neg (by omega), show (3 * n + 2 * t + 1 - 3 * n) / 2 = t by omega]
theorem sts_a {i : Nat} (h : i ≤ n) : sts key n i = ⟨Da key i, i⟩ := by
  unfold sts
  by_cases h1 : i < n
  · rw [if_pos h1]
  · rw [if_neg h1]
    have : i = n := by omega
    subst this
    by_cases h2 : i < 3 * i
    · rw [if_pos h2, show i - (i - i + 1) / 2 = i by omega]
    · have : i = 0 := by omega
      subst this; rfl
theorem sts_b {t : Nat} (h : t ≤ n) : sts key n (n + 2 * t) = ⟨Da key (n - t), n - t⟩ := by
  unfold sts
  by_cases h1 : t < n
  · rw [if_neg (by omega), if_pos (by omega), show n - (n + 2 * t - n + 1) / 2 = n - t by omega]
  · have : t = n := by omega
    subst this
    rw [if_neg (by omega), if_neg (by omega), show (t + 2 * t - 3 * t + 1) / 2 = 0 by omega, Nat.sub_self]; rfl
theorem sts_c {t : Nat} (h : t < n) : sts key n (n + 2 * t + 1) = ⟨Da key (n - 1 - t), n - 1 - t⟩ := by
  unfold sts; rw [if_neg (by omega), if_pos (by omega), show n - (n + 2 * t + 1 - n + 1) / 2 = n - 1 - t by omega]
theorem sts_d {t : Nat} : sts key n (3 * n + 2 * t) = ⟨Db key t, t⟩ := by
  have h0 : (3 * n + 2 * t - 3 * n + 1) / 2 = t := by omega
  by_cases hn : n = 0 ∨ 0 < t
  · unfold sts; rw [if_neg (by omega), if_neg (by omega), h0]
  · have : t = 0 := by omega
    subst this
    have h := sts_b (key := key) (n := n) (t := n) (by omega)
    rw [Nat.sub_self, show n + 2 * n = 3 * n + 2 * 0 by omega] at h
    exact h
theorem sts_e {t : Nat} : sts key n (3 * n + 2 * t + 1) = ⟨Db key (t + 1), t + 1⟩ := by
  unfold sts; rw [if_neg (by omega), if_neg (by omega), show (3 * n + 2 * t + 1 - 3 * n + 1) / 2 = t + 1 by omega]
theorem places (n i : Nat) (h : i < 5 * n) : i < n ∨ (∃ t, t < n ∧ i = n + 2 * t) ∨ (∃ t, t < n ∧ i = n + 2 * t + 1) ∨ (∃ t, t < n ∧ i = 3 * n + 2 * t) ∨ ∃ t, t < n ∧ i = 3 * n + 2 * t + 1 := by
  by_cases h1 : i < n
  · exact Or.inl h1
  · by_cases h2 : i < 3 * n
    · by_cases h3 : (i - n) % 2 = 0
      · exact Or.inr (Or.inl ⟨(i - n) / 2, by omega, by omega⟩)
      · exact Or.inr (Or.inr (Or.inl ⟨(i - n) / 2, by omega, by omega⟩))
    · by_cases h3 : (i - 3 * n) % 2 = 0
      · exact Or.inr (Or.inr (Or.inr (Or.inl ⟨(i - 3 * n) / 2, by omega, by omega⟩)))
      · exact Or.inr (Or.inr (Or.inr (Or.inr ⟨(i - 3 * n) / 2, by omega, by omega⟩)))
theorem sts_next (inj : ∀ i j, i < 300 → j < 300 → key i = key j → i = j) (hn : n ≤ 300) {i : Nat} (h : i < 5 * n) : nxt (sts key n i) (stp key n i) = sts key n (i + 1) := by
  rcases places n i h with h1 | ⟨t, ht, rfl⟩ | ⟨t, ht, rfl⟩ | ⟨t, ht, rfl⟩ | ⟨t, ht, rfl⟩
  · rw [sts_a (by omega), sts_a (by omega), stp_a h1]
    rfl
  · rw [sts_b (by omega), sts_c ht, stp_b ht]
    obtain ⟨m, hm⟩ : ∃ m, m = n - 1 - t := ⟨_, rfl⟩
    rw [show n - t = m + 1 by omega, ← hm]
    show (⟨gone (Da key (m + 1)) (key m), m + 1 - (Da key (m + 1) (key m)).isSome.toNat⟩ : St) = ⟨Da key m, m⟩
    rw [Da_gone key inj m (by omega)]
    have : Da key (m + 1) (key m) = some 1 := by simp [Da, setD]
    rw [this]; rfl
  · rw [sts_c ht, stp_c ht, show n + 2 * t + 1 + 1 = n + 2 * (t + 1) by omega, sts_b (by omega), show n - (t + 1) = n - 1 - t by omega]
    rfl
  · rw [sts_d, stp_d, sts_e]
    rfl
  · rw [sts_e, stp_e, show 3 * n + 2 * t + 1 + 1 = 3 * n + 2 * (t + 1) by omega, sts_d]
    rfl
def steps (key : Nat → Nat) (n m : Nat) : List Stp := (List.range m).map (stp key n)
theorem steps_len (m : Nat) : (steps key n m).length = m := by simp [steps]
theorem steps_at {m i : Nat} (h : i < m) : (steps key n m).getD i stp0 = stp key n i := by simp [steps, h]
theorem steps_succ (m : Nat) : steps key n (m + 1) = steps key n m ++ [stp key n m] := by simp [steps, List.range_succ]
theorem steps_two (m : Nat) : steps key n (m + 2) = steps key n m ++ [stp key n m, stp key n (m + 1)] := by simp [steps, List.range_succ]
theorem after_steps (inj : ∀ i j, i < 300 → j < 300 → key i = key j → i = j) (hn : n ≤ 300) : ∀ i, i ≤ 5 * n → after (steps key n (5 * n)) i = sts key n i
  | 0, _ => by rw [sts_a (by omega)]; rfl
  | i + 1, h => by rw [after_succ (by rw [steps_len]; omega), after_steps inj hn i (by omega), steps_at (by omega), sts_next inj hn (by omega)]
theorem okay_steps (inj : ∀ i j, i < 300 → j < 300 → key i = key j → i = j) (hk : ∀ i, key i < 18446744073709551616) (hn : n ≤ 300) : Okay (steps key n (5 * n)) := by
  intro i hi
  rw [steps_len] at hi
  rw [after_steps inj hn i (by omega), steps_at hi]
  have := hk
  rcases places n i hi with h1 | ⟨t, ht, rfl⟩ | ⟨t, ht, rfl⟩ | ⟨t, ht, rfl⟩ | ⟨t, ht, rfl⟩
  · rw [sts_a (by omega), stp_a h1]
    exact ⟨by simp only; omega, by simp only; omega, hk _, by simp only; omega, by simp only; omega⟩
  · rw [sts_b (by omega), stp_b ht]
    exact ⟨by simp only; omega, by simp only; omega, hk _, by simp only; omega, by simp only; omega⟩
  · rw [sts_c ht, stp_c ht]
    exact ⟨by simp only; omega, by simp only; omega, hk _, by simp only; omega, by simp only; omega⟩
  · rw [sts_d, stp_d]
    exact ⟨by simp only; omega, by simp only; omega, hk _, by simp only; omega, by simp only; omega⟩
  · rw [sts_e, stp_e]
    exact ⟨by simp only; omega, by simp only; omega, hk _, by simp only; omega, by simp only; omega⟩
/-- What is said: nothing in between, each new value then. -/
theorem tell_steps (inj : ∀ i j, i < 300 → j < 300 → key i = key j → i = j) (hn : n ≤ 300) {L : List (Nat × Bool)}
    (hs : ∀ i, i < (steps key n (5 * n)).length → ((steps key n (5 * n)).getD i stp0).op ≠ 6 → L.getD i (0, false) = tell (after (steps key n (5 * n)) i) ((steps key n (5 * n)).getD i stp0)) {i : Nat} (hi : i < n) :
    (L.getD (n + 2 * i + 1) (0, false)).2 = false ∧ L.getD (3 * n + 2 * i + 1) (0, false) = (i + 2, true) := by
  rw [steps_len] at hs
  have h1 := hs (n + 2 * i + 1) (by omega)
  have h2 := hs (3 * n + 2 * i + 1) (by omega)
  rw [after_steps inj hn _ (by omega), steps_at (by omega), sts_c hi, stp_c hi] at h1
  rw [after_steps inj hn _ (by omega), steps_at (by omega), sts_e, stp_e] at h2
  constructor
  · rw [h1 (by simp)]
    show (Da key (n - 1 - i) (key (n - 1 - i))).isSome = false
    rw [Da_none]
    · rfl
    · intro j hj e
      have := inj j _ (by omega) (by omega) e
      omega
  · rw [h2 (by simp)]
    show (said (Db key (i + 1) (key i)), (Db key (i + 1) (key i)).isSome) = (i + 2, true)
    have : Db key (i + 1) (key i) = some (i + 2) := by simp [Db, setD]
    rw [this]; rfl
end

/-- Steps in a row of cells. -/
def cellsOf (L : List Stp) : List Value := L.flatMap fun x => [.int .i64 (x.op : Nat), .int .u64 (x.key : Nat), .int .u64 (x.val : Nat)]
theorem cellsOf_append (L M : List Stp) : cellsOf (L ++ M) = cellsOf L ++ cellsOf M := by simp [cellsOf]
theorem cellsOf_len : ∀ L : List Stp, (cellsOf L).length = L.length * 3
  | [] => rfl
  | x :: L => by have := cellsOf_len L; simp [cellsOf] at this ⊢; omega
theorem cellsOf_at : ∀ (L : List Stp) (i : Nat), i < L.length → (cellsOf L)[i * 3]? = some (.int .i64 ((L.getD i stp0).op : Nat)) ∧ (cellsOf L)[i * 3 + 1]? = some (.int .u64 ((L.getD i stp0).key : Nat)) ∧ (cellsOf L)[i * 3 + 2]? = some (.int .u64 ((L.getD i stp0).val : Nat))
  | [], i, h => absurd h (Nat.not_lt_zero _)
  | x :: L, 0, _ => ⟨rfl, rfl, rfl⟩
  | x :: L, i + 1, h => by
    have := cellsOf_at L i (by simpa using h)
    have e : cellsOf (x :: L) = .int .i64 (x.op : Nat) :: .int .u64 (x.key : Nat) :: .int .u64 (x.val : Nat) :: cellsOf L := rfl
    rw [e, show (i + 1) * 3 = i * 3 + 1 + 1 + 1 by omega]
    simpa using this
theorem Stps.of_own {w : World} {base : Nat} {e : TypeId} {v : Value} {xs : List Stp} (h : w.ownsRow base e 3 v xs.length (cellsOf xs)) : Stps w v xs := by
  obtain ⟨h1, h2⟩ := h
  rcases h2 with ⟨h2, h3⟩ | ⟨g, cap, cur, hv, hg, hh, hn, hm, hs, ht⟩
  · exact Or.inl ⟨h2, List.length_eq_zero_iff.1 h3⟩
  · refine Or.inr ⟨g, 0, cap, hv, hn, fun i hi => ?_⟩
    have hc : ∀ j, j < xs.length * 3 → cur[j]? = (cellsOf xs)[j]? := by
      intro j hj
      have h3 : (cur.toList.take (xs.length * 3))[j]? = (cellsOf xs)[j]? := by rw [ht]
      rw [List.getElem?_take, if_pos hj, Array.getElem?_toList] at h3
      exact h3
    obtain ⟨a1, a2, a3⟩ := cellsOf_at xs i hi
    have hb : Blk w g cur e := hh
    simp only [Nat.zero_add]
    exact ⟨hb.cell ((hc _ (by omega)).trans a1), hb.cell ((hc _ (by omega)).trans a2), hb.cell ((hc _ (by omega)).trans a3)⟩
theorem Stps.same {w w' : World} {sl : Value} {xs : List Stp} (h : Stps w sl xs) (hb : Below w.heap.size w w') : Stps w' sl xs := by
  rcases h with h | ⟨b, o, c, h1, h2, h3⟩
  · exact Or.inl h
  · exact Or.inr ⟨b, o, c, h1, h2, fun i hi => ⟨(hb.cell (cell_lt (h3 i hi).1)).trans (h3 i hi).1, (hb.cell (cell_lt (h3 i hi).2.1)).trans (h3 i hi).2.1, (hb.cell (cell_lt (h3 i hi).2.2)).trans (h3 i hi).2.2⟩⟩
/-- Answers in a row of cells. -/
theorem ans_at : ∀ (L : List (Nat × Bool)) (i : Nat), i < L.length → (ans L)[i * 2]? = some (.int .u64 ((L.getD i (0, false)).1 : Nat)) ∧ (ans L)[i * 2 + 1]? = some (.bool (L.getD i (0, false)).2)
  | [], i, h => absurd h (Nat.not_lt_zero _)
  | x :: L, 0, _ => ⟨rfl, rfl⟩
  | x :: L, i + 1, h => by
    have := ans_at L i (by simpa using h)
    have e : ans (x :: L) = .int .u64 (x.1 : Nat) :: .bool x.2 :: ans L := rfl
    rw [e, show (i + 1) * 2 = i * 2 + 1 + 1 by omega]
    simpa using this
/-- A slice that reads as a list of answers. -/
def Anss (w : World) (v : Value) (L : List (Nat × Bool)) : Prop :=
  L = [] ∨ ∃ b c, v = .slice (some ⟨b, 0, none⟩) L.length c ∧ L.length ≤ c ∧ ∀ i, i < L.length → w.cell? ⟨b, i * 2, none⟩ = some (.int .u64 ((L.getD i (0, false)).1 : Nat)) ∧ w.cell? ⟨b, i * 2 + 1, none⟩ = some (.bool (L.getD i (0, false)).2)
theorem Anss.of_own {w : World} {base : Nat} {e : TypeId} {v : Value} {L : List (Nat × Bool)} (h : w.ownsRow base e 2 v L.length (ans L)) : Anss w v L := by
  obtain ⟨h1, h2⟩ := h
  rcases h2 with ⟨h2, h3⟩ | ⟨g, cap, cur, hv, hg, hh, hn, hm, hs, ht⟩
  · exact Or.inl (List.length_eq_zero_iff.1 h3)
  · refine Or.inr ⟨g, cap, hv, hn, fun i hi => ?_⟩
    have hc : ∀ j, j < L.length * 2 → cur[j]? = (ans L)[j]? := by
      intro j hj
      have h3 : (cur.toList.take (L.length * 2))[j]? = (ans L)[j]? := by rw [ht]
      rw [List.getElem?_take, if_pos hj, Array.getElem?_toList] at h3
      exact h3
    obtain ⟨a1, a2⟩ := ans_at L i hi
    have hb : Blk w g cur e := hh
    exact ⟨hb.cell ((hc _ (by omega)).trans a1), hb.cell ((hc _ (by omega)).trans a2)⟩
end Go.Proofs.Ytiiobifljflkiaa
