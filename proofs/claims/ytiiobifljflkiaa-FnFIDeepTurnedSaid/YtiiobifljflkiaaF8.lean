/- Set by the dictionary. -/
import Derived.Test.YtiiobifljflkiaaF7
import Derived.Deep.QuietTactic
import Derived.BigQuiet
import Derived.WalkLawsBesides
namespace Go.Proofs.Ytiiobifljflkiaa
open Go.RowKit FI

def setD (D : Nat → Option Nat) (k v : Nat) : Nat → Option Nat := fun j => if j = k then some v else D j
/-- Whether the map grows first: what the comparison of the two floats says. -/
@[irreducible] def tops (r : Nat) : Bool := FloatKind.f64.format.order r 4604930618986332160 == some Ordering.gt
@[irreducible] def quot (c n : Nat) : Option Nat := floatBits .quo .f64 (floatOfInt .f64 ((c : Int) + 1)) (floatOfInt .f64 n)
theorem tops_is (r : Nat) : (FloatKind.f64.format.order r 4604930618986332160 == some Ordering.gt) = tops r := by unfold tops; rfl
theorem quot_is (c n : Nat) : floatBits .quo .f64 (floatOfInt .f64 ((c : Int) + 1)) (floatOfInt .f64 n) = quot c n := by unfold quot; rfl
def chk (o : Option Nat) (f : Nat → Bool) (c m : Nat) : Bool := match o with
  | none => false
  | some r => (decide (c + 1 ≠ m) || f r) && (!f r || decide (m < 2 * (c + 1)))
def growsOk (c a : Nat) : Bool := chk (quot c (2 ^ a)) tops c (2 ^ a)
def below (f : Nat → Bool) : Nat → Bool
  | 0 => true
  | n + 1 => f n && below f n
theorem below_get {f : Nat → Bool} : ∀ {n : Nat}, below f n = true → ∀ i, i < n → f i = true
  | 0, _, i, hi => by omega
  | n + 1, h, i, hi => by
    simp only [below, Bool.and_eq_true] at h
    rcases Nat.eq_or_lt_of_le (Nat.le_of_lt_succ hi) with e | e
    · rw [e]; exact h.1
    · exact below_get h.2 i e
theorem grows_0_0 : below (fun c => growsOk (0 + c) 0) 1 = true := by decide +kernel
theorem grows_0 : ∀ c, c < 1 → growsOk c 0 = true := by
  intro c hc
  have h := below_get grows_0_0 (c - 0) (by omega)
  rwa [show 0 + (c - 0) = c by omega] at h
theorem grows_1_0 : below (fun c => growsOk (0 + c) 1) 2 = true := by decide +kernel
theorem grows_1 : ∀ c, c < 2 → growsOk c 1 = true := by
  intro c hc
  have h := below_get grows_1_0 (c - 0) (by omega)
  rwa [show 0 + (c - 0) = c by omega] at h
theorem grows_2_0 : below (fun c => growsOk (0 + c) 2) 4 = true := by decide +kernel
theorem grows_2 : ∀ c, c < 4 → growsOk c 2 = true := by
  intro c hc
  have h := below_get grows_2_0 (c - 0) (by omega)
  rwa [show 0 + (c - 0) = c by omega] at h
theorem grows_3_0 : below (fun c => growsOk (0 + c) 3) 8 = true := by decide +kernel
theorem grows_3 : ∀ c, c < 8 → growsOk c 3 = true := by
  intro c hc
  have h := below_get grows_3_0 (c - 0) (by omega)
  rwa [show 0 + (c - 0) = c by omega] at h
theorem grows_4_0 : below (fun c => growsOk (0 + c) 4) 16 = true := by decide +kernel
theorem grows_4 : ∀ c, c < 16 → growsOk c 4 = true := by
  intro c hc
  have h := below_get grows_4_0 (c - 0) (by omega)
  rwa [show 0 + (c - 0) = c by omega] at h
theorem grows_5_0 : below (fun c => growsOk (0 + c) 5) 32 = true := by decide +kernel
theorem grows_5 : ∀ c, c < 32 → growsOk c 5 = true := by
  intro c hc
  have h := below_get grows_5_0 (c - 0) (by omega)
  rwa [show 0 + (c - 0) = c by omega] at h
theorem grows_6_0 : below (fun c => growsOk (0 + c) 6) 50 = true := by decide +kernel
theorem grows_6_50 : below (fun c => growsOk (50 + c) 6) 14 = true := by decide +kernel
theorem grows_6 : ∀ c, c < 64 → growsOk c 6 = true := by
  intro c hc
  by_cases h0 : c < 50
  · have h := below_get grows_6_0 (c - 0) (by omega)
    rwa [show 0 + (c - 0) = c by omega] at h
  have h := below_get grows_6_50 (c - 50) (by omega)
  rwa [show 50 + (c - 50) = c by omega] at h
theorem grows_7_0 : below (fun c => growsOk (0 + c) 7) 50 = true := by decide +kernel
theorem grows_7_50 : below (fun c => growsOk (50 + c) 7) 50 = true := by decide +kernel
theorem grows_7_100 : below (fun c => growsOk (100 + c) 7) 28 = true := by decide +kernel
theorem grows_7 : ∀ c, c < 128 → growsOk c 7 = true := by
  intro c hc
  by_cases h0 : c < 50
  · have h := below_get grows_7_0 (c - 0) (by omega)
    rwa [show 0 + (c - 0) = c by omega] at h
  by_cases h50 : c < 100
  · have h := below_get grows_7_50 (c - 50) (by omega)
    rwa [show 50 + (c - 50) = c by omega] at h
  have h := below_get grows_7_100 (c - 100) (by omega)
  rwa [show 100 + (c - 100) = c by omega] at h
theorem grows_8_0 : below (fun c => growsOk (0 + c) 8) 50 = true := by decide +kernel
theorem grows_8_50 : below (fun c => growsOk (50 + c) 8) 50 = true := by decide +kernel
theorem grows_8_100 : below (fun c => growsOk (100 + c) 8) 50 = true := by decide +kernel
theorem grows_8_150 : below (fun c => growsOk (150 + c) 8) 50 = true := by decide +kernel
theorem grows_8_200 : below (fun c => growsOk (200 + c) 8) 50 = true := by decide +kernel
theorem grows_8_250 : below (fun c => growsOk (250 + c) 8) 6 = true := by decide +kernel
theorem grows_8 : ∀ c, c < 256 → growsOk c 8 = true := by
  intro c hc
  by_cases h0 : c < 50
  · have h := below_get grows_8_0 (c - 0) (by omega)
    rwa [show 0 + (c - 0) = c by omega] at h
  by_cases h50 : c < 100
  · have h := below_get grows_8_50 (c - 50) (by omega)
    rwa [show 50 + (c - 50) = c by omega] at h
  by_cases h100 : c < 150
  · have h := below_get grows_8_100 (c - 100) (by omega)
    rwa [show 100 + (c - 100) = c by omega] at h
  by_cases h150 : c < 200
  · have h := below_get grows_8_150 (c - 150) (by omega)
    rwa [show 150 + (c - 150) = c by omega] at h
  by_cases h200 : c < 250
  · have h := below_get grows_8_200 (c - 200) (by omega)
    rwa [show 200 + (c - 200) = c by omega] at h
  have h := below_get grows_8_250 (c - 250) (by omega)
  rwa [show 250 + (c - 250) = c by omega] at h
theorem grows_9_0 : below (fun c => growsOk (0 + c) 9) 50 = true := by decide +kernel
theorem grows_9_50 : below (fun c => growsOk (50 + c) 9) 50 = true := by decide +kernel
theorem grows_9_100 : below (fun c => growsOk (100 + c) 9) 50 = true := by decide +kernel
theorem grows_9_150 : below (fun c => growsOk (150 + c) 9) 50 = true := by decide +kernel
theorem grows_9_200 : below (fun c => growsOk (200 + c) 9) 50 = true := by decide +kernel
theorem grows_9_250 : below (fun c => growsOk (250 + c) 9) 50 = true := by decide +kernel
theorem grows_9_300 : below (fun c => growsOk (300 + c) 9) 4 = true := by decide +kernel
theorem grows_9 : ∀ c, c < 304 → growsOk c 9 = true := by
  intro c hc
  by_cases h0 : c < 50
  · have h := below_get grows_9_0 (c - 0) (by omega)
    rwa [show 0 + (c - 0) = c by omega] at h
  by_cases h50 : c < 100
  · have h := below_get grows_9_50 (c - 50) (by omega)
    rwa [show 50 + (c - 50) = c by omega] at h
  by_cases h100 : c < 150
  · have h := below_get grows_9_100 (c - 100) (by omega)
    rwa [show 100 + (c - 100) = c by omega] at h
  by_cases h150 : c < 200
  · have h := below_get grows_9_150 (c - 150) (by omega)
    rwa [show 150 + (c - 150) = c by omega] at h
  by_cases h200 : c < 250
  · have h := below_get grows_9_200 (c - 200) (by omega)
    rwa [show 200 + (c - 200) = c by omega] at h
  by_cases h250 : c < 300
  · have h := below_get grows_9_250 (c - 250) (by omega)
    rwa [show 250 + (c - 250) = c by omega] at h
  have h := below_get grows_9_300 (c - 300) (by omega)
  rwa [show 300 + (c - 300) = c by omega] at h
theorem grows_10_0 : below (fun c => growsOk (0 + c) 10) 50 = true := by decide +kernel
theorem grows_10_50 : below (fun c => growsOk (50 + c) 10) 50 = true := by decide +kernel
theorem grows_10_100 : below (fun c => growsOk (100 + c) 10) 50 = true := by decide +kernel
theorem grows_10_150 : below (fun c => growsOk (150 + c) 10) 50 = true := by decide +kernel
theorem grows_10_200 : below (fun c => growsOk (200 + c) 10) 50 = true := by decide +kernel
theorem grows_10_250 : below (fun c => growsOk (250 + c) 10) 50 = true := by decide +kernel
theorem grows_10_300 : below (fun c => growsOk (300 + c) 10) 4 = true := by decide +kernel
theorem grows_10 : ∀ c, c < 304 → growsOk c 10 = true := by
  intro c hc
  by_cases h0 : c < 50
  · have h := below_get grows_10_0 (c - 0) (by omega)
    rwa [show 0 + (c - 0) = c by omega] at h
  by_cases h50 : c < 100
  · have h := below_get grows_10_50 (c - 50) (by omega)
    rwa [show 50 + (c - 50) = c by omega] at h
  by_cases h100 : c < 150
  · have h := below_get grows_10_100 (c - 100) (by omega)
    rwa [show 100 + (c - 100) = c by omega] at h
  by_cases h150 : c < 200
  · have h := below_get grows_10_150 (c - 150) (by omega)
    rwa [show 150 + (c - 150) = c by omega] at h
  by_cases h200 : c < 250
  · have h := below_get grows_10_200 (c - 200) (by omega)
    rwa [show 200 + (c - 200) = c by omega] at h
  by_cases h250 : c < 300
  · have h := below_get grows_10_250 (c - 250) (by omega)
    rwa [show 250 + (c - 250) = c by omega] at h
  have h := below_get grows_10_300 (c - 300) (by omega)
  rwa [show 300 + (c - 300) = c by omega] at h
theorem grows_all : ∀ a, a < 11 → ∀ c, c < 2 ^ a → c < 304 → growsOk c a = true := by
  intro a ha c hc h1
  match a, ha, hc with
  | 0, _, hc => exact grows_0 c (by omega)
  | 1, _, hc => exact grows_1 c (by omega)
  | 2, _, hc => exact grows_2 c (by omega)
  | 3, _, hc => exact grows_3 c (by omega)
  | 4, _, hc => exact grows_4 c (by omega)
  | 5, _, hc => exact grows_5 c (by omega)
  | 6, _, hc => exact grows_6 c (by omega)
  | 7, _, hc => exact grows_7 c (by omega)
  | 8, _, hc => exact grows_8 c (by omega)
  | 9, _, hc => exact grows_9 c (by omega)
  | 10, _, hc => exact grows_10 c (by omega)
  | n + 11, ha, _ => omega
theorem grows_split {o : Option Nat} {f : Nat → Bool} {c m : Nat} (h : chk o f c m = true) : ∃ r, o = some r ∧ (c + 1 = m → f r = true) ∧ (f r = true → m < 2 * (c + 1)) := by
  cases o with
  | none => cases h
  | some r =>
    simp only [chk, Bool.and_eq_true, Bool.or_eq_true, decide_eq_true_eq] at h
    refine ⟨r, rfl, fun e => ?_, fun e => ?_⟩
    · rcases h.1 with h2 | h2
      · exact absurd e h2
      · exact h2
    · rcases h.2 with h2 | h2
      · rw [e] at h2; cases h2
      · exact h2
theorem grows_get {a c : Nat} (ha : a < 11) (hc : c < 2 ^ a) (h1 : c < 304) : ∃ r, quot c (2 ^ a) = some r ∧ (c + 1 = 2 ^ a → tops r = true) ∧ (tops r = true → 2 ^ a < 2 * (c + 1)) := grows_split (grows_all a ha c hc h1)

theorem wf_congr {n : Nat} {key key' hm : Nat → Nat} {T : Nat → Option Nat} (hw : WF n key hm T) (h : ∀ x q, x < n → T x = some q → key' q = key q) : WF n key' hm T :=
  ⟨fun i i' b b' hi hi' h1 h2 hk => hw.uniq i i' b b' hi hi' h1 h2 (by rw [← h i b hi h1, ← h i' b' hi' h2]; exact hk), fun i b hi h1 => by rw [h i b hi h1]; exact hw.path i b hi h1⟩

section
variable {w1 w3 : World} {F : Nat → Prop} {p b n c k v : Nat} {T : Nat → Option Nat} {key val : Nat → Nat} {D : Nat → Option Nat}
theorem tab_pk (hm : Mp w1 p b n c T key val) (t : TypeId) (k v : Nat) :
    Tab (w1.alloc (.cells #[.int .u64 k, .int .u64 v] t)) b n T (upd key w1.heap.size k) (upd val w1.heap.size v) := by
  have hlt : ∀ x q, x < n → T x = some q → q ≠ w1.heap.size := fun x q hx hq => by have := hm.tab.plt ⟨x, hx, hq⟩; omega
  refine ⟨hm.tab.row.alloc _, fun x q hx hq => ?_, hm.tab.ap, fun x q hx hq => ?_, fun x q hx hq => ?_⟩
  · obtain ⟨T0, h⟩ := hm.tab.pk x q hx hq
    rw [upd_other _ _ _ _ (hlt x q hx hq), upd_other _ _ _ _ (hlt x q hx hq)]
    exact ⟨T0, h.alloc _⟩
  · rw [upd_other _ _ _ _ (hlt x q hx hq)]; exact hm.tab.kl x q hx hq
  · rw [upd_other _ _ _ _ (hlt x q hx hq)]; exact hm.tab.vl x q hx hq

theorem set_post (hm : Mp w1 p b n c T key val) (ho : occ T n ≤ c) (hF : ∀ x, w1.heap.size ≤ x → F x) (hBb : F b) (hBq : ∀ q, In T n q → F q) (hD : ∀ k v, D k = some v ↔ ∃ q, In T n q ∧ key q = k ∧ val q = v) (t : TypeId)
    (hn0 : 0 < n)
    (hp : ∃ i, i < n ∧ Finds n (upd key w1.heap.size k) (hmn n) T (upd key w1.heap.size k w1.heap.size) i ∧
      ((T i = none ∧ Tab w3 b n (FI.put T i (some w1.heap.size)) (upd key w1.heap.size k) (upd val w1.heap.size v) ∧ Only [b] (w1.alloc (.cells #[.int .u64 k, .int .u64 v] t)) w3) ∨
       ∃ r, T i = some r ∧ upd key w1.heap.size k r = upd key w1.heap.size k w1.heap.size ∧ Tab w3 b n T (upd key w1.heap.size k) (upd (upd val w1.heap.size v) r (upd val w1.heap.size v w1.heap.size)) ∧ Only [r] (w1.alloc (.cells #[.int .u64 k, .int .u64 v] t)) w3)) :
    ∃ T3 val3, (∃ T0, Blk w3 p #[.int .u64 c, .slice (some ⟨b, 0, none⟩) n n] T0) ∧ Tab w3 b n T3 (upd key w1.heap.size k) val3 ∧ WF n (upd key w1.heap.size k) (hmn n) T3 ∧ (∀ q, In T3 n q → q ≠ p ∧ F q) ∧ occ T3 n ≤ c + 1 ∧
      (∀ j u, setD D k v j = some u ↔ ∃ q, In T3 n q ∧ upd key w1.heap.size k q = j ∧ val3 q = u) ∧ Kept F w1 w3 := by
  obtain ⟨T0, hst⟩ := hm.st
  have hlt : ∀ q, In T n q → q ≠ w1.heap.size := fun q hq => by have := hm.tab.plt hq; omega
  have hpl := hst.lt
  have hw : WF n (upd key w1.heap.size k) (hmn n) T := wf_congr hm.wf (fun x q hx hq => upd_other _ _ _ _ (hlt q ⟨x, hx, hq⟩))
  have hbl : ∀ M, (∀ m ∈ M, F m) → Only M (w1.alloc (.cells #[.int .u64 k, .int .u64 v] t)) w3 → Kept F w1 w3 := fun M hM h =>
    (((Only.refl M w1).alloc _).trans h).kept hM
  obtain ⟨i, hi, hf, hcase⟩ := hp
  rw [upd_same] at hf hcase
  rcases hcase with ⟨h0, ht, hon⟩ | ⟨r, h0, hk, ht, hon⟩
  · refine ⟨_, _, ⟨T0, (hst.alloc _).only hon (by simp; exact hm.pb)⟩, ht, hw.put_new (fun x => Nat.mod_lt _ hn0) (by rw [upd_same]; exact hf) h0, fun q hq => ?_, ?_, fun j u => ?_, hbl [b] (by simp; exact hBb) hon⟩
    · rcases (in_new hi h0 q).1 hq with h1 | rfl
      · exact ⟨hm.pq q h1, hBq q h1⟩
      · exact ⟨by omega, hF _ (Nat.le_refl _)⟩
    · have := occ_put (T := T) (x := some w1.heap.size) n hi
      rw [h0] at this
      simp at this
      omega
    · unfold setD
      by_cases e : j = k
      · rw [if_pos e]
        constructor
        · intro h; cases h
          exact ⟨w1.heap.size, (in_new hi h0 _).2 (Or.inr rfl), by rw [upd_same, e], upd_same _ _ _⟩
        · rintro ⟨q, hq, h1, h2⟩
          rcases (in_new hi h0 q).1 hq with h3 | rfl
          · obtain ⟨x, hx, hT⟩ := h3
            exact absurd (h1.trans e) (hf.gone hw h0 x q hx hT)
          · rw [upd_same] at h2; rw [h2]
      · rw [if_neg e]
        refine (hD j u).trans ⟨fun ⟨q, h1, h2, h3⟩ => ⟨q, (in_new hi h0 q).2 (Or.inl h1), by rw [upd_other _ _ _ _ (hlt q h1)]; exact h2, by rw [upd_other _ _ _ _ (hlt q h1)]; exact h3⟩, ?_⟩
        rintro ⟨q, hq, h1, h2⟩
        rcases (in_new hi h0 q).1 hq with h3 | rfl
        · rw [upd_other _ _ _ _ (hlt q h3)] at h1 h2; exact ⟨q, h3, h1, h2⟩
        · rw [upd_same] at h1; exact absurd h1.symm e
  · have hr : In T n r := ⟨i, hi, h0⟩
    rw [upd_other _ _ _ _ (hlt r hr)] at hk
    refine ⟨_, _, ⟨T0, (hst.alloc _).only hon (by simp; exact fun e => hm.pq r hr e.symm)⟩, ht, hw, fun q hq => ⟨hm.pq q hq, hBq q hq⟩, by omega, fun j u => ?_, hbl [r] (by simp; exact hBq r hr) hon⟩
    rw [upd_same]
    unfold setD
    by_cases e : j = k
    · rw [if_pos e]
      constructor
      · intro h; cases h
        exact ⟨r, hr, by rw [upd_other _ _ _ _ (hlt r hr), hk, e], upd_same _ _ _⟩
      · rintro ⟨q, hq, h1, h2⟩
        rw [upd_other _ _ _ _ (hlt q hq)] at h1
        obtain ⟨x, hx, hT⟩ := hq
        have e2 := hm.wf.uniq x i q r hx hi hT h0 (by rw [h1, hk, e])
        rw [e2, h0] at hT
        cases hT
        rw [upd_same] at h2; rw [h2]
    · rw [if_neg e]
      have hne : ∀ q, In T n q → key q = j → q ≠ r := fun q _ h e2 => e (by rw [← h, e2, hk])
      refine (hD j u).trans ⟨fun ⟨q, h1, h2, h3⟩ => ⟨q, h1, by rw [upd_other _ _ _ _ (hlt q h1)]; exact h2, by rw [upd_other _ _ _ _ (hne q h1 h2), upd_other _ _ _ _ (hlt q h1)]; exact h3⟩, ?_⟩
      rintro ⟨q, h1, h2, h3⟩
      rw [upd_other _ _ _ _ (hlt q h1)] at h2
      rw [upd_other _ _ _ _ (hne q h1 h2), upd_other _ _ _ _ (hlt q h1)] at h3
      exact ⟨q, h1, h2, h3⟩
end
end Go.Proofs.Ytiiobifljflkiaa
