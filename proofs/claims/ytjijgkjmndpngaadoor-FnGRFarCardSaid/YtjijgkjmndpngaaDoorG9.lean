/- How far a vertex is from another one: plain. -/
import Derived.Test.YtjijgkjmndpngaaDoorG8
namespace Go.Proofs.YtjijgkjmndpngaaDoor
open Go.RowKit

/-- There is a way of so many edges. -/
def walkE (es : List (Int × Int)) : Nat → Int → Int → Prop
  | 0, u, v => u = v
  | n + 1, u, v => ∃ m, walkE es n u m ∧ adjE es m v
theorem adjE_symm {es : List (Int × Int)} {u v : Int} (h : adjE es u v) : adjE es v u := ⟨fun e => h.1 e.symm, h.2.symm⟩
theorem walkE_cons {es : List (Int × Int)} : ∀ {n : Nat} {u m v : Int}, adjE es u m → walkE es n m v → walkE es (n + 1) u v
  | 0, u, m, v, h, e => by
    simp only [walkE] at e
    subst e
    exact ⟨u, rfl, h⟩
  | n + 1, u, m, v, h, ⟨k, h1, h2⟩ => ⟨k, walkE_cons h h1, h2⟩
theorem walkE_symm {es : List (Int × Int)} : ∀ {n : Nat} {u v : Int}, walkE es n u v → walkE es n v u
  | 0, _, _, h => Eq.symm h
  | _ + 1, _, _, ⟨_, h1, h2⟩ => walkE_cons (adjE_symm h2) (walkE_symm h1)
theorem walkE_trans {es : List (Int × Int)} {n : Nat} {u m : Int} (h : walkE es n u m) : ∀ {k : Nat} {v : Int}, walkE es k m v → walkE es (n + k) u v
  | 0, _, e => by simp only [walkE] at e; subst e; exact h
  | _ + 1, _, ⟨x, h1, h2⟩ => ⟨x, walkE_trans h h1, h2⟩
/-- The least number of edges; -1: there is no way. -/
def IsDist (es : List (Int × Int)) (u v : Int) (d : Int) : Prop := (d = -1 ∧ ∀ n, ¬walkE es n u v) ∨ ∃ n : Nat, d = n ∧ walkE es n u v ∧ ∀ m, m < n → ¬walkE es m u v
theorem IsDist.symm {es : List (Int × Int)} {u v : Int} {d e : Int} (h : IsDist es u v d) (k : IsDist es v u e) : d = e := by
  rcases h with ⟨rfl, h⟩ | ⟨n, rfl, h1, h2⟩
  · rcases k with ⟨rfl, _⟩ | ⟨m, rfl, k1, _⟩
    · rfl
    · exact absurd (walkE_symm k1) (h m)
  · rcases k with ⟨rfl, k⟩ | ⟨m, rfl, k1, k2⟩
    · exact absurd (walkE_symm h1) (k n)
    · rcases Nat.lt_trichotomy n m with h3 | h3 | h3
      · exact absurd (walkE_symm h1) (k2 n h3)
      · rw [h3]
      · exact absurd (walkE_symm k1) (h2 m h3)
theorem IsDist.tri {es : List (Int × Int)} {x y z : Int} {a b c : Int} (ha : IsDist es x y a) (hb : IsDist es y z b) (hc : IsDist es x z c) : a < 0 ∨ b < 0 ∨ (0 ≤ c ∧ c ≤ a + b) := by
  rcases ha with ⟨rfl, _⟩ | ⟨n, rfl, h1, _⟩
  · exact Or.inl (by decide)
  · rcases hb with ⟨rfl, _⟩ | ⟨m, rfl, k1, _⟩
    · exact Or.inr (Or.inl (by decide))
    · refine Or.inr (Or.inr ?_)
      have hw := walkE_trans h1 k1
      rcases hc with ⟨rfl, hc⟩ | ⟨k, rfl, _, hc⟩
      · exact absurd hw (hc _)
      · have : k ≤ n + m := by
          rcases Nat.lt_or_ge (n + m) k with h | h
          · exact absurd hw (hc _ h)
          · exact h
        omega
theorem IsDist.lt {es : List (Int × Int)} {u v : Int} {d : Int} (h : IsDist es u v d) : -1 ≤ d := by
  rcases h with ⟨rfl, _⟩ | ⟨n, rfl, _⟩ <;> omega

/-- At just this many edges, and not fewer. -/
def atN (es : List (Int × Int)) (u : Int) (n : Nat) (v : Int) : Prop := walkE es n u v ∧ ∀ m, m < n → ¬walkE es m u v
theorem atN_prev {es : List (Int × Int)} {u v : Int} {n : Nat} (h : atN es u (n + 1) v) : ∃ m, atN es u n m ∧ adjE es m v := by
  obtain ⟨⟨m, h1, h2⟩, h3⟩ := h
  exact ⟨m, ⟨h1, fun k hk hw => h3 (k + 1) (by omega) ⟨m, hw, h2⟩⟩, h2⟩
theorem walkE_least {es : List (Int × Int)} {u v : Int} : ∀ {n : Nat}, walkE es n u v → ∃ k, k ≤ n ∧ atN es u k v := by
  intro n
  induction n using Nat.strongRecOn with
  | _ n ih =>
    intro h
    by_cases h2 : ∃ m, m < n ∧ walkE es m u v
    · obtain ⟨m, hm, hw⟩ := h2
      obtain ⟨k, hk, hx⟩ := ih m hm hw
      exact ⟨k, by omega, hx⟩
    · exact ⟨n, Nat.le_refl _, h, fun m hm hw => h2 ⟨m, hm, hw⟩⟩
theorem atN_down {es : List (Int × Int)} {u : Int} : ∀ {k n : Nat} {v : Int}, atN es u (n + k) v → ∃ x, atN es u n x
  | 0, _, v, h => ⟨v, h⟩
  | k + 1, n, _, h => by
    obtain ⟨m, h1, _⟩ := atN_prev (n := n + k) h
    exact atN_down (k := k) h1
/-- Nothing stands at this many edges: no way is as long. -/
theorem none_at {es : List (Int × Int)} {u v : Int} {n : Nat} (h : ∀ x, ¬atN es u n x) (h2 : ∀ m, m < n → ¬walkE es m u v) : ∀ m, ¬walkE es m u v := by
  intro m hw
  obtain ⟨k, _, hk⟩ := walkE_least hw
  rcases Nat.lt_or_ge k n with h3 | h3
  · exact h2 k h3 hk.1
  · obtain ⟨d, rfl⟩ : ∃ d, k = n + d := ⟨k - n, by omega⟩
    obtain ⟨x, hx⟩ := atN_down hk
    exact h x hx

/-- What is known when the search has gone n rounds. -/
structure BFS (es : List (Int × Int)) (u t : Int) (n : Nat) (seen now : List Int) : Prop where
  isnow : ∀ v, v ∈ now ↔ atN es u n v
  isseen : ∀ v, v ∈ seen ↔ ∃ m, m ≤ n ∧ walkE es m u v
  not : ∀ m, m < n → ¬walkE es m u t
  nd : seen.Nodup
theorem BFS.start (es : List (Int × Int)) (u t : Int) : BFS es u t 0 [u] [u] :=
  ⟨fun v => by simp [atN, walkE, eq_comm], fun v => by simp [walkE, eq_comm], fun m h => absurd h (by omega), by simp⟩
theorem BFS.found {es : List (Int × Int)} {u t : Int} {n : Nat} {seen now : List Int} (h : BFS es u t n seen now) (ht : t ∈ now) : IsDist es u t n :=
  Or.inr ⟨n, rfl, ((h.isnow t).1 ht).1, h.not⟩
theorem BFS.stuck {es : List (Int × Int)} {u t : Int} {n : Nat} {seen : List Int} (h : BFS es u t n seen []) : IsDist es u t (-1) :=
  Or.inl ⟨rfl, none_at (fun x hx => by have := (h.isnow x).2 hx; simp at this) h.not⟩
/-- What has been found among the neighbours of some of those that stand n edges away. -/
structure Part (es : List (Int × Int)) (seen done : List Int) (last : Option (Int × List Int)) (seen' next : List Int) : Prop where
  app : ∀ v, v ∈ seen' ↔ v ∈ seen ∨ v ∈ next
  new : ∀ v, v ∈ next ↔ v ∉ seen ∧ ((∃ x ∈ done, adjE es x v) ∨ ∃ q, last = some q ∧ v ∈ q.2)
  nd : seen'.Nodup
  len : seen'.length = seen.length + next.length
theorem Part.start {es : List (Int × Int)} {seen : List Int} (h : seen.Nodup) : Part es seen [] none seen [] := ⟨fun v => by simp, fun v => by simp, h, by simp⟩
theorem Part.open {es : List (Int × Int)} {seen done seen' next : List Int} (x : Int) (h : Part es seen done none seen' next) : Part es seen done (some (x, [])) seen' next :=
  ⟨h.app, fun v => by rw [h.new]; simp, h.nd, h.len⟩
theorem Part.shut {es : List (Int × Int)} {seen done seen' next ks : List Int} {x : Int} (h : Part es seen done (some (x, ks)) seen' next) (hk : ∀ k, k ∈ ks ↔ adjE es x k) : Part es seen (done ++ [x]) none seen' next := by
  refine ⟨h.app, fun v => ?_, h.nd, h.len⟩
  rw [h.new]
  constructor
  · rintro ⟨h1, ⟨y, hy, hv⟩ | ⟨q, hq, hv⟩⟩
    · exact ⟨h1, Or.inl ⟨y, by simp [hy], hv⟩⟩
    · simp at hq
      subst hq
      exact ⟨h1, Or.inl ⟨x, by simp, (hk v).1 hv⟩⟩
  · rintro ⟨h1, ⟨y, hy, hv⟩ | ⟨q, hq, _⟩⟩
    · rcases List.mem_append.1 hy with hy | hy
      · exact ⟨h1, Or.inl ⟨y, hy, hv⟩⟩
      · simp at hy
        subst hy
        exact ⟨h1, Or.inr ⟨_, rfl, (hk v).2 hv⟩⟩
    · cases hq
theorem Part.skip {es : List (Int × Int)} {seen done seen' next ks : List Int} {x k : Int} (h : Part es seen done (some (x, ks)) seen' next) (hk : k ∈ seen') : Part es seen done (some (x, ks ++ [k])) seen' next := by
  refine ⟨h.app, fun v => ?_, h.nd, h.len⟩
  constructor
  · intro hv
    obtain ⟨h1, h2 | ⟨q, hq, h2⟩⟩ := (h.new v).1 hv
    · exact ⟨h1, Or.inl h2⟩
    · simp at hq; subst hq
      exact ⟨h1, Or.inr ⟨_, rfl, by simp [h2]⟩⟩
  · rintro ⟨h1, h2 | ⟨q, hq, h2⟩⟩
    · exact (h.new v).2 ⟨h1, Or.inl h2⟩
    · simp at hq; subst hq
      rcases List.mem_append.1 h2 with h2 | h2
      · exact (h.new v).2 ⟨h1, Or.inr ⟨_, rfl, h2⟩⟩
      · simp at h2; subst h2
        rcases (h.app v).1 hk with h3 | h3
        · exact absurd h3 h1
        · exact h3
theorem Part.take {es : List (Int × Int)} {seen done seen' next ks : List Int} {x k : Int} (h : Part es seen done (some (x, ks)) seen' next) (hk : k ∉ seen') : Part es seen done (some (x, ks ++ [k])) (seen' ++ [k]) (next ++ [k]) := by
  have hks : k ∉ seen := fun h2 => hk ((h.app k).2 (Or.inl h2))
  refine ⟨fun v => ?_, fun v => ?_, ?_, by simp [h.len]; omega⟩
  · rw [List.mem_append, List.mem_append, h.app]
    simp [or_assoc]
  · rw [List.mem_append, h.new]
    constructor
    · rintro (⟨h1, h2 | ⟨q, hq, h2⟩⟩ | h2)
      · exact ⟨h1, Or.inl h2⟩
      · simp at hq; subst hq
        exact ⟨h1, Or.inr ⟨_, rfl, by simp [h2]⟩⟩
      · simp at h2; subst h2
        exact ⟨hks, Or.inr ⟨_, rfl, by simp⟩⟩
    · rintro ⟨h1, h2 | ⟨q, hq, h2⟩⟩
      · exact Or.inl ⟨h1, Or.inl h2⟩
      · simp at hq; subst hq
        rcases List.mem_append.1 h2 with h2 | h2
        · exact Or.inl ⟨h1, Or.inr ⟨_, rfl, h2⟩⟩
        · exact Or.inr h2
  · rw [List.nodup_append]
    refine ⟨h.nd, by simp, fun a ha b hb e => ?_⟩
    simp at hb
    subst hb
    exact hk (e ▸ ha)
theorem BFS.next {es : List (Int × Int)} {u t : Int} {n : Nat} {seen now seen' next : List Int} (h : BFS es u t n seen now) (hp : Part es seen now none seen' next) (ht : t ∉ now) : BFS es u t (n + 1) seen' next := by
  have hnew : ∀ v, v ∈ next ↔ atN es u (n + 1) v := fun v => by
    rw [hp.new, h.isseen]
    constructor
    · rintro ⟨h1, ⟨x, hx, ha⟩ | ⟨q, hq, _⟩⟩
      · exact ⟨⟨x, ((h.isnow x).1 hx).1, ha⟩, fun m hm hw => h1 ⟨m, by omega, hw⟩⟩
      · cases hq
    · intro hv
      refine ⟨fun ⟨m, hm, hw⟩ => hv.2 m (by omega) hw, Or.inl ?_⟩
      obtain ⟨x, hx, ha⟩ := atN_prev hv
      exact ⟨x, (h.isnow x).2 hx, ha⟩
  refine ⟨hnew, fun v => ?_, fun m hm hw => ?_, hp.nd⟩
  · rw [hp.app, hnew, h.isseen]
    constructor
    · rintro (⟨m, hm, hw⟩ | hv)
      · exact ⟨m, by omega, hw⟩
      · exact ⟨n + 1, Nat.le_refl _, hv.1⟩
    · rintro ⟨m, hm, hw⟩
      by_cases h1 : ∃ k, k ≤ n ∧ walkE es k u v
      · exact Or.inl h1
      · have hmn : m = n + 1 := by
          rcases Nat.lt_or_ge n m with h2 | h2
          · omega
          · exact absurd ⟨m, h2, hw⟩ h1
        subst hmn
        exact Or.inr ⟨hw, fun k hk hwk => h1 ⟨k, by omega, hwk⟩⟩
  · rcases Nat.lt_or_ge m n with h2 | h2
    · exact h.not m h2 hw
    · have hmn : m = n := by omega
      subst hmn
      exact ht ((h.isnow t).2 ⟨hw, h.not⟩)
/-- So many vertices at most are ever seen. -/
def allV (es : List (Int × Int)) (u : Int) : List Int := u :: es.flatMap fun e => [e.1, e.2]
theorem walkE_in {es : List (Int × Int)} {u : Int} : ∀ {n : Nat} {v : Int}, walkE es n u v → v ∈ allV es u
  | 0, v, h => by simp only [walkE] at h; subst h; simp [allV]
  | n + 1, v, ⟨m, _, h⟩ => by
    have h2 : ∃ e ∈ es, v = e.1 ∨ v = e.2 := by
      rcases h.2 with h3 | h3
      · exact ⟨_, h3, Or.inr rfl⟩
      · exact ⟨_, h3, Or.inl rfl⟩
    obtain ⟨e, he, h3⟩ := h2
    simp only [allV, List.mem_cons, List.mem_flatMap]
    exact Or.inr ⟨e, he, by rcases h3 with rfl | rfl <;> simp⟩
theorem allV_len (es : List (Int × Int)) (u : Int) : (allV es u).length = 1 + 2 * es.length := by
  have : (es.flatMap fun e => [e.1, e.2]).length = 2 * es.length := by
    induction es with
    | nil => rfl
    | cons e es ih => simp [List.flatMap_cons, ih]; omega
  simp [allV, this]; omega
theorem BFS.few {es : List (Int × Int)} {u t : Int} {n : Nat} {seen now : List Int} (h : BFS es u t n seen now) : seen.length ≤ 1 + 2 * es.length := by
  rw [← allV_len es u]
  exact nodup_len h.nd fun k hk => by
    obtain ⟨m, _, hw⟩ := (h.isseen k).1 hk
    exact walkE_in hw
theorem Part.few {es : List (Int × Int)} {u t : Int} {n : Nat} {seen now done seen' next : List Int} {last : Option (Int × List Int)} (h : BFS es u t n seen now) (hd : ∀ x ∈ done, x ∈ now) (hl : ∀ q, last = some q → ∀ v ∈ q.2, ∃ x ∈ now, adjE es x v) (hp : Part es seen done last seen' next) : seen'.length ≤ 1 + 2 * es.length := by
  rw [← allV_len es u]
  refine nodup_len hp.nd fun k hk => ?_
  have key : ∀ x ∈ now, adjE es x k → k ∈ allV es u := fun x hx ha => walkE_in (n := n + 1) ⟨x, ((h.isnow x).1 hx).1, ha⟩
  rcases (hp.app k).1 hk with h1 | h1
  · obtain ⟨m, _, hw⟩ := (h.isseen k).1 h1
    exact walkE_in hw
  · rcases ((hp.new k).1 h1).2 with ⟨x, hx, ha⟩ | ⟨q, hq, hv⟩
    · exact key x (hd x hx) ha
    · obtain ⟨x, hx, ha⟩ := hl q hq k hv
      exact key x hx ha
/-- The new ones are not among the old ones: so there are more. -/
theorem Part.more {es : List (Int × Int)} {seen done seen' next : List Int} {last : Option (Int × List Int)} (hs : seen.Nodup) (hp : Part es seen done last seen' next) : seen.length ≤ seen'.length ∧ (next ≠ [] → seen.length < seen'.length) := by
  refine ⟨nodup_len hs fun k hk => (hp.app k).2 (Or.inl hk), fun hn => ?_⟩
  obtain ⟨x, r, rfl⟩ : ∃ x r, next = x :: r := by
    cases next with
    | nil => exact absurd rfl hn
    | cons x r => exact ⟨x, r, rfl⟩
  have hx : x ∉ seen := ((hp.new x).1 (by simp)).1
  have h2 : (x :: seen).Nodup := List.nodup_cons.2 ⟨hx, hs⟩
  have := nodup_len h2 (l' := seen') fun k hk => by
    rcases List.mem_cons.1 hk with rfl | hk
    · exact (hp.app k).2 (Or.inr (by simp))
    · exact (hp.app k).2 (Or.inl hk)
  simp at this
  omega
end Go.Proofs.YtjijgkjmndpngaaDoor
