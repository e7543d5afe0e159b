/- A script of steps. -/
import Derived.Test.YtmkbgdgfbmfbdaaDoorP9
namespace Go.Proofs.YtmkbgdgfbmfbdaaDoor
open Go.RowKit

inductive Step where
  | put (its : List Item)
  | get (n : Nat)
/-- What a step does: from xs, ks to ys, ks', taking o out. -/
def SR (dup : Bool) (s : Step) (xs ks ys ks' o : List Item) : Prop :=
  match s with
  | .put its => ys.Perm (xs ++ its) ∧ ks' = newKeys dup ks its ∧ o = []
  | .get _ => o.Perm xs ∧ Asc (keysOf o) ∧ ys = [] ∧ ks' = []
/-- When a step is one that we have shown. -/
def SOk (dup : Bool) (s : Step) (xs ks : List Item) : Prop :=
  match s with
  | .put its => its ≠ [] ∧ xs.length + its.length ≤ 1000 ∧ (dup = false → (ks ++ its).Nodup)
  | .get n => xs ≠ [] ∧ (∀ x ∈ ks, x ∈ xs) ∧ xs.length ≤ n ∧ n ≤ 1000
/-- A step in memory. -/
def SMem (w : World) (r : List Value) (s : Step) : Prop :=
  match s with
  | .put its => ∃ N si n ci, r = [.int .i64 1, .int .i64 N, .slice si n ci] ∧ Pairs w (.slice si n ci) its
  | .get n => r = [.int .i64 2, .int .i64 n, .slice none 0 0]
theorem SMem.shape {w : World} {r : List Value} {s : Step} (h : SMem w r s) : ∃ (x y : Int) (so : Option Addr) (n c : Nat), r = [.int .i64 x, .int .i64 y, .slice so n c] := by
  cases s with
  | put its => obtain ⟨N, si, n, ci, rfl, _⟩ := h; exact ⟨_, _, _, _, _, rfl⟩
  | get n => obtain rfl := h; exact ⟨_, _, _, _, _, rfl⟩
theorem SMem.same {w w' : World} {r : List Value} {s : Step} (h : SMem w r s) (hb : Below w.heap.size w w') : SMem w' r s := by
  cases s with
  | put its => obtain ⟨N, si, n, ci, rfl, hp⟩ := h; exact ⟨N, si, n, ci, rfl, Recs.same hp hb⟩
  | get n => exact h
def said4 (si : Value) : List Value := [si, .int .i64 0, .bool false, .int .i64 0]
/-- A slice outside some blocks. -/
def Off (w : World) (M : List Nat) (si : Value) : Prop := ∀ b o n c, si = .slice (some ⟨b, o, none⟩) n c → b < w.heap.size ∧ b ∉ M
/-- A slice in a block that is not below w's size. -/
def New (w : World) (si : Value) : Prop := ∀ b o n c, si = .slice (some ⟨b, o, none⟩) n c → w.heap.size ≤ b
def StepDone (B q m : Nat) (dup : Bool) (v : Value) (s : Step) (xs ks : List Item) (w : World) (e : Ending) (w' : World) : Prop :=
  ∃ si o v' ys ks', e = .returned (.agg #[si, .int .i64 0, .bool false, .int .i64 0]) ∧ Pairs w' si o ∧ Off w' (q :: m :: rowOf v') si ∧ New w si ∧ SR dup s xs ks ys ks' o ∧ QS B w' q m dup v' ys ks' ∧ (∀ k ∈ rowOf v', k ∈ rowOf v ∨ w.heap.size ≤ k) ∧ Only (q :: m :: rowOf v) w w'
theorem step_any {B q m : Nat} {w : World} {dup : Bool} {v a b c : Value} {xs ks : List Item} {s : Step} (h : QS B w q m dup v xs ks) (hs : SMem w [a, b, c] s) (hB : B ≤ w.heap.size) (hok : SOk dup s xs ks) :
    Calls Tryd.prog 25 #[.pointer (some ⟨q, 0, none⟩), .agg #[a, b, c]] w (StepDone B q m dup v s xs ks w) := by
  cases s with
  | put its =>
    obtain ⟨N, si, n, ci, hr, hp⟩ := hs
    simp only [List.cons.injEq, and_true] at hr
    obtain ⟨rfl, rfl, rfl⟩ := hr
    refine (step_put h hp hB hok.2.1 hok.1 hok.2.2).mono ?_
    rintro e w' ⟨rfl, v', ys, h1, h2, h3, h4⟩
    exact ⟨_, [], v', ys, _, rfl, Recs.nil _ _, fun b o n c e => by simp at e, fun b o n c e => by simp at e, ⟨h2, rfl, rfl⟩, h1, h3, h4⟩
  | get n =>
    have hr : [a, b, c] = [.int .i64 2, .int .i64 (n : Nat), .slice none 0 0] := hs
    simp only [List.cons.injEq, and_true] at hr
    obtain ⟨rfl, rfl, rfl⟩ := hr
    refine (step_get (sx := .nilIface) h hok.1 hok.2.1 hok.2.2.1 hok.2.2.2).mono ?_
    rintro e w' ⟨si, out, v', rfl, h1, h2, h3, h4, h5, h6⟩
    refine ⟨si, out, v', [], [], rfl, Pairs.of_own h1, fun b o n c e => ?_, fun b o n c e => own_low h1 _ _ _ e, ⟨h2, h3, rfl, rfl⟩, h4, fun k hk => Or.inl (by rw [← h5]; exact hk), h6⟩
    obtain ⟨_, h | ⟨g, cap, cur, hv, hge, hh, _⟩⟩ := h1
    · rw [h.1] at e; simp at e
    · rw [hv] at e
      simp only [Value.slice.injEq, Option.some.injEq, Addr.mk.injEq] at e
      obtain ⟨⟨rfl, _⟩, _⟩ := e
      refine ⟨Blk.lt (show Blk w' g cur _ from hh), fun hm => ?_⟩
      rw [h5] at hm
      have := h.all_lt g hm
      omega

/-- A script's run. -/
inductive Ran (dup : Bool) : List Step → List Item → List Item → List (List Item) → Prop
  | nil : Ran dup [] [] [] []
  | add {ss : List Step} {s : Step} {xs ks ys ks' o : List Item} {outs : List (List Item)} (h : Ran dup ss xs ks outs) (hs : SR dup s xs ks ys ks' o) : Ran dup (ss ++ [s]) ys ks' (outs ++ [o])
theorem Ran.len {dup : Bool} {ss : List Step} {xs ks : List Item} {outs : List (List Item)} (h : Ran dup ss xs ks outs) : outs.length = ss.length := by
  induction h with
  | nil => rfl
  | add h hs ih => simp [ih]
def Good (dup : Bool) (ss : List Step) : Prop := ∀ (i : Nat) (s : Step), ss[i]? = some s → ∀ xs ks outs, Ran dup (ss.take i) xs ks outs → SOk dup s xs ks
def Steps (w : World) (sl : Value) (ss : List Step) : Prop := ∃ rs, Recs w 3 sl rs ∧ rs.length = ss.length ∧ ∀ (i : Nat) (r : List Value) (s : Step), rs[i]? = some r → ss[i]? = some s → SMem w r s
/-- What a script has said. -/
def Saids (w : World) (sis : List Value) (outs : List (List Item)) : Prop := sis.length = outs.length ∧ ∀ (j : Nat) (si : Value) (o : List Item), sis[j]? = some si → outs[j]? = some o → Pairs w si o
def RunDone (dup : Bool) (ss : List Step) (w : World) (e : Ending) (w' : World) : Prop :=
  ∃ sv sis xs ks outs, e = .returned sv ∧ Ran dup ss xs ks outs ∧ Recs w' 4 sv (sis.map said4) ∧ Saids w' sis outs ∧ Below w.heap.size w w'

theorem own_only {B : Nat} {w w' : World} {M : List Nat} {e : TypeId} {size n : Nat} {v : Value} {xs : List Value} (h : w.ownsRow B e size v n xs) (ho : Only M w w') (hk : ∀ k ∈ rowOf v, k ∉ M) : w'.ownsRow B e size v n xs := by
  obtain ⟨h1, h | ⟨g, cap, cur, hv, hge, hh, r⟩⟩ := h
  · exact ⟨h1, Or.inl h⟩
  · exact ⟨h1, Or.inr ⟨g, cap, cur, hv, hge, (ho.block g (Blk.lt (show Blk w g cur _ from hh)) (hk g (by rw [hv]; simp [rowOf, Value.ownBlock]))).trans hh, r⟩⟩
theorem own_rows {B : Nat} {w : World} {e : TypeId} {size n : Nat} {v : Value} {xs : List Value} (h : w.ownsRow B e size v n xs) : ∀ k ∈ rowOf v, k < w.heap.size ∧ B ≤ k := fun k hk => by
  obtain ⟨hge, cur, hh⟩ := own_block h (k := k) (by simpa [rowOf] using hk)
  exact ⟨Blk.lt (show Blk w k cur _ from hh), hge⟩
/-- Where a run stands. -/
structure RunAt (B q m : Nat) (dup : Bool) (ss : List Step) (i : Nat) (sv v : Value) (xs ks : List Item) (sis : List Value) (outs : List (List Item)) (w : World) : Prop where
  qs : QS B w q m dup v xs ks
  ran : Ran dup (ss.take i) xs ks outs
  row : w.ownsRow B 52 4 sv i (sis.map said4).flatten
  len : sis.length = i
  said : ∀ (j : Nat) (si : Value) (o : List Item), sis[j]? = some si → outs[j]? = some o → Pairs w si o ∧ Off w (q :: m :: rowOf v) si ∧ Off w (rowOf sv) si
  sep : ∀ k ∈ rowOf sv, k ∉ q :: m :: rowOf v
theorem Pairs.off {w w' : World} {M : List Nat} {si : Value} {o : List Item} (h : Pairs w si o) (ho : Off w M si) (hw : Only M w w') : Pairs w' si o :=
  Recs.heap h fun b o c e hne hlt => hw.block b hlt (ho b o _ c e).2
theorem Off.grow {w w' : World} {M M' : List Nat} {si : Value} (ho : Off w M si) (hs : w.heap.size ≤ w'.heap.size) (hM : ∀ k ∈ M', k ∈ M ∨ w.heap.size ≤ k) : Off w' M' si := fun b o n c e => by
  obtain ⟨h1, h2⟩ := ho b o n c e
  exact ⟨Nat.lt_of_lt_of_le h1 hs, fun hm => by
    rcases hM b hm with h | h
    · exact h2 h
    · omega⟩
theorem mem_rows {q m : Nat} {r r' : List Nat} {K : Nat} (h : ∀ k ∈ r', k ∈ r ∨ K ≤ k) : ∀ k ∈ q :: m :: r', k ∈ q :: m :: r ∨ K ≤ k := fun k hk => by
  simp only [List.mem_cons] at hk ⊢
  rcases hk with h1 | h1 | h1
  · exact Or.inl (Or.inl h1)
  · exact Or.inl (Or.inr (Or.inl h1))
  · rcases h k h1 with h2 | h2
    · exact Or.inl (Or.inr (Or.inr h2))
    · exact Or.inr h2
/-- After a step the script's facts stand; the new said thing is apart. -/
theorem RunAt.stepped {B q m i : Nat} {dup : Bool} {ss : List Step} {sv v : Value} {xs ks : List Item} {sis : List Value} {outs : List (List Item)} {w w1 w2 : World} {v' : Value} (h : RunAt B q m dup ss i sv v xs ks sis outs w) (hb : Below w.heap.size w w1) (hr : ∀ k ∈ rowOf v', k ∈ rowOf v ∨ w1.heap.size ≤ k) (ho : Only (q :: m :: rowOf v) w1 w2) :
    w2.ownsRow B 52 4 sv i (sis.map said4).flatten ∧ (∀ (j : Nat) (si : Value) (o : List Item), sis[j]? = some si → outs[j]? = some o → Pairs w2 si o ∧ Off w2 (q :: m :: rowOf v') si ∧ Off w2 (rowOf sv) si) ∧ (∀ k ∈ rowOf sv, k < w.heap.size ∧ k ∉ q :: m :: rowOf v') := by
  have hs1 := hb.size
  have hs2 := ho.size
  refine ⟨own_only (own_only h.row (Only.of_below (M := []) hb) (by simp)) ho h.sep, fun j si o h1 h2 => ?_, fun k hk => ?_⟩
  · obtain ⟨h3, h4, h5⟩ := h.said j si o h1 h2
    refine ⟨Pairs.off (Recs.same h3 hb) (h4.grow hs1 (fun k hk => Or.inl hk)) ho, (h4.grow hs1 (fun k hk => Or.inl hk)).grow hs2 (mem_rows hr), h5.grow (Nat.le_trans hs1 hs2) (fun k hk => Or.inl hk)⟩
  · have h1 := (own_rows h.row k hk).1
    refine ⟨h1, fun hm => ?_⟩
    rcases mem_rows hr k hm with h2 | h2
    · exact h.sep k hk h2
    · omega
theorem RunAt.next {B q m i : Nat} {dup : Bool} {ss : List Step} {sv sv' v' si : Value} {ys ks' o : List Item} {sis : List Value} {outs : List (List Item)} {w2 w3 : World} (hq : QS B w2 q m dup v' ys ks') (hran : Ran dup (ss.take (i + 1)) ys ks' (outs ++ [o])) (hl : sis.length = i) (hol : outs.length = i) (hrow : w3.ownsRow B 52 4 sv' (i + 1) ((sis.map said4).flatten ++ said4 si))
    (hsaid : ∀ (j : Nat) (si : Value) (o : List Item), sis[j]? = some si → outs[j]? = some o → Pairs w2 si o ∧ Off w2 (q :: m :: rowOf v') si ∧ Off w2 (rowOf sv) si) (hsi : Pairs w2 si o ∧ Off w2 (q :: m :: rowOf v') si ∧ Off w2 (rowOf sv) si)
    (hsep : ∀ k ∈ rowOf sv, k < w2.heap.size ∧ k ∉ q :: m :: rowOf v') (ho : Only (rowOf sv) w2 w3) (hat : ∀ k ∈ rowOf sv', k ∈ rowOf sv ∨ w2.heap.size ≤ k) : RunAt B q m dup ss (i + 1) sv' v' ys ks' (sis ++ [si]) (outs ++ [o]) w3 := by
  have key : ∀ (si : Value) (o : List Item), Pairs w2 si o ∧ Off w2 (q :: m :: rowOf v') si ∧ Off w2 (rowOf sv) si → Pairs w3 si o ∧ Off w3 (q :: m :: rowOf v') si ∧ Off w3 (rowOf sv') si := fun si o ⟨h1, h2, h3⟩ => ⟨Pairs.off h1 h3 ho, h2.grow ho.size (fun k hk => Or.inl hk), h3.grow ho.size hat⟩
  refine ⟨hq.only ho (fun k hk hm => (hsep k hm).2 hk), hran, ?_, by simp [hl], fun j si' o' h1 h2 => ?_, fun k hk => ?_⟩
  · rw [List.map_append, List.flatten_append]
    simpa using hrow
  · by_cases hj : j < i
    · rw [List.getElem?_append_left (by omega)] at h1 h2
      exact key _ _ (hsaid j si' o' h1 h2)
    · have hji : j = i := by
        have := (List.getElem?_eq_some_iff.1 h1).1
        simp [hl] at this
        omega
      subst hji
      rw [List.getElem?_append_right (by omega)] at h1 h2
      simp [hl] at h1
      simp [hol] at h2
      subst h1 h2
      exact key _ _ hsi
  · rcases hat k hk with h | h
    · exact (hsep k h).2
    · exact fun hm => by have := hq.all_lt k hm; omega
end Go.Proofs.YtmkbgdgfbmfbdaaDoor
