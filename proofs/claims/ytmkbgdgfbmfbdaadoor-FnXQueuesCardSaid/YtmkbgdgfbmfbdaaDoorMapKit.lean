/- A map whose keys are values of an interface: how it lies in memory, as a list of pairs, and what the program's operations make of it. -/
import Derived.Test.YtmkbgdgfbmfbdaaDoorHeapKit
import Derived.Maps.RangeWalk
namespace Go.Proofs.YtmkbgdgfbmfbdaaDoor
open Go.RowKit Go.ChangeMaps

section
variable {α : Type} {mk : α → Value}
def ent (mk : α → Value) (p : α × Value × Nat) : MapEntry := { key := mk p.1, val := p.2.1, born := p.2.2 }
def IMapE (w : World) (mk : α → Value) (b : Nat) (E : List (α × Value × Nat)) (clock : Nat) : Prop :=
  w.heap[b]? = some (.map (E.map (ent mk)).toArray clock) ∧ (E.map (·.1)).Nodup ∧ (E.map (·.2.2)).Nodup ∧ ∀ p ∈ E, p.2.2 < clock
def bare (E : List (α × Value × Nat)) : List (α × Value) := E.map fun p => (p.1, p.2.1)
/-- Block b is a map of these pairs. -/
def IMap (w : World) (mk : α → Value) (b : Nat) (L : List (α × Value)) : Prop := ∃ E clock, IMapE w mk b E clock ∧ L = bare E

def mkeys (L : List (α × Value)) : List α := L.map (·.1)
theorem IMap.heap {w w' : World} {b : Nat} {L : List (α × Value)} (h : IMap w mk b L) (e : w'.heap[b]? = w.heap[b]?) : IMap w' mk b L := by
  obtain ⟨E, c, h1, h2⟩ := h
  exact ⟨E, c, ⟨by rw [e]; exact h1.1, h1.2⟩, h2⟩
theorem IMap.lt {w : World} {b : Nat} {L : List (α × Value)} (h : IMap w mk b L) : b < w.heap.size := by
  obtain ⟨E, c, h1, h2⟩ := h
  exact (Array.getElem?_eq_some_iff.1 h1.1).1
theorem IMap.only {w w' : World} {b : Nat} {L : List (α × Value)} {M : List Nat} (h : IMap w mk b L) (ho : Only M w w') (hb : b ∉ M) : IMap w' mk b L := h.heap (ho.block b h.lt hb)
theorem IMap.below {w w' : World} {b B : Nat} {L : List (α × Value)} (h : IMap w mk b L) (ho : Below B w w') (hb : b < B) : IMap w' mk b L := h.heap (ho.block b hb)
theorem IMap.same {w w' : World} {b : Nat} {L : List (α × Value)} (h : IMap w mk b L) (ho : Below w.heap.size w w') : IMap w' mk b L := h.heap (ho.block b h.lt)
theorem IMap.nodup {w : World} {b : Nat} {L : List (α × Value)} (h : IMap w mk b L) : (mkeys L).Nodup := by
  obtain ⟨E, c, h1, rfl⟩ := h
  have : mkeys (bare E) = E.map (·.1) := by simp [mkeys, bare]
  rw [this]; exact h1.2.1
theorem IMap.new (w : World) (mk : α → Value) : IMap (w.alloc (.map #[] 0)) mk w.heap.size [] :=
  ⟨[], 0, ⟨by rw [heap_alloc_new]; rfl, by simp, by simp, by simp⟩, rfl⟩

theorem only_setBlock {w : World} {b : Nat} (o : Obj) : Only [b] w (setBlock w b o) :=
  ⟨rfl, rfl, rfl, by simp [setBlock], fun k _ hk => by
    have : k ≠ b := fun e => hk (by simp [e])
    simp [setBlock, Array.getElem?_setIfInBounds_ne (Ne.symm this)]⟩

theorem run_len {P : Program} {I t e : TypeId} (ht : P.underlying t = some (.map I e)) {w : World} {b : Nat} {L : List (α × Value)} (h : IMap w mk b L) (ty : TypeId) :
    (Builtin.len_ #[t] ty #[.map (some b)]).run P w = .ok (.int .i64 L.length) w := by
  obtain ⟨E, clock, ⟨hb, _⟩, rfl⟩ := h
  simp [Builtin.len_, run_underlying ht, MapKept.run_getObj_map hb, goInt, Result.andThen, bare]

theorem nodup_len {β : Type} [DecidableEq β] : ∀ {l l' : List β}, l.Nodup → (∀ k ∈ l, k ∈ l') → l.length ≤ l'.length
  | [], _, _, _ => by simp
  | x :: l, l', hn, hs => by
    have h1 := List.nodup_cons.1 hn
    have hx := hs x (by simp)
    have h2 := nodup_len (l := l) (l' := l'.erase x) h1.2 fun k hk => (List.mem_erase_of_ne (fun e : k = x => h1.1 (by rw [← e]; exact hk))).2 (hs k (by simp [hk]))
    rw [List.length_erase_of_mem hx] at h2
    have h3 := List.length_pos_of_mem hx
    simp
    omega
theorem modify_mid {β : Type} (f : β → β) (x : β) (l2 : List β) : ∀ l1 : List β, (l1 ++ x :: l2).modify l1.length f = l1 ++ f x :: l2
  | [] => by simp
  | y :: l1 => by simp [modify_mid f x l2 l1]
theorem erase_mid {β : Type} (x : β) (l2 : List β) : ∀ l1 : List β, (l1 ++ x :: l2).eraseIdx l1.length = l1 ++ l2
  | [] => by simp
  | y :: l1 => by simp [erase_mid x l2 l1]
theorem getElem_mid {β : Type} (x : β) (l2 : List β) : ∀ l1 : List β, (l1 ++ x :: l2)[l1.length]? = some x
  | [] => by simp
  | y :: l1 => by simp

end
section
variable {α : Type} [DecidableEq α]

/-- A kind of keys: values of the interface I, told apart by what they hold. -/
structure KeyKind (P : Program) (I : TypeId) (mk : α → Value) : Prop where
  iface : ∃ ms, P.underlying I = some (.interface ms)
  eq : ∀ (w : World) (a b : α), (Op.equal I (mk a) (mk b)).run P w = .ok (decide (a = b)) w
  chk : ∀ (w : World) (em : Bool) (a : α), (Instr.checkKey em 10000 I (mk a)).run P w = .ok () w
  stay : ∀ a, Instr.sameBits 10000 (mk a) (mk a) = true

def mlook : List (α × Value) → α → Option Value
  | [], _ => none
  | p :: L, a => if a = p.1 then some p.2 else mlook L a
def mput : List (α × Value) → α → Value → List (α × Value)
  | [], a, v => [(a, v)]
  | p :: L, a, v => if a = p.1 then (p.1, v) :: L else p :: mput L a v
def mdel (L : List (α × Value)) (a : α) : List (α × Value) := L.filter fun p => !decide (a = p.1)

theorem mkeys_mput_in {a : α} {v : Value} : ∀ {L : List (α × Value)}, a ∈ mkeys L → mkeys (mput L a v) = mkeys L
  | [], h => absurd h (by simp [mkeys])
  | p :: L, h => by
    by_cases e : a = p.1
    · simp [mput, e, mkeys]
    · have h2 : a ∈ mkeys L := by simpa [mkeys, e] using h
      have ih := mkeys_mput_in (v := v) h2
      rw [mput, if_neg e]
      show p.1 :: mkeys (mput L a v) = p.1 :: mkeys L
      rw [ih]
theorem mkeys_mput_new {a : α} {v : Value} : ∀ {L : List (α × Value)}, a ∉ mkeys L → mkeys (mput L a v) = mkeys L ++ [a]
  | [], _ => by simp [mput, mkeys]
  | p :: L, h => by
    have e : a ≠ p.1 := fun e => h (by simp [mkeys, e])
    have h2 : a ∉ mkeys L := fun h2 => h (by simp only [mkeys, List.map_cons, List.mem_cons]; exact Or.inr h2)
    have ih := mkeys_mput_new (v := v) h2
    rw [mput, if_neg e]
    show p.1 :: mkeys (mput L a v) = p.1 :: (mkeys L ++ [a])
    rw [ih]
theorem mkeys_mdel (a : α) (L : List (α × Value)) : mkeys (mdel L a) = (mkeys L).filter fun k => !decide (a = k) := by
  simp only [mkeys, mdel, List.filter_map, Function.comp_def]
theorem mlook_isSome (a : α) (L : List (α × Value)) : (mlook L a).isSome = decide (a ∈ mkeys L) := by
  rw [Bool.eq_iff_iff, decide_eq_true_iff]
  induction L with
  | nil => simp [mlook, mkeys]
  | cons p L ih =>
    simp only [mlook, mkeys, List.map_cons, List.mem_cons] at ih ⊢
    by_cases h : a = p.1
    · simp [h]
    · simp only [h, if_false, false_or]
      exact ih
theorem mlook_none {a : α} : ∀ {L : List (α × Value)}, (∀ p ∈ L, a ≠ p.1) → mlook L a = none
  | [], _ => rfl
  | p :: L, h => by rw [mlook, if_neg (h p (by simp)), mlook_none fun q hq => h q (by simp [hq])]
theorem mlook_mid {a : α} {v : Value} : ∀ {L1 L2 : List (α × Value)}, (∀ p ∈ L1, a ≠ p.1) → mlook (L1 ++ (a, v) :: L2) a = some v
  | [], _, _ => by simp [mlook]
  | p :: L, _, h => by rw [List.cons_append, mlook, if_neg (h p (by simp)), mlook_mid fun q hq => h q (by simp [hq])]
theorem mput_none {a : α} {v : Value} : ∀ {L : List (α × Value)}, (∀ p ∈ L, a ≠ p.1) → mput L a v = L ++ [(a, v)]
  | [], _ => rfl
  | p :: L, h => by rw [mput, if_neg (h p (by simp)), mput_none fun q hq => h q (by simp [hq])]; rfl
theorem mput_mid {a : α} {u v : Value} : ∀ {L1 L2 : List (α × Value)}, (∀ p ∈ L1, a ≠ p.1) → mput (L1 ++ (a, u) :: L2) a v = L1 ++ (a, v) :: L2
  | [], _, _ => by simp [mput]
  | p :: L, _, h => by rw [List.cons_append, mput, if_neg (h p (by simp)), mput_mid fun q hq => h q (by simp [hq])]; rfl
theorem mlook_mput (a k : α) (v : Value) : ∀ L, mlook (mput L a v) k = if k = a then some v else mlook L k
  | [] => by simp [mput, mlook]
  | p :: L => by
    have ih := mlook_mput a k v L
    by_cases h : a = p.1
    · simp only [mput, h, if_true, mlook]
      by_cases h2 : k = p.1 <;> simp [h2]
    · simp only [mput, h, if_false, mlook, ih]
      by_cases h2 : k = p.1
      · subst h2
        simp [Ne.symm h]
      · simp [h2]

section
variable {P : Program} {I : TypeId} {mk : α → Value}

theorem run_findAsk (K : KeyKind P I mk) (w : World) (a : α) : ∀ (E : List (α × Value × Nat)) (i : Nat),
    ((∀ p ∈ E, a ≠ p.1) ∧ (Instr.findAsking I (mk a) (E.map (ent mk)) i).run P w = .ok none w) ∨
    ∃ E1 p E2, E = E1 ++ p :: E2 ∧ p.1 = a ∧ (∀ q ∈ E1, a ≠ q.1) ∧ (Instr.findAsking I (mk a) (E.map (ent mk)) i).run P w = .ok (some (i + E1.length, p.2.1)) w
  | [], i => Or.inl ⟨by simp, by simp [Instr.findAsking]⟩
  | p :: E, i => by
    have he := K.eq w a p.1
    by_cases h : a = p.1
    · right
      refine ⟨[], p, E, rfl, h.symm, by simp, ?_⟩
      rw [decide_eq_true h] at he
      simp [Instr.findAsking, ent, he]
    · rw [decide_eq_false h] at he
      rcases run_findAsk K w a E (i + 1) with ⟨h1, h2⟩ | ⟨E1, q, E2, rfl, h1, h2, h3⟩
      · left
        refine ⟨fun q hq => ?_, by simp [Instr.findAsking, ent, he]; exact h2⟩
        rcases List.mem_cons.1 hq with rfl | hq
        · exact h
        · exact h1 q hq
      · right
        refine ⟨p :: E1, q, E2, rfl, h1, fun r hr => ?_, ?_⟩
        · rcases List.mem_cons.1 hr with rfl | hr
          · exact h
          · exact h2 r hr
        · rw [List.map_cons, Instr.findAsking]
          simp only [ent, Sem.run_bind, he, Result.andThen, Bool.false_eq_true, if_false]
          rw [show i + (p :: E1).length = i + 1 + E1.length by simp; omega]
          exact h3
theorem run_find (K : KeyKind P I mk) (w : World) (a : α) (E : List (α × Value × Nat)) :
    ((∀ p ∈ E, a ≠ p.1) ∧ (Instr.findKey I (mk a) (E.map (ent mk))).run P w = .ok none w) ∨
    ∃ E1 p E2, E = E1 ++ p :: E2 ∧ p.1 = a ∧ (∀ q ∈ E1, a ≠ q.1) ∧ (Instr.findKey I (mk a) (E.map (ent mk))).run P w = .ok (some (E1.length, p.2.1)) w := by
  obtain ⟨ms, hI⟩ := K.iface
  have key : (Instr.findKey I (mk a) (E.map (ent mk))).run P w = (Instr.findAsking I (mk a) (E.map (ent mk))).run P w := by
    unfold Instr.findKey
    simp only [Sem.run_bind, run_underlying hI, Result.andThen]
    cases E with
    | nil => simp [Instr.findNow, Instr.findAsking]
    | cons p E => simp [Instr.findNow, Instr.sameNow]
  rw [key]
  rcases run_findAsk K w a E 0 with h | ⟨E1, p, E2, h1, h2, h3, h4⟩
  · exact Or.inl h
  · exact Or.inr ⟨E1, p, E2, h1, h2, h3, by simpa using h4⟩

theorem run_look (K : KeyKind P I mk) {t e : TypeId} (ht : P.underlying t = some (.map I e)) {z : Value} {w : World} (hz : (zeroValue e).run P w = .ok z w) {b : Nat} {L : List (α × Value)} (h : IMap w mk b L) (a : α) (c : Bool) :
    (Instr.lookup t (.map (some b)) (mk a) c).run P w = .ok (if c then .tuple #[(mlook L a).getD z, .bool (mlook L a).isSome] else (mlook L a).getD z) w := by
  obtain ⟨E, clock, ⟨hb, h1, h2, h3⟩, rfl⟩ := h
  rcases run_find K w a E with ⟨g1, g2⟩ | ⟨E1, p, E2, rfl, rfl, g3, g4⟩
  · have : mlook (bare E) a = none := mlook_none fun p hp => by
      simp only [bare, List.mem_map] at hp
      obtain ⟨q, hq, rfl⟩ := hp
      exact g1 q hq
    rw [this]
    simp [Instr.lookup, run_underlying ht, MapKept.run_getObj_map hb, K.chk w _ a, g2, hz, Result.andThen]
  · have : mlook (bare (E1 ++ p :: E2)) p.1 = some p.2.1 := by
      simp only [bare, List.map_append, List.map_cons]
      refine mlook_mid fun q hq => ?_
      simp only [List.mem_map] at hq
      obtain ⟨r, hr, rfl⟩ := hq
      exact g3 r hr
    rw [this]
    simp only [List.map_append, List.map_cons] at g4 hb ⊢
    simp [Instr.lookup, run_underlying ht, MapKept.run_getObj_map hb, K.chk w _ p.1, g4, Result.andThen]

theorem run_put (K : KeyKind P I mk) {t e : TypeId} (ht : P.underlying t = some (.map I e)) {w : World} {b : Nat} {L : List (α × Value)} (h : IMap w mk b L) (a : α) (v : Value) :
    ∃ w', (Instr.mapUpdate t (.map (some b)) (mk a) v).run P w = .ok () w' ∧ IMap w' mk b (mput L a v) ∧ Only [b] w w' := by
  obtain ⟨E, clock, ⟨hb, h1, h2, h3⟩, rfl⟩ := h
  rcases run_find K w a E with ⟨g1, g2⟩ | ⟨E1, p, E2, rfl, rfl, g3, g4⟩
  · refine ⟨setBlock w b (.map ((E ++ [(a, v, clock)]).map (ent mk)).toArray (clock + 1)), ?_, ?_, only_setBlock _⟩
    · simp [Instr.mapUpdate, run_underlying ht, MapKept.run_getObj_map hb, K.chk w _ a, g2, MapKept.run_setObj_map _ hb, Result.andThen, setBlock, ent]
    · refine ⟨E ++ [(a, v, clock)], clock + 1, ⟨heap_setBlock_same hb _, ?_, ?_, ?_⟩, ?_⟩
      · rw [List.map_append, List.nodup_append]
        refine ⟨h1, by simp, fun x hx y hy => ?_⟩
        simp only [List.mem_map] at hx
        obtain ⟨q, hq, rfl⟩ := hx
        simp at hy
        subst hy
        exact (g1 q hq).symm
      · rw [List.map_append, List.nodup_append]
        refine ⟨h2, by simp, fun x hx y hy => ?_⟩
        simp only [List.mem_map] at hx
        obtain ⟨q, hq, rfl⟩ := hx
        simp at hy
        subst hy
        exact Nat.ne_of_lt (h3 q hq)
      · intro q hq
        rcases List.mem_append.1 hq with hq | hq
        · have := h3 q hq; omega
        · simp at hq; subst hq; simp
      · rw [mput_none]
        · simp [bare]
        · intro q hq
          simp only [bare, List.mem_map] at hq
          obtain ⟨r, hr, rfl⟩ := hq
          exact g1 r hr
  · have e1 : ((E1 ++ p :: E2).map (ent mk)).toArray.modify E1.length (fun e => { e with key := mk p.1, val := v }) = ((E1 ++ (p.1, v, p.2.2) :: E2).map (ent mk)).toArray := by
      apply Array.ext'
      rw [Array.toList_modify]
      simp only [List.map_append, List.map_cons]
      have := modify_mid (fun e : MapEntry => { e with key := mk p.1, val := v }) (ent mk p) (E2.map (ent mk)) (E1.map (ent mk))
      rw [List.length_map] at this
      exact this
    have e2 : ((E1 ++ p :: E2).map (ent mk)).toArray[E1.length]? = some (ent mk p) := by
      rw [List.getElem?_toArray, List.map_append, List.map_cons]
      have := getElem_mid (ent mk p) (E2.map (ent mk)) (E1.map (ent mk))
      rwa [List.length_map] at this
    refine ⟨setBlock w b (.map ((E1 ++ (p.1, v, p.2.2) :: E2).map (ent mk)).toArray clock), ?_, ?_, only_setBlock _⟩
    · unfold Instr.mapUpdate
      simp only [Sem.run_bind, run_underlying ht, Result.andThen, MapKept.run_getObj_map hb, K.chk w _ p.1, g4, e2, Option.map_some, Option.getD_some]
      have e3 : (Instr.keyThatStays (ent mk p).key (mk p.1)).run P w = .ok (mk p.1) w := by
        unfold Instr.keyThatStays
        rw [show (ent mk p).key = mk p.1 from rfl, K.stay, if_pos rfl]
        rfl
      simp only [e3, MapKept.run_setObj_map _ hb, e1]
      rfl
    · refine ⟨E1 ++ (p.1, v, p.2.2) :: E2, clock, ⟨heap_setBlock_same hb _, by simpa using h1, by simpa using h2, ?_⟩, ?_⟩
      · intro q hq
        rcases List.mem_append.1 hq with hq | hq
        · exact h3 q (by simp [hq])
        · rcases List.mem_cons.1 hq with rfl | hq
          · exact h3 p (by simp)
          · exact h3 q (by simp [hq])
      · simp only [bare, List.map_append, List.map_cons]
        refine mput_mid fun q hq => ?_
        simp only [List.mem_map] at hq
        obtain ⟨r, hr, rfl⟩ := hq
        exact g3 r hr

theorem run_del (K : KeyKind P I mk) {t e : TypeId} (ht : P.underlying t = some (.map I e)) {w : World} {b : Nat} {L : List (α × Value)} (h : IMap w mk b L) (a : α) (ty : TypeId) :
    ∃ w', (Builtin.delete_ #[t, I] ty #[.map (some b), mk a]).run P w = .ok (.tuple #[]) w' ∧ IMap w' mk b (mdel L a) ∧ Only [b] w w' := by
  obtain ⟨E, clock, ⟨hb, h1, h2, h3⟩, rfl⟩ := h
  rcases run_find K w a E with ⟨g1, g2⟩ | ⟨E1, p, E2, rfl, rfl, g3, g4⟩
  · refine ⟨setBlock w b (.map (E.map (ent mk)).toArray clock), ?_, ?_, only_setBlock _⟩
    · simp [Builtin.delete_, run_underlying ht, MapKept.run_getObj_map hb, K.chk w _ a, g2, MapKept.run_setObj_map _ hb, Result.andThen, setBlock]
    · refine ⟨E, clock, ⟨heap_setBlock_same hb _, h1, h2, h3⟩, ?_⟩
      refine List.filter_eq_self.2 fun q hq => ?_
      simp only [bare, List.mem_map] at hq
      obtain ⟨r, hr, rfl⟩ := hq
      simp [g1 r hr]
  · have e1 : ((E1 ++ p :: E2).map (ent mk)).toArray.eraseIdxIfInBounds E1.length = ((E1 ++ E2).map (ent mk)).toArray := by
      have hl : E1.length < ((E1 ++ p :: E2).map (ent mk)).toArray.size := by simp
      unfold Array.eraseIdxIfInBounds
      rw [dif_pos hl]
      apply Array.ext'
      rw [Array.toList_eraseIdx]
      simp only [List.map_append, List.map_cons]
      have := erase_mid (ent mk p) (E2.map (ent mk)) (E1.map (ent mk))
      rw [List.length_map] at this
      exact this
    have hn : ∀ q ∈ E2, p.1 ≠ q.1 := fun q hq e => by
      rw [List.map_append, List.map_cons, List.nodup_append] at h1
      exact (List.nodup_cons.1 h1.2.1).1 (List.mem_map.2 ⟨q, hq, e.symm⟩)
    refine ⟨setBlock w b (.map ((E1 ++ E2).map (ent mk)).toArray clock), ?_, ?_, only_setBlock _⟩
    · unfold Builtin.delete_
      simp only [Sem.run_bind, run_underlying ht, Result.andThen, MapKept.run_getObj_map hb, K.chk w _ p.1, g4, List.getElem?_toArray, List.getElem?_cons_zero, List.getElem?_cons_succ, e1, MapKept.run_setObj_map _ hb]
      rfl
    · refine ⟨E1 ++ E2, clock, ⟨heap_setBlock_same hb _, ?_, ?_, ?_⟩, ?_⟩
      · exact (List.Sublist.map _ (List.Sublist.append (List.Sublist.refl E1) (List.sublist_cons_self p E2))).nodup h1
      · exact (List.Sublist.map _ (List.Sublist.append (List.Sublist.refl E1) (List.sublist_cons_self p E2))).nodup h2
      · intro q hq
        exact h3 q (by rcases List.mem_append.1 hq with h | h <;> simp [h])
      · simp only [bare, mdel, List.map_append, List.map_cons, List.filter_append, List.filter_cons]
        congr 1
        · refine List.filter_eq_self.2 fun q hq => ?_
          simp only [List.mem_map] at hq
          obtain ⟨r, hr, rfl⟩ := hq
          simp [g3 r hr]
        · simp only [decide_true, Bool.not_true, Bool.false_eq_true, if_false]
          refine List.filter_eq_self.2 fun q hq => ?_
          simp only [List.mem_map] at hq
          obtain ⟨r, hr, rfl⟩ := hq
          simp [hn r hr]

/-- Block r is an iterator over the map in block b that has handed out these keys, in this order. -/
def IRange (w : World) (mk : α → Value) (b r : Nat) (L : List (α × Value)) (done : List α) : Prop :=
  ∃ E clock seen, IMapE w mk b E clock ∧ L = bare E ∧ w.heap[r]? = some (.mapIter (some b) clock seen clock) ∧ done.Nodup ∧ (∀ p ∈ E, seen.contains p.2.2 = decide (p.1 ∈ done)) ∧ (∀ k ∈ done, k ∈ E.map (·.1)) ∧ seen.size = done.length
theorem IRange.heap {w w' : World} {b r : Nat} {L : List (α × Value)} {done : List α} (h : IRange w mk b r L done) (e : w'.heap[b]? = w.heap[b]?) (e' : w'.heap[r]? = w.heap[r]?) : IRange w' mk b r L done := by
  obtain ⟨E, c, s, h1, h2, h3, h4⟩ := h
  exact ⟨E, c, s, ⟨by rw [e]; exact h1.1, h1.2⟩, h2, by rw [e']; exact h3, h4⟩
theorem IRange.map {w : World} {b r : Nat} {L : List (α × Value)} {done : List α} (h : IRange w mk b r L done) : IMap w mk b L := by
  obtain ⟨E, c, s, h1, h2, _⟩ := h
  exact ⟨E, c, h1, h2⟩
theorem IRange.rlt {w : World} {b r : Nat} {L : List (α × Value)} {done : List α} (h : IRange w mk b r L done) : r < w.heap.size := by
  obtain ⟨E, c, s, h1, h2, h3, _⟩ := h
  exact (Array.getElem?_eq_some_iff.1 h3).1
theorem IRange.ne {w : World} {b r : Nat} {L : List (α × Value)} {done : List α} (h : IRange w mk b r L done) : b ≠ r := by
  obtain ⟨E, c, s, h1, h2, h3, _⟩ := h
  intro e
  rw [e] at h1
  have := h1.1
  rw [h3] at this
  cases this
theorem IRange.only {w w' : World} {b r : Nat} {L : List (α × Value)} {done : List α} {M : List Nat} (h : IRange w mk b r L done) (ho : Only M w w') (hb : b ∉ M) (hr : r ∉ M) : IRange w' mk b r L done :=
  h.heap (ho.block b h.map.lt hb) (ho.block r h.rlt hr)
/-- How many keys have not been handed out. -/
theorem IRange.le {w : World} {b r : Nat} {L : List (α × Value)} {done : List α} (h : IRange w mk b r L done) : done.Nodup ∧ ∀ k ∈ done, k ∈ mkeys L := by
  obtain ⟨E, c, s, h1, rfl, h3, h4, h5, h6, _⟩ := h
  exact ⟨h4, fun k hk => by have := h6 k hk; simpa [mkeys, bare] using this⟩

theorem IRange.seen {w : World} {b r : Nat} {L : List (α × Value)} {done : List α} (h : IRange w mk b r L done) : (w.iterSeen r).size = done.length := by
  obtain ⟨E, c, s, h1, rfl, h3, h4, h5, h6, h7⟩ := h
  unfold World.iterSeen
  rw [h3]
  exact h7
theorem IRange.len_le {w : World} {b r : Nat} {L : List (α × Value)} {done : List α} (h : IRange w mk b r L done) : done.length ≤ L.length := by
  have := nodup_len h.le.1 h.le.2
  simpa [mkeys] using this

theorem run_range {t e : TypeId} (ht : P.underlying t = some (.map I e)) {w : World} {b : Nat} {L : List (α × Value)} (h : IMap w mk b L) :
    ∃ w', (Instr.range t (.map (some b))).run P w = .ok (.pointer (some ⟨w.heap.size, 0, none⟩)) w' ∧ IRange w' mk b w.heap.size L [] ∧ Below w.heap.size w w' := by
  have hlt := h.lt
  obtain ⟨E, clock, h1, rfl⟩ := h
  refine ⟨_, run_range_map w t I e b _ clock ht h1.1, ⟨E, clock, #[], ⟨by rw [heap_alloc_old _ _ hlt]; exact h1.1, h1.2⟩, rfl, by rw [heap_alloc_new], by simp, by simp, by simp, by simp⟩, (Below.refl _ _).alloc (Nat.le_refl _) _⟩

theorem run_next {w : World} {b r : Nat} {L : List (α × Value)} {done : List α} (_hinj : ∀ x y, mk x = mk y → x = y) (h : IRange w mk b r L done) (ty : TypeId) :
    ((∀ k ∈ mkeys L, k ∈ done) ∧ (Instr.next (.pointer (some ⟨r, 0, none⟩)) false ty).run P w = .ok (.tuple #[.bool false]) w) ∨
    ∃ a v w', a ∈ mkeys L ∧ a ∉ done ∧ (a, v) ∈ L ∧ (Instr.next (.pointer (some ⟨r, 0, none⟩)) false ty).run P w = .ok (.tuple #[.bool true, mk a, v]) w' ∧ IRange w' mk b r L (done ++ [a]) ∧ Only [r] w w' ∧
      ∀ w'' : World, w''.heap[b]? = w'.heap[b]? → w''.heap[r]? = w'.heap[r]? → (Instr.entry (.pointer (some ⟨r, 0, none⟩))).run P w'' = .ok (.tuple #[mk a, v]) w'' := by
  have hne := h.ne
  obtain ⟨E, clock, seen, h1, rfl, h3, h4, h5, h6, h8⟩ := h
  have hk : mkeys (bare E) = E.map (·.1) := by simp [mkeys, bare]
  have hm : ∀ x ∈ ((E.map (ent mk)).toArray).toList, ∃ p ∈ E, x = ent mk p := fun x hx => by
    simp only [List.mem_map] at hx
    obtain ⟨p, hp, rfl⟩ := hx
    exact ⟨p, hp, rfl⟩
  have hold : ∀ x ∈ ((E.map (ent mk)).toArray).toList, x.born < clock := fun x hx => by
    obtain ⟨p, hp, rfl⟩ := hm x hx
    exact h1.2.2.2 p hp
  rcases run_next_at (P := P) w ty r b clock clock seen _ clock h3 h1.1 hold (Nat.le_refl _) with ⟨g1, g2⟩ | ⟨e, he, w1, hw1, g2⟩
  · left
    refine ⟨fun k hkk => ?_, g2⟩
    rw [hk] at hkk
    obtain ⟨p, hp, rfl⟩ := List.mem_map.1 hkk
    have := all_seen _ seen g1 (ent mk p) (by simp; exact ⟨p.1, p.2.1, p.2.2, hp, rfl⟩)
    have h7 := h5 p hp
    rw [show (ent mk p).born = p.2.2 from rfl, h7] at this
    simpa using this
  · right
    obtain ⟨m1, m2⟩ := mem_left he
    obtain ⟨p, hp, rfl⟩ := hm e m1
    have hpd : p.1 ∉ done := fun hd => by
      have h7 := h5 p hp
      rw [show (ent mk p).born = p.2.2 from rfl, h7, decide_eq_true hd] at m2
      cases m2
    have hr1 : w1.heap[r]? = some (.mapIter (some b) clock seen clock) := by rcases hw1 with rfl | rfl <;> exact h3
    have hb1 : w1.heap[b]? = w.heap[b]? := by rcases hw1 with rfl | rfl <;> rfl
    have hrlt : r < w1.heap.size := (Array.getElem?_eq_some_iff.1 hr1).1
    have e1 : (setBlock w1 r (.mapIter (some b) clock (seen.push p.2.2) clock)).heap[r]? = some (.mapIter (some b) clock (seen.push p.2.2) clock) := by
      simp [setBlock, hrlt]
    have e2 : (setBlock w1 r (.mapIter (some b) clock (seen.push p.2.2) clock)).heap[b]? = w.heap[b]? := by
      simp only [setBlock]
      rw [Array.getElem?_setIfInBounds_ne (Ne.symm hne)]
      exact hb1
    refine ⟨p.1, p.2.1, _, by rw [hk]; exact List.mem_map.2 ⟨p, hp, rfl⟩, hpd, List.mem_map.2 ⟨p, hp, rfl⟩, g2, ?_, ?_, ?_⟩
    · refine ⟨E, clock, seen.push p.2.2, ⟨by rw [show (ent mk p).born = p.2.2 from rfl, e2]; exact h1.1, h1.2⟩, rfl, e1, ?_, ?_, ?_, by simp [h8]⟩
      · rw [List.nodup_append]
        refine ⟨h4, by simp, fun x hx y hy => ?_⟩
        simp at hy
        subst hy
        exact fun e => hpd (e ▸ hx)
      · intro q hq
        rw [contains_push, h5 q hq]
        by_cases e : q = p
        · subst e; simp
        · have n1 : q.1 ≠ p.1 := fun e' => e (by
            have := h1.2.1
            exact inj_of_nodup this hq hp e')
          have n2 : q.2.2 ≠ p.2.2 := fun e' => e (inj_of_nodup h1.2.2.1 hq hp e')
          simp [n1, n2]
      · intro k hkk
        rcases List.mem_append.1 hkk with hkk | hkk
        · exact h6 k hkk
        · simp at hkk; subst hkk; exact List.mem_map.2 ⟨p, hp, rfl⟩
    · have : Only [r] w w1 := by
        rcases hw1 with rfl | rfl
        · exact Only.refl _ _
        · exact (Only.refl _ _).drew
      exact this.trans (only_setBlock _)
    · intro w'' q1 q2
      refine run_entry_at w'' r b clock seen _ clock (ent mk p) (q2.trans e1) ((q1.trans e2).trans h1.1) (by simp; exact ⟨p.1, p.2.1, p.2.2, hp, rfl⟩) ?_
      have : (((E.map (ent mk)).toArray).toList.map (·.born)) = E.map (·.2.2) := by simp [ent, Function.comp_def]
      rw [this]
      exact h1.2.2.1
where
  inj_of_nodup {β γ : Type} {f : β → γ} {l : List β} (h : (l.map f).Nodup) {x y : β} (hx : x ∈ l) (hy : y ∈ l) (e : f x = f y) : x = y := by
    induction l with
    | nil => simp at hx
    | cons z l ih =>
      rw [List.map_cons, List.nodup_cons] at h
      rcases List.mem_cons.1 hx with e1 | hx1
      · rcases List.mem_cons.1 hy with e2 | hy1
        · rw [e1, e2]
        · exact absurd (List.mem_map.2 ⟨y, hy1, by rw [← e, e1]⟩) h.1
      · rcases List.mem_cons.1 hy with e2 | hy1
        · exact absurd (List.mem_map.2 ⟨x, hx1, by rw [e, e2]⟩) h.1
        · exact ih h.2 hx1 hy1
end
end
end Go.Proofs.YtmkbgdgfbmfbdaaDoor
