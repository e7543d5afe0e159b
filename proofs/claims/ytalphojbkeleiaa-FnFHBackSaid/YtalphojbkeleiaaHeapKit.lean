/- Blocks of memory, what a call may turn of them, and rows of numbers: small facts for walks. -/
import Derived.WalkKit
import Derived.Lib.Hide
import Derived.Deep.QuietTactic
import Derived.BigQuiet
import Derived.Laws.IdiomCopy
namespace Go.Proofs.Ytalphojbkeleiaa
open Go.RowKit

/-- Of the blocks that are there only those of M may have turned. -/
structure Only (M : List Nat) (w w' : World) : Prop where
  os : w'.os = w.os
  tape : w'.tape = w.tape
  output : w'.output = w.output
  size : w.heap.size ≤ w'.heap.size
  block : ∀ k, k < w.heap.size → k ∉ M → w'.heap[k]? = w.heap[k]?

theorem Only.refl (M : List Nat) (w : World) : Only M w w := ⟨rfl, rfl, rfl, Nat.le_refl _, fun _ _ _ => rfl⟩
theorem Only.trans {M : List Nat} {a b c : World} (h : Only M a b) (k : Only M b c) : Only M a c :=
  ⟨k.os.trans h.os, k.tape.trans h.tape, k.output.trans h.output, Nat.le_trans h.size k.size,
    fun i hi hm => (k.block i (Nat.lt_of_lt_of_le hi h.size) hm).trans (h.block i hi hm)⟩
theorem Only.mono {M M' : List Nat} {w w' : World} (h : Only M w w') (hs : ∀ k, k < w.heap.size → k ∈ M → k ∈ M') : Only M' w w' :=
  ⟨h.os, h.tape, h.output, h.size, fun k hk hm => h.block k hk (fun hx => hm (hs k hk hx))⟩
theorem Only.drewN {M : List Nat} {a w : World} (h : Only M a w) (n : Nat) : Only M a (w.drewN n) := ⟨h.os, h.tape, h.output, h.size, h.block⟩
theorem Only.drew {M : List Nat} {a w : World} (h : Only M a w) : Only M a w.drew := ⟨h.os, h.tape, h.output, h.size, h.block⟩
theorem Only.alloc {M : List Nat} {a w : World} (h : Only M a w) (o : Obj) : Only M a (w.alloc o) :=
  h.trans ⟨rfl, rfl, rfl, by simp, fun k hk _ => Below.heap_alloc _ _ _ hk⟩
theorem Only.setCell {M : List Nat} {a w : World} (h : Only M a w) {p : Addr} (hp : p.block ∈ M ∨ a.heap.size ≤ p.block) (u : Value) : Only M a (w.setCell p u) :=
  ⟨h.os, h.tape, h.output, by simp [World.setCell]; exact h.size, fun k hk hm => (Below.heap_setCell _ _ _ _ (by
    rintro rfl
    rcases hp with hp | hp
    · exact hm hp
    · omega)).trans (h.block k hk hm)⟩
theorem Only.of_below {M : List Nat} {w w' : World} (h : Below w.heap.size w w') : Only M w w' := ⟨h.os, h.tape, h.output, h.size, fun k hk _ => h.block k hk⟩
theorem Only.below {M : List Nat} {B : Nat} {w w' : World} (h : Only M w w') (hB : B ≤ w.heap.size) (hm : ∀ k ∈ M, B ≤ k) : Below B w w' :=
  ⟨h.os, h.tape, h.output, h.size, fun k hk => h.block k (by omega) (fun hx => by have := hm k hx; omega)⟩
theorem Only.nil {w w' : World} (h : Only [] w w') : Below w.heap.size w w' := h.below (Nat.le_refl _) (by simp)
/-- New blocks may be struck off the list. -/
theorem Only.new {M : List Nat} {B : Nat} {a b c : World} (h : Only M a b) (k : Only (B :: M) b c) (hB : a.heap.size ≤ B) : Only M a c :=
  ⟨k.os.trans h.os, k.tape.trans h.tape, k.output.trans h.output, Nat.le_trans h.size k.size,
    fun i hi hm => (k.block i (Nat.lt_of_lt_of_le hi h.size) (by simp only [List.mem_cons, not_or]; exact ⟨by omega, hm⟩)).trans (h.block i hi hm)⟩
theorem Only.grown {M : List Nat} {a w w' : World} {row : Option Nat} (h : Only M a w) (hg : w.grownBy w' row) (hr : ∀ k, row = some k → k ∈ M ∨ a.heap.size ≤ k) : Only M a w' :=
  ⟨hg.os.trans h.os, hg.tape.trans h.tape, hg.output.trans h.output, Nat.le_trans h.size hg.size,
    fun k hk hm => (hg.block k (Nat.lt_of_lt_of_le hk h.size) (fun e => by
      rcases hr k e.symm with h1 | h1
      · exact hm h1
      · omega)).trans (h.block k hk hm)⟩

/-- A block of cells, all of it. -/
def Blk (w : World) (b : Nat) (vs : Array Value) (T : TypeId) : Prop := w.heap[b]? = some (.cells vs T (0, 0))

section
variable {w w' : World} {b : Nat} {vs : Array Value} {T : TypeId}
theorem Blk.lt (h : Blk w b vs T) : b < w.heap.size := by
  unfold Blk at h
  rcases Nat.lt_or_ge b w.heap.size with h' | h'
  · exact h'
  · rw [Array.getElem?_eq_none h'] at h; cases h
theorem Blk.cell (h : Blk w b vs T) {i : Nat} {v : Value} (hv : vs[i]? = some v) : w.cell? ⟨b, i, none⟩ = some v := by
  unfold Blk at h
  simp [World.cell?, h, hv]
theorem Blk.free (h : Blk w b vs T) (i : Nat) : w.frozen? ⟨b, i, none⟩ = false := by
  unfold Blk at h
  simp [World.frozen?, h]
theorem Blk.set (h : Blk w b vs T) (i : Nat) (v : Value) : Blk (w.setCell ⟨b, i, none⟩ v) b (vs.setIfInBounds i v) T := by
  unfold Blk at *
  simp [World.setCell, Array.getElem?_modify, h]
theorem Blk.other (h : Blk w b vs T) {a : Addr} (ha : a.block ≠ b) (v : Value) : Blk (w.setCell a v) b vs T := by
  unfold Blk at *
  rw [Below.heap_setCell _ _ _ _ (fun e => ha e.symm)]; exact h
theorem Blk.alloc (h : Blk w b vs T) (o : Obj) : Blk (w.alloc o) b vs T := by
  have := h.lt
  unfold Blk at *
  rw [Below.heap_alloc _ _ _ this]; exact h
theorem Blk.drewN (h : Blk w b vs T) (n : Nat) : Blk (w.drewN n) b vs T := h
theorem Blk.drew (h : Blk w b vs T) : Blk w.drew b vs T := h
theorem Blk.new (w : World) (vs : Array Value) (T : TypeId) : Blk (w.alloc (.cells vs T)) w.heap.size vs T := by
  show (w.heap.push _)[w.heap.size]? = _
  simp
theorem Blk.only {M : List Nat} (h : Blk w b vs T) (ho : Only M w w') (hb : b ∉ M) : Blk w' b vs T := (ho.block b h.lt hb).trans h
theorem Blk.below {B : Nat} (h : Blk w b vs T) (ho : Below B w w') (hb : b < B) : Blk w' b vs T := (ho.block b hb).trans h
end

/-- A row of numbers: its cells hold what f tells. -/
def Wd (K : IntKind) (w : World) (b c : Nat) (f : Nat → Nat) : Prop :=
  ∃ (vs : Array Value) (T : TypeId), Blk w b vs T ∧ vs.size = c ∧ ∀ i, i < c → vs[i]? = some (.int K (f i))
def upd (f : Nat → Nat) (k v : Nat) : Nat → Nat := fun i => if i = k then v else f i
theorem upd_same (f : Nat → Nat) (k v : Nat) : upd f k v k = v := by simp [upd]
theorem upd_other (f : Nat → Nat) (k v i : Nat) (h : i ≠ k) : upd f k v i = f i := by simp [upd, h]
section
variable {K : IntKind} {w w' : World} {b c : Nat} {f : Nat → Nat}
theorem Wd.lt (h : Wd K w b c f) : b < w.heap.size := by obtain ⟨_, _, h, _⟩ := h; exact h.lt
theorem Wd.cell (h : Wd K w b c f) {i : Nat} (hi : i < c) : w.cell? ⟨b, i, none⟩ = some (.int K (f i)) := by
  obtain ⟨_, _, h, _, h2⟩ := h; exact h.cell (h2 i hi)
theorem Wd.free (h : Wd K w b c f) (i : Nat) : w.frozen? ⟨b, i, none⟩ = false := by obtain ⟨_, _, h, _⟩ := h; exact h.free i
theorem Wd.set (h : Wd K w b c f) (i v : Nat) : Wd K (w.setCell ⟨b, i, none⟩ (.int K v)) b c (upd f i v) := by
  obtain ⟨vs, T, h, h1, h2⟩ := h
  refine ⟨_, T, h.set i _, by simpa using h1, fun j hj => ?_⟩
  rw [Array.getElem?_setIfInBounds]
  by_cases e : i = j
  · subst e; simp [upd, h1, hj]
  · rw [if_neg e, h2 j hj, upd_other _ _ _ _ (fun e' => e e'.symm)]
theorem Wd.other (h : Wd K w b c f) {a : Addr} (ha : a.block ≠ b) (v : Value) : Wd K (w.setCell a v) b c f := by
  obtain ⟨vs, T, h, r⟩ := h; exact ⟨vs, T, h.other ha v, r⟩
theorem Wd.alloc (h : Wd K w b c f) (o : Obj) : Wd K (w.alloc o) b c f := by obtain ⟨vs, T, h, r⟩ := h; exact ⟨vs, T, h.alloc o, r⟩
theorem Wd.drewN (h : Wd K w b c f) (n : Nat) : Wd K (w.drewN n) b c f := h
theorem Wd.drew (h : Wd K w b c f) : Wd K w.drew b c f := h
theorem Wd.only {M : List Nat} (h : Wd K w b c f) (ho : Only M w w') (hb : b ∉ M) : Wd K w' b c f := by obtain ⟨vs, T, h, r⟩ := h; exact ⟨vs, T, h.only ho hb, r⟩
theorem Wd.below {B : Nat} (h : Wd K w b c f) (ho : Below B w w') (hb : b < B) : Wd K w' b c f := by obtain ⟨vs, T, h, r⟩ := h; exact ⟨vs, T, h.below ho hb, r⟩
theorem Wd.congr {g : Nat → Nat} (h : Wd K w b c f) (hg : ∀ i, i < c → g i = f i) : Wd K w b c g := by
  obtain ⟨vs, T, h, h1, h2⟩ := h; exact ⟨vs, T, h, h1, fun i hi => by rw [hg i hi]; exact h2 i hi⟩
end

/-- Some cells written, one behind the other. -/
def put (f : Nat → Nat) (o : Nat) (gs : List Nat) : Nat → Nat := fun i => if o ≤ i ∧ i < o + gs.length then gs.getD (i - o) 0 else f i
theorem Wd.setCells {K : IntKind} {b c : Nat} : ∀ (gs : List Nat) (o : Nat) {w : World} {f : Nat → Nat}, Wd K w b c f → Wd K (w.setCells b o (gs.map fun n : Nat => Value.int K (n : Int))) b c (put f o gs)
  | [], o, w, f, h => h.congr fun i _ => by unfold put; simp; intro h1 h2; omega
  | g :: gs, o, w, f, h => by
    have := Wd.setCells gs (o + 1) (h.set o g)
    refine Wd.congr this fun i _ => ?_
    unfold put upd
    by_cases e : i = o
    · subst e; simp; omega
    · by_cases h1 : o + 1 ≤ i ∧ i < o + 1 + gs.length
      · rw [if_pos h1, if_pos (by simp; omega), show i - o = (i - (o + 1)) + 1 by omega]; rfl
      · rw [if_neg h1, if_neg (by simp; omega), if_neg e]
theorem Only.setCells {M : List Nat} {a : World} {b : Nat} (hp : b ∈ M ∨ a.heap.size ≤ b) : ∀ (cs : List Value) (o : Nat) {w : World}, Only M a w → Only M a (w.setCells b o cs)
  | [], _, _, h => h
  | v :: r, o, _, h => Only.setCells hp r (o + 1) (h.setCell hp v)
theorem Blk.setCells {b b' : Nat} {vs : Array Value} {T : TypeId} (hb : b ≠ b') : ∀ (cs : List Value) (o : Nat) {w : World}, Blk w b' vs T → Blk (w.setCells b o cs) b' vs T
  | [], _, _, h => h
  | v :: r, o, _, h => Blk.setCells hb r (o + 1) (h.other hb v)
theorem Wd.setCells_other {K : IntKind} {w : World} {b b' c : Nat} {f : Nat → Nat} (hb : b ≠ b') (cs : List Value) (o : Nat) (h : Wd K w b' c f) : Wd K (w.setCells b o cs) b' c f := by
  obtain ⟨vs, T, h, r⟩ := h; exact ⟨vs, T, Blk.setCells hb cs o h, r⟩

/-- copy of numbers from one row into another one (or the same). -/
theorem run_copy_wd {P : Program} {K : IntKind} {w : World} {b c b' c' : Nat} {f f' : Nat → Nat} (dT ty elem : TypeId) (hu : P.underlying dT = some (.slice elem)) (hs : (P.info? elem).map (·.size) = some 1)
    (hd : Wd K w b c f) (hsrc : Wd K w b' c' f') (o o' dLen dCap sLen sCap m : Nat) (hm : m = Nat.min sLen dLen) (h1 : o + m ≤ c) (h2 : o' + m ≤ c') :
    (Builtin.copy_ #[dT, dT] ty #[.slice (some ⟨b, o, none⟩) dLen dCap, .slice (some ⟨b', o', none⟩) sLen sCap]).run P w =
      .ok (.int .i64 (m : Int)) (w.setCells b o (((List.range m).map fun j => f' (o' + j)).map fun n : Nat => Value.int K (n : Int))) := by
  have h := run_copy_cells (P := P) w dT dT ty elem b o dLen dCap ⟨b', o', none⟩ sLen sCap (((List.range m).map fun j => f' (o' + j)).map fun n : Nat => Value.int K (n : Int)) hu hs (by simpa using hm)
    (fun j v hj => by
      simp only [List.map_map, List.getElem?_map, List.getElem?_eq_some_iff, List.length_range, Option.map_eq_some_iff] at hj
      obtain ⟨x, ⟨hx, rfl⟩, rfl⟩ := hj
      simp only [List.getElem_range, Function.comp]
      rw [show ((⟨b', o', none⟩ : Addr).add j) = ⟨b', o' + j, none⟩ by simp [Addr.add]]
      exact hsrc.cell (i := o' + j) (Nat.lt_of_lt_of_le (Nat.add_lt_add_left hx _) h2))
    (fun j hj => by rw [hd.cell (show o + j < c by simp at hj; omega)]; rfl)
    (fun j hj => hd.free _)
    (fun v hv => by simp at hv; obtain ⟨_, _, rfl⟩ := hv; rfl)
  rw [h]
  simp [goInt]

/-- An append onto a row of the call's own turns nothing below these rows. -/
theorem own_grown {w w' : World} {base : Nat} {e : TypeId} {size : Nat} {v : Value} {n : Nat} {xs : List Value} {o : Obj} (hown : w.ownsRow base e size v n xs)
    (hg : (w.alloc o).grownBy w' v.ownBlock) (hb : base ≤ w.heap.size) : Below base w w' := by
  refine ((Below.refl _ _).alloc hb o).trans ((Below.refl _ _).grown hg (by simp; omega) ?_)
  intro k hk
  obtain ⟨_, h | ⟨g, cap, cur, hv, hge, _⟩⟩ := hown
  · rw [h.1] at hk; simp [Value.ownBlock] at hk
  · rw [hv] at hk; simp [Value.ownBlock] at hk; omega

theorem own_shape {w : World} {base : Nat} {e : TypeId} {size : Nat} {v : Value} {n : Nat} {xs : List Value} (h : w.ownsRow base e size v n xs) : ∃ so cp, v = .slice so n cp := by
  obtain ⟨_, h | ⟨g, cap, cur, hv, _⟩⟩ := h
  · exact ⟨none, 0, by rw [h.1, h.2]⟩
  · exact ⟨_, _, hv⟩

theorem own_same {w w' : World} {base : Nat} {e : TypeId} {size : Nat} {v : Value} {n : Nat} {xs : List Value} (h : w.ownsRow base e size v n xs)
    (hs : ∀ k, base ≤ k → k < w.heap.size → w'.heap[k]? = w.heap[k]?) : w'.ownsRow base e size v n xs := by
  obtain ⟨h1, h | ⟨g, cap, cur, hv, hge, hh, r⟩⟩ := h
  · exact ⟨h1, Or.inl h⟩
  · have hlt : g < w.heap.size := Blk.lt (show Blk w g cur e from hh)
    exact ⟨h1, Or.inr ⟨g, cap, cur, hv, hge, (hs g hge hlt).trans hh, r⟩⟩

theorem retI {k : IntKind} {a b : Int} (h : a = b) : Ending.returned (.int k a) = .returned (.int k b) := by rw [h]
theorem retB {a b : Bool} (h : a = b) : Ending.returned (.bool a) = .returned (.bool b) := by rw [h]
end Go.Proofs.Ytalphojbkeleiaa
