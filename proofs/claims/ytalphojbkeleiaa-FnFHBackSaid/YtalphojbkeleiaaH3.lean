/- DequeueMin: facts for its walk. -/
import Derived.Test.YtalphojbkeleiaaH2
import Derived.Deep.RegionHeld3
import Derived.Deep.DeepCutAuto
import Derived.Deep.CutRange
import Derived.Deep.CutBlock
import Derived.StillTailTactics
import Derived.LaidEqlPtr
import Derived.Deep.LoopGhost
import Derived.Maps.AppendAt
import Derived.OwnWalk
import Derived.Deep.DeepMust
namespace Go.Proofs.Ytalphojbkeleiaa
namespace FH
open Go.RowKit

theorem dl_comm (m : Mem) (x : Nat) : sPv (sNx m (m x).pv (m x).nx) (m x).nx (m x).pv = dl m x := by
  funext b
  unfold dl sPv sNx st
  by_cases h1 : b = (m x).pv <;> by_cases h2 : b = (m x).nx <;> by_cases h3 : (m x).pv = (m x).nx <;> simp_all
theorem clr_nil (m : Mem) : clr m [] = m := by funext b; simp [clr]
theorem clr_snoc {m : Mem} {l : List Nat} {i c : Nat} (h : l[i]? = some c) : sPa (clr m (l.take i)) c none = clr m (l.take (i + 1)) := by
  have e : l.take (i + 1) = l.take i ++ [c] := by rw [List.take_add_one, h]; simp
  funext b
  rw [e]
  unfold sPa st clr
  by_cases h1 : b = c
  · subst h1
    simp
    by_cases h2 : b ∈ l.take i <;> simp [h2]
  · simp [h1]
theorem Rg.nth {m : Mem} {l : List Nat} (h : Rg m l) {i c : Nat} (hc : l[i]? = some c) : (i + 1 < l.length → l[i + 1]? = some (m c).nx) ∧ (i + 1 = l.length → l[0]? = some (m c).nx) := by
  obtain ⟨hi, rfl⟩ := List.getElem?_eq_some_iff.1 hc
  have e : l = l.take i ++ l[i] :: l.drop (i + 1) := by
    rw [← List.drop_eq_getElem_cons hi, List.take_append_drop]
  have h' : Rg m (l.take i ++ l[i] :: l.drop (i + 1)) := by rw [← e]; exact h
  have hd : (l.drop (i + 1) ++ l.take i ++ [l[i]]).head? = some (m l[i]).nx := h'.rot.head
  constructor
  · intro h1
    rw [← hd]
    cases h2 : l.drop (i + 1) with
    | nil => have := congrArg List.length h2; simp at this; omega
    | cons d t =>
      have h3 : (l.drop (i + 1)).head? = l[i + 1]? := List.head?_drop
      rw [← h3, h2]
      rfl
  · intro h1
    rw [← hd]
    have h2 : l.drop (i + 1) = [] := List.drop_eq_nil_of_le (by omega)
    rw [h2]
    cases i with
    | zero => simp [List.getElem?_eq_getElem hi]
    | succ i =>
      cases l with
      | nil => simp at hi
      | cons a t => simp
theorem infoE : (Try.prog.info? 40).map (fun i => (i.zero, i.size, i.bytes)) = some (some (.pointer none), 1, 8) := by kernel_rfl
/-- What a row of entries holds. -/
def row (l : List (Option Nat)) : List Value := l.map optp
theorem optp_ptr (x : Option Nat) : ∃ z, optp x = .pointer z := by cases x <;> exact ⟨_, rfl⟩
theorem optp_one (x : Option Nat) : (optp x).oneCell' = true := by cases x <;> rfl
theorem optp_nil {x : Option Nat} (h : optp x = .pointer none) : x = none := by
  cases x with
  | none => rfl
  | some a => cases h
theorem out1_pos {m : Mem} {x : Nat} (h : (m x).nx = x) : out1 m x = m ∧ out1H m x = none := by unfold out1 out1H; rw [if_pos h, if_pos h]; exact ⟨rfl, rfl⟩
theorem out1_neg {m : Mem} {x : Nat} (h : (m x).nx ≠ x) : out1 m x = dl m x ∧ out1H m x = some (m x).nx := by unfold out1 out1H; rw [if_neg h, if_neg h]; exact ⟨rfl, rfl⟩
theorem infoEn : (Try.prog.info? 67).map (fun i => (i.zero.isSome, i.size, i.bytes)) = some (true, 7, 56) := by kernel_rfl
theorem eql_ptr {w : World} {A : List Nat} {m : Mem} (h : Ms w A m) {a b : Nat} (ha : a ∈ A) (hb : b ∈ A) : (binOp .eql 40 (.pointer (some ⟨a, 0, none⟩)) (.pointer (some ⟨b, 0, none⟩))).run Try.prog w = .ok (.bool (decide (a = b))) w := by
  obtain ⟨j, hj, hs⟩ : ∃ j, Try.prog.info? 67 = some j ∧ j.size = 7 := by
    have h := infoEn
    cases hi : Try.prog.info? 67 with
    | none => rw [hi] at h; cases h
    | some i => rw [hi] at h; simp at h; exact ⟨i, rfl, h.2.1⟩
  by_cases e : a = b
  · subst e
    rw [run_eql_ptr_same w _ Try.underlying40 hj]
    simp
  · rw [run_eql_ptr_other w (a := ⟨a, 0, none⟩) (b := ⟨b, 0, none⟩) Try.underlying40 hj (by rw [hs]; decide) (fun e2 => e (Addr.mk.inj e2).1) (h.blk a ha) (h.blk b hb), decide_eq_false e]
theorem neq_ptr {w : World} {A : List Nat} {m : Mem} (h : Ms w A m) {a b : Nat} (ha : a ∈ A) (hb : b ∈ A) : (binOp .neq 40 (.pointer (some ⟨a, 0, none⟩)) (.pointer (some ⟨b, 0, none⟩))).run Try.prog w = .ok (.bool (!decide (a = b))) w := by
  have h1 := eql_ptr h ha hb
  simp only [binOp] at h1 ⊢
  simp at h1 ⊢
  cases h2 : Sem.run Try.prog (Op.equal 40 (.pointer (some ⟨a, 0, none⟩)) (.pointer (some ⟨b, 0, none⟩))) w with
  | ok v w' => rw [h2] at h1; simp [Result.andThen] at h1 ⊢; obtain ⟨rfl, rfl⟩ := h1; simp
  | _ => rw [h2] at h1; simp [Result.andThen] at h1
def Deq (w : World) (q : Nat) (A : List Nat) (m : Mem) (L : List Nat) (e : Ending) (w' : World) : Prop :=
  ∃ x m' hm', e = .returned (.tuple #[.pointer (some ⟨x, 0, none⟩), .nilIface]) ∧ x ∈ L ∧ (∀ b ∈ L, (m x).pr ≤ (m b).pr) ∧ Fh w' q A m' hm' (L.erase x) ∧ (∀ y, (m' y).pr = (m y).pr) ∧ (∀ y, (m' y).mkd = true → (m y).mkd = true) ∧ Only (q :: A) w w'
theorem ownB {w : World} {base : Nat} {e : TypeId} {size : Nat} {v : Value} {n : Nat} {xs : List Value} (h : w.ownsRow base e size v n xs) {k : Nat} (hk : v.ownBlock = some k) : base ≤ k ∧ k < w.heap.size := by
  obtain ⟨_, h | ⟨g, cap, cur, hv, hge, hh, _⟩⟩ := h
  · rw [h.1] at hk; simp [Value.ownBlock] at hk
  · rw [hv] at hk
    simp [Value.ownBlock] at hk
    subst hk
    exact ⟨hge, Blk.lt (show Blk w g cur e from hh)⟩
theorem own_keep {w w' : World} {base : Nat} {e : TypeId} {size : Nat} {v : Value} {n : Nat} {xs : List Value} (h : w.ownsRow base e size v n xs) (hb : ∀ k, v.ownBlock = some k → base ≤ k → k < w.heap.size → w'.heap[k]? = w.heap[k]?) : w'.ownsRow base e size v n xs := by
  obtain ⟨h1, h | ⟨g, cap, cur, hv, hge, hh, r⟩⟩ := h
  · exact ⟨h1, Or.inl h⟩
  · have hk : v.ownBlock = some g := by rw [hv]; rfl
    exact ⟨h1, Or.inr ⟨g, cap, cur, hv, hge, (hb g hk hge (Blk.lt (show Blk w g cur e from hh))).trans hh, r⟩⟩
/-- Where a consolidation stands in memory. -/
structure St (w1 : World) (B q : Nat) (A : List Nat) (n h : Nat) (mm : Mem) (v : Value) (ts : List (Option Nat)) (g : Nat) (vs : Array Value) (wr : World) : Prop where
  ms : Ms wr A mm
  blk : Blk wr q #[.pointer (some ⟨h, 0, none⟩), .int .u64 (n : Int)] 43
  row : wr.ownsRow B 40 1 v ts.length (row ts)
  tov : Blk wr g vs 40
  sep : v.ownBlock ≠ some g
  frame : Only (q :: A) w1 wr
  low : ∀ a ∈ q :: A, a < B
  gB : B ≤ g
  wB : w1.heap.size ≤ B
  qA : q ∉ A
  ws : B ≤ wr.heap.size
section
variable {w1 wr w' : World} {B q n h g : Nat} {A : List Nat} {mm mm' : Mem} {v : Value} {ts : List (Option Nat)} {vs : Array Value}
theorem St.write (s : St w1 B q A n h mm v ts g vs wr) {p : Addr} (hp : p.block ∈ A) {u : Value} (hm : Ms (wr.setCell p u) A mm') : St w1 B q A n h mm' v ts g vs (wr.setCell p u) := by
  have hlt := s.low p.block (List.mem_cons_of_mem _ hp)
  refine ⟨hm, s.blk.other (fun e => s.qA (e ▸ hp)) _, own_keep s.row (fun k _ h1 _ => Below.heap_setCell _ _ _ _ (by omega)), s.tov.other (by have := s.gB; omega) _, s.sep, s.frame.setCell (Or.inl (List.mem_cons_of_mem _ hp)) _, s.low, s.gB, s.wB, s.qA, by have := s.ws; simpa [World.setCell] using this⟩
theorem St.min (s : St w1 B q A n h mm v ts g vs wr) (h' : Nat) : St w1 B q A n h' mm v ts g vs (wr.setCell ⟨q, 0, none⟩ (.pointer (some ⟨h', 0, none⟩))) := by
  have hlt := s.low q (by simp)
  refine ⟨s.ms.other s.qA _, s.blk.set 0 _, own_keep s.row (fun k _ h1 _ => Below.heap_setCell _ _ _ _ (by dsimp only; omega)), s.tov.other (by have := s.gB; dsimp only; omega) _, s.sep, s.frame.setCell (Or.inl (by simp)) _, s.low, s.gB, s.wB, s.qA, by have := s.ws; simpa [World.setCell] using this⟩
theorem St.call (s : St w1 B q A n h mm v ts g vs wr) (ho : Only A wr w') (hm : Ms w' A mm') : St w1 B q A n h mm' v ts g vs w' := by
  have hlow : ∀ k, B ≤ k → k ∉ A := fun k hk e => by have := s.low k (List.mem_cons_of_mem _ e); omega
  exact ⟨hm, s.blk.only ho s.qA, own_keep s.row (fun k _ h1 h2 => ho.block k h2 (hlow k h1)), s.tov.only ho (hlow g s.gB), s.sep, s.frame.trans (ho.mono (fun k _ hk => List.mem_cons_of_mem _ hk)), s.low, s.gB, s.wB, s.qA, Nat.le_trans s.ws ho.size⟩
theorem St.drew (s : St w1 B q A n h mm v ts g vs wr) : St w1 B q A n h mm v ts g vs wr.drew := ⟨s.ms.drew, s.blk, s.row, s.tov, s.sep, s.frame.drew, s.low, s.gB, s.wB, s.qA, s.ws⟩
theorem St.put (s : St w1 B q A n h mm v ts g vs wr) {g7 c7 i : Nat} (hv : v = .slice (some ⟨g7, 0, none⟩) ts.length c7) (hi : i < ts.length) (u : Option Nat) : St w1 B q A n h mm v (ts.set i u) g vs (wr.setCell ⟨g7, i, none⟩ (optp u)) := by
  have hg := ownB s.row (k := g7) (by rw [hv]; rfl)
  have hne : g7 ≠ g := fun e => s.sep (by rw [hv, ← e]; rfl)
  have hnA : ∀ a ∈ q :: A, a ≠ g7 := fun a ha e => by have := s.low a ha; omega
  refine ⟨s.ms.other (fun e => hnA g7 (List.mem_cons_of_mem _ e) rfl) _, s.blk.other (fun e => hnA q (by simp) e.symm) _, ?_, s.tov.other hne _, s.sep, s.frame.setCell (Or.inr (by have := s.wB; dsimp only; omega)) _, s.low, s.gB, s.wB, s.qA, by have := s.ws; simpa [World.setCell] using this⟩
  have h1 := s.row
  rw [hv] at h1 ⊢
  have h2 := own_set (i := i) (u := optp u) h1 hi
  rw [List.length_set, FH.row, List.map_set]
  exact h2
theorem St.app (s : St w1 B q A n h mm v ts g vs wr) {o : Obj} {v' : Value} {u : Option Nat} (hown : w'.ownsRow B 40 1 v' (ts.length + 1) (FH.row ts ++ [optp u])) (hgr : (wr.alloc o).grownBy w' v.ownBlock) (hv : v'.ownBlock = v.ownBlock ∨ v'.ownBlock = some (wr.alloc o).heap.size) : St w1 B q A n h mm v' (ts ++ [u]) g vs w' := by
  have hsz : wr.heap.size ≤ w'.heap.size := by have := hgr.size; simp at this; omega
  have hkeep : ∀ k, k < wr.heap.size → v.ownBlock ≠ some k → w'.heap[k]? = wr.heap[k]? := fun k h1 h2 => (hgr.block k (by simp; omega) (fun e => h2 e.symm)).trans (Below.heap_alloc _ _ _ h1)
  have hA : ∀ a ∈ q :: A, v.ownBlock ≠ some a := fun a ha e => by have h1 := ownB s.row e; have h2 := s.low a ha; omega
  refine ⟨{ s.ms with blk := fun a ha => (hkeep a (s.ms.lt ha) (hA a (List.mem_cons_of_mem _ ha))).trans (s.ms.blk a ha) }, (hkeep q s.blk.lt (hA q (by simp))).trans s.blk, ?_, (hkeep g s.tov.lt s.sep).trans s.tov, ?_, ?_, s.low, s.gB, s.wB, s.qA, by have := s.ws; omega⟩
  · rw [List.length_append, FH.row, List.map_append]
    exact hown
  · intro e
    rcases hv with h1 | h1
    · exact s.sep (by rw [← h1]; exact e)
    · rw [h1] at e
      simp at e
      have := s.tov.lt; omega
  · exact ((s.frame.alloc o).grown hgr (fun k hk => Or.inr (by have h1 := ownB s.row hk; have := s.wB; omega)))
end
/-- The first ones of a list, as a row holds them. -/
def tk (us : List Nat) (k : Nat) : List Value := (us.take k).map ptr
theorem tk_get {us : List Nat} {k i d : Nat} (h : us[i]? = some d) (hi : i < k) : (tk us k)[i]? = some (ptr d) := by rw [tk, List.getElem?_map, List.getElem?_take, if_pos hi, h]; rfl
/-- The ring being gathered in a row of its own. -/
structure Vi (w1 : World) (B q : Nat) (A : List Nat) (n h : Nat) (mm : Mem) (cur : List Value) (us : List Nat) (k : Nat) (v : Value) (wr : World) : Prop where
  ms : Ms wr A mm
  blk : Blk wr q #[.pointer (some ⟨h, 0, none⟩), .int .u64 (n : Int)] 43
  old : Blk wr B cur.toArray 40
  row : wr.ownsRow (B + 1) 40 1 v k (tk us k)
  frame : Only (q :: A) w1 wr
  ws : B + 1 ≤ wr.heap.size
  low : ∀ a ∈ q :: A, a < B
  wB : w1.heap.size ≤ B
theorem Vi.app {w1 wr w' : World} {B q n h : Nat} {A : List Nat} {mm : Mem} {cur : List Value} {us : List Nat} {k d : Nat} {v v' : Value} {o : Obj} (s : Vi w1 B q A n h mm cur us k v wr) (hd : us[k]? = some d)
    (hown : w'.ownsRow (B + 1) 40 1 v' (k + 1) (tk us k ++ [ptr d])) (hgr : (wr.alloc o).grownBy w' v.ownBlock) : Vi w1 B q A n h mm cur us (k + 1) v' w' := by
  have hsz : wr.heap.size ≤ w'.heap.size := by have := hgr.size; simp at this; omega
  have hkeep : ∀ k, k < wr.heap.size → k ≤ B → w'.heap[k]? = wr.heap[k]? := fun k h1 h2 => (hgr.block k (by simp; omega) (fun e => by have := ownB s.row e.symm; omega)).trans (Below.heap_alloc _ _ _ h1)
  have hA : ∀ a ∈ q :: A, a ≤ B := fun a ha => Nat.le_of_lt (s.low a ha)
  refine ⟨{ s.ms with blk := fun a ha => (hkeep a (s.ms.lt ha) (hA a (List.mem_cons_of_mem _ ha))).trans (s.ms.blk a ha) }, (hkeep q s.blk.lt (hA q (by simp))).trans s.blk, (hkeep B s.old.lt (Nat.le_refl _)).trans s.old, ?_, ?_, by have := s.ws; omega, s.low, s.wB⟩
  · have e : us.take (k + 1) = us.take k ++ [d] := by rw [List.take_add_one, hd]; simp
    rw [tk, e, List.map_append]
    exact hown
  · exact ((s.frame.alloc o).grown hgr (fun k hk => Or.inr (by have h1 := ownB s.row hk; have := s.wB; omega)))
theorem Wf.apart {m : Mem} {R : List Nat} {K : Nat → List Nat} {L : List Nat} {rk : Nat → Nat} (h : Wf m R K L rk) {n x : Nat} (hn : n ∈ R) (hx : x ∈ R) (hne : n ≠ x) : (m x).nx ≠ x ∧ (m x).pv ≠ x := by
  have hR2 : R ≠ [x] := by rintro rfl; simp at hn; exact hne hn
  have hnx : (m x).nx ≠ x := fun e => hR2 ((h.rring.single hx h.rnd).1 e)
  exact ⟨hnx, h.rring.single' hx h.rnd hnx⟩
theorem Wf.kid_next {m : Mem} {R : List Nat} {K : Nat → List Nat} {L : List Nat} {rk : Nat → Nat} (h : Wf m R K L rk) {n x c : Nat} (hn : n ∈ R) (hx : x ∈ R) (hne : n ≠ x) (hc : (m n).ch = some c) :
    c ≠ x ∧ (sNx (sPv (dl m x) x x) x x c).nx ≠ (sNx (sPv (dl m x) x x) x x x).nx := by
  have hnL := (h.rL n hn).1
  have hk : c ∈ K n := by
    have h1 := h.kch n hnL
    rw [hc] at h1
    cases hk : K n with
    | nil => rw [hk] at h1; cases h1
    | cons d t => rw [hk] at h1; simp at h1; simp [h1]
  have hcR := h.root_kid hnL hk
  have hcx : c ≠ x := fun e => hcR (e ▸ hx)
  refine ⟨hcx, ?_⟩
  have h2 := (h.kring n hnL).next_mem hk
  simp [hcx]
  rw [(dl_out h.rring hx hcR).1]
  exact fun e => h.root_kid hnL h2 (e ▸ hx)
/-- How many places are taken. -/
def cnt (ts : List (Option Nat)) : Nat := ts.countP Option.isSome
theorem cnt_put {ts : List (Option Nat)} {d o : Nat} (h : ts[d]? = some (some o)) : cnt (ts.set d none) + 1 = cnt ts := by
  unfold cnt
  obtain ⟨hd, he⟩ := List.getElem?_eq_some_iff.1 h
  have e : ts = ts.take d ++ some o :: ts.drop (d + 1) := by
    rw [← he, ← List.drop_eq_getElem_cons hd, List.take_append_drop]
  have e2 : ts.set d none = ts.take d ++ none :: ts.drop (d + 1) := List.set_eq_take_append_cons_drop ▸ by rw [if_pos hd]
  rw [e2]
  conv => rhs; rw [e]
  simp [List.countP_append, List.countP_cons]
  omega
theorem cnt_grow (ts : List (Option Nat)) : cnt (ts ++ [none]) = cnt ts := by unfold cnt; simp [List.countP_append]
/-- Where the visiting of the roots stands: with a root in hand, or none. -/
def Lp (w1 : World) (B q : Nat) (A : List Nat) (n : Nat) (L : List Nat) (m0 : Mem) (g : Nat) (vs : Array Value) (h : Nat) (rest : List Nat) (c : Option Nat) (mm : Mem) (ts : List (Option Nat)) (v : Value) (wr : World) : Prop :=
  (∃ R K rk, Cn mm m0 L h rest c ts R K rk) ∧ St w1 B q A n h mm v ts g vs wr ∧ ts.length ≤ 1001 ∧ (∀ y ∈ L, y ∈ A) ∧ L.length ≤ 1000 ∧ h ∈ A
theorem St.drewN {w1 wr : World} {B q n h g : Nat} {A : List Nat} {mm : Mem} {v : Value} {ts : List (Option Nat)} {vs : Array Value} (s : St w1 B q A n h mm v ts g vs wr) (i : Nat) : St w1 B q A n h mm v ts g vs (wr.drewN i) :=
  ⟨{ s.ms with blk := s.ms.blk }, s.blk, s.row, s.tov, s.sep, s.frame.drewN i, s.low, s.gB, s.wB, s.qA, s.ws⟩
theorem Lp.place {w1 w' : World} {B q n h h' g c d : Nat} {A L : List Nat} {m0 mm : Mem} {v : Value} {ts : List (Option Nat)} {vs : Array Value} {rest R : List Nat} {K : Nat → List Nat} {rk : Nat → Nat}
    (h1 : Cn mm m0 L h rest (some c) ts R K rk) (hs : St w1 B q A n h' mm v (ts.set d (some c)) g vs w') (hd : d = (mm c).deg) (hlt : d < ts.length) (hh : h' = if (mm c).pr ≤ (mm h).pr then c else h)
    (h2 : ts.length ≤ 1001) (h3 : ∀ y ∈ L, y ∈ A) (h4 : L.length ≤ 1000) (h5 : h ∈ A) (h6 : c ∈ A) : Lp w1 B q A n L m0 g vs h' rest none mm (ts.set d (some c)) v w' := by
  subst hh hd
  exact ⟨⟨R, K, rk, h1.place hlt⟩, hs, by rw [List.length_set]; exact h2, h3, h4, by split <;> assumption⟩
theorem lk_eq {m m5 : Mem} {n x dn : Nat} (h5 : m5 = sNx (sPv (dl m x) x x) x x) (hd : dn = (m n).deg) : sDeg (sMkd (sPa (sCh (mgO m5 (m n).ch (some x)) n (mgOH m5 (m n).ch (some x))) x (some n)) x false) n (dn + 1) = lk m n x := by subst h5 hd; rfl
theorem mgOH_mem_of {A : List Nat} {m : Mem} {a : Option Nat} {b : Nat} (ha : ∀ c, a = some c → c ∈ A) (hb : b ∈ A) : ∀ c, mgOH m a (some b) = some c → c ∈ A := by
  intro c e
  cases a with
  | none => simp [mgOH] at e; subst e; exact hb
  | some d =>
    simp [mgOH, mgH] at e
    subst e
    split
    · exact ha d rfl
    · exact hb
theorem St.link {w1 wr : World} {B q n h g a x dn : Nat} {A : List Nat} {m m5 : Mem} {v : Value} {ts : List (Option Nat)} {vs : Array Value} {zh : Option Addr} (s : St w1 B q A n h (mgO m5 (m a).ch (some x)) v ts g vs wr)
    (h5 : m5 = sNx (sPv (dl m x) x x) x x) (hd : dn = (m a).deg) (hz : optp (mgOH m5 (m a).ch (some x)) = .pointer zh) (ha : a ∈ A) (hx : x ∈ A) (hc : ∀ c, (m a).ch = some c → c ∈ A) :
    St w1 B q A n h (lk m a x) v ts g vs ((((wr.setCell ⟨a, 4, none⟩ (.pointer zh)).setCell ⟨x, 5, none⟩ (.pointer (some ⟨a, 0, none⟩))).setCell ⟨x, 1, none⟩ (.bool false)).setCell ⟨a, 0, none⟩ (.int .i64 ((dn : Int) + 1))) := by
  have e : ((dn + 1 : Nat) : Int) = (dn : Int) + 1 := by simp
  rw [← lk_eq h5 hd, ← hz, ← e]
  have h1 := s.write (p := ⟨a, 4, none⟩) ha (s.ms.sCh ha (v := mgOH m5 (m a).ch (some x)) (mgOH_mem_of hc hx))
  have h2 := h1.write (p := ⟨x, 5, none⟩) hx (h1.ms.sPa (v := some a) hx (fun c e => by cases e; exact ha))
  have h3 := h2.write (p := ⟨x, 1, none⟩) hx (h2.ms.sMkd hx false)
  exact h3.write (p := ⟨a, 0, none⟩) ha (h3.ms.sDeg ha (dn + 1))
end FH
end Go.Proofs.Ytalphojbkeleiaa
