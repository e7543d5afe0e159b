/- What a graph holds behind some edges; grError. -/
import Derived.Test.YtjijgkjmndpngaaDoorG2
import Derived.Stop.IfaceNil
namespace Go.Proofs.YtjijgkjmndpngaaDoor
open Go.RowKit

/-- The number of the error of an edge that comes behind others. -/
def errOf (es : List (Int × Int)) (e : Int × Int) : Int := if e.1 = e.2 then 2 else if (e.1, e.2) ∈ es ∨ (e.2, e.1) ∈ es then 3 else 0
def errsFrom : List (Int × Int) → List (Int × Int) → List Int
  | _, [] => []
  | s, e :: r => errOf s e :: errsFrom (s ++ [e]) r
def isV (es : List (Int × Int)) (v : Int) : Prop := ∃ e ∈ es, e.1 ≠ e.2 ∧ (v = e.1 ∨ v = e.2)
def adjE (es : List (Int × Int)) (v k : Int) : Prop := v ≠ k ∧ ((v, k) ∈ es ∨ (k, v) ∈ es)
def zeros (l : List Int) : Nat := (l.filter fun c => c = 0).length
theorem errsFrom_append (a b : List (Int × Int)) : ∀ s, errsFrom s (a ++ b) = errsFrom s a ++ errsFrom (s ++ a) b := by
  induction a with
  | nil => intro s; simp [errsFrom]
  | cons e a ih => intro s; simp only [List.cons_append, errsFrom, ih]; simp
theorem errsFrom_len (es : List (Int × Int)) : ∀ s, (errsFrom s es).length = es.length := by
  induction es with
  | nil => intro s; rfl
  | cons e a ih => intro s; simp [errsFrom, ih]
theorem zeros_append (a b : List Int) : zeros (a ++ b) = zeros a + zeros b := by simp [zeros]

structure GInv (es : List (Int × Int)) (G : Gr) (ne : Nat) : Prop where
  key : ∀ v, v ∈ gkeys G ↔ isV es v
  nb : ∀ v k, k ∈ nbrs G v ↔ adjE es v k
  cnt : ne = zeros (errsFrom [] es)
theorem gfind_append (G : Gr) (y : Int × Nat × List Int) (x : Int) : gfind (G ++ [y]) x = ((gfind G x).orElse fun _ => if x = y.1 then some y.2 else none) := by
  induction G with
  | nil => simp [gfind]
  | cons a G ih =>
    simp only [List.cons_append, gfind, ih]
    by_cases h : x = a.1 <;> simp [h]
theorem nbrs_add {G G' : Gr} {v : Int} (h : GAdd G v G') (x : Int) : nbrs G' x = nbrs G x := by
  rcases h with ⟨_, rfl⟩ | ⟨hv, b, rfl⟩
  · rfl
  · simp only [nbrs, gfind_append]
    cases hx : gfind G x with
    | some q => rfl
    | none =>
      by_cases e : x = v <;> simp [e]
theorem keys_add {G G' : Gr} {v : Int} (h : GAdd G v G') (x : Int) : x ∈ gkeys G' ↔ x ∈ gkeys G ∨ x = v := by
  rcases h with ⟨hv, rfl⟩ | ⟨hv, b, rfl⟩
  · constructor
    · exact Or.inl
    · rintro (h | rfl) <;> assumption
  · simp [gkeys]
theorem mem_minsert (l : List Int) (k x : Int) : x ∈ minsert l k ↔ x ∈ l ∨ x = k := by
  unfold minsert
  split
  · constructor
    · exact Or.inl
    · rintro (h | rfl) <;> assumption
  · simp
theorem nbrs_gput {G : Gr} {a k : Int} (ha : a ∈ gkeys G) (x y : Int) : y ∈ nbrs (gput G a k) x ↔ y ∈ nbrs G x ∨ (x = a ∧ y = k) := by
  obtain ⟨q, hq⟩ := gfind_some ha
  simp only [nbrs, gfind_gput]
  by_cases e : x = a
  · subst e
    rw [hq]
    simp [mem_minsert]
  · cases hx : gfind G x with
    | none => simp [e]
    | some r => simp [e]
theorem adjE_snoc (es : List (Int × Int)) (v u a b : Int) : adjE (es ++ [(v, u)]) a b ↔ adjE es a b ∨ (a ≠ b ∧ ((a = v ∧ b = u) ∨ (a = u ∧ b = v))) := by
  simp only [adjE, List.mem_append, List.mem_singleton, Prod.mk.injEq]
  constructor
  · rintro ⟨h1, (h2 | h2) | (h2 | h2)⟩
    · exact Or.inl ⟨h1, Or.inl h2⟩
    · exact Or.inr ⟨h1, Or.inl h2⟩
    · exact Or.inl ⟨h1, Or.inr h2⟩
    · exact Or.inr ⟨h1, Or.inr ⟨h2.2, h2.1⟩⟩
  · rintro (⟨h1, h2 | h2⟩ | ⟨h1, h2 | h2⟩)
    · exact ⟨h1, Or.inl (Or.inl h2)⟩
    · exact ⟨h1, Or.inr (Or.inl h2)⟩
    · exact ⟨h1, Or.inl (Or.inr h2)⟩
    · exact ⟨h1, Or.inr (Or.inr ⟨h2.2, h2.1⟩)⟩
theorem isV_snoc (es : List (Int × Int)) (v u x : Int) : isV (es ++ [(v, u)]) x ↔ isV es x ∨ (v ≠ u ∧ (x = v ∨ x = u)) := by
  simp only [isV, List.mem_append, List.mem_singleton]
  constructor
  · rintro ⟨e, h | rfl, h2⟩
    · exact Or.inl ⟨e, h, h2⟩
    · exact Or.inr h2
  · rintro (⟨e, h, h2⟩ | h2)
    · exact ⟨e, Or.inl h, h2⟩
    · exact ⟨(v, u), Or.inr rfl, h2⟩
theorem GInv.step {es : List (Int × Int)} {G G' : Gr} {ne ne' : Nat} {v u code : Int} (h : GInv es G ne) (hs : EdgeStep G ne v u G' ne' code) : GInv (es ++ [(v, u)]) G' ne' ∧ code = errOf es (v, u) := by
  have hz : zeros (errsFrom [] (es ++ [(v, u)])) = zeros (errsFrom [] es) + zeros [errOf es (v, u)] := by
    rw [errsFrom_append, zeros_append]; rfl
  rcases hs with ⟨rfl, rfl, rfl, rfl⟩ | ⟨hne, G1, G2, ha1, ha2, hs⟩
  · have hc : errOf es (v, v) = 2 := by simp [errOf]
    refine ⟨⟨fun x => ?_, fun a b => ?_, ?_⟩, hc.symm⟩
    · rw [h.key, isV_snoc]; simp
    · rw [h.nb, adjE_snoc]
      constructor
      · exact Or.inl
      · rintro (h1 | ⟨h1, h2 | h2⟩)
        · exact h1
        · exact absurd (h2.1.trans h2.2.symm) h1
        · exact absurd (h2.1.trans h2.2.symm) h1
    · rw [hz, hc, h.cnt]; rfl
  · have hk : ∀ x, x ∈ gkeys G2 ↔ isV (es ++ [(v, u)]) x := fun x => by
      rw [keys_add ha2, keys_add ha1, h.key, isV_snoc]
      constructor
      · rintro ((h1 | h1) | h1)
        · exact Or.inl h1
        · exact Or.inr ⟨hne, Or.inl h1⟩
        · exact Or.inr ⟨hne, Or.inr h1⟩
      · rintro (h1 | ⟨_, h1 | h1⟩)
        · exact Or.inl (Or.inl h1)
        · exact Or.inl (Or.inr h1)
        · exact Or.inr h1
    have hn : ∀ a b, b ∈ nbrs G2 a ↔ adjE es a b := fun a b => by rw [nbrs_add ha2, nbrs_add ha1, h.nb]
    rcases hs with ⟨h1, rfl, rfl, rfl⟩ | ⟨h1, rfl, rfl, rfl⟩
    · have h2 := (hn v u).1 h1
      have hc : errOf es (v, u) = 3 := by
        unfold errOf
        rw [if_neg hne, if_pos h2.2]
      refine ⟨⟨hk, fun a b => ?_, ?_⟩, hc.symm⟩
      · rw [hn, adjE_snoc]
        constructor
        · exact Or.inl
        · rintro (h3 | ⟨h3, ⟨rfl, rfl⟩ | ⟨rfl, rfl⟩⟩)
          · exact h3
          · exact h2
          · exact ⟨h3, h2.2.symm⟩
      · rw [hz, hc, h.cnt]; rfl
    · have h2 : ¬adjE es v u := fun h2 => h1 ((hn v u).2 h2)
      have hc : errOf es (v, u) = 0 := by
        unfold errOf
        rw [if_neg hne, if_neg]
        exact fun h3 => h2 ⟨hne, h3⟩
      have hv : v ∈ gkeys G2 := (keys_add ha2 v).2 (Or.inl ((keys_add ha1 v).2 (Or.inr rfl)))
      have hu : u ∈ gkeys G2 := (keys_add ha2 u).2 (Or.inr rfl)
      refine ⟨⟨fun x => ?_, fun a b => ?_, ?_⟩, hc.symm⟩
      · rw [gkeys_gput, gkeys_gput]; exact hk x
      · rw [nbrs_gput (by rw [gkeys_gput]; exact hu), nbrs_gput hv, hn, adjE_snoc]
        constructor
        · rintro ((h3 | ⟨rfl, rfl⟩) | ⟨rfl, rfl⟩)
          · exact Or.inl h3
          · exact Or.inr ⟨hne, Or.inl ⟨rfl, rfl⟩⟩
          · exact Or.inr ⟨fun e => hne e.symm, Or.inr ⟨rfl, rfl⟩⟩
        · rintro (h3 | ⟨_, h3 | h3⟩)
          · exact Or.inl (Or.inl h3)
          · exact Or.inl (Or.inr h3)
          · exact Or.inr h3
      · rw [hz, hc, h.cnt]; rfl
theorem GInv.nil : GInv [] [] 0 := ⟨fun v => by simp [gkeys, isV], fun v k => by simp [nbrs, gfind, adjE], rfl⟩

/-- The three errors of the package, as they are laid. -/
def errv (a : Addr) : Value := .iface 64 (.pointer (some a))
structure Sents (w : World) (a0 a1 a2 : Addr) : Prop where
  g0 : w.cell? ⟨0, 0, none⟩ = some (errv a0)
  g1 : w.cell? ⟨1, 0, none⟩ = some (errv a1)
  g2 : w.cell? ⟨2, 0, none⟩ = some (errv a2)
  n01 : a0 ≠ a1
  n02 : a0 ≠ a2
  n12 : a1 ≠ a2
  h0 : ∃ c t, w.heap[a0.block]? = some (.cells c t (0, 0))
  h1 : ∃ c t, w.heap[a1.block]? = some (.cells c t (0, 0))
  h2 : ∃ c t, w.heap[a2.block]? = some (.cells c t (0, 0))
theorem Sents.same {w w' : World} {a0 a1 a2 : Addr} (h : Sents w a0 a1 a2) (hb : Below w.heap.size w w') : Sents w' a0 a1 a2 := by
  have key : ∀ a : Addr, (∃ c t, w.heap[a.block]? = some (.cells c t (0, 0))) → ∃ c t, w'.heap[a.block]? = some (.cells c t (0, 0)) := by
    rintro a ⟨c, t, e⟩
    have hlt : a.block < w.heap.size := (Array.getElem?_eq_some_iff.1 e).1
    exact ⟨c, t, (hb.block _ hlt).trans e⟩
  exact ⟨(hb.cell (cell_lt' h.g0)).trans h.g0, (hb.cell (cell_lt' h.g1)).trans h.g1, (hb.cell (cell_lt' h.g2)).trans h.g2, h.n01, h.n02, h.n12, key _ h.h0, key _ h.h1, key _ h.h2⟩
theorem Sents.three {w : World} {a0 a1 a2 : Addr} (h : Sents w a0 a1 a2) : 3 ≤ w.heap.size := by have : 2 < w.heap.size := cell_lt' h.g2; omega
def errval (a0 a1 a2 : Addr) (c : Int) : Value := if c = 0 then .nilIface else if c = 1 then errv a0 else if c = 2 then errv a1 else errv a2

theorem eql_same (w : World) (a : Addr) : (binOp .eql 48 (errv a) (errv a)).run Tryd.prog w = .ok (.bool true) w := by
  cases hi : Tryd.prog.info? 64 with
  | none => exact absurd hi (by decide +kernel)
  | some i =>
    have hcc : (Tryd.prog.info? 64).map (·.comparable) = some true := by kernel_rfl
    rw [hi] at hcc
    cases hj : Tryd.prog.info? 81 with
    | none => exact absurd hj (by decide +kernel)
    | some j => exact run_eql_iface_ptr_same w a Tryd.underlying48 Tryd.underlying64 hi (by simpa using hcc) hj
theorem eql_other {w : World} {a b : Addr} (hne : a ≠ b) (ha : ∃ c t, w.heap[a.block]? = some (.cells c t (0, 0))) (hb : ∃ c t, w.heap[b.block]? = some (.cells c t (0, 0))) : (binOp .eql 48 (errv a) (errv b)).run Tryd.prog w = .ok (.bool false) w := by
  obtain ⟨ca, ta, ea⟩ := ha
  obtain ⟨cb, tb, eb⟩ := hb
  cases hi : Tryd.prog.info? 64 with
  | none => exact absurd hi (by decide +kernel)
  | some i =>
    have hcc : (Tryd.prog.info? 64).map (·.comparable) = some true := by kernel_rfl
    rw [hi] at hcc
    cases hj : Tryd.prog.info? 81 with
    | none => exact absurd hj (by decide +kernel)
    | some j =>
      have hsz : (Tryd.prog.info? 81).map (·.size) = some 1 := by kernel_rfl
      rw [hj] at hsz
      have hs1 : j.size = 1 := by simpa using hsz
      exact run_eql_iface_ptr_other w Tryd.underlying48 Tryd.underlying64 hi (by simpa using hcc) hj (by omega) hne ea eb
theorem eql_nil (w : World) (a : Addr) : (binOp .eql 48 (errv a) .nilIface).run Tryd.prog w = .ok (.bool false) w := run_eql_iface_nil w 48 (by kernel_rfl) _ _
theorem nil_nil (w : World) : (binOp .eql 48 .nilIface .nilIface).run Tryd.prog w = .ok (.bool true) w := run_eql_nil_nil_at w 48 (by kernel_rfl)

set_option maxRecDepth 100000 in
set_option maxHeartbeats 1000000 in
theorem grError_any {w : World} {a0 a1 a2 : Addr} (h : Sents w a0 a1 a2) (c : Int) (hc : c = 0 ∨ c = 1 ∨ c = 2 ∨ c = 3) :
    Calls Tryd.prog 19 #[errval a0 a1 a2 c] w fun e w' => e = .returned (.int .i64 c) ∧ w = w' := by
  have g0 := h.g0
  have g1 := h.g1
  have g2 := h.g2
  have q0 := fun a => eql_nil w a
  have q1 := nil_nil w
  have q2 := fun a => eql_same w a
  have q3 := eql_other (w := w) h.n01.symm h.h1 h.h0
  have q4 := eql_other (w := w) h.n02.symm h.h2 h.h0
  have q5 := eql_other (w := w) h.n12.symm h.h2 h.h1
  have r0 : ∀ (w : World) (x y : Operand) (a b : Addr), (eqGuard .eql 48 x y (errv a) (errv b)).run Tryd.prog w = .ok () w := fun _ _ _ _ _ => rfl
  have r1 : ∀ (w : World) (x y : Operand) (a : Addr), (eqGuard .eql 48 x y (errv a) .nilIface).run Tryd.prog w = .ok () w := fun _ _ _ _ => rfl
  clear h
  rcases hc with rfl | rfl | rfl | rfl
  · rw [show errval a0 a1 a2 0 = .nilIface from rfl]
    go_enter Tryd.func19, Tryd.ntmps19
    go_wp2_with fail
    go_ret
    exact ⟨rfl, rfl⟩
  · rw [show errval a0 a1 a2 1 = errv a0 from rfl]
    go_enter Tryd.func19, Tryd.ntmps19
    go_wp2_with fail
    go_ret
    exact ⟨rfl, rfl⟩
  · rw [show errval a0 a1 a2 2 = errv a1 from rfl]
    go_enter Tryd.func19, Tryd.ntmps19
    go_wp2_with fail
    go_ret
    exact ⟨rfl, rfl⟩
  · rw [show errval a0 a1 a2 3 = errv a2 from rfl]
    go_enter Tryd.func19, Tryd.ntmps19
    go_wp2_with fail
    go_ret
    exact ⟨rfl, rfl⟩
end Go.Proofs.YtjijgkjmndpngaaDoor
