/- A heap in memory; NewFloatFibHeap, IsEmpty, Size, Enqueue. -/
import Derived.Test.YtalphojbkeleiaaH1
namespace Go.Proofs.Ytalphojbkeleiaa
namespace FH
open Go.RowKit

theorem ochain {M M' : List Nat} {a b c : World} (h : Only M a b) (k : Only M' b c) (hs : ∀ x ∈ M', x ∈ M ∨ a.heap.size ≤ x) : Only M a c :=
  ⟨k.os.trans h.os, k.tape.trans h.tape, k.output.trans h.output, Nat.le_trans h.size k.size, fun i hi hm => (k.block i (Nat.lt_of_lt_of_le hi h.size) (fun hx => by
    rcases hs i hx with h1 | h1
    · exact hm h1
    · omega)).trans (h.block i hi hm)⟩
structure Fh (w : World) (q : Nat) (A : List Nat) (m : Mem) (hm : Option Nat) (L : List Nat) : Prop where
  ms : Ms w A m
  blk : Blk w q #[optp hm, .int .u64 (L.length : Nat)] 43
  qA : q ∉ A
  hs : HS m hm L
  sub : ∀ y ∈ L, y ∈ A
  len : L.length ≤ 1000
section
variable {w w' : World} {q : Nat} {A : List Nat} {m : Mem} {hm : Option Nat} {L : List Nat}
theorem Fh.only {M : List Nat} (h : Fh w q A m hm L) (ho : Only M w w') (hM : ∀ a ∈ q :: A, a ∉ M) : Fh w' q A m hm L :=
  { h with ms := h.ms.only ho (fun a ha => hM a (by simp [ha])), blk := h.blk.only ho (hM q (by simp)) }
theorem Fh.under (h : Fh w q A m hm L) (hb : Below w.heap.size w w') : Fh w' q A m hm L := h.only (Only.of_below (M := []) hb) (by simp)
theorem Fh.drew (h : Fh w q A m hm L) : Fh w.drew q A m hm L := { h with ms := h.ms.drew, blk := h.blk }
theorem Fh.hmA (h : Fh w q A m hm L) : ∀ x, hm = some x → x ∈ A := fun x e => by
  obtain ⟨_, R, K, rk, hw, ⟨_, ⟨rfl, e'⟩ | ⟨y, e', hy⟩⟩, _⟩ := h.hs
  · rw [e] at e'; cases e'
  · rw [e] at e'; cases e'; exact h.sub x (hw.rL x hy).1
theorem Fh.hmL (h : Fh w q A m hm L) : ∀ x, hm = some x → x ∈ L ∧ (m x).nx ∈ L := fun x e => by
  obtain ⟨_, R, K, rk, hw, ⟨hr, ⟨rfl, e'⟩ | ⟨y, e', hy⟩⟩, _⟩ := h.hs
  · rw [e] at e'; cases e'
  · rw [e] at e'; cases e'; exact ⟨(hw.rL x hy).1, (hw.rL _ (hr.next_mem hy)).1⟩
theorem Fh.all_lt (h : Fh w q A m hm L) : ∀ a ∈ q :: A, a < w.heap.size := fun a ha => by
  simp only [List.mem_cons] at ha
  rcases ha with rfl | ha
  · exact h.blk.lt
  · exact h.ms.lt ha
end
set_option maxRecDepth 100000 in
set_option maxHeartbeats 4000000 in
theorem new_any (w : World) : Calls Try.prog 12 #[] w fun e w' => e = .returned (.agg #[.pointer none, .int .u64 0]) ∧ Below w.heap.size w w' := by
  go_enter Try.func12, Try.ntmps12
  go_wp2_with fail
  refine bodyPost_ret (v := .agg #[.pointer none, .int .u64 0]) (by simp [results, Try.results12, go_sem]) rfl ?_
  exact ⟨rfl, (Below.refl _ _).alloc (Nat.le_refl _) _⟩
set_option maxRecDepth 100000 in
set_option maxHeartbeats 4000000 in
theorem isEmpty_any {w : World} {q n : Nat} {v : Value} (h : Blk w q #[v, .int .u64 (n : Nat)] 43) :
    Calls Try.prog 15 #[.pointer (some ⟨q, 0, none⟩)] w fun e w' => e = .returned (.bool (decide (n = 0))) ∧ w' = w := by
  have c1 : w.cell? ⟨q, 1, none⟩ = some (.int .u64 (n : Nat)) := h.cell rfl
  have f1 := h.free 1
  go_enter Try.func15, Try.ntmps15
  go_wp2_with fail
  go_ret
  refine ⟨?_, rfl⟩
  show Ending.returned (.bool _) = _
  congr 2
  by_cases hn : n = 0
  · subst hn; rfl
  · rw [decide_eq_false hn]
    exact beq_eq_false_iff_ne.2 (by omega)
set_option maxRecDepth 100000 in
set_option maxHeartbeats 4000000 in
theorem size_any {w : World} {q n : Nat} {v : Value} (h : Blk w q #[v, .int .u64 (n : Nat)] 43) :
    Calls Try.prog 14 #[.pointer (some ⟨q, 0, none⟩)] w fun e w' => e = .returned (.int .u64 (n : Nat)) ∧ w' = w := by
  have c1 : w.cell? ⟨q, 1, none⟩ = some (.int .u64 (n : Nat)) := h.cell rfl
  have f1 := h.free 1
  go_enter Try.func14, Try.ntmps14
  go_wp2_with fail
  go_ret
  exact ⟨rfl, rfl⟩
set_option maxRecDepth 100000 in
set_option maxHeartbeats 4000000 in
theorem enqueue_any {w : World} {q : Nat} {A : List Nat} {m : Mem} {hm : Option Nat} {L : List Nat} (h : Fh w q A m hm L) {p : Int} (hp : Pri p) (hl : L.length < 1000) :
    Calls Try.prog 16 #[.pointer (some ⟨q, 0, none⟩), .float .f64 (fb p)] w fun e w' => e = .returned (.pointer (some ⟨w.heap.size, 0, none⟩)) ∧ Fh w' q (w.heap.size :: A) (enq m hm w.heap.size p) (enqH m hm w.heap.size p) (w.heap.size :: L) ∧ Only (q :: A) w w' := by
  have H0 := Lib.hid h
  have hnA : w.heap.size ∉ A := fun e => by have := h.ms.lt e; omega
  have hnL : w.heap.size ∉ L := fun e => hnA (h.sub _ e)
  have hqn : q ≠ w.heap.size := by have := h.blk.lt; omega
  obtain ⟨a, ha⟩ : ∃ a, a = w.heap.size := ⟨_, rfl⟩
  rw [← ha] at hnA hnL hqn ⊢
  have HA := Lib.hid ha
  have c0 : w.cell? ⟨q, 0, none⟩ = some (optp hm) := h.blk.cell rfl
  have HL := Lib.hid hl
  clear ha h hl
  go_enter Try.func16, Try.ntmps16
  go_wp2_with fail
  refine (newEntry_any p w).mono ?_
  rintro e w1 ⟨rfl, hb, hbe, hsz⟩
  rw [← HA.out] at hb ⊢
  have hm1 := H0.out.ms.add (d := nd0 a p) hb HA.out hbe (by simp [nd0]) (by simp [nd0]) rfl rfl hp
  have hq1 := H0.out.blk.below hbe H0.out.blk.lt
  have H1 : Hid (Ms w1 (a :: A) (st m a (nd0 a p)) ∧ Blk w1 q #[optp hm, .int .u64 (L.length : Nat)] 43 ∧ Only (q :: A) w w1) := ⟨hm1, hq1, Only.of_below hbe⟩
  have c0 : w1.cell? ⟨q, 0, none⟩ = some (optp hm) := hq1.cell rfl
  clear hb hbe hm1 hq1
  rw [show ptr a = optp (some a) from rfl]
  go_wp2_with fail
  refine (merge_any H1.out.1 (a := hm) (b := some a) (fun x e => List.mem_cons_of_mem _ (H0.out.hmA x e)) (fun x e => by cases e; simp) ?_).mono ?_
  · intro x y e1 e2
    cases e2
    obtain ⟨h1, h2⟩ := H0.out.hmL x e1
    have hxa : x ≠ a := fun e => hnL (e ▸ h1)
    refine ⟨hxa, ?_⟩
    rw [st_other _ _ hxa, st_same]
    exact fun e => hnL ((show (m x).nx = a from e) ▸ h2)
  rintro e w2 ⟨rfl, h2, o2⟩
  have hqA : q ∉ a :: A := by simp only [List.mem_cons, not_or]; exact ⟨hqn, H0.out.qA⟩
  have hq2 := H1.out.2.1.only o2 hqA
  have c1 : w2.cell? ⟨q, 0, none⟩ = some (optp hm) := hq2.cell rfl
  have c2 : w2.cell? ⟨q, 1, none⟩ = some (.int .u64 (L.length : Nat)) := hq2.cell rfl
  have f2 := hq2.free
  have hcell : ∀ x : Option Nat, ∃ z, optp x = .pointer z := fun x => by cases x <;> exact ⟨_, rfl⟩
  obtain ⟨z, hz⟩ := hcell (mgOH (st m a (nd0 a p)) hm (some a))
  have hw : IntKind.u64.wrap ((L.length : Int) + 1) = ((L.length + 1 : Nat) : Int) := by have := HL.out; rw [IntKind.wrap_u64]; omega
  have H2 : Hid (Fh ((w2.setCell ⟨q, 0, none⟩ (.pointer z)).setCell ⟨q, 1, none⟩ (.int .u64 ((L.length + 1 : Nat) : Int))) q (a :: A) (enq m hm a p) (enqH m hm a p) (a :: L) ∧ Only (q :: A) w ((w2.setCell ⟨q, 0, none⟩ (.pointer z)).setCell ⟨q, 1, none⟩ (.int .u64 ((L.length + 1 : Nat) : Int)))) := by
    refine ⟨⟨(h2.other hqA _).other hqA _, ?_, hqA, H0.out.hs.enq hnL p, ?_, ?_⟩, ?_⟩
    · have h := (hq2.set 0 (.pointer z)).set 1 (.int .u64 ((L.length + 1 : Nat) : Int))
      rw [← hz] at h ⊢
      exact h
    · intro y hy
      simp only [List.mem_cons] at hy ⊢
      exact hy.imp id (H0.out.sub y)
    · have := HL.out; simp only [List.length_cons]; omega
    · exact ((ochain H1.out.2.2 o2 (fun k hk => by
        simp only [List.mem_cons] at hk ⊢
        rcases hk with rfl | hk
        · exact Or.inr (by have := HA.out; omega)
        · exact Or.inl (Or.inr hk))).setCell (Or.inl (by simp)) _).setCell (Or.inl (by simp)) _
  clear hq2 o2 h2 hcell
  rw [hz]
  go_wp2_with fail
  go_ret
  exact ⟨rfl, H2.out.1, H2.out.2⟩
end FH
end Go.Proofs.Ytalphojbkeleiaa
