/- Get, Empty, Disposed; no error. -/
import Derived.Test.YtmkbgdgfbmfbdaaDoorP6
namespace Go.Proofs.YtmkbgdgfbmfbdaaDoor
open Go.RowKit

section
variable {B : Nat} {w : World} {q m : Nat} {dup : Bool} {v : Value} {xs ks : List Item}
set_option maxRecDepth 100000 in
theorem empty_any (h : QS B w q m dup v xs ks) (hx : xs ≠ []) :
    Calls Tryd.prog 31 #[.pointer (some ⟨q, 0, none⟩)] w fun e w' => e = .returned (.bool false) ∧ w' = w := by
  obtain ⟨so, cp, rfl⟩ := own_shape h.row
  have c0 : w.cell? ⟨q, 0, none⟩ = some (.slice so xs.length cp) := Blk.cell h.blk rfl
  have h0 : ((xs.length : Int) == 0) = false := by
    simp
    exact hx
  generalize xs.length = n at c0 h0
  clear h hx
  go_enter Tryd.func31, Tryd.ntmps31
  go_wp2_with fail
  go_ret
  exact ⟨rfl, rfl⟩
set_option maxRecDepth 100000 in
theorem err_nil (w : World) : Calls Tryd.prog 29 #[.nilIface] w fun e w' => e = .returned (.int .i64 0) ∧ w' = w := by
  have hq : ∀ w : World, (binOp .eql 79 .nilIface .nilIface).run Tryd.prog w = .ok (.bool true) w := fun w => by kernel_rfl
  go_enter Tryd.func29, Tryd.ntmps29
  go_wp2_with fail
  go_ret
  exact ⟨rfl, rfl⟩
end

def GotPost (B q m : Nat) (dup : Bool) (v : Value) (xs : List Item) (w : World) (e : Ending) (w' : World) : Prop :=
  ∃ sl out v', e = .returned (.tuple #[sl, .nilIface]) ∧ Row w.heap.size w' sl out ∧ out.Perm xs ∧ Asc (keysOf out) ∧ QS B w' q m dup v' [] [] ∧ rowOf v' = rowOf v ∧ Only (q :: m :: rowOf v) w w'
set_option maxRecDepth 100000 in
set_option maxHeartbeats 2000000 in
theorem Get_any {B q m N : Nat} {w : World} {dup : Bool} {v : Value} {xs ks : List Item} (h : QS B w q m dup v xs ks) (hx : xs ≠ []) (hk : ∀ x ∈ ks, x ∈ xs) (hl : xs.length ≤ N) (hN : N ≤ 1000) :
    Calls Tryd.prog 33 #[.pointer (some ⟨q, 0, none⟩), .int .i64 N] w (GotPost B q m dup v xs w) := by
  have hN1 : 1 ≤ N := by
    have : 0 < xs.length := List.length_pos_iff.2 hx
    omega
  have n1 : ¬ (N : Int) < 1 := by omega
  have hmf : ∀ (fn : Fn) (first cap : Array Value) (w : World), (Instr.makeFunc fn first cap).run Tryd.prog w = .ok (.func fn first cap) w := fun _ _ _ _ => rfl
  have H0 : Hid (QS B (w.alloc (.cells #[.pointer (some ⟨q, 0, none⟩)] 62)) q m dup v xs ks) := Lib.hid (h.under ((Below.refl _ _).alloc (Nat.le_refl _) _))
  have HB := Lib.hid (Blk.new w #[.pointer (some ⟨q, 0, none⟩)] 62)
  have c2 : (w.alloc (.cells #[.pointer (some ⟨q, 0, none⟩)] 62)).cell? ⟨q, 2, none⟩ = some (.bool false) := Blk.cell H0.out.blk rfl
  have HS := Lib.hid h
  have HK := Lib.hid hk
  have HX := Lib.hid hx
  clear h hk hx
  go_enter Tryd.func33, Tryd.ntmps33
  go_wp2_with fail
  refine (get_any H0.out.blk H0.out.row H0.out.heap hl hN).mono ?_
  rintro e w2 ⟨sl, out, v', rfl, hr1, hp1, ha1, hb1, hr2, hrow, ho1⟩
  have hsz : (w.alloc (.cells #[.pointer (some ⟨q, 0, none⟩)] 62)).heap.size = w.heap.size + 1 := by simp
  rw [hsz] at hr1
  have hne : q ≠ w.heap.size := by have := HS.out.qlt; omega
  have hnr : w.heap.size ∉ rowOf v := fun hm => by have := (HS.out.row.rows_lt _ hm).1; omega
  have hb2 : Blk w2 w.heap.size #[.pointer (some ⟨q, 0, none⟩)] 62 := HB.out.only ho1 (by simp only [List.mem_cons, not_or]; exact ⟨fun e => hne e.symm, hnr⟩)
  have cb : w2.cell? ⟨w.heap.size, 0, none⟩ = some (.pointer (some ⟨q, 0, none⟩)) := hb2.cell rfl
  have HQ : Hid (QS B w2 q m dup v' [] ks ∧ Row w.heap.size w2 sl out ∧ out.Perm xs ∧ Asc (keysOf out) ∧ rowOf v' = rowOf v ∧ Only (q :: m :: rowOf v) w w2) := by
    obtain ⟨L, hL, hLk⟩ := H0.out.map
    refine ⟨⟨hb1, hr2, fun i _ hi => absurd hi (by simp), ⟨L, hL.only ho1 ?_, hLk⟩, H0.out.low⟩, ?_, hp1, ha1, hrow, ?_⟩
    · simp only [List.mem_cons, not_or]
      exact ⟨H0.out.mq, H0.out.mrow⟩
    · exact ⟨hr1.1, hr1.2.imp (fun h => h) (fun ⟨g, cap, cur, h1, h2, h3⟩ => ⟨g, cap, cur, h1, by omega, h3⟩)⟩
    · refine ((Only.refl _ _).alloc _).trans (ho1.mono (fun k _ hk => ?_))
      simp only [List.mem_cons] at hk ⊢
      rcases hk with hk | hk
      · exact Or.inl hk
      · exact Or.inr (Or.inr hk)
  have HBX := Lib.hid cb
  have hbm : w.heap.size ≠ m := by have := HS.out.mlt; omega
  obtain ⟨n, hn⟩ : ∃ n, n = out.length := ⟨_, rfl⟩
  have HN := Lib.hid hn
  have hon : 0 < out.length := by rw [hp1.length_eq]; exact List.length_pos_iff.2 HX.out
  obtain ⟨g, cp, rfl⟩ := own_some hr1 hon
  have hgm : g ≠ m := by
    have h1 := (hr1.rows_lt g (by simp [rowOf, Value.ownBlock])).2
    have h2 := HS.out.mlt
    omega
  have hol : out.length ≤ 1000 := by rw [hp1.length_eq]; omega
  have hits : Its w2 [m] (.slice (some ⟨g, 0, none⟩) out.length cp) out := by
    refine ⟨g, 0, cp, rfl, by simp; exact hgm, fun i x hi => ?_⟩
    have h := hr1
    rw [Row] at h
    rw [Nat.zero_add]
    exact (own_cell h (by rw [List.getElem?_map, hi]; rfl)).1
  have HI := Lib.hid hits
  clear hr1 hp1 ha1 hb1 hr2 hrow ho1 hb2 cb hits hn hon c2
  go_wp2_with fail
  refine (getd_any HQ.out.1 HI.out HBX.out hbm hol).mono ?_
  rintro e w3 ⟨rfl, h1, h2⟩
  have HE : Hid (QS B w3 q m dup v' [] [] ∧ Row w.heap.size w3 (.slice (some ⟨g, 0, none⟩) out.length cp) out ∧ Only (q :: m :: rowOf v) w w3) := by
    rw [without_all (fun x hx => HQ.out.2.2.1.mem_iff.2 (HK.out x hx))] at h1
    refine ⟨h1, Row.only HQ.out.2.1 h2 (fun k hk => ?_), HQ.out.2.2.2.2.2.trans (h2.mono (fun k _ hk => ?_))⟩
    · have h3 := (HQ.out.2.1.rows_lt k hk).2
      have h4 := HS.out.mlt
      simp only [List.mem_singleton]
      omega
    · simp only [List.mem_cons, List.not_mem_nil, or_false] at hk ⊢
      exact Or.inr (Or.inl hk)
  clear h1 h2
  go_wp2_with fail
  go_ret2
  exact ⟨_, out, _, rfl, HE.out.2.1, HQ.out.2.2.1, HQ.out.2.2.2.1, HE.out.1, HQ.out.2.2.2.2.1, HE.out.2.2⟩
end Go.Proofs.YtmkbgdgfbmfbdaaDoor
