/- push. -/
import Derived.Test.YtmkbgdgfbmfbdaaDoorHeapPure
import Derived.Deep.RegionLaw
namespace Go.Proofs.YtmkbgdgfbmfbdaaDoor
open Go.RowKit

def intOf : Value → Int
  | .int _ n => n
  | _ => 0
theorem tdiv_half (n : Nat) : ((n : Int) - 1).tdiv 2 = ((n - 1) / 2 : Nat) := by
  cases n with
  | zero => rfl
  | succ n =>
    rw [show ((n + 1 : Nat) : Int) - 1 = (n : Int) by omega, show n + 1 - 1 = n from rfl]
    rfl
def rowOf (v : Value) : List Nat := v.ownBlock.toList
theorem Only.chain {M M' : List Nat} {a b c : World} (h : Only M a b) (k : Only M' b c) (hs : ∀ x ∈ M', x ∈ M ∨ a.heap.size ≤ x) : Only M a c :=
  ⟨k.os.trans h.os, k.tape.trans h.tape, k.output.trans h.output, Nat.le_trans h.size k.size, fun i hi hm => (k.block i (Nat.lt_of_lt_of_le hi h.size) (fun hx => by
    rcases hs i hx with h1 | h1
    · exact hm h1
    · omega)).trans (h.block i hi hm)⟩
theorem own_block {w : World} {base : Nat} {e : TypeId} {size : Nat} {v : Value} {n : Nat} {xs : List Value} (h : w.ownsRow base e size v n xs) {k : Nat} (hk : v.ownBlock = some k) : base ≤ k ∧ ∃ cur, w.heap[k]? = some (.cells cur e) := by
  obtain ⟨_, h | ⟨g, cap, cur, hv, hge, hh, _⟩⟩ := h
  · rw [h.1] at hk; simp [Value.ownBlock] at hk
  · rw [hv] at hk; simp [Value.ownBlock] at hk; subst hk; exact ⟨hge, cur, hh⟩
theorem grown_other {w w' : World} {o : Obj} {row : Option Nat} (hg : (w.alloc o).grownBy w' row) {k : Nat} (hk : k < w.heap.size) (hr : some k ≠ row) : w'.heap[k]? = w.heap[k]? := by
  rw [hg.block k (by simp; omega) hr]
  exact heap_alloc_old w o hk
theorem own_other {w : World} {B : Nat} {e : TypeId} {g n cap q : Nat} {xs : List Value} (h : w.ownsRow B e 1 (.slice (some ⟨g, 0, none⟩) n cap) n xs) (hq : q ≠ g) (u : Value) :
    (w.setCell ⟨q, 0, none⟩ u).ownsRow B e 1 (.slice (some ⟨g, 0, none⟩) n cap) n xs := by
  obtain ⟨h1, h | ⟨g', cap', cur, hv, hge, hh, r⟩⟩ := h
  · simp at h
  · simp only [Value.slice.injEq, Option.some.injEq, Addr.mk.injEq] at hv
    obtain ⟨⟨rfl, _, _⟩, _, rfl⟩ := hv
    have hb : Blk w g cur e := hh
    exact ⟨h1, Or.inr ⟨g, cap, cur, rfl, hge, hb.other hq u, r⟩⟩
theorem own_some {w : World} {base : Nat} {e : TypeId} {size : Nat} {v : Value} {n : Nat} {xs : List Value} (h : w.ownsRow base e size v n xs) (hn : 0 < n) : ∃ g cap, v = .slice (some ⟨g, 0, none⟩) n cap := by
  obtain ⟨_, h | ⟨g, cap, cur, hv, _⟩⟩ := h
  · have := h.2; omega
  · exact ⟨g, cap, hv⟩
theorem QBlk.not_row {w : World} {q B : Nat} {v u : Value} {m n : Nat} {dup : Bool} {xs : List Value} (hb : QBlk w q v m dup) (h : w.ownsRow B 85 1 u n xs) : u.ownBlock ≠ some q := by
  intro e
  obtain ⟨_, cur, h2⟩ := own_block h e
  unfold QBlk Blk at hb
  rw [hb] at h2
  simp at h2
theorem QBlk.below {w w' : World} {q : Nat} {v : Value} {m : Nat} {dup : Bool} (hb : QBlk w q v m dup) (h : Below w.heap.size w w') : QBlk w' q v m dup := Blk.below hb h (Blk.lt hb)
theorem Row.below {B : Nat} {w w' : World} {v : Value} {xs : List Item} (h : Row B w v xs) (hb : Below w.heap.size w w') : Row B w' v xs := by
  obtain ⟨h1, h | ⟨g, cap, cur, hv, hge, hh, r⟩⟩ := h
  · exact ⟨h1, Or.inl h⟩
  · exact ⟨h1, Or.inr ⟨g, cap, cur, hv, hge, (hb.block g (Blk.lt (show Blk w g cur _ from hh))).trans hh, r⟩⟩

theorem infoI : (Tryd.prog.info? 85).map (fun i => (i.zero, i.size, i.bytes)) = some (some .nilIface, 1, 16) := by kernel_rfl

set_option maxRecDepth 100000 in
set_option maxHeartbeats 4000000 in
theorem push_any {w : World} {B q m : Nat} {dup : Bool} {v : Value} {xs : List Item} (x : Item) (hb : QBlk w q v m dup) (hr : Row B w v xs) (hB : B ≤ w.heap.size) (hh : Heap xs) (hl : xs.length ≤ 1000) :
    Calls Tryd.prog 44 #[.pointer (some ⟨q, 0, none⟩), pit x] w fun e w' => e = .returned (.tuple #[]) ∧ ∃ v' ys, QBlk w' q v' m dup ∧ Row B w' v' ys ∧ Heap ys ∧ ys.Perm (xs ++ [x]) ∧ (∀ k ∈ rowOf v', k ∈ rowOf v ∨ w.heap.size ≤ k) ∧ Only (q :: rowOf v) w w' := by
  obtain ⟨k1, k2⟩ := x
  rw [show pit (k1, k2) = .iface 76 (.agg #[.int .i64 k1, .int .i64 k2]) from rfl]
  obtain ⟨x, hxx⟩ : ∃ x : Item, x = (k1, k2) := ⟨_, rfl⟩
  rw [← hxx]
  have HXX := Lib.hid hxx
  clear hxx
  obtain ⟨i0, hi, hz0, hz1, hz2⟩ := info_at infoI
  have HI : Hid (Tryd.prog.info? 85 = some i0 ∧ i0.zero = some .nilIface ∧ i0.size = 1 ∧ i0.bytes = 16) := ⟨hi, hz0, hz1, hz2⟩
  clear hi hz0 hz1 hz2
  have HBq := Lib.hid hb
  have HR := Lib.hid hr
  have HH := Lib.hid hh
  obtain ⟨so, cp, rfl⟩ := own_shape hr
  obtain ⟨n, hn⟩ : ∃ n, n = xs.length := ⟨_, rfl⟩
  have HN := Lib.hid hn
  have hl2 : n ≤ 1000 := by omega
  have c0 : w.cell? ⟨q, 0, none⟩ = some (.slice so xs.length cp) := Blk.cell hb rfl
  rw [← hn] at c0
  have HR2 : Hid (w.ownsRow B 85 1 (.slice so n cp) xs.length (xs.map pit)) := by rw [HN.out]; exact HR.out
  clear hb hr hh hn hl
  have hm : ∀ (l1 l2 : Int) (w : World), (method 226 76 (.agg #[.int .i64 l1, .int .i64 l2]) "Compare").run Tryd.prog w = .ok (67, .agg #[.int .i64 l1, .int .i64 l2]) w := fun _ _ _ => by kernel_rfl
  go_enter Tryd.func44, Tryd.ntmps44
  go_wp2_with (at_builtin; go_must (refine wpList_append_own_at _ rfl (.tmp 9) (.tmp 11) 71 rfl B 85 i0 .nilIface 1 16 Tryd.underlying71 HI.out.1 HI.out.2.1 HI.out.2.2.1 HI.out.2.2.2 rfl (by decide) (.slice so n cp) xs.length _ rfl (HR2.out.alloc _) ⟨w.heap.size, 0, none⟩ 1 1 [.iface 76 (.agg #[.int .i64 k1, .int .i64 k2])] rfl rfl ?c1 ?c2 ?c3 ?c4 ?c5 ?_))
  case c1 => exact one_cell
  case c2 => intro u hu; simp at hu; subst hu; rfl
  case c3 => unfold maxLen; have := HN.out; omega
  case c4 => have := HN.out; omega
  case c5 => simp; omega
  intro v1 w1 hown hgrow _ hat
  rw [← HN.out] at hown
  obtain ⟨g, cp1, rfl⟩ := own_some hown (by omega)
  have hx1 : ([Value.iface 76 (.agg #[.int .i64 k1, .int .i64 k2])] : List Value) = [pit x] := by rw [HXX.out]; rfl
  have hqs := Blk.lt HBq.out
  have hq1 : QBlk w1 q (.slice so n cp) m dup := by
    have h1 := grown_other hgrow (k := q) hqs (fun e => QBlk.not_row HBq.out HR2.out e.symm)
    have h2 := HBq.out
    rw [← HN.out] at h2
    exact h1.trans h2
  have hqg : q ≠ g := own_ne hq1 hown
  have c1 : w1.cell? ⟨q, 0, none⟩ = some (.slice so n cp) := Blk.cell hq1 rfl
  have f1 : w1.frozen? ⟨q, 0, none⟩ = false := Blk.free hq1 0
  have H1 : Hid (QBlk (w1.setCell ⟨q, 0, none⟩ (.slice (some ⟨g, 0, none⟩) (n + 1) cp1)) q (.slice (some ⟨g, 0, none⟩) (n + 1) cp1) m dup ∧ Row B (w1.setCell ⟨q, 0, none⟩ (.slice (some ⟨g, 0, none⟩) (n + 1) cp1)) (.slice (some ⟨g, 0, none⟩) (n + 1) cp1) (xs ++ [x]) ∧ (∀ k ∈ rowOf (.slice (some ⟨g, 0, none⟩) (n + 1) cp1), k ∈ rowOf (.slice so n cp) ∨ w.heap.size ≤ k) ∧ Only (q :: rowOf (.slice so n cp)) w (w1.setCell ⟨q, 0, none⟩ (.slice (some ⟨g, 0, none⟩) (n + 1) cp1))) := by
    refine ⟨Blk.set hq1 0 _, ?_, ?_, ?_⟩
    · rw [Row, List.map_append, List.length_append, ← HN.out]
      rw [hx1] at hown
      exact own_other hown hqg _
    · intro k hk
      rcases hat with h | h
      · left; simp only [rowOf] at hk ⊢; rw [h] at hk; exact hk
      · right; simp only [rowOf] at hk; rw [h] at hk; simp at hk; omega
    · exact ((((Only.refl _ w).alloc _).grown hgrow (fun k hk => Or.inl (by simp [rowOf, hk])))).setCell (Or.inl (by simp)) _
  have hlen : (xs ++ [x]).length = n + 1 := by rw [List.length_append, ← HN.out]; rfl
  have HL := Lib.hid hlen
  clear hown hgrow hat hq1 hx1 hlen hqs
  go_wp2_with fail
  go_loopw [4, 5] (fun iv pv wr => ∃ (ys : List Item) (i : Nat), iv = .int .i64 (i : Nat) ∧ pv = .int .i64 ((i - 1) / 2 : Nat) ∧ i ≤ n ∧ Hid (QBlk wr q (.slice (some ⟨g, 0, none⟩) (n + 1) cp1) m dup ∧ Row B wr (.slice (some ⟨g, 0, none⟩) (n + 1) cp1) ys ∧ Only (q :: g :: rowOf (.slice so n cp)) w wr ∧ HeapUp ys i ∧ ys[i]? = some x ∧ ys.Perm (xs ++ [x]))) (fun iv _ _ => (intOf iv).toNat)
  case atStart => 
    refine ⟨xs ++ [x], n, rfl, by simp [tdiv_half], Nat.le_refl _, H1.out.1, H1.out.2.1, H1.out.2.2.2.mono (fun k _ hk => ?_), ?_, ?_, List.Perm.refl _⟩
    · simp at hk ⊢; rcases hk with h | h
      · exact Or.inl h
      · exact Or.inr (Or.inr h)
    · rw [HN.out]; exact Heap.up HH.out x
    · rw [HN.out]; simp
  case round =>
    obtain ⟨ys, i, rfl, rfl, hin, hR⟩ := hrel
    have HR3 : Hid (QBlk wr q (.slice (some ⟨g, 0, none⟩) (n + 1) cp1) m dup ∧ Row B wr (.slice (some ⟨g, 0, none⟩) (n + 1) cp1) ys ∧ Only (q :: g :: rowOf (.slice so n cp)) w wr ∧ HeapUp ys i ∧ ys[i]? = some x ∧ ys.Perm (xs ++ [x])) := hR
    clear hR
    obtain ⟨p, hp⟩ : ∃ p, p = (i - 1) / 2 := ⟨_, rfl⟩
    rw [← hp]
    have HP := Lib.hid hp
    have hpi : p ≤ i := by omega
    have hylen : ys.length = n + 1 := by rw [HR3.out.2.2.2.2.2.length_eq, HL.out]
    have HY := Lib.hid hylen
    obtain ⟨y, hy⟩ : ∃ y, ys[p]? = some y := ⟨_, List.getElem?_eq_getElem (by omega)⟩
    have HYP := Lib.hid hy
    obtain ⟨l1, l2⟩ := y
    have hrow := HR3.out.2.1
    rw [Row, hylen] at hrow
    obtain ⟨cp0, _⟩ := own_cell (i := p) (u := pit (l1, l2)) hrow (by rw [List.getElem?_map, hy]; rfl)
    have cp2 : wr.cell? ⟨g, p, none⟩ = some (.iface 76 (.agg #[.int .i64 l1, .int .i64 l2])) := cp0
    have cq : wr.cell? ⟨q, 0, none⟩ = some (.slice (some ⟨g, 0, none⟩) (n + 1) cp1) := Blk.cell HR3.out.1 rfl
    have z1 : (0 : Int) ≤ (p : Int) := by omega
    have z2 : (p : Int) < ((n + 1 : Nat) : Int) := by omega
    have z3 : (p : Int) < (n : Int) + 1 := by omega
    clear cp0 hrow hy hylen hp
    have hxk : pit x = .iface 76 (.agg #[.int .i64 k1, .int .i64 k2]) := by rw [HXX.out]; rfl
    by_cases hc : k1 < l1
    · have e1 : ord l1 k1 = 1 := by unfold ord; rw [if_neg (by omega), if_pos hc]
      have hcmp : ∀ w : World, Calls Tryd.prog 67 #[.agg #[.int .i64 l1, .int .i64 l2], .iface 76 (.agg #[.int .i64 k1, .int .i64 k2])] w fun e w' => e = .returned (.int .i64 1) ∧ Below w.heap.size w w' := fun w => by
        rw [← e1]; exact compare_any (l1, l2) (k1, k2) w
      clear e1
      go_wp2_with fail
      refine (hcmp _).mono ?_
      rintro e w2 ⟨rfl, hb2⟩
      have HR4 : Hid (QBlk w2 q (.slice (some ⟨g, 0, none⟩) (n + 1) cp1) m dup ∧ Row B w2 (.slice (some ⟨g, 0, none⟩) (n + 1) cp1) ys ∧ Only (q :: g :: rowOf (.slice so n cp)) w w2) := ⟨HR3.out.1.below hb2, Row.below HR3.out.2.1 hb2, HR3.out.2.2.1.trans (Only.of_below hb2)⟩
      clear hb2 cp2 cq
      have hi0 : 0 < i := by
        rcases Nat.eq_zero_or_pos i with h | h
        · exfalso
          have h1 := HR3.out.2.2.2.2.1
          have h2 := HYP.out
          have h3 := HP.out
          rw [h] at h1 h3
          rw [h3] at h2
          rw [h1, HXX.out] at h2
          simp at h2
          omega
        · exact h
      go_wp2_with fail
      refine (swap_any (x := x) (y := (l1, l2)) HR4.out.1 HR4.out.2.1 HY.out (by omega) HR3.out.2.2.2.2.1 HYP.out).mono ?_
      rintro e w3 ⟨rfl, h1, h2, h3⟩
      have HE : Hid (QBlk w3 q (.slice (some ⟨g, 0, none⟩) (n + 1) cp1) m dup ∧ Row B w3 (.slice (some ⟨g, 0, none⟩) (n + 1) cp1) (swp ys i p x (l1, l2)) ∧ Only (q :: g :: rowOf (.slice so n cp)) w w3 ∧ HeapUp (swp ys i p x (l1, l2)) p ∧ (swp ys i p x (l1, l2))[p]? = some x ∧ (swp ys i p x (l1, l2)).Perm (xs ++ [x])) := by
        refine ⟨h1, h2, HR4.out.2.2.trans (h3.mono (fun k _ hk => by simp at hk ⊢; exact Or.inr (Or.inl hk))), ?_, ?_, (perm_swp HR3.out.2.2.2.2.1 HYP.out).trans HR3.out.2.2.2.2.2⟩
        · have h4 := HYP.out
          rw [HP.out] at h4
          have h5 := HR3.out.2.2.2.1.swap hi0 HR3.out.2.2.2.2.1 h4 (by rw [HXX.out]; exact hc)
          rw [← HP.out] at h5
          exact h5
        · rw [swp_get HR3.out.2.2.2.2.1 HYP.out, if_pos rfl]
      clear h1 h2 h3
      go_wp2_with fail
      go_roundw
      case rel => exact ⟨swp ys i p x (l1, l2), p, rfl, by simp [tdiv_half], by omega, HE.out⟩
      case measure =>
        simp [intOf]
        have := HP.out
        omega
    · have d1 : decide (0 < ord l1 k1) = false := by
        unfold ord
        split
        · rfl
        · first | rfl | (rw [if_neg (by omega)]; rfl)
      have hcmp : ∀ w : World, Calls Tryd.prog 67 #[.agg #[.int .i64 l1, .int .i64 l2], .iface 76 (.agg #[.int .i64 k1, .int .i64 k2])] w fun e w' => e = .returned (.int .i64 (ord l1 k1)) ∧ Below w.heap.size w w' := fun w => compare_any (l1, l2) (k1, k2) w
      have d2 : ¬ 0 < ord l1 k1 := of_decide_eq_false d1
      generalize ord l1 k1 = c at d1 d2 hcmp
      go_wp2_with fail
      refine (hcmp _).mono ?_
      rintro e w2 ⟨rfl, hb2⟩
      have HR4 : Hid (QBlk w2 q (.slice (some ⟨g, 0, none⟩) (n + 1) cp1) m dup ∧ Row B w2 (.slice (some ⟨g, 0, none⟩) (n + 1) cp1) ys ∧ Only (q :: g :: rowOf (.slice so n cp)) w w2) := ⟨HR3.out.1.below hb2, Row.below HR3.out.2.1 hb2, HR3.out.2.2.1.trans (Only.of_below hb2)⟩
      clear hb2 cp2 cq
      go_wp2_with fail
      go_end0
      refine ⟨rfl, _, ys, HR4.out.1, HR4.out.2.1, HR3.out.2.2.2.1.done (fun h1 h2 => ?_), ?_, ?_, ?_⟩
      · have h4 := HYP.out
        rw [HP.out] at h4
        rw [kat_of h4, kat_of HR3.out.2.2.2.2.1, HXX.out]
        show l1 ≤ k1
        omega
      · exact HR3.out.2.2.2.2.2
      · rw [← HN.out]; exact H1.out.2.2.1
      · refine HR4.out.2.2.mono (fun k hk hm => ?_)
        rw [← HN.out]
        simp at hm ⊢
        rcases hm with h | h | h
        · exact Or.inl h
        · right
          rcases H1.out.2.2.1 g (by simp [rowOf, Value.ownBlock]) with h2 | h2
          · rw [h]; exact h2
          · omega
        · exact Or.inr h
end Go.Proofs.YtmkbgdgfbmfbdaaDoor
