/- A queue with its map; Put. -/
import Derived.Test.YtmkbgdgfbmfbdaaDoorP4
namespace Go.Proofs.YtmkbgdgfbmfbdaaDoor
open Go.RowKit

theorem Row.only {B : Nat} {w w' : World} {M : List Nat} {v : Value} {xs : List Item} (h : Row B w v xs) (ho : Only M w w') (hk : ∀ k ∈ rowOf v, k ∉ M) : Row B w' v xs := by
  obtain ⟨h1, h | ⟨g, cap, cur, hv, hge, hh, r⟩⟩ := h
  · exact ⟨h1, Or.inl h⟩
  · exact ⟨h1, Or.inr ⟨g, cap, cur, hv, hge, (ho.block g (Blk.lt (show Blk w g cur _ from hh)) (hk g (by rw [hv]; simp [rowOf, Value.ownBlock]))).trans hh, r⟩⟩
/-- A queue in memory: its elements xs (in the heap's order), the elements ks that its map holds. -/
structure QS (B : Nat) (w : World) (q m : Nat) (dup : Bool) (v : Value) (xs ks : List Item) : Prop where
  blk : QBlk w q v m dup
  row : Row B w v xs
  heap : Heap xs
  map : ∃ L, IMap w pit m L ∧ mkeys L = ks
  low : B ≤ q ∧ B ≤ m
section
variable {B : Nat} {w w' : World} {q m : Nat} {dup : Bool} {v : Value} {xs ks : List Item}
theorem IMap.not_cells {L : List (Item × Value)} {cur : Array Value} {e : TypeId} (h : IMap w pit m L) (hc : w.heap[m]? = some (.cells cur e)) : False := by
  obtain ⟨E, clock, ⟨h1, _⟩, _⟩ := h
  rw [h1] at hc
  cases hc
theorem QS.mq (h : QS B w q m dup v xs ks) : m ≠ q := by
  rintro rfl
  obtain ⟨L, hL, _⟩ := h.map
  exact IMap.not_cells hL h.blk
theorem QS.mrow (h : QS B w q m dup v xs ks) : m ∉ rowOf v := fun hm => by
  obtain ⟨L, hL, _⟩ := h.map
  obtain ⟨_, cur, hc⟩ := own_block h.row (k := m) (by simpa [rowOf] using hm)
  exact IMap.not_cells hL hc
theorem QS.qlt (h : QS B w q m dup v xs ks) : q < w.heap.size := Blk.lt h.blk
theorem QS.mlt (h : QS B w q m dup v xs ks) : m < w.heap.size := by obtain ⟨L, hL, _⟩ := h.map; exact hL.lt
theorem QS.under (h : QS B w q m dup v xs ks) (hb : Below w.heap.size w w') : QS B w' q m dup v xs ks := by
  obtain ⟨L, hL, hk⟩ := h.map
  exact ⟨h.blk.below hb, Row.below h.row hb, h.heap, ⟨L, hL.same hb, hk⟩, h.low⟩
theorem QS.all_low (h : QS B w q m dup v xs ks) : ∀ k ∈ q :: m :: rowOf v, B ≤ k := fun k hk => by
  simp only [List.mem_cons] at hk
  rcases hk with rfl | rfl | hk
  · exact h.low.1
  · exact h.low.2
  · exact (h.row.rows_lt k hk).2
theorem QS.all_lt (h : QS B w q m dup v xs ks) : ∀ k ∈ q :: m :: rowOf v, k < w.heap.size := fun k hk => by
  simp only [List.mem_cons] at hk
  rcases hk with rfl | rfl | hk
  · exact h.qlt
  · exact h.mlt
  · exact (h.row.rows_lt k hk).1

theorem qs_push (h : QS B w q m dup v xs ks) (x : Item) (hB : B ≤ w.heap.size) (hl : xs.length ≤ 1000) :
    Calls Tryd.prog 44 #[.pointer (some ⟨q, 0, none⟩), pit x] w fun e w' => e = .returned (.tuple #[]) ∧ ∃ v' ys, QS B w' q m dup v' ys ks ∧ ys.Perm (xs ++ [x]) ∧ (∀ k ∈ rowOf v', k ∈ rowOf v ∨ w.heap.size ≤ k) ∧ Only (q :: m :: rowOf v) w w' := by
  refine (push_any x h.blk h.row hB h.heap hl).mono ?_
  rintro e w' ⟨rfl, v', ys, h1, h2, h3, h4, h5, h6⟩
  obtain ⟨L, hL, hk⟩ := h.map
  refine ⟨rfl, v', ys, ⟨h1, h2, h3, ⟨L, hL.only h6 ?_, hk⟩, h.low⟩, h4, h5, h6.mono (fun k _ hk => ?_)⟩
  · simp only [List.mem_cons, not_or]
    exact ⟨h.mq, h.mrow⟩
  · simp only [List.mem_cons] at hk ⊢
    rcases hk with hk | hk
    · exact Or.inl hk
    · exact Or.inr (Or.inr hk)
theorem qs_mput (h : QS B w q m dup v xs ks) {x : Item} (hx : x ∉ ks) {u : Value} {L : List (Item × Value)} (hL : IMap w pit m L ∧ mkeys L = ks) (h1 : IMap w' pit m (mput L x u)) (ho : Only [m] w w') : QS B w' q m dup v xs (ks ++ [x]) := by
  refine ⟨h.blk.only ho (by simp; exact fun e => h.mq e.symm), Row.only h.row ho (fun k hk hm => ?_), h.heap, ⟨_, h1, ?_⟩, h.low⟩
  · simp only [List.mem_singleton] at hm
    subst hm
    exact h.mrow hk
  · rw [mkeys_mput_new (by rw [hL.2]; exact hx), hL.2]
end
theorem zero_unit (w : World) : (zeroValue 97).run Tryd.prog w = .ok (.agg #[]) w := by kernel_rfl

def newKeys (dup : Bool) (ks l : List Item) : List Item := if dup then ks else ks ++ l
/-- The slice that Put takes: a row outside the queue's blocks. -/
def Its (w : World) (M : List Nat) (sl : Value) (its : List Item) : Prop := ∃ b o c, sl = .slice (some ⟨b, o, none⟩) its.length c ∧ b ∉ M ∧ ∀ (i : Nat) x, its[i]? = some x → w.cell? ⟨b, o + i, none⟩ = some (pit x)
def PutPost (B q m : Nat) (dup : Bool) (v : Value) (xs ks its : List Item) (w : World) (e : Ending) (w' : World) : Prop :=
  e = .returned .nilIface ∧ ∃ v' ys, QS B w' q m dup v' ys (newKeys dup ks its) ∧ ys.Perm (xs ++ its) ∧ (∀ k ∈ rowOf v', k ∈ rowOf v ∨ w.heap.size ≤ k) ∧ Only (q :: m :: rowOf v) w w'
theorem perm_take {xs ys zs its : List Item} {i : Nat} {x : Item} (hx : its[i]? = some x) (h1 : ys.Perm (xs ++ its.take i)) (h2 : zs.Perm (ys ++ [x])) : zs.Perm (xs ++ its.take (i + 1)) := by
  rw [List.take_add_one, hx]
  simp only [Option.toList_some]
  rw [← List.append_assoc]
  exact h2.trans (List.Perm.append_right _ h1)
theorem only_step {r r' : List Nat} {q m : Nat} {a b c : World} (h : Only (q :: m :: r) a b) (k : Only (q :: m :: r') b c) (hr : ∀ x ∈ r', x ∈ r ∨ a.heap.size ≤ x) : Only (q :: m :: r) a c :=
  h.chain k fun x hx => by
    simp only [List.mem_cons] at hx ⊢
    rcases hx with hx | hx | hx
    · exact Or.inl (Or.inl hx)
    · exact Or.inl (Or.inr (Or.inl hx))
    · rcases hr x hx with hx | hx
      · exact Or.inl (Or.inr (Or.inr hx))
      · exact Or.inr hx

set_option maxRecDepth 100000 in
set_option maxHeartbeats 4000000 in
theorem put_any {B q m : Nat} {w : World} {dup : Bool} {v sl : Value} {xs ks its : List Item} (h : QS B w q m dup v xs ks) (hs : Its w (q :: m :: rowOf v) sl its) (hB : B ≤ w.heap.size) (hl : xs.length + its.length ≤ 1000) (hi0 : its ≠ []) (hf : dup = false → (ks ++ its).Nodup) :
    Calls Tryd.prog 30 #[.pointer (some ⟨q, 0, none⟩), sl] w (PutPost B q m dup v xs ks its w) := by
  obtain ⟨b, o, c, rfl, hbM, hcell⟩ := hs
  obtain ⟨n, hn⟩ : ∃ n, n = its.length := ⟨_, rfl⟩
  have HN := Lib.hid hn
  rw [← hn] at hl
  have hn0 : n ≠ 0 := fun e => hi0 (List.length_eq_zero_iff.1 (by omega))
  have hn1 : ((n : Int) == 0) = false := by simp; exact hn0
  have hn2 : n ≤ 1000 := by omega
  have HS := Lib.hid h
  have HF := Lib.hid hf
  have HLL := Lib.hid hl
  have HC : Hid (b ∉ q :: m :: rowOf v ∧ ∀ (i : Nat) x, its[i]? = some x → w.cell? ⟨b, o + i, none⟩ = some (pit x)) := ⟨hbM, hcell⟩
  have c2 : w.cell? ⟨q, 2, none⟩ = some (.bool false) := Blk.cell h.blk rfl
  rw [show its.length = n from hn.symm]
  clear h hf hbM hcell hn hi0 hl
  go_enter Tryd.func30, Tryd.ntmps30
  go_wp2_with fail
  clear c2
  go_loopw [19] (fun iv wr => ∃ (i : Nat) (v' : Value) (ys : List Item), iv = .int .i64 (i : Nat) ∧ i ≤ n ∧ Hid (QS B wr q m dup v' ys (newKeys dup ks (its.take i)) ∧ ys.Perm (xs ++ its.take i) ∧ (∀ k ∈ rowOf v', k ∈ rowOf v ∨ w.heap.size ≤ k) ∧ Only (q :: m :: rowOf v) w wr)) (fun iv _ => n - (intOf iv).toNat)
  case atStart =>
    refine ⟨0, v, xs, rfl, by omega, ?_, ?_, fun k hk => Or.inl hk, Only.refl _ _⟩
    · have h := HS.out
      cases dup <;> simpa [newKeys] using h
    · simp
  case round =>
    obtain ⟨i, v', ys, rfl, hin, hR⟩ := hrel
    have HR : Hid (QS B wr q m dup v' ys (newKeys dup ks (its.take i)) ∧ ys.Perm (xs ++ its.take i) ∧ (∀ k ∈ rowOf v', k ∈ rowOf v ∨ w.heap.size ≤ k) ∧ Only (q :: m :: rowOf v) w wr) := hR
    clear hR
    by_cases hlt : i < n
    · have z1 : (i : Int) < (n : Int) := by omega
      have z0 : (0 : Int) ≤ (i : Int) := by omega
      obtain ⟨x, hx⟩ : ∃ x, its[i]? = some x := ⟨_, List.getElem?_eq_getElem (by have := HN.out; omega)⟩
      have HX := Lib.hid hx
      have hcw := HC.out.2 i x hx
      have hcr : wr.cell? ⟨b, o + i, none⟩ = some (pit x) := (World.cell?_of_block (HR.out.2.2.2.block b (cell_lt' hcw) HC.out.1)).trans hcw
      have c3 : wr.cell? ⟨q, 3, none⟩ = some (.bool dup) := Blk.cell HR.out.1.blk rfl
      have c1 : wr.cell? ⟨q, 1, none⟩ = some (.map (some m)) := Blk.cell HR.out.1.blk rfl
      have hBr : B ≤ wr.heap.size := Nat.le_trans hB HR.out.2.2.2.size
      have hyl : ys.length ≤ 1000 := by
        have h1 := HR.out.2.1.length_eq
        have h2 := HLL.out
        rw [List.length_append, List.length_take] at h1
        omega
      clear hcw hx
      cases dup with
      | true =>
        go_wp2_with fail
        refine (qs_push HR.out.1 x hBr hyl).mono ?_
        rintro e w2 ⟨rfl, v2, zs, h1, h2, h3, h4⟩
        have HE : Hid (QS B w2 q m true v2 zs (newKeys true ks (its.take (i + 1))) ∧ zs.Perm (xs ++ its.take (i + 1)) ∧ (∀ k ∈ rowOf v2, k ∈ rowOf v ∨ w.heap.size ≤ k) ∧ Only (q :: m :: rowOf v) w w2) := by
          refine ⟨h1, perm_take HX.out HR.out.2.1 h2, fun k hk => ?_, only_step HR.out.2.2.2 h4 HR.out.2.2.1⟩
          rcases h3 k hk with h | h
          · exact HR.out.2.2.1 k h
          · exact Or.inr (Nat.le_trans HR.out.2.2.2.size h)
        clear h1 h2 h3 h4
        go_wp2_with fail
        go_roundw
        case rel => exact ⟨i + 1, _, _, rfl, by omega, HE.out⟩
        case measure => simp [intOf]; omega
      | false =>
        have hxn : x ∉ newKeys false ks (its.take i) := by
          have h := HF.out rfl
          have h2 : its = its.take i ++ its.drop i := (List.take_append_drop i its).symm
          have h3 : x ∈ its.drop i := by
            refine List.mem_of_getElem? (i := 0) ?_
            rw [List.getElem?_drop]
            exact HX.out
          rw [h2, ← List.append_assoc] at h
          exact fun hm => (List.nodup_append.1 h).2.2 x hm x h3 rfl
        have HXN := Lib.hid hxn
        obtain ⟨L, hL, hLk⟩ := HR.out.1.map
        have k1 := run_look pkind Tryd.underlying72 (zero_unit wr) hL x true
        have k2 : mlook L x = none := mlook_none (fun p hp e => hxn (by rw [← hLk, e]; exact List.mem_map.2 ⟨p, hp, rfl⟩))
        rw [k2] at k1
        have l1 : (Instr.lookup 72 (.map (some m)) (pit x) true).run Tryd.prog wr = .ok (.tuple #[.agg #[], .bool false]) wr := k1
        have H3 : Hid (QS B (wr.alloc (.cells #[] 97)) q m false v' ys (newKeys false ks (its.take i)) ∧ IMap (wr.alloc (.cells #[] 97)) pit m L ∧ mkeys L = newKeys false ks (its.take i)) := ⟨HR.out.1.under ((Below.refl _ _).alloc (Nat.le_refl _) _), hL.same ((Below.refl _ _).alloc (Nat.le_refl _) _), hLk⟩
        have d1 : (wr.alloc (.cells #[] 97)).cell? ⟨q, 1, none⟩ = some (.map (some m)) := Blk.cell H3.out.1.blk rfl
        clear k1 k2 hL hLk hxn
        go_wp2_with (at_mapUpdate; go_must (refine wpList_mput _ rfl _ _ _ 72 rfl pkind Tryd.underlying72 _ _ rfl H3.out.2.1 x rfl ?_))
        intro w1 hm1 ho1
        have H4 : Hid (QS B w1 q m false v' ys (newKeys false ks (its.take i) ++ [x]) ∧ Only (q :: m :: rowOf v) w w1 ∧ B ≤ w1.heap.size ∧ wr.heap.size ≤ w1.heap.size) := by
          have hsz : wr.heap.size ≤ w1.heap.size := Nat.le_trans (by simp) ho1.size
          refine ⟨qs_mput H3.out.1 HXN.out H3.out.2 hm1 ho1, (HR.out.2.2.2.alloc _).trans (ho1.mono (fun k _ hk => by simp at hk ⊢; exact Or.inr (Or.inl hk))), Nat.le_trans hBr hsz, hsz⟩
        clear hm1 ho1 d1 c3 c1
        go_wp2_with fail
        refine (qs_push H4.out.1 x H4.out.2.2.1 hyl).mono ?_
        rintro e w2 ⟨rfl, v2, zs, h1, h2, h3, h4⟩
        have HE : Hid (QS B w2 q m false v2 zs (newKeys false ks (its.take (i + 1))) ∧ zs.Perm (xs ++ its.take (i + 1)) ∧ (∀ k ∈ rowOf v2, k ∈ rowOf v ∨ w.heap.size ≤ k) ∧ Only (q :: m :: rowOf v) w w2) := by
          refine ⟨?_, perm_take HX.out HR.out.2.1 h2, fun k hk => ?_, only_step H4.out.2.1 h4 HR.out.2.2.1⟩
          · have e : newKeys false ks (its.take (i + 1)) = newKeys false ks (its.take i) ++ [x] := by
              simp only [newKeys]
              rw [List.take_add_one, HX.out]
              simp
            rw [e]
            exact h1
          · rcases h3 k hk with h | h
            · exact HR.out.2.2.1 k h
            · exact Or.inr (Nat.le_trans (Nat.le_trans HR.out.2.2.2.size H4.out.2.2.2) h)
        clear h1 h2 h3 h4
        go_wp2_with fail
        go_roundw
        case rel => exact ⟨i + 1, _, _, rfl, by omega, HE.out⟩
        case measure => simp [intOf]; omega
    · have z1 : ¬ (i : Int) < (n : Int) := by omega
      go_wp2_with fail
      go_ret
      have e : its.take i = its := List.take_of_length_le (by have := HN.out; omega)
      have h := HR.out
      rw [e] at h
      exact ⟨rfl, _, _, h⟩
end Go.Proofs.YtmkbgdgfbmfbdaaDoor
