/- impl.ints: a copy of a list; Int64Slice.Search: how many numbers of an ascending list are less. -/
import Derived.Test.YtkjlijgeoidmiaaI1
import Derived.Test.YtkjlijgeoidmiaaShelf
import Derived.Test.YtkjlijgeoidmiaaISPure
import Derived.Test.YtkjlijgeoidmiaaAppKit
import Derived.Lib.OwnBridge
namespace Go.Proofs.Ytkjlijgeoidmiaa
open Go.RowKit Go.Shelf Go.Lib Go.Sort

theorem addr_add (b o n : Nat) : (⟨b, o, none⟩ : Addr).add n = ⟨b, o + n, none⟩ := by cases n <;> simp [Addr.add]
theorem Vals.cells {w : World} {so : Option Addr} {n cp : Nat} {vs : List Value} (h : Vals w (.slice so n cp) vs) (hn : 0 < n) : ∃ b o, so = some ⟨b, o, none⟩ ∧ ∀ j u, vs[j]? = some u → w.cell? ⟨b, o + j, none⟩ = some u := by
  rcases h with ⟨h1, h2⟩ | ⟨b, o, c, h1, h2, h3⟩
  · simp at h1; omega
  · simp only [Value.slice.injEq] at h1
    refine ⟨b, o, h1.1, fun j u hj => ?_⟩
    have := (List.getElem?_eq_some_iff.1 hj).1
    rw [h3 j this, hj]

set_option maxRecDepth 100000 in
set_option maxHeartbeats 1000000 in
theorem copy_any {w : World} {so : Option Addr} {n cp : Nat} {xs : List Int} (h : Ints w (.slice so n cp) xs) (hl : n ≤ 1000) (h0 : 0 < n) :
    Calls Try.prog 33 #[.slice so n cp] w fun e w' => ∃ v, e = .returned v ∧ w'.ownsRow w.heap.size 2 1 v n (xs.map (Value.int .i64)) ∧ Below w.heap.size w w' := by
  obtain ⟨i0, hi, hz0, hz1, hz2⟩ := info_at info64
  have HI : Hid (Try.prog.info? 2 = some i0 ∧ i0.zero = some (.int .i64 0) ∧ i0.size = 1 ∧ i0.bytes = 8) := ⟨hi, hz0, hz1, hz2⟩
  clear hi hz0 hz1 hz2
  have hlen : (xs.map (Value.int .i64)).length = n * 1 := by have := h.len; omega
  obtain ⟨b, o, rfl, hc⟩ := h.cells h0
  have HC : Hid (∀ j u, (xs.map (Value.int .i64))[j]? = some u → w.cell? ((⟨b, o, none⟩ : Addr).add j) = some u) := Lib.hid fun j u hj => by
    rw [addr_add]; exact hc j u hj
  have HO : Hid (∀ u ∈ xs.map (Value.int .i64), u.oneCell' = true) := Lib.hid fun u hu => by
    obtain ⟨x, _, rfl⟩ := List.mem_map.1 hu; rfl
  have HL := Lib.hid hlen
  clear h hc hlen
  go_enter Try.func33, Try.ntmps33
  go_wp2_with (at_builtin; go_must (refine wpList_append_own2 rfl (.const (.slice none 0 0)) (.tmp 3) 68 25 rfl Try.underlying25 w.heap.size 2 i0 (.int .i64 0) 1 8 Try.underlying68 HI.out.1 HI.out.2.1 HI.out.2.2.1 HI.out.2.2.2 rfl (by decide) (.slice none 0 0) 0 [] rfl (World.ownsRow_nil _ _ _ _) ⟨b, o, none⟩ n cp (xs.map (Value.int .i64)) rfl HL.out HC.out HO.out ?c3 ?c4 ?c5 ?_))
  case c3 => unfold maxLen; omega
  case c4 => omega
  case c5 => omega
  intro v' w3 hown' hgrow _ _
  obtain ⟨so3, cp3, rfl⟩ := own_shape hown'
  have HQ : Hid (w3.ownsRow w.heap.size 2 1 (.slice so3 n cp3) n (xs.map (Value.int .i64)) ∧ Below w.heap.size w w3) := by
    try simp only [Nat.zero_add, List.nil_append] at hown'
    refine ⟨hown', (Below.refl _ _).grown hgrow (Nat.le_refl _) ?_⟩
    intro k hk
    simp [Value.ownBlock] at hk
  clear hown' hgrow
  go_wp2_with fail
  go_ret
  exact ⟨_, rfl, HQ.out.1, HQ.out.2⟩

set_option maxHeartbeats 2000000 in
/-- The search's closure: a and x in their boxes. -/
theorem closure_any (ba bx blk off n cap : Nat) (x y : Int) (i : Nat) (W : World) (hi : i < n)
    (ha : W.cell? ⟨ba, 0, none⟩ = some (.slice (some ⟨blk, off, none⟩) n cap)) (hx : W.cell? ⟨bx, 0, none⟩ = some ((Value.int .i64) x)) (hc : W.cell? ⟨blk, off + i, none⟩ = some ((Value.int .i64) y)) :
    Calls Try.prog 69 (#[.int .i64 i] ++ #[.pointer (some ⟨ba, 0, none⟩), .pointer (some ⟨bx, 0, none⟩)]) W fun e w' => e = .returned (.bool (decide (x ≤ y))) ∧ ∃ q, w' = W.drewN q := by
  have hiz : (i : Int) < (n : Int) := by omega
  go_enter Try.func69, Try.ntmps69
  go_wp2_with fail
  go_quiet (fail)
  go_wp2_with fail
  go_ret
  exact ⟨by first | rfl | simp, _, rfl⟩

set_option maxHeartbeats 2000000 in
theorem search_any {w : World} {so : Option Addr} {n cap : Nat} {xs : List Int} (h : Ints w (.slice so n cap) xs) (hl : n ≤ 1000) (h0 : 0 < n) (ha : Asc xs) (x : Int) :
    Calls Try.prog 54 #[.slice so n cap, .int .i64 x] w fun e w' => e = .returned (.int .i64 (less xs x : Nat)) ∧ Below w.heap.size w w' := by
  have hln : xs.length = n := by have := h.len; rwa [List.length_map] at this
  obtain ⟨blk, off, rfl, hcc⟩ := h.cells h0
  obtain ⟨W0, hW0⟩ : ∃ W0, W0 = (w.alloc (.cells #[.slice (some ⟨blk, off, none⟩) n cap] 68)).alloc (.cells #[.int .i64 x] 2) := ⟨_, rfl⟩
  have hsize : W0.heap.size = w.heap.size + 1 + 1 := by rw [hW0]; simp
  have ca : W0.cell? ⟨w.heap.size, 0, none⟩ = some (.slice (some ⟨blk, off, none⟩) n cap) := by rw [hW0]; exact ((Blk.new w _ _).alloc _).cell rfl
  have cx : W0.cell? ⟨w.heap.size + 1, 0, none⟩ = some ((Value.int .i64) x) := by
    rw [hW0]; have := (Blk.new (w.alloc (.cells #[.slice (some ⟨blk, off, none⟩) n cap] 68)) #[.int .i64 x] 2).cell (i := 0) (v := .int .i64 x) rfl; rw [World.size_alloc] at this; exact this
  have hB0 : Below w.heap.size w W0 := by rw [hW0]; exact ((Below.refl _ w).alloc (Nat.le_refl _) _).alloc (by simp) _
  have hA0 : xs.toArray.size = n := by simpa using hln
  have cc : ∀ i, i < n → W0.cell? ⟨blk, off + i, none⟩ = some ((Value.int .i64) xs.toArray[i]!) := fun i hi => by
    have h1 := hcc i (.int .i64 xs.toArray[i]!) (by rw [List.getElem?_map, getElem!_pos _ _ (by omega), List.getElem_toArray, List.getElem?_eq_getElem (by omega)]; rfl)
    exact (hB0.cell (cell_lt' h1)).trans h1
  have hS := Any.sort_Search (P := Try.prog) Try.search 69 #[.pointer (some ⟨w.heap.size, 0, none⟩), .pointer (some ⟨w.heap.size + 1, 0, none⟩)] n (fun i => decide (x ≤ xs.toArray[i]!)) W0 (enters_of Try.func69 (by kernel_rfl) rfl) (by omega)
    (fun m os i hi => (closure_any w.heap.size (w.heap.size + 1) blk off n cap x xs.toArray[i]! i _ hi (cell_grown (by simp [hsize]; omega) ca m os) (cell_grown (by simp only [hsize]; omega) cx m os) (cell_grown (cell_lt' (cc i hi)) (cc i hi) m os)).mono
      fun _ _ ⟨he, q, hq⟩ => ⟨he, q, #[], by rw [hq, grow_empty]⟩) (by have := asc_mono ha x; rw [hA0] at this; exact this)
  have e1 := Lib.countP_range xs.toArray (fun y => !decide (x ≤ y))
  rw [hA0] at e1
  rw [e1] at hS
  have hS2 := Lib.hid hS
  have HW := Lib.hid hW0
  have HB0 := Lib.hid hB0
  clear hS e1 ca cx cc hcc hW0 hB0 hA0
  go_enter Try.func54, Try.ntmps54
  go_wp2_with fail
  rw [← HW.out]
  refine hS2.out.mono ?_
  rintro e w' ⟨rfl, q, os, rfl⟩
  have HB : Hid (Below w.heap.size w (grow (W0.drewN q) os)) := HB0.out.trans (below_grown_sl w.heap.size W0 q os (by omega))
  go_wp2_with fail
  go_ret
  exact ⟨rfl, HB.out⟩
end Go.Proofs.Ytkjlijgeoidmiaa
