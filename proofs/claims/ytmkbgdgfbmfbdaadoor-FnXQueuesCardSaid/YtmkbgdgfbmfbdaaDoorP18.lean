/- dxTurned, dxQueue, dxFew. -/
import Derived.Test.YtmkbgdgfbmfbdaaDoorP17
namespace Go.Proofs.YtmkbgdgfbmfbdaaDoor
open Go.RowKit

set_option maxRecDepth 100000 in
set_option maxHeartbeats 2000000 in
theorem few_any (w : World) (so : Option Addr) (n cp : Nat) :
    Calls Tryd.prog 7 #[.slice so n cp] w fun e w' => e = .returned (.bool (decide (0 < n) && decide (n ≤ 30))) ∧ w = w' := by
  by_cases h : 0 < n
  · have h1 : decide (0 < n) = true := decide_eq_true h
    by_cases h2 : n ≤ 30
    · have h3 : decide (n ≤ 30) = true := decide_eq_true h2
      have h4 : decide ((n : Int) ≤ 30) = true := decide_eq_true (by omega)
      rw [h1, h3]
      go_enter Tryd.func7, Tryd.ntmps7
      go_wp2_with fail
      go_ret
      exact ⟨rfl, rfl⟩
    · have h3 : decide (n ≤ 30) = false := decide_eq_false h2
      have h4 : decide ((n : Int) ≤ 30) = false := decide_eq_false (by omega)
      rw [h1, h3]
      go_enter Tryd.func7, Tryd.ntmps7
      go_wp2_with fail
      go_ret
      exact ⟨rfl, rfl⟩
  · have h0 : n = 0 := by omega
    subst h0
    go_enter Tryd.func7, Tryd.ntmps7
    go_wp2_with fail
    go_ret
    exact ⟨rfl, rfl⟩
set_option maxRecDepth 100000 in
set_option maxHeartbeats 2000000 in
theorem turned_any {w : World} {so : Option Addr} {n cp : Nat} {xs : List Int} (hs : Vals w (.slice so n cp) (xs.map (Value.int .i16))) (hn : n ≤ 100) (h0 : 0 < n) :
    Calls Tryd.prog 16 #[.slice so n cp] w fun e w' => ∃ s2 c2 ys, e = .returned (.slice s2 n c2) ∧ Vals w' (.slice s2 n c2) (List.map (Value.int .i16) ys) ∧ ys.Perm xs ∧ Below w.heap.size w w' := by
  obtain ⟨b, o, rfl, hc⟩ := hs.cells h0
  have hl := hs.len
  have HC : Hid ((∀ j u, (xs.map (Value.int .i16))[j]? = some u → w.cell? ⟨b, o + j, none⟩ = some u) ∧ (xs.map (Value.int .i16)).length = n) := ⟨hc, hl⟩
  clear hs hc hl
  go_enter Tryd.func16, Tryd.ntmps16
  go_wp2_with fail
  refine (clone_shorts (vs := xs.map (Value.int .i16)) (by rw [HC.out.2]; omega) (by omega) HC.out.1 (fun u hu => by obtain ⟨x, _, rfl⟩ := List.mem_map.1 hu; rfl)).mono ?_
  rintro e w1 ⟨v, rfl, hown, hb⟩
  obtain ⟨g, cg, rfl⟩ := own_some hown h0
  have H1 : Hid (w1.ownsRow w.heap.size 37 1 (.slice (some ⟨g, 0, none⟩) n cg) n (xs.map (Value.int .i16)) ∧ Below w.heap.size w w1 ∧ w.heap.size ≤ g) := ⟨hown, hb, own_low hown ⟨g, 0, none⟩ _ _ rfl⟩
  clear hown hb
  go_wp2_with fail
  refine (reverse_any H1.out.1 hn).mono ?_
  rintro e w2 ⟨rfl, ys, hp, hown, ho⟩
  have H2 : Hid (ys.Perm xs ∧ w2.ownsRow w.heap.size 37 1 (.slice (some ⟨g, 0, none⟩) n cg) n (ys.map (Value.int .i16)) ∧ Below w.heap.size w w2) := ⟨hp, hown, H1.out.2.1.trans (ho.below H1.out.2.1.size (by simp; exact H1.out.2.2))⟩
  clear hp hown ho
  go_wp2_with fail
  go_ret
  exact ⟨_, _, ys, rfl, Vals.of_own H2.out.2.1, H2.out.1, H2.out.2.2⟩

theorem recs_blk {w : World} {b k : Nat} {rs : List (List Value)} {T : TypeId} (hk : ∀ r ∈ rs, r.length = k) (h : Blk w b rs.flatten.toArray T) : Recs w k (.slice (some ⟨b, 0, none⟩) rs.length rs.length) rs := by
  refine Or.inr ⟨b, 0, rs.length, rfl, Nat.le_refl _, fun i r hi j v hj => ?_⟩
  rw [Nat.zero_add]
  refine h.cell ?_
  rw [List.getElem?_toArray]
  exact flatten_get hk hi hj
theorem example_steps (w : World) : Steps ((w.alloc (.cells #[.int .i64 5, .int .i64 0, .int .i64 3, .int .i64 1] 48)).alloc (.cells #[.int .i64 1, .int .i64 0, .slice (some ⟨w.heap.size, 0, none⟩) 2 2, .int .i64 2, .int .i64 9, .slice none 0 0] 35)) (.slice (some ⟨w.heap.size + 1, 0, none⟩) 2 2) (scriptOf [[((5 : Int), (0 : Int)), (3, 1)]] 9) := by
  have hb := Blk.new (w.alloc (.cells #[.int .i64 5, .int .i64 0, .int .i64 3, .int .i64 1] 48)) #[.int .i64 1, .int .i64 0, .slice (some ⟨w.heap.size, 0, none⟩) 2 2, .int .i64 2, .int .i64 9, .slice none 0 0] 35
  rw [World.size_alloc] at hb
  refine ⟨[[.int .i64 1, .int .i64 0, .slice (some ⟨w.heap.size, 0, none⟩) 2 2], [.int .i64 2, .int .i64 9, .slice none 0 0]], recs_blk (rs := [[Value.int .i64 1, Value.int .i64 0, Value.slice (some ⟨w.heap.size, 0, none⟩) 2 2], [Value.int .i64 2, Value.int .i64 9, Value.slice none 0 0]]) (k := 3) (by intro r hr; simp at hr; rcases hr with rfl | rfl <;> rfl) hb, rfl, fun i r s h1 h2 => ?_⟩
  match i, h1, h2 with
  | 0, h1, h2 =>
    simp at h1
    simp [scriptOf] at h2
    subst h1 h2
    have hp : Pairs (w.alloc (.cells #[.int .i64 5, .int .i64 0, .int .i64 3, .int .i64 1] 48)) (.slice (some ⟨w.heap.size, 0, none⟩) 2 2) [((5 : Int), (0 : Int)), (3, 1)] := Pairs.blk (ps := [((5 : Int), (0 : Int)), (3, 1)]) (Blk.new w _ _)
    exact ⟨0, _, _, _, rfl, Recs.same hp ((Below.refl _ _).alloc (Nat.le_refl _) _)⟩
  | 1, h1, h2 =>
    simp at h1
    simp [scriptOf] at h2
    subst h1 h2
    rfl
  | n + 2, h1, h2 => simp at h1
theorem example_its : ∀ ks : List Int, Asc ks → ks.Perm (keysOf [((5 : Int), (0 : Int)), (3, 1)]) → ks = [3, 5] := fun ks h1 h2 =>
  asc_unique h1 (by unfold Asc; simp) (h2.trans (List.Perm.swap 3 5 []))
set_option maxRecDepth 100000 in
set_option maxHeartbeats 4000000 in
theorem queue_any {w : World} {so : Option Addr} {n cp : Nat} {its : List Item} (hs : Pairs w (.slice so n cp) its) (hn : n ≤ 60) (h0 : 0 < n) :
    Calls Tryd.prog 9 #[.slice so n cp] w (Sorted its w) := by
  have hl : its.length = n := by have := hs.len; simpa using this
  have HP : Hid (Pairs w (.slice so n cp) its ∧ its.length = n) := ⟨hs, hl⟩
  clear hs hl
  go_enter Tryd.func9, Tryd.ntmps9
  go_wp2_with fail
  have hW : Below w.heap.size w ((w.alloc (.cells #[.int .i64 5, .int .i64 0, .int .i64 3, .int .i64 1] 48)).alloc (.cells #[.int .i64 1, .int .i64 0, .slice (some ⟨w.heap.size, 0, none⟩) 2 2, .int .i64 2, .int .i64 9, .slice none 0 0] 35)) := ((Below.refl _ _).alloc (Nat.le_refl _) _).alloc (by simp) _
  have HW := Lib.hid hW
  clear hW
  refine (got_script (h := 0) (cs := [[((5 : Int), (0 : Int)), (3, 1)]]) (N := 9) (by omega) (example_steps w) (by decide) (by decide) (by decide) (by decide) (by decide) (by omega)).mono ?_
  rintro e w1 ⟨so1, n1, cp1, ks1, rfl, hi1, ha1, hp1, hl1, hb1⟩
  obtain rfl := example_its ks1 ha1 hp1
  obtain rfl : n1 = 2 := hl1.symm
  have H1 : Hid (Ints w1 (.slice so1 2 cp1) [3, 5] ∧ Below w.heap.size w w1 ∧ Pairs w1 (.slice so n cp) its) := by
    have hb : Below w.heap.size w w1 := HW.out.trans (hb1.mono HW.out.size)
    exact ⟨hi1, hb, Recs.same HP.out.1 hb⟩
  clear hi1 ha1 hp1 hl1 hb1
  go_wp2_with fail
  refine (puts_any (most := n) H1.out.2.2 (by rw [HP.out.2]; omega) (by omega)).mono ?_
  rintro e w2 ⟨sv2, rfl, hs2, hb2⟩
  have hcf : (chunks n its.length its).flatten = its := chunks_flat h0 _ _ (Nat.le_refl _)
  have hcl : (chunks n its.length its).length ≤ its.length := chunks_len _ _
  have hcn := chunks_ne h0 its.length its
  have hine : its ≠ [] := fun e => by have := HP.out.2; rw [e] at this; simp at this; omega
  have hcs : chunks n its.length its ≠ [] := fun e => hine (by rw [← hcf, e]; rfl)
  generalize chunks n its.length its = cs at hs2 hcf hcl hcn hcs
  have HC : Hid (cs.flatten = its ∧ cs.length ≤ n ∧ (∀ c ∈ cs, c ≠ []) ∧ cs ≠ [] ∧ its ≠ []) := ⟨hcf, by rw [← HP.out.2]; exact hcl, hcn, hcs, hine⟩
  have H2 : Hid (Steps w2 sv2 (cs.map Step.put) ∧ Below w1.heap.size w1 w2) := ⟨hs2, hb2⟩
  clear hs2 hb2 hcf hcl hcn hine hcs
  go_wp2_with fail
  refine (takes_any (N := 1000) H2.out.1 (by rw [List.length_map]; have := HC.out.2.1; omega) (by have := HC.out.2.2.2.1; simpa using this) (by omega)).mono ?_
  rintro e w3 ⟨sv3, rfl, hs3, hb3⟩
  obtain ⟨rs3, hr3, hr4⟩ := hs3
  obtain ⟨s3, c3, rfl⟩ := hr3.shape
  generalize rs3.length = n3 at hr3
  have H3 : Hid (Steps w3 (.slice s3 n3 c3) (scriptOf cs 1000) ∧ Below w2.heap.size w2 w3) := ⟨⟨rs3, hr3, hr4⟩, hb3⟩
  clear hr3 hr4 hb3
  go_wp2_with fail
  refine (got_script (h := 0) (by omega) H3.out.1 (by have := HC.out.2.1; omega) HC.out.2.2.1 (by rw [HC.out.1, HP.out.2]; omega) (by rw [HC.out.1]; exact HC.out.2.2.2.2) (by rw [HC.out.1, HP.out.2]; omega) (by omega)).mono ?_
  rintro e w4 ⟨so4, n4, cp4, ks4, rfl, hi4, ha4, hp4, hl4, hb4⟩
  rw [HC.out.1] at hp4
  have hbb : Below w1.heap.size w1 w4 := H2.out.2.trans ((H3.out.2.mono H2.out.2.size).trans (hb4.mono (Nat.le_trans H2.out.2.size H3.out.2.size)))
  have H4 : Hid (Ints w4 (.slice so4 n4 cp4) ks4 ∧ Asc ks4 ∧ ks4.Perm (keysOf its) ∧ ks4.length = n4 ∧ Below w.heap.size w w4 ∧ Ints w4 (.slice so1 2 cp1) [3, 5]) := ⟨hi4, ha4, hp4, hl4, H1.out.2.1.trans (hbb.mono H1.out.2.1.size), H1.out.1.same hbb⟩
  have hb5 : Below w4.heap.size w4 (w4.alloc (.cells #[.int .i64 3, .int .i64 5] 3)) := (Below.refl _ _).alloc (Nat.le_refl _) _
  have H5 : Hid (Ints (w4.alloc (.cells #[.int .i64 3, .int .i64 5] 3)) (.slice so1 2 cp1) [3, 5] ∧ Ints (w4.alloc (.cells #[.int .i64 3, .int .i64 5] 3)) (.slice (some ⟨w4.heap.size, 0, none⟩) 2 2) [3, 5] ∧ Below w4.heap.size w4 (w4.alloc (.cells #[.int .i64 3, .int .i64 5] 3))) := ⟨H4.out.2.2.2.2.2.same hb5, vals_blk (vs := [3, 5].map (Value.int .i64)) (Blk.new _ _ _), hb5⟩
  clear hi4 ha4 hp4 hl4 hb4 hbb hb5
  go_wp2_with fail
  refine (equal_any H5.out.1 H5.out.2.1 (by omega) (by omega)).mono ?_
  rintro e w6 ⟨he, hb6⟩
  rw [decide_eq_true rfl] at he
  subst he
  have H6 : Hid (Below w4.heap.size w4 w6) := Lib.hid (H5.out.2.2.trans (hb6.mono H5.out.2.2.size))
  clear hb6
  go_wp2_with fail
  go_ret2
  exact ⟨so4, n4, cp4, ks4, rfl, H4.out.1.same H6.out, H4.out.2.1, H4.out.2.2.1, H4.out.2.2.2.1, H4.out.2.2.2.2.1.trans (H6.out.mono H4.out.2.2.2.2.1.size)⟩
end Go.Proofs.YtmkbgdgfbmfbdaaDoor
