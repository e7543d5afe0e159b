/- Int64Slice.Insert: a number put into an ascending list. -/
import Derived.Test.YtkjlijgeoidmiaaI2
import Derived.Test.YtkjlijgeoidmiaaOwnKit
namespace Go.Proofs.Ytkjlijgeoidmiaa
open Go.RowKit

theorem splice_ins {xs : List Int} {x : Int} {i : Nat} {cur : List Value} {n : Nat} (hi : i < n) (hx : xs.length = n) (hc : n + 1 ≤ cur.length) (ht : cur.take (n + 1) = xs.map (Value.int .i64) ++ [.int .i64 0]) :
    ((splice cur (i + 1) ((xs.drop i).map (Value.int .i64))).set i (.int .i64 x)).take (n + 1) = (xs.take i ++ x :: xs.drop i).map (Value.int .i64) := by
  have e1 : cur.take i = (xs.take i).map (Value.int .i64) := by
    have : cur.take i = (cur.take (n + 1)).take i := by rw [List.take_take]; congr 1; omega
    rw [this, ht, List.take_append_of_le_length (by simp; omega), List.map_take]
  have e2 : cur.take (i + 1) = cur.take i ++ [cur[i]'(by omega)] := by rw [List.take_succ_eq_append_getElem]
  unfold splice
  rw [e2, e1]
  have l1 : ((xs.take i).map (Value.int .i64)).length = i := by simp; omega
  rw [List.append_assoc, List.set_append_right _ _ (by omega), l1, Nat.sub_self]
  simp only [List.cons_append, List.nil_append, List.set_cons_zero]
  have l2 : (((xs.take i).map (Value.int .i64)) ++ .int .i64 x :: (xs.drop i).map (Value.int .i64)).length = n + 1 := by simp; omega
  have e3 : ∀ z, ((xs.take i).map (Value.int .i64)) ++ Value.int .i64 x :: ((xs.drop i).map (Value.int .i64) ++ z) = (((xs.take i).map (Value.int .i64)) ++ .int .i64 x :: (xs.drop i).map (Value.int .i64)) ++ z := fun z => by simp
  rw [e3, List.take_append_of_le_length (by omega), List.take_of_length_le (by omega), List.map_append, List.map_cons]

set_option maxRecDepth 100000 in
set_option maxHeartbeats 2000000 in
theorem insert_any {w : World} {B : Nat} {so : Option Addr} {n cp : Nat} {xs : List Int} (hown : w.ownsRow B 2 1 (.slice so n cp) n (xs.map (Value.int .i64))) (hB : B ≤ w.heap.size) (h0 : 0 < n) (hl : n ≤ 1000) (ha : Asc xs) (x : Int) :
    Calls Try.prog 34 #[.slice so n cp, .int .i64 x] w fun e w' => ∃ v, e = .returned v ∧ w'.ownsRow B 2 1 v (ins xs x).length ((ins xs x).map (Value.int .i64)) ∧ Below B w w' := by
  obtain ⟨i0, hi, hz0, hz1, hz2⟩ := info_at info64
  have HI : Hid (Try.prog.info? 2 = some i0 ∧ i0.zero = some (.int .i64 0) ∧ i0.size = 1 ∧ i0.bytes = 8) := ⟨hi, hz0, hz1, hz2⟩
  clear hi hz0 hz1 hz2
  obtain ⟨g, cp', hv⟩ := own_some hown h0
  simp only [Value.slice.injEq] at hv
  obtain ⟨rfl, _, rfl⟩ := hv
  have hlen : xs.length = n := by have := hown.1; simpa using this
  have HS := Lib.hid (search_any (Vals.of_own hown) hl h0 ha x)
  have hgB := own_low hown _ _ _ rfl
  obtain ⟨i, hi⟩ : ∃ i, i = less xs x := ⟨_, rfl⟩
  have hile : i ≤ n := by rw [hi, ← hlen]; exact less_le xs x
  have hins := ins_at (x := x) ha
  rw [← hi] at HS hins
  have HN := Lib.hid hlen
  have HH := Lib.hid hins
  have HO : Hid (w.ownsRow B 2 1 (.slice (some ⟨g, 0, none⟩) n cp) n (xs.map (Value.int .i64))) := hown
  clear hi hins hown hlen
  have hgB' : B ≤ g := hgB
  clear hgB
  by_cases hin : i = n
  · have z1 : ((i : Int) == (n : Int)) = true := by simp [hin]
    have HE : Hid (ins xs x = xs ++ [x]) := by
      have h := HH.out
      have hN := HN.out
      rw [hin, List.getElem?_eq_none (by omega), if_neg (by simp), List.take_of_length_le (by omega), List.drop_eq_nil_of_le (by omega)] at h
      exact h
    clear HH
    subst hin
    go_enter Try.func34, Try.ntmps34
    go_wp2_with fail
    refine HS.out.mono ?_
    rintro e w1 ⟨rfl, hb⟩
    have H1 : Hid (w1.ownsRow B 2 1 (.slice (some ⟨g, 0, none⟩) i cp) i (xs.map (Value.int .i64)) ∧ Below B w w1) := ⟨own_same HO.out fun k _ hk => hb.block k hk, hb.mono hB⟩
    clear hb
    go_wp2_with (at_builtin; go_must (refine wpList_append_own_at _ rfl _ _ 68 rfl B 2 i0 (.int .i64 0) 1 8 Try.underlying68 HI.out.1 HI.out.2.1 HI.out.2.2.1 HI.out.2.2.2 rfl (by decide) _ _ _ rfl (H1.out.1.alloc _) ⟨w1.heap.size, 0, none⟩ 1 1 [.int .i64 x] rfl rfl ?c1 ?c2 ?c3 ?c4 ?c5 ?_))
    case c1 => exact one_cell
    case c2 => intro u hu; simp at hu; subst hu; rfl
    case c3 => unfold maxLen; omega
    case c4 => omega
    case c5 => have := H1.out.2.size; simp; omega
    intro v' w3 hown' hgrow _ _
    obtain ⟨so3, cp3, rfl⟩ := own_shape hown'
    have HQ : Hid (w3.ownsRow B 2 1 (.slice so3 (i + 1) cp3) (ins xs x).length ((ins xs x).map (Value.int .i64)) ∧ Below B w w3) := by
      refine ⟨?_, H1.out.2.trans (own_grown H1.out.1 hgrow (by have := H1.out.2.size; omega))⟩
      rw [HE.out, List.length_append, HN.out, List.map_append]
      exact hown'
    clear hown' hgrow
    go_wp2_with fail
    go_ret
    exact ⟨_, rfl, HQ.out.1, HQ.out.2⟩
  · have hlt : i < n := by omega
    have z1 : ((i : Int) == (n : Int)) = false := by simp; omega
    obtain ⟨y, hy⟩ : ∃ y, xs[i]? = some y := ⟨_, List.getElem?_eq_getElem (by have := HN.out; omega)⟩
    have hc := (own_cell HO.out (i := i) (u := .int .i64 y) (by rw [List.getElem?_map, hy]; rfl)).1
    by_cases hyx : y = x
    · subst hyx
      have HE : Hid (ins xs y = xs) := by
        have h := HH.out
        rw [if_pos hy] at h
        exact h
      clear HH hy
      go_enter Try.func34, Try.ntmps34
      go_wp2_with fail
      refine HS.out.mono ?_
      rintro e w1 ⟨rfl, hb⟩
      have H1 : Hid (w1.ownsRow B 2 1 (.slice (some ⟨g, 0, none⟩) n cp) n (xs.map (Value.int .i64)) ∧ Below B w w1) := ⟨own_same HO.out fun k _ hk => hb.block k hk, hb.mono hB⟩
      have hc1 : w1.cell? ⟨g, i, none⟩ = some (.int .i64 y) := (hb.cell (cell_lt' hc)).trans hc
      clear hb hc
      go_wp2_with fail
      go_ret
      refine ⟨_, rfl, ?_, H1.out.2⟩
      rw [HE.out, HN.out]
      exact H1.out.1
    · have hne : (y == x) = false := by simp [hyx]
      have HE : Hid (ins xs x = xs.take i ++ x :: xs.drop i) := by
        have h := HH.out
        rw [if_neg (by rw [hy]; simpa using hyx)] at h
        exact h
      clear HH hy
      go_enter Try.func34, Try.ntmps34
      go_wp2_with fail
      refine HS.out.mono ?_
      rintro e w1 ⟨rfl, hb⟩
      have H1 : Hid (w1.ownsRow B 2 1 (.slice (some ⟨g, 0, none⟩) n cp) n (xs.map (Value.int .i64)) ∧ Below B w w1) := ⟨own_same HO.out fun k _ hk => hb.block k hk, hb.mono hB⟩
      have hc1 : w1.cell? ⟨g, i, none⟩ = some (.int .i64 y) := (hb.cell (cell_lt' hc)).trans hc
      clear hb hc
      go_wp2_with (at_builtin; go_must (refine wpList_append_own_at _ rfl _ _ 68 rfl B 2 i0 (.int .i64 0) 1 8 Try.underlying68 HI.out.1 HI.out.2.1 HI.out.2.2.1 HI.out.2.2.2 rfl (by decide) _ _ _ rfl (H1.out.1.alloc _) ⟨w1.heap.size, 0, none⟩ 1 1 [.int .i64 0] rfl rfl ?c1 ?c2 ?c3 ?c4 ?c5 ?_))
      case c1 => exact one_cell
      case c2 => intro u hu; simp at hu; subst hu; rfl
      case c3 => unfold maxLen; omega
      case c4 => omega
      case c5 => have := H1.out.2.size; simp; omega
      intro v' w3 hown' hgrow _ _
      obtain ⟨g3, cp3, rfl⟩ := own_some hown' (by omega)
      have hb3 : Below B w w3 := H1.out.2.trans (own_grown H1.out.1 hgrow (by have := H1.out.2.size; omega))
      obtain ⟨cur, k1, k2, k3, k4, k5, k6, k7⟩ := own_open hown'
      have HQ : Hid (Blk w3 g3 cur.toArray 2 ∧ Below B w w3 ∧ B ≤ g3 ∧ cp3 ≤ maxLen ∧ cur.length = cp3 ∧ cur.take (n + 1) = xs.map (Value.int .i64) ++ [.int .i64 0]) := ⟨k1, hb3, k2, k4, k5, k6⟩
      obtain ⟨cs, hcs⟩ : ∃ cs, cs = (xs.drop i).map (Value.int .i64) := ⟨_, rfl⟩
      have hcl : cs.length = n - i := by rw [hcs]; simp [HN.out]
      have HCS := Lib.hid hcs
      have hsrc : Hid (∀ j v, cs[j]? = some v → w3.cell? ⟨g3, i + j, none⟩ = some v) := Lib.hid fun j v hj => by
        refine k1.cell ?_
        have hjl := (List.getElem?_eq_some_iff.1 hj).1
        rw [List.getElem?_toArray]
        have h1 : (cur.take (n + 1))[i + j]? = cur[i + j]? := by rw [List.getElem?_take, if_pos (by omega)]
        rw [← h1, k6, List.getElem?_append_left (by simp [HN.out]; omega), List.getElem?_map]
        rw [HCS.out, List.getElem?_map, List.getElem?_drop] at hj
        exact hj
      have hone : Hid (∀ v ∈ cs, v.oneCell' = true) := Lib.hid fun v hv => by
        rw [HCS.out] at hv
        obtain ⟨z, _, rfl⟩ := List.mem_map.1 hv; rfl
      have hcp : n + 1 ≤ cp3 := k3
      clear hown' hgrow hb3 k1 k2 k3 k4 k5 k6 k7 hcs hc1
      have hw1 : IntKind.i64.wrap ((i : Int) + 1) = (i : Int) + 1 := by rw [IntKind.wrap_i64]; omega
      go_wp2_with fail
      have z5 : (0 : Int) ≤ (i : Int) + 1 := by omega
      have z6 : ¬ cp3 = i + 1 := by omega
      have z7 : ¬ cp3 = i := by omega
      have z8 : (i : Int) ≤ (n : Int) + 1 := by omega
      have y1 : Hid (cs.length = Nat.min (n + 1 - i) (n - i)) := Lib.hid (by rw [hcl]; show n - i = min _ _; omega)
      have y2 : Hid (0 < cs.length → (some (⟨g3, i + 1, none⟩ : Addr)) = some ⟨g3, i + 1, none⟩ ∧ ∃ ad, some (⟨g3, i, none⟩ : Addr) = some ad ∧ ∀ j v, cs[j]? = some v → w3.drew.cell? (ad.add j) = some v) := Lib.hid fun _ => ⟨rfl, _, rfl, fun j v hj => by rw [addr_add]; exact hsrc.out j v hj⟩
      have y3 : Hid (i + 1 + cs.length ≤ cur.length) := Lib.hid (by have h1 := HQ.out.2.2.2.2.1; omega)
      have y4 : (Try.prog.info? 2).map (·.size) = some 1 := by kernel_rfl
      have y5 : Hid (w3.drew.heap[g3]? = some (.cells cur.toArray 2 (0, 0)) ∧ Below B w w3.drew) := ⟨HQ.out.1, HQ.out.2.1.drew⟩
      have Y4 := Lib.hid y4
      clear y4
      go_region_law ((refine step_copy_splice rfl (.tmp 30) (.tmp 33) 68 68 rfl 2 Try.underlying68 Y4.out (some ⟨g3, i + 1, none⟩) (some ⟨g3, i, none⟩) (n - i) (cp3 - (i + 1)) (n + 1 - i) (cp3 - i) (by simp [go_sem]) (by simp [go_sem]) g3 (i + 1) cur 2 y5.out.1 cs y1.out y2.out y3.out hone.out B w y5.out.2 HQ.out.2.2.1 ?_; intro w4 hg4 hb4))
      have hspl : (splice cur (i + 1) cs).length = cp3 := by rw [length_splice _ _ _ y3.out]; exact HQ.out.2.2.2.2.1
      have f4 : w4.frozen? ⟨g3, i, none⟩ = false := Blk.free hg4.out i
      have d4 : w4.cell? ⟨g3, i, none⟩ = some ((splice cur (i + 1) cs)[i]'(by omega)) := Blk.cell hg4.out (by rw [List.getElem?_toArray, List.getElem?_eq_getElem])
      generalize (splice cur (i + 1) cs)[i]'(by omega) = u4 at d4
      have HF : Hid (Blk (w4.setCell ⟨g3, i, none⟩ (.int .i64 x)) g3 ((splice cur (i + 1) cs).set i (.int .i64 x)).toArray 2 ∧ Below B w (w4.setCell ⟨g3, i, none⟩ (.int .i64 x))) := by
        have h := Blk.set hg4.out i (.int .i64 x)
        rw [List.setIfInBounds_toArray] at h
        exact ⟨h, hb4.setCell HQ.out.2.2.1 _⟩
      clear hg4 hb4
      have z9 : (i : Int) < (n : Int) + 1 := by omega
      go_wp2_with fail
      go_ret
      refine ⟨_, rfl, ?_, HF.out.2⟩
      have h := own_shut (n := n + 1) HF.out.1 HQ.out.2.2.1 hcp HQ.out.2.2.2.1 (by rw [List.length_set]; exact hspl)
      rw [HCS.out, splice_ins hlt HN.out (by have := HQ.out.2.2.2.2.1; omega) HQ.out.2.2.2.2.2, ← HE.out] at h
      have e : (ins xs x).length = n + 1 := by rw [HE.out]; simp [HN.out]; omega
      rw [e]
      exact h
end Go.Proofs.Ytkjlijgeoidmiaa
