/- impl.ISInsert, Int64Slice.Exists, impl.ISExists. -/
import Derived.Test.YtkjlijgeoidmiaaI3
namespace Go.Proofs.Ytkjlijgeoidmiaa
open Go.RowKit

set_option maxRecDepth 100000 in
set_option maxHeartbeats 1000000 in
theorem iInsert {w : World} {so : Option Addr} {n cp : Nat} {xs : List Int} (h : Ints w (.slice so n cp) xs) (hl : n ≤ 1000) (h0 : 0 < n) (ha : Asc xs) (x : Int) :
    Calls Try.prog 13 #[.slice so n cp, .int .i64 x] w fun e w' => ∃ v, e = .returned v ∧ w'.ownsRow w.heap.size 2 1 v (ins xs x).length ((ins xs x).map (Value.int .i64)) ∧ Below w.heap.size w w' := by
  have HH := Lib.hid h
  have HA := Lib.hid ha
  clear h ha
  go_enter Try.func13, Try.ntmps13
  go_wp2_with fail
  refine (copy_any HH.out hl h0).mono ?_
  rintro e w1 ⟨v1, rfl, hown, hb⟩
  obtain ⟨s1, c1, rfl⟩ := own_shape hown
  have H1 : Hid (w1.ownsRow w.heap.size 2 1 (.slice s1 n c1) n (xs.map (Value.int .i64)) ∧ Below w.heap.size w w1) := ⟨hown, hb⟩
  clear hown hb
  go_wp2_with fail
  refine (insert_any H1.out.1 H1.out.2.size h0 hl HA.out x).mono ?_
  rintro e w2 ⟨v2, rfl, hown, hb⟩
  obtain ⟨s2, c2, rfl⟩ := own_shape hown
  have H2 : Hid (w2.ownsRow w.heap.size 2 1 (.slice s2 (ins xs x).length c2) (ins xs x).length ((ins xs x).map (Value.int .i64)) ∧ Below w.heap.size w w2) := ⟨hown, H1.out.2.trans hb⟩
  clear hown hb
  go_wp2_with fail
  go_ret
  exact ⟨_, rfl, H2.out.1, H2.out.2⟩

set_option maxRecDepth 100000 in
set_option maxHeartbeats 1000000 in
theorem exists_any {w : World} {so : Option Addr} {n cp : Nat} {xs : List Int} (h : Ints w (.slice so n cp) xs) (hl : n ≤ 1000) (h0 : 0 < n) (ha : Asc xs) (x : Int) :
    Calls Try.prog 36 #[.slice so n cp, .int .i64 x] w fun e w' => e = .returned (.bool (decide (x ∈ xs))) ∧ Below w.heap.size w w' := by
  have hlen : xs.length = n := by have := h.len; rwa [List.length_map] at this
  have HH := Lib.hid h
  have HS := Lib.hid (search_any h hl h0 ha x)
  have HN := Lib.hid hlen
  have hhas := has_at (x := x) ha
  obtain ⟨i, hi⟩ : ∃ i, i = less xs x := ⟨_, rfl⟩
  have hile : i ≤ n := by rw [hi, ← hlen]; exact less_le xs x
  rw [← hi] at HS hhas
  have HP := Lib.hid hhas
  clear h ha hlen hhas hi
  by_cases hin : i = n
  · have z1 : ((i : Int) == (n : Int)) = true := by simp [hin]
    have e1 : decide (x ∈ xs) = false := by
      rw [decide_eq_false_iff_not, HP.out, hin, List.getElem?_eq_none (by have := HN.out; omega)]
      simp
    rw [e1]
    clear e1
    go_enter Try.func36, Try.ntmps36
    go_wp2_with fail
    refine HS.out.mono ?_
    rintro e w1 ⟨rfl, hb⟩
    have HB := Lib.hid hb
    clear hb
    go_wp2_with fail
    go_ret
    exact ⟨rfl, HB.out⟩
  · have hlt : i < n := by omega
    have z1 : ((i : Int) == (n : Int)) = false := by simp; omega
    obtain ⟨y, hy⟩ : ∃ y, xs[i]? = some y := ⟨_, List.getElem?_eq_getElem (by have := HN.out; omega)⟩
    obtain ⟨b, o, rfl, hc⟩ := Ints.at HH.out hy
    have e1 : decide (x ∈ xs) = (y == x) := by
      have h := HP.out
      rw [hy] at h
      by_cases hyx : y = x
      · rw [decide_eq_true (h.2 (by rw [hyx])), hyx]; simp
      · rw [decide_eq_false (fun hm => hyx (by simpa using h.1 hm))]
        simp [hyx]
    rw [e1]
    clear e1 hy
    have z2 : (i : Int) < (n : Int) := by omega
    go_enter Try.func36, Try.ntmps36
    go_wp2_with fail
    refine HS.out.mono ?_
    rintro e w1 ⟨rfl, hb⟩
    have HB := Lib.hid hb
    have hc1 : w1.cell? ⟨b, o + i, none⟩ = some (.int .i64 y) := (hb.cell (cell_lt' hc)).trans hc
    clear hb hc
    go_wp2_with fail
    go_ret
    exact ⟨rfl, HB.out⟩

set_option maxRecDepth 100000 in
set_option maxHeartbeats 1000000 in
theorem iExists {w : World} {so : Option Addr} {n cp : Nat} {xs : List Int} (h : Ints w (.slice so n cp) xs) (hl : n ≤ 1000) (h0 : 0 < n) (ha : Asc xs) (x : Int) :
    Calls Try.prog 16 #[.slice so n cp, .int .i64 x] w fun e w' => e = .returned (.bool (decide (x ∈ xs))) ∧ Below w.heap.size w w' := by
  have HH := Lib.hid h
  have HA := Lib.hid ha
  clear h ha
  go_enter Try.func16, Try.ntmps16
  go_wp2_with fail
  refine (copy_any HH.out hl h0).mono ?_
  rintro e w1 ⟨v1, rfl, hown, hb⟩
  obtain ⟨s1, c1, rfl⟩ := own_shape hown
  have H1 : Hid (w1.ownsRow w.heap.size 2 1 (.slice s1 n c1) n (xs.map (Value.int .i64)) ∧ Below w.heap.size w w1) := ⟨hown, hb⟩
  clear hown hb
  go_wp2_with fail
  refine (exists_any (Vals.of_own H1.out.1) hl h0 HA.out x).mono ?_
  rintro e w2 ⟨rfl, hb⟩
  have HB : Hid (Below w.heap.size w w2) := H1.out.2.trans (hb.mono H1.out.2.size)
  clear hb
  go_wp2_with fail
  go_ret
  exact ⟨rfl, HB.out⟩
end Go.Proofs.Ytkjlijgeoidmiaa
