/- dfEnqueue. -/
import Derived.Test.YtalphojbkeleiaaHE
namespace Go.Proofs.Ytalphojbkeleiaa
namespace FH
open Go.RowKit

/-- A step as the laws make it. -/
def stp : Step → List Value
  | .put p => [.int .i64 1, .int .i64 0, .int .i64 p, .slice none 0 0]
  | .get => [.int .i64 3, .int .i64 0, .int .i64 0, .slice none 0 0]
  | .del n => [.int .i64 5, .int .i64 (n : Nat), .int .i64 0, .slice none 0 0]
theorem stp_mem (s : Step) : SMem (stp s) s := by
  cases s with
  | put p => exact ⟨0, rfl⟩
  | get => exact ⟨0, 0, rfl⟩
  | del n => exact ⟨0, rfl⟩
theorem stp_len (s : Step) : (stp s).length = 4 := by cases s <;> rfl
theorem steps_of {w : World} {sl : Value} {ss : List Step} (h : Recs w 4 sl (ss.map stp)) : Steps w sl ss := by
  refine ⟨_, h, List.length_map _, fun i r s h1 h2 => ?_⟩
  rw [List.getElem?_map, h2] at h1
  simp at h1
  subst h1
  exact stp_mem s
def putsOf (b : Int) (xs : List Int) : List Step := xs.map fun x => .put (x + b)
theorem putsOf_len (b : Int) (xs : List Int) : (putsOf b xs).length = xs.length := by simp [putsOf]
def Small (x : Int) : Prop := -32768 ≤ x ∧ x ≤ 32767
set_option maxRecDepth 100000 in
set_option maxHeartbeats 2000000 in
theorem enq_list {w : World} {sl : Value} {xs : List Int} {b : Int} (hs : Vals w sl (xs.map (Value.int .i16))) (hl : xs.length ≤ 100) (hx : ∀ x ∈ xs, Small x) (hb : Small b) :
    Calls Try.prog 8 #[sl, .int .i64 b] w fun e w' => ∃ sv, e = .returned sv ∧ w'.ownsRow w.heap.size 30 4 sv xs.length ((putsOf b xs).map stp).flatten ∧ Below w.heap.size w w' := by
  obtain ⟨i0, hi, hz0, hz1, hz2⟩ := info_at infoT
  have HI : Hid (Try.prog.info? 30 = some i0 ∧ i0.zero = some (.agg #[.int .i64 0, .int .i64 0, .int .i64 0, .slice none 0 0]) ∧ i0.size = 4 ∧ i0.bytes = 48) := ⟨hi, hz0, hz1, hz2⟩
  obtain ⟨so, cp, rfl⟩ := hs.shape
  rw [List.length_map]
  obtain ⟨n, hn⟩ : ∃ n, n = xs.length := ⟨_, rfl⟩
  have HN := Lib.hid hn
  have HV := Lib.hid hs
  have HX := Lib.hid hx
  rw [List.length_map, ← hn] at HV
  rw [← hn]
  have hn2 : n ≤ 100 := by omega
  obtain ⟨hb1, hb2⟩ := hb
  clear hi hz0 hz1 hz2 hs hx hn hl
  go_enter Try.func8, Try.ntmps8
  go_wp2_with fail
  go_loopw [5, 10] (fun sv iv wr => ∃ (i : Nat), iv = .int .i64 (i : Nat) ∧ i ≤ n ∧ Hid (wr.ownsRow w.heap.size 30 4 sv i (((putsOf b xs).take i).map stp).flatten ∧ Below w.heap.size w wr)) (fun _ iv _ => n - (intOf iv).toNat)
  case atStart => exact ⟨0, rfl, by omega, World.ownsRow_nil _ _ _ _, Below.refl _ _⟩
  case round =>
    obtain ⟨i, rfl, hin, hR⟩ := hrel
    have HR : Hid (wr.ownsRow w.heap.size 30 4 u5 i (((putsOf b xs).take i).map stp).flatten ∧ Below w.heap.size w wr) := hR
    clear hR
    obtain ⟨t5, d5, rfl⟩ := own_shape HR.out.1
    by_cases hlt : i < n
    · have z1 : (i : Int) < (n : Int) := by omega
      have z0 : (0 : Int) ≤ (i : Int) := by omega
      obtain ⟨x, hx⟩ : ∃ x, xs[i]? = some x := ⟨_, List.getElem?_eq_getElem (by have := HN.out; omega)⟩
      have HXi := Lib.hid hx
      obtain ⟨hx1, hx2⟩ := HX.out x (List.mem_of_getElem? hx)
      obtain ⟨_, h⟩ | ⟨b0, o0, c0, hsl, hc0, hcell⟩ := HV.out
      · exfalso
        have := HN.out
        simp at h
        rw [h] at hx
        simp at hx
      simp only [Value.slice.injEq, List.length_map] at hsl
      obtain ⟨rfl, hxx, rfl⟩ := hsl
      clear hxx
      have q0 := hcell i (by rw [List.length_map, ← HN.out]; exact hlt)
      rw [List.getElem?_map, hx] at q0
      have q0 : w.cell? ⟨b0, o0 + i, none⟩ = some (.int .i16 x) := q0
      have r0 : wr.cell? ⟨b0, o0 + i, none⟩ = some (.int .i16 x) := (HR.out.2.cell (cell_lt' q0)).trans q0
      have hw1 : IntKind.i64.wrap x = x := by rw [IntKind.wrap_i64]; omega
      have hw2 : IntKind.i64.wrap (x + b) = x + b := by rw [IntKind.wrap_i64]; omega
      clear q0 hcell hx hc0
      go_wp2_with (at_builtin; go_must (refine wpList_append_own_at _ rfl (.tmp 14) (.tmp 20) 27 rfl w.heap.size 30 i0 (.agg #[.int .i64 0, .int .i64 0, .int .i64 0, .slice none 0 0]) 4 48 Try.underlying27 HI.out.1 HI.out.2.1 HI.out.2.2.1 HI.out.2.2.2 rfl (by decide) (.slice t5 i d5) i _ rfl (HR.out.1.alloc _) ⟨wr.heap.size, 0, none⟩ 1 1 (stp (.put (x + b))) rfl rfl ?c1 ?c2 ?c3 ?c4 ?c5 ?_))
      case c1 => exact two_cells
      case c2 => intro u hu; simp [stp] at hu; rcases hu with rfl | rfl | rfl | rfl <;> rfl
      case c3 => unfold maxLen; omega
      case c4 => omega
      case c5 => have := HR.out.2.size; simp; omega
      intro v1 w1 hown hgrow _ _
      have HE : Hid (w1.ownsRow w.heap.size 30 4 v1 (i + 1) (((putsOf b xs).take (i + 1)).map stp).flatten ∧ Below w.heap.size w w1) := by
        refine ⟨?_, HR.out.2.trans (own_grown HR.out.1 hgrow HR.out.2.size)⟩
        have e : (putsOf b xs).take (i + 1) = (putsOf b xs).take i ++ [.put (x + b)] := by rw [List.take_add_one, putsOf, List.getElem?_map, HXi.out]; rfl
        rw [e, List.map_append, List.flatten_append]
        simpa using hown
      clear hown hgrow
      go_wp2_with fail
      go_roundw
      case rel => exact ⟨i + 1, rfl, by omega, HE.out⟩
      case measure => simp [intOf]; omega
    · have z1 : ¬ (i : Int) < (n : Int) := by omega
      obtain rfl : i = n := by omega
      go_wp2_with fail
      go_ret
      have h := HR.out
      rw [List.take_of_length_le (by rw [putsOf_len, HN.out]; exact Nat.le_refl _)] at h
      exact ⟨_, rfl, h⟩
end FH
end Go.Proofs.Ytalphojbkeleiaa
