/- dxPlus. -/
import Derived.Test.YtmkbgdgfbmfbdaaDoorP18
namespace Go.Proofs.YtmkbgdgfbmfbdaaDoor
open Go.RowKit

theorem take_snoc1 {l : List Int} {b : Int} {i : Nat} {x : Int} (h : l[i]? = some x) : (((l.map (· + b)).take (i + 1)).map (Value.int .i64)) = ((l.map (· + b)).take i).map (Value.int .i64) ++ [.int .i64 (x + b)] := by
  rw [List.take_add_one, List.getElem?_map, h]
  simp
set_option maxRecDepth 100000 in
set_option maxHeartbeats 2000000 in
theorem plus_any {w : World} {so : Option Addr} {n cp : Nat} {ks : List Int} {b : Int} (hs : Ints w (.slice so n cp) ks) (hn : n ≤ 100) (hx : ∀ x ∈ ks, Small x) (hb : Small b) :
    Calls Tryd.prog 15 #[.slice so n cp, .int .i64 b] w fun e w' => ∃ s2 c2, e = .returned (.slice s2 n c2) ∧ Ints w' (.slice s2 n c2) (ks.map (· + b)) ∧ Below w.heap.size w w' := by
  obtain ⟨i0, hi, hz0, hz1, hz2⟩ := info_at infoN
  have HI : Hid (Tryd.prog.info? 3 = some i0 ∧ i0.zero = some (.int .i64 0) ∧ i0.size = 1 ∧ i0.bytes = 8) := ⟨hi, hz0, hz1, hz2⟩
  have hl := hs.len
  rw [List.length_map] at hl
  have HV : Hid (Ints w (.slice so n cp) ks ∧ ks.length = n ∧ ∀ x ∈ ks, Small x) := ⟨hs, hl, hx⟩
  obtain ⟨hb1, hb2⟩ := hb
  clear hi hz0 hz1 hz2 hs hl hx
  go_enter Tryd.func15, Tryd.ntmps15
  go_wp2_with fail
  go_loopw [5, 10] (fun sv iv wr => ∃ (i : Nat), iv = .int .i64 (i : Nat) ∧ i ≤ n ∧ Hid (wr.ownsRow w.heap.size 3 1 sv i (((ks.map (· + b)).take i).map (Value.int .i64)) ∧ Below w.heap.size w wr)) (fun _ iv _ => n - (intOf iv).toNat)
  case atStart => exact ⟨0, rfl, by omega, World.ownsRow_nil _ _ _ _, Below.refl _ _⟩
  case round =>
    obtain ⟨i, rfl, hin, hR⟩ := hrel
    have HR : Hid (wr.ownsRow w.heap.size 3 1 u5 i (((ks.map (· + b)).take i).map (Value.int .i64)) ∧ Below w.heap.size w wr) := hR
    clear hR
    obtain ⟨t5, d5, rfl⟩ := own_shape HR.out.1
    by_cases hlt : i < n
    · have z1 : (i : Int) < (n : Int) := by omega
      have z0 : (0 : Int) ≤ (i : Int) := by omega
      obtain ⟨x, hx⟩ : ∃ x, ks[i]? = some x := ⟨_, List.getElem?_eq_getElem (by rw [HV.out.2.1]; exact hlt)⟩
      have HXi := Lib.hid hx
      obtain ⟨hx1, hx2⟩ := HV.out.2.2 x (List.mem_of_getElem? hx)
      obtain ⟨b0, o0, rfl, q0⟩ := Ints.at HV.out.1 hx
      have r0 : wr.cell? ⟨b0, o0 + i, none⟩ = some (.int .i64 x) := (HR.out.2.cell (cell_lt' q0)).trans q0
      have hw2 : IntKind.i64.wrap (x + b) = x + b := by rw [IntKind.wrap_i64]; omega
      clear q0 hx
      go_wp2_with (at_builtin; go_must (refine wpList_append_own_at _ rfl (.tmp 14) (.tmp 18) 26 rfl w.heap.size 3 i0 (.int .i64 0) 1 8 Tryd.underlying26 HI.out.1 HI.out.2.1 HI.out.2.2.1 HI.out.2.2.2 rfl (by decide) (.slice t5 i d5) i _ rfl (HR.out.1.alloc _) ⟨wr.heap.size, 0, none⟩ 1 1 [.int .i64 (x + b)] rfl rfl ?c1 ?c2 ?c3 ?c4 ?c5 ?_))
      case c1 => exact two_cells
      case c2 => intro u hu; simp at hu; subst hu; rfl
      case c3 => unfold maxLen; omega
      case c4 => omega
      case c5 => have := HR.out.2.size; simp; omega
      intro v1 w1 hown hgrow _ _
      have HE : Hid (w1.ownsRow w.heap.size 3 1 v1 (i + 1) (((ks.map (· + b)).take (i + 1)).map (Value.int .i64)) ∧ Below w.heap.size w w1) := by
        refine ⟨?_, HR.out.2.trans (own_grown HR.out.1 hgrow HR.out.2.size)⟩
        rw [take_snoc1 HXi.out]
        simpa using hown
      clear hown hgrow
      go_wp2_with fail
      go_roundw
      case rel => exact ⟨i + 1, rfl, by omega, HE.out⟩
      case measure => simp [intOf]; omega
    · have z1 : ¬ (i : Int) < (n : Int) := by omega
      obtain rfl : i = n := by omega
      go_wp2_with fail
      go_ret
      have h := HR.out
      rw [List.take_of_length_le (by rw [List.length_map, HV.out.2.1]; exact Nat.le_refl _)] at h
      exact ⟨_, _, rfl, Vals.of_own h.1, h.2⟩
end Go.Proofs.YtmkbgdgfbmfbdaaDoor
