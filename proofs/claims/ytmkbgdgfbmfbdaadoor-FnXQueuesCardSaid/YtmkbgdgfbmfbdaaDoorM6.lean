/- prepareForSymMerge. -/
import Derived.Test.YtmkbgdgfbmfbdaaDoorM5
namespace Go.Proofs.YtmkbgdgfbmfbdaaDoor.MG
open Go.RowKit

theorem infoM : (Tryd.prog.info? 59).map (fun i => (i.zero, i.size, i.bytes)) = some (some .nilIface, 1, 16) := by kernel_rfl
theorem addr_add (b o n : Nat) : (⟨b, o, none⟩ : Addr).add n = ⟨b, o + n, none⟩ := by cases n <;> simp [Addr.add]
theorem one_all (L : List Item) : ∀ u ∈ L.map mit, u.oneCell' = true := fun u hu => by
  obtain ⟨x, _, rfl⟩ := List.mem_map.1 hu; rfl
theorem splice_full {α : Type} {cur cs : List α} (h : cur.length = cs.length) : splice cur 0 cs = cs := by
  unfold splice
  rw [List.drop_eq_nil_of_le (by omega)]
  simp
theorem made (c : Nat) (hc : c ≤ 1000) (w : World) : (Instr.makeSlice 55 (.int .i64 (c : Nat)) (.int .i64 (c : Nat))).run Tryd.prog w = .ok (.slice (some ⟨w.heap.size, 0, none⟩) c c) (w.alloc (.cells (madeCells #[.nilIface] c) 59)) := by
  obtain ⟨i0, hi, hz0, hz1, hz2⟩ := info_at infoM
  have h := run_make (P := Tryd.prog) w 55 59 i0 .nilIface Tryd.underlying55 hi hz0 .i64 .i64 (c : Int) (c : Int) (by omega) (by omega) (by rw [hz2]; omega) (by omega)
  rw [hz1] at h
  simpa [Value.cells] using h
theorem made_len (c : Nat) : (madeCells #[.nilIface] c).toList.length = c := by
  rw [Array.length_toList, size_madeCells]
theorem alloc_setRow (w : World) (c c' : Array Value) (E : TypeId) : (w.alloc (.cells c E)).setRow w.heap.size c' = w.alloc (.cells c' E) := by
  have e : (w.heap.push (.cells c E)).modify w.heap.size (fun | .cells _ elem frozen => .cells c' elem frozen | o => o) = w.heap.push (.cells c' E) := by
    apply Array.ext_getElem?
    intro j
    rw [Array.getElem?_modify, Array.getElem?_push, Array.getElem?_push]
    by_cases h : w.heap.size = j
    · subst h; simp
    · rw [if_neg h]
      by_cases h2 : j = w.heap.size
      · exact absurd h2.symm h
      · rw [if_neg h2, if_neg h2]
  exact congrArg (fun h => World.mk h w.tape w.drawn w.os w.output) e
/-- A new row is filled by a copy. -/
theorem run_fill {w : World} {i : Nat} {A : List Value} {sp : Option Addr} (hA : A.length = i) (h1 : ∀ u ∈ A, u.oneCell' = true) (c : Nat)
    (hs : 0 < i → ∃ ad, sp = some ad ∧ ∀ j v, A[j]? = some v → (w.alloc (.cells (madeCells #[.nilIface] i) 59)).cell? (ad.add j) = some v) :
    (Builtin.copy_ #[55, 55] 3 #[.slice (some ⟨w.heap.size, 0, none⟩) i i, .slice sp i c]).run Tryd.prog (w.alloc (.cells (madeCells #[.nilIface] i) 59)) = .ok (.int .i64 (i : Nat)) (w.alloc (.cells A.toArray 59)) := by
  obtain ⟨i0, hi, hz0, hz1, hz2⟩ := info_at infoM
  have hsz : (Tryd.prog.info? 59).map (·.size) = some 1 := by rw [hi]; simp [hz1]
  by_cases h0 : i = 0
  · subst h0
    obtain rfl : A = [] := List.eq_nil_of_length_eq_zero hA
    have h := run_copy_none (P := Tryd.prog) (w.alloc (.cells (madeCells #[.nilIface] 0) 59)) 55 55 3 59 (some ⟨w.heap.size, 0, none⟩) sp 0 0 0 c Tryd.underlying55 hsz rfl
    have e : madeCells #[.nilIface] 0 = #[] := Array.eq_empty_of_size_eq_zero (size_madeCells _ _)
    rw [e] at h ⊢
    exact h
  · obtain ⟨ad, rfl, hc⟩ := hs (by omega)
    have h := run_copy_row (P := Tryd.prog) (w.alloc (.cells (madeCells #[.nilIface] i) 59)) 55 55 3 59 w.heap.size 0 i i ad i c (madeCells #[.nilIface] i) 59 A Tryd.underlying55 hsz (Blk.new w _ _) (by rw [hA]; exact (Nat.min_self i).symm) hc (by rw [hA, size_madeCells]; simp) h1
    rw [alloc_setRow, List.take_zero, List.nil_append, List.drop_eq_nil_of_le (by rw [made_len, hA]; omega), List.append_nil, hA] at h
    exact h
set_option maxRecDepth 100000 in
theorem len_any (so : Option Addr) (n cp : Nat) (w : World) : Calls Tryd.prog 39 #[.slice so n cp] w fun e w' => e = .returned (.int .i64 (n : Nat)) ∧ w = w' := by
  go_enter Tryd.func39, Tryd.ntmps39
  go_wp2_with fail
  go_ret
  exact ⟨rfl, rfl⟩
theorem map_cell {L : List Item} {j : Nat} {u : Value} (h : (L.map mit)[j]? = some u) : j < L.length ∧ u = mit (gt_ L j) := by
  have hj := (List.getElem?_eq_some_iff.1 h).1
  rw [List.length_map] at hj
  rw [List.getElem?_map, at_gt hj] at h
  exact ⟨hj, by simpa using h.symm⟩
theorem gt_take {L : List Item} {k j : Nat} (h : j < k) : gt_ (L.take k) j = gt_ L j := by
  unfold gt_
  rw [List.getD_eq_getElem?_getD, List.getD_eq_getElem?_getD, List.getElem?_take, if_pos h]
theorem gt_drop {L : List Item} {k j : Nat} : gt_ (L.drop k) j = gt_ L (k + j) := by
  unfold gt_
  rw [List.getD_eq_getElem?_getD, List.getD_eq_getElem?_getD, List.getElem?_drop]

/-- What the parts of two lists are, the shorter one (n elements, U) and the longer one (m elements, V). -/
def Parts (w : World) (U V : List Item) (n m gw capw : Nat) (e : Ending) (w' : World) : Prop :=
  ∃ i d k g1 g2 : Nat, d + i = n ∧ k + i = (m - n) / 2 + n ∧ i ≤ n ∧ 0 < k ∧ k < m ∧ m ≤ capw ∧
    (∀ a, a < i → ky U a ≤ ky V (k + (i - 1 - a))) ∧ (∀ a, i ≤ a → a < n → ky V (k + i - 1 - a) < ky U a) ∧
    e = .returned (.tuple #[.slice (some ⟨g1, 0, none⟩) i i, .slice (some ⟨gw, 0, none⟩) k capw, .slice (some ⟨g2, 0, none⟩) d d, .slice (some ⟨gw, k, none⟩) (m - k) (capw - k)]) ∧
    Row w.heap.size w' g1 i i (U.take i) ∧ Row w.heap.size w' g2 d d (U.drop i) ∧ g1 ≠ g2 ∧ Reads w' gw 0 k (V.take k) ∧ Reads w' gw k (m - k) (V.drop k) ∧ Below w.heap.size w w'

set_option maxRecDepth 1000000 in
set_option maxHeartbeats 4000000 in
theorem prepare_any {w : World} {B1 B2 gu n capu gw m capw : Nat} {U V : List Item} (hU : Row B1 w gu n capu U) (hV : Row B2 w gw m capw V) (hm : m ≤ 1000) (hnm : n + 2 ≤ m) (su : Srt U 0 n) (sv : Srt V 0 m) :
    Calls Tryd.prog 27 #[.slice (some ⟨gu, 0, none⟩) n capu, .slice (some ⟨gw, 0, none⟩) m capw] w fun e w' => Parts w U V n m gw capw e w' := by
  obtain ⟨i0, hi, hz0, hz1, hz2⟩ := info_at infoM
  have HI : Hid (Tryd.prog.info? 59 = some i0 ∧ i0.zero = some .nilIface ∧ i0.size = 1 ∧ i0.bytes = 16) := ⟨hi, hz0, hz1, hz2⟩
  clear hi hz0 hz1 hz2
  obtain ⟨curV, o1, o2, o3, o4, o5, o6, o7⟩ := own_open hV
  obtain ⟨curU, p1, p2, p3, p4, p5, p6, p7⟩ := own_open hU
  rw [List.length_map] at o7 p7
  have hgw : gw < w.heap.size := Blk.lt o1
  have hgu : gu < w.heap.size := Blk.lt p1
  have hcw : m ≤ capw := o3
  have hcu : n ≤ capu := p3
  have HU : Hid ((∀ k, k < n → w.cell? ⟨gu, k, none⟩ = some (mit (gt_ U k))) ∧ U.length = n ∧ Srt U 0 n) := ⟨fun k hk => (hU.at_ hk).1, p7, su⟩
  have HV : Hid ((∀ k, k < m → w.cell? ⟨gw, k, none⟩ = some (mit (gt_ V k))) ∧ V.length = m ∧ Srt V 0 m ∧ Blk w gw curV.toArray 59 ∧ curV.length = capw ∧ curV.take m = V.map mit) := ⟨fun k hk => (hV.at_ hk).1, o7, sv, o1, o5, o6⟩
  clear hU hV su sv o1 o2 o3 o4 o5 o6 o7 p1 p2 p3 p4 p5 p6 p7
  obtain ⟨oh, hoh⟩ : ∃ oh, oh = (m - n) / 2 := ⟨_, rfl⟩
  have h1 : 0 < oh := by omega
  have h2 : oh + n < m := by omega
  have HOH := Lib.hid hoh
  clear hoh
  have RU : Hid (Reads w gu 0 n U) := ⟨HU.out.2.1, fun k hk => by rw [Nat.zero_add]; exact HU.out.1 k hk⟩
  have RV : Hid (Reads w gw oh n ((V.drop oh).take n)) := ⟨by rw [List.length_take, List.length_drop, HV.out.2.1]; omega, fun k hk => by rw [gt_take hk, gt_drop]; exact HV.out.1 _ (by omega)⟩
  have SV : Hid (Srt ((V.drop oh).take n) 0 n) := fun a b ha hab hb => by
    unfold ky
    rw [gt_take (by omega), gt_take hb, gt_drop, gt_drop]
    exact HV.out.2.2.1 _ _ (by omega) (by omega) (by omega)
  have z0 : ¬ (m : Int) < (n : Int) := by omega
  go_enter Tryd.func27, Tryd.ntmps27
  go_wp2_with fail
  refine (len_any _ _ _ _).mono ?_
  rintro e w' ⟨rfl, rfl⟩
  go_wp2_with fail
  refine (len_any _ _ _ _).mono ?_
  rintro e w' ⟨rfl, rfl⟩
  go_wp2_with fail
  refine (decompose_any (by omega) hnm hm hcw oh HOH.out).mono ?_
  rintro e w' ⟨rfl, rfl⟩
  go_wp2_with fail
  refine (symSearch_any RU.out RV.out (by omega) HU.out.2.2 SV.out).mono ?_
  rintro e w1 ⟨⟨i, rfl, hsp⟩, hb1⟩
  have hi := hsp.high
  have H1 : Hid (Split U ((V.drop oh).take n) n i ∧ Below w.heap.size w w1) := ⟨hsp, hb1⟩
  have s1 := hb1.size
  clear hsp hb1
  obtain ⟨d, hd⟩ : ∃ d, d = n - i := ⟨_, rfl⟩
  have hdi : d + i = n := by omega
  have HD := Lib.hid hd
  clear hd
  obtain ⟨k, hk⟩ : ∃ k, k = oh + d := ⟨_, rfl⟩
  have HK := Lib.hid hk
  have q1 : k < m := by omega
  have q2 : 0 < k := by omega
  have q3 : k + i = oh + n := by omega
  have HKI := Lib.hid q3
  clear hk q3
  obtain ⟨A1, hA1⟩ : ∃ c, c = (U.take i).map mit := ⟨_, rfl⟩
  obtain ⟨A2, hA2⟩ : ∃ c, c = (U.drop i).map mit := ⟨_, rfl⟩
  obtain ⟨A3, hA3⟩ : ∃ c, c = ((V.drop oh).take d).map mit := ⟨_, rfl⟩
  obtain ⟨A4, hA4⟩ : ∃ c, c = (V.drop (oh + n)).map mit := ⟨_, rfl⟩
  have one1 : Hid ((∀ u ∈ A1, u.oneCell' = true) ∧ (∀ u ∈ A2, u.oneCell' = true) ∧ (∀ u ∈ A3, u.oneCell' = true) ∧ (∀ u ∈ A4, u.oneCell' = true)) := by
    rw [hA1, hA2, hA3, hA4]; exact ⟨one_all _, one_all _, one_all _, one_all _⟩
  have HA := Lib.hid (And.intro hA1 (And.intro hA2 (And.intro hA3 hA4)))
  clear hA1 hA2 hA3 hA4
  have y1 : Hid (i = A1.length) := Lib.hid (by rw [HA.out.1, List.length_map, List.length_take, HU.out.2.1]; omega)
  have y2 : Hid (d = A2.length) := Lib.hid (by rw [HA.out.2.1, List.length_map, List.length_drop, HU.out.2.1]; exact HD.out)
  have c1 : Hid (∀ W, Below w.heap.size w W → ∀ j v, A1[j]? = some v → W.cell? ((⟨gu, 0, none⟩ : Addr).add j) = some v) := Lib.hid fun W hW j v hj => by
    rw [HA.out.1] at hj
    obtain ⟨j1, rfl⟩ := map_cell hj
    rw [List.length_take] at j1
    rw [addr_add, Nat.zero_add, gt_take (by omega)]
    have h := HU.out.1 j (by omega)
    exact (hW.cell (cell_lt' h)).trans h
  have c2 : Hid (∀ W, Below w.heap.size w W → ∀ j v, A3[j]? = some v → W.cell? ((⟨gw, oh, none⟩ : Addr).add j) = some v) := Lib.hid fun W hW j v hj => by
    rw [HA.out.2.2.1] at hj
    obtain ⟨j1, rfl⟩ := map_cell hj
    rw [List.length_take] at j1
    rw [addr_add, gt_take (by omega), gt_drop]
    have h := HV.out.1 (oh + j) (by omega)
    exact (hW.cell (cell_lt' h)).trans h
  have c3 : Hid (∀ W, Below w.heap.size w W → ∀ j v, A2[j]? = some v → W.cell? ((⟨gu, i, none⟩ : Addr).add j) = some v) := Lib.hid fun W hW j v hj => by
    rw [HA.out.2.1] at hj
    obtain ⟨j1, rfl⟩ := map_cell hj
    rw [List.length_drop] at j1
    have := HU.out.2.1
    rw [addr_add, gt_drop]
    have h := HU.out.1 (i + j) (by omega)
    exact (hW.cell (cell_lt' h)).trans h
  have c5 : Hid (∀ W, Below w.heap.size w W → ∀ j v, A4[j]? = some v → W.cell? ((⟨gw, oh + n, none⟩ : Addr).add j) = some v) := Lib.hid fun W hW j v hj => by
    rw [HA.out.2.2.2] at hj
    obtain ⟨j1, rfl⟩ := map_cell hj
    rw [List.length_drop] at j1
    have := HV.out.2.1
    rw [addr_add, gt_drop]
    have h := HV.out.1 (oh + n + j) (by omega)
    exact (hW.cell (cell_lt' h)).trans h
  have n1 : Hid (A3.length = d) := Lib.hid (by rw [HA.out.2.2.1, List.length_map, List.length_take, List.length_drop, HV.out.2.1]; omega)
  have n2 : Hid (A4.length = m - (oh + n)) := Lib.hid (by rw [HA.out.2.2.2, List.length_map, List.length_drop, HV.out.2.1])
  have e1 : Hid ((curV.drop (0 + oh)).take d = A3) := Lib.hid (by
    rw [HA.out.2.2.1, Nat.zero_add, List.map_take, List.map_drop, ← HV.out.2.2.2.2.2, List.drop_take, List.take_take]
    congr 1; omega)
  have e2 : Hid ((curV.drop (k + i)).take (m - (oh + n)) = A4) := Lib.hid (by
    rw [HA.out.2.2.2, List.map_drop, ← HV.out.2.2.2.2.2, List.drop_take, HKI.out])
  have HW1 : Hid (Below w.heap.size w (w1.alloc (.cells A1.toArray 59))) := H1.out.2.alloc s1 _
  have HW2 : Hid (Below w.heap.size w ((w1.alloc (.cells A1.toArray 59)).alloc (.cells A2.toArray 59))) := HW1.out.alloc HW1.out.size _
  have ro1 : oh + d ≤ capw := by omega
  have ro2 : Hid (0 + oh + d ≤ curV.length) := Lib.hid (by have := HV.out.2.2.2.2.1; omega)
  have ro3 : i + (m - (oh + n)) ≤ capw - k := by have := HKI.out; omega
  have ro4 : Hid (k + i + (m - (oh + n)) ≤ curV.length) := Lib.hid (by have := HV.out.2.2.2.2.1; have := HKI.out; omega)
  have fU : ∀ L : List Item, ∀ c, L.length = c → c ≤ 1000 → ∀ g, w.heap.size ≤ g → Blk ((w1.alloc (.cells A1.toArray 59)).alloc (.cells A2.toArray 59)) g (L.map mit).toArray 59 → Row w.heap.size ((w1.alloc (.cells A1.toArray 59)).alloc (.cells A2.toArray 59)) g c c L := fun L c hL hc g hg hb => by
    have h := own_shut (n := c) (cap := c) hb hg (Nat.le_refl _) (by unfold maxLen; omega) (by rw [List.length_map]; exact hL)
    rw [List.take_of_length_le (by rw [List.length_map]; omega)] at h
    exact h
  have g4 : ∀ j, j < n → gt_ ((V.drop oh).take n) j = gt_ V (oh + j) := fun j hj => by rw [gt_take hj, gt_drop]
  have fin : Hid (Parts w U V n m gw capw (.returned (.tuple #[.slice (some ⟨w1.heap.size, 0, none⟩) i i, .slice (some ⟨gw, 0, none⟩) k capw, .slice (some ⟨w1.heap.size + 1, 0, none⟩) d d, .slice (some ⟨gw, k, none⟩) (m - k) (capw - k)])) ((w1.alloc (.cells A1.toArray 59)).alloc (.cells A2.toArray 59))) := by
    refine ⟨i, d, k, w1.heap.size, w1.heap.size + 1, hdi, by have := HKI.out; have := HOH.out; omega, hi, q2, q1, hcw, fun a ha => ?_, fun a ha ha' => ?_, rfl, fU _ _ (by have := y1.out; rw [HA.out.1, List.length_map] at this; exact this.symm) (by omega) _ s1 (by rw [← HA.out.1]; exact (Blk.new w1 _ _).alloc _), fU _ _ (by have := y2.out; rw [HA.out.2.1, List.length_map] at this; exact this.symm) (by omega) _ (by omega) (by rw [← HA.out.2.1]; have h := Blk.new (w1.alloc (.cells A1.toArray 59)) A2.toArray 59; rw [World.size_alloc] at h; exact h), by omega, ⟨by rw [List.length_take, HV.out.2.1]; omega, fun j hj => ?_⟩, ⟨by rw [List.length_drop, HV.out.2.1], fun j hj => ?_⟩, HW2.out⟩
    · have h := H1.out.1.yes a ha
      unfold ky at h ⊢
      rw [g4 _ (by omega)] at h
      rw [show k + (i - 1 - a) = oh + (n - 1 - a) by have := HKI.out; omega]
      exact h
    · have h := H1.out.1.no a ha ha'
      unfold ky at h ⊢
      rw [g4 _ (by omega)] at h
      rw [show k + i - 1 - a = oh + (n - 1 - a) by have := HKI.out; omega]
      exact h
    · rw [Nat.zero_add, gt_take hj]
      have h := HV.out.1 j (by omega)
      exact (HW2.out.cell (cell_lt' h)).trans h
    · rw [gt_drop]
      have h := HV.out.1 (k + j) (by omega)
      exact (HW2.out.cell (cell_lt' h)).trans h
  clear fU g4
  have mk1 := made i (by omega)
  have mk2 := made d (by omega)
  have hcp1 : ∀ c, (Builtin.copy_ #[55, 55] 3 #[.slice (some ⟨w1.heap.size, 0, none⟩) i i, .slice (some ⟨gu, 0, none⟩) i c]).run Tryd.prog (w1.alloc (.cells (madeCells #[.nilIface] i) 59)) = .ok (.int .i64 (i : Nat)) (w1.alloc (.cells A1.toArray 59)) :=
    fun c => run_fill (sp := some ⟨gu, 0, none⟩) y1.out.symm one1.out.1 c (fun _ => ⟨_, rfl, c1.out _ (H1.out.2.alloc s1 _)⟩)
  have x1 : i ≤ capu := by omega
  have x2 : (i : Int) ≤ (capu : Int) := by omega
  have x3 : (i : Int) ≤ (n : Int) := by omega
  have x4 : IntKind.i64.wrap ((n : Int) - (i : Int)) = (d : Int) := by rw [IntKind.wrap_i64]; omega
  have x5 : (d : Int) ≤ (n : Int) := by omega
  have x6 : (d : Int) ≤ ((capw - oh : Nat) : Int) := by omega
  have x7 : d ≤ n := by omega
  have x8 : d ≤ capw - oh := by omega
  have x9 : ¬ capw - oh = d := by omega
  have v9 : oh + d = k := HK.out.symm
  have v10 : n - d = i := by omega
  have v11 : capw - oh - d = capw - k := by have := HK.out; omega
  have v12 : i + (m - (oh + n)) = m - k := by have := HKI.out; omega
  have v13 : n - i = d := HD.out.symm
  clear hi
  by_cases hci : capu = i
  · have hd0 : ¬ 0 < d := by omega
    have hcp2 : ∀ c, (Builtin.copy_ #[55, 55] 3 #[.slice (some ⟨w1.heap.size + 1, 0, none⟩) d d, .slice (some ⟨gu, 0, none⟩) d c]).run Tryd.prog ((w1.alloc (.cells A1.toArray 59)).alloc (.cells (madeCells #[.nilIface] d) 59)) = .ok (.int .i64 (d : Nat)) ((w1.alloc (.cells A1.toArray 59)).alloc (.cells A2.toArray 59)) := fun c => by
      have h := run_fill (w := (w1.alloc (.cells A1.toArray 59))) (sp := some ⟨gu, 0, none⟩) y2.out.symm one1.out.2.1 c (fun h0 => absurd h0 (by omega))
      rw [World.size_alloc] at h
      exact h
    go_wp2_with (at_builtin; first
      | refine wpList_append_same rfl (.tmp 36) (.tmp 42) 55 rfl 59 i0 Tryd.underlying55 HI.out.1 HI.out.2.2.1 gw 0 oh capw curV (HV.out.2.2.2.1.below HW1.out hgw) ⟨gw, oh, none⟩ d _ rfl rfl A3 n1.out (c2.out _ HW1.out) one1.out.2.2.1 ro1 ro2.out e1.out ?_
      | refine wpList_append_same rfl (.tmp 59) (.tmp 60) 55 rfl 59 i0 Tryd.underlying55 HI.out.1 HI.out.2.2.1 gw k i (capw - k) curV (HV.out.2.2.2.1.below HW2.out hgw) ⟨gw, oh + n, none⟩ (m - (oh + n)) _ rfl rfl A4 n2.out (c5.out _ HW2.out) one1.out.2.2.2 ro3 ro4.out e2.out ?_)
    refine bodyPost_ret (v := .tuple #[.slice (some ⟨w1.heap.size, 0, none⟩) i i, .slice (some ⟨gw, 0, none⟩) k capw, .slice (some ⟨w1.heap.size + 1, 0, none⟩) d d, .slice (some ⟨gw, k, none⟩) (m - k) (capw - k)]) (by simp [results, Tryd.results27, go_sem]) rfl ?_
    exact fin.out
  · skip
    have hcp2 : ∀ c, (Builtin.copy_ #[55, 55] 3 #[.slice (some ⟨w1.heap.size + 1, 0, none⟩) d d, .slice (some ⟨gu, i, none⟩) d c]).run Tryd.prog ((w1.alloc (.cells A1.toArray 59)).alloc (.cells (madeCells #[.nilIface] d) 59)) = .ok (.int .i64 (d : Nat)) ((w1.alloc (.cells A1.toArray 59)).alloc (.cells A2.toArray 59)) := fun c => by
      have h := run_fill (w := (w1.alloc (.cells A1.toArray 59))) (sp := some ⟨gu, i, none⟩) y2.out.symm one1.out.2.1 c (fun _ => ⟨_, rfl, c3.out _ (HW1.out.alloc HW1.out.size _)⟩)
      rw [World.size_alloc] at h
      exact h
    go_wp2_with (at_builtin; first
      | refine wpList_append_same rfl (.tmp 36) (.tmp 42) 55 rfl 59 i0 Tryd.underlying55 HI.out.1 HI.out.2.2.1 gw 0 oh capw curV (HV.out.2.2.2.1.below HW1.out hgw) ⟨gw, oh, none⟩ d _ rfl rfl A3 n1.out (c2.out _ HW1.out) one1.out.2.2.1 ro1 ro2.out e1.out ?_
      | refine wpList_append_same rfl (.tmp 59) (.tmp 60) 55 rfl 59 i0 Tryd.underlying55 HI.out.1 HI.out.2.2.1 gw k i (capw - k) curV (HV.out.2.2.2.1.below HW2.out hgw) ⟨gw, oh + n, none⟩ (m - (oh + n)) _ rfl rfl A4 n2.out (c5.out _ HW2.out) one1.out.2.2.2 ro3 ro4.out e2.out ?_)
    refine bodyPost_ret (v := .tuple #[.slice (some ⟨w1.heap.size, 0, none⟩) i i, .slice (some ⟨gw, 0, none⟩) k capw, .slice (some ⟨w1.heap.size + 1, 0, none⟩) d d, .slice (some ⟨gw, k, none⟩) (m - k) (capw - k)]) (by simp [results, Tryd.results27, go_sem]) rfl ?_
    exact fin.out

set_option maxRecDepth 1000000 in
set_option maxHeartbeats 4000000 in
theorem prepare_turned {w : World} {B1 B2 gu n capu gw m capw : Nat} {U V : List Item} (hU : Row B1 w gu n capu U) (hV : Row B2 w gw m capw V) (hm : m ≤ 1000) (hnm : n + 2 ≤ m) (su : Srt U 0 n) (sv : Srt V 0 m) :
    Calls Tryd.prog 27 #[.slice (some ⟨gw, 0, none⟩) m capw, .slice (some ⟨gu, 0, none⟩) n capu] w fun e w' => Parts w U V n m gw capw e w' := by
  obtain ⟨i0, hi, hz0, hz1, hz2⟩ := info_at infoM
  have HI : Hid (Tryd.prog.info? 59 = some i0 ∧ i0.zero = some .nilIface ∧ i0.size = 1 ∧ i0.bytes = 16) := ⟨hi, hz0, hz1, hz2⟩
  clear hi hz0 hz1 hz2
  obtain ⟨curV, o1, o2, o3, o4, o5, o6, o7⟩ := own_open hV
  obtain ⟨curU, p1, p2, p3, p4, p5, p6, p7⟩ := own_open hU
  rw [List.length_map] at o7 p7
  have hgw : gw < w.heap.size := Blk.lt o1
  have hgu : gu < w.heap.size := Blk.lt p1
  have hcw : m ≤ capw := o3
  have hcu : n ≤ capu := p3
  have HU : Hid ((∀ k, k < n → w.cell? ⟨gu, k, none⟩ = some (mit (gt_ U k))) ∧ U.length = n ∧ Srt U 0 n) := ⟨fun k hk => (hU.at_ hk).1, p7, su⟩
  have HV : Hid ((∀ k, k < m → w.cell? ⟨gw, k, none⟩ = some (mit (gt_ V k))) ∧ V.length = m ∧ Srt V 0 m ∧ Blk w gw curV.toArray 59 ∧ curV.length = capw ∧ curV.take m = V.map mit) := ⟨fun k hk => (hV.at_ hk).1, o7, sv, o1, o5, o6⟩
  clear hU hV su sv o1 o2 o3 o4 o5 o6 o7 p1 p2 p3 p4 p5 p6 p7
  obtain ⟨oh, hoh⟩ : ∃ oh, oh = (m - n) / 2 := ⟨_, rfl⟩
  have h1 : 0 < oh := by omega
  have h2 : oh + n < m := by omega
  have HOH := Lib.hid hoh
  clear hoh
  have RU : Hid (Reads w gu 0 n U) := ⟨HU.out.2.1, fun k hk => by rw [Nat.zero_add]; exact HU.out.1 k hk⟩
  have RV : Hid (Reads w gw oh n ((V.drop oh).take n)) := ⟨by rw [List.length_take, List.length_drop, HV.out.2.1]; omega, fun k hk => by rw [gt_take hk, gt_drop]; exact HV.out.1 _ (by omega)⟩
  have SV : Hid (Srt ((V.drop oh).take n) 0 n) := fun a b ha hab hb => by
    unfold ky
    rw [gt_take (by omega), gt_take hb, gt_drop, gt_drop]
    exact HV.out.2.2.1 _ _ (by omega) (by omega) (by omega)
  have z0 : (n : Int) < (m : Int) := by omega
  go_enter Tryd.func27, Tryd.ntmps27
  go_wp2_with fail
  refine (len_any _ _ _ _).mono ?_
  rintro e w' ⟨rfl, rfl⟩
  go_wp2_with fail
  refine (len_any _ _ _ _).mono ?_
  rintro e w' ⟨rfl, rfl⟩
  go_wp2_with fail
  refine (decompose_any (by omega) hnm hm hcw oh HOH.out).mono ?_
  rintro e w' ⟨rfl, rfl⟩
  go_wp2_with fail
  refine (symSearch_any RU.out RV.out (by omega) HU.out.2.2 SV.out).mono ?_
  rintro e w1 ⟨⟨i, rfl, hsp⟩, hb1⟩
  have hi := hsp.high
  have H1 : Hid (Split U ((V.drop oh).take n) n i ∧ Below w.heap.size w w1) := ⟨hsp, hb1⟩
  have s1 := hb1.size
  clear hsp hb1
  obtain ⟨d, hd⟩ : ∃ d, d = n - i := ⟨_, rfl⟩
  have hdi : d + i = n := by omega
  have HD := Lib.hid hd
  clear hd
  obtain ⟨k, hk⟩ : ∃ k, k = oh + d := ⟨_, rfl⟩
  have HK := Lib.hid hk
  have q1 : k < m := by omega
  have q2 : 0 < k := by omega
  have q3 : k + i = oh + n := by omega
  have HKI := Lib.hid q3
  clear hk q3
  obtain ⟨A1, hA1⟩ : ∃ c, c = (U.take i).map mit := ⟨_, rfl⟩
  obtain ⟨A2, hA2⟩ : ∃ c, c = (U.drop i).map mit := ⟨_, rfl⟩
  obtain ⟨A3, hA3⟩ : ∃ c, c = ((V.drop oh).take d).map mit := ⟨_, rfl⟩
  obtain ⟨A4, hA4⟩ : ∃ c, c = (V.drop (oh + n)).map mit := ⟨_, rfl⟩
  have one1 : Hid ((∀ u ∈ A1, u.oneCell' = true) ∧ (∀ u ∈ A2, u.oneCell' = true) ∧ (∀ u ∈ A3, u.oneCell' = true) ∧ (∀ u ∈ A4, u.oneCell' = true)) := by
    rw [hA1, hA2, hA3, hA4]; exact ⟨one_all _, one_all _, one_all _, one_all _⟩
  have HA := Lib.hid (And.intro hA1 (And.intro hA2 (And.intro hA3 hA4)))
  clear hA1 hA2 hA3 hA4
  have y1 : Hid (i = A1.length) := Lib.hid (by rw [HA.out.1, List.length_map, List.length_take, HU.out.2.1]; omega)
  have y2 : Hid (d = A2.length) := Lib.hid (by rw [HA.out.2.1, List.length_map, List.length_drop, HU.out.2.1]; exact HD.out)
  have c1 : Hid (∀ W, Below w.heap.size w W → ∀ j v, A1[j]? = some v → W.cell? ((⟨gu, 0, none⟩ : Addr).add j) = some v) := Lib.hid fun W hW j v hj => by
    rw [HA.out.1] at hj
    obtain ⟨j1, rfl⟩ := map_cell hj
    rw [List.length_take] at j1
    rw [addr_add, Nat.zero_add, gt_take (by omega)]
    have h := HU.out.1 j (by omega)
    exact (hW.cell (cell_lt' h)).trans h
  have c2 : Hid (∀ W, Below w.heap.size w W → ∀ j v, A3[j]? = some v → W.cell? ((⟨gw, oh, none⟩ : Addr).add j) = some v) := Lib.hid fun W hW j v hj => by
    rw [HA.out.2.2.1] at hj
    obtain ⟨j1, rfl⟩ := map_cell hj
    rw [List.length_take] at j1
    rw [addr_add, gt_take (by omega), gt_drop]
    have h := HV.out.1 (oh + j) (by omega)
    exact (hW.cell (cell_lt' h)).trans h
  have c3 : Hid (∀ W, Below w.heap.size w W → ∀ j v, A2[j]? = some v → W.cell? ((⟨gu, i, none⟩ : Addr).add j) = some v) := Lib.hid fun W hW j v hj => by
    rw [HA.out.2.1] at hj
    obtain ⟨j1, rfl⟩ := map_cell hj
    rw [List.length_drop] at j1
    have := HU.out.2.1
    rw [addr_add, gt_drop]
    have h := HU.out.1 (i + j) (by omega)
    exact (hW.cell (cell_lt' h)).trans h
  have c5 : Hid (∀ W, Below w.heap.size w W → ∀ j v, A4[j]? = some v → W.cell? ((⟨gw, oh + n, none⟩ : Addr).add j) = some v) := Lib.hid fun W hW j v hj => by
    rw [HA.out.2.2.2] at hj
    obtain ⟨j1, rfl⟩ := map_cell hj
    rw [List.length_drop] at j1
    have := HV.out.2.1
    rw [addr_add, gt_drop]
    have h := HV.out.1 (oh + n + j) (by omega)
    exact (hW.cell (cell_lt' h)).trans h
  have n1 : Hid (A3.length = d) := Lib.hid (by rw [HA.out.2.2.1, List.length_map, List.length_take, List.length_drop, HV.out.2.1]; omega)
  have n2 : Hid (A4.length = m - (oh + n)) := Lib.hid (by rw [HA.out.2.2.2, List.length_map, List.length_drop, HV.out.2.1])
  have e1 : Hid ((curV.drop (0 + oh)).take d = A3) := Lib.hid (by
    rw [HA.out.2.2.1, Nat.zero_add, List.map_take, List.map_drop, ← HV.out.2.2.2.2.2, List.drop_take, List.take_take]
    congr 1; omega)
  have e2 : Hid ((curV.drop (k + i)).take (m - (oh + n)) = A4) := Lib.hid (by
    rw [HA.out.2.2.2, List.map_drop, ← HV.out.2.2.2.2.2, List.drop_take, HKI.out])
  have HW1 : Hid (Below w.heap.size w (w1.alloc (.cells A1.toArray 59))) := H1.out.2.alloc s1 _
  have HW2 : Hid (Below w.heap.size w ((w1.alloc (.cells A1.toArray 59)).alloc (.cells A2.toArray 59))) := HW1.out.alloc HW1.out.size _
  have ro1 : oh + d ≤ capw := by omega
  have ro2 : Hid (0 + oh + d ≤ curV.length) := Lib.hid (by have := HV.out.2.2.2.2.1; omega)
  have ro3 : i + (m - (oh + n)) ≤ capw - k := by have := HKI.out; omega
  have ro4 : Hid (k + i + (m - (oh + n)) ≤ curV.length) := Lib.hid (by have := HV.out.2.2.2.2.1; have := HKI.out; omega)
  have fU : ∀ L : List Item, ∀ c, L.length = c → c ≤ 1000 → ∀ g, w.heap.size ≤ g → Blk ((w1.alloc (.cells A1.toArray 59)).alloc (.cells A2.toArray 59)) g (L.map mit).toArray 59 → Row w.heap.size ((w1.alloc (.cells A1.toArray 59)).alloc (.cells A2.toArray 59)) g c c L := fun L c hL hc g hg hb => by
    have h := own_shut (n := c) (cap := c) hb hg (Nat.le_refl _) (by unfold maxLen; omega) (by rw [List.length_map]; exact hL)
    rw [List.take_of_length_le (by rw [List.length_map]; omega)] at h
    exact h
  have g4 : ∀ j, j < n → gt_ ((V.drop oh).take n) j = gt_ V (oh + j) := fun j hj => by rw [gt_take hj, gt_drop]
  have fin : Hid (Parts w U V n m gw capw (.returned (.tuple #[.slice (some ⟨w1.heap.size, 0, none⟩) i i, .slice (some ⟨gw, 0, none⟩) k capw, .slice (some ⟨w1.heap.size + 1, 0, none⟩) d d, .slice (some ⟨gw, k, none⟩) (m - k) (capw - k)])) ((w1.alloc (.cells A1.toArray 59)).alloc (.cells A2.toArray 59))) := by
    refine ⟨i, d, k, w1.heap.size, w1.heap.size + 1, hdi, by have := HKI.out; have := HOH.out; omega, hi, q2, q1, hcw, fun a ha => ?_, fun a ha ha' => ?_, rfl, fU _ _ (by have := y1.out; rw [HA.out.1, List.length_map] at this; exact this.symm) (by omega) _ s1 (by rw [← HA.out.1]; exact (Blk.new w1 _ _).alloc _), fU _ _ (by have := y2.out; rw [HA.out.2.1, List.length_map] at this; exact this.symm) (by omega) _ (by omega) (by rw [← HA.out.2.1]; have h := Blk.new (w1.alloc (.cells A1.toArray 59)) A2.toArray 59; rw [World.size_alloc] at h; exact h), by omega, ⟨by rw [List.length_take, HV.out.2.1]; omega, fun j hj => ?_⟩, ⟨by rw [List.length_drop, HV.out.2.1], fun j hj => ?_⟩, HW2.out⟩
    · have h := H1.out.1.yes a ha
      unfold ky at h ⊢
      rw [g4 _ (by omega)] at h
      rw [show k + (i - 1 - a) = oh + (n - 1 - a) by have := HKI.out; omega]
      exact h
    · have h := H1.out.1.no a ha ha'
      unfold ky at h ⊢
      rw [g4 _ (by omega)] at h
      rw [show k + i - 1 - a = oh + (n - 1 - a) by have := HKI.out; omega]
      exact h
    · rw [Nat.zero_add, gt_take hj]
      have h := HV.out.1 j (by omega)
      exact (HW2.out.cell (cell_lt' h)).trans h
    · rw [gt_drop]
      have h := HV.out.1 (k + j) (by omega)
      exact (HW2.out.cell (cell_lt' h)).trans h
  clear fU g4
  have mk1 := made i (by omega)
  have mk2 := made d (by omega)
  have hcp1 : ∀ c, (Builtin.copy_ #[55, 55] 3 #[.slice (some ⟨w1.heap.size, 0, none⟩) i i, .slice (some ⟨gu, 0, none⟩) i c]).run Tryd.prog (w1.alloc (.cells (madeCells #[.nilIface] i) 59)) = .ok (.int .i64 (i : Nat)) (w1.alloc (.cells A1.toArray 59)) :=
    fun c => run_fill (sp := some ⟨gu, 0, none⟩) y1.out.symm one1.out.1 c (fun _ => ⟨_, rfl, c1.out _ (H1.out.2.alloc s1 _)⟩)
  have x1 : i ≤ capu := by omega
  have x2 : (i : Int) ≤ (capu : Int) := by omega
  have x3 : (i : Int) ≤ (n : Int) := by omega
  have x4 : IntKind.i64.wrap ((n : Int) - (i : Int)) = (d : Int) := by rw [IntKind.wrap_i64]; omega
  have x5 : (d : Int) ≤ (n : Int) := by omega
  have x6 : (d : Int) ≤ ((capw - oh : Nat) : Int) := by omega
  have x7 : d ≤ n := by omega
  have x8 : d ≤ capw - oh := by omega
  have x9 : ¬ capw - oh = d := by omega
  have v9 : oh + d = k := HK.out.symm
  have v10 : n - d = i := by omega
  have v11 : capw - oh - d = capw - k := by have := HK.out; omega
  have v12 : i + (m - (oh + n)) = m - k := by have := HKI.out; omega
  have v13 : n - i = d := HD.out.symm
  clear hi
  by_cases hci : capu = i
  · have hd0 : ¬ 0 < d := by omega
    have hcp2 : ∀ c, (Builtin.copy_ #[55, 55] 3 #[.slice (some ⟨w1.heap.size + 1, 0, none⟩) d d, .slice (some ⟨gu, 0, none⟩) d c]).run Tryd.prog ((w1.alloc (.cells A1.toArray 59)).alloc (.cells (madeCells #[.nilIface] d) 59)) = .ok (.int .i64 (d : Nat)) ((w1.alloc (.cells A1.toArray 59)).alloc (.cells A2.toArray 59)) := fun c => by
      have h := run_fill (w := (w1.alloc (.cells A1.toArray 59))) (sp := some ⟨gu, 0, none⟩) y2.out.symm one1.out.2.1 c (fun h0 => absurd h0 (by omega))
      rw [World.size_alloc] at h
      exact h
    go_wp2_with (at_builtin; first
      | refine wpList_append_same rfl (.tmp 36) (.tmp 42) 55 rfl 59 i0 Tryd.underlying55 HI.out.1 HI.out.2.2.1 gw 0 oh capw curV (HV.out.2.2.2.1.below HW1.out hgw) ⟨gw, oh, none⟩ d _ rfl rfl A3 n1.out (c2.out _ HW1.out) one1.out.2.2.1 ro1 ro2.out e1.out ?_
      | refine wpList_append_same rfl (.tmp 59) (.tmp 60) 55 rfl 59 i0 Tryd.underlying55 HI.out.1 HI.out.2.2.1 gw k i (capw - k) curV (HV.out.2.2.2.1.below HW2.out hgw) ⟨gw, oh + n, none⟩ (m - (oh + n)) _ rfl rfl A4 n2.out (c5.out _ HW2.out) one1.out.2.2.2 ro3 ro4.out e2.out ?_)
    refine bodyPost_ret (v := .tuple #[.slice (some ⟨w1.heap.size, 0, none⟩) i i, .slice (some ⟨gw, 0, none⟩) k capw, .slice (some ⟨w1.heap.size + 1, 0, none⟩) d d, .slice (some ⟨gw, k, none⟩) (m - k) (capw - k)]) (by simp [results, Tryd.results27, go_sem]) rfl ?_
    exact fin.out
  · skip
    have hcp2 : ∀ c, (Builtin.copy_ #[55, 55] 3 #[.slice (some ⟨w1.heap.size + 1, 0, none⟩) d d, .slice (some ⟨gu, i, none⟩) d c]).run Tryd.prog ((w1.alloc (.cells A1.toArray 59)).alloc (.cells (madeCells #[.nilIface] d) 59)) = .ok (.int .i64 (d : Nat)) ((w1.alloc (.cells A1.toArray 59)).alloc (.cells A2.toArray 59)) := fun c => by
      have h := run_fill (w := (w1.alloc (.cells A1.toArray 59))) (sp := some ⟨gu, i, none⟩) y2.out.symm one1.out.2.1 c (fun _ => ⟨_, rfl, c3.out _ (HW1.out.alloc HW1.out.size _)⟩)
      rw [World.size_alloc] at h
      exact h
    go_wp2_with (at_builtin; first
      | refine wpList_append_same rfl (.tmp 36) (.tmp 42) 55 rfl 59 i0 Tryd.underlying55 HI.out.1 HI.out.2.2.1 gw 0 oh capw curV (HV.out.2.2.2.1.below HW1.out hgw) ⟨gw, oh, none⟩ d _ rfl rfl A3 n1.out (c2.out _ HW1.out) one1.out.2.2.1 ro1 ro2.out e1.out ?_
      | refine wpList_append_same rfl (.tmp 59) (.tmp 60) 55 rfl 59 i0 Tryd.underlying55 HI.out.1 HI.out.2.2.1 gw k i (capw - k) curV (HV.out.2.2.2.1.below HW2.out hgw) ⟨gw, oh + n, none⟩ (m - (oh + n)) _ rfl rfl A4 n2.out (c5.out _ HW2.out) one1.out.2.2.2 ro3 ro4.out e2.out ?_)
    refine bodyPost_ret (v := .tuple #[.slice (some ⟨w1.heap.size, 0, none⟩) i i, .slice (some ⟨gw, 0, none⟩) k capw, .slice (some ⟨w1.heap.size + 1, 0, none⟩) d d, .slice (some ⟨gw, k, none⟩) (m - k) (capw - k)]) (by simp [results, Tryd.results27, go_sem]) rfl ?_
    exact fin.out
end Go.Proofs.YtmkbgdgfbmfbdaaDoor.MG
