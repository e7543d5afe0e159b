/- A new queue; Get; Empty. -/
import Derived.Test.YtmkbgdgfbmfbdaaDoorP5
namespace Go.Proofs.YtmkbgdgfbmfbdaaDoor
open Go.RowKit

theorem alloc_below {B : Nat} {w w' : World} (h : Below B w w') (o : Obj) (hB : B ≤ w'.heap.size) : Below B w (w'.alloc o) := h.alloc hB o
theorem new_qs1 (w : World) (C : Array Value) (h : Nat) (dup : Bool) (hC : C.size = h) (hh : h ≤ 64) (k : Nat) :
    QS w.heap.size ((((w.alloc (.cells C 85)).alloc (.map #[] 0)).alloc (.cells #[.slice (some ⟨w.heap.size, 0, none⟩) 0 h, .map (some (w.heap.size + 1)), .bool false, .bool dup] 74)).drewN k) (w.heap.size + 2) (w.heap.size + 1) dup (.slice (some ⟨w.heap.size, 0, none⟩) 0 h) [] [] ∧
    Below w.heap.size w ((((w.alloc (.cells C 85)).alloc (.map #[] 0)).alloc (.cells #[.slice (some ⟨w.heap.size, 0, none⟩) 0 h, .map (some (w.heap.size + 1)), .bool false, .bool dup] 74)).drewN k) := by
  have e1 : (w.alloc (.cells C 85)).heap.size = w.heap.size + 1 := by simp
  have e2 : ((w.alloc (.cells C 85)).alloc (.map #[] 0)).heap.size = w.heap.size + 2 := by simp
  have hr : Row w.heap.size (w.alloc (.cells C 85)) (.slice (some ⟨w.heap.size, 0, none⟩) 0 h) [] := World.ownsRow_made w _ h (Nat.le_refl _) (by unfold maxLen; omega) (by omega)
  have hm := IMap.new (w.alloc (.cells C 85)) pit
  have hb := Blk.new ((w.alloc (.cells C 85)).alloc (.map #[] 0)) #[.slice (some ⟨w.heap.size, 0, none⟩) 0 h, .map (some (w.heap.size + 1)), .bool false, .bool dup] 74
  rw [e1] at hm
  rw [e2] at hb
  refine ⟨⟨hb.drewN k, ?_, fun i _ hi => absurd hi (by simp), ⟨[], ?_, rfl⟩, by omega, by omega⟩, ?_⟩
  · exact ((hr.alloc _).alloc _)
  · exact hm.same (below_drewN ((Below.refl _ _).alloc (Nat.le_refl _) _) k)
  · exact below_drewN (((((Below.refl _ w).alloc (Nat.le_refl _) _).alloc (by rw [e1]; omega) _).alloc (by rw [e2]; omega) _)) k
theorem new_qs2 (w : World) (C : Array Value) (h : Nat) (dup : Bool) (hC : C.size = h) (hh : h ≤ 64) (k : Nat) :
    QS w.heap.size ((((w.alloc (.map #[] 0)).alloc (.cells C 85)).alloc (.cells #[.slice (some ⟨w.heap.size + 1, 0, none⟩) 0 h, .map (some w.heap.size), .bool false, .bool dup] 74)).drewN k) (w.heap.size + 2) w.heap.size dup (.slice (some ⟨w.heap.size + 1, 0, none⟩) 0 h) [] [] ∧
    Below w.heap.size w ((((w.alloc (.map #[] 0)).alloc (.cells C 85)).alloc (.cells #[.slice (some ⟨w.heap.size + 1, 0, none⟩) 0 h, .map (some w.heap.size), .bool false, .bool dup] 74)).drewN k) := by
  have e1 : (w.alloc (.map #[] 0)).heap.size = w.heap.size + 1 := by simp
  have e2 : ((w.alloc (.map #[] 0)).alloc (.cells C 85)).heap.size = w.heap.size + 2 := by simp
  have hr : ((w.alloc (.map #[] 0)).alloc (.cells C 85)).ownsRow w.heap.size 85 1 (.slice (some ⟨(w.alloc (.map #[] 0)).heap.size, 0, none⟩) 0 h) 0 [] := World.ownsRow_made (w.alloc (.map #[] 0)) _ h (by rw [e1]; omega) (by unfold maxLen; omega) (by omega)
  have hm := IMap.new w pit
  have hb := Blk.new ((w.alloc (.map #[] 0)).alloc (.cells C 85)) #[.slice (some ⟨w.heap.size + 1, 0, none⟩) 0 h, .map (some w.heap.size), .bool false, .bool dup] 74
  rw [e1] at hr
  rw [e2] at hb
  refine ⟨⟨hb.drewN k, ?_, fun i _ hi => absurd hi (by simp), ⟨[], ?_, rfl⟩, by omega, by omega⟩, ?_⟩
  · exact hr.alloc _
  · exact hm.same (below_drewN (((Below.refl _ _).alloc (Nat.le_refl _) _).alloc (by simp) _) k)
  · exact below_drewN (((((Below.refl _ w).alloc (Nat.le_refl _) _).alloc (by rw [e1]; omega) _).alloc (by rw [e2]; omega) _)) k
set_option maxRecDepth 100000 in
set_option maxHeartbeats 2000000 in
theorem new_any {w : World} {h : Nat} (dup : Bool) (hh : h ≤ 64) :
    Calls Tryd.prog 24 #[.int .i64 h, .bool dup] w fun e w' => ∃ q m v, e = .returned (.pointer (some ⟨q, 0, none⟩)) ∧ QS w.heap.size w' q m dup v [] [] ∧ Below w.heap.size w w' := by
  obtain ⟨i0, hi, hz0, hz1, hz2⟩ := info_at infoI
  have hmk : ∀ w : World, (Instr.makeSlice 71 (.int .i64 0) (.int .i64 h)).run Tryd.prog w = .ok (.slice (some ⟨w.heap.size, 0, none⟩) 0 h) (w.alloc (.cells (madeCells #[.nilIface] h) 85)) := fun w => by
    have h1 := run_make w 71 85 i0 .nilIface Tryd.underlying71 hi hz0 .i64 .i64 0 (h : Int) (by omega) (by omega) (by rw [hz2]; omega) (by omega)
    rw [h1, hz1]
    simp
    rfl
  have hmm : ∀ (w : World), (Instr.makeMap 72 (some (.int .i64 h))).run Tryd.prog w = .ok (.map (some w.heap.size)) (w.alloc (.map #[] 0)) := fun _ => by simp [Instr.makeMap, asInt, asIntOf]
  clear hi hz0 hz1 hz2
  go_enter Tryd.func24, Tryd.ntmps24
  go_wp2_with fail
  go_region
  all_goals (go_wp2_with fail; go_ret)
  · exact ⟨_, _, _, rfl, new_qs1 w _ h dup (by simp [size_madeCells]) hh 1⟩
  · exact ⟨_, _, _, rfl, new_qs2 w _ h dup (by simp [size_madeCells]) hh 1⟩

/-- The elements of ks that are not in l. -/
def without (ks l : List Item) : List Item := ks.filter fun k => !decide (k ∈ l)
theorem without_nil (ks : List Item) : without ks [] = ks := by simp [without]
theorem without_add (ks l : List Item) (x : Item) : (without ks l).filter (fun k => !decide (x = k)) = without ks (l ++ [x]) := by
  rw [without, without, List.filter_filter]
  congr 1
  funext k
  by_cases h1 : k ∈ l <;> by_cases h2 : x = k
  · simp [h1, h2]
  · simp [h1]
  · simp [h2]
  · have h3 : k ≠ x := fun e => h2 e.symm
    simp [h1, h2, h3]
theorem without_all {ks l : List Item} (h : ∀ x ∈ ks, x ∈ l) : without ks l = [] := by
  rw [without, List.filter_eq_nil_iff]
  intro a ha
  simp [h a ha]
theorem Its.at_only {w w' : World} {M M' : List Nat} {b o : Nat} {its : List Item} (hc : ∀ (i : Nat) x, its[i]? = some x → w.cell? ⟨b, o + i, none⟩ = some (pit x)) (ho : Only M' w w') (hb : b ∉ M') (i : Nat) (x : Item) (hx : its[i]? = some x) : w'.cell? ⟨b, o + i, none⟩ = some (pit x) :=
  (World.cell?_of_block (ho.block b (cell_lt' (hc i x hx)) hb)).trans (hc i x hx)

set_option maxRecDepth 100000 in
set_option maxHeartbeats 2000000 in
theorem getd_any {B q m bx : Nat} {w : World} {dup : Bool} {v sl : Value} {xs ks out : List Item} (h : QS B w q m dup v xs ks) (hs : Its w [m] sl out) (hbx : w.cell? ⟨bx, 0, none⟩ = some (.pointer (some ⟨q, 0, none⟩))) (hbm : bx ≠ m) (hl : out.length ≤ 1000) :
    Calls Tryd.prog 45 #[sl, .pointer (some ⟨bx, 0, none⟩)] w fun e w' => e = .returned (.tuple #[]) ∧ QS B w' q m dup v xs (without ks out) ∧ Only [m] w w' := by
  obtain ⟨b, o, c, rfl, hbM, hcell⟩ := hs
  obtain ⟨n, hn⟩ : ∃ n, n = out.length := ⟨_, rfl⟩
  have HN := Lib.hid hn
  have HS := Lib.hid h
  have HC : Hid ((b ∉ [m] ∧ ∀ (i : Nat) x, out[i]? = some x → w.cell? ⟨b, o + i, none⟩ = some (pit x)) ∧ w.cell? ⟨bx, 0, none⟩ = some (.pointer (some ⟨q, 0, none⟩)) ∧ bx ≠ m) := ⟨⟨hbM, hcell⟩, hbx, hbm⟩
  have hn2 : n ≤ 1000 := by omega
  rw [← hn]
  clear h hbM hcell hn hl hbx hbm
  go_enter Tryd.func45, Tryd.ntmps45
  go_wp2_with fail
  go_loopw [7] (fun iv wr => ∃ (i : Nat), iv = .int .i64 (i : Nat) ∧ i ≤ n ∧ Hid (QS B wr q m dup v xs (without ks (out.take i)) ∧ Only [m] w wr)) (fun iv _ => n - (intOf iv).toNat)
  case atStart =>
    refine ⟨0, rfl, by omega, ?_, Only.refl _ _⟩
    rw [List.take_zero, without_nil]
    exact HS.out
  case round =>
    obtain ⟨i, rfl, hin, hR⟩ := hrel
    have HR : Hid (QS B wr q m dup v xs (without ks (out.take i)) ∧ Only [m] w wr) := hR
    clear hR
    by_cases hlt : i < n
    · have z1 : (i : Int) < (n : Int) := by omega
      have z0 : (0 : Int) ≤ (i : Int) := by omega
      obtain ⟨x, hx⟩ : ∃ x, out[i]? = some x := ⟨_, List.getElem?_eq_getElem (by have := HN.out; omega)⟩
      have HX := Lib.hid hx
      have hcr := Its.at_only (M := []) HC.out.1.2 HR.out.2 HC.out.1.1 i x hx
      have c0 : wr.cell? ⟨bx, 0, none⟩ = some (.pointer (some ⟨q, 0, none⟩)) := (World.cell?_of_block (HR.out.2.block bx (cell_lt' HC.out.2.1) (by simp; exact HC.out.2.2))).trans HC.out.2.1
      have c1 : wr.cell? ⟨q, 1, none⟩ = some (.map (some m)) := Blk.cell HR.out.1.blk rfl
      obtain ⟨L, hL, hLk⟩ := HR.out.1.map
      have HL : Hid (IMap wr pit m L ∧ mkeys L = without ks (out.take i)) := ⟨hL, hLk⟩
      clear hL hLk hx
      go_wp2_with (at_delete; go_must (refine wpList_mdel _ rfl _ _ 72 85 rfl rfl pkind Tryd.underlying72 _ _ rfl HL.out.1 x rfl ?_))
      intro w1 hm1 ho1
      have HE : Hid (QS B w1 q m dup v xs (without ks (out.take (i + 1))) ∧ Only [m] w w1) := by
        refine ⟨⟨HR.out.1.blk.only ho1 (by simp; exact fun e => HR.out.1.mq e.symm), Row.only HR.out.1.row ho1 (fun k hk hm => ?_), HR.out.1.heap, ⟨_, hm1, ?_⟩, HR.out.1.low⟩, HR.out.2.trans ho1⟩
        · simp only [List.mem_singleton] at hm
          subst hm
          exact HR.out.1.mrow hk
        · rw [mkeys_mdel, HL.out.2, without_add, List.take_add_one, HX.out]
          rfl
      clear hm1 ho1
      go_wp2_with fail
      go_roundw
      case rel => exact ⟨i + 1, rfl, by omega, HE.out⟩
      case measure => simp [intOf]; omega
    · have z1 : ¬ (i : Int) < (n : Int) := by omega
      go_wp2_with fail
      go_end0
      have e : out.take i = out := List.take_of_length_le (by have := HN.out; omega)
      have h := HR.out
      rw [e] at h
      exact ⟨rfl, h⟩
end Go.Proofs.YtmkbgdgfbmfbdaaDoor
