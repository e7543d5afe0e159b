/- Elements that are merged: compared. -/
import Derived.Test.YtmkbgdgfbmfbdaaDoorOwnKit
import Derived.Test.YtmkbgdgfbmfbdaaDoorMGPure
import Derived.Test.YtmkbgdgfbmfbdaaDoorRows
import Derived.WalkSpells
import Derived.WalkLawsBesides
import Derived.Recover
import Derived.BigRegion
import Derived.Deep.QuietTactic
import Derived.Deep.RegionHeld3
namespace Go.Proofs.YtmkbgdgfbmfbdaaDoor.MG
open Go.RowKit

def mit (x : Item) : Value := .iface 61 (.agg #[.int .i64 x.1, .int .i64 x.2])
def ord (a b : Int) : Int := if a < b then -1 else if b < a then 1 else 0

set_option maxRecDepth 100000 in
theorem order_any (a b : Int) (w : World) : Calls Tryd.prog 66 #[.int .i64 a, .int .i64 b] w fun e w' => e = .returned (.int .i64 (ord a b)) ∧ w' = w := by
  by_cases h1 : a < b
  · have e : ord a b = -1 := by unfold ord; rw [if_pos h1]
    rw [e]
    go_enter Tryd.func66, Tryd.ntmps66
    go_wp2_with fail
    go_ret
    exact ⟨rfl, rfl⟩
  · by_cases h2 : b < a
    · have e : ord a b = 1 := by unfold ord; rw [if_neg h1, if_pos h2]
      rw [e]
      have d1 : decide (a < b) = false := decide_eq_false h1
      go_enter Tryd.func66, Tryd.ntmps66
      go_wp2_with fail
      go_ret
      exact ⟨rfl, rfl⟩
    · have e : ord a b = 0 := by unfold ord; rw [if_neg h1, if_neg h2]
      rw [e]
      have d1 : decide (a < b) = false := decide_eq_false h1
      have d2 : decide (b < a) = false := decide_eq_false h2
      go_enter Tryd.func66, Tryd.ntmps66
      go_wp2_with fail
      go_ret
      exact ⟨rfl, rfl⟩

set_option maxRecDepth 100000 in
set_option maxHeartbeats 1000000 in
theorem compare_any (x y : Item) (w : World) : Calls Tryd.prog 65 #[.agg #[.int .i64 x.1, .int .i64 x.2], mit y] w fun e w' => e = .returned (.int .i64 (ord x.1 y.1)) ∧ Below w.heap.size w w' := by
  have hta : ∀ w : World, (Instr.typeAssert (mit y) 59 61 false).run Tryd.prog w = .ok (.agg #[.int .i64 y.1, .int .i64 y.2]) w := fun _ => by kernel_rfl
  have hf1 : ∀ w : World, (Instr.field 61 (.agg #[.int .i64 y.1, .int .i64 y.2]) 0).run Tryd.prog w = .ok (.agg #[.int .i64 y.1, .int .i64 y.2]) w := fun _ => by kernel_rfl
  have hf2 : ∀ w : World, (Instr.field 44 (.agg #[.int .i64 y.1, .int .i64 y.2]) 0).run Tryd.prog w = .ok (.int .i64 y.1) w := fun _ => by kernel_rfl
  go_enter Tryd.func65, Tryd.ntmps65
  go_wp2_with fail
  go_quiet ((go_at_call 66; exact Calls.quiet_of_same (order_any _ _ _)))
  go_wp2_with fail
  go_ret
  exact ⟨rfl, ⟨rfl, rfl, rfl, by simp, fun k hk => Below.heap_alloc _ _ _ hk⟩⟩
/-- Whether the first one comes not behind the second one, as the code asks it. -/
theorem ord_le (a b : Int) : decide (ord a b ≤ 0) = decide (a ≤ b) := by
  unfold ord
  split
  · simp; omega
  · split
    · simp; omega
    · simp; omega

/-- A row of elements. -/
abbrev Row (B : Nat) (w : World) (g n cap : Nat) (L : List Item) : Prop := w.ownsRow B 59 1 (.slice (some ⟨g, 0, none⟩) n cap) n (L.map mit)
theorem Row.len {B : Nat} {w : World} {g n cap : Nat} {L : List Item} (h : Row B w g n cap L) : L.length = n := by
  have := h.1; rw [List.length_map] at this; omega
theorem Row.at_ {B : Nat} {w : World} {g n cap : Nat} {L : List Item} (h : Row B w g n cap L) {k : Nat} (hk : k < n) : w.cell? ⟨g, k, none⟩ = some (mit (gt_ L k)) ∧ w.frozen? ⟨g, k, none⟩ = false :=
  own_cell h (by rw [List.getElem?_map, at_gt (by rw [h.len]; exact hk)]; rfl)
theorem Row.set {B : Nat} {w : World} {g n cap : Nat} {L : List Item} (h : Row B w g n cap L) {k : Nat} (hk : k < n) (x : Item) : Row B (w.setCell ⟨g, k, none⟩ (mit x)) g n cap (L.set k x) := by
  have := own_set h hk (u := mit x)
  rw [Row, List.map_set]
  exact this

set_option maxRecDepth 1000000 in
set_option maxHeartbeats 4000000 in
theorem symSwap_any {w : World} {B g n cap a b e : Nat} {L : List Item} (h : Row B w g n cap L) (hn : n ≤ 1000) (hab : a + e ≤ b) (hb : b + e ≤ n) :
    Calls Tryd.prog 47 #[.slice (some ⟨g, 0, none⟩) n cap, .int .i64 a, .int .i64 b, .int .i64 e] w fun e_ w' => e_ = .returned (.tuple #[]) ∧ ∃ L', Swp L L' a b e ∧ Row B w' g n cap L' ∧ Only [g] w w' := by
  have hlen := h.len
  have HH := Lib.hid h
  have HN := Lib.hid hlen
  clear h hlen
  go_enter Tryd.func47, Tryd.ntmps47
  go_wp2_with fail
  go_loopw [8] (fun iv wr => ∃ (i : Nat), iv = .int .i64 (i : Nat) ∧ i ≤ e ∧ Hid (∃ L', Swp L L' a b i ∧ Row B wr g n cap L' ∧ Only [g] w wr)) (fun iv _ => e - (intOf iv).toNat)
  case atStart => exact ⟨0, rfl, by omega, L, Swp.zero L a b, HH.out, Only.refl _ _⟩
  case round =>
    obtain ⟨i, rfl, hie, hR⟩ := hrel
    obtain ⟨L', hR⟩ := hR
    have HR : Hid (Swp L L' a b i ∧ Row B wr g n cap L' ∧ Only [g] w wr) := hR
    clear hR
    by_cases hlt : i < e
    · have z0 : (i : Int) < (e : Int) := by omega
      have z1 : (0 : Int) ≤ (a : Int) + (i : Int) := by omega
      have z2 : (0 : Int) ≤ (b : Int) + (i : Int) := by omega
      have z3 : (a : Int) + (i : Int) < (n : Int) := by omega
      have z4 : (b : Int) + (i : Int) < (n : Int) := by omega
      have z5 : ((a : Int) + (i : Int)).toNat = a + i := by omega
      have z6 : ((b : Int) + (i : Int)).toNat = b + i := by omega
      have w1 : IntKind.i64.wrap ((a : Int) + (i : Int)) = (a : Int) + (i : Int) := by rw [IntKind.wrap_i64]; omega
      have w2 : IntKind.i64.wrap ((b : Int) + (i : Int)) = (b : Int) + (i : Int) := by rw [IntKind.wrap_i64]; omega
      obtain ⟨d1, f1⟩ := HR.out.2.1.at_ (k := a + i) (by omega)
      obtain ⟨d2, f2⟩ := HR.out.2.1.at_ (k := b + i) (by omega)
      obtain ⟨x1, x2, hx⟩ : ∃ x1 x2, (x1, x2) = gt_ L' (a + i) := ⟨_, _, rfl⟩
      obtain ⟨y1, y2, hy⟩ : ∃ y1 y2, (y1, y2) = gt_ L' (b + i) := ⟨_, _, rfl⟩
      rw [← hx] at d1
      rw [← hy] at d2
      have c1 : wr.cell? ⟨g, a + i, none⟩ = some (.iface 61 (.agg #[.int .i64 x1, .int .i64 x2])) := d1
      have c2 : wr.cell? ⟨g, b + i, none⟩ = some (.iface 61 (.agg #[.int .i64 y1, .int .i64 y2])) := d2
      have hne : ¬ a + i = b + i := by omega
      have hne2 : ¬ b + i = a + i := by omega
      have HE : Hid (∃ L', Swp L L' a b (i + 1) ∧ Row B (((wr.setCell ⟨g, a + i, none⟩ (.iface 61 (.agg #[.int .i64 y1, .int .i64 y2]))).setCell ⟨g, b + i, none⟩ (.iface 61 (.agg #[.int .i64 x1, .int .i64 x2]))).drew) g n cap L' ∧ Only [g] w (((wr.setCell ⟨g, a + i, none⟩ (.iface 61 (.agg #[.int .i64 y1, .int .i64 y2]))).setCell ⟨g, b + i, none⟩ (.iface 61 (.agg #[.int .i64 x1, .int .i64 x2]))).drew)) := by
        refine ⟨_, HR.out.1.step hlt hab (by rw [HN.out]; exact hb), ?_, ((HR.out.2.2.setCell (Or.inl (by simp)) _).setCell (Or.inl (by simp)) _).drew⟩
        rw [← hx, ← hy]
        exact (HR.out.2.1.set (by omega) _).set (by omega) _
      clear hx hy d1 d2
      go_wp2_with fail
      go_region
      all_goals go_wp2_with fail
      all_goals go_roundw
      case rel => exact ⟨i + 1, by go_num, by omega, HE.out⟩
      case measure => simp [intOf]; omega
    · have z0 : ¬ (i : Int) < (e : Int) := by omega
      obtain rfl : i = e := by omega
      go_wp2_with fail
      go_end0
      exact ⟨rfl, L', HR.out⟩
end Go.Proofs.YtmkbgdgfbmfbdaaDoor.MG
