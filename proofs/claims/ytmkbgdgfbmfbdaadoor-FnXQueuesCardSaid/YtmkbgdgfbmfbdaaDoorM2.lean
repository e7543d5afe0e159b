/- symRotate, symBinarySearch. -/
import Derived.Test.YtmkbgdgfbmfbdaaDoorM1
namespace Go.Proofs.YtmkbgdgfbmfbdaaDoor.MG
open Go.RowKit

set_option maxRecDepth 1000000 in
set_option maxHeartbeats 4000000 in
theorem symRotate_any {w : World} {B g n cap a m b : Nat} {L : List Item} (h : Row B w g n cap L) (hn : n ≤ 1000) (ham : a ≤ m) (hmb : m ≤ b) (hb : b ≤ n) :
    Calls Tryd.prog 43 #[.slice (some ⟨g, 0, none⟩) n cap, .int .i64 a, .int .i64 m, .int .i64 b] w fun e_ w' => e_ = .returned (.tuple #[]) ∧ ∃ L', Rot L L' a m b ∧ Row B w' g n cap L' ∧ Only [g] w w' := by
  have hlen := h.len
  have HH := Lib.hid h
  have HN := Lib.hid hlen
  clear h hlen
  obtain ⟨i0, hi0⟩ : ∃ i, i = m - a := ⟨_, rfl⟩
  obtain ⟨j0, hj0⟩ : ∃ j, j = b - m := ⟨_, rfl⟩
  have w1 : IntKind.i64.wrap ((m : Int) - (a : Int)) = (i0 : Int) := by rw [IntKind.wrap_i64]; omega
  have w2 : IntKind.i64.wrap ((b : Int) - (m : Int)) = (j0 : Int) := by rw [IntKind.wrap_i64]; omega
  have w3 : IntKind.i64.wrap ((a : Int) + (i0 : Int)) = (m : Int) := by rw [IntKind.wrap_i64]; omega
  have HI0 := Lib.hid hi0
  have HJ0 := Lib.hid hj0
  have hai0 : a + i0 = m := by omega
  have hmj0 : m + j0 = b := by omega
  have HW : Hid (Way L L a m b i0 j0) := by rw [hi0, hj0]; exact Way.start ham hmb
  have HA := Lib.hid hai0
  have HM := Lib.hid hmj0
  clear hi0 hj0 hai0 hmj0
  by_cases hi : i0 = 0
  · have z1 : ((i0 : Int) == 0) = true := by simp [hi]
    have HI := Lib.hid hi
    clear hi
    go_enter Tryd.func43, Tryd.ntmps43
    go_wp2_with fail
    refine bodyPost_ret (results_none rfl _ _ _) rfl ?_
    exact ⟨rfl, L, Rot.none ham hmb (by have := HA.out; have := HM.out; have := HI.out; omega), HH.out, Only.refl _ _⟩
  have z1 : ((i0 : Int) == 0) = false := by simp [hi]
  by_cases hj : j0 = 0
  · have z2 : ((j0 : Int) == 0) = true := by simp [hj]
    have HJ := Lib.hid hj
    clear hj
    go_enter Tryd.func43, Tryd.ntmps43
    go_wp2_with fail
    refine bodyPost_ret (results_none rfl _ _ _) rfl ?_
    exact ⟨rfl, L, Rot.none ham hmb (by have := HA.out; have := HM.out; have := HJ.out; omega), HH.out, Only.refl _ _⟩
  have z2 : ((j0 : Int) == 0) = false := by simp [hj]
  by_cases hij : i0 = j0
  · have z3 : ((i0 : Int) == (j0 : Int)) = true := by simp [hij]
    have HIJ := Lib.hid hij
    have hle : m + i0 ≤ b ∧ a + i0 ≤ m := by have := HA.out; have := HM.out; omega
    obtain ⟨hle1, hle2⟩ := hle
    clear hij
    go_enter Tryd.func43, Tryd.ntmps43
    go_wp2_with fail
    refine (symSwap_any HH.out hn (a := a) (b := m) (e := i0) (by omega) (by omega)).mono ?_
    rintro e wx ⟨rfl, L1, hs, hr, ho⟩
    have H1 : Hid (Swp L L1 a m i0 ∧ Row B wx g n cap L1 ∧ Only [g] w wx) := ⟨hs, hr, ho⟩
    clear hs hr ho
    go_wp2_with fail
    refine bodyPost_ret (results_none rfl _ _ _) rfl ?_
    have hw := HW.out
    rw [← HIJ.out] at hw
    exact ⟨rfl, L1, hw.done (by have := H1.out.1; rw [show m - i0 = a by have := HA.out; omega]; exact this), H1.out.2⟩
  have z3 : ((i0 : Int) == (j0 : Int)) = false := by simp; omega
  have hi' : 0 < i0 := by omega
  have hj' : 0 < j0 := by omega
  clear hi hj
  go_enter Tryd.func43, Tryd.ntmps43
  go_wp2_with fail
  go_loopw [8, 9] (fun iv jv wr => ∃ (i j : Nat), iv = .int .i64 (i : Nat) ∧ jv = .int .i64 (j : Nat) ∧ 0 < i ∧ 0 < j ∧ a + i ≤ m ∧ m + j ≤ b ∧ Hid (∃ L', Way L L' a m b i j ∧ Row B wr g n cap L' ∧ Only [g] w wr)) (fun iv jv _ => (intOf iv).toNat + (intOf jv).toNat)
  case atStart => exact ⟨i0, j0, rfl, rfl, hi', hj', by have := HA.out; omega, by have := HM.out; omega, L, HW.out, HH.out, Only.refl _ _⟩
  case round =>
    obtain ⟨i, j, rfl, rfl, hi, hj, hai, hjb, hR⟩ := hrel
    obtain ⟨L', hR⟩ := hR
    have HR : Hid (Way L L' a m b i j ∧ Row B wr g n cap L' ∧ Only [g] w wr) := hR
    clear hR HW z1 z2 z3
    obtain ⟨q, hq⟩ : ∃ q, q = m - i := ⟨_, rfl⟩
    have v1 : IntKind.i64.wrap ((m : Int) - (i : Int)) = (q : Int) := by rw [IntKind.wrap_i64]; omega
    have hqi : q + i ≤ m ∧ a ≤ q := by omega
    obtain ⟨hqi1, hqi2⟩ := hqi
    have HQ := Lib.hid hq
    clear hq
    by_cases hne : i = j
    · have z4 : ((i : Int) != (j : Int)) = false := by simp [hne]
      have HNE := Lib.hid hne
      have hib : m + i ≤ b := by omega
      clear hne
      go_wp2_with fail
      refine (symSwap_any HR.out.2.1 hn (a := q) (b := m) (e := i) (by omega) (by omega)).mono ?_
      rintro e wx ⟨rfl, L1, hs, hr, ho⟩
      have H1 : Hid (Swp L' L1 q m i ∧ Row B wx g n cap L1 ∧ Only [g] w wx) := ⟨hs, hr, HR.out.2.2.trans ho⟩
      clear hs hr ho
      go_wp2_with fail
      go_end0
      have hw := HR.out.1
      rw [← HNE.out] at hw
      exact ⟨rfl, L1, hw.done (by have := H1.out.1; rw [HQ.out] at this; exact this), H1.out.2⟩
    · have z4 : ((i : Int) != (j : Int)) = true := by simp; omega
      by_cases hgt : j < i
      · have z5 : (j : Int) < (i : Int) := by omega
        have v2 : IntKind.i64.wrap ((i : Int) - (j : Int)) = ((i - j : Nat) : Int) := by rw [IntKind.wrap_i64]; omega
        go_wp2_with fail
        refine (symSwap_any HR.out.2.1 hn (a := q) (b := m) (e := j) (by omega) (by omega)).mono ?_
        rintro e wx ⟨rfl, L1, hs, hr, ho⟩
        have H1 : Hid (∃ L1, Way L L1 a m b (i - j) j ∧ Row B wx g n cap L1 ∧ Only [g] w wx) := ⟨L1, HR.out.1.left hgt (by rw [← HQ.out]; exact hs), hr, HR.out.2.2.trans ho⟩
        clear hs hr ho
        go_wp2_with fail
        go_roundw
        case rel => exact ⟨i - j, j, rfl, rfl, by omega, hj, by omega, hjb, H1.out⟩
        case measure => simp [intOf]; omega
      · have z5 : ¬ (j : Int) < (i : Int) := by omega
        have v2 : IntKind.i64.wrap ((j : Int) - (i : Int)) = ((j - i : Nat) : Int) := by rw [IntKind.wrap_i64]; omega
        have v3 : IntKind.i64.wrap ((m : Int) + (j : Int)) = ((m + j : Nat) : Int) := by rw [IntKind.wrap_i64]; omega
        have v4 : IntKind.i64.wrap (((m + j : Nat) : Int) - (i : Int)) = ((m + j - i : Nat) : Int) := by rw [IntKind.wrap_i64]; omega
        have v5 : IntKind.i64.wrap ((m : Int) + (j : Int) - (i : Int)) = ((m + j - i : Nat) : Int) := by rw [IntKind.wrap_i64]; omega
        go_wp2_with fail
        refine (symSwap_any HR.out.2.1 hn (a := q) (b := m + j - i) (e := i) (by omega) (by omega)).mono ?_
        rintro e wx ⟨rfl, L1, hs, hr, ho⟩
        have H1 : Hid (∃ L1, Way L L1 a m b i (j - i) ∧ Row B wx g n cap L1 ∧ Only [g] w wx) := ⟨L1, HR.out.1.right (by omega) (by rw [← HQ.out]; exact hs), hr, HR.out.2.2.trans ho⟩
        clear hs hr ho
        go_wp2_with fail
        go_roundw
        case rel => exact ⟨i, j - i, rfl, rfl, hi, by omega, hai, by omega, H1.out⟩
        case measure => simp [intOf]; omega
end Go.Proofs.YtmkbgdgfbmfbdaaDoor.MG
