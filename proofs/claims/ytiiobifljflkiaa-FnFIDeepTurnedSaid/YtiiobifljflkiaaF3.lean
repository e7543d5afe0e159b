/- Setting, getting and asking in the table of the hash map. -/
import Derived.Test.YtiiobifljflkiaaF2
import Derived.StillTailTactics
namespace Go.Proofs.Ytiiobifljflkiaa
open Go.RowKit FI

theorem Tab.putNew {w : World} {b n : Nat} {T : Nat → Option Nat} {key val : Nat → Nat} (h : Tab w b n T key val) {i q : Nat} (hq : ∃ T0, Blk w q #[.int .u64 (key q), .int .u64 (val q)] T0) (hqb : q ≠ b)
    (hk : key q < 18446744073709551616) (hv : val q < 18446744073709551616) : Tab (w.setCell ⟨b, i, none⟩ (.pointer (some ⟨q, 0, none⟩))) b n (FI.put T i (some q)) key val := by
  refine ⟨(h.row.set i _).congr fun j hj => ?_, fun j k hj hk => ?_, fun j k hj hk => ?_, fun j k hj hk => ?_, fun j k hj hk => ?_⟩
  · show pv (FI.put T i (some q) j) = if j = i then _ else _
    by_cases e : j = i
    · subst e; rw [FI.put_same, if_pos rfl]; rfl
    · rw [FI.put_other _ _ e, if_neg e]
  · by_cases e : j = i
    · subst e
      rw [FI.put_same] at hk; cases hk
      obtain ⟨T0, hT⟩ := hq
      exact ⟨T0, hT.other (fun e => hqb e.symm) _⟩
    · rw [FI.put_other _ _ e] at hk
      obtain ⟨T0, hT⟩ := h.pk j k hj hk
      exact ⟨T0, hT.other (fun e => h.ap j k hj hk e.symm) _⟩
  · by_cases e : j = i
    · subst e; rw [FI.put_same] at hk; cases hk; exact hqb
    · rw [FI.put_other _ _ e] at hk; exact h.ap j k hj hk
  · by_cases e : j = i
    · subst e; rw [FI.put_same] at hk; cases hk; assumption
    · rw [FI.put_other _ _ e] at hk; exact h.kl j k hj hk
  · by_cases e : j = i
    · subst e; rw [FI.put_same] at hk; cases hk; assumption
    · rw [FI.put_other _ _ e] at hk; exact h.vl j k hj hk
theorem Tab.putNone {w : World} {b n : Nat} {T : Nat → Option Nat} {key val : Nat → Nat} (h : Tab w b n T key val) (i : Nat) : Tab (w.setCell ⟨b, i, none⟩ (.pointer none)) b n (FI.put T i none) key val := by
  have hne : ∀ j k, FI.put T i none j = some k → T j = some k := fun j k hk => by
    by_cases e : j = i
    · subst e; rw [FI.put_same] at hk; cases hk
    · rwa [FI.put_other _ _ e] at hk
  refine ⟨(h.row.set i _).congr fun j hj => ?_, fun j k hj hk => ?_, fun j k hj hk => h.ap j k hj (hne j k hk), fun j k hj hk => h.kl j k hj (hne j k hk), fun j k hj hk => h.vl j k hj (hne j k hk)⟩
  · show pv (FI.put T i none j) = if j = i then _ else _
    by_cases e : j = i
    · subst e; rw [FI.put_same, if_pos rfl]; rfl
    · rw [FI.put_other _ _ e, if_neg e]
  · obtain ⟨T0, hT⟩ := h.pk j k hj (hne j k hk)
    exact ⟨T0, hT.other (fun e => h.ap j k hj (hne j k hk) e.symm) _⟩
theorem Tab.putVal {w : World} {b n : Nat} {T : Nat → Option Nat} {key val : Nat → Nat} (h : Tab w b n T key val) {i r v : Nat} (hi : i < n) (hr : T i = some r) (hv : v < 18446744073709551616) : Tab (w.setCell ⟨r, 1, none⟩ (.int .u64 v)) b n T key (upd val r v) := by
  refine ⟨h.row.other (h.ap i r hi hr) _, fun j k hj hk => ?_, h.ap, h.kl, fun j k hj hk => ?_⟩
  · obtain ⟨T0, hT⟩ := h.pk j k hj hk
    by_cases e : k = r
    · subst e
      rw [upd_same]
      exact ⟨T0, hT.set 1 _⟩
    · rw [upd_other _ _ _ _ e]
      exact ⟨T0, hT.other (fun e' => e e'.symm) _⟩
  · unfold upd; split
    · exact hv
    · exact h.vl j k hj hk
theorem Tab.drewN {w : World} {b n : Nat} {T : Nat → Option Nat} {key val : Nat → Nat} (h : Tab w b n T key val) (k : Nat) : Tab (w.drewN k) b n T key val := ⟨h.row.drewN k, h.pk, h.ap, h.kl, h.vl⟩

set_option maxRecDepth 100000 in
set_option maxHeartbeats 1000000 in
theorem set_any {w : World} {b n a : Nat} {T : Nat → Option Nat} {key val : Nat → Nat} (h : Tab w b n T key val) (q : Nat) (hq : ∃ T0, Blk w q #[.int .u64 (key q), .int .u64 (val q)] T0) (hqb : q ≠ b)
    (hk : key q < 18446744073709551616) (hv : val q < 18446744073709551616) (hn : n = 2 ^ a) (ha : a ≤ 20) (hroom : ∃ x, x < n ∧ T x = none) :
    Calls Try.prog 17 #[.slice (some ⟨b, 0, none⟩) n n, .pointer (some ⟨q, 0, none⟩)] w fun e w' => e = .returned (.tuple #[]) ∧ ∃ i, i < n ∧ Finds n key (hmn n) T (key q) i ∧
      ((T i = none ∧ Tab w' b n (FI.put T i (some q)) key val ∧ Only [b] w w') ∨ ∃ r, T i = some r ∧ key r = key q ∧ Tab w' b n T key (upd val r (val q)) ∧ Only [r] w w') := by
  have H := Lib.hid h
  have HQ := Lib.hid hq
  obtain ⟨T0, hb0⟩ := hq
  have x0 : w.cell? ⟨q, 0, none⟩ = some (.int .u64 (key q)) := hb0.cell rfl
  have x1 : w.cell? ⟨q, 1, none⟩ = some (.int .u64 (val q)) := hb0.cell rfl
  have hF := Lib.hid (find_any h (key q) hk hn ha hroom)
  have hn2 : n ≤ 1048576 := by rw [hn]; exact Nat.pow_le_pow_right (n := 2) (by decide) ha
  clear h hb0 hn hroom
  go_enter Try.func17, Try.ntmps17
  go_wp2_with fail
  refine hF.out.mono ?_; rintro e w' ⟨⟨i, rfl, hi, hf⟩, rfl⟩
  have HF := Lib.hid hf
  have c1 := H.out.row.cell hi
  have c2 := H.out.row.free i
  clear hf
  cases hT : T i with
  | none =>
    rw [hT] at c1
    have HT := Lib.hid hT
    clear hT
    simp only [pv] at c1
    go_wp2_with fail
    refine bodyPost_ret (results_none rfl _ _ _) rfl ?_
    exact ⟨rfl, i, hi, HF.out, Or.inl ⟨HT.out, H.out.putNew HQ.out hqb hk hv, (Only.refl _ _).setCell (Or.inl (by simp)) _⟩⟩
  | some r =>
    rw [hT] at c1
    obtain ⟨T1, hb⟩ := H.out.pk i r hi hT
    have d1 : w.cell? ⟨r, 1, none⟩ = some (.int .u64 (val r)) := hb.cell rfl
    have d2 := hb.free 1
    have hkr : key r = key q := by
      obtain ⟨j, _, rfl, h1 | ⟨r', h1, h2⟩, _⟩ := HF.out
      · rw [hT] at h1; cases h1
      · rw [hT] at h1; cases h1; exact h2
    have HKR := Lib.hid hkr
    have HT := Lib.hid hT
    clear hT hkr hb
    simp only [pv] at c1
    go_wp2_with fail
    have k0 : (0 : Int) ≤ (i : Int) := by omega
    have k1 : (i : Int) < (n : Int) := by omega
    have k2 : ((i : Int)).toNat = i := by omega
    refine wp_region_still_tail 10 (by kernel_rfl) (by kernel_rfl) ?_
    simp only [List.take_succ_cons, List.take_zero, List.drop_succ_cons, List.drop_zero]
    repeat still_step
    refine wpStill_nil ?_
    change wpList _ _ _ _ _ w.drew
    clear k0 k1 k2
    go_wp2_with fail
    go_end0
    exact ⟨rfl, i, hi, HF.out, Or.inr ⟨r, HT.out, HKR.out, (H.out.putVal hi HT.out hv).drewN 1, ((Only.refl _ _).setCell (Or.inl (by simp)) _).drewN 1⟩⟩

set_option maxRecDepth 100000 in
set_option maxHeartbeats 1000000 in
theorem get_any {w : World} {b n a : Nat} {T : Nat → Option Nat} {key val : Nat → Nat} (h : Tab w b n T key val) (k : Nat) (hk : k < 18446744073709551616) (hn : n = 2 ^ a) (ha : a ≤ 20) (hroom : ∃ x, x < n ∧ T x = none) :
    Calls Try.prog 18 #[.slice (some ⟨b, 0, none⟩) n n, .int .u64 k] w fun e w' => (∃ i, i < n ∧ Finds n key (hmn n) T k i ∧
      ((T i = none ∧ e = .returned (.tuple #[.int .u64 0, .bool false])) ∨ ∃ r, T i = some r ∧ key r = k ∧ e = .returned (.tuple #[.int .u64 (val r), .bool true]))) ∧ w = w' := by
  have H := Lib.hid h
  have hF := Lib.hid (find_any h k hk hn ha hroom)
  have hn2 : n ≤ 1048576 := by rw [hn]; exact Nat.pow_le_pow_right (n := 2) (by decide) ha
  clear h hn hroom
  go_enter Try.func18, Try.ntmps18
  go_wp2_with fail
  refine hF.out.mono ?_; rintro e w' ⟨⟨i, rfl, hi, hf⟩, rfl⟩
  have HF := Lib.hid hf
  have c1 := H.out.row.cell hi
  clear hf
  cases hT : T i with
  | none =>
    rw [hT] at c1
    have HT := Lib.hid hT
    clear hT
    simp only [pv] at c1
    go_wp2_with fail
    go_ret2
    exact ⟨⟨i, hi, HF.out, Or.inl ⟨HT.out, rfl⟩⟩, rfl⟩
  | some r =>
    rw [hT] at c1
    obtain ⟨T1, hb⟩ := H.out.pk i r hi hT
    have d1 : w.cell? ⟨r, 1, none⟩ = some (.int .u64 (val r)) := hb.cell rfl
    have hkr : key r = k := by
      obtain ⟨j, _, rfl, h1 | ⟨r', h1, h2⟩, _⟩ := HF.out
      · rw [hT] at h1; cases h1
      · rw [hT] at h1; cases h1; exact h2
    have HKR := Lib.hid hkr
    have HT := Lib.hid hT
    clear hT hkr hb
    simp only [pv] at c1
    go_wp2_with fail
    go_ret2
    exact ⟨⟨i, hi, HF.out, Or.inr ⟨r, HT.out, HKR.out, rfl⟩⟩, rfl⟩

set_option maxRecDepth 100000 in
set_option maxHeartbeats 1000000 in
theorem exists_any {w : World} {b n a : Nat} {T : Nat → Option Nat} {key val : Nat → Nat} (h : Tab w b n T key val) (k : Nat) (hk : k < 18446744073709551616) (hn : n = 2 ^ a) (ha : a ≤ 20) (hroom : ∃ x, x < n ∧ T x = none) :
    Calls Try.prog 19 #[.slice (some ⟨b, 0, none⟩) n n, .int .u64 k] w fun e w' => (∃ i, i < n ∧ Finds n key (hmn n) T k i ∧
      ((T i = none ∧ e = .returned (.bool false)) ∨ ∃ r, T i = some r ∧ key r = k ∧ e = .returned (.bool true))) ∧ w = w' := by
  have H := Lib.hid h
  have hF := Lib.hid (find_any h k hk hn ha hroom)
  have hn2 : n ≤ 1048576 := by rw [hn]; exact Nat.pow_le_pow_right (n := 2) (by decide) ha
  clear h hn hroom
  go_enter Try.func19, Try.ntmps19
  go_wp2_with fail
  refine hF.out.mono ?_; rintro e w' ⟨⟨i, rfl, hi, hf⟩, rfl⟩
  have HF := Lib.hid hf
  have c1 := H.out.row.cell hi
  clear hf
  cases hT : T i with
  | none =>
    rw [hT] at c1
    have HT := Lib.hid hT
    clear hT
    simp only [pv] at c1
    go_wp2_with fail
    go_ret
    exact ⟨⟨i, hi, HF.out, Or.inl ⟨HT.out, rfl⟩⟩, rfl⟩
  | some r =>
    rw [hT] at c1
    have hkr : key r = k := by
      obtain ⟨j, _, rfl, h1 | ⟨r', h1, h2⟩, _⟩ := HF.out
      · rw [hT] at h1; cases h1
      · rw [hT] at h1; cases h1; exact h2
    have HKR := Lib.hid hkr
    have HT := Lib.hid hT
    clear hT hkr
    simp only [pv] at c1
    go_wp2_with fail
    go_ret
    exact ⟨⟨i, hi, HF.out, Or.inr ⟨r, HT.out, HKR.out, rfl⟩⟩, rfl⟩
end Go.Proofs.Ytiiobifljflkiaa
