/- Deleting from the table. -/
import Derived.Test.YtiiobifljflkiaaF3
namespace Go.Proofs.Ytiiobifljflkiaa
open Go.RowKit FI

/-- An entry stands in the table. -/
def In (T : Nat → Option Nat) (n q : Nat) : Prop := ∃ x, x < n ∧ T x = some q
theorem in_move {T : Nat → Option Nat} {n c y q : Nat} (hc : c < n) (hy : y < n) (h1 : T c = some q) (h2 : FI.put T c none y = none) (p : Nat) : In (FI.put (FI.put T c none) y (some q)) n p ↔ In T n p := by
  constructor
  · rintro ⟨x, hx, h⟩
    by_cases e : x = y
    · subst e; rw [FI.put_same] at h; cases h; exact ⟨c, hc, h1⟩
    · rw [FI.put_other _ _ e] at h
      by_cases e2 : x = c
      · subst e2; rw [FI.put_same] at h; cases h
      · rw [FI.put_other _ _ e2] at h; exact ⟨x, hx, h⟩
  · rintro ⟨x, hx, h⟩
    by_cases e : x = c
    · subst e; rw [h1] at h; cases h; exact ⟨y, hy, FI.put_same _ _ _⟩
    · have e2 : x ≠ y := fun e2 => by subst e2; rw [FI.put_other _ _ e, h] at h2; cases h2
      exact ⟨x, hx, by rw [FI.put_other _ _ e2, FI.put_other _ _ e]; exact h⟩
theorem occ_move {T : Nat → Option Nat} {n c y q : Nat} (hc : c < n) (hy : y < n) (h1 : T c = some q) (h2 : FI.put T c none y = none) : occ (FI.put (FI.put T c none) y (some q)) n = occ T n := by
  have a := occ_put (T := T) (x := none) n hc
  have b := occ_put (T := FI.put T c none) (x := some q) n hy
  rw [h1] at a
  rw [h2] at b
  simp at a b
  omega
theorem in_gone {n : Nat} {key hm : Nat → Nat} {T : Nat → Option Nat} (hw : WF n key hm T) {i q k : Nat} (hi : i < n) (hT : T i = some q) (hk : key q = k) (p : Nat) : In (FI.put T i none) n p ↔ In T n p ∧ key p ≠ k := by
  constructor
  · rintro ⟨x, hx, h⟩
    by_cases e : x = i
    · subst e; rw [FI.put_same] at h; cases h
    · rw [FI.put_other _ _ e] at h
      exact ⟨⟨x, hx, h⟩, fun e2 => e (hw.uniq x i p q hx hi h hT (by rw [e2, hk]))⟩
  · rintro ⟨⟨x, hx, h⟩, h2⟩
    have e : x ≠ i := fun e => by subst e; rw [hT] at h; cases h; exact h2 hk
    exact ⟨x, hx, by rw [FI.put_other _ _ e]; exact h⟩
theorem pos_last {n i c : Nat} (hi : i < n) (hc : c < n) (hn : pos n i c = pos n i (n - 1)) : c = n - 1 := pos_inj hi hc (by omega) hn

set_option maxRecDepth 100000 in
set_option maxHeartbeats 2000000 in
theorem delete_any {w : World} {b n a : Nat} {T : Nat → Option Nat} {key val : Nat → Nat} (h : Tab w b n T key val) (hw : WF n key (hmn n) T) (k : Nat) (hk : k < 18446744073709551616) (hn : n = 2 ^ a) (ha : a ≤ 20) (hroom : ∃ x, x < n ∧ T x = none) :
    Calls Try.prog 20 #[.slice (some ⟨b, 0, none⟩) n n, .int .u64 k] w fun e w' =>
      (e = .returned (.bool false) ∧ w' = w ∧ ∀ q, In T n q → key q ≠ k) ∨
      (e = .returned (.bool true) ∧ ∃ T' q0, In T n q0 ∧ key q0 = k ∧ Tab w' b n T' key val ∧ WF n key (hmn n) T' ∧ occ T' n + 1 = occ T n ∧ (∀ q, In T' n q ↔ In T n q ∧ key q ≠ k) ∧ Only [b] w w') := by
  have H := Lib.hid h
  have HW := Lib.hid hw
  have HRoom := Lib.hid hroom
  have hF := Lib.hid (find_any h k hk hn ha hroom)
  have hn0 : 0 < n := by obtain ⟨x, hx, _⟩ := hroom; omega
  have hn2 : n ≤ 1048576 := by rw [hn]; exact Nat.pow_le_pow_right (n := 2) (by decide) ha
  have HN := Lib.hid hn
  obtain ⟨m, hm⟩ : ∃ m, m = n - 1 := ⟨_, rfl⟩
  have hm1 : (n : Int) - 1 = (m : Int) := by omega
  have HMask : Hid (∀ x : Nat, x < 18446744073709551616 → bits BinOp.and IntKind.u64 (x : Int) (m : Int) = ((x % n : Nat) : Int)) := Lib.hid (fun x hx => by rw [hm, hn]; exact mask_and hx (by omega))
  have hhm : ∀ x, hmn n x < n := fun x => Nat.mod_lt _ hn0
  clear h hw hn hroom hm
  go_enter Try.func20, Try.ntmps20
  go_wp2_with fail
  refine hF.out.mono ?_; rintro e w' ⟨⟨i, rfl, hi, hf⟩, rfl⟩
  have HF := Lib.hid hf
  have c1 := H.out.row.cell hi
  have c2 := H.out.row.free i
  clear hf
  cases hT : T i with
  | none =>
    rw [hT] at c1
    have HT := Lib.hid hT
    clear hT
    simp only [pv] at c1
    go_wp2_with fail
    go_ret
    exact Or.inl ⟨rfl, rfl, fun q ⟨x, hx, hq⟩ => HF.out.gone HW.out HT.out x q hx hq⟩
  | some q0 =>
    rw [hT] at c1
    have hk0 : key q0 = k := by
      obtain ⟨j, _, rfl, h1 | ⟨r', h1, h2⟩, _⟩ := HF.out
      · rw [hT] at h1; cases h1
      · rw [hT] at h1; cases h1; exact h2
    have HT := Lib.hid hT
    have HK0 := Lib.hid hk0
    have HE : Hid (bits BinOp.and IntKind.u64 ((i : Int) + 1) (m : Int) = (pos n i 1 : Int)) := Lib.hid (by
      rw [show (i : Int) + 1 = ((i + 1 : Nat) : Int) by omega, HMask.out _ (by omega), pos_mask hi (by omega)])
    clear hT hk0
    simp only [pv] at c1
    go_wp2_with fail
    rw [HE.out]
    clear HE c1 c2
    go_loopw [5, 6] (fun iv _ wr => ∃ cur : Nat, cur < n ∧ iv = .int .u64 cur ∧ Hid (∃ c T1, cur = pos n i c ∧ Tab wr b n T1 key val ∧ Mid n key (hmn n) T1 i c ∧ occ T1 n + 1 = occ T n ∧ (∀ q, In T1 n q ↔ In T n q ∧ key q ≠ k) ∧ Only [b] w wr))
      (fun iv _ _ => stepsTo n (pos n i (n - 1)) (intOf iv).toNat)
    case atStart =>
      refine ⟨pos n i 1, pos_lt hi hn0, rfl, 1, FI.put T i none, rfl, H.out.putNone i, Mid.start HW.out hi HT.out HRoom.out, ?_, in_gone HW.out hi HT.out HK0.out, (Only.refl _ _).setCell (Or.inl (by simp)) _⟩
      have a := occ_put (T := T) (x := none) n hi
      rw [HT.out] at a
      simpa using a
    case round =>
      obtain ⟨cur, hcn, rfl, hR⟩ := hrel
      obtain ⟨c, T1, hcur, h1, h2, h3, h4, h5⟩ := (show Hid (∃ c T1, cur = pos n i c ∧ Tab wr b n T1 key val ∧ Mid n key (hmn n) T1 i c ∧ occ T1 n + 1 = occ T n ∧ (∀ q, In T1 n q ↔ In T n q ∧ key q ≠ k) ∧ Only [b] w wr) from hR).out
      have HR : Hid (Mid n key (hmn n) T1 i c ∧ occ T1 n + 1 = occ T n ∧ (∀ q, In T1 n q ↔ In T n q ∧ key q ≠ k) ∧ Only [b] w wr) := ⟨h2, h3, h4, h5⟩
      have H1 := Lib.hid h1
      have HCur := Lib.hid hcur
      have hc : c < n := by obtain ⟨z, hz, hz2, _⟩ := h2.room; omega
      clear hR h1 h2 h3 h4 h5 hcur
      have d1 := H1.out.row.cell hcn
      have d2 := H1.out.row.free cur
      cases hT1 : T1 cur with
      | none =>
        rw [hT1] at d1
        have HT1 := Lib.hid hT1
        clear hT1
        simp only [pv] at d1
        go_wp2_with fail
        go_ret
        refine Or.inr ⟨rfl, T1, q0, ⟨i, hi, HT.out⟩, HK0.out, H1.out, HR.out.1.done hi hc ?_, HR.out.2.1, HR.out.2.2.1, HR.out.2.2.2⟩
        rw [← HCur.out]; exact HT1.out
      | some q =>
        rw [hT1] at d1
        have HT1 := Lib.hid hT1
        obtain ⟨T0, hb⟩ := H1.out.pk cur q hcn hT1
        have hqb := H1.out.ap cur q hcn hT1
        have hk1 := H1.out.kl cur q hcn hT1
        have hv1 := H1.out.vl cur q hcn hT1
        have hS := Lib.hid (set_any (H1.out.putNone cur) q ⟨T0, hb.other (fun e => hqb e.symm) _⟩ hqb hk1 hv1 HN.out ha ⟨cur, hcn, FI.put_same _ _ _⟩)
        clear hT1 hb
        simp only [pv] at d1
        go_wp2_with fail
        refine hS.out.mono ?_; rintro e w' ⟨rfl, y, hyn, hy, hcase⟩
        have hstep := HR.out.1.step hhm hi hc (by rw [← HCur.out]; exact HT1.out) (by rw [← HCur.out]; exact hy)
        rw [← HCur.out] at hstep
        obtain ⟨s1, _, _, s4⟩ := hstep
        have hA : Tab w' b n (FI.put (FI.put T1 cur none) y (some q)) key val ∧ Only [b] (wr.setCell ⟨b, cur, none⟩ (.pointer none)) w' := by
          rcases hcase with ⟨_, g1, g2⟩ | ⟨r, g1, _⟩
          · exact ⟨g1, g2⟩
          · rw [s1] at g1; cases g1
        have HA : Hid (Tab w' b n (FI.put (FI.put T1 cur none) y (some q)) key val ∧ Mid n key (hmn n) (FI.put (FI.put T1 cur none) y (some q)) i (c + 1) ∧ occ (FI.put (FI.put T1 cur none) y (some q)) n + 1 = occ T n ∧
            (∀ p, In (FI.put (FI.put T1 cur none) y (some q)) n p ↔ In T n p ∧ key p ≠ k) ∧ Only [b] w w') := by
          refine ⟨hA.1, s4, by rw [occ_move hcn hyn HT1.out s1]; exact HR.out.2.1, fun p => (in_move hcn hyn HT1.out s1 p).trans (HR.out.2.2.1 p), ?_⟩
          exact (HR.out.2.2.2.setCell (Or.inl (by simp)) _).trans hA.2
        have HE2 : Hid (bits BinOp.and IntKind.u64 ((cur : Int) + 1) (m : Int) = (pos n cur 1 : Int)) := Lib.hid (by
          rw [show (cur : Int) + 1 = ((cur + 1 : Nat) : Int) by omega, HMask.out _ (by omega), pos_mask hcn (by omega)])
        have hlast : cur ≠ pos n i (n - 1) := fun e => by
          have e1 := pos_last hi hc (by rw [← HCur.out, e])
          obtain ⟨z, hz, hz2, hz3⟩ := HR.out.1.room
          obtain rfl : z = c := by omega
          rw [← HCur.out, HT1.out] at hz3; cases hz3
        clear hy hcase hA s1 s4 d1 d2 hS
        go_wp2_with fail
        rw [HE2.out]
        go_round
        case rel =>
          refine ⟨pos n cur 1, pos_lt hcn hn0, rfl, c + 1, _, ?_, HA.out⟩
          rw [HCur.out, pos_add hi (by omega)]
        case measure =>
          show stepsTo n (pos n i (n - 1)) (pos n cur 1) < stepsTo n (pos n i (n - 1)) cur
          exact stepsTo_lt (pos_lt hi (by omega)) hcn hlast
end Go.Proofs.Ytiiobifljflkiaa
