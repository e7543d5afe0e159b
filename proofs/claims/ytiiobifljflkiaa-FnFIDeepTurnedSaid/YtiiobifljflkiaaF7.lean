/- Delete by the dictionary. -/
import Derived.Test.YtiiobifljflkiaaF6
namespace Go.Proofs.Ytiiobifljflkiaa
open Go.RowKit FI

def gone (D : Nat → Option Nat) (k : Nat) : Nat → Option Nat := fun j => if j = k then none else D j
set_option maxRecDepth 100000 in
set_option maxHeartbeats 1000000 in
theorem Delete_any {w : World} {F : Nat → Prop} {p a c : Nat} {D : Nat → Option Nat} (h : Dc w F p a c D) (ha : a ≤ 18) (hc : c < 2 ^ a) (k : Nat) (hk : k < 18446744073709551616) :
    Calls Try.prog 11 #[.pointer (some ⟨p, 0, none⟩), .int .u64 k] w fun e w' =>
      e = .returned (.tuple #[]) ∧ Dc w' F p a (c - (D k).isSome.toNat) (gone D k) ∧ Kept F w w' := by
  obtain ⟨b, T, key, val, hm, ho, hBp, hBb, hBq, hD⟩ := h
  have x1 := hm.row
  have hG := Lib.hid (delete_any hm.tab hm.wf k hk rfl (by omega) (occ_room' ho hc))
  have hn2 : 2 ^ a ≤ 262144 := Nat.pow_le_pow_right (n := 2) (by decide) ha
  have HC := Lib.hid hc
  have H : Hid (Mp w p b (2 ^ a) c T key val ∧ occ T (2 ^ a) ≤ c ∧ F p ∧ F b ∧ (∀ q, In T (2 ^ a) q → F q) ∧ ∀ k v, D k = some v ↔ ∃ q, In T (2 ^ a) q ∧ key q = k ∧ val q = v) := ⟨hm, ho, hBp, hBb, hBq, hD⟩
  have hc2 : c < 262144 := by omega
  have hlt := hm.st
  obtain ⟨n, hn⟩ : ∃ n, n = 2 ^ a := ⟨_, rfl⟩
  have HN := Lib.hid hn
  rw [← hn] at x1 hG
  clear hm ho hBp hBb hBq hD hn hn2 hc hlt
  go_enter Try.func11, Try.ntmps11
  go_wp2_with fail
  refine hG.out.mono ?_; rintro e w' (⟨rfl, rfl, hno⟩ | ⟨rfl, T', q0, hin, hk0, ht, hwf, hocc, hiff, hon⟩)
  · have HNo := Lib.hid hno
    clear hno
    go_wp2_with fail
    go_end0
    obtain ⟨hm, ho, hBp, hBb, hBq, hD⟩ := H.out
    have hno := HNo.out
    rw [HN.out] at hno
    have hk1 : D k = none := by
      cases h1 : D k with
      | none => rfl
      | some v => obtain ⟨q, h2, h3, _⟩ := (hD k v).1 h1; exact absurd h3 (hno q h2)
    have hg : gone D k = D := by
      funext j; unfold gone; split
      · rename_i e; rw [e, hk1]
      · rfl
    rw [hk1, hg]
    exact ⟨rfl, ⟨b, T, key, val, hm, ho, hBp, hBb, hBq, hD⟩, Kept.refl _ _⟩
  · have HA : Hid (In T n q0 ∧ key q0 = k ∧ Tab w' b n T' key val ∧ WF n key (hmn n) T' ∧ occ T' n + 1 = occ T n ∧ (∀ q, In T' n q ↔ In T n q ∧ key q ≠ k) ∧ Only [b] w w') := ⟨hin, hk0, ht, hwf, hocc, hiff, hon⟩
    have y0 : w'.cell? ⟨p, 0, none⟩ = some (.int .u64 c) := by obtain ⟨T0, h⟩ := H.out.1.st; exact (h.only hon (by simp; exact H.out.1.pb)).cell rfl
    have y1 : w'.frozen? ⟨p, 0, none⟩ = false := by obtain ⟨T0, h⟩ := H.out.1.st; exact (h.only hon (by simp; exact H.out.1.pb)).free 0
    have hc1 : 0 < c := by have := in_pos hin; have h2 := H.out.2.1; rw [← HN.out] at h2; omega
    obtain ⟨d, hd⟩ : ∃ d, d = c - 1 := ⟨_, rfl⟩
    have hd1 : (c : Int) - 1 = (d : Int) := by omega
    have HDd := Lib.hid hd
    clear hin hk0 ht hwf hocc hiff hon hd
    go_wp2_with fail
    go_end0
    obtain ⟨hm, ho, hBp, hBb, hBq, hD⟩ := H.out
    obtain ⟨hin, hk0, ht, hwf, hocc, hiff, hon⟩ := HA.out
    rw [HN.out] at hin ht hwf hocc hiff
    have hk1 : D k = some (val q0) := (hD _ _).2 ⟨q0, hin, hk0, rfl⟩
    obtain ⟨T0, hst⟩ := hm.st
    have hst2 := hst.only hon (by simp; exact hm.pb)
    rw [hk1]
    refine ⟨rfl, ⟨b, T', key, val, ⟨⟨T0, ?_⟩, ht.only (M := [p]) ((Only.refl _ _).setCell (Or.inl (by simp)) _) (by simp; exact fun e => hm.pb e.symm) (fun q hq => by simpa using hm.pq q ((hiff q).1 hq).1), hwf, hm.pb, fun q hq => hm.pq q ((hiff q).1 hq).1⟩, ?_, hBp, hBb, fun q hq => hBq q ((hiff q).1 hq).1, fun j v => ?_⟩, ?_⟩
    · have e := HDd.out
      subst e
      exact hst2.set 0 (.int .u64 ((c - 1 : Nat) : Int))
    · simp; omega
    · unfold gone
      by_cases e : j = k
      · rw [if_pos e]
        exact ⟨fun h => (by cases h), fun ⟨q, hq, h1, _⟩ => absurd (h1.trans e) ((hiff q).1 hq).2⟩
      · rw [if_neg e]
        refine (hD j v).trans ⟨fun ⟨q, h1, h2, h3⟩ => ⟨q, (hiff q).2 ⟨h1, fun h => e (h2.symm.trans h)⟩, h2, h3⟩, fun ⟨q, h1, h2, h3⟩ => ⟨q, ((hiff q).1 h1).1, h2, h3⟩⟩
    · have := (hon.mono (M' := [b, p]) (fun _ _ h => by simp at h; simp [h])).setCell (p := ⟨p, 0, none⟩) (Or.inl (by simp)) (.int .u64 d)
      exact this.kept (by simp; exact ⟨hBb, hBp⟩)
end Go.Proofs.Ytiiobifljflkiaa
