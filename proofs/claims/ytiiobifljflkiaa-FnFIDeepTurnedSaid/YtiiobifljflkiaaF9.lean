/- Set by the dictionary: the walk. -/
import Derived.Test.YtiiobifljflkiaaF8
namespace Go.Proofs.Ytiiobifljflkiaa
open Go.RowKit FI

set_option maxRecDepth 100000 in
set_option maxHeartbeats 2000000 in
theorem Set_any {w : World} {F : Nat → Prop} {p a c : Nat} {D : Nat → Option Nat} (h : Dc w F p a c D) (hF : ∀ x, w.heap.size ≤ x → F x) (ha : a < 11) (hc : c < 2 ^ a) (hc3 : c < 304) (k v : Nat) (hk : k < 18446744073709551616) (hv : v < 18446744073709551616) :
    Calls Try.prog 8 #[.pointer (some ⟨p, 0, none⟩), .int .u64 k, .int .u64 v] w fun e w' =>
      e = .returned (.tuple #[]) ∧ ∃ a', a' < 11 ∧ c + 1 < 2 ^ a' ∧ Dc w' F p a' (c + 1) (setD D k v) ∧ Kept F w w' := by
  obtain ⟨r, hr, ht1, ht2⟩ := grows_get ha hc hc3
  have hn2 : 2 ^ a ≤ 1024 := Nat.pow_le_pow_right (n := 2) (j := 10) (by decide) (by omega)
  have HT : Hid ((c + 1 = 2 ^ a → tops r = true) ∧ (tops r = true → 2 ^ a < 2 * (c + 1))) := ⟨ht1, ht2⟩
  have HC := Lib.hid hc
  obtain ⟨b, T, key, val, hm, ho, hBp, hBb, hBq, hD⟩ := h
  obtain ⟨n, hn⟩ : ∃ n, n = 2 ^ a := ⟨_, rfl⟩
  rw [← hn] at hr hn2 hm ho hBq hD
  have x0 := hm.count
  have x1 := hm.row
  have hq : ∀ w, (binOp .quo 48 (.float .f64 (floatOfInt .f64 ((c : Int) + 1))) (.float .f64 (floatOfInt .f64 n))).run Try.prog w = .ok (.float .f64 r) w := fun w => run_float_arith w .quo _ .f64 _ _ r (by rw [quot_is]; exact hr)
  have e1 : IntKind.u64.wrap ((c : Int) + 1) = (c : Int) + 1 := by rw [IntKind.wrap_u64]; omega
  have HN := Lib.hid hn
  have HBP := Lib.hid hBp
  have HFr := Lib.hid hF
  have H : Hid (Mp w p b n c T key val ∧ occ T n ≤ c ∧ F b ∧ (∀ q, In T n q → F q) ∧ ∀ k v, D k = some v ↔ ∃ q, In T n q ∧ key q = k ∧ val q = v) := ⟨hm, ho, hBb, hBq, hD⟩
  clear hm ho hBp hBb hBq hD hn hr ht1 ht2 hc hF
  go_enter Try.func8, Try.ntmps8
  go_wp2_with fail
  go_quiet (fail)
  rw [tops_is]
  clear x0 x1 hq e1
  have HM : Hid (Mp (w.drewN nq) p b n c T key val ∧ Kept F w (w.drewN nq)) := by
    obtain ⟨T0, hst⟩ := H.out.1.st
    exact ⟨⟨⟨T0, hst⟩, H.out.1.tab.drewN nq, H.out.1.wf, H.out.1.pb, H.out.1.pq⟩, ((Only.refl [] w).drewN nq).kept (by simp)⟩
  generalize w.drewN nq = w0 at HM
  have x1 := HM.out.1.row
  cases hg : tops r with
  | true =>
    have hg2 := HT.out.2 hg
    have ha9 : a < 10 := by
      rcases Nat.lt_or_ge a 10 with h | h
      · exact h
      · exfalso
        obtain rfl : a = 10 := by omega
        omega
    have hR := Lib.hid (rebuild_any HM.out.1 HN.out (by omega))
    clear hg hg2
    go_wp2_with fail
    refine hR.out.mono ?_; rintro e w1 ⟨rfl, T1, hm1, hin1, ho1, hon1⟩
    obtain ⟨b1, hb1⟩ : ∃ b1, b1 = w0.heap.size := ⟨_, rfl⟩
    obtain ⟨a1, ea1⟩ : ∃ a1, a1 = a + 1 := ⟨_, rfl⟩
    obtain ⟨n1, hn1⟩ : ∃ n1, n1 = 2 * n := ⟨_, rfl⟩
    rw [← hb1, ← hn1] at hm1
    rw [← hn1] at hin1 ho1
    have hn1' : n1 = 2 ^ a1 := by rw [hn1, ea1, HN.out, Nat.pow_succ]; omega
    have HN1 := Lib.hid hn1'
    have ha1 : a1 < 11 := by omega
    have hl1 : n1 ≤ 2048 := by omega
    have HC1 : Hid (c + 1 < n1) := Lib.hid (by have := HC.out; have := HN.out; omega)
    have H1 : Hid (Mp w1 p b1 n1 c T1 key val ∧ occ T1 n1 ≤ c ∧ F b1 ∧ (∀ q, In T1 n1 q → F q) ∧ ∀ k v, D k = some v ↔ ∃ q, In T1 n1 q ∧ key q = k ∧ val q = v) := by
      refine ⟨hm1, by rw [ho1]; exact H.out.2.1, HFr.out _ (by have := HM.out.2.size; omega), fun q hq => H.out.2.2.2.1 q ((hin1 q).1 hq), fun j u => (H.out.2.2.2.2 j u).trans ?_⟩
      exact ⟨fun ⟨q, h, r⟩ => ⟨q, (hin1 q).2 h, r⟩, fun ⟨q, h, r⟩ => ⟨q, (hin1 q).1 h, r⟩⟩
    have HB : Hid (Kept F w w1) := by
      exact HM.out.2.trans (hon1.kept (by simp; exact HBP.out))
    clear hm1 hin1 ho1 hon1 hb1 ea1 hn1 hn1' hR x1
    -- H1 : Hid (Mp w1 p b1 n1 c T1 key val ∧ occ T1 n1 ≤ c ∧ F b1 ∧ (∀ q, In T1 n1 q → F q) ∧ (D is the table)), n1 = 2 ^ a1, HB : Kept F w w1
    have z1 := H1.out.1.row
    have hS := Lib.hid (set_any (tab_pk H1.out.1 52 k v) w1.heap.size ⟨_, by rw [upd_same, upd_same]; exact Blk.new w1 _ _⟩ (by have := H1.out.1.tab.row.lt; omega) (by rw [upd_same]; exact hk) (by rw [upd_same]; exact hv) HN1.out (by omega) (occ_room' H1.out.2.1 (by have := HC1.out; omega)))
    go_wp2_with fail
    refine hS.out.mono ?_; rintro e w3 ⟨rfl, hp⟩
    obtain ⟨T3, val3, hst, ht, hwf, hin, hocc, hdd, hbl⟩ := set_post H1.out.1 H1.out.2.1 (fun x hx => HFr.out x (by have := HB.out.size; omega)) H1.out.2.2.1 H1.out.2.2.2.1 H1.out.2.2.2.2 52 (by have := HC1.out; omega) hp
    obtain ⟨T0, hst⟩ := hst
    have HF : Hid ((Blk w3 p #[.int .u64 c, .slice (some ⟨b1, 0, none⟩) n1 n1] T0) ∧ Tab w3 b1 n1 T3 (upd key w1.heap.size k) val3 ∧ WF n1 (upd key w1.heap.size k) (hmn n1) T3 ∧ (∀ q, In T3 n1 q → q ≠ p ∧ F q) ∧ occ T3 n1 ≤ c + 1 ∧
      (∀ j u, setD D k v j = some u ↔ ∃ q, In T3 n1 q ∧ upd key w1.heap.size k q = j ∧ val3 q = u) ∧ Kept F w1 w3) := ⟨hst, ht, hwf, hin, hocc, hdd, hbl⟩
    have y0 : w3.cell? ⟨p, 0, none⟩ = some (.int .u64 c) := hst.cell rfl
    have y1 : w3.frozen? ⟨p, 0, none⟩ = false := hst.free 0
    clear hp hst ht hwf hin hocc hdd hbl hS z1
    go_wp2_with fail
    go_end0
    obtain ⟨hst, ht, hwf, hin, hocc, hdd, hbl⟩ := HF.out
    have hn1 := HN1.out
    have hbp : p ≠ b1 := H1.out.1.pb
    subst hn1
    refine ⟨rfl, a1, ha1, by have := HC1.out; omega, ⟨b1, T3, upd key w1.heap.size k, val3, ⟨⟨T0, hst.set 0 _⟩, ht.only (M := [p]) ((Only.refl _ _).setCell (Or.inl (by simp)) _) (by simp; exact fun e => hbp e.symm) (fun q hq => by simpa using (hin q hq).1), hwf, hbp, fun q hq => (hin q hq).1⟩, hocc, HBP.out, H1.out.2.2.1, fun q hq => (hin q hq).2, hdd⟩, ?_⟩
    exact (HB.out.trans hbl).setCell HBP.out _
  | false =>
    obtain ⟨w1, hw1⟩ : ∃ w1, w1 = w0 := ⟨_, rfl⟩
    subst hw1
    obtain ⟨a1, ea1⟩ : ∃ a1, a1 = a := ⟨_, rfl⟩
    subst ea1
    have HN1 := HN
    have ha1 := ha
    have HC1 : Hid (c + 1 < n) := Lib.hid (by
      have h1 := HC.out; have h2 := HN.out
      rcases Nat.lt_or_ge (c + 1) n with h | h
      · exact h
      · have := HT.out.1 (by omega); rw [hg] at this; cases this)
    have H1 : Hid (Mp w1 p b n c T key val ∧ occ T n ≤ c ∧ F b ∧ (∀ q, In T n q → F q) ∧ ∀ k v, D k = some v ↔ ∃ q, In T n q ∧ key q = k ∧ val q = v) := ⟨HM.out.1, H.out.2⟩
    have HB : Hid (Kept F w w1) := HM.out.2
    clear hg x1
    -- H1 : Hid (Mp w1 p b n c T key val ∧ occ T n ≤ c ∧ F b ∧ (∀ q, In T n q → F q) ∧ (D is the table)), N1 = 2 ^ a1, HB : Kept F w w1
    have z1 := H1.out.1.row
    have hS := Lib.hid (set_any (tab_pk H1.out.1 52 k v) w1.heap.size ⟨_, by rw [upd_same, upd_same]; exact Blk.new w1 _ _⟩ (by have := H1.out.1.tab.row.lt; omega) (by rw [upd_same]; exact hk) (by rw [upd_same]; exact hv) HN1.out (by omega) (occ_room' H1.out.2.1 (by have := HC1.out; omega)))
    go_wp2_with fail
    refine hS.out.mono ?_; rintro e w3 ⟨rfl, hp⟩
    obtain ⟨T3, val3, hst, ht, hwf, hin, hocc, hdd, hbl⟩ := set_post H1.out.1 H1.out.2.1 (fun x hx => HFr.out x (by have := HB.out.size; omega)) H1.out.2.2.1 H1.out.2.2.2.1 H1.out.2.2.2.2 52 (by have := HC1.out; omega) hp
    obtain ⟨T0, hst⟩ := hst
    have HF : Hid ((Blk w3 p #[.int .u64 c, .slice (some ⟨b, 0, none⟩) n n] T0) ∧ Tab w3 b n T3 (upd key w1.heap.size k) val3 ∧ WF n (upd key w1.heap.size k) (hmn n) T3 ∧ (∀ q, In T3 n q → q ≠ p ∧ F q) ∧ occ T3 n ≤ c + 1 ∧
      (∀ j u, setD D k v j = some u ↔ ∃ q, In T3 n q ∧ upd key w1.heap.size k q = j ∧ val3 q = u) ∧ Kept F w1 w3) := ⟨hst, ht, hwf, hin, hocc, hdd, hbl⟩
    have y0 : w3.cell? ⟨p, 0, none⟩ = some (.int .u64 c) := hst.cell rfl
    have y1 : w3.frozen? ⟨p, 0, none⟩ = false := hst.free 0
    clear hp hst ht hwf hin hocc hdd hbl hS z1
    go_wp2_with fail
    go_end0
    obtain ⟨hst, ht, hwf, hin, hocc, hdd, hbl⟩ := HF.out
    have hn1 := HN1.out
    have hbp : p ≠ b := H1.out.1.pb
    subst hn1
    refine ⟨rfl, a1, ha1, by have := HC1.out; omega, ⟨b, T3, upd key w1.heap.size k, val3, ⟨⟨T0, hst.set 0 _⟩, ht.only (M := [p]) ((Only.refl _ _).setCell (Or.inl (by simp)) _) (by simp; exact fun e => hbp e.symm) (fun q hq => by simpa using (hin q hq).1), hwf, hbp, fun q hq => (hin q hq).1⟩, hocc, HBP.out, H1.out.2.2.1, fun q hq => (hin q hq).2, hdd⟩, ?_⟩
    exact (HB.out.trans hbl).setCell HBP.out _
end Go.Proofs.Ytiiobifljflkiaa
