/- Building the table anew, twice as great. -/
import Derived.Test.YtiiobifljflkiaaF4
import Derived.Laws.MakeOwn
import Derived.OwnWalk
namespace Go.Proofs.Ytiiobifljflkiaa
open Go.RowKit FI

theorem made_pk (n : Nat) : ∀ i, i < n → (madeCells #[Value.pointer none] n)[i]? = some (pv none) := by
  intro i hi
  simp [madeCells, hi, Nat.mod_one, pv]
theorem infoPk : (Try.prog.info? 50).map (fun i => (i.zero, i.size, i.bytes)) = some (some (.pointer none), 1, 8) := by kernel_rfl
theorem make_pk (n : Nat) (w : World) (hn : n ≤ 4000000) :
    (Instr.makeSlice 45 (.int .u64 (n : Int)) (.int .u64 (n : Int))).run Try.prog w = .ok (.slice (some ⟨w.heap.size, 0, none⟩) n n) (w.alloc (.cells (madeCells #[.pointer none] n) 50)) := by
  obtain ⟨i0, hi, hz0, hz1, hz2⟩ := info_parts infoPk
  have h := run_make (P := Try.prog) w 45 50 i0 (.pointer none) Try.underlying45 hi hz0 .u64 .u64 n n (by omega) (by omega) (by rw [hz2]; omega) (by omega)
  rw [h, hz1]
  simp [Value.cells]
theorem rowNew (w : World) (n : Nat) (t : TypeId) : Rw (w.alloc (.cells (madeCells #[.pointer none] n) t)) w.heap.size n (fun _ => pv none) := ⟨_, _, Blk.new w _ t, size_madeCells _ _, made_pk n⟩
theorem tabNew {w : World} {b n : Nat} (h : Rw w b n (fun _ => pv none)) (key val : Nat → Nat) : Tab w b n (fun _ => none) key val :=
  ⟨h, fun _ _ _ h => (by cases h), fun _ _ _ h => (by cases h), fun _ _ _ h => (by cases h), fun _ _ _ h => (by cases h)⟩
theorem wfNew (n : Nat) (key hm : Nat → Nat) : WF n key hm (fun _ => none) := ⟨fun _ _ _ _ _ _ h => (by cases h), fun _ _ _ h => (by cases h)⟩

/-- A map in memory. -/
structure Mp (w : World) (p b n c : Nat) (T : Nat → Option Nat) (key val : Nat → Nat) : Prop where
  st : ∃ T0, Blk w p #[.int .u64 c, .slice (some ⟨b, 0, none⟩) n n] T0
  tab : Tab w b n T key val
  wf : WF n key (hmn n) T
  pb : p ≠ b
  pq : ∀ q, In T n q → q ≠ p
section
variable {w w' : World} {p b n c : Nat} {T : Nat → Option Nat} {key val : Nat → Nat}
theorem Mp.count (h : Mp w p b n c T key val) : w.cell? ⟨p, 0, none⟩ = some (.int .u64 c) := by obtain ⟨_, h⟩ := h.st; exact h.cell rfl
theorem Mp.row (h : Mp w p b n c T key val) : w.cell? ⟨p, 1, none⟩ = some (.slice (some ⟨b, 0, none⟩) n n) := by obtain ⟨_, h⟩ := h.st; exact h.cell rfl
theorem Mp.free (h : Mp w p b n c T key val) (i : Nat) : w.frozen? ⟨p, i, none⟩ = false := by obtain ⟨_, h⟩ := h.st; exact h.free i
theorem Tab.only {M : List Nat} (h : Tab w b n T key val) (ho : Only M w w') (hb : b ∉ M) (hq : ∀ q, In T n q → q ∉ M) : Tab w' b n T key val :=
  ⟨h.row.only ho hb, fun i k hi hk => by obtain ⟨T0, h1⟩ := h.pk i k hi hk; exact ⟨T0, h1.only ho (hq k ⟨i, hi, hk⟩)⟩, h.ap, h.kl, h.vl⟩
theorem Tab.plt (h : Tab w b n T key val) {q : Nat} (hq : In T n q) : q < w.heap.size := by
  obtain ⟨x, hx, hT⟩ := hq; obtain ⟨_, h1⟩ := h.pk x q hx hT; exact h1.lt
theorem in_new {U : Nat → Option Nat} {i q : Nat} (hi : i < n) (h : U i = none) (p : Nat) : In (FI.put U i (some q)) n p ↔ In U n p ∨ p = q := by
  constructor
  · rintro ⟨x, hx, h1⟩
    by_cases e : x = i
    · subst e; rw [FI.put_same] at h1; cases h1; exact Or.inr rfl
    · rw [FI.put_other _ _ e] at h1; exact Or.inl ⟨x, hx, h1⟩
  · rintro (⟨x, hx, h1⟩ | rfl)
    · have e : x ≠ i := fun e => by subst e; rw [h] at h1; cases h1
      exact ⟨x, hx, by rw [FI.put_other _ _ e]; exact h1⟩
    · exact ⟨i, hi, FI.put_same _ _ _⟩
end

set_option maxRecDepth 100000 in
set_option maxHeartbeats 2000000 in
theorem rebuild_any {w : World} {p b n c a : Nat} {T : Nat → Option Nat} {key val : Nat → Nat} (h : Mp w p b n c T key val) (hn : n = 2 ^ a) (ha : a ≤ 18) :
    Calls Try.prog 16 #[.pointer (some ⟨p, 0, none⟩)] w fun e w' => e = .returned (.tuple #[]) ∧
      ∃ U, Mp w' p w.heap.size (2 * n) c U key val ∧ (∀ q, In U (2 * n) q ↔ In T n q) ∧ occ U (2 * n) = occ T n ∧ Only [p] w w' := by
  have x0 := h.row
  have x1 := h.free 1
  have H := Lib.hid h
  have hn2 : n ≤ 262144 := by rw [hn]; exact Nat.pow_le_pow_right (n := 2) (by decide) ha
  have hn0 : 0 < n := by rw [hn]; exact Nat.pos_of_ne_zero (by simp)
  obtain ⟨N, hN⟩ : ∃ N, N = 2 * n := ⟨_, rfl⟩
  have hN2 : N = 2 ^ (a + 1) := by rw [hN, hn, Nat.pow_succ]; omega
  have hr : rup (n + 1) = N := by rw [hN2, hn]; exact rup_next a (by omega)
  have hU := Lib.hid (fun w => roundUp_any (n + 1) w (by omega) (by omega) (by omega))
  have x2 : (w.alloc (.cells (madeCells #[.pointer none] N) 50)).cell? ⟨p, 1, none⟩ = some (.slice (some ⟨b, 0, none⟩) n n) := by obtain ⟨_, h⟩ := H.out.st; exact (h.alloc _).cell rfl
  have HN := Lib.hid hN
  have HN2 := Lib.hid hN2
  rw [← hN]
  have hmk := fun w => make_pk N w (by omega)
  have hNl : N ≤ 524288 := by omega
  have hnN : n < N := by omega
  have EA : Hid ((n : Int) + 1 = ((n + 1 : Nat) : Int)) := Lib.hid (by omega)
  rw [hr] at hU
  clear h hn hN hN2 hr
  go_enter Try.func16, Try.ntmps16
  go_wp2_with fail
  rw [EA.out]
  refine (hU.out w).mono ?_; rintro e w' ⟨rfl, rfl⟩
  go_wp2_with fail
  go_loopw [4, 19] (fun _ kv wr => ∃ k : Nat, k ≤ n ∧ kv = .int .i64 k ∧ Hid (∃ U, Tab wr w.heap.size N U key val ∧ WF N key (hmn N) U ∧ (∀ q, In U N q ↔ In T k q) ∧ occ U N = occ T k ∧ Only [] w wr)) (fun _ kv _ => n - (intOf kv).toNat)
  case atStart =>
    exact ⟨0, Nat.zero_le _, rfl, fun _ => none, tabNew (rowNew _ _ _) _ _, wfNew _ _ _, fun q => ⟨fun ⟨_, _, h⟩ => (by cases h), fun ⟨_, h, _⟩ => absurd h (by omega)⟩, occ_none _ _ (fun _ _ => rfl), (Only.refl _ _).alloc _⟩
  case round =>
    obtain ⟨k, hk, rfl, hR⟩ := hrel
    obtain ⟨U, h1, h2, h3, h4, h5⟩ := (show Hid (∃ U, Tab wr w.heap.size N U key val ∧ WF N key (hmn N) U ∧ (∀ q, In U N q ↔ In T k q) ∧ occ U N = occ T k ∧ Only [] w wr) from hR).out
    have HR : Hid (WF N key (hmn N) U ∧ (∀ q, In U N q ↔ In T k q) ∧ occ U N = occ T k ∧ Only [] w wr) := ⟨h2, h3, h4, h5⟩
    have H1 := Lib.hid h1
    clear hR h1 h2 h3 h4 h5
    have y0 := HR.out.2.2.2
    by_cases hkn : k < n
    · have d1 := (H.out.tab.row.only HR.out.2.2.2 (by simp)).cell hkn
      cases hT : T k with
      | none =>
        rw [hT] at d1
        have HT := Lib.hid hT
        clear hT
        simp only [pv] at d1
        go_wp2_with fail
        go_round
        case rel =>
          refine ⟨k + 1, by omega, rfl, U, H1.out, HR.out.1, fun q => (HR.out.2.1 q).trans ⟨fun ⟨x, hx, hq⟩ => ⟨x, by omega, hq⟩, fun ⟨x, hx, hq⟩ => ⟨x, ?_, hq⟩⟩, ?_, HR.out.2.2.2⟩
          · rcases Nat.eq_or_lt_of_le (Nat.le_of_lt_succ hx) with e | e
            · rw [e, HT.out] at hq; cases hq
            · exact e
          · rw [HR.out.2.2.1, occ, HT.out]; rfl
        case measure =>
          simp only [intOf]; omega
      | some q =>
        rw [hT] at d1
        have HT := Lib.hid hT
        obtain ⟨T0, hb⟩ := H.out.tab.pk k q hkn hT
        have hql := hb.lt
        have hroom := occ_room (T := U) N (by have := occ_le T k; rw [HR.out.2.2.1]; omega)
        have hS := Lib.hid (set_any H1.out q ⟨T0, hb.only HR.out.2.2.2 (by simp)⟩ (by omega) (H.out.tab.kl k q hkn hT) (H.out.tab.vl k q hkn hT) HN2.out (by omega) hroom)
        clear hT hb hroom
        simp only [pv] at d1
        go_wp2_with fail
        refine hS.out.mono ?_; rintro e w' ⟨rfl, y, hyn, hy, hcase⟩
        have hA : U y = none ∧ Tab w' w.heap.size N (FI.put U y (some q)) key val ∧ Only [w.heap.size] wr w' := by
          rcases hcase with ⟨g0, g1, g2⟩ | ⟨r, g1, g2, _⟩
          · exact ⟨g0, g1, g2⟩
          · obtain ⟨x, hx, hxr⟩ := (HR.out.2.1 r).1 ⟨y, hyn, g1⟩
            have := H.out.wf.uniq x k r q (by omega) hkn hxr HT.out g2
            omega
        obtain ⟨hU0, hT2, hO2⟩ := hA
        have HA : Hid (Tab w' w.heap.size N (FI.put U y (some q)) key val ∧ WF N key (hmn N) (FI.put U y (some q)) ∧ (∀ p, In (FI.put U y (some q)) N p ↔ In T (k + 1) p) ∧ occ (FI.put U y (some q)) N = occ T (k + 1) ∧ Only [] w w') := by
          refine ⟨hT2, HR.out.1.put_new (fun x => Nat.mod_lt _ (by omega)) hy hU0, fun p => (in_new hyn hU0 p).trans ⟨?_, ?_⟩, ?_, HR.out.2.2.2.new hO2 (Nat.le_refl _)⟩
          · rintro (h | rfl)
            · obtain ⟨x, hx, hp⟩ := (HR.out.2.1 p).1 h
              exact ⟨x, by omega, hp⟩
            · exact ⟨k, by omega, HT.out⟩
          · rintro ⟨x, hx, hp⟩
            rcases Nat.eq_or_lt_of_le (Nat.le_of_lt_succ hx) with e | e
            · rw [e, HT.out] at hp; cases hp; exact Or.inr rfl
            · exact Or.inl ((HR.out.2.1 p).2 ⟨x, e, hp⟩)
          · have := occ_put (T := U) (x := some q) N hyn
            rw [hU0] at this
            simp at this
            rw [this, HR.out.2.2.1, occ, HT.out]; rfl
        clear hy hcase hU0 hT2 hO2 hS d1
        go_wp2_with fail
        go_round
        case rel => exact ⟨k + 1, by omega, rfl, _, HA.out⟩
        case measure => simp only [intOf]; omega
    · obtain rfl : k = n := by omega
      have d0 : wr.frozen? ⟨p, 1, none⟩ = false := by obtain ⟨T0, h⟩ := H.out.st; exact (h.only HR.out.2.2.2 (by simp)).free 1
      have d1 : wr.cell? ⟨p, 1, none⟩ = some (.slice (some ⟨b, 0, none⟩) k k) := by obtain ⟨T0, h⟩ := H.out.st; exact (h.only HR.out.2.2.2 (by simp)).cell rfl
      go_wp2_with fail
      go_end0
      obtain ⟨T0, hst⟩ := H.out.st
      have hst2 := hst.only HR.out.2.2.2 (by simp)
      have hpl := hst.lt
      have hsz := HR.out.2.2.2.size
      have hpq : ∀ q, In U N q → q ≠ p := fun q hq => H.out.pq q ((HR.out.2.1 q).1 hq)
      refine ⟨rfl, U, ⟨⟨T0, hst2.set 1 _⟩, H1.out.only (M := [p]) ((Only.refl _ _).setCell (Or.inl (by simp)) _) (by simp; omega) (fun q hq => by simpa using hpq q hq), HR.out.1, by omega, hpq⟩, HR.out.2.1, HR.out.2.2.1, ?_⟩
      exact (HR.out.2.2.2.mono (fun _ _ h => by simp at h)).setCell (Or.inl (by simp)) _
end Go.Proofs.Ytiiobifljflkiaa
