/- ShiftLeft. -/
import Derived.Test.YtpmnpaannbhoeaaBsR0
import Derived.Deep.Cut
namespace Go.Proofs.Ytpmnpaannbhoeaa
open Go.RowKit Pop

set_option maxRecDepth 100000 in
set_option maxHeartbeats 2000000 in
theorem sl_k0 {w : World} {p b n c len : Nat} {f : Nat → Nat} (h : BSet w p b n c len f) (t d : Nat) (ht : Top f n t) (hd0 : 0 < d) (htl : t < len) (hN : wn (t + d + 1) ≤ n) (hv : t + d < len) (hs : d % 64 = 0) (hl : len ≤ 100000) (hd : t + d ≤ 99990) (hcm : c ≤ 200000) :
    Calls Try.prog 60 #[.pointer (some ⟨p, 0, none⟩), .int .u64 d] w fun e' w' => e' = .returned (.tuple #[]) ∧ ∃ b2 n2 c2 g, BSet w' p b2 n2 c2 len g ∧ (∀ j, j < len → bit g j = (decide (d ≤ j) && (decide (j - d < len) && bit f (j - d)))) ∧ Only [p, b] w w' ∧ (b2 = b ∨ w.heap.size ≤ b2) ∧ c2 ≤ 200000 := by
  have x0 := h.len_cell
  have x1 := h.set_cell
  have H := Lib.hid h
  have HT := Lib.hid ht
  have hplt := h.plt
  have hblt := h.blt
  obtain ⟨u, hu⟩ : ∃ u, u = t + d := ⟨_, rfl⟩
  obtain ⟨v, hv'⟩ : ∃ v, v = u + 1 := ⟨_, rfl⟩
  obtain ⟨N, hN'⟩ : ∃ N, N = wn v := ⟨_, rfl⟩
  obtain ⟨idx, hidx⟩ : ∃ i, i = t / 64 := ⟨_, rfl⟩
  obtain ⟨pad, hpad⟩ : ∃ i, i = t % 64 := ⟨_, rfl⟩
  obtain ⟨pg, hpg⟩ : ∃ i, i = d / 64 := ⟨_, rfl⟩
  obtain ⟨sh, hsh⟩ : ∃ i, i = d % 64 := ⟨_, rfl⟩
  have a1 : (t : Int) + (d : Int) = (u : Int) := by omega
  have a2 : (u : Int) + 1 = (v : Int) := by omega
  have a3 : (t : Int) / 64 = (idx : Int) := by omega
  have a4 : (t : Int) % 64 = (pad : Int) := by omega
  have a5 : (d : Int) / 64 = (pg : Int) := by omega
  have a6 : (d : Int) % 64 = (sh : Int) := by omega
  have hd0b : ((d : Int) == 0) = false := by simp; omega
  have hud : decide (u < d) = false := decide_eq_false (by omega)
  have hnu : N ≤ 20000 := by rw [hN']; unfold wn; omega
  have hn2 : n ≤ 20000 := by rw [h.n_eq]; unfold wn; omega
  have hnc := h.nc
  have hidn : idx < n := by have := ht.1; omega
  have hidl : idx ≤ 2000 := by omega
  have hpgl : pg ≤ 2000 := by omega
  have hsh64 : sh < 64 := by omega
  have HNN : Hid (N = wn (t + d + 1)) := Lib.hid (by rw [hN', hv', hu])
  have hwn : Calls Try.prog 81 #[.int .u64 v] w fun e w' => e = .returned (.int .i64 (N : Int)) ∧ w = w' := by rw [hN']; exact wordsNeeded_any v w (by omega)
  have HWN : Hid (∀ W, Calls Try.prog 81 #[.int .u64 v] W fun e w' => e = .returned (.int .i64 (N : Int)) ∧ W = w') := Lib.hid (fun W => by rw [hN']; exact wordsNeeded_any v W (by omega))
  have hNip : idx + pg < N := by rw [hN', hv', hu]; unfold wn; omega
  have hlen64 : len ≤ 64 * n := by rw [h.n_eq]; unfold wn; omega
  have hX : t = 64 * idx + pad ∧ d = 64 * pg + sh ∧ pad < 64 := by omega
  have HX : Hid (t = 64 * idx + pad ∧ d = 64 * pg + sh ∧ pad < 64 ∧ u = t + d ∧ v = u + 1 ∧ idx = t / 64 ∧ pg = d / 64 ∧ sh = d % 64) := ⟨hX.1, hX.2.1, hX.2.2, hu, hv', hidx, hpg, hsh⟩
  have hzero : ∀ i, idx < i → i < n → f i = 0 := by rw [hidx]; exact ht.zero h.small
  have HZ := Lib.hid hzero
  have HV : Hid (t + d + 1 ≤ len) := Lib.hid (by omega)
  have hsg : IntKind.u64.signed = false := rfl
  have hsb : ((sh : Int) == 0) = true := by rw [hsh, hs]; rfl
  have HSH : Hid (sh = 0) := Lib.hid (by rw [hsh, hs])
  have hNn : decide (n < N) = false := decide_eq_false (by rw [hN', hv', hu]; omega)
  have hN_n : N ≤ n := by rw [hN', hv', hu]; exact hN
  have hlu : decide (len ≤ u) = false := decide_eq_false (by omega)
  clear h ht hu hv' hN' hidx hpad hpg hsh hX hN hs hzero hv 
  go_enter Try.func60, Try.ntmps60
  go_wp2_with fail
  refine (panicIfNull_any _ _).mono ?_; rintro e w' ⟨rfl, rfl⟩
  go_wp2_with fail
  refine (top_any H.out (by omega)).mono ?_; rintro e w' ⟨hres, rfl⟩
  have hres2 : e = .returned (.tuple #[.int .u64 t, .bool true]) := by
    rcases hres with ⟨t2, ht2, rfl⟩ | ⟨hz, _⟩
    · have : t2 = t := by
        have h1 := HT.out
        rcases Nat.lt_trichotomy t2 t with h2 | h2 | h2
        · have := ht2.2.2 t h2 h1.1; rw [h1.2.1] at this; cases this
        · exact h2
        · have := h1.2.2 t2 h2 ht2.1; rw [ht2.2.1] at this; cases this
      rw [this]
    · exfalso
      have h1 := HT.out
      have h2 := zero_bits (k := 0) (fun i _ hi => hz i hi) t (by omega) h1.1
      rw [h1.2.1] at h2; cases h2
  subst hres2
  clear hres
  go_wp2_with fail
  refine (HWN.out _).mono ?_; rintro e w' ⟨rfl, rfl⟩
  obtain ⟨T, hst⟩ := H.out.st
  have HQ : Hid (Blk w p #[.int .u64 len, .slice (some ⟨b, 0, none⟩) n c] T ∧ Wd .u64 w b c f ∧ Only [p, b] w w) := ⟨hst, H.out.wd, Only.refl _ _⟩
  go_upto_region 12 with (fail)
  clear x0 x1 hst
  have x1 : w.cell? ⟨p, 1, none⟩ = some (.slice (some ⟨b, 0, none⟩) n c) := HQ.out.1.cell rfl
  have hNe : N = idx + pg + 1 := by have h1 := HNN.out; have h2 := HX.out; have h3 := HSH.out; unfold wn at h1; omega
  have hI : N - pg = idx + 1 := by omega
  have hcopy : ∀ ty, (Builtin.copy_ #[36, 36] ty #[.slice (some ⟨b, pg, none⟩) (idx + 1) (c - pg), .slice (some ⟨b, 0, none⟩) n c]).run Try.prog w.drew = .ok (.int .i64 ((idx + 1 : Nat) : Int)) (w.drew.setCells b pg (((List.range (idx + 1)).map fun j => f (0 + j)).map fun n : Nat => Value.int .u64 (n : Int))) := fun ty =>
    run_copy_wd (P := Try.prog) (K := .u64) (f := f) (c := c) 36 ty 69 Try.underlying36 size69 (HQ.out.2.1.drew) (HQ.out.2.1.drew) pg 0 (idx + 1) (c - pg) n c (idx + 1) (by show idx + 1 = min n (idx + 1); omega) (by omega) (by omega)
  have HZ0 : Hid (∀ q, idx + pg < q → q < n → f q = 0) := Lib.hid (fun q h1 h2 => HZ.out q (by omega) h2)
  have HP : Hid (Blk (w.drew.setCells b pg (((List.range (idx + 1)).map fun j => f (0 + j)).map fun n : Nat => Value.int .u64 (n : Int))) p #[.int .u64 len, .slice (some ⟨b, 0, none⟩) n c] T ∧ Wd .u64 (w.drew.setCells b pg (((List.range (idx + 1)).map fun j => f (0 + j)).map fun n : Nat => Value.int .u64 (n : Int))) b c (put f pg ((List.range (idx + 1)).map fun j => f (0 + j))) ∧ Only [p, b] w (w.drew.setCells b pg (((List.range (idx + 1)).map fun j => f (0 + j)).map fun n : Nat => Value.int .u64 (n : Int)))) := ⟨Blk.setCells (fun e => H.out.ne e.symm) _ _ HQ.out.1.drew, Wd.setCells _ _ HQ.out.2.1.drew, Only.setCells (Or.inl (by simp)) _ _ ((HQ.out.2.2).drewN 1)⟩
  clear hNe
  go_wp2_with fail
  have z0 : (0 : Int) ≤ (pg : Int) := by omega
  have z1 : (pg : Int) ≤ (N : Int) := by omega
  have z2 : ((pg : Int)).toNat = pg := by omega
  have z3 : ((N : Int)).toNat = N := by omega
  have z4 : (N : Int) ≤ (c : Int) := by omega
  refine wp_region_still_tail 8 (by kernel_rfl) (by kernel_rfl) ?_
  simp only [List.take_succ_cons, List.take_zero, List.drop_succ_cons, List.drop_zero]
  repeat still_step
  refine wpStill_nil ?_
  change wpList _ _ _ _ _ w.drew
  generalize (w.drew.setCells b pg (((List.range (idx + 1)).map fun j => f (0 + j)).map fun n : Nat => Value.int .u64 (n : Int))) = w3 at *
  clear z0 z1 z2 z3 z4
  have d1 : True := trivial
  go_wp2_with fail
  (try rw [a4]); (try rw [a6])
  go_loopw [13] (fun iv wr => ∃ m : Nat, m ≤ pg ∧ iv = .int .i64 m ∧ Hid (Blk wr p #[.int .u64 len, .slice (some ⟨b, 0, none⟩) n c] T ∧ Wd .u64 wr b c (ZL (put f pg ((List.range (idx + 1)).map fun j => f (0 + j))) m) ∧ Only [p, b] w wr)) (fun iv _ => pg - (intOf iv).toNat)
  case atStart => exact ⟨0, Nat.zero_le _, rfl, HP.out.1, by rw [ZL_zero]; exact HP.out.2.1, HP.out.2.2⟩
  case round =>
    obtain ⟨m, hm, rfl, hR⟩ := hrel
    have HR3 : Hid (Blk wr p #[.int .u64 len, .slice (some ⟨b, 0, none⟩) n c] T ∧ Wd .u64 wr b c (ZL (put f pg ((List.range (idx + 1)).map fun j => f (0 + j))) m) ∧ Only [p, b] w wr) := hR
    clear hR d1
    by_cases hmp : m < pg
    · have c1 := HR3.out.2.1.cell (i := m) (by omega)
      have c2 := HR3.out.2.1.free m
      have hmN : m < n := by omega
      go_wp2_with fail
      go_roundw
      case rel =>
        refine ⟨m + 1, by omega, by go_num, HR3.out.1.other (by show b ≠ p; exact fun e => H.out.ne e.symm) _, ?_, HR3.out.2.2.setCell (Or.inl (by simp)) _⟩
        have := HR3.out.2.1.set m 0
        rwa [ZL_next] at this
      case measure => simp [intOf]; omega
    · have hmF : decide (m < pg) = false := decide_eq_false hmp
      have hme : m = pg := by omega
      have HR4 : Hid (Blk wr p #[.int .u64 len, .slice (some ⟨b, 0, none⟩) n c] T ∧ Wd .u64 wr b c (ZL (put f pg ((List.range (idx + 1)).map fun j => f (0 + j))) pg) ∧ Only [p, b] w wr) := by have := HR3.out; rwa [hme] at this
      have e1 := HR4.out.1.free 1
      have e2 : wr.cell? ⟨p, 1, none⟩ = some (.slice (some ⟨b, 0, none⟩) n c) := HR4.out.1.cell rfl
      clear hme hmp
      go_wp2_with fail
      go_end0
      have hgl : ∀ q, q < n → ZL (put f pg ((List.range (idx + 1)).map fun j => f (0 + j))) pg q = SL f (t / 64) (d % 64) (d / 64) q := fun q hq => by
        have e := ZL_is (f := f) (h := (put f pg ((List.range (idx + 1)).map fun j => f (0 + j)))) (N := n) (idx := idx) (sh := 0) (pg := pg) (fun q h1 h2 => copied HZ0.out h1 h2) q hq
        rw [e, HX.out.2.2.2.2.2.1, HX.out.2.2.2.2.2.2.1, show d % 64 = 0 by rw [← HX.out.2.2.2.2.2.2.2]; exact HSH.out]
      have hgs : ∀ q, ZL (put f pg ((List.range (idx + 1)).map fun j => f (0 + j))) pg q < 18446744073709551616 := small_ZL (small_put H.out.small H.out.small _ _) pg
      have hbits : ∀ j, j < 64 * n → bit (ZL (put f pg ((List.range (idx + 1)).map fun j => f (0 + j))) pg) j = (decide (d ≤ j) && (decide (j - d < len) && bit f (j - d))) := fun j hj => shifted H.out.small HT.out (fun j h1 h2 => H.out.clean j h1 h2) hlen64 hgl hj
      have hwl : len ≤ 64 * n := by exact hlen64
      refine ⟨rfl, b, n, c, ZL (put f pg ((List.range (idx + 1)).map fun j => f (0 + j))) pg, ⟨⟨T, by have := HR4.out.1.set 1 (.slice (some ⟨b, 0, none⟩) n c); exact this⟩, HR4.out.2.1.other (H.out.ne) _, H.out.ne, H.out.n_eq, hnc, hgs, fun j h1 h2 => ?_⟩, fun j hj => hbits j (by omega), HR4.out.2.2.setCell (Or.inl (by simp)) _, Or.inl rfl, hcm⟩
      · have h3 : bit (ZL (put f pg ((List.range (idx + 1)).map fun j => f (0 + j))) pg) j = false := by
          rw [hbits j h2]
          by_cases h4 : j - d < len
          · by_cases h6 : d ≤ j
            · rw [HT.out.2.2 (j - d) (by have := HV.out; omega) (by omega)]; simp
            · rw [decide_eq_false h6]; rfl
          · rw [decide_eq_false h4]; simp
        exact h3

set_option maxRecDepth 100000 in
set_option maxHeartbeats 2000000 in
theorem sl_k1 {w : World} {p b n c len : Nat} {f : Nat → Nat} (h : BSet w p b n c len f) (t d : Nat) (ht : Top f n t) (hd0 : 0 < d) (htl : t < len) (hN : wn (t + d + 1) ≤ n) (hv : t + d < len) (hs : d % 64 ≠ 0) (hov : 64 ≤ t % 64 + d % 64) (hl : len ≤ 100000) (hd : t + d ≤ 99990) (hcm : c ≤ 200000) :
    Calls Try.prog 60 #[.pointer (some ⟨p, 0, none⟩), .int .u64 d] w fun e' w' => e' = .returned (.tuple #[]) ∧ ∃ b2 n2 c2 g, BSet w' p b2 n2 c2 len g ∧ (∀ j, j < len → bit g j = (decide (d ≤ j) && (decide (j - d < len) && bit f (j - d)))) ∧ Only [p, b] w w' ∧ (b2 = b ∨ w.heap.size ≤ b2) ∧ c2 ≤ 200000 := by
  have x0 := h.len_cell
  have x1 := h.set_cell
  have H := Lib.hid h
  have HT := Lib.hid ht
  have hplt := h.plt
  have hblt := h.blt
  obtain ⟨u, hu⟩ : ∃ u, u = t + d := ⟨_, rfl⟩
  obtain ⟨v, hv'⟩ : ∃ v, v = u + 1 := ⟨_, rfl⟩
  obtain ⟨N, hN'⟩ : ∃ N, N = wn v := ⟨_, rfl⟩
  obtain ⟨idx, hidx⟩ : ∃ i, i = t / 64 := ⟨_, rfl⟩
  obtain ⟨pad, hpad⟩ : ∃ i, i = t % 64 := ⟨_, rfl⟩
  obtain ⟨pg, hpg⟩ : ∃ i, i = d / 64 := ⟨_, rfl⟩
  obtain ⟨sh, hsh⟩ : ∃ i, i = d % 64 := ⟨_, rfl⟩
  have a1 : (t : Int) + (d : Int) = (u : Int) := by omega
  have a2 : (u : Int) + 1 = (v : Int) := by omega
  have a3 : (t : Int) / 64 = (idx : Int) := by omega
  have a4 : (t : Int) % 64 = (pad : Int) := by omega
  have a5 : (d : Int) / 64 = (pg : Int) := by omega
  have a6 : (d : Int) % 64 = (sh : Int) := by omega
  have hd0b : ((d : Int) == 0) = false := by simp; omega
  have hud : decide (u < d) = false := decide_eq_false (by omega)
  have hnu : N ≤ 20000 := by rw [hN']; unfold wn; omega
  have hn2 : n ≤ 20000 := by rw [h.n_eq]; unfold wn; omega
  have hnc := h.nc
  have hidn : idx < n := by have := ht.1; omega
  have hidl : idx ≤ 2000 := by omega
  have hpgl : pg ≤ 2000 := by omega
  have hsh64 : sh < 64 := by omega
  have HNN : Hid (N = wn (t + d + 1)) := Lib.hid (by rw [hN', hv', hu])
  have hwn : Calls Try.prog 81 #[.int .u64 v] w fun e w' => e = .returned (.int .i64 (N : Int)) ∧ w = w' := by rw [hN']; exact wordsNeeded_any v w (by omega)
  have HWN : Hid (∀ W, Calls Try.prog 81 #[.int .u64 v] W fun e w' => e = .returned (.int .i64 (N : Int)) ∧ W = w') := Lib.hid (fun W => by rw [hN']; exact wordsNeeded_any v W (by omega))
  have hNip : idx + pg < N := by rw [hN', hv', hu]; unfold wn; omega
  have hlen64 : len ≤ 64 * n := by rw [h.n_eq]; unfold wn; omega
  have hX : t = 64 * idx + pad ∧ d = 64 * pg + sh ∧ pad < 64 := by omega
  have HX : Hid (t = 64 * idx + pad ∧ d = 64 * pg + sh ∧ pad < 64 ∧ u = t + d ∧ v = u + 1 ∧ idx = t / 64 ∧ pg = d / 64 ∧ sh = d % 64) := ⟨hX.1, hX.2.1, hX.2.2, hu, hv', hidx, hpg, hsh⟩
  have hzero : ∀ i, idx < i → i < n → f i = 0 := by rw [hidx]; exact ht.zero h.small
  have HZ := Lib.hid hzero
  have HV : Hid (t + d + 1 ≤ len) := Lib.hid (by omega)
  have hsg : IntKind.u64.signed = false := rfl
  have hsb : ((sh : Int) == 0) = false := by simp; omega
  have HSH : Hid (sh ≠ 0) := Lib.hid (by rw [hsh]; exact hs)
  obtain ⟨rs, hrs⟩ : ∃ rs, rs = 64 - sh := ⟨_, rfl⟩
  have hrs1 : (64 : Int) - (sh : Int) = (rs : Int) := by omega
  have hrs2 : rs < 64 := by omega
  have HRS := Lib.hid hrs
  obtain ⟨ps, hps⟩ : ∃ ps, ps = pad + sh := ⟨_, rfl⟩
  have hps1 : (pad : Int) + (sh : Int) = (ps : Int) := by omega
  clear hrs
  have hps2 : decide ((64 : Int) ≤ (ps : Int)) = true := decide_eq_true (by omega)
  have hNip1 : idx + pg + 1 < N := by rw [hN', hv', hu]; unfold wn; omega
  obtain ⟨ip, hip⟩ : ∃ ip, ip = idx + pg := ⟨_, rfl⟩
  obtain ⟨ip1, hip1⟩ : ∃ ip, ip = idx + pg + 1 := ⟨_, rfl⟩
  have hip2 : (idx : Int) + (pg : Int) = (ip : Int) := by omega
  have hip3 : (ip : Int) + 1 = (ip1 : Int) := by omega
  have HIP := Lib.hid hip1
  clear hps hip hip1
  have hNn : decide (n < N) = false := decide_eq_false (by rw [hN', hv', hu]; omega)
  have hN_n : N ≤ n := by rw [hN', hv', hu]; exact hN
  have hlu : decide (len ≤ u) = false := decide_eq_false (by omega)
  clear h ht hu hv' hN' hidx hpad hpg hsh hX hN hs hzero hv hov 
  go_enter Try.func60, Try.ntmps60
  go_wp2_with fail
  refine (panicIfNull_any _ _).mono ?_; rintro e w' ⟨rfl, rfl⟩
  go_wp2_with fail
  refine (top_any H.out (by omega)).mono ?_; rintro e w' ⟨hres, rfl⟩
  have hres2 : e = .returned (.tuple #[.int .u64 t, .bool true]) := by
    rcases hres with ⟨t2, ht2, rfl⟩ | ⟨hz, _⟩
    · have : t2 = t := by
        have h1 := HT.out
        rcases Nat.lt_trichotomy t2 t with h2 | h2 | h2
        · have := ht2.2.2 t h2 h1.1; rw [h1.2.1] at this; cases this
        · exact h2
        · have := h1.2.2 t2 h2 ht2.1; rw [ht2.2.1] at this; cases this
      rw [this]
    · exfalso
      have h1 := HT.out
      have h2 := zero_bits (k := 0) (fun i _ hi => hz i hi) t (by omega) h1.1
      rw [h1.2.1] at h2; cases h2
  subst hres2
  clear hres
  go_wp2_with fail
  refine (HWN.out _).mono ?_; rintro e w' ⟨rfl, rfl⟩
  obtain ⟨T, hst⟩ := H.out.st
  have HQ : Hid (Blk w p #[.int .u64 len, .slice (some ⟨b, 0, none⟩) n c] T ∧ Wd .u64 w b c f ∧ Only [p, b] w w) := ⟨hst, H.out.wd, Only.refl _ _⟩
  go_upto_region 12 with (fail)
  clear x0 x1 hst
  have x1 : w.cell? ⟨p, 1, none⟩ = some (.slice (some ⟨b, 0, none⟩) n c) := HQ.out.1.cell rfl
  have y1 := HQ.out.2.1.cell (i := idx) (by omega)
  have y2 := HQ.out.2.1.cell (i := ip1) (by omega)
  have y3 := HQ.out.2.1.free ip1
  go_wp2_with fail
  obtain ⟨X, hX⟩ : ∃ X, X = f idx / 2 ^ rs := ⟨_, rfl⟩
  have HE0 : Hid ((f idx : Int) / 2 ^ rs = (X : Int)) := Lib.hid (by rw [hX]; exact shr_nat _ _)
  rw [HE0.out]
  have HP : Hid (Blk (w.setCell ⟨b, ip1, none⟩ (.int .u64 (X : Int))) p #[.int .u64 len, .slice (some ⟨b, 0, none⟩) n c] T ∧ Wd .u64 (w.setCell ⟨b, ip1, none⟩ (.int .u64 (X : Int))) b c (HL f f n idx sh pg (idx + 1)) ∧ Only [p, b] w (w.setCell ⟨b, ip1, none⟩ (.int .u64 (X : Int)))) := by
    refine ⟨HQ.out.1.other (fun e => H.out.ne e.symm) _, ?_, (HQ.out.2.2).setCell (Or.inl (by simp)) _⟩
    have h1 := HQ.out.2.1.set ip1 X
    have e := HL_start_over (f := f) (h0 := f) (N := n) (idx := idx) (sh := sh) (pg := pg) HSH.out (by omega) (fun q h1 h2 => HZ.out q (by omega) h2)
    rw [← HIP.out, ← HRS.out, ← hX] at e
    rwa [e] at h1
  generalize (w.setCell ⟨b, ip1, none⟩ (.int .u64 (X : Int))) = w3 at *
  clear y1 y2 y3 x1 HQ hX
  (try rw [a4]); (try rw [a6]); (try rw [hrs1]); (try rw [hip2]); (try rw [hip3])
  go_loopw [12] (fun iv wr => ∃ (k : Nat) (q : Int), q = (k : Int) - 1 ∧ k ≤ idx + 1 ∧ iv = .int .i64 q ∧ Hid (Blk wr p #[.int .u64 len, .slice (some ⟨b, 0, none⟩) n c] T ∧ Wd .u64 wr b c (HL f f n idx sh pg k) ∧ Only [p, b] w wr)) (fun iv _ => (intOf iv + 1).toNat)
  case atStart => exact ⟨idx + 1, _, rfl, Nat.le_refl _, by rw [show ((idx + 1 : Nat) : Int) - 1 = (idx : Int) by omega], HP.out⟩
  case round =>
    obtain ⟨k, q, hq, hk, rfl, hR⟩ := hrel
    have HR : Hid (Blk wr p #[.int .u64 len, .slice (some ⟨b, 0, none⟩) n c] T ∧ Wd .u64 wr b c (HL f f n idx sh pg k) ∧ Only [p, b] w wr) := hR
    clear hR
    have d1 : wr.cell? ⟨p, 1, none⟩ = some (.slice (some ⟨b, 0, none⟩) n c) := HR.out.1.cell rfl
    by_cases hk0 : k = 0
    · have hq0 : decide ((0 : Int) ≤ q) = false := decide_eq_false (by omega)
      have HR2 : Hid (Blk wr p #[.int .u64 len, .slice (some ⟨b, 0, none⟩) n c] T ∧ Wd .u64 wr b c (HL f f n idx sh pg 0) ∧ Only [p, b] w wr) := by have := HR.out; rwa [hk0] at this
      clear hq hk0 hk HR
      go_wp2_with fail
      obtain ⟨wo, rfl⟩ : ∃ wo : World, wo = wr := ⟨_, rfl⟩
      go_loopw [13] (fun iv wr => ∃ m : Nat, m ≤ pg ∧ iv = .int .i64 m ∧ Hid (Blk wr p #[.int .u64 len, .slice (some ⟨b, 0, none⟩) n c] T ∧ Wd .u64 wr b c (ZL (HL f f n idx sh pg 0) m) ∧ Only [p, b] w wr)) (fun iv _ => pg - (intOf iv).toNat)
      case atStart => exact ⟨0, Nat.zero_le _, rfl, HR2.out.1, by rw [ZL_zero]; exact HR2.out.2.1, HR2.out.2.2⟩
      case round =>
        obtain ⟨m, hm, rfl, hR⟩ := hrel
        have HR3 : Hid (Blk wr p #[.int .u64 len, .slice (some ⟨b, 0, none⟩) n c] T ∧ Wd .u64 wr b c (ZL (HL f f n idx sh pg 0) m) ∧ Only [p, b] w wr) := hR
        clear hR d1
        by_cases hmp : m < pg
        · have c1 := HR3.out.2.1.cell (i := m) (by omega)
          have c2 := HR3.out.2.1.free m
          have hmN : m < n := by omega
          go_wp2_with fail
          go_roundw
          case rel =>
            refine ⟨m + 1, by omega, by go_num, HR3.out.1.other (by show b ≠ p; exact fun e => H.out.ne e.symm) _, ?_, HR3.out.2.2.setCell (Or.inl (by simp)) _⟩
            have := HR3.out.2.1.set m 0
            rwa [ZL_next] at this
          case measure => simp [intOf]; omega
        · have hmF : decide (m < pg) = false := decide_eq_false hmp
          have hme : m = pg := by omega
          have HR4 : Hid (Blk wr p #[.int .u64 len, .slice (some ⟨b, 0, none⟩) n c] T ∧ Wd .u64 wr b c (ZL (HL f f n idx sh pg 0) pg) ∧ Only [p, b] w wr) := by have := HR3.out; rwa [hme] at this
          have e1 := HR4.out.1.free 1
          have e2 : wr.cell? ⟨p, 1, none⟩ = some (.slice (some ⟨b, 0, none⟩) n c) := HR4.out.1.cell rfl
          clear hme hmp
          go_wp2_with fail
          go_end0
          have hgl : ∀ q, q < n → ZL (HL f f n idx sh pg 0) pg q = SL f (t / 64) (d % 64) (d / 64) q := fun q hq => by
            have e := ZL_is (f := f) (h := (HL f f n idx sh pg 0)) (N := n) (idx := idx) (sh := sh) (pg := pg) (fun q h1 h2 => HL_is q h1 h2) q hq
            rw [e, HX.out.2.2.2.2.2.1, HX.out.2.2.2.2.2.2.1, HX.out.2.2.2.2.2.2.2]
          have hgs : ∀ q, ZL (HL f f n idx sh pg 0) pg q < 18446744073709551616 := small_ZL (small_HL H.out.small H.out.small _ _ _ _ _) pg
          have hbits : ∀ j, j < 64 * n → bit (ZL (HL f f n idx sh pg 0) pg) j = (decide (d ≤ j) && (decide (j - d < len) && bit f (j - d))) := fun j hj => shifted H.out.small HT.out (fun j h1 h2 => H.out.clean j h1 h2) hlen64 hgl hj
          have hwl : len ≤ 64 * n := by exact hlen64
          refine ⟨rfl, b, n, c, ZL (HL f f n idx sh pg 0) pg, ⟨⟨T, by have := HR4.out.1.set 1 (.slice (some ⟨b, 0, none⟩) n c); exact this⟩, HR4.out.2.1.other (H.out.ne) _, H.out.ne, H.out.n_eq, hnc, hgs, fun j h1 h2 => ?_⟩, fun j hj => hbits j (by omega), HR4.out.2.2.setCell (Or.inl (by simp)) _, Or.inl rfl, hcm⟩
          · have h3 : bit (ZL (HL f f n idx sh pg 0) pg) j = false := by
              rw [hbits j h2]
              by_cases h4 : j - d < len
              · by_cases h6 : d ≤ j
                · rw [HT.out.2.2 (j - d) (by have := HV.out; omega) (by omega)]; simp
                · rw [decide_eq_false h6]; rfl
              · rw [decide_eq_false h4]; simp
            exact h3
    · obtain ⟨k', hk'⟩ : ∃ k', k = k' + 1 := ⟨k - 1, by omega⟩
      obtain rfl : q = (k' : Int) := by omega
      obtain ⟨y, hy⟩ : ∃ y, y = k' + pg := ⟨_, rfl⟩
      have hy1 : (k' : Int) + (pg : Int) = (y : Int) := by omega
      have hyN : y < n := by omega
      have hkn : k' < n := by omega
      have HR2 : Hid (Blk wr p #[.int .u64 len, .slice (some ⟨b, 0, none⟩) n c] T ∧ Wd .u64 wr b c (HL f f n idx sh pg (k' + 1)) ∧ Only [p, b] w wr) := by have := HR.out; rwa [hk'] at this
      have hki : k' ≤ idx := by omega
      have HY := Lib.hid hy
      have hky : k' ≤ y := by omega
      clear hq hk' hk0 hk HR hy
      have g1 : ∀ i, i ≤ k' → i < n → wr.cell? ⟨b, i, none⟩ = some (.int .u64 (f i)) := fun i h1 h2 => by
        have := HR2.out.2.1.cell (i := i) (by omega)
        rwa [HL_low _ _ _ _ _ _ _ (show i < k' + 1 + pg by omega)] at this
      have c1 := g1 k' (Nat.le_refl _) hkn
      have c2 := HR2.out.2.1.cell (i := y) (by omega)
      have c3 := HR2.out.2.1.free y
      have hb1 : ∀ x, shw (fz f idx) sh x < 18446744073709551616 := fun x => shw_small (fz_small H.out.small idx) sh x
      have HB1 := Lib.hid hb1
      have hrow : ∀ (x : Value), x = .int .u64 (shw (fz f idx) sh k' : Int) → Hid (Blk (wr.setCell ⟨b, y, none⟩ x) p #[.int .u64 len, .slice (some ⟨b, 0, none⟩) n c] T ∧ Wd .u64 (wr.setCell ⟨b, y, none⟩ x) b c (HL f f n idx sh pg k') ∧ Only [p, b] w (wr.setCell ⟨b, y, none⟩ x)) := fun x hx => by
        subst hx
        refine ⟨HR2.out.1.other (by show b ≠ p; exact fun e => H.out.ne e.symm) _, ?_, (HR2.out.2.2).setCell (Or.inl (by simp)) _⟩
        have := HR2.out.2.1.set y (shw (fz f idx) sh k')
        have e := HL_next f f n idx sh pg k' (by have := HY.out; omega)
        rw [← HY.out] at e
        rwa [e] at this
      have HROW := Lib.hid hrow
      clear hb1 hrow
      by_cases hk2 : k' = 0
      · have hk3 : decide (0 < k') = false := decide_eq_false (by omega)
        have HK := Lib.hid hk2
        clear hk2 g1
        go_wp2_with fail
        have HE : Hid (IntKind.u64.wrap ((f k' : Int) * 2 ^ sh) = (shw (fz f idx) sh k' : Int)) := Lib.hid (by
          unfold shw fz
          rw [if_neg HSH.out, if_pos HK.out, if_pos (by omega), Nat.or_zero, ← wrap_shl])
        rw [HE.out]
        go_roundw
        case rel => exact ⟨k', _, rfl, by omega, rfl, (HROW.out _ rfl).out⟩
        case measure => simp [intOf]
      · have hk3 : decide (0 < k') = true := decide_eq_true (by omega)
        obtain ⟨k2, hk4⟩ : ∃ k2, k' = k2 + 1 := ⟨k' - 1, by omega⟩
        have hk5 : (k' : Int) - 1 = (k2 : Int) := by omega
        have c4 := g1 k2 (by omega) (by omega)
        have HK := Lib.hid hk4
        have hk6 : k2 < n := by omega
        clear hk2 hk4 g1
        go_wp2_with fail
        have z0 : (0 : Int) ≤ (k' : Int) := by omega
        have z1 : (k' : Int) < (n : Int) := by omega
        have z2 : ((k' : Int)).toNat = k' := by omega
        have z3 : (0 : Int) ≤ (k2 : Int) := by omega
        have z4 : (k2 : Int) < (n : Int) := by omega
        have z5 : ((k2 : Int)).toNat = k2 := by omega
        have z6 : (0 : Int) ≤ (y : Int) := by omega
        have z7 : (y : Int) < (n : Int) := by omega
        have z8 : ((y : Int)).toNat = y := by omega
        have z9 : IntKind.i64.wrap (y : Int) = (y : Int) := IntWalk.i64_in _ (by omega)
        have ze : IntKind.i64.wrap (pg : Int) = (pg : Int) := IntWalk.i64_in _ (by omega)
        have za : IntKind.i64.wrap (k2 : Int) = (k2 : Int) := IntWalk.i64_in _ (by omega)
        have zb : IntKind.u64.wrap (rs : Int) = (rs : Int) := by rw [IntKind.wrap_u64]; omega
        have zc : ((sh : Int)).toNat = sh := by omega
        have zd : ((rs : Int)).toNat = rs := by omega
        refine wp_region_still_tail 27 (by kernel_rfl) (by kernel_rfl) ?_
        simp only [List.take_succ_cons, List.take_zero, List.drop_succ_cons, List.drop_zero]
        repeat still_step
        refine wpStill_nil ?_
        change wpList _ _ _ _ _ wr.drew
        clear z0 z1 z2 z3 z4 z5 z6 z7 z8 z9 za zb zc zd ze
        have HE : Hid (bits BinOp.or IntKind.u64 (IntKind.u64.wrap ((f k' : Int) * 2 ^ sh)) ((f k2 : Int) / 2 ^ rs) = (shw (fz f idx) sh k' : Int)) := Lib.hid (by
          unfold shw fz
          rw [if_neg HSH.out, if_neg (show ¬ k' = 0 by have := HK.out; omega), if_pos (by omega), if_pos (by omega), wrap_shl, shr_nat, u64_or_nat _ _ (Nat.mod_lt _ (by decide)) (shr_lt (H.out.small k2) _), HRS.out, show k' - 1 = k2 by have := HK.out; omega])
        rw [HE.out]
        go_wp2_with fail
        go_roundw
        case rel => exact ⟨k', (k2 : Int), hk5.symm, by omega, rfl, (by have := (HROW.out _ rfl).out; exact ⟨this.1, this.2.1, this.2.2.drewN 1⟩)⟩
        case measure => simp [intOf]; omega

set_option maxRecDepth 100000 in
set_option maxHeartbeats 2000000 in
theorem sl_k2 {w : World} {p b n c len : Nat} {f : Nat → Nat} (h : BSet w p b n c len f) (t d : Nat) (ht : Top f n t) (hd0 : 0 < d) (htl : t < len) (hN : wn (t + d + 1) ≤ n) (hv : t + d < len) (hs : d % 64 ≠ 0) (hov : t % 64 + d % 64 < 64) (hl : len ≤ 100000) (hd : t + d ≤ 99990) (hcm : c ≤ 200000) :
    Calls Try.prog 60 #[.pointer (some ⟨p, 0, none⟩), .int .u64 d] w fun e' w' => e' = .returned (.tuple #[]) ∧ ∃ b2 n2 c2 g, BSet w' p b2 n2 c2 len g ∧ (∀ j, j < len → bit g j = (decide (d ≤ j) && (decide (j - d < len) && bit f (j - d)))) ∧ Only [p, b] w w' ∧ (b2 = b ∨ w.heap.size ≤ b2) ∧ c2 ≤ 200000 := by
  have x0 := h.len_cell
  have x1 := h.set_cell
  have H := Lib.hid h
  have HT := Lib.hid ht
  have hplt := h.plt
  have hblt := h.blt
  obtain ⟨u, hu⟩ : ∃ u, u = t + d := ⟨_, rfl⟩
  obtain ⟨v, hv'⟩ : ∃ v, v = u + 1 := ⟨_, rfl⟩
  obtain ⟨N, hN'⟩ : ∃ N, N = wn v := ⟨_, rfl⟩
  obtain ⟨idx, hidx⟩ : ∃ i, i = t / 64 := ⟨_, rfl⟩
  obtain ⟨pad, hpad⟩ : ∃ i, i = t % 64 := ⟨_, rfl⟩
  obtain ⟨pg, hpg⟩ : ∃ i, i = d / 64 := ⟨_, rfl⟩
  obtain ⟨sh, hsh⟩ : ∃ i, i = d % 64 := ⟨_, rfl⟩
  have a1 : (t : Int) + (d : Int) = (u : Int) := by omega
  have a2 : (u : Int) + 1 = (v : Int) := by omega
  have a3 : (t : Int) / 64 = (idx : Int) := by omega
  have a4 : (t : Int) % 64 = (pad : Int) := by omega
  have a5 : (d : Int) / 64 = (pg : Int) := by omega
  have a6 : (d : Int) % 64 = (sh : Int) := by omega
  have hd0b : ((d : Int) == 0) = false := by simp; omega
  have hud : decide (u < d) = false := decide_eq_false (by omega)
  have hnu : N ≤ 20000 := by rw [hN']; unfold wn; omega
  have hn2 : n ≤ 20000 := by rw [h.n_eq]; unfold wn; omega
  have hnc := h.nc
  have hidn : idx < n := by have := ht.1; omega
  have hidl : idx ≤ 2000 := by omega
  have hpgl : pg ≤ 2000 := by omega
  have hsh64 : sh < 64 := by omega
  have HNN : Hid (N = wn (t + d + 1)) := Lib.hid (by rw [hN', hv', hu])
  have hwn : Calls Try.prog 81 #[.int .u64 v] w fun e w' => e = .returned (.int .i64 (N : Int)) ∧ w = w' := by rw [hN']; exact wordsNeeded_any v w (by omega)
  have HWN : Hid (∀ W, Calls Try.prog 81 #[.int .u64 v] W fun e w' => e = .returned (.int .i64 (N : Int)) ∧ W = w') := Lib.hid (fun W => by rw [hN']; exact wordsNeeded_any v W (by omega))
  have hNip : idx + pg < N := by rw [hN', hv', hu]; unfold wn; omega
  have hlen64 : len ≤ 64 * n := by rw [h.n_eq]; unfold wn; omega
  have hX : t = 64 * idx + pad ∧ d = 64 * pg + sh ∧ pad < 64 := by omega
  have HX : Hid (t = 64 * idx + pad ∧ d = 64 * pg + sh ∧ pad < 64 ∧ u = t + d ∧ v = u + 1 ∧ idx = t / 64 ∧ pg = d / 64 ∧ sh = d % 64) := ⟨hX.1, hX.2.1, hX.2.2, hu, hv', hidx, hpg, hsh⟩
  have hzero : ∀ i, idx < i → i < n → f i = 0 := by rw [hidx]; exact ht.zero h.small
  have HZ := Lib.hid hzero
  have HV : Hid (t + d + 1 ≤ len) := Lib.hid (by omega)
  have hsg : IntKind.u64.signed = false := rfl
  have hsb : ((sh : Int) == 0) = false := by simp; omega
  have HSH : Hid (sh ≠ 0) := Lib.hid (by rw [hsh]; exact hs)
  obtain ⟨rs, hrs⟩ : ∃ rs, rs = 64 - sh := ⟨_, rfl⟩
  have hrs1 : (64 : Int) - (sh : Int) = (rs : Int) := by omega
  have hrs2 : rs < 64 := by omega
  have HRS := Lib.hid hrs
  obtain ⟨ps, hps⟩ : ∃ ps, ps = pad + sh := ⟨_, rfl⟩
  have hps1 : (pad : Int) + (sh : Int) = (ps : Int) := by omega
  clear hrs
  have hps2 : decide ((64 : Int) ≤ (ps : Int)) = false := decide_eq_false (by omega)
  have HLOW : Hid (f idx / 2 ^ (64 - sh) = 0) := Lib.hid (by rw [hidx, hsh]; exact ht.low h.small hov)
  clear hps
  have hNn : decide (n < N) = false := decide_eq_false (by rw [hN', hv', hu]; omega)
  have hN_n : N ≤ n := by rw [hN', hv', hu]; exact hN
  have hlu : decide (len ≤ u) = false := decide_eq_false (by omega)
  clear h ht hu hv' hN' hidx hpad hpg hsh hX hN hs hzero hv hov 
  go_enter Try.func60, Try.ntmps60
  go_wp2_with fail
  refine (panicIfNull_any _ _).mono ?_; rintro e w' ⟨rfl, rfl⟩
  go_wp2_with fail
  refine (top_any H.out (by omega)).mono ?_; rintro e w' ⟨hres, rfl⟩
  have hres2 : e = .returned (.tuple #[.int .u64 t, .bool true]) := by
    rcases hres with ⟨t2, ht2, rfl⟩ | ⟨hz, _⟩
    · have : t2 = t := by
        have h1 := HT.out
        rcases Nat.lt_trichotomy t2 t with h2 | h2 | h2
        · have := ht2.2.2 t h2 h1.1; rw [h1.2.1] at this; cases this
        · exact h2
        · have := h1.2.2 t2 h2 ht2.1; rw [ht2.2.1] at this; cases this
      rw [this]
    · exfalso
      have h1 := HT.out
      have h2 := zero_bits (k := 0) (fun i _ hi => hz i hi) t (by omega) h1.1
      rw [h1.2.1] at h2; cases h2
  subst hres2
  clear hres
  go_wp2_with fail
  refine (HWN.out _).mono ?_; rintro e w' ⟨rfl, rfl⟩
  obtain ⟨T, hst⟩ := H.out.st
  have HQ : Hid (Blk w p #[.int .u64 len, .slice (some ⟨b, 0, none⟩) n c] T ∧ Wd .u64 w b c f ∧ Only [p, b] w w) := ⟨hst, H.out.wd, Only.refl _ _⟩
  go_upto_region 12 with (fail)
  clear x0 x1 hst
  have x1 : w.cell? ⟨p, 1, none⟩ = some (.slice (some ⟨b, 0, none⟩) n c) := HQ.out.1.cell rfl
  have HP : Hid (Blk w p #[.int .u64 len, .slice (some ⟨b, 0, none⟩) n c] T ∧ Wd .u64 w b c (HL f f n idx sh pg (idx + 1)) ∧ Only [p, b] w w) := by
    have := HQ.out
    refine ⟨this.1, ?_, this.2.2⟩
    rw [← HL_start HSH.out HLOW.out (fun q h1 h2 => HZ.out q (by omega) h2)]
    exact this.2.1
  clear HQ
  go_wp2_with fail
  rw [a4, a6]
  go_loopw [12] (fun iv wr => ∃ (k : Nat) (q : Int), q = (k : Int) - 1 ∧ k ≤ idx + 1 ∧ iv = .int .i64 q ∧ Hid (Blk wr p #[.int .u64 len, .slice (some ⟨b, 0, none⟩) n c] T ∧ Wd .u64 wr b c (HL f f n idx sh pg k) ∧ Only [p, b] w wr)) (fun iv _ => (intOf iv + 1).toNat)
  case atStart => exact ⟨idx + 1, _, rfl, Nat.le_refl _, by rw [show ((idx + 1 : Nat) : Int) - 1 = (idx : Int) by omega], HP.out⟩
  case round =>
    obtain ⟨k, q, hq, hk, rfl, hR⟩ := hrel
    have HR : Hid (Blk wr p #[.int .u64 len, .slice (some ⟨b, 0, none⟩) n c] T ∧ Wd .u64 wr b c (HL f f n idx sh pg k) ∧ Only [p, b] w wr) := hR
    clear hR
    have d1 : wr.cell? ⟨p, 1, none⟩ = some (.slice (some ⟨b, 0, none⟩) n c) := HR.out.1.cell rfl
    by_cases hk0 : k = 0
    · have hq0 : decide ((0 : Int) ≤ q) = false := decide_eq_false (by omega)
      have HR2 : Hid (Blk wr p #[.int .u64 len, .slice (some ⟨b, 0, none⟩) n c] T ∧ Wd .u64 wr b c (HL f f n idx sh pg 0) ∧ Only [p, b] w wr) := by have := HR.out; rwa [hk0] at this
      clear hq hk0 hk HR
      go_wp2_with fail
      obtain ⟨wo, rfl⟩ : ∃ wo : World, wo = wr := ⟨_, rfl⟩
      go_loopw [13] (fun iv wr => ∃ m : Nat, m ≤ pg ∧ iv = .int .i64 m ∧ Hid (Blk wr p #[.int .u64 len, .slice (some ⟨b, 0, none⟩) n c] T ∧ Wd .u64 wr b c (ZL (HL f f n idx sh pg 0) m) ∧ Only [p, b] w wr)) (fun iv _ => pg - (intOf iv).toNat)
      case atStart => exact ⟨0, Nat.zero_le _, rfl, HR2.out.1, by rw [ZL_zero]; exact HR2.out.2.1, HR2.out.2.2⟩
      case round =>
        obtain ⟨m, hm, rfl, hR⟩ := hrel
        have HR3 : Hid (Blk wr p #[.int .u64 len, .slice (some ⟨b, 0, none⟩) n c] T ∧ Wd .u64 wr b c (ZL (HL f f n idx sh pg 0) m) ∧ Only [p, b] w wr) := hR
        clear hR d1
        by_cases hmp : m < pg
        · have c1 := HR3.out.2.1.cell (i := m) (by omega)
          have c2 := HR3.out.2.1.free m
          have hmN : m < n := by omega
          go_wp2_with fail
          go_roundw
          case rel =>
            refine ⟨m + 1, by omega, by go_num, HR3.out.1.other (by show b ≠ p; exact fun e => H.out.ne e.symm) _, ?_, HR3.out.2.2.setCell (Or.inl (by simp)) _⟩
            have := HR3.out.2.1.set m 0
            rwa [ZL_next] at this
          case measure => simp [intOf]; omega
        · have hmF : decide (m < pg) = false := decide_eq_false hmp
          have hme : m = pg := by omega
          have HR4 : Hid (Blk wr p #[.int .u64 len, .slice (some ⟨b, 0, none⟩) n c] T ∧ Wd .u64 wr b c (ZL (HL f f n idx sh pg 0) pg) ∧ Only [p, b] w wr) := by have := HR3.out; rwa [hme] at this
          have e1 := HR4.out.1.free 1
          have e2 : wr.cell? ⟨p, 1, none⟩ = some (.slice (some ⟨b, 0, none⟩) n c) := HR4.out.1.cell rfl
          clear hme hmp
          go_wp2_with fail
          go_end0
          have hgl : ∀ q, q < n → ZL (HL f f n idx sh pg 0) pg q = SL f (t / 64) (d % 64) (d / 64) q := fun q hq => by
            have e := ZL_is (f := f) (h := (HL f f n idx sh pg 0)) (N := n) (idx := idx) (sh := sh) (pg := pg) (fun q h1 h2 => HL_is q h1 h2) q hq
            rw [e, HX.out.2.2.2.2.2.1, HX.out.2.2.2.2.2.2.1, HX.out.2.2.2.2.2.2.2]
          have hgs : ∀ q, ZL (HL f f n idx sh pg 0) pg q < 18446744073709551616 := small_ZL (small_HL H.out.small H.out.small _ _ _ _ _) pg
          have hbits : ∀ j, j < 64 * n → bit (ZL (HL f f n idx sh pg 0) pg) j = (decide (d ≤ j) && (decide (j - d < len) && bit f (j - d))) := fun j hj => shifted H.out.small HT.out (fun j h1 h2 => H.out.clean j h1 h2) hlen64 hgl hj
          have hwl : len ≤ 64 * n := by exact hlen64
          refine ⟨rfl, b, n, c, ZL (HL f f n idx sh pg 0) pg, ⟨⟨T, by have := HR4.out.1.set 1 (.slice (some ⟨b, 0, none⟩) n c); exact this⟩, HR4.out.2.1.other (H.out.ne) _, H.out.ne, H.out.n_eq, hnc, hgs, fun j h1 h2 => ?_⟩, fun j hj => hbits j (by omega), HR4.out.2.2.setCell (Or.inl (by simp)) _, Or.inl rfl, hcm⟩
          · have h3 : bit (ZL (HL f f n idx sh pg 0) pg) j = false := by
              rw [hbits j h2]
              by_cases h4 : j - d < len
              · by_cases h6 : d ≤ j
                · rw [HT.out.2.2 (j - d) (by have := HV.out; omega) (by omega)]; simp
                · rw [decide_eq_false h6]; rfl
              · rw [decide_eq_false h4]; simp
            exact h3
    · obtain ⟨k', hk'⟩ : ∃ k', k = k' + 1 := ⟨k - 1, by omega⟩
      obtain rfl : q = (k' : Int) := by omega
      obtain ⟨y, hy⟩ : ∃ y, y = k' + pg := ⟨_, rfl⟩
      have hy1 : (k' : Int) + (pg : Int) = (y : Int) := by omega
      have hyN : y < n := by omega
      have hkn : k' < n := by omega
      have HR2 : Hid (Blk wr p #[.int .u64 len, .slice (some ⟨b, 0, none⟩) n c] T ∧ Wd .u64 wr b c (HL f f n idx sh pg (k' + 1)) ∧ Only [p, b] w wr) := by have := HR.out; rwa [hk'] at this
      have hki : k' ≤ idx := by omega
      have HY := Lib.hid hy
      have hky : k' ≤ y := by omega
      clear hq hk' hk0 hk HR hy
      have g1 : ∀ i, i ≤ k' → i < n → wr.cell? ⟨b, i, none⟩ = some (.int .u64 (f i)) := fun i h1 h2 => by
        have := HR2.out.2.1.cell (i := i) (by omega)
        rwa [HL_low _ _ _ _ _ _ _ (show i < k' + 1 + pg by omega)] at this
      have c1 := g1 k' (Nat.le_refl _) hkn
      have c2 := HR2.out.2.1.cell (i := y) (by omega)
      have c3 := HR2.out.2.1.free y
      have hb1 : ∀ x, shw (fz f idx) sh x < 18446744073709551616 := fun x => shw_small (fz_small H.out.small idx) sh x
      have HB1 := Lib.hid hb1
      have hrow : ∀ (x : Value), x = .int .u64 (shw (fz f idx) sh k' : Int) → Hid (Blk (wr.setCell ⟨b, y, none⟩ x) p #[.int .u64 len, .slice (some ⟨b, 0, none⟩) n c] T ∧ Wd .u64 (wr.setCell ⟨b, y, none⟩ x) b c (HL f f n idx sh pg k') ∧ Only [p, b] w (wr.setCell ⟨b, y, none⟩ x)) := fun x hx => by
        subst hx
        refine ⟨HR2.out.1.other (by show b ≠ p; exact fun e => H.out.ne e.symm) _, ?_, (HR2.out.2.2).setCell (Or.inl (by simp)) _⟩
        have := HR2.out.2.1.set y (shw (fz f idx) sh k')
        have e := HL_next f f n idx sh pg k' (by have := HY.out; omega)
        rw [← HY.out] at e
        rwa [e] at this
      have HROW := Lib.hid hrow
      clear hb1 hrow
      by_cases hk2 : k' = 0
      · have hk3 : decide (0 < k') = false := decide_eq_false (by omega)
        have HK := Lib.hid hk2
        clear hk2 g1
        go_wp2_with fail
        have HE : Hid (IntKind.u64.wrap ((f k' : Int) * 2 ^ sh) = (shw (fz f idx) sh k' : Int)) := Lib.hid (by
          unfold shw fz
          rw [if_neg HSH.out, if_pos HK.out, if_pos (by omega), Nat.or_zero, ← wrap_shl])
        rw [HE.out]
        go_roundw
        case rel => exact ⟨k', _, rfl, by omega, rfl, (HROW.out _ rfl).out⟩
        case measure => simp [intOf]
      · have hk3 : decide (0 < k') = true := decide_eq_true (by omega)
        obtain ⟨k2, hk4⟩ : ∃ k2, k' = k2 + 1 := ⟨k' - 1, by omega⟩
        have hk5 : (k' : Int) - 1 = (k2 : Int) := by omega
        have c4 := g1 k2 (by omega) (by omega)
        have HK := Lib.hid hk4
        have hk6 : k2 < n := by omega
        clear hk2 hk4 g1
        go_wp2_with fail
        have z0 : (0 : Int) ≤ (k' : Int) := by omega
        have z1 : (k' : Int) < (n : Int) := by omega
        have z2 : ((k' : Int)).toNat = k' := by omega
        have z3 : (0 : Int) ≤ (k2 : Int) := by omega
        have z4 : (k2 : Int) < (n : Int) := by omega
        have z5 : ((k2 : Int)).toNat = k2 := by omega
        have z6 : (0 : Int) ≤ (y : Int) := by omega
        have z7 : (y : Int) < (n : Int) := by omega
        have z8 : ((y : Int)).toNat = y := by omega
        have z9 : IntKind.i64.wrap (y : Int) = (y : Int) := IntWalk.i64_in _ (by omega)
        have ze : IntKind.i64.wrap (pg : Int) = (pg : Int) := IntWalk.i64_in _ (by omega)
        have za : IntKind.i64.wrap (k2 : Int) = (k2 : Int) := IntWalk.i64_in _ (by omega)
        have zb : IntKind.u64.wrap (rs : Int) = (rs : Int) := by rw [IntKind.wrap_u64]; omega
        have zc : ((sh : Int)).toNat = sh := by omega
        have zd : ((rs : Int)).toNat = rs := by omega
        refine wp_region_still_tail 27 (by kernel_rfl) (by kernel_rfl) ?_
        simp only [List.take_succ_cons, List.take_zero, List.drop_succ_cons, List.drop_zero]
        repeat still_step
        refine wpStill_nil ?_
        change wpList _ _ _ _ _ wr.drew
        clear z0 z1 z2 z3 z4 z5 z6 z7 z8 z9 za zb zc zd ze
        have HE : Hid (bits BinOp.or IntKind.u64 (IntKind.u64.wrap ((f k' : Int) * 2 ^ sh)) ((f k2 : Int) / 2 ^ rs) = (shw (fz f idx) sh k' : Int)) := Lib.hid (by
          unfold shw fz
          rw [if_neg HSH.out, if_neg (show ¬ k' = 0 by have := HK.out; omega), if_pos (by omega), if_pos (by omega), wrap_shl, shr_nat, u64_or_nat _ _ (Nat.mod_lt _ (by decide)) (shr_lt (H.out.small k2) _), HRS.out, show k' - 1 = k2 by have := HK.out; omega])
        rw [HE.out]
        go_wp2_with fail
        go_roundw
        case rel => exact ⟨k', (k2 : Int), hk5.symm, by omega, rfl, (by have := (HROW.out _ rfl).out; exact ⟨this.1, this.2.1, this.2.2.drewN 1⟩)⟩
        case measure => simp [intOf]; omega

end Go.Proofs.Ytpmnpaannbhoeaa
