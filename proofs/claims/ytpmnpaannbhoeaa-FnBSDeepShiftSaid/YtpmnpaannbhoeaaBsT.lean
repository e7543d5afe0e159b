/- ShiftRight. -/
import Derived.Test.YtpmnpaannbhoeaaBsT0
namespace Go.Proofs.Ytpmnpaannbhoeaa
open Go.RowKit Pop

set_option maxRecDepth 100000 in
set_option maxHeartbeats 2000000 in
theorem rs_0 {w : World} {p b n c len : Nat} {f : Nat → Nat} (h : BSet w p b n c len f) (t d : Nat) (ht : Top f n t) (hd0 : 0 < d) (hdt : d ≤ t) (htl : t < len) (hs : d % 64 = 0) (hl : len ≤ 100000) :
    Calls Try.prog 74 #[.pointer (some ⟨p, 0, none⟩), .int .u64 d] w fun e' w' => e' = .returned (.tuple #[]) ∧ ∃ g, BSet w' p b n c len g ∧ (∀ j, j < len → bit g j = (decide (j + d < len) && bit f (j + d))) ∧ Only [p, b] w w' := by
  have x1 := h.set_cell
  have H := Lib.hid h
  have HT := Lib.hid ht
  obtain ⟨idx, hidx⟩ : ∃ i, i = t / 64 := ⟨_, rfl⟩
  obtain ⟨pad, hpad⟩ : ∃ i, i = t % 64 := ⟨_, rfl⟩
  obtain ⟨pg, hpg⟩ : ∃ i, i = d / 64 := ⟨_, rfl⟩
  obtain ⟨sh, hsh⟩ : ∃ i, i = d % 64 := ⟨_, rfl⟩
  obtain ⟨K, hK⟩ : ∃ k, k + pg = idx := ⟨idx - pg, by omega⟩
  have a3 : (t : Int) / 64 = (idx : Int) := by omega
  have a4 : (t : Int) % 64 = (pad : Int) := by omega
  have a5 : (d : Int) / 64 = (pg : Int) := by omega
  have a6 : (d : Int) % 64 = (sh : Int) := by omega
  have a7 : (idx : Int) - (pg : Int) = (K : Int) := by omega
  have hd0b : ((d : Int) == 0) = false := by simp; omega
  have hdt2 : decide (t < d) = false := decide_eq_false (by omega)
  have hn2 : n ≤ 20000 := by rw [h.n_eq]; unfold wn; omega
  have hnc := h.nc
  have hidn : idx < n := by have := ht.1; omega
  have hpgi : pg ≤ idx := by omega
  have hKi : K ≤ idx := by omega
  have hsh64 : sh < 64 := by omega
  have hlen64 : len ≤ 64 * n := by rw [h.n_eq]; unfold wn; omega
  have hX : t = 64 * idx + pad ∧ d = 64 * pg + sh ∧ pad < 64 := by omega
  have HX : Hid (t = 64 * idx + pad ∧ d = 64 * pg + sh ∧ pad < 64 ∧ idx = t / 64 ∧ pg = d / 64 ∧ sh = d % 64) := ⟨hX.1, hX.2.1, hX.2.2, hidx, hpg, hsh⟩
  have HK := Lib.hid hK
  have hsg : IntKind.u64.signed = false := rfl
  have hsb : ((sh : Int) == 0) = true := by rw [hsh, hs]; rfl
  have HSH : Hid (sh = 0) := Lib.hid (by rw [hsh, hs])
  clear h ht hidx hpad hpg hsh hX hK hs 
  go_enter Try.func74, Try.ntmps74
  go_wp2_with fail
  refine (panicIfNull_any _ _).mono ?_; rintro e w' ⟨rfl, rfl⟩
  go_wp2_with fail
  refine (top_any H.out (by omega)).mono ?_; rintro e w' ⟨hres, rfl⟩
  have hres2 : e = .returned (.tuple #[.int .u64 t, .bool true]) := by
    rcases hres with ⟨t2, ht2, rfl⟩ | ⟨hz, _⟩
    · have : t2 = t := by
        have h1 := HT.out
        rcases Nat.lt_trichotomy t2 t with h2 | h2 | h2
        · have := ht2.2.2 t h2 h1.1; rw [h1.2.1] at this; cases this
        · exact h2
        · have := h1.2.2 t2 h2 ht2.1; rw [ht2.2.1] at this; cases this
      rw [this]
    · exfalso
      have h1 := HT.out
      have h2 := zero_bits (k := 0) (fun i _ hi => hz i hi) t (by omega) h1.1
      rw [h1.2.1] at h2; cases h2
  subst hres2
  clear hres
  obtain ⟨T, hst⟩ := H.out.st
  obtain ⟨I1, hI1⟩ : ∃ i, i = idx + 1 := ⟨_, rfl⟩
  have hI2 : (idx : Int) + 1 = (I1 : Int) := by omega
  have hI3 : I1 - pg = K + 1 := by have := HK.out; omega
  have hcopy : ∀ ty, (Builtin.copy_ #[36, 36] ty #[.slice (some ⟨b, 0, none⟩) n c, .slice (some ⟨b, pg, none⟩) (K + 1) (c - pg)]).run Try.prog w.drew = .ok (.int .i64 ((K + 1 : Nat) : Int)) (w.drew.setCells b 0 (((List.range (K + 1)).map fun j => f (pg + j)).map fun n : Nat => Value.int .u64 (n : Int))) := fun ty =>
    run_copy_wd (P := Try.prog) (K := .u64) (f := f) (c := c) 36 ty 69 Try.underlying36 size69 (H.out.wd.drew) (H.out.wd.drew) 0 pg n c (K + 1) (c - pg) (K + 1) (by show K + 1 = min (K + 1) n; omega) (by omega) (by have := HK.out; omega)
  have HP : Hid (Blk (w.drew.setCells b 0 (((List.range (K + 1)).map fun j => f (pg + j)).map fun n : Nat => Value.int .u64 (n : Int))) p #[.int .u64 len, .slice (some ⟨b, 0, none⟩) n c] T ∧ Wd .u64 (w.drew.setCells b 0 (((List.range (K + 1)).map fun j => f (pg + j)).map fun n : Nat => Value.int .u64 (n : Int))) b c (put f 0 ((List.range (K + 1)).map fun j => f (pg + j))) ∧ Only [p, b] w (w.drew.setCells b 0 (((List.range (K + 1)).map fun j => f (pg + j)).map fun n : Nat => Value.int .u64 (n : Int)))) := ⟨Blk.setCells (fun e => H.out.ne e.symm) _ _ hst.drew, Wd.setCells _ _ H.out.wd.drew, Only.setCells (Or.inl (by simp)) _ _ ((Only.refl [p, b] w).drewN 1)⟩
  have hI4 : I1 ≤ n := by omega
  have hI5 : pg ≤ I1 := by omega
  clear hst hI1
  go_wp2_with fail
  have z0 : (0 : Int) ≤ (pg : Int) := by omega
  have z1 : (pg : Int) ≤ (I1 : Int) := by omega
  have z2 : ((pg : Int)).toNat = pg := by omega
  have z3 : ((I1 : Int)).toNat = I1 := by omega
  have z4 : (I1 : Int) ≤ (c : Int) := by omega
  have z5 : IntKind.u64.wrap (I1 : Int) = (I1 : Int) := by rw [IntKind.wrap_u64]; omega
  refine wp_region_still_tail 12 (by kernel_rfl) (by kernel_rfl) ?_
  simp only [List.take_succ_cons, List.take_zero, List.drop_succ_cons, List.drop_zero]
  repeat still_step
  refine wpStill_nil ?_
  change wpList _ _ _ _ _ w.drew
  generalize (w.drew.setCells b 0 (((List.range (K + 1)).map fun j => f (pg + j)).map fun n : Nat => Value.int .u64 (n : Int))) = w3 at *
  clear z0 z1 z2 z3 z4 z5 x1
  have d1 : True := trivial
  go_wp2_with fail
  (try rw [a4]); (try rw [a6])
  go_loopw [11] (fun iv wr => ∃ m : Nat, K + 1 ≤ m ∧ m ≤ n ∧ iv = .int .i64 m ∧ Hid (Blk wr p #[.int .u64 len, .slice (some ⟨b, 0, none⟩) n c] T ∧ Wd .u64 wr b c (ZR (put f 0 ((List.range (K + 1)).map fun j => f (pg + j))) (K + 1) m) ∧ Only [p, b] w wr)) (fun iv _ => n - (intOf iv).toNat)
  case atStart => exact ⟨K + 1, Nat.le_refl _, by omega, by go_num, HP.out.1, by rw [ZR_zero]; exact HP.out.2.1, HP.out.2.2⟩
  case round =>
    obtain ⟨m, hm0, hm, rfl, hR⟩ := hrel
    have HR3 : Hid (Blk wr p #[.int .u64 len, .slice (some ⟨b, 0, none⟩) n c] T ∧ Wd .u64 wr b c (ZR (put f 0 ((List.range (K + 1)).map fun j => f (pg + j))) (K + 1) m) ∧ Only [p, b] w wr) := hR
    have d2 : wr.cell? ⟨p, 1, none⟩ = some (.slice (some ⟨b, 0, none⟩) n c) := HR3.out.1.cell rfl
    clear hR d1
    by_cases hmn : m < n
    · have c1 := HR3.out.2.1.cell (i := m) (by omega)
      have c2 := HR3.out.2.1.free m
      go_wp2_with fail
      go_roundw
      case rel =>
        refine ⟨m + 1, by omega, by omega, by go_num, HR3.out.1.other (fun e => H.out.ne e.symm) _, ?_, HR3.out.2.2.setCell (Or.inl (by simp)) _⟩
        have := HR3.out.2.1.set m 0
        rwa [ZR_next _ hm0] at this
      case measure => simp [intOf]; omega
    · have hmF : decide (m < n) = false := decide_eq_false hmn
      have hme : m = n := by omega
      have HR4 : Hid (Blk wr p #[.int .u64 len, .slice (some ⟨b, 0, none⟩) n c] T ∧ Wd .u64 wr b c (ZR (put f 0 ((List.range (K + 1)).map fun j => f (pg + j))) (K + 1) n) ∧ Only [p, b] w wr) := by have := HR3.out; rwa [hme] at this
      clear hme hmn
      go_wp2_with fail
      go_end0
      have hgl : ∀ q, q < n → ZR (put f 0 ((List.range (K + 1)).map fun j => f (pg + j))) (K + 1) n q = SR f (t / 64) (d % 64) (d / 64) q := fun q hq => by
        have e := ZR_is (f := f) (h := (put f 0 ((List.range (K + 1)).map fun j => f (pg + j)))) (n := n) (idx := idx) (sh := 0) (pg := pg) (k := K) HK.out (fun q h1 => copiedR HK.out h1) q hq
        rw [e, HX.out.2.2.2.1, HX.out.2.2.2.2.1, show d % 64 = 0 by rw [← HX.out.2.2.2.2.2]; exact HSH.out]
      have hbits : ∀ j, j < 64 * n → bit (ZR (put f 0 ((List.range (K + 1)).map fun j => f (pg + j))) (K + 1) n) j = (decide (j + d < len) && bit f (j + d)) := fun j hj => shiftedR H.out.small HT.out (fun j h1 h2 => H.out.clean j h1 h2) hlen64 hgl hj
      refine ⟨rfl, ZR (put f 0 ((List.range (K + 1)).map fun j => f (pg + j))) (K + 1) n, ⟨⟨T, HR4.out.1⟩, HR4.out.2.1, H.out.ne, H.out.n_eq, H.out.nc, small_ZR (small_putR H.out.small H.out.small _ _ _) _ _, fun j h1 h2 => ?_⟩, fun j hj => hbits j (by omega), HR4.out.2.2⟩
      · have h3 : bit (ZR (put f 0 ((List.range (K + 1)).map fun j => f (pg + j))) (K + 1) n) j = false := by
          rw [hbits j h2, decide_eq_false (show ¬ j + d < len by omega), Bool.false_and]
        exact h3

set_option maxRecDepth 100000 in
set_option maxHeartbeats 2000000 in
theorem rs_1 {w : World} {p b n c len : Nat} {f : Nat → Nat} (h : BSet w p b n c len f) (t d : Nat) (ht : Top f n t) (hd0 : 0 < d) (hdt : d ≤ t) (htl : t < len) (hs : d % 64 ≠ 0) (hov : t % 64 < d % 64) (hl : len ≤ 100000) :
    Calls Try.prog 74 #[.pointer (some ⟨p, 0, none⟩), .int .u64 d] w fun e' w' => e' = .returned (.tuple #[]) ∧ ∃ g, BSet w' p b n c len g ∧ (∀ j, j < len → bit g j = (decide (j + d < len) && bit f (j + d))) ∧ Only [p, b] w w' := by
  have x1 := h.set_cell
  have H := Lib.hid h
  have HT := Lib.hid ht
  obtain ⟨idx, hidx⟩ : ∃ i, i = t / 64 := ⟨_, rfl⟩
  obtain ⟨pad, hpad⟩ : ∃ i, i = t % 64 := ⟨_, rfl⟩
  obtain ⟨pg, hpg⟩ : ∃ i, i = d / 64 := ⟨_, rfl⟩
  obtain ⟨sh, hsh⟩ : ∃ i, i = d % 64 := ⟨_, rfl⟩
  obtain ⟨K, hK⟩ : ∃ k, k + pg = idx := ⟨idx - pg, by omega⟩
  have a3 : (t : Int) / 64 = (idx : Int) := by omega
  have a4 : (t : Int) % 64 = (pad : Int) := by omega
  have a5 : (d : Int) / 64 = (pg : Int) := by omega
  have a6 : (d : Int) % 64 = (sh : Int) := by omega
  have a7 : (idx : Int) - (pg : Int) = (K : Int) := by omega
  have hd0b : ((d : Int) == 0) = false := by simp; omega
  have hdt2 : decide (t < d) = false := decide_eq_false (by omega)
  have hn2 : n ≤ 20000 := by rw [h.n_eq]; unfold wn; omega
  have hnc := h.nc
  have hidn : idx < n := by have := ht.1; omega
  have hpgi : pg ≤ idx := by omega
  have hKi : K ≤ idx := by omega
  have hsh64 : sh < 64 := by omega
  have hlen64 : len ≤ 64 * n := by rw [h.n_eq]; unfold wn; omega
  have hX : t = 64 * idx + pad ∧ d = 64 * pg + sh ∧ pad < 64 := by omega
  have HX : Hid (t = 64 * idx + pad ∧ d = 64 * pg + sh ∧ pad < 64 ∧ idx = t / 64 ∧ pg = d / 64 ∧ sh = d % 64) := ⟨hX.1, hX.2.1, hX.2.2, hidx, hpg, hsh⟩
  have HK := Lib.hid hK
  have hsg : IntKind.u64.signed = false := rfl
  have hsb : ((sh : Int) == 0) = false := by simp; omega
  have HSH : Hid (sh ≠ 0) := Lib.hid (by rw [hsh]; exact hs)
  obtain ⟨rs, hrs⟩ : ∃ rs, rs = 64 - sh := ⟨_, rfl⟩
  have hrs1 : (64 : Int) - (sh : Int) = (rs : Int) := by omega
  have hrs2 : rs < 64 := by omega
  have HRS := Lib.hid hrs
  clear hrs
  have hps : decide (pad < sh) = true := decide_eq_true (by omega)
  have HLOW : Hid (f idx / 2 ^ sh = 0) := Lib.hid (by rw [hidx, hsh]; exact ht.lowR h.small hov)
  clear h ht hidx hpad hpg hsh hX hK hs hov 
  go_enter Try.func74, Try.ntmps74
  go_wp2_with fail
  refine (panicIfNull_any _ _).mono ?_; rintro e w' ⟨rfl, rfl⟩
  go_wp2_with fail
  refine (top_any H.out (by omega)).mono ?_; rintro e w' ⟨hres, rfl⟩
  have hres2 : e = .returned (.tuple #[.int .u64 t, .bool true]) := by
    rcases hres with ⟨t2, ht2, rfl⟩ | ⟨hz, _⟩
    · have : t2 = t := by
        have h1 := HT.out
        rcases Nat.lt_trichotomy t2 t with h2 | h2 | h2
        · have := ht2.2.2 t h2 h1.1; rw [h1.2.1] at this; cases this
        · exact h2
        · have := h1.2.2 t2 h2 ht2.1; rw [ht2.2.1] at this; cases this
      rw [this]
    · exfalso
      have h1 := HT.out
      have h2 := zero_bits (k := 0) (fun i _ hi => hz i hi) t (by omega) h1.1
      rw [h1.2.1] at h2; cases h2
  subst hres2
  clear hres
  obtain ⟨T, hst⟩ := H.out.st
  have HP : Hid (Blk w p #[.int .u64 len, .slice (some ⟨b, 0, none⟩) n c] T ∧ Wd .u64 w b c (RH f idx sh pg 0) ∧ Only [p, b] w w) := by rw [RH_zero]; exact ⟨hst, H.out.wd, Only.refl _ _⟩
  clear hst
  go_wp2_with fail
  rw [a4, a6]
  clear x1
  go_loopw [10] (fun iv wr => ∃ i : Nat, i ≤ K + 1 ∧ iv = .int .i64 i ∧ Hid (Blk wr p #[.int .u64 len, .slice (some ⟨b, 0, none⟩) n c] T ∧ Wd .u64 wr b c (RH f idx sh pg i) ∧ Only [p, b] w wr)) (fun iv _ => K + 1 - (intOf iv).toNat)
  case atStart => exact ⟨0, Nat.zero_le _, rfl, HP.out⟩
  case round =>
    obtain ⟨i, hi, rfl, hR⟩ := hrel
    have HR : Hid (Blk wr p #[.int .u64 len, .slice (some ⟨b, 0, none⟩) n c] T ∧ Wd .u64 wr b c (RH f idx sh pg i) ∧ Only [p, b] w wr) := hR
    clear hR
    have d1 : wr.cell? ⟨p, 1, none⟩ = some (.slice (some ⟨b, 0, none⟩) n c) := HR.out.1.cell rfl
    by_cases hiK : i ≤ K
    · obtain ⟨y, hy⟩ : ∃ y, y = i + pg := ⟨_, rfl⟩
      have hy1 : (i : Int) + (pg : Int) = (y : Int) := by omega
      have hyN : y < n := by omega
      have hin : i < n := by omega
      have g1 : ∀ q, i ≤ q → q < n → wr.cell? ⟨b, q, none⟩ = some (.int .u64 (f q)) := fun q h1 h2 => by
        have := HR.out.2.1.cell (i := q) (by omega)
        rwa [RH_high _ _ _ _ _ h1] at this
      have c1 := g1 y (by omega) hyN
      have c2 := HR.out.2.1.cell (i := i) (by omega)
      have c3 := HR.out.2.1.free i
      have hrow : ∀ (x : Value), x = .int .u64 (SR f idx sh pg i : Int) → Hid (Blk (wr.setCell ⟨b, i, none⟩ x).drew p #[.int .u64 len, .slice (some ⟨b, 0, none⟩) n c] T ∧ Wd .u64 (wr.setCell ⟨b, i, none⟩ x).drew b c (RH f idx sh pg (i + 1)) ∧ Only [p, b] w (wr.setCell ⟨b, i, none⟩ x).drew) := fun x hx => by
        subst hx
        refine ⟨HR.out.1.other (fun e => H.out.ne e.symm) _, ?_, (HR.out.2.2.setCell (Or.inl (by simp)) _).drewN 1⟩
        have := HR.out.2.1.set i (SR f idx sh pg i)
        rwa [RH_next] at this
      have HROW := Lib.hid hrow
      have HY := Lib.hid hy
      have z0 : (0 : Int) ≤ (i : Int) := by omega
      have z1 : (i : Int) < (n : Int) := by omega
      have z2 : ((i : Int)).toNat = i := by omega
      have z3 : (0 : Int) ≤ (y : Int) := by omega
      have z4 : (y : Int) < (n : Int) := by omega
      have z5 : ((y : Int)).toNat = y := by omega
      have z6 : IntKind.i64.wrap (y : Int) = (y : Int) := IntWalk.i64_in _ (by omega)
      have z7 : IntKind.i64.wrap (pg : Int) = (pg : Int) := IntWalk.i64_in _ (by omega)
      have z8 : ((sh : Int)).toNat = sh := by omega
      by_cases hlt : i < K
      · obtain ⟨y', hy'⟩ : ∃ y', y' = y + 1 := ⟨_, rfl⟩
        have hy2 : (y : Int) + 1 = (y' : Int) := by omega
        have hyN' : y' < n := by omega
        have c4 := g1 y' (by omega) hyN'
        have HY' := Lib.hid hy'
        have hyi : y < idx := by omega
        clear hrow g1 hy hy'
        go_wp2_with fail
        have z9 : (0 : Int) ≤ (y' : Int) := by omega
        have za : (y' : Int) < (n : Int) := by omega
        have zb : ((y' : Int)).toNat = y' := by omega
        have zc : IntKind.i64.wrap (y' : Int) = (y' : Int) := IntWalk.i64_in _ (by omega)
        have zd : IntKind.u64.wrap (rs : Int) = (rs : Int) := by rw [IntKind.wrap_u64]; omega
        have ze : ((rs : Int)).toNat = rs := by omega
        refine wp_region_still_tail 33 (by kernel_rfl) (by kernel_rfl) ?_
        simp only [List.take_succ_cons, List.take_zero, List.drop_succ_cons, List.drop_zero]
        repeat still_step
        refine wpStill_nil ?_
        change wpList _ _ _ _ _ wr.drew
        have HE : Hid (bits BinOp.or IntKind.u64 ((f y : Int) / 2 ^ sh) (IntKind.u64.wrap ((f y' : Int) * 2 ^ rs)) = (SR f idx sh pg i : Int)) := Lib.hid (by
          rw [shr_nat, wrap_shl, u64_or_nat _ _ (shr_lt (H.out.small y) _) (Nat.mod_lt _ (by decide)), SR_mid HSH.out (by have := HY.out; omega), ← HY.out, ← HY'.out, HRS.out])
        rw [HE.out]
        clear z0 z1 z2 z3 z4 z5 z6 z7 z8 z9 za zb zc zd ze
        go_wp2_with fail
        go_roundw
        case rel => exact ⟨i + 1, by omega, by go_num, (HROW.out _ rfl).out⟩
        case measure => simp [intOf]; omega
      · have hyi : y = idx := by have := HK.out; omega
        have HYI := Lib.hid hyi
        clear hrow g1 hy hyi
        go_wp2_with fail
        refine wp_region_still_tail 18 (by kernel_rfl) (by kernel_rfl) ?_
        simp only [List.take_succ_cons, List.take_zero, List.drop_succ_cons, List.drop_zero]
        repeat still_step
        refine wpStill_nil ?_
        change wpList _ _ _ _ _ wr.drew
        have HE : Hid ((f y : Int) / 2 ^ sh = (SR f idx sh pg i : Int)) := Lib.hid (by
          rw [shr_nat, SR_last HSH.out (by rw [← HY.out]; exact HYI.out), HYI.out])
        rw [HE.out]
        clear z0 z1 z2 z3 z4 z5 z6 z7 z8
        go_wp2_with fail
        go_roundw
        case rel => exact ⟨i + 1, by omega, by go_num, (HROW.out _ rfl).out⟩
        case measure => simp [intOf]; omega
    · have hiF : decide (i ≤ K) = false := decide_eq_false hiK
      have HR2 : Hid (Blk wr p #[.int .u64 len, .slice (some ⟨b, 0, none⟩) n c] T ∧ Wd .u64 wr b c (RH f idx sh pg (K + 1)) ∧ Only [p, b] w wr) := by have := HR.out; rwa [show i = K + 1 by omega] at this
      have hKn : K < n := by omega
      clear hiK HR
      have c1 := HR2.out.2.1.cell (i := K) (by omega)
      have c2 := HR2.out.2.1.free K
      go_wp2_with fail
      have HR5 : Hid (Blk (wr.setCell ⟨b, K, none⟩ (.int .u64 0)) p #[.int .u64 len, .slice (some ⟨b, 0, none⟩) n c] T ∧ Wd .u64 (wr.setCell ⟨b, K, none⟩ (.int .u64 0)) b c (RH f idx sh pg (K + 1)) ∧ Only [p, b] w (wr.setCell ⟨b, K, none⟩ (.int .u64 0))) := by
        refine ⟨HR2.out.1.other (fun e => H.out.ne e.symm) _, ?_, HR2.out.2.2.setCell (Or.inl (by simp)) _⟩
        have := HR2.out.2.1.set K 0
        rwa [RH_same (Nat.lt_succ_self _) (by rw [SR_last HSH.out HK.out, HLOW.out])] at this
      generalize (wr.setCell ⟨b, K, none⟩ (.int .u64 0)) = w5 at *
      clear c1 c2
      go_loopw [11] (fun iv wr => ∃ m : Nat, K + 1 ≤ m ∧ m ≤ n ∧ iv = .int .i64 m ∧ Hid (Blk wr p #[.int .u64 len, .slice (some ⟨b, 0, none⟩) n c] T ∧ Wd .u64 wr b c (ZR (RH f idx sh pg (K + 1)) (K + 1) m) ∧ Only [p, b] w wr)) (fun iv _ => n - (intOf iv).toNat)
      case atStart => exact ⟨K + 1, Nat.le_refl _, by omega, by go_num, HR5.out.1, by rw [ZR_zero]; exact HR5.out.2.1, HR5.out.2.2⟩
      case round =>
        obtain ⟨m, hm0, hm, rfl, hR⟩ := hrel
        have HR3 : Hid (Blk wr p #[.int .u64 len, .slice (some ⟨b, 0, none⟩) n c] T ∧ Wd .u64 wr b c (ZR (RH f idx sh pg (K + 1)) (K + 1) m) ∧ Only [p, b] w wr) := hR
        have d2 : wr.cell? ⟨p, 1, none⟩ = some (.slice (some ⟨b, 0, none⟩) n c) := HR3.out.1.cell rfl
        clear hR d1
        by_cases hmn : m < n
        · have c1 := HR3.out.2.1.cell (i := m) (by omega)
          have c2 := HR3.out.2.1.free m
          go_wp2_with fail
          go_roundw
          case rel =>
            refine ⟨m + 1, by omega, by omega, by go_num, HR3.out.1.other (fun e => H.out.ne e.symm) _, ?_, HR3.out.2.2.setCell (Or.inl (by simp)) _⟩
            have := HR3.out.2.1.set m 0
            rwa [ZR_next _ hm0] at this
          case measure => simp [intOf]; omega
        · have hmF : decide (m < n) = false := decide_eq_false hmn
          have hme : m = n := by omega
          have HR4 : Hid (Blk wr p #[.int .u64 len, .slice (some ⟨b, 0, none⟩) n c] T ∧ Wd .u64 wr b c (ZR (RH f idx sh pg (K + 1)) (K + 1) n) ∧ Only [p, b] w wr) := by have := HR3.out; rwa [hme] at this
          clear hme hmn
          go_wp2_with fail
          go_end0
          have hgl : ∀ q, q < n → ZR (RH f idx sh pg (K + 1)) (K + 1) n q = SR f (t / 64) (d % 64) (d / 64) q := fun q hq => by
            have e := ZR_is (f := f) (h := (RH f idx sh pg (K + 1))) (n := n) (idx := idx) (sh := sh) (pg := pg) (k := K) HK.out (fun q h1 => RH_is q h1) q hq
            rw [e, HX.out.2.2.2.1, HX.out.2.2.2.2.1, HX.out.2.2.2.2.2]
          have hbits : ∀ j, j < 64 * n → bit (ZR (RH f idx sh pg (K + 1)) (K + 1) n) j = (decide (j + d < len) && bit f (j + d)) := fun j hj => shiftedR H.out.small HT.out (fun j h1 h2 => H.out.clean j h1 h2) hlen64 hgl hj
          refine ⟨rfl, ZR (RH f idx sh pg (K + 1)) (K + 1) n, ⟨⟨T, HR4.out.1⟩, HR4.out.2.1, H.out.ne, H.out.n_eq, H.out.nc, small_ZR (small_RH H.out.small _ _ _ _) _ _, fun j h1 h2 => ?_⟩, fun j hj => hbits j (by omega), HR4.out.2.2⟩
          · have h3 : bit (ZR (RH f idx sh pg (K + 1)) (K + 1) n) j = false := by
              rw [hbits j h2, decide_eq_false (show ¬ j + d < len by omega), Bool.false_and]
            exact h3

set_option maxRecDepth 100000 in
set_option maxHeartbeats 2000000 in
theorem rs_2 {w : World} {p b n c len : Nat} {f : Nat → Nat} (h : BSet w p b n c len f) (t d : Nat) (ht : Top f n t) (hd0 : 0 < d) (hdt : d ≤ t) (htl : t < len) (hs : d % 64 ≠ 0) (hov : d % 64 ≤ t % 64) (hl : len ≤ 100000) :
    Calls Try.prog 74 #[.pointer (some ⟨p, 0, none⟩), .int .u64 d] w fun e' w' => e' = .returned (.tuple #[]) ∧ ∃ g, BSet w' p b n c len g ∧ (∀ j, j < len → bit g j = (decide (j + d < len) && bit f (j + d))) ∧ Only [p, b] w w' := by
  have x1 := h.set_cell
  have H := Lib.hid h
  have HT := Lib.hid ht
  obtain ⟨idx, hidx⟩ : ∃ i, i = t / 64 := ⟨_, rfl⟩
  obtain ⟨pad, hpad⟩ : ∃ i, i = t % 64 := ⟨_, rfl⟩
  obtain ⟨pg, hpg⟩ : ∃ i, i = d / 64 := ⟨_, rfl⟩
  obtain ⟨sh, hsh⟩ : ∃ i, i = d % 64 := ⟨_, rfl⟩
  obtain ⟨K, hK⟩ : ∃ k, k + pg = idx := ⟨idx - pg, by omega⟩
  have a3 : (t : Int) / 64 = (idx : Int) := by omega
  have a4 : (t : Int) % 64 = (pad : Int) := by omega
  have a5 : (d : Int) / 64 = (pg : Int) := by omega
  have a6 : (d : Int) % 64 = (sh : Int) := by omega
  have a7 : (idx : Int) - (pg : Int) = (K : Int) := by omega
  have hd0b : ((d : Int) == 0) = false := by simp; omega
  have hdt2 : decide (t < d) = false := decide_eq_false (by omega)
  have hn2 : n ≤ 20000 := by rw [h.n_eq]; unfold wn; omega
  have hnc := h.nc
  have hidn : idx < n := by have := ht.1; omega
  have hpgi : pg ≤ idx := by omega
  have hKi : K ≤ idx := by omega
  have hsh64 : sh < 64 := by omega
  have hlen64 : len ≤ 64 * n := by rw [h.n_eq]; unfold wn; omega
  have hX : t = 64 * idx + pad ∧ d = 64 * pg + sh ∧ pad < 64 := by omega
  have HX : Hid (t = 64 * idx + pad ∧ d = 64 * pg + sh ∧ pad < 64 ∧ idx = t / 64 ∧ pg = d / 64 ∧ sh = d % 64) := ⟨hX.1, hX.2.1, hX.2.2, hidx, hpg, hsh⟩
  have HK := Lib.hid hK
  have hsg : IntKind.u64.signed = false := rfl
  have hsb : ((sh : Int) == 0) = false := by simp; omega
  have HSH : Hid (sh ≠ 0) := Lib.hid (by rw [hsh]; exact hs)
  obtain ⟨rs, hrs⟩ : ∃ rs, rs = 64 - sh := ⟨_, rfl⟩
  have hrs1 : (64 : Int) - (sh : Int) = (rs : Int) := by omega
  have hrs2 : rs < 64 := by omega
  have HRS := Lib.hid hrs
  clear hrs
  have hps : decide (pad < sh) = false := decide_eq_false (by omega)
  clear h ht hidx hpad hpg hsh hX hK hs hov 
  go_enter Try.func74, Try.ntmps74
  go_wp2_with fail
  refine (panicIfNull_any _ _).mono ?_; rintro e w' ⟨rfl, rfl⟩
  go_wp2_with fail
  refine (top_any H.out (by omega)).mono ?_; rintro e w' ⟨hres, rfl⟩
  have hres2 : e = .returned (.tuple #[.int .u64 t, .bool true]) := by
    rcases hres with ⟨t2, ht2, rfl⟩ | ⟨hz, _⟩
    · have : t2 = t := by
        have h1 := HT.out
        rcases Nat.lt_trichotomy t2 t with h2 | h2 | h2
        · have := ht2.2.2 t h2 h1.1; rw [h1.2.1] at this; cases this
        · exact h2
        · have := h1.2.2 t2 h2 ht2.1; rw [ht2.2.1] at this; cases this
      rw [this]
    · exfalso
      have h1 := HT.out
      have h2 := zero_bits (k := 0) (fun i _ hi => hz i hi) t (by omega) h1.1
      rw [h1.2.1] at h2; cases h2
  subst hres2
  clear hres
  obtain ⟨T, hst⟩ := H.out.st
  have HP : Hid (Blk w p #[.int .u64 len, .slice (some ⟨b, 0, none⟩) n c] T ∧ Wd .u64 w b c (RH f idx sh pg 0) ∧ Only [p, b] w w) := by rw [RH_zero]; exact ⟨hst, H.out.wd, Only.refl _ _⟩
  clear hst
  go_wp2_with fail
  rw [a4, a6]
  clear x1
  go_loopw [10] (fun iv wr => ∃ i : Nat, i ≤ K + 1 ∧ iv = .int .i64 i ∧ Hid (Blk wr p #[.int .u64 len, .slice (some ⟨b, 0, none⟩) n c] T ∧ Wd .u64 wr b c (RH f idx sh pg i) ∧ Only [p, b] w wr)) (fun iv _ => K + 1 - (intOf iv).toNat)
  case atStart => exact ⟨0, Nat.zero_le _, rfl, HP.out⟩
  case round =>
    obtain ⟨i, hi, rfl, hR⟩ := hrel
    have HR : Hid (Blk wr p #[.int .u64 len, .slice (some ⟨b, 0, none⟩) n c] T ∧ Wd .u64 wr b c (RH f idx sh pg i) ∧ Only [p, b] w wr) := hR
    clear hR
    have d1 : wr.cell? ⟨p, 1, none⟩ = some (.slice (some ⟨b, 0, none⟩) n c) := HR.out.1.cell rfl
    by_cases hiK : i ≤ K
    · obtain ⟨y, hy⟩ : ∃ y, y = i + pg := ⟨_, rfl⟩
      have hy1 : (i : Int) + (pg : Int) = (y : Int) := by omega
      have hyN : y < n := by omega
      have hin : i < n := by omega
      have g1 : ∀ q, i ≤ q → q < n → wr.cell? ⟨b, q, none⟩ = some (.int .u64 (f q)) := fun q h1 h2 => by
        have := HR.out.2.1.cell (i := q) (by omega)
        rwa [RH_high _ _ _ _ _ h1] at this
      have c1 := g1 y (by omega) hyN
      have c2 := HR.out.2.1.cell (i := i) (by omega)
      have c3 := HR.out.2.1.free i
      have hrow : ∀ (x : Value), x = .int .u64 (SR f idx sh pg i : Int) → Hid (Blk (wr.setCell ⟨b, i, none⟩ x).drew p #[.int .u64 len, .slice (some ⟨b, 0, none⟩) n c] T ∧ Wd .u64 (wr.setCell ⟨b, i, none⟩ x).drew b c (RH f idx sh pg (i + 1)) ∧ Only [p, b] w (wr.setCell ⟨b, i, none⟩ x).drew) := fun x hx => by
        subst hx
        refine ⟨HR.out.1.other (fun e => H.out.ne e.symm) _, ?_, (HR.out.2.2.setCell (Or.inl (by simp)) _).drewN 1⟩
        have := HR.out.2.1.set i (SR f idx sh pg i)
        rwa [RH_next] at this
      have HROW := Lib.hid hrow
      have HY := Lib.hid hy
      have z0 : (0 : Int) ≤ (i : Int) := by omega
      have z1 : (i : Int) < (n : Int) := by omega
      have z2 : ((i : Int)).toNat = i := by omega
      have z3 : (0 : Int) ≤ (y : Int) := by omega
      have z4 : (y : Int) < (n : Int) := by omega
      have z5 : ((y : Int)).toNat = y := by omega
      have z6 : IntKind.i64.wrap (y : Int) = (y : Int) := IntWalk.i64_in _ (by omega)
      have z7 : IntKind.i64.wrap (pg : Int) = (pg : Int) := IntWalk.i64_in _ (by omega)
      have z8 : ((sh : Int)).toNat = sh := by omega
      by_cases hlt : i < K
      · obtain ⟨y', hy'⟩ : ∃ y', y' = y + 1 := ⟨_, rfl⟩
        have hy2 : (y : Int) + 1 = (y' : Int) := by omega
        have hyN' : y' < n := by omega
        have c4 := g1 y' (by omega) hyN'
        have HY' := Lib.hid hy'
        have hyi : y < idx := by omega
        clear hrow g1 hy hy'
        go_wp2_with fail
        have z9 : (0 : Int) ≤ (y' : Int) := by omega
        have za : (y' : Int) < (n : Int) := by omega
        have zb : ((y' : Int)).toNat = y' := by omega
        have zc : IntKind.i64.wrap (y' : Int) = (y' : Int) := IntWalk.i64_in _ (by omega)
        have zd : IntKind.u64.wrap (rs : Int) = (rs : Int) := by rw [IntKind.wrap_u64]; omega
        have ze : ((rs : Int)).toNat = rs := by omega
        refine wp_region_still_tail 33 (by kernel_rfl) (by kernel_rfl) ?_
        simp only [List.take_succ_cons, List.take_zero, List.drop_succ_cons, List.drop_zero]
        repeat still_step
        refine wpStill_nil ?_
        change wpList _ _ _ _ _ wr.drew
        have HE : Hid (bits BinOp.or IntKind.u64 ((f y : Int) / 2 ^ sh) (IntKind.u64.wrap ((f y' : Int) * 2 ^ rs)) = (SR f idx sh pg i : Int)) := Lib.hid (by
          rw [shr_nat, wrap_shl, u64_or_nat _ _ (shr_lt (H.out.small y) _) (Nat.mod_lt _ (by decide)), SR_mid HSH.out (by have := HY.out; omega), ← HY.out, ← HY'.out, HRS.out])
        rw [HE.out]
        clear z0 z1 z2 z3 z4 z5 z6 z7 z8 z9 za zb zc zd ze
        go_wp2_with fail
        go_roundw
        case rel => exact ⟨i + 1, by omega, by go_num, (HROW.out _ rfl).out⟩
        case measure => simp [intOf]; omega
      · have hyi : y = idx := by have := HK.out; omega
        have HYI := Lib.hid hyi
        clear hrow g1 hy hyi
        go_wp2_with fail
        refine wp_region_still_tail 18 (by kernel_rfl) (by kernel_rfl) ?_
        simp only [List.take_succ_cons, List.take_zero, List.drop_succ_cons, List.drop_zero]
        repeat still_step
        refine wpStill_nil ?_
        change wpList _ _ _ _ _ wr.drew
        have HE : Hid ((f y : Int) / 2 ^ sh = (SR f idx sh pg i : Int)) := Lib.hid (by
          rw [shr_nat, SR_last HSH.out (by rw [← HY.out]; exact HYI.out), HYI.out])
        rw [HE.out]
        clear z0 z1 z2 z3 z4 z5 z6 z7 z8
        go_wp2_with fail
        go_roundw
        case rel => exact ⟨i + 1, by omega, by go_num, (HROW.out _ rfl).out⟩
        case measure => simp [intOf]; omega
    · have hiF : decide (i ≤ K) = false := decide_eq_false hiK
      have HR2 : Hid (Blk wr p #[.int .u64 len, .slice (some ⟨b, 0, none⟩) n c] T ∧ Wd .u64 wr b c (RH f idx sh pg (K + 1)) ∧ Only [p, b] w wr) := by have := HR.out; rwa [show i = K + 1 by omega] at this
      have hKn : K < n := by omega
      clear hiK HR
      go_wp2_with fail
      obtain ⟨wo, rfl⟩ : ∃ wo : World, wo = wr := ⟨_, rfl⟩
      go_loopw [11] (fun iv wr => ∃ m : Nat, K + 1 ≤ m ∧ m ≤ n ∧ iv = .int .i64 m ∧ Hid (Blk wr p #[.int .u64 len, .slice (some ⟨b, 0, none⟩) n c] T ∧ Wd .u64 wr b c (ZR (RH f idx sh pg (K + 1)) (K + 1) m) ∧ Only [p, b] w wr)) (fun iv _ => n - (intOf iv).toNat)
      case atStart => exact ⟨K + 1, Nat.le_refl _, by omega, by go_num, HR2.out.1, by rw [ZR_zero]; exact HR2.out.2.1, HR2.out.2.2⟩
      case round =>
        obtain ⟨m, hm0, hm, rfl, hR⟩ := hrel
        have HR3 : Hid (Blk wr p #[.int .u64 len, .slice (some ⟨b, 0, none⟩) n c] T ∧ Wd .u64 wr b c (ZR (RH f idx sh pg (K + 1)) (K + 1) m) ∧ Only [p, b] w wr) := hR
        have d2 : wr.cell? ⟨p, 1, none⟩ = some (.slice (some ⟨b, 0, none⟩) n c) := HR3.out.1.cell rfl
        clear hR d1
        by_cases hmn : m < n
        · have c1 := HR3.out.2.1.cell (i := m) (by omega)
          have c2 := HR3.out.2.1.free m
          go_wp2_with fail
          go_roundw
          case rel =>
            refine ⟨m + 1, by omega, by omega, by go_num, HR3.out.1.other (fun e => H.out.ne e.symm) _, ?_, HR3.out.2.2.setCell (Or.inl (by simp)) _⟩
            have := HR3.out.2.1.set m 0
            rwa [ZR_next _ hm0] at this
          case measure => simp [intOf]; omega
        · have hmF : decide (m < n) = false := decide_eq_false hmn
          have hme : m = n := by omega
          have HR4 : Hid (Blk wr p #[.int .u64 len, .slice (some ⟨b, 0, none⟩) n c] T ∧ Wd .u64 wr b c (ZR (RH f idx sh pg (K + 1)) (K + 1) n) ∧ Only [p, b] w wr) := by have := HR3.out; rwa [hme] at this
          clear hme hmn
          go_wp2_with fail
          go_end0
          have hgl : ∀ q, q < n → ZR (RH f idx sh pg (K + 1)) (K + 1) n q = SR f (t / 64) (d % 64) (d / 64) q := fun q hq => by
            have e := ZR_is (f := f) (h := (RH f idx sh pg (K + 1))) (n := n) (idx := idx) (sh := sh) (pg := pg) (k := K) HK.out (fun q h1 => RH_is q h1) q hq
            rw [e, HX.out.2.2.2.1, HX.out.2.2.2.2.1, HX.out.2.2.2.2.2]
          have hbits : ∀ j, j < 64 * n → bit (ZR (RH f idx sh pg (K + 1)) (K + 1) n) j = (decide (j + d < len) && bit f (j + d)) := fun j hj => shiftedR H.out.small HT.out (fun j h1 h2 => H.out.clean j h1 h2) hlen64 hgl hj
          refine ⟨rfl, ZR (RH f idx sh pg (K + 1)) (K + 1) n, ⟨⟨T, HR4.out.1⟩, HR4.out.2.1, H.out.ne, H.out.n_eq, H.out.nc, small_ZR (small_RH H.out.small _ _ _ _) _ _, fun j h1 h2 => ?_⟩, fun j hj => hbits j (by omega), HR4.out.2.2⟩
          · have h3 : bit (ZR (RH f idx sh pg (K + 1)) (K + 1) n) j = false := by
              rw [hbits j h2, decide_eq_false (show ¬ j + d < len by omega), Bool.false_and]
            exact h3

end Go.Proofs.Ytpmnpaannbhoeaa
