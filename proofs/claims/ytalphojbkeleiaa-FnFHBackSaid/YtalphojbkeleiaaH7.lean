/- An entry's priority made the least: decreaseKeyUnchecked, Delete. -/
import Derived.Test.YtalphojbkeleiaaH6
namespace Go.Proofs.Ytalphojbkeleiaa
namespace FH
open Go.RowKit

theorem Nd.same {a b : Nd} (h1 : a.deg = b.deg) (h2 : a.mkd = b.mkd) (h3 : a.nx = b.nx) (h4 : a.pv = b.pv) (h5 : a.ch = b.ch) (h6 : a.pa = b.pa) (h7 : a.pr = b.pr) : a = b := by
  cases a; cases b
  simp only at h1 h2 h3 h4 h5 h6 h7
  subst h1 h2 h3 h4 h5 h6 h7
  rfl
theorem cut_low (m : Mem) (hm : Option Nat) (n p : Nat) (v : Int) : cutM (sPr m n v) hm n p = sPr (cutM m hm n p) n v := by
  funext y
  unfold cutM cutA
  by_cases h1 : (m p).ch = some n <;> by_cases h2 : (m n).nx = n <;> cases hm <;> refine Nd.same ?_ ?_ ?_ ?_ ?_ ?_ ?_ <;> simp [h1, h2, out1, out1H, mgO, mg_nx, mg_pv, dl_nx, dl_pv]
theorem low_root {m : Mem} {hm : Option Nat} {L : List Nat} {n : Nat} (h : HS m hm L) (hn : n ∈ L) (hp : (m n).pa = none) (hb : ∀ b ∈ L, bot ≤ (m b).pr) : HS (sPr m n bot) (some n) L := by
  obtain ⟨hL, R, K, rk, hw, hR, _⟩ := h
  have hnR := hw.top n hn hp
  refine ⟨hL, R, K, rk, hw.same (fun b _ => by simp) (fun a ha b hbk => ?_), ⟨hw.rring.congr (fun y _ => by simp) (fun y _ => by simp), Or.inr ⟨n, rfl, hnR⟩⟩, fun x e b hbL => ?_⟩
  · obtain ⟨h1, _, h3, _⟩ := hw.kL a ha b hbk
    have hbn : b ≠ n := fun e => hw.root_kid ha hbk (e ▸ hnR)
    rw [sPr_pr, sPr_pr, if_neg hbn]
    split
    · exact hb b h1
    · exact h3
  · cases e
    rw [sPr_pr, sPr_pr, if_pos rfl]
    split
    · exact Int.le_refl _
    · exact hb b hbL
theorem low_cut {m : Mem} {hm : Option Nat} {L : List Nat} {n p : Nat} (h : HS m hm L) (hn : n ∈ L) (hp : (m n).pa = some p) (hb : ∀ b ∈ L, bot ≤ (m b).pr) : HS (cutM (sPr m n bot) hm n p) (some n) L := by
  obtain ⟨hL, R, K, rk, hw, hR, _⟩ := h
  obtain ⟨U, K', hw2, hU⟩ := hw.cut hR hn hp
  have hnU : n ∈ U := hU.symm.subset (by simp)
  have hpr : ∀ y, (cutM m hm n p y).pr = (m y).pr := fun y => by
    unfold cutM cutA
    by_cases h1 : (m p).ch = some n <;> simp [h1]
  rw [cut_low]
  refine ⟨hL, U, K', rk, hw2.same (fun b _ => by simp) (fun a ha b hbk => ?_), ⟨hw2.rring.congr (fun y _ => by simp) (fun y _ => by simp), Or.inr ⟨n, rfl, hnU⟩⟩, fun x e b hbL => ?_⟩
  · obtain ⟨h1, _, h3, _⟩ := hw2.kL a ha b hbk
    have hbn : b ≠ n := fun e => hw2.root_kid ha hbk (e ▸ hnU)
    rw [sPr_pr, sPr_pr, if_neg hbn]
    split
    · rw [hpr]; exact hb b h1
    · exact h3
  · cases e
    rw [sPr_pr, sPr_pr, if_pos rfl]
    split
    · exact Int.le_refl _
    · rw [hpr]; exact hb b hbL
theorem pri_bot {p : Int} (h : Pri p) : bot ≤ p := by
  rcases h with h | h
  · rw [h]; exact Int.le_refl _
  · unfold bot; omega
/-- What the cutting asks of a node. -/
theorem cuttable {m : Mem} {hm : Option Nat} {L : List Nat} {n p : Nat} (h : HS m hm L) (hn : n ∈ L) (hp : (m n).pa = some p) :
    p ∈ L ∧ n ≠ p ∧ 1 ≤ (m p).deg ∧ (m p).deg ≤ L.length ∧ ((m n).nx ≠ n → (m n).pv ≠ n) ∧ ∀ x, hm = some x → x ≠ n ∧ (cutA m n p x).nx ≠ n := by
  obtain ⟨hL, R, K, rk, hw, hR, _⟩ := h
  obtain ⟨hpL, hnp⟩ := hw.sub n hn p hp
  have hne : n ≠ p := by
    rintro rfl
    have := (hw.kL n hn n hnp).2.2.2
    omega
  have hnR : n ∉ R := hw.root_kid hpL hnp
  refine ⟨hpL, hne, ?_, hw.deg_le hpL, (hw.kring p hpL).single' hnp (hw.knd p hpL), fun x e => ?_⟩
  · rw [hw.deg p hpL]; exact List.length_pos_of_mem hnp
  · obtain ⟨_, ⟨_, h2⟩ | ⟨y, h2, hy⟩⟩ := hR
    · rw [e] at h2; cases h2
    · rw [e] at h2; cases h2
      have hxn : x ≠ n := fun e => hnR (e ▸ hy)
      have hxK : x ∉ K p := fun hk => hw.root_kid hpL hk hy
      refine ⟨hxn, fun e2 => hnR ?_⟩
      have e3 : (cutA m n p x).nx = (m x).nx := by
        have h4 := (out1_rep (m := sMkd m n false) (R := K p) ((hw.kring p hpL).congr (fun y _ => by simp) (fun y _ => by simp)) hnp (hw.knd p hpL)).2 x hxK
        unfold cutA
        by_cases h1 : (m p).ch = some n <;> simp [h1, hxn, h4.1]
      rw [← e2, e3]
      exact hw.rring.next_mem hy
/-- An entry is now the least. -/
def Low (w : World) (q : Nat) (A : List Nat) (m : Mem) (L : List Nat) (n : Nat) (e : Ending) (w' : World) : Prop :=
  e = .returned (.tuple #[]) ∧ ∃ m', Fh w' q A m' (some n) L ∧ (m' n).pr = bot ∧ (∀ y, y ≠ n → (m' y).pr = (m y).pr) ∧ Only (q :: A) w w'
set_option maxRecDepth 100000 in
set_option maxHeartbeats 8000000 in
theorem low_any {w : World} {q n : Nat} {A : List Nat} {m : Mem} {hm : Option Nat} {L : List Nat} (h : Fh w q A m hm L) (hn : n ∈ L) (hmk : ∀ y, (m y).mkd = false) :
    Calls Try.prog 27 #[.pointer (some ⟨q, 0, none⟩), .pointer (some ⟨n, 0, none⟩), .float .f64 18442240474082181119] w (Low w q A m L n) := by
  have hfb : fb bot = 18442240474082181119 := by rw [fb, if_pos rfl]
  obtain ⟨x, hx, hxL, hxmin⟩ := h.hs.some (List.ne_nil_of_mem hn)
  subst hx
  have HF := Lib.hid h
  have HX : Hid (x ∈ A ∧ n ∈ A ∧ n ∈ L) := ⟨h.sub x hxL, h.sub n hn, hn⟩
  have HB : Hid (∀ b ∈ L, bot ≤ (m b).pr) := fun b hb => pri_bot (HF.out.ms.pr b (HF.out.sub b hb))
  have HMK := Lib.hid hmk
  have b6 := h.ms.c6 HX.out.2.1
  have b5 := h.ms.c5 HX.out.2.1
  have f6 := h.ms.free HX.out.2.1
  have hsf : ∀ (w : World) (a : Addr) (k : FloatKind) (b : Nat) (m : Mode), (store a (.float k b) m).run Try.prog w = stored Try.prog w a (.float k b) m := fun w a k b m => run_store _ w a _ m rfl
  have hq0 := h.blk
  rw [show optp (some x) = .pointer (some ⟨x, 0, none⟩) from rfl] at hq0
  obtain ⟨sz, hsz⟩ : ∃ sz, sz = L.length := ⟨_, rfl⟩
  have HSZ := Lib.hid hsz
  rw [← hsz] at hq0
  have H1 : Hid (Cs w q A sz (.pointer (some ⟨x, 0, none⟩)) (sPr m n bot) (w.setCell ⟨n, 6, none⟩ (.float .f64 18442240474082181119))) := by
    have h0 : Cs w q A sz (.pointer (some ⟨x, 0, none⟩)) m w := ⟨h.ms, hq0, h.qA, Only.refl _ _⟩
    rw [← hfb]
    exact h0.write (p := ⟨n, 6, none⟩) HX.out.2.1 (h.ms.sPr HX.out.2.1 (Or.inl rfl))
  have HFB := Lib.hid hfb
  clear h hn hmk hxL hxmin hfb hq0 hsz
  go_enter Try.func27, Try.ntmps27
  go_upto_region 1 with (fail)
  generalize w.setCell ⟨n, 6, none⟩ (.float .f64 18442240474082181119) = wa at H1 ⊢
  clear b5 b6 f6
  have b6 : wa.cell? ⟨n, 6, none⟩ = some (.float .f64 18442240474082181119) := by have h := H1.out.ms.c6 HX.out.2.1; rw [sPr_pr, if_pos rfl, HFB.out] at h; exact h
  cases hpa : (m n).pa with
  | none =>
    have b5 : wa.cell? ⟨n, 5, none⟩ = some (.pointer none) := by have h := H1.out.ms.c5 HX.out.2.1; rw [sPr_pa, hpa] at h; exact h
    have HPA := Lib.hid hpa
    clear hpa
    go_quiet (fail)
    go_upto_region 3 with (fail)
    have H2 : Hid (Cs w q A sz (.pointer (some ⟨x, 0, none⟩)) (sPr m n bot) (wa.drewN nq) ∧ x ∈ A ∧ (sPr m n bot n).pr = bot ∧ (∀ y, y ≠ n → (sPr m n bot y).pr = (m y).pr) ∧ HS (sPr m n bot) (some n) L) :=
      ⟨H1.out.drewN nq, HX.out.1, by simp, fun y hy => by rw [sPr_pr, if_neg hy], low_root HF.out.hs HX.out.2.2 HPA.out HB.out⟩
    generalize wa.drewN nq = wb at H2 ⊢
    generalize sPr m n bot = mm at H2
    clear b5 b6
    have HQ := Lib.hid (H2.out.1.min (.pointer (some ⟨n, 0, none⟩)))
    have d6 : wb.cell? ⟨n, 6, none⟩ = some (.float .f64 18442240474082181119) := by have h := H2.out.1.ms.c6 HX.out.2.1; rw [H2.out.2.2.1, HFB.out] at h; exact h
    have dy := H2.out.1.ms.c6 H2.out.2.1
    have d0 : wb.cell? ⟨q, 0, none⟩ = some (.pointer (some ⟨x, 0, none⟩)) := H2.out.1.blk.cell rfl
    have f0 := H2.out.1.blk.free
    have hb1 : (FloatKind.f64.format.order 18442240474082181119 (FH.fb (mm x).pr) == some .lt || FloatKind.f64.format.order 18442240474082181119 (FH.fb (mm x).pr) == some .eq) = true := by
      have h := leq_fb (p := bot) (q := (mm x).pr) (Or.inl rfl) (H2.out.1.ms.pr _ H2.out.2.1)
      rw [HFB.out] at h
      rw [h]
      exact decide_eq_true (pri_bot (H2.out.1.ms.pr _ H2.out.2.1))
    go_quiet (fail)
    go_wp2_with fail
    go_end0
    exact ⟨rfl, _, ⟨(H2.out.1.drewN _).min (.pointer (some ⟨n, 0, none⟩)) |>.ms, by rw [← HSZ.out]; exact ((H2.out.1.drewN _).min (.pointer (some ⟨n, 0, none⟩))).blk, H2.out.1.qA, H2.out.2.2.2.2, HF.out.sub, HF.out.len⟩, H2.out.2.2.1, H2.out.2.2.2.1, ((H2.out.1.drewN _).min (.pointer (some ⟨n, 0, none⟩))).only⟩
  | some p =>
    obtain ⟨hpL, hnp, hd1, hd2, hpv, hmx⟩ := cuttable HF.out.hs HX.out.2.2 hpa
    have HCU : Hid (p ∈ A ∧ (m p).pr = (sPr m n bot p).pr) := ⟨HF.out.sub p hpL, by rw [sPr_pr, if_neg (fun e => hnp e.symm)]⟩
    have b5 : wa.cell? ⟨n, 5, none⟩ = some (.pointer (some ⟨p, 0, none⟩)) := by have h := H1.out.ms.c5 HX.out.2.1; rw [sPr_pa, hpa] at h; exact h
    have bp : wa.cell? ⟨p, 6, none⟩ = some (.float .f64 (fb (m p).pr)) := by rw [HCU.out.2]; exact H1.out.ms.c6 HCU.out.1
    have HCT : Hid (∀ W, Cs w q A sz (.pointer (some ⟨x, 0, none⟩)) (sPr m n bot) W → Calls Try.prog 28 #[.pointer (some ⟨q, 0, none⟩), .pointer (some ⟨n, 0, none⟩)] W fun e w' => e = .returned (.tuple #[]) ∧ Cs W q A sz (optp (mgOH (cutA (sPr m n bot) n p) (some x) (some n))) (cutM (sPr m n bot) (some x) n p) w') := fun W hW => by
      refine cut_any hW.ms hW.blk hW.qA HX.out.2.1 (by rw [sPr_pa]; exact hpa) hnp (by rw [sPr_mk]; exact HMK.out p) (by rw [sPr_deg]; exact hd1) (by rw [sPr_deg]; exact Nat.le_trans hd2 HF.out.len) (by rw [sPr_nx, sPr_pv]; exact hpv) (fun y e => by cases e; exact HX.out.1) (fun y e => ?_)
      obtain ⟨h1, h2⟩ := hmx y e
      refine ⟨h1, ?_⟩
      have e3 : (cutA (sPr m n bot) n p y).nx = (cutA m n p y).nx := by
        unfold cutA
        by_cases h1 : (m p).ch = some n <;> by_cases h2 : (m n).nx = n <;> simp [h1, h2, out1, out1H, dl_nx]
      rw [e3]; exact h2
    have HMC : Hid (∃ y, mgOH (cutA (sPr m n bot) n p) (some x) (some n) = some y ∧ y ∈ A) := by
      cases hh : mgOH (cutA (sPr m n bot) n p) (some x) (some n) with
      | none => simp [mgOH] at hh
      | some y => exact ⟨y, rfl, mgOH_mem_of (A := A) (fun c e => by cases e; exact HX.out.1) HX.out.2.1 y hh⟩
    have HPA := Lib.hid hpa
    have hb0 : (FloatKind.f64.format.order 18442240474082181119 (FH.fb (m p).pr) == some .lt || FloatKind.f64.format.order 18442240474082181119 (FH.fb (m p).pr) == some .eq) = true := by
      have hpp := HF.out.ms.pr p HCU.out.1
      have h := leq_fb (p := bot) (q := (m p).pr) (Or.inl rfl) hpp
      rw [HFB.out] at h
      rw [h]
      exact decide_eq_true (pri_bot hpp)
    clear hpa hpL hnp hd1 hd2 hpv hmx
    go_quiet (fail)
    go_wp2_with fail
    refine (HCT.out _ (H1.out.drewN nq)).mono ?_
    rintro e wb ⟨rfl, hc⟩
    obtain ⟨y, hy, hyA⟩ := HMC.out
    rw [hy] at hc
    have hcm : ∀ z, (cutM (sPr m n bot) (some x) n p z).pr = (sPr m n bot z).pr := fun z => by
      unfold cutM cutA
      by_cases h1 : (m p).ch = some n <;> simp [h1]
    have H2 : Hid (Cs w q A sz (.pointer (some ⟨y, 0, none⟩)) (cutM (sPr m n bot) (some x) n p) wb ∧ y ∈ A ∧ (cutM (sPr m n bot) (some x) n p n).pr = bot ∧ (∀ y, y ≠ n → (cutM (sPr m n bot) (some x) n p y).pr = (m y).pr) ∧ HS (cutM (sPr m n bot) (some x) n p) (some n) L) :=
      ⟨⟨hc.ms, hc.blk, hc.qA, (H1.out.drewN nq).only.trans hc.only⟩, hyA, by rw [hcm]; simp, fun y hy => by rw [hcm, sPr_pr, if_neg hy], low_cut HF.out.hs HX.out.2.2 HPA.out HB.out⟩
    generalize cutM (sPr m n bot) (some x) n p = mm at H2
    clear b5 b6 bp hc hy hyA hcm hb0
    go_upto_region 3 with (fail)
    have HQ := Lib.hid (H2.out.1.min (.pointer (some ⟨n, 0, none⟩)))
    have d6 : wb.cell? ⟨n, 6, none⟩ = some (.float .f64 18442240474082181119) := by have h := H2.out.1.ms.c6 HX.out.2.1; rw [H2.out.2.2.1, HFB.out] at h; exact h
    have dy := H2.out.1.ms.c6 H2.out.2.1
    have d0 : wb.cell? ⟨q, 0, none⟩ = some (.pointer (some ⟨y, 0, none⟩)) := H2.out.1.blk.cell rfl
    have f0 := H2.out.1.blk.free
    have hb1 : (FloatKind.f64.format.order 18442240474082181119 (FH.fb (mm y).pr) == some .lt || FloatKind.f64.format.order 18442240474082181119 (FH.fb (mm y).pr) == some .eq) = true := by
      have h := leq_fb (p := bot) (q := (mm y).pr) (Or.inl rfl) (H2.out.1.ms.pr _ H2.out.2.1)
      rw [HFB.out] at h
      rw [h]
      exact decide_eq_true (pri_bot (H2.out.1.ms.pr _ H2.out.2.1))
    go_quiet (fail)
    go_wp2_with fail
    go_end0
    exact ⟨rfl, _, ⟨(H2.out.1.drewN _).min (.pointer (some ⟨n, 0, none⟩)) |>.ms, by rw [← HSZ.out]; exact ((H2.out.1.drewN _).min (.pointer (some ⟨n, 0, none⟩))).blk, H2.out.1.qA, H2.out.2.2.2.2, HF.out.sub, HF.out.len⟩, H2.out.2.2.1, H2.out.2.2.2.1, ((H2.out.1.drewN _).min (.pointer (some ⟨n, 0, none⟩))).only⟩
end FH
end Go.Proofs.Ytalphojbkeleiaa
