/- A node cut off its parent, its priority made the least: cutNode, decreaseKeyUnchecked, Delete. -/
import Derived.Test.YtalphojbkeleiaaH5
namespace Go.Proofs.Ytalphojbkeleiaa
namespace FH
open Go.RowKit

/-- The heap's own block beside the entries. -/
structure Cs (w0 : World) (q : Nat) (A : List Nat) (sz : Nat) (v : Value) (mm : Mem) (w : World) : Prop where
  ms : Ms w A mm
  blk : Blk w q #[v, .int .u64 (sz : Nat)] 43
  qA : q ∉ A
  only : Only (q :: A) w0 w
section
variable {w0 w w' : World} {q sz : Nat} {A : List Nat} {v : Value} {mm mm' : Mem}
theorem Cs.write (s : Cs w0 q A sz v mm w) {p : Addr} (hp : p.block ∈ A) {u : Value} (hm : Ms (w.setCell p u) A mm') : Cs w0 q A sz v mm' (w.setCell p u) :=
  ⟨hm, s.blk.other (fun e => s.qA (e ▸ hp)) _, s.qA, s.only.setCell (Or.inl (List.mem_cons_of_mem _ hp)) _⟩
theorem Cs.min (s : Cs w0 q A sz v mm w) (v' : Value) : Cs w0 q A sz v' mm (w.setCell ⟨q, 0, none⟩ v') :=
  ⟨s.ms.other s.qA _, s.blk.set 0 _, s.qA, s.only.setCell (Or.inl (by simp)) _⟩
theorem Cs.drew (s : Cs w0 q A sz v mm w) : Cs w0 q A sz v mm w.drew := ⟨s.ms.drew, s.blk, s.qA, s.only.drew⟩
theorem Cs.drewN (s : Cs w0 q A sz v mm w) (i : Nat) : Cs w0 q A sz v mm (w.drewN i) := ⟨{ s.ms with blk := s.ms.blk }, s.blk, s.qA, s.only.drewN i⟩
theorem Cs.call (s : Cs w0 q A sz v mm w) (ho : Only A w w') (hm : Ms w' A mm') : Cs w0 q A sz v mm' w' :=
  ⟨hm, s.blk.only ho s.qA, s.qA, s.only.trans (ho.mono (fun k _ hk => List.mem_cons_of_mem _ hk))⟩
end
theorem eql_nil_ptr (w : World) (a : Addr) : (binOp .eql 40 (.pointer none) (.pointer (some a))).run Try.prog w = .ok (.bool false) w := by
  have h : ∀ d : Nat, (Op.equalIn (d + 1) 40 (.pointer none) (.pointer (some a))).run Try.prog w = .ok false w := fun d => by
    simp [Op.equalIn, run_underlying Try.underlying40]
  simp only [binOp]
  simp [Op.equal, Op.maxDepth, h 9999]
theorem Ms.sDeg1 {w : World} {A : List Nat} {m : Mem} {a d : Nat} (h : Ms w A m) (ha : a ∈ A) (hd : 1 ≤ d) : Ms (w.setCell ⟨a, 0, none⟩ (.int .i64 ((d : Int) - 1))) A (FH.sDeg m a (d - 1)) := by
  have e : ((d - 1 : Nat) : Int) = (d : Int) - 1 := by omega
  rw [← e]
  exact h.sDeg ha (d - 1)
set_option maxRecDepth 100000 in
set_option maxHeartbeats 8000000 in
theorem cut_any {w : World} {q sz n p : Nat} {A : List Nat} {mm : Mem} {hm : Option Nat} (h : Ms w A mm) (hb : Blk w q #[optp hm, .int .u64 (sz : Nat)] 43) (hq : q ∉ A) (hn : n ∈ A) (hp : (mm n).pa = some p) (hne : n ≠ p)
    (hmk : (mm p).mkd = false) (hd1 : 1 ≤ (mm p).deg) (hd2 : (mm p).deg ≤ 1000) (hpv : (mm n).nx ≠ n → (mm n).pv ≠ n) (hmA : ∀ x, hm = some x → x ∈ A) (hmx : ∀ x, hm = some x → x ≠ n ∧ (cutA mm n p x).nx ≠ n) :
    Calls Try.prog 28 #[.pointer (some ⟨q, 0, none⟩), .pointer (some ⟨n, 0, none⟩)] w fun e w' => e = .returned (.tuple #[]) ∧ Cs w q A sz (optp (mgOH (cutA mm n p) hm (some n))) (cutM mm hm n p) w' := by
  have H0 : Hid (Cs w q A sz (optp hm) mm w) := ⟨h, hb, hq, Only.refl _ _⟩
  have KN := Lib.hid hn
  have KP : Hid (p ∈ A) := h.pa n hn p hp
  have HP := Lib.hid hp
  have HMK := Lib.hid hmk
  have HD : Hid (1 ≤ (mm p).deg ∧ (mm p).deg ≤ 1000) := ⟨hd1, hd2⟩
  have HPV := Lib.hid hpv
  have HMA := Lib.hid hmA
  have HMX := Lib.hid hmx
  have hne' : ¬ p = n := fun e => hne e.symm
  have HNE : Hid (¬ n = p ∧ ¬ p = n) := ⟨hne, hne'⟩
  clear h hb hq hn hp hmk hd1 hd2 hpv hmA hmx hne hne'
  obtain ⟨z, hz⟩ := optp_ptr hm
  have HZ := Lib.hid hz
  clear hz
  have c1 := H0.out.ms.c1 KN.out
  have c5 : w.cell? ⟨n, 5, none⟩ = some (.pointer (some ⟨p, 0, none⟩)) := by have h := H0.out.ms.c5 KN.out; rw [HP.out] at h; exact h
  have fn := H0.out.ms.free KN.out
  obtain ⟨m1, hm1⟩ : ∃ m1, m1 = sMkd mm n false := ⟨_, rfl⟩
  have HM1 := Lib.hid hm1
  have H1 : Hid (Cs w q A sz (optp hm) m1 (w.setCell ⟨n, 1, none⟩ (.bool false))) := by rw [hm1]; exact H0.out.write (p := ⟨n, 1, none⟩) KN.out (H0.out.ms.sMkd KN.out false)
  clear hm1
  go_enter Try.func28, Try.ntmps28
  go_upto_region 2 with (fail)
  generalize w.setCell ⟨n, 1, none⟩ (.bool false) = wa at H1 ⊢
  clear c1 c5 fn
  obtain ⟨N, hN⟩ : ∃ N, N = (m1 n).nx := ⟨_, rfl⟩
  obtain ⟨P, hP⟩ : ∃ P, P = (m1 n).pv := ⟨_, rfl⟩
  have HNP : Hid (N = (m1 n).nx ∧ P = (m1 n).pv ∧ N ∈ A ∧ P ∈ A ∧ (N ≠ n → P ≠ n)) := by
    refine ⟨hN, hP, by rw [hN]; exact H1.out.ms.nx n KN.out, by rw [hP]; exact H1.out.ms.pv n KN.out, ?_⟩
    rw [hN, hP, HM1.out, sMkd_nx, sMkd_pv]; exact HPV.out
  clear hN hP
  have b2 : wa.cell? ⟨n, 2, none⟩ = some (.pointer (some ⟨N, 0, none⟩)) := by rw [HNP.out.1]; exact H1.out.ms.c2 KN.out
  have b3 : wa.cell? ⟨n, 3, none⟩ = some (.pointer (some ⟨P, 0, none⟩)) := by rw [HNP.out.2.1]; exact H1.out.ms.c3 KN.out
  obtain ⟨bn, hbn⟩ : ∃ bn, bn = decide (N = n) := ⟨_, rfl⟩
  have hpe : (binOp .neq 40 (.pointer (some ⟨N, 0, none⟩)) (.pointer (some ⟨n, 0, none⟩))).run Try.prog wa = .ok (.bool (!bn)) wa := by rw [hbn]; exact neq_ptr H1.out.ms (a := N) (b := n) HNP.out.2.2.1 KN.out
  have HBN := Lib.hid hbn
  clear hbn
  go_upto_if 17 with (fail)
  clear hpe
  go_cut [] from 17 to 37 (fun wx => Cs w q A sz (optp hm) (out1 m1 n) wx)
  case first =>
    cases bn with
    | true =>
      have HNX := Lib.hid (of_decide_eq_true (p := N = n) HBN.out.symm)
      go_wp2_with fail
      go_meet
      rw [(out1_pos (m := m1) (x := n) (by rw [← HNP.out.1]; exact HNX.out)).1]
      exact H1.out
    | false =>
      have HNX := Lib.hid (of_decide_eq_false (p := N = n) HBN.out.symm)
      go_wp2_with fail
      go_still_tail 10, (by kernel_rfl)
      change wpList _ _ _ _ _ wa.drew
      have HP2 := Lib.hid H1.out.drew
      generalize wa.drew = wy at HP2 ⊢
      clear b2 b3
      have b3 := HP2.out.ms.c3 HNP.out.2.2.1
      have f3 := HP2.out.ms.free HNP.out.2.2.1
      have HP3 : Hid (Cs w q A sz (optp hm) (sPv m1 N P) (wy.setCell ⟨N, 3, none⟩ (.pointer (some ⟨P, 0, none⟩)))) := HP2.out.write (p := ⟨N, 3, none⟩) HNP.out.2.2.1 (HP2.out.ms.sPv HNP.out.2.2.1 HNP.out.2.2.2.1)
      go_upto_region 4 with (fail)
      generalize wy.setCell ⟨N, 3, none⟩ (.pointer (some ⟨P, 0, none⟩)) = wz at HP3 ⊢
      clear b3 f3
      have b2 : wz.cell? ⟨n, 2, none⟩ = some (.pointer (some ⟨N, 0, none⟩)) := by rw [HNP.out.1]; have h := HP3.out.ms.c2 KN.out; simpa using h
      have b3 : wz.cell? ⟨n, 3, none⟩ = some (.pointer (some ⟨P, 0, none⟩)) := by
        have h := HP3.out.ms.c3 KN.out
        rw [sPv_pv, if_neg (fun e => HNX.out e.symm), ← HNP.out.2.1] at h
        exact h
      go_still_tail 10, (by kernel_rfl)
      change wpList _ _ _ _ _ wz.drew
      have HP4 := Lib.hid HP3.out.drew
      generalize wz.drew = wy2 at HP4 ⊢
      clear b2 b3
      have b2 := HP4.out.ms.c2 HNP.out.2.2.2.1
      have f2 := HP4.out.ms.free HNP.out.2.2.2.1
      have HP5 : Hid (Cs w q A sz (optp hm) (out1 m1 n) (wy2.setCell ⟨P, 2, none⟩ (.pointer (some ⟨N, 0, none⟩)))) := by
        have h := HP4.out.write (p := ⟨P, 2, none⟩) HNP.out.2.2.2.1 (HP4.out.ms.sNx HNP.out.2.2.2.1 HNP.out.2.2.1)
        rw [(out1_neg (m := m1) (x := n) (by rw [← HNP.out.1]; exact HNX.out)).1]
        unfold dl
        rw [← HNP.out.1, ← HNP.out.2.1]
        exact h
      go_wp2_with fail
      go_meet
      exact HP5.out
  case rest =>
  have H2 := Lib.hid hcut
  clear hcut b2 b3
  obtain ⟨m2, hm2⟩ : ∃ m2, m2 = out1 m1 n := ⟨_, rfl⟩
  rw [← hm2] at H2
  have HM2 := Lib.hid hm2
  clear hm2
  have HPA : Hid ((m2 n).pa = some p ∧ (m2 p).ch = (mm p).ch ∧ (m2 p).deg = (mm p).deg ∧ (∀ y, (m2 y).mkd = (m1 y).mkd) ∧ (∀ y, (m2 y).pa = (mm y).pa) ∧ (m2 n).nx = N) := by
    refine ⟨by rw [HM2.out, HM1.out]; simp; exact HP.out, by rw [HM2.out, HM1.out]; simp, by rw [HM2.out, HM1.out]; simp, fun y => by rw [HM2.out]; simp, fun y => by rw [HM2.out, HM1.out]; simp, ?_⟩
    rw [HM2.out, HNP.out.1]
    unfold out1
    split
    · rfl
    · rename_i e
      rw [dl_nx, if_neg]
      intro e2
      exact HNP.out.2.2.2.2 (by rw [HNP.out.1]; exact e) (by rw [HNP.out.2.1]; exact e2.symm)
  have b5 : wc.cell? ⟨n, 5, none⟩ = some (.pointer (some ⟨p, 0, none⟩)) := by have h := H2.out.ms.c5 KN.out; rw [HPA.out.1] at h; exact h
  obtain ⟨zc, hzc⟩ := optp_ptr (mm p).ch
  have b4 : wc.cell? ⟨p, 4, none⟩ = some (.pointer zc) := by have h := H2.out.ms.c4 KP.out; rw [HPA.out.2.1, hzc] at h; exact h
  obtain ⟨bc, hbc⟩ : ∃ bc, bc = decide ((mm p).ch = some n) := ⟨_, rfl⟩
  have hpe : (binOp .eql 40 (.pointer zc) (.pointer (some ⟨n, 0, none⟩))).run Try.prog wc = .ok (.bool bc) wc := by
    cases hch : (mm p).ch with
    | none =>
      rw [hch] at hzc hbc
      obtain rfl : none = zc := by simpa [optp] using hzc
      obtain rfl : bc = false := by rw [hbc]; rfl
      exact eql_nil_ptr wc ⟨n, 0, none⟩
    | some c =>
      rw [hch] at hzc hbc
      obtain rfl : some ⟨c, 0, none⟩ = zc := by simpa [optp, ptr] using hzc
      have hcA : c ∈ A := H0.out.ms.ch p KP.out c hch
      have h := eql_ptr H2.out.ms (a := c) (b := n) hcA KN.out
      rw [h, hbc]
      simp
  have HBC := Lib.hid hbc
  clear hbc hzc
  go_upto_if 46 with (fail)
  clear hpe b4
  obtain ⟨m3, hm3⟩ : ∃ m3, m3 = if (mm p).ch = some n then sCh m2 p (out1H mm n) else m2 := ⟨_, rfl⟩
  have HM3 := Lib.hid hm3
  clear hm3
  go_cut [] from 46 to 68 (fun wx => Cs w q A sz (optp hm) m3 wx)
  case first =>
    cases bc with
    | false =>
      have HCH := Lib.hid (of_decide_eq_false (p := (mm p).ch = some n) HBC.out.symm)
      go_wp2_with fail
      go_meet
      rw [HM3.out, if_neg HCH.out]
      exact H2.out
    | true =>
      have HCH := Lib.hid (of_decide_eq_true (p := (mm p).ch = some n) HBC.out.symm)
      have b2 : wc.cell? ⟨n, 2, none⟩ = some (.pointer (some ⟨N, 0, none⟩)) := by have h := H2.out.ms.c2 KN.out; rw [HPA.out.2.2.2.2.2] at h; exact h
      have b4 := H2.out.ms.c4 KP.out
      have f4 := H2.out.ms.free KP.out
      have hpe : (binOp .neq 40 (.pointer (some ⟨N, 0, none⟩)) (.pointer (some ⟨n, 0, none⟩))).run Try.prog wc = .ok (.bool (!bn)) wc := by rw [HBN.out]; exact neq_ptr H2.out.ms (a := N) (b := n) HNP.out.2.2.1 KN.out
      have e1 : (mm n).nx = N := by rw [HNP.out.1, HM1.out, sMkd_nx]
      have HE1 := Lib.hid e1
      clear e1
      cases bn with
      | true =>
        have HNX := Lib.hid (of_decide_eq_true (p := N = n) HBN.out.symm)
        have HP3 : Hid (Cs w q A sz (optp hm) m3 (wc.setCell ⟨p, 4, none⟩ (.pointer none))) := by
          have e2 : out1H mm n = none := (out1_pos (by rw [HE1.out]; exact HNX.out)).2
          rw [HM3.out, if_pos HCH.out, e2]
          exact H2.out.write (p := ⟨p, 4, none⟩) KP.out (H2.out.ms.sCh (v := none) KP.out (by simp))
        go_wp2_with fail
        go_meet
        exact HP3.out
      | false =>
        have HNX := Lib.hid (of_decide_eq_false (p := N = n) HBN.out.symm)
        have e2 : out1H mm n = some N := by rw [(out1_neg (m := mm) (x := n) (by rw [HE1.out]; exact HNX.out)).2, HE1.out]
        have HE2 := Lib.hid e2
        clear e2
        go_wp2_with fail
        go_still_tail 10, (by kernel_rfl)
        change wpList _ _ _ _ _ wc.drew
        have HP2 := Lib.hid H2.out.drew
        generalize wc.drew = wy at HP2 ⊢
        clear b2 b4 f4 hpe b5
        have b4 := HP2.out.ms.c4 KP.out
        have f4 := HP2.out.ms.free KP.out
        have HP3 : Hid (Cs w q A sz (optp hm) m3 (wy.setCell ⟨p, 4, none⟩ (.pointer (some ⟨N, 0, none⟩)))) := by
          rw [HM3.out, if_pos HCH.out, HE2.out]
          exact HP2.out.write (p := ⟨p, 4, none⟩) KP.out (HP2.out.ms.sCh (v := some N) KP.out (fun c e => by cases e; exact HNP.out.2.2.1))
        go_wp2_with fail
        go_meet
        exact HP3.out
  case rest =>
  have H3 := Lib.hid hcut
  clear hcut b5
  have HQA : Hid ((m3 n).pa = some p ∧ (m3 p).deg = (mm p).deg ∧ (∀ y, (m3 y).mkd = (m1 y).mkd) ∧ (∀ y, (m3 y).pa = (mm y).pa)) := by
    refine ⟨?_, ?_, fun y => ?_, fun y => ?_⟩
    · rw [HM3.out]; split <;> simp [HPA.out.1]
    · rw [HM3.out]; split <;> simp [HPA.out.2.2.1]
    · rw [HM3.out]; split <;> simp [HPA.out.2.2.2.1]
    · rw [HM3.out]; split <;> simp [HPA.out.2.2.2.2.1]
  obtain ⟨d, hd⟩ : ∃ d, d = (mm p).deg := ⟨_, rfl⟩
  have HDD := Lib.hid hd
  clear hd
  have d1 : 1 ≤ d := by rw [HDD.out]; exact HD.out.1
  have d2 : d ≤ 1000 := by rw [HDD.out]; exact HD.out.2
  have b5 : wc.cell? ⟨n, 5, none⟩ = some (.pointer (some ⟨p, 0, none⟩)) := by have h := H3.out.ms.c5 KN.out; rw [HQA.out.1] at h; exact h
  have b0 : wc.cell? ⟨p, 0, none⟩ = some (.int .i64 (d : Nat)) := by have h := H3.out.ms.c0 KP.out; rw [HQA.out.2.1, ← HDD.out] at h; exact h
  have f0 := H3.out.ms.free KP.out
  have H4 : Hid (Cs w q A sz (optp hm) (sDeg m3 p (d - 1)) (wc.setCell ⟨p, 0, none⟩ (.int .i64 ((d : Int) - 1)))) := H3.out.write (p := ⟨p, 0, none⟩) KP.out (H3.out.ms.sDeg1 KP.out d1)
  go_upto_region 10 with (fail)
  generalize wc.setCell ⟨p, 0, none⟩ (.int .i64 ((d : Int) - 1)) = wd at H4 ⊢
  clear b5 b0 f0
  have b2 := H4.out.ms.c2 KN.out
  have b3 := H4.out.ms.c3 KN.out
  have f2 := H4.out.ms.free KN.out
  have HCA : Hid (cutA mm n p = sNx (sPv (sDeg m3 p (d - 1)) n n) n n) := by
    rw [HM3.out, HM2.out, HM1.out, HDD.out]
    rfl
  have H5 : Hid (Cs w q A sz (optp hm) (cutA mm n p) ((wd.setCell ⟨n, 3, none⟩ (.pointer (some ⟨n, 0, none⟩))).setCell ⟨n, 2, none⟩ (.pointer (some ⟨n, 0, none⟩)))) := by
    rw [HCA.out]
    have h := H4.out.write (p := ⟨n, 3, none⟩) KN.out (H4.out.ms.sPv KN.out KN.out)
    exact h.write (p := ⟨n, 2, none⟩) KN.out (h.ms.sNx KN.out KN.out)
  go_upto_region 12 with (fail)
  generalize (wd.setCell ⟨n, 3, none⟩ (.pointer (some ⟨n, 0, none⟩))).setCell ⟨n, 2, none⟩ (.pointer (some ⟨n, 0, none⟩)) = we at H5 ⊢
  clear b2 b3 f2
  obtain ⟨zh, hzh⟩ := optp_ptr (mgOH (cutA mm n p) hm (some n))
  have b0 : we.cell? ⟨q, 0, none⟩ = some (.pointer z) := by rw [← HZ.out]; exact H5.out.blk.cell rfl
  have HMG : Hid (Calls Try.prog 25 #[.pointer z, .pointer (some ⟨n, 0, none⟩)] we fun e w' => e = .returned (.pointer zh) ∧ Ms w' A (mgO (cutA mm n p) hm (some n)) ∧ Only A we w') := by
    rw [← HZ.out, ← hzh]
    refine merge_any H5.out.ms (a := hm) (b := some n) HMA.out (fun c e => by cases e; exact KN.out) (fun x y e1 e2 => ?_)
    cases e2
    obtain ⟨h1, h2⟩ := HMX.out x e1
    refine ⟨h1, ?_⟩
    have e3 : (cutA mm n p n).nx = n := by rw [HCA.out]; simp
    rw [e3]
    exact h2
  have HZH := Lib.hid hzh
  clear hzh
  go_wp2_with fail
  refine HMG.out.mono ?_
  rintro e wf ⟨rfl, hv1, ho1⟩
  have H6 := Lib.hid (H5.out.call ho1 hv1)
  clear hv1 ho1 b0
  have b0 : wf.cell? ⟨q, 0, none⟩ = some (optp hm) := H6.out.blk.cell rfl
  have f0 := H6.out.blk.free
  have H7 := Lib.hid (H6.out.min (.pointer zh))
  go_upto_region 13 with (fail)
  generalize wf.setCell ⟨q, 0, none⟩ (.pointer zh) = wg at H7 ⊢
  clear b0 f0
  have HCP : Hid ((mgO (cutA mm n p) hm (some n) n).pa = some p ∧ (mgO (cutA mm n p) hm (some n) p).mkd = false) := by
    rw [mgO_pa, mgO_mkd, HCA.out]
    simp
    rw [HQA.out.2.2.1, HM1.out, sMkd_mk, if_neg HNE.out.2]
    exact ⟨HQA.out.1, HMK.out⟩
  have b5 : wg.cell? ⟨n, 5, none⟩ = some (.pointer (some ⟨p, 0, none⟩)) := by have h := H7.out.ms.c5 KN.out; rw [HCP.out.1] at h; exact h
  have b1 : wg.cell? ⟨p, 1, none⟩ = some (.bool false) := by have h := H7.out.ms.c1 KP.out; rw [HCP.out.2] at h; exact h
  have fp := H7.out.ms.free KP.out
  have fn := H7.out.ms.free KN.out
  have hnp : ¬ n = p := HNE.out.1
  have hpn : ¬ p = n := HNE.out.2
  have H8 : Hid (Cs w q A sz (.pointer zh) (cutM mm hm n p) ((wg.setCell ⟨p, 1, none⟩ (.bool true)).setCell ⟨n, 5, none⟩ (.pointer none))) := by
    have h := H7.out.write (p := ⟨p, 1, none⟩) KP.out (H7.out.ms.sMkd KP.out true)
    exact h.write (p := ⟨n, 5, none⟩) KN.out (h.ms.sPa (v := none) KN.out (by simp))
  go_wp2_with fail
  go_end0
  rw [HZH.out]
  exact ⟨rfl, H8.out⟩
end FH
end Go.Proofs.Ytalphojbkeleiaa
