/- DequeueMin. -/
import Derived.Test.YtalphojbkeleiaaH4
import Derived.Test.YtalphojbkeleiaaH4r
namespace Go.Proofs.Ytalphojbkeleiaa
namespace FH
open Go.RowKit
set_option maxRecDepth 100000 in
set_option maxHeartbeats 8000000 in
theorem deq_any {w : World} {q : Nat} {A : List Nat} {m : Mem} {hm : Option Nat} {L : List Nat} (h : Fh w q A m hm L) (hL : L ≠ []) :
    Calls Try.prog 19 #[.pointer (some ⟨q, 0, none⟩)] w (Deq w q A m L) := by
  obtain ⟨x, rfl, hxL, hxmin⟩ := h.hs.some hL
  obtain ⟨hLnd, R, K, rk, hw, hRep, _⟩ := h.hs
  have hxR : x ∈ R := by
    obtain ⟨_, ⟨_, e⟩ | ⟨y, e, hy⟩⟩ := hRep
    · cases e
    · cases e; exact hy
  obtain ⟨n, hn⟩ : ∃ n, L.length = n + 1 := ⟨L.length - 1, by have := List.length_pos_iff.2 hL; omega⟩
  have hn1000 : n < 1000 := by have := h.len; omega
  have HF := Lib.hid h
  have HW : Hid (Wf m R K L rk ∧ L.Nodup ∧ x ∈ R ∧ x ∈ L ∧ (∀ b ∈ L, (m x).pr ≤ (m b).pr) ∧ L.length = n + 1) := ⟨hw, hLnd, hxR, hxL, hxmin, hn⟩
  have hq0 := h.blk
  rw [hn, show optp (some x) = .pointer (some ⟨x, 0, none⟩) from rfl] at hq0
  have KX := Lib.hid (h.sub x hxL)
  have hd : decide (n + 1 = 0) = false := by simp
  have z1 : IntKind.u64.wrap ((n : Int) + 1 - 1) = (n : Int) := by rw [IntKind.wrap_u64]; omega
  have z2 : IntKind.u64.wrap (n : Int) = (n : Int) := by rw [IntKind.wrap_u64]; omega
  have c0 : w.cell? ⟨q, 0, none⟩ = some (.pointer (some ⟨x, 0, none⟩)) := hq0.cell rfl
  have c1 : w.cell? ⟨q, 1, none⟩ = some (.int .u64 ((n : Int) + 1)) := hq0.cell rfl
  have f0 := hq0.free
  have H1 : Hid (Ms (w.setCell ⟨q, 1, none⟩ (.int .u64 (n : Int))) A m ∧ Blk (w.setCell ⟨q, 1, none⟩ (.int .u64 (n : Int))) q #[.pointer (some ⟨x, 0, none⟩), .int .u64 (n : Int)] 43 ∧ Only (q :: A) w (w.setCell ⟨q, 1, none⟩ (.int .u64 (n : Int)))) := by
    exact ⟨h.ms.other h.qA _, hq0.set 1 _, (Only.refl _ _).setCell (Or.inl (by simp)) _⟩
  have HQ := Lib.hid h.qA
  clear h hL hxL hxmin hLnd hw hRep hxR hn
  go_enter Try.func19, Try.ntmps19
  go_wp2_with fail
  refine (isEmpty_any hq0).mono ?_
  rintro e w1 ⟨rfl, rfl⟩
  rw [hd]
  clear hd hq0
  obtain ⟨N, hN⟩ : ∃ N, N = (m x).nx := ⟨_, rfl⟩
  have c2 := HF.out.ms.c2 KX.out
  rw [← hN] at c2
  have HN := Lib.hid hN
  have KN : Hid (N ∈ A) := by rw [hN]; exact HF.out.ms.nx x KX.out
  clear hN
  have hpe := eql_ptr H1.out.1 (a := N) (b := x) KN.out KX.out
  go_upto_if 34 with (fail)
  generalize w1.setCell ⟨q, 1, none⟩ (.int .u64 (n : Int)) = w2 at H1 ⊢
  clear c0 c1 c2 f0
  go_cut [] from 34 to 79 (fun wx => Ms wx A (out1 m x) ∧ Blk wx q #[optp (out1H m x), .int .u64 (n : Int)] 43 ∧ Only (q :: A) w1 wx)
  case first =>
    have e0 : w2.cell? ⟨q, 0, none⟩ = some (.pointer (some ⟨x, 0, none⟩)) := H1.out.2.1.cell rfl
    have e1 := H1.out.2.1.free
    by_cases hnx : N = x
    · have hd1 : decide (N = x) = true := decide_eq_true hnx
      have H2 : Hid (Ms (w2.setCell ⟨q, 0, none⟩ (.pointer none)) A (out1 m x) ∧ Blk (w2.setCell ⟨q, 0, none⟩ (.pointer none)) q #[optp (out1H m x), .int .u64 (n : Int)] 43 ∧ Only (q :: A) w1 (w2.setCell ⟨q, 0, none⟩ (.pointer none))) := by
        obtain ⟨h1, h2⟩ := out1_pos (show (m x).nx = x by rw [← HN.out]; exact hnx)
        rw [h1, h2]
        exact ⟨H1.out.1.other HQ.out _, H1.out.2.1.set 0 _, H1.out.2.2.setCell (Or.inl (by simp)) _⟩
      go_wp2_with fail
      go_meet
      exact H2.out
    · have hd1 : decide (N = x) = false := decide_eq_false hnx
      obtain ⟨P, hP⟩ : ∃ P, P = (m x).pv := ⟨_, rfl⟩
      have KP : Hid (P ∈ A) := by rw [hP]; exact HF.out.ms.pv x KX.out
      have hPx : ¬ P = x := by
        rw [hP]
        exact HW.out.1.rring.single' HW.out.2.2.1 HW.out.1.rnd (by rw [← HN.out]; exact hnx)
      have hxP : ¬ x = P := fun e => hPx e.symm
      have hqP : ¬ q = P := fun e => HQ.out (e ▸ KP.out)
      have hPq : ¬ P = q := fun e => hqP e.symm
      have hqN : ¬ q = N := fun e => HQ.out (e ▸ KN.out)
      have hNq : ¬ N = q := fun e => hqN e.symm
      have hxN : ¬ x = N := fun e => hnx e.symm
      have c2 : w2.cell? ⟨x, 2, none⟩ = some (.pointer (some ⟨N, 0, none⟩)) := by rw [HN.out]; exact H1.out.1.c2 KX.out
      have c3 : w2.cell? ⟨x, 3, none⟩ = some (.pointer (some ⟨P, 0, none⟩)) := by rw [hP]; exact H1.out.1.c3 KX.out
      have p2 := H1.out.1.c2 KP.out
      have n3 := H1.out.1.c3 KN.out
      have fp := H1.out.1.free KP.out
      have fn := H1.out.1.free KN.out
      have H2 : ∀ W, W = (((w2.setCell ⟨P, 2, none⟩ (.pointer (some ⟨N, 0, none⟩))).setCell ⟨N, 3, none⟩ (.pointer (some ⟨P, 0, none⟩))).setCell ⟨q, 0, none⟩ (.pointer (some ⟨N, 0, none⟩))) → Ms W A (out1 m x) ∧ Blk W q #[optp (out1H m x), .int .u64 (n : Int)] 43 ∧ Only (q :: A) w1 W := by
        rintro W rfl
        obtain ⟨h1, h2⟩ := out1_neg (show (m x).nx ≠ x by rw [← HN.out]; exact hnx)
        rw [h1, h2, ← dl_comm, ← HN.out, ← hP]
        refine ⟨((H1.out.1.sNx KP.out KN.out).sPv KN.out KP.out).other HQ.out _, ?_, ((H1.out.2.2.setCell (Or.inl (List.mem_cons_of_mem _ KP.out)) _).setCell (Or.inl (List.mem_cons_of_mem _ KN.out)) _).setCell (Or.inl (by simp)) _⟩
        exact ((H1.out.2.1.other hPq _).other hNq _).set 0 _
      have H3 := Lib.hid H2
      clear H2 hP hpe
      go_wp2_with fail
      go_region
      go_wp2_with fail
      go_region
      go_wp2_with fail
      go_meet
      exact ⟨(H3.out _ rfl).1.drew.drew, (H3.out _ rfl).2.1, (H3.out _ rfl).2.2.drew.drew⟩
  case rest =>
  have HC := Lib.hid hcut
  clear hcut hpe
  obtain ⟨z, hz⟩ := optp_ptr (m x).ch
  have c4 : wc.cell? ⟨x, 4, none⟩ = some (.pointer z) := by rw [HC.out.1.c4 KX.out, out1_ch, hz]
  go_upto_if 84 with (fail)
  go_cut [] from 84 to 102 (fun wx => Ms wx A (clr (out1 m x) (K x)) ∧ Blk wx q #[optp (out1H m x), .int .u64 (n : Int)] 43 ∧ Only (q :: A) w1 wx)
  case first =>
    have hch := HW.out.1.kch x HW.out.2.2.2.1
    rw [hch] at hz
    cases hk : K x with
    | nil =>
      rw [hk] at hz
      obtain rfl : none = z := by simpa [optp] using hz
      go_wp2_with fail
      go_meet
      rw [hk, clr_nil]
      exact HC.out
    | cons c t =>
      rw [hk] at hz
      obtain rfl : some ⟨c, 0, none⟩ = z := by simpa [optp, ptr] using hz
      obtain ⟨l, hl⟩ : ∃ l, l = c :: t := ⟨_, rfl⟩
      have HKx : Hid (K x = l ∧ l = c :: t) := ⟨by rw [hk, hl], hl⟩
      have hl0 : l[0]? = some c := by rw [hl]; rfl
      have hnd : l.Nodup := by rw [← HKx.out.1]; exact HW.out.1.knd x HW.out.2.2.2.1
      have hring : Rg m l := by rw [← HKx.out.1]; exact HW.out.1.kring x HW.out.2.2.2.1
      have hlL : ∀ y ∈ l, y ∈ A ∧ y ∉ R := fun y hy => by
        rw [← HKx.out.1] at hy
        exact ⟨HF.out.sub y (HW.out.1.kL x HW.out.2.2.2.1 y hy).1, HW.out.1.root_kid HW.out.2.2.2.1 hy⟩
      have hpos : 0 < l.length := by rw [hl]; simp
      have hox := (out1_rep HW.out.1.rring HW.out.2.2.1 HW.out.1.rnd).2
      have HI : Hid (l[0]? = some c ∧ l.Nodup ∧ Rg m l ∧ (∀ y ∈ l, y ∈ A ∧ y ∉ R) ∧ 0 < l.length ∧ (∀ y, y ∉ R → (out1 m x y).nx = (m y).nx ∧ (out1 m x y).pv = (m y).pv)) := ⟨hl0, hnd, hring, hlL, hpos, hox⟩
      have HCH : Hid ((m x).ch = some c) := by rw [hch, hk]; rfl
      clear hl hz hk hl0 hnd hring hlL hpos hox hch
      go_wp2_with fail
      go_loopg [5, 6] l.length (fun g cv okv wr => ∃ (i d : Nat), i ≤ l.length ∧ g = l.length - i ∧ l[if i < l.length then i else 0]? = some d ∧ cv = .pointer (some ⟨d, 0, none⟩) ∧ okv = .bool (decide (i < l.length)) ∧ Hid (Ms wr A (clr (out1 m x) (l.take i)) ∧ Blk wr q #[optp (out1H m x), .int .u64 (n : Int)] 43 ∧ Only (q :: A) w1 wr))
      case atStart =>
        refine ⟨0, c, by omega, by omega, by rw [if_pos HI.out.2.2.2.2.1]; exact HI.out.1, rfl, by rw [decide_eq_true HI.out.2.2.2.2.1], ?_⟩
        rw [List.take_zero, clr_nil]
        exact HC.out
      case round =>
        obtain ⟨i, d, hi1, hg1, hd1, rfl, rfl, hR⟩ := hrel
        have HR : Hid (Ms wr A (clr (out1 m x) (l.take i)) ∧ Blk wr q #[optp (out1H m x), .int .u64 (n : Int)] 43 ∧ Only (q :: A) w1 wr) := hR
        clear hR
        by_cases hi : i < l.length
        · have hdec : decide (i < l.length) = true := decide_eq_true hi
          rw [if_pos hi] at hd1
          have hdl : d ∈ l := List.mem_of_getElem? hd1
          have KD : Hid (d ∈ A) := (HI.out.2.2.2.1 d hdl).1
          obtain ⟨e, he⟩ : ∃ e, e = (m d).nx := ⟨_, rfl⟩
          have KE : Hid (e ∈ A) := by rw [he]; exact (HI.out.2.2.2.1 _ (HI.out.2.2.1.next_mem hdl)).1
          have KC : Hid (c ∈ A) := (HI.out.2.2.2.1 c (List.mem_of_getElem? HI.out.1)).1
          have c2 : wr.cell? ⟨d, 2, none⟩ = some (.pointer (some ⟨e, 0, none⟩)) := by
            rw [HR.out.1.c2 KD.out, clr_nx, (HI.out.2.2.2.2.2 d (HI.out.2.2.2.1 d hdl).2).1, he]
          have c5 := HR.out.1.c5 KD.out
          have cx4 : wr.cell? ⟨x, 4, none⟩ = some (.pointer (some ⟨c, 0, none⟩)) := by rw [HR.out.1.c4 KX.out, clr_ch, out1_ch, HCH.out]; rfl
          have fd := HR.out.1.free KD.out
          have H5 : Hid (Ms (wr.setCell ⟨d, 5, none⟩ (.pointer none)) A (clr (out1 m x) (l.take (i + 1))) ∧ Blk (wr.setCell ⟨d, 5, none⟩ (.pointer none)) q #[optp (out1H m x), .int .u64 (n : Int)] 43 ∧ Only (q :: A) w1 (wr.setCell ⟨d, 5, none⟩ (.pointer none))) := by
            refine ⟨?_, HR.out.2.1.other (fun e => HQ.out (e ▸ KD.out)) _, HR.out.2.2.setCell (Or.inl (List.mem_cons_of_mem _ KD.out)) _⟩
            have h := HR.out.1.sPa KD.out (v := none) (by simp)
            rw [clr_snoc hd1] at h
            exact h
          have hpe := neq_ptr H5.out.1 (a := e) (b := c) KE.out KC.out
          have HN1 : Hid ((if i + 1 < l.length then l[i + 1]? else l[0]?) = some e ∧ decide (i + 1 < l.length) = !decide (e = c)) := by
            obtain ⟨h1, h2⟩ := HI.out.2.2.1.nth hd1
            rw [← he] at h1 h2
            by_cases hi2 : i + 1 < l.length
            · have h3 := h1 hi2
              have hne : e ≠ c := by
                rintro rfl
                have h4 := (List.getElem_inj (h₀ := hi2) (h₁ := HI.out.2.2.2.2.1) HI.out.2.1).1 (Option.some.inj ((List.getElem?_eq_getElem hi2).symm.trans (h3.trans (HI.out.1.symm.trans (List.getElem?_eq_getElem HI.out.2.2.2.2.1)))))
                omega
              rw [if_pos hi2, decide_eq_true hi2, decide_eq_false hne]
              exact ⟨h3, rfl⟩
            · have h3 := h2 (by omega)
              have hec : e = c := by
                have := h3.symm.trans HI.out.1
                exact Option.some.inj this
              rw [if_neg hi2, decide_eq_false hi2, decide_eq_true hec]
              exact ⟨h3, rfl⟩
          clear he hdl
          go_wp2_with fail
          go_roundg (l.length - (i + 1))
          case measure => omega
          case rel =>
            refine ⟨i + 1, e, by omega, rfl, ?_, rfl, ?_, H5.out⟩
            · rw [← HN1.out.1]
              split <;> rfl
            · rw [HN1.out.2]
        · have hdec : decide (i < l.length) = false := decide_eq_false hi
          go_wp2_with fail
          go_meet
          have hil : i = l.length := by omega
          rw [HKx.out.1]
          have h := HR.out
          rw [hil, List.take_length] at h
          exact h
  case rest =>
  have HC2 := Lib.hid hcut
  clear hcut c4 hz
  obtain ⟨U, hWU, hRU, hpU⟩ := HW.out.1.taken HW.out.2.2.1 HW.out.2.1
  obtain ⟨m2, hm2⟩ : ∃ m2, m2 = out2 m x (K x) := ⟨_, rfl⟩
  have HC3 : Hid (Ms wc A m2 ∧ Blk wc q #[optp (out1H m x), .int .u64 (n : Int)] 43 ∧ Only (q :: A) w1 wc) := by rw [hm2]; exact HC2.out
  have HA1 : Hid (∀ y, out1H m x = some y → y ∈ A) := fun y e => by
    obtain ⟨h1, _⟩ := out1_rep HW.out.1.rring HW.out.2.2.1 HW.out.1.rnd
    obtain ⟨_, ⟨_, h2⟩ | ⟨y', h2, h3⟩⟩ := h1
    · rw [e] at h2; cases h2
    · rw [e] at h2; cases h2
      exact HF.out.sub _ (HW.out.1.rL _ (List.mem_of_mem_erase h3)).1
  have HA2 : Hid (∀ y, (m x).ch = some y → y ∈ A) := fun y e => HF.out.ms.ch x KX.out y e
  have HNE : Hid (∀ y y', out1H m x = some y → (m x).ch = some y' → y ≠ y' ∧ (m2 y).nx ≠ (m2 y').nx) := fun y y' e1 e2 => by
    have hx1 : y ∈ R ∧ (m2 y).nx ∈ R := by
      obtain ⟨h1, _⟩ := out1_rep HW.out.1.rring HW.out.2.2.1 HW.out.1.rnd
      obtain ⟨hr, ⟨_, h2⟩ | ⟨y', h2, h3⟩⟩ := h1
      · rw [e1] at h2; cases h2
      · rw [e1] at h2; cases h2
        refine ⟨List.mem_of_mem_erase h3, ?_⟩
        rw [hm2, out2, clr_nx]
        exact List.mem_of_mem_erase (hr.next_mem h3)
    have hx2 : y' ∈ K x ∧ (m2 y').nx ∈ K x := by
      have hch := HW.out.1.kch x HW.out.2.2.2.1
      rw [e2] at hch
      have hy : y' ∈ K x := by
        cases hk : K x with
        | nil => rw [hk] at hch; cases hch
        | cons c t => rw [hk] at hch; simp at hch; simp [hch]
      refine ⟨hy, ?_⟩
      rw [hm2, out2, clr_nx]
      have h2 := (out1_rep HW.out.1.rring HW.out.2.2.1 HW.out.1.rnd).2 y' (HW.out.1.root_kid HW.out.2.2.2.1 hy)
      rw [h2.1]
      exact (HW.out.1.kring x HW.out.2.2.2.1).next_mem hy
    refine ⟨fun e => HW.out.1.root_kid HW.out.2.2.2.1 hx2.1 (e ▸ hx1.1), fun e => HW.out.1.root_kid HW.out.2.2.2.1 hx2.2 (e ▸ hx1.2)⟩
  obtain ⟨h3, hh3⟩ : ∃ h3, h3 = out3H m x (K x) := ⟨_, rfl⟩
  obtain ⟨m3, hm3⟩ : ∃ m3, m3 = out3 m x (K x) := ⟨_, rfl⟩
  have HU : Hid (Wf m3 U K (L.erase x) rk ∧ Rep m3 U h3 ∧ m3 = mgO m2 (out1H m x) (m x).ch ∧ h3 = mgOH m2 (out1H m x) (m x).ch ∧ (∀ y, (m3 y).pr = (m y).pr) ∧ (∀ y, (m3 y).mkd = (m y).mkd)) := by
    refine ⟨by rw [hm3]; exact hWU, by rw [hm3, hh3]; exact hRU, by rw [hm3, hm2]; rfl, by rw [hh3, hm2]; rfl, fun y => by rw [hm3]; simp [out3, out2], fun y => by rw [hm3]; simp [out3, out2]⟩
  obtain ⟨z0, hz0⟩ := optp_ptr (out1H m x)
  obtain ⟨z, hz⟩ := optp_ptr (m x).ch
  obtain ⟨z3, hz3⟩ := optp_ptr h3
  have hch2 : (m2 x).ch = (m x).ch := by rw [hm2]; simp [out2]
  have HM : Hid (∀ W, Ms W A m2 → Calls Try.prog 25 #[.pointer z0, .pointer z] W fun e w' => e = .returned (.pointer z3) ∧ Ms w' A m3 ∧ Only A W w') := fun W hW => by
    rw [← hz0, ← hz, ← hz3, HU.out.2.2.1, HU.out.2.2.2.1]
    exact merge_any hW HA1.out HA2.out HNE.out
  have HZ : Hid (optp h3 = .pointer z3) := hz3
  have c0 : wc.cell? ⟨q, 0, none⟩ = some (.pointer z0) := by rw [← hz0]; exact HC3.out.2.1.cell rfl
  have c4 : wc.cell? ⟨x, 4, none⟩ = some (.pointer z) := by rw [HC3.out.1.c4 KX.out, hch2, hz]
  have HQB : Hid (Blk wc q #[.pointer z0, .int .u64 (n : Int)] 43) := by rw [← hz0]; exact HC3.out.2.1
  have HC4 : Hid (optp (m3 x).ch = .pointer z) := by rw [HU.out.2.2.1, mgO_ch, hch2]; exact hz
  clear hWU hRU hpU hm2 hh3 hm3 hz0 hz hz3 hch2
  go_upto_region 13 with (fail)
  go_cut [] from 103 to 114 (fun wx => Ms wx A m3 ∧ Blk wx q #[.pointer z3, .int .u64 (n : Int)] 43 ∧ Only (q :: A) w1 wx)
  case first =>
    refine mreg_any _ _ _ _ _ _ _ _ _ _ _ _ _ _ _ _ _ _ _ _ _ _ _ _ _ _ _ _ _ _ _ _ _ _ _ _ _ _ _ _ _ _ _ _ _ _ _ _ _ _ _ _ _ _ _ _ _ _ _ _ _ _ _ _ _ _ _ _ _ _ _ _ _ _ _ _ _ _ _ _ _ _ _ _ _ _ _ _ _ _ _ _ _ _ _ _ _ _ _ _ _ _ _ _ _ _ _ _ _ _ _ _ _ _ _ _ _ _ _ _ _ _ _ _ _ _ _ _ _ _ _ _ _ _ _ _ _ _ _ _ _ _ _ _ _ _ _ _ _ _ _ _ _ _ _ _ _ _ _ _ _ _ _ _ _ _ _ _ _ _ _ _ _ _ _ _ _ _ _ _ _ _ _ _ _ _ _ _ _ _ _ _ _ _ _ _ _ _ _ _ _ _ _ _ _ _ _ _ _ _ _ _ _ _ _ _ _ _ _ _ _ _ _ _ _ _ _ _ _ _ _ _ _ _ _ _ _ _ _ _ _ _ _ _ _ _ _ _ _ _ _ _ _ _ _ _ _ _ _ _ _ _ _ _ _ _ _ _ _ _ _ _ _ _ _ _ _ _ HC3.out.1 HQB.out HQ.out HC3.out.2.2 KX.out HM.out HC4.out c4 ?_
    intro _ _ _ _ _ _ _ _ _ _ _ _ w' hf
    have HF2 := Lib.hid hf
    clear hf
    go_wp2_with fail
    go_meet
    exact HF2.out
  case rest =>
  have HC5 := Lib.hid hcut
  clear hcut c0 c4 HC3 HM HQB HC4
  have e0 : wc.cell? ⟨q, 0, none⟩ = some (.pointer z3) := HC5.out.2.1.cell rfl
  cases h3 with
  | none =>
    obtain rfl : none = z3 := by simpa [optp] using HZ.out
    go_wp2_with fail
    go_ret2
    have hU0 : U = [] := by
      obtain ⟨_, ⟨h1, _⟩ | ⟨y, h1, _⟩⟩ := HU.out.2.1
      · exact h1
      · cases h1
    subst hU0
    have hs : HS m3 none (L.erase x) := ⟨HW.out.2.1.erase x, [], K, rk, HU.out.1, ⟨trivial, Or.inl ⟨rfl, rfl⟩⟩, by simp⟩
    have hlen : (L.erase x).length = n := by rw [List.length_erase_of_mem HW.out.2.2.2.1, HW.out.2.2.2.2.2]; rfl
    exact ⟨x, m3, none, rfl, HW.out.2.2.2.1, HW.out.2.2.2.2.1, ⟨HC5.out.1, by rw [hlen]; exact HC5.out.2.1, HQ.out, hs, fun y hy => HF.out.sub y (List.mem_of_mem_erase hy), by omega⟩, HU.out.2.2.2.2.1, fun y e => by rw [← HU.out.2.2.2.2.2 y]; exact e, HC5.out.2.2⟩
  | some c0 =>
    obtain rfl : some ⟨c0, 0, none⟩ = z3 := by simpa [optp, ptr] using HZ.out
    have e1 : wc.cell? ⟨q, 1, none⟩ = some (.int .u64 (n : Int)) := HC5.out.2.1.cell rfl
    obtain ⟨i0, hi0, hz0, hs0, hb0⟩ := info_at infoE
    have HI : Hid (Try.prog.info? 40 = some i0 ∧ i0.zero = some (.pointer none) ∧ i0.size = 1 ∧ i0.bytes = 8) := ⟨hi0, hz0, hs0, hb0⟩
    clear hi0 hz0 hs0 hb0
    obtain ⟨cur, hcur, hmk⟩ : ∃ cur : List Value, cur.length = n ∧ ∀ W, (Instr.makeSlice 47 (.int .i64 0) (.int .u64 (n : Int))).run Try.prog W = .ok (.slice (some ⟨W.heap.size, 0, none⟩) 0 n) (W.alloc (.cells cur.toArray 40)) := by
      refine ⟨(madeCells (Value.pointer none).cells (n * i0.size)).toList, ?_, fun W => ?_⟩
      · rw [HI.out.2.2.1]; simp [madeCells, Value.cells]
      · have h := run_makeSlice (P := Try.prog) (w := W) 47 40 i0 (.pointer none) Try.underlying47 HI.out.1 HI.out.2.1 .i64 .u64 0 n (by omega) (by omega) (by rw [HI.out.2.2.1]; omega) (by rw [HI.out.2.2.2]; omega) (by omega)
        simpa using h
    have hqlt : q < wc.heap.size := HC5.out.2.1.lt
    go_wp2_with fail
    obtain ⟨t, htp, htr⟩ := HU.out.2.1.1.from (show c0 ∈ U by
      obtain ⟨_, ⟨_, h1⟩ | ⟨y, h1, h2⟩⟩ := HU.out.2.1
      · cases h1
      · cases h1; exact h2)
    obtain ⟨us, hus⟩ : ∃ us, us = c0 :: t := ⟨_, rfl⟩
    rw [← hus] at htp htr
    have HUS : Hid (us[0]? = some c0 ∧ us.Perm U ∧ Rg m3 us ∧ us.Nodup ∧ 0 < us.length ∧ us.length ≤ n ∧ (∀ y ∈ us, y ∈ A) ∧ (L.erase x).length = n ∧ (∀ y ∈ L.erase x, y ∈ A)) := by
      have hlen : (L.erase x).length = n := by rw [List.length_erase_of_mem HW.out.2.2.2.1, HW.out.2.2.2.2.2]; rfl
      have hsub : ∀ y ∈ L.erase x, y ∈ A := fun y hy => HF.out.sub y (List.mem_of_mem_erase hy)
      refine ⟨by rw [hus]; rfl, htp, htr, htp.nodup_iff.2 HU.out.1.rnd, by rw [hus]; simp, by rw [htp.length_eq, ← hlen]; exact HU.out.1.len_le, fun y hy => hsub y (HU.out.1.rL y (htp.subset hy)).1, hlen, hsub⟩
    have HV : Hid (Vi w1 wc.heap.size q A n c0 m3 cur us 0 (.slice (some ⟨wc.heap.size + 1, 0, none⟩) 0 n) ((wc.alloc (.cells cur.toArray 40)).alloc (.cells cur.toArray 40))) := by
      refine ⟨(HC5.out.1.alloc _).alloc _, (HC5.out.2.1.alloc _).alloc _, (Blk.new _ _ _).alloc _, ?_, (HC5.out.2.2.alloc _).alloc _, by simp, ?_, HC5.out.2.2.size⟩
      · have h := own_shut (B := wc.heap.size + 1) (n := 0) (cap := n) (Blk.new (wc.alloc (.cells cur.toArray 40)) cur.toArray 40) (by simp) (by omega) (by unfold maxLen; omega) hcur
        simpa [tk] using h
      · intro a ha
        simp only [List.mem_cons] at ha
        rcases ha with rfl | ha
        · exact HC5.out.2.1.lt
        · exact HC5.out.1.lt ha
    generalize (wc.alloc (.cells cur.toArray 40)).alloc (.cells cur.toArray 40) = w6 at HV ⊢
    generalize wc.heap.size = B at HV ⊢
    clear hmk hqlt e0 e1 hus htp htr HC5
    go_loopg [8, 9] us.length (fun g v cv wr => ∃ (k d : Nat), k ≤ us.length ∧ g = us.length - k ∧ us[if k < us.length then k else 0]? = some d ∧ cv = .pointer (some ⟨d, 0, none⟩) ∧ Hid (Vi w1 B q A n c0 m3 cur us k v wr))
    case atStart => exact ⟨0, c0, by omega, by omega, by rw [if_pos HUS.out.2.2.2.2.1]; exact HUS.out.1, rfl, HV⟩
    case round =>
      obtain ⟨k, d, hk1, hg1, hd1, rfl, HR⟩ := hrel
      have hlen1000 : us.length ≤ 1000 := by have := HUS.out.2.2.2.2.2.1; omega
      by_cases hk : k < us.length
      · rw [if_pos hk] at hd1
        have hdl : d ∈ us := List.mem_of_getElem? hd1
        have KD : Hid (d ∈ A) := HUS.out.2.2.2.2.2.2.1 d hdl
        obtain ⟨e, he⟩ : ∃ e, e = (m3 d).nx := ⟨_, rfl⟩
        have HE : Hid (e = (m3 d).nx ∧ us[k]? = some d) := ⟨he, hd1⟩
        have HN1 : Hid (us[if k + 1 < us.length then k + 1 else 0]? = some e) := by
          obtain ⟨h1, h2⟩ := HUS.out.2.2.1.nth hd1
          rw [← he] at h1 h2
          by_cases hi2 : k + 1 < us.length
          · rw [if_pos hi2]; exact h1 hi2
          · rw [if_neg hi2]; exact h2 (by omega)
        clear he hd1 hdl
        have hg2 : us.length - (k + 1) < gk := by omega
        by_cases h0 : k = 0
        · have hk0 : ((k : Int) == 0) = true := by subst h0; rfl
          obtain ⟨so, cp, hv⟩ := own_shape HR.out.row
          subst hv
          clear h0
          go_wp2_with (at_builtin; go_must (refine wpList_append_own_at _ rfl _ _ 47 rfl (B + 1) 40 i0 (.pointer none) 1 8 Try.underlying47 HI.out.1 HI.out.2.1 HI.out.2.2.1 HI.out.2.2.2 rfl (by decide) _ _ _ rfl (HR.out.row.alloc _) ⟨wr.heap.size, 0, none⟩ 1 1 [ptr d] rfl rfl ?c1 ?c2 ?c3 ?c4 ?c5 ?_))
          case c1 => exact one_cell
          case c2 => intro u hu; simp at hu; subst hu; rfl
          case c3 => unfold maxLen; omega
          case c4 => omega
          case c5 => have := HR.out.ws; simp; omega
          intro v' w' hown hgr _ _
          have HV2 : Hid (Vi w1 B q A n c0 m3 cur us (k + 1) v' w') := HR.out.app HE.out.2 hown hgr
          have c2 : w'.cell? ⟨d, 2, none⟩ = some (.pointer (some ⟨e, 0, none⟩)) := by rw [HE.out.1]; exact HV2.out.ms.c2 KD.out
          clear hown hgr hk0 hg1
          go_wp2_with fail
          go_roundg (us.length - (k + 1))
          case measure => omega
          case rel => exact ⟨k + 1, e, by omega, rfl, HN1.out, rfl, HV2⟩
        · have hk0 : ((k : Int) == 0) = false := beq_eq_false_iff_ne.2 (by omega)
          have hpos : 0 < k := by omega
          obtain ⟨g, cp, hv⟩ := own_some HR.out.row hpos
          subst hv
          obtain ⟨e0, f0⟩ := own_cell (i := 0) (u := ptr c0) HR.out.row (tk_get HUS.out.1 hpos)
          have K0 : Hid (c0 ∈ A) := HUS.out.2.2.2.2.2.2.1 c0 (List.mem_of_getElem? HUS.out.1)
          have hpe : (binOp .neq 40 (.pointer (some ⟨c0, 0, none⟩)) (.pointer (some ⟨d, 0, none⟩))).run Try.prog wr = .ok (.bool true) wr := by
           have h := neq_ptr HR.out.ms (a := c0) (b := d) K0.out KD.out
           rw [decide_eq_false (fun e => by
            subst e
            have h4 := (List.getElem_inj (h₀ := hk) (h₁ := HUS.out.2.2.2.2.1) HUS.out.2.2.2.1).1 (Option.some.inj ((List.getElem?_eq_getElem hk).symm.trans (HE.out.2.trans (HUS.out.1.symm.trans (List.getElem?_eq_getElem HUS.out.2.2.2.2.1)))))
            omega)] at h
           exact h
          rw [ptr] at e0
          clear f0 h0
          go_wp2_with (at_builtin; go_must (refine wpList_append_own_at _ rfl _ _ 47 rfl (B + 1) 40 i0 (.pointer none) 1 8 Try.underlying47 HI.out.1 HI.out.2.1 HI.out.2.2.1 HI.out.2.2.2 rfl (by decide) _ _ _ rfl (HR.out.row.alloc _) ⟨wr.heap.size, 0, none⟩ 1 1 [ptr d] rfl rfl ?c1 ?c2 ?c3 ?c4 ?c5 ?_))
          case c1 => exact one_cell
          case c2 => intro u hu; simp at hu; subst hu; rfl
          case c3 => unfold maxLen; omega
          case c4 => omega
          case c5 => have := HR.out.ws; simp; omega
          intro v' w' hown hgr _ _
          have HV2 : Hid (Vi w1 B q A n c0 m3 cur us (k + 1) v' w') := HR.out.app HE.out.2 hown hgr
          have c2 : w'.cell? ⟨d, 2, none⟩ = some (.pointer (some ⟨e, 0, none⟩)) := by rw [HE.out.1]; exact HV2.out.ms.c2 KD.out
          clear hown hgr hk0 hg1 e0 hpe
          go_wp2_with fail
          go_roundg (us.length - (k + 1))
          case measure => omega
          case rel => exact ⟨k + 1, e, by omega, rfl, HN1.out, rfl, HV2⟩
      · have HKL := Lib.hid (show k = us.length by omega)
        rw [if_neg hk, HUS.out.1] at hd1
        obtain rfl : c0 = d := Option.some.inj hd1
        have hk0 : ((k : Int) == 0) = false := beq_eq_false_iff_ne.2 (by have := HUS.out.2.2.2.2.1; omega)
        have hpos : 0 < k := by have := HUS.out.2.2.2.2.1; omega
        obtain ⟨g, cp, hv⟩ := own_some HR.out.row hpos
        subst hv
        obtain ⟨e0, f0⟩ := own_cell (i := 0) (u := ptr c0) HR.out.row (tk_get HUS.out.1 hpos)
        have K0 : Hid (c0 ∈ A) := HUS.out.2.2.2.2.2.2.1 c0 (List.mem_of_getElem? HUS.out.1)
        have hpe : (binOp .neq 40 (.pointer (some ⟨c0, 0, none⟩)) (.pointer (some ⟨c0, 0, none⟩))).run Try.prog wr = .ok (.bool false) wr := by
          have h := neq_ptr HR.out.ms (a := c0) (b := c0) K0.out K0.out
          rw [decide_eq_true rfl] at h
          exact h
        rw [ptr] at e0
        clear f0 hk hk1 hg1 hd1
        go_wp2_with fail
        obtain ⟨vs, hov, hog, hoc, hom, hol, hot, hxl⟩ := own_open HR.out.row
        have HVS : Hid (∀ i d, us[i]? = some d → i < k → vs[i]? = some (ptr d)) := fun i d hi hik => by
          have h1 := tk_get hi hik
          rw [← hot, List.getElem?_take, if_pos hik] at h1
          exact h1
        have hc0U : c0 ∈ U := HUS.out.2.1.subset (List.mem_of_getElem? HUS.out.1)
        have HS : Hid (Lp w1 B q A n (L.erase x) m3 g vs.toArray c0 us none m3 [] (.slice (some ⟨B, 0, none⟩) 0 n) wr) := by
          refine ⟨⟨U, K, rk, Cn.start HU.out.1 hc0U HUS.out.2.1⟩, ⟨HR.out.ms, HR.out.blk, ?_, hov, ?_, HR.out.frame, HR.out.low, by omega, HR.out.wB, HQ.out, by have := HR.out.ws; omega⟩, by simp, HUS.out.2.2.2.2.2.2.2.2, by rw [HUS.out.2.2.2.2.2.2.2.1]; omega, K0.out⟩
          · have h := own_shut (B := B) (n := 0) HR.out.old (Nat.le_refl _) (Nat.zero_le n) (by unfold maxLen; omega) hcur
            simpa [row] using h
          · intro e
            simp [Value.ownBlock] at e
            omega
        have HN0 : Hid ((L.erase x).length = n) := HUS.out.2.2.2.2.2.2.2.1
        clear hov hog hoc hom hol hot hxl hc0U hpe e0 HR hcur HV hlen1000 hk0 hpos
        have hk1000 : k ≤ 1000 := by rw [HKL.out]; have := HUS.out.2.2.2.2.2.1; omega
        refine visit_any _ _ _ _ _ _ _ _ _ _ _ _ _ _ _ _ _ _ _ _ _ _ _ _ _ _ _ _ _ _ _ _ _ _ _ _ _ _ _ _ _ _ _ _ _ _ _ _ _ _ _ _ _ _ _ _ _ _ _ _ _ _ _ _ _ _ _ _ _ _ _ _ _ _ _ _ _ _ _ _ _ _ _ _ _ _ _ _ _ _ _ _ _ _ _ _ _ _ _ _ _ _ _ _ _ _ _ _ _ _ _ _ _ _ _ _ _ _ _ _ _ _ _ _ _ _ _ _ _ _ _ _ _ _ _ _ _ _ _ _ _ _ _ _ _ _ _ _ _ _ _ _ _ _ _ _ _ _ _ _ _ _ _ _ _ _ _ _ _ _ _ _ _ _ _ _ _ _ _ _ _ _ _ _ _ _ _ _ _ _ _ _ _ _ _ _ _ _ _ _ _ _ _ _ _ _ _ _ _ _ _ _ _ _ _ _ _ _ _ _ _ _ _ _ _ _ _ _ _ _ _ _ _ _ _ _ _ _ _ _ _ _ _ _ _ _ _ _ _ _ _ _ _ _ _ _ _ _ _ _ _ _ _ _ _ _ _ _ _ _ _ _ _ _ _ _ HS HKL HVS hk1000 ?_
        intro _ _ _ _ _ _ _ _ _ _ _ _ _ _ _ _ _ _ _ _ _ _ _ _ _ _ _ _ _ _ _ _ _ _ _ _ _ _ _ _ _ _ _ _ _ _ _ _ _ _ _ _ _ _ _ _ _ _ _ _ _ _ _ _ _ _ _ _ _ _ _ _ _ _ _ _ _ _ _ _ _ _ _ _ _ _ _ _ _ _ _ _ _ _ _ _ _ _ _ _ _ _ _ _ _ _ _ _ _ _ _ _ _ _ _ _ _ _ _ _ _ _ _ _ _ _ _ _ _ w' h mm ts hf
        have HF2 := Lib.hid hf
        clear hf
        go_wp2_with fail
        go_ret2
        obtain ⟨⟨R', K', rk', h1⟩, h2, h3, h4, h5, h6⟩ := HF2.out
        refine ⟨x, mm, some h, rfl, HW.out.2.2.2.1, HW.out.2.2.2.2.1, ⟨h2.ms, by rw [HN0.out]; exact h2.blk, HQ.out, FH.HS.end h1 (HW.out.2.1.erase x), h4, h5⟩, fun y => by rw [h1.pr]; exact HU.out.2.2.2.2.1 y, fun y e => ?_, h2.frame⟩
        rw [← HU.out.2.2.2.2.2 y]
        exact h1.mkd y e
end FH
end Go.Proofs.Ytalphojbkeleiaa
