/- FnBSDeepClears answers true for every bitset's data, every place and every number of places. -/
import Derived.Test.YtpmnpaannbhoeaaBsClr
import Derived.Test.YtpmnpaannbhoeaaLawKit
import Derived.Test.YtpmnpaannbhoeaaBsArg
namespace Go.Proofs.Ytpmnpaannbhoeaa.LClears
open Go.RowKit Go.ChangeShapes Go.WideShapes Go.ChangeAt

set_option maxRecDepth 100000 in
set_option maxHeartbeats 2000000 in
theorem walk {w : World} {l : Nat} {so : Option Addr} {n cp : Nat} {xs : List Nat} (hx : 0 < n → Nums .u64 w (.slice so n cp) xs) (from_ many : Nat) (hl : l < 18446744073709551616) (hf : from_ < 65536) (hm : many < 256) :
    Calls Try.prog 8 #[.agg #[.int .u64 l, .slice so n cp], .int .u16 from_, .int .u8 many] w fun e w' => e = .returned (.bool true) ∧ Below w.heap.size w w' := by
  have HX := Lib.hid hx
  clear hx
  by_cases hn : n ≤ 2147483647
  · have hcast : (from_ : Int) % 500 = ((from_ % 500 : Nat) : Int) := rfl
    have hcast2 : (many : Int) % 40 = ((many % 40 : Nat) : Int) := rfl
    have hi : from_ % 500 < 500 := Nat.mod_lt _ (by decide)
    have hm : many % 40 < 40 := Nat.mod_lt _ (by decide)
    obtain ⟨i, hie⟩ : ∃ i, i = from_ % 500 := ⟨_, rfl⟩
    obtain ⟨m, hme⟩ : ∃ i, i = many % 40 := ⟨_, rfl⟩
    rw [← hie] at hcast hi
    rw [← hme] at hcast2 hm
    obtain ⟨N, hN⟩ : ∃ N, N = 1 + m := ⟨_, rfl⟩
    obtain ⟨M, hM⟩ : ∃ M, M = i + N := ⟨_, rfl⟩
    have hN1 : (1 : Int) + (m : Int) = (N : Int) := by omega
    have hN2 : N ≤ 40 := by omega
    have hM1 : (i : Int) + (N : Int) = (M : Int) := by omega
    have hM2 : M ≤ 540 := by omega
    have hM3 : i < M := by omega
    clear hie hme hN hM
    go_enter Try.func8, Try.ntmps8
    go_wp2_with fail
    refine (zzFits3_any _ _ _ _ _ hn).mono ?_
    rintro e w1 ⟨rfl, hb⟩
    have HB : Hid (Below w.heap.size w w1) := ((Below.refl _ _).alloc (Nat.le_refl _) _).trans (hb.mono (by simp))
    have c0 : w1.cell? ⟨w.heap.size, 0, none⟩ = some (.int .u64 l) := (hb.cell (by simp)).trans (by simp)
    have c1 : w1.cell? ⟨w.heap.size, 1, none⟩ = some (.slice so n cp) := (hb.cell (by simp)).trans (by simp)
    clear hb
    go_wp2_with fail
    refine (bsBits_any (fun h => (HX.out h).same HB.out) hn hl).mono ?_
    rintro e w2 ⟨S, v2, rfl, hbits, hb⟩
    have H2 : Hid (IsBits w2 v2 (l % 401) S ∧ Below w.heap.size w w2) := ⟨hbits, HB.out.trans (hb.mono HB.out.size)⟩
    clear hbits hb c0 c1
    obtain ⟨L, hL⟩ : ∃ L, L = max (l % 401) (i + 1) := ⟨_, rfl⟩
    have hs := iSet H2.out.1 i (by omega)
    have hiL : i < L := by omega
    have hL5 : L ≤ 500 := by omega
    rw [← hL] at hs
    clear hL
    go_wp2_with fail
    refine hs.mono ?_
    rintro e w3 ⟨v3, rfl, hv3, hb3⟩
    obtain ⟨so3, n3, cp3, rfl⟩ := hv3.shape
    obtain ⟨T, hT⟩ : ∃ T : Nat → Bool, T = fun j => S j || decide (i = j) := ⟨_, rfl⟩
    rw [← hT] at hv3
    have hTi : T i = true := by rw [hT]; simp
    have HTi := Lib.hid hTi
    have H3 : Hid (IsBits w3 (.agg #[.int .u64 L, .slice so3 n3 cp3]) L T ∧ Below w.heap.size w w3) := ⟨hv3, H2.out.2.trans (hb3.mono H2.out.2.size)⟩
    clear hv3 hb3 hs hT hTi
    go_wp2_with fail
    have HW : Hid (Below w.heap.size w ((w3.alloc (Obj.cells #[Value.int IntKind.u64 ↑L, Value.slice so3 n3 cp3] 25)).alloc (Obj.cells #[Value.int IntKind.u64 ↑L, Value.slice so3 n3 cp3] 25)) ∧
        Blk ((w3.alloc (Obj.cells #[Value.int IntKind.u64 ↑L, Value.slice so3 n3 cp3] 25)).alloc (Obj.cells #[Value.int IntKind.u64 ↑L, Value.slice so3 n3 cp3] 25)) w3.heap.size #[.int .u64 L, .slice so3 n3 cp3] 25 ∧
        Blk ((w3.alloc (Obj.cells #[Value.int IntKind.u64 ↑L, Value.slice so3 n3 cp3] 25)).alloc (Obj.cells #[Value.int IntKind.u64 ↑L, Value.slice so3 n3 cp3] 25)) (w3.heap.size + 1) #[.int .u64 L, .slice so3 n3 cp3] 25 ∧
        Below w3.heap.size w3 ((w3.alloc (Obj.cells #[Value.int IntKind.u64 ↑L, Value.slice so3 n3 cp3] 25)).alloc (Obj.cells #[Value.int IntKind.u64 ↑L, Value.slice so3 n3 cp3] 25)) ∧ w.heap.size ≤ w3.heap.size) := by
      refine ⟨(H3.out.2.alloc H3.out.2.size _).alloc (by have := H3.out.2.size; simp; omega) _, (Blk.new w3 _ _).alloc _, ?_, ((Below.refl _ _).alloc (Nat.le_refl _) _).alloc (by simp) _, H3.out.2.size⟩
      have := Blk.new (w3.alloc (Obj.cells #[Value.int IntKind.u64 ↑L, Value.slice so3 n3 cp3] 25)) #[Value.int IntKind.u64 ↑L, Value.slice so3 n3 cp3] 25
      simpa using this
    generalize ((w3.alloc (Obj.cells #[Value.int IntKind.u64 ↑L, Value.slice so3 n3 cp3] 25)).alloc (Obj.cells #[Value.int IntKind.u64 ↑L, Value.slice so3 n3 cp3] 25)) = W at *
    obtain ⟨pa, hpa⟩ : ∃ pa, pa = w3.heap.size := ⟨_, rfl⟩
    obtain ⟨B, hB⟩ : ∃ B, B = w3.heap.size + 2 := ⟨_, rfl⟩
    rw [← hpa] at HW ⊢
    have hpb : pa + 1 < B := by omega
    have HBW : Hid (B ≤ W.heap.size) := by have := HW.out.2.2.1.lt; show B ≤ W.heap.size; omega
    have HA0 : Hid (∀ W' : World, Below pa w3 W' → IsBits W' (.agg #[.int .u64 L, .slice so3 n3 cp3]) L T) := Lib.hid (fun W' hb => H3.out.1.same (by rw [← hpa]; exact hb))
    clear hpa hB
    go_loopw [11] (fun iv wr => ∃ (k : Nat) (so4 : Option Addr) (n4 cp4 : Nat), i ≤ k ∧ k ≤ M ∧ iv = .int .u64 k ∧ Hid (IsBits wr (.agg #[.int .u64 L, .slice so4 n4 cp4]) L (fun j => T j && !(decide (i ≤ j) && decide (j < k))) ∧ Blk wr (pa + 1) #[.int .u64 L, .slice so4 n4 cp4] 25 ∧ Blk wr pa #[.int .u64 L, .slice so3 n3 cp3] 25 ∧ Below pa w3 wr ∧ Below w.heap.size w wr ∧ B ≤ wr.heap.size)) (fun iv _ => M - (intOf iv).toNat)
    case atStart =>
      have hfn : (fun j => T j && !(decide (i ≤ j) && decide (j < i))) = T := by
        funext j
        by_cases h1 : i ≤ j
        · rw [decide_eq_false (show ¬ j < i by omega)]; simp
        · rw [decide_eq_false h1]; simp
      refine ⟨i, so3, n3, cp3, Nat.le_refl _, by omega, rfl, by rw [hfn]; exact HA0.out W HW.out.2.2.2.1, HW.out.2.2.1, HW.out.2.1, HW.out.2.2.2.1, HW.out.1, HBW.out⟩
    case round =>
      obtain ⟨k, so4, n4, cp4, hik, hkM, rfl, hR⟩ := hrel
      have HR : Hid (IsBits wr (.agg #[.int .u64 L, .slice so4 n4 cp4]) L (fun j => T j && !(decide (i ≤ j) && decide (j < k))) ∧ Blk wr (pa + 1) #[.int .u64 L, .slice so4 n4 cp4] 25 ∧ Blk wr pa #[.int .u64 L, .slice so3 n3 cp3] 25 ∧ Below pa w3 wr ∧ Below w.heap.size w wr ∧ B ≤ wr.heap.size) := hR
      clear hR
      have c0 : wr.cell? ⟨pa + 1, 0, none⟩ = some (.int .u64 L) := HR.out.2.1.cell rfl
      have c1 : wr.cell? ⟨pa + 1, 1, none⟩ = some (.slice so4 n4 cp4) := HR.out.2.1.cell rfl
      by_cases hk : k < M
      · go_wp2_with fail
        refine (iClearN HR.out.1 k (by omega)).mono ?_
        rintro e w4 ⟨v5, rfl, hv, hb⟩
        obtain ⟨so5, n5, cp5, rfl⟩ := (hv w4 (fun _ _ _ => rfl)).shape
        have q1 := HR.out.2.1.below hb HR.out.2.1.lt
        have q2 := HR.out.2.2.1.below hb HR.out.2.2.1.lt
        have HQ : Hid (Blk w4 (pa + 1) #[.int .u64 L, .slice so4 n4 cp4] 25 ∧ Blk w4 pa #[.int .u64 L, .slice so3 n3 cp3] 25 ∧ Below wr.heap.size wr w4) := ⟨q1, q2, hb⟩
        have HV := Lib.hid hv
        have e0 : w4.cell? ⟨pa + 1, 0, none⟩ = some (.int .u64 L) := q1.cell rfl
        have e1 : w4.cell? ⟨pa + 1, 1, none⟩ = some (.slice so4 n4 cp4) := q1.cell rfl
        have e2 := q1.free 0
        have e3 := q1.free 1
        clear q1 q2 hv hb c0 c1
        go_wp2_with fail
        go_roundw
        case rel =>
          refine ⟨k + 1, so5, n5, cp5, by omega, by omega, by go_num, ?_, (HQ.out.1.set 0 _).set 1 _, (HQ.out.2.1.other (by show pa + 1 ≠ pa; omega) _).other (by show pa + 1 ≠ pa; omega) _, ?_, ?_, ?_⟩
          · have := HV.out ((w4.setCell ⟨pa + 1, 0, none⟩ (.int .u64 L)).setCell ⟨pa + 1, 1, none⟩ (.slice so5 n5 cp5)) (fun q h1 h2 => by
              have := HR.out.2.2.2.2.2
              rw [Below.heap_setCell _ _ _ _ (by show q ≠ pa + 1; omega), Below.heap_setCell _ _ _ _ (by show q ≠ pa + 1; omega)])
            have hfn : (fun j => T j && !(decide (i ≤ j) && decide (j < k + 1))) = (fun j => (T j && !(decide (i ≤ j) && decide (j < k))) && !decide (k = j)) := by
              funext j
              by_cases h1 : k = j
              · subst h1; rw [decide_eq_true hik, decide_eq_true (Nat.lt_succ_self _)]; simp
              · by_cases h2 : j < k
                · rw [decide_eq_true h2, decide_eq_true (show j < k + 1 by omega), decide_eq_false h1]; simp
                · rw [decide_eq_false h2, decide_eq_false (show ¬ j < k + 1 by omega), decide_eq_false h1]; simp
            rw [hfn]
            exact this
          · have h1 := HR.out.2.2.2.1.trans (HQ.out.2.2.mono (Nat.le_of_lt HR.out.2.2.1.lt))
            exact (h1.setCell (by show pa ≤ pa + 1; omega) _).setCell (by show pa ≤ pa + 1; omega) _
          · have h1 := HR.out.2.2.2.2.1.trans (HQ.out.2.2.mono HR.out.2.2.2.2.1.size)
            have h2 : w.heap.size ≤ pa := HW.out.2.2.2.2
            exact (h1.setCell (by show w.heap.size ≤ pa + 1; omega) _).setCell (by show w.heap.size ≤ pa + 1; omega) _
          · have h1 := HQ.out.2.2.size
            have h2 := HR.out.2.2.2.2.2
            simp [World.setCell]; omega
        case measure => simp [intOf]; omega
      · have hkM : k = M := by omega
        have HR2 : Hid (IsBits wr (.agg #[.int .u64 L, .slice so4 n4 cp4]) L (fun j => T j && !(decide (i ≤ j) && decide (j < M))) ∧ Blk wr (pa + 1) #[.int .u64 L, .slice so4 n4 cp4] 25 ∧ Blk wr pa #[.int .u64 L, .slice so3 n3 cp3] 25 ∧ Below pa w3 wr ∧ Below w.heap.size w wr) := by
          have := HR.out
          rw [hkM] at this
          exact ⟨this.1, this.2.1, this.2.2.1, this.2.2.2.1, this.2.2.2.2.1⟩
        clear HR c0 c1
        have hge : decide (k < M) = false := decide_eq_false (by omega)
        clear hkM hk
        go_wp2_with fail
        refine (iNew 0 _ (by decide)).mono ?_
        rintro e w4 ⟨v4, rfl, hv, hb⟩
        have HV := Lib.hid hv
        have F1 := Lib.hid hb
        clear hv hb
        go_wp2_with fail
        refine (iSetRange HV.out i M hM3 (by decide) (by omega)).mono ?_
        rintro e w5 ⟨v5, rfl, hv, hb⟩
        rw [Nat.max_eq_right (Nat.zero_le _)] at hv
        obtain ⟨so5, n5, cp5, rfl⟩ := hv.shape
        have F2 : Hid (Below wr.heap.size wr w5) := F1.out.trans (hb.mono F1.out.size)
        have HV2 := Lib.hid hv
        clear hv hb
        go_wp2_with fail
        have HX : Hid (Below wr.heap.size wr (w5.alloc (Obj.cells #[Value.int IntKind.u64 ↑M, Value.slice so5 n5 cp5] 25)) ∧ Blk (w5.alloc (Obj.cells #[Value.int IntKind.u64 ↑M, Value.slice so5 n5 cp5] 25)) w5.heap.size #[Value.int IntKind.u64 M, Value.slice so5 n5 cp5] 25 ∧ IsBits (w5.alloc (Obj.cells #[Value.int IntKind.u64 ↑M, Value.slice so5 n5 cp5] 25)) (.agg #[.int .u64 M, .slice so5 n5 cp5]) M (fun j => false || (decide (i ≤ j) && decide (j < M)))) := ⟨F2.out.alloc F2.out.size _, Blk.new _ _ _, HV2.out.same ((Below.refl _ _).alloc (Nat.le_refl _) _)⟩
        generalize (w5.alloc (Obj.cells #[Value.int IntKind.u64 ↑M, Value.slice so5 n5 cp5] 25)) = X at *
        generalize w5.heap.size = pr at *
        have HC : Hid (∀ W' : World, Below X.heap.size X W' → W'.cell? ⟨pa, 0, none⟩ = some (.int .u64 L) ∧ W'.cell? ⟨pa, 1, none⟩ = some (.slice so3 n3 cp3) ∧ W'.cell? ⟨pa + 1, 0, none⟩ = some (.int .u64 L) ∧ W'.cell? ⟨pa + 1, 1, none⟩ = some (.slice so4 n4 cp4) ∧ W'.cell? ⟨pr, 0, none⟩ = some (.int .u64 M) ∧ W'.cell? ⟨pr, 1, none⟩ = some (.slice so5 n5 cp5)) := Lib.hid (fun W' hb => by
          have hb2 := HX.out.1.trans (hb.mono HX.out.1.size)
          have x1 := HR2.out.2.2.1.below hb2 HR2.out.2.2.1.lt
          have x2 := HR2.out.2.1.below hb2 HR2.out.2.1.lt
          have x3 := HX.out.2.1.below hb HX.out.2.1.lt
          exact ⟨x1.cell rfl, x1.cell rfl, x2.cell rfl, x2.cell rfl, x3.cell rfl, x3.cell rfl⟩)
        have HA : Hid (∀ W' : World, Below X.heap.size X W' → IsBits W' (.agg #[.int .u64 L, .slice so3 n3 cp3]) L T) := Lib.hid (fun W' hb => by
          have hb2 := HX.out.1.trans (hb.mono HX.out.1.size)
          exact HA0.out W' (HR2.out.2.2.2.1.trans (hb2.mono (Nat.le_of_lt HR2.out.2.2.1.lt))))
        have HBb : Hid (∀ W' : World, Below X.heap.size X W' → IsBits W' (.agg #[.int .u64 L, .slice so4 n4 cp4]) L (fun j => T j && !(decide (i ≤ j) && decide (j < M)))) := Lib.hid (fun W' hb => HR2.out.1.same (HX.out.1.trans (hb.mono HX.out.1.size)))
        have HRr : Hid (∀ W' : World, Below X.heap.size X W' → IsBits W' (.agg #[.int .u64 M, .slice so5 n5 cp5]) M (fun j => false || (decide (i ≤ j) && decide (j < M)))) := Lib.hid (fun W' hb => HX.out.2.2.same hb)
        have HE : Hid (Below w.heap.size w X) := Lib.hid (HR2.out.2.2.2.2.trans (HX.out.1.mono HR2.out.2.2.2.2.size))
        obtain ⟨na, hna⟩ : ∃ n, n = cd T L := ⟨_, rfl⟩
        obtain ⟨nb, hnb⟩ : ∃ n, n = cd (fun j => T j && !(decide (i ≤ j) && decide (j < M))) L := ⟨_, rfl⟩
        have hlt : decide (nb < na) = true := by
          rw [hna, hnb]
          exact decide_eq_true (cd_lt (fun j h => by simp at h; exact h.1) (i := i) (by simp [hM3]) HTi.out L hiL)
        have hCa : ∀ W' : World, Below X.heap.size X W' → Calls Try.prog 26 #[(.agg #[.int .u64 L, .slice so3 n3 cp3])] W' fun e w' => e = .returned (.int .u64 na) ∧ Below W'.heap.size W' w' := fun W' hb => by rw [hna]; exact iCount (HA.out W' hb)
        have hCb : ∀ W' : World, Below X.heap.size X W' → Calls Try.prog 26 #[(.agg #[.int .u64 L, .slice so4 n4 cp4])] W' fun e w' => e = .returned (.int .u64 nb) ∧ Below W'.heap.size W' w' := fun W' hb => by rw [hnb]; exact iCount (HBb.out W' hb)
        have hOb : ∀ W' : World, Below X.heap.size X W' → Calls Try.prog 28 #[(.agg #[.int .u64 L, .slice so4 n4 cp4]), .int .u64 i, .int .u64 M] W' fun e w' => e = .returned (.int .u64 0) ∧ Below W'.heap.size W' w' := fun W' hb => by
          have := iBetween (HBb.out W' hb) i M (by omega) (by omega)
          rw [cd_none (by omega) (fun j h1 h2 => by rw [decide_eq_true h1, decide_eq_true h2]; simp)] at this
          exact this
        have HO := Lib.hid hOb
        have HCA := Lib.hid hCa
        have HCB := Lib.hid hCb
        clear hna hnb hOb hCa hCb
        have hws : IntKind.u64.wrap ((i : Int) + (N : Int)) = (M : Int) := by rw [hM1]; simp [IntKind.wrap, IntKind.bits, IntKind.signed]; omega
        have hws2 : IntKind.u64.wrap (M : Int) = (M : Int) := by simp [IntKind.wrap, IntKind.bits, IntKind.signed]; omega
        obtain ⟨c0, c1, c2, c3, c4, c5⟩ := HC.out X (Below.refl _ _)
        go_region_held3 (fun w' => w'.cell? ⟨pa, 0, none⟩ = some (.int .u64 L) ∧ w'.cell? ⟨pa, 1, none⟩ = some (.slice so3 n3 cp3) ∧ w'.cell? ⟨pa + 1, 0, none⟩ = some (.int .u64 L) ∧ w'.cell? ⟨pa + 1, 1, none⟩ = some (.slice so4 n4 cp4) ∧ w'.cell? ⟨pr, 0, none⟩ = some (.int .u64 M) ∧ w'.cell? ⟨pr, 1, none⟩ = some (.slice so5 n5 cp5))
          (first | exact ⟨c0, c1, c2, c3, c4, c5⟩ | exact HC.out _ G5.out | exact HC.out _ G4.out | exact HC.out _ G3.out | exact HC.out _ G2.out | exact HC.out _ G1.out.2)
          (first
            | (go_at_call 37; refine (iDiff (HA.out _ (Below.refl X.heap.size X).drew) (HRr.out _ (Below.refl X.heap.size X).drew)).mono ?_; rintro e w6 ⟨v6, rfl, hv, hb⟩; have G1 : Hid (IsBits w6 v6 L (fun j => T j && !(false || (decide (i ≤ j) && decide (j < M)))) ∧ Below X.heap.size X w6) := ⟨hv, (Below.refl X.heap.size X).drew.trans hb⟩; clear hv hb)
            | (go_at_call 18; refine (alike_true (HBb.out _ G1.out.2) G1.out.1 (fun j => by rw [Bool.false_or])).mono ?_; rintro e w7 ⟨rfl, hb⟩; have G2 : Hid (Below X.heap.size X w7) := Lib.hid (G1.out.2.trans (hb.mono G1.out.2.size)); clear hb)
            | (go_at_call 28; refine (HO.out _ G2.out).mono ?_; rintro e w8 ⟨rfl, hb⟩; have G3 : Hid (Below X.heap.size X w8) := Lib.hid (G2.out.trans (hb.mono G2.out.size)); clear hb)
            | (go_at_call 26; refine (HCA.out _ G4.out).mono ?_; rintro e w10 ⟨rfl, hb⟩; have G5 : Hid (Below X.heap.size X w10) := Lib.hid (G4.out.trans (hb.mono G4.out.size)); clear hb)
            | (go_at_call 26; refine (HCB.out _ G3.out).mono ?_; rintro e w9 ⟨rfl, hb⟩; have G4 : Hid (Below X.heap.size X w9) := Lib.hid (G3.out.trans (hb.mono G3.out.size)); clear hb))
        go_wp2_with fail
        go_ret
        exact ⟨rfl, HE.out.trans (G5.out.mono HE.out.size)⟩
  · go_enter Try.func8, Try.ntmps8
    go_wp2_with fail
    refine (zzFits3_no _ _ _ _ _ (by omega)).mono ?_
    rintro e w1 ⟨rfl, hb⟩
    have HB : Hid (Below w.heap.size w w1) := ((Below.refl _ _).alloc (Nat.le_refl _) _).trans (hb.mono (by simp))
    clear hb
    go_wp2_with fail
    go_ret
    exact ⟨rfl, HB.out⟩

theorem own : ownKnob Try.prog.godebug = none := by kernel_rfl
theorem laidOut : laidOutB Try.prog = true := by kernel_rfl

set_option maxRecDepth 100000 in
theorem lifted (os : Os) (started : os.Started) (H : Type) (enc : TypeId × Value → H) :
    ReturnsInHanded {} Try.checked os 8 .any (Rows.fnBSDeepClearsSpec.pre6 enc Try.prog Try.f8 Rows.fnBSDeepClearsRow.domain false) (Rows.fnBSDeepClearsSpec.post enc Try.prog Try.f8 false true false false) := by
  refine LawKit.lifted (C := Try.checked) (T := 4) own started (by kernel_rfl) Try.func8 laidOut (by kernel_rfl) (by kernel_rfl) Try.underlying4 rfl ?_
    (ChangeSpec.witness6 (enc := enc) (C := Try.checked) false ⟨#[], #[.agg #[.int .u64 0, .slice none 0 0], .int .u16 0, .int .u8 0], []⟩ 8 (by kernel_rfl) (by kernel_rfl) (by kernel_rfl) (by kernel_rfl)) ?_
  · intro ds hd
    match ds, hd with
    | [_, _, _], _ => rfl
  · intro W base args ds p hval0 hA0 _
    have hval : ∀ (j : Nat) t v, Try.f8.params[j]? = some t → args[j]? = some v → Value.okWide Try.prog W .any base t v := hval0
    have hA : DataW.TrodAll enc Try.prog W 0 (fun _ => true) true Try.f8.params.toList args.toList ds p := hA0
    rw [Try.params8] at hA hval
    obtain ⟨v0, vs0, d0, ds0, p0, q0, hargs, rfl, rfl, h0, r0⟩ := trodAll_cons hA
    obtain ⟨v1, vs1, d1, ds1, p1, q1, rfl, rfl, rfl, h1, r1⟩ := trodAll_cons r0
    obtain ⟨v2, vs2, d2, ds2, p2, q2, rfl, rfl, rfl, h2, r2⟩ := trodAll_cons r1
    obtain ⟨rfl, rfl, rfl⟩ := trodAll_nil r2
    obtain rfl : args = #[v0, v1, v2] := by cases args; simp_all
    obtain ⟨l0, so0, n0, cp0, xs0, rfl, hl0, hx0⟩ := open_bits (hval 0 25 v0 rfl rfl) h0
    obtain ⟨a1, rfl, rfl, rfl, w1⟩ := open_int Try.underlying26 (hval 1 26 v1 rfl rfl) h1
    have b1 := bounds_u16 w1
    obtain ⟨i1, rfl⟩ : ∃ i : Nat, a1 = (i : Int) := ⟨a1.toNat, by omega⟩
    obtain ⟨a2, rfl, rfl, rfl, w2⟩ := open_int Try.underlying5 (hval 2 5 v2 rfl rfl) h2
    have b2 := bounds_u8 w2
    obtain ⟨i2, rfl⟩ : ∃ i : Nat, a2 = (i : Int) := ⟨a2.toNat, by omega⟩
    exact walk hx0 i1 i2 hl0 (by omega) (by omega)

theorem proved : Rows.FnBSDeepClearsSaid :=
  OpenClaim.holds_of_wide 8 Try.f8 rfl rfl rfl rfl rfl rfl rfl ⟨rfl, rfl, rfl, rfl, rfl⟩ rfl rfl rfl rfl rfl (by kernel_rfl) Try.func8 (by kernel_rfl)
    (of_decide_eq_true (by kernel_rfl)) (by unfold Func.isWrapper; first | (rw [if_pos (by decide +kernel)]; kernel_rfl) | (rw [if_neg (by decide +kernel)]; exact ⟨rfl, rfl⟩))
    (fun os started H enc _ => lifted os started H enc)
#print axioms proved
end Go.Proofs.Ytpmnpaannbhoeaa.LClears
