/- FnFHUndone answers true for every list. -/
import Derived.Test.YtalphojbkeleiaaHM
import Derived.Test.YtalphojbkeleiaaRows
import Derived.Test.YtalphojbkeleiaaArgKit
import Derived.Test.YtalphojbkeleiaaLawKit
namespace Go.Proofs.Ytalphojbkeleiaa.LFnFHUndone
open Go.RowKit Go.ChangeShapes Go.WideShapes Go.ChangeAt FH
set_option maxRecDepth 100000 in
set_option maxHeartbeats 8000000 in
theorem walk {W : World} {so : Option Addr} {n cp : Nat} {xs : List Int} {y : Int} {t : Nat} (hl : xs.length = n) (hv : 0 < n → Vals W (.slice so n cp) (xs.map (Value.int .i16))) (hb : ∀ x ∈ xs, Small x) (hy : Small y) (ht : t ≤ 255) :
    Calls Try.prog 5 #[.slice so n cp, .int .i16 y, .int .u8 (t : Nat)] W fun e W' => e = .returned (.bool true) ∧ Below W.heap.size W W' := by
  by_cases hn : n ≤ 30
  · have g1 : decide ((2147483647 : Int) < (n : Int)) = false := decide_eq_false (by omega)
    by_cases h0 : 0 < n
    · have HV : Hid (Vals W (.slice so n cp) (xs.map (Value.int .i16)) ∧ xs.length = n ∧ (∀ x ∈ xs, Small x) ∧ xs.length ≤ 30) := ⟨hv h0, hl, hb, by omega⟩
      have hfew : (decide (0 < n) && decide (n ≤ 30)) = true := by simp; omega
      obtain ⟨i0, hi, hz0, hz1, hz2⟩ := info_at infoT
      have HI : Hid (Try.prog.info? 30 = some i0 ∧ i0.zero = some (.agg #[.int .i64 0, .int .i64 0, .int .i64 0, .slice none 0 0]) ∧ i0.size = 4 ∧ i0.bytes = 48) := ⟨hi, hz0, hz1, hz2⟩
      obtain ⟨hy1, hy2⟩ := hy
      obtain ⟨m, hm⟩ : ∃ m : Nat, m = t % n := ⟨_, rfl⟩
      have hmn : m < n := by rw [hm]; exact Nat.mod_lt _ h0
      have hmod : (t : Int) % (n : Int) = (m : Int) := by rw [hm]; simp
      have htmod : Int.tmod (t : Int) (n : Int) = (m : Int) := by rw [Int.tmod_eq_emod_of_nonneg (by omega)]; exact hmod
      have HM := Lib.hid hm
      clear hm
      have hsub : (n : Int) - (m : Int) = ((n - m : Nat) : Int) := by omega
      have HSUB := Lib.hid hsub
      clear hsub
      clear hv hb hl hi hz0 hz1 hz2
      go_enter Try.func5, Try.ntmps5
      go_wp2_with fail
      refine (few_any _ _ _ _).mono ?_
      rintro e w' ⟨rfl, rfl⟩
      rw [hfew]
      go_wp2_with fail
      refine (enq_list (b := 0) HV.out.1 (by rw [HV.out.2.1]; omega) HV.out.2.2.1 (by unfold Small; omega)).mono ?_
      rintro e w1 ⟨sv, rfl, hown, hb1⟩
      rw [HV.out.2.1] at hown
      obtain ⟨s1, c1, rfl⟩ := own_shape hown
      have H1 : Hid (w1.ownsRow W.heap.size 30 4 (.slice s1 n c1) n ((putsOf 0 xs).map stp).flatten ∧ Below W.heap.size W w1) := ⟨hown, hb1⟩
      clear hown hb1
      obtain ⟨q1, q2, q3⟩ := fin_law (puts_good HV.out.2.2.1 HV.out.2.2.2) (fun cl es outs h => puts_lv h)
      rw [HV.out.2.1] at q1 q2 q3
      rw [putsOf_len, HV.out.2.1] at q3
      have HO : Hid (Calls Try.prog 7 #[.slice s1 n c1, .int .i64 (n : Nat)] w1 (OutDone (putsOf 0 xs) n n w1)) := out_any (own_recs H1.out.1) h0 (by omega) q1 q2 h0
      have HQ3 := Lib.hid q3
      clear q1 q2 q3
      go_wp2_with fail
      refine HO.out.mono ?_
      rintro e w2 ⟨sa, cla, esa, outa, rfl, hra, hia, hb2⟩
      obtain ⟨ka1, ka2⟩ := HQ3.out _ _ _ hra
      obtain ⟨a, ha⟩ : ∃ a, a = pri (outa.drop n) := ⟨_, rfl⟩
      rw [← ha] at hia ka1 ka2
      obtain ⟨sa1, ca, rfl⟩ := hia.shape
      rw [List.length_map, ka1.length_eq, HV.out.2.1] at hia ⊢
      obtain ⟨ab, ao, rfl, hac⟩ := hia.cells h0
      have H2 : Hid (Ints w2 (.slice (some ⟨ab, ao, none⟩) n ca) a ∧ a.Perm xs ∧ a.Pairwise (· ≤ ·) ∧ Below W.heap.size W w2 ∧ Vals w2 (.slice so n cp) (xs.map (Value.int .i16)) ∧ a.length = n) :=
        ⟨hia, ka1, ka2, H1.out.2.trans (hb2.mono H1.out.2.size), Vals.same HV.out.1 (H1.out.2.trans (hb2.mono H1.out.2.size)), by rw [ka1.length_eq, HV.out.2.1]⟩
      clear hra hia hb2 ka1 ka2 ha hac
      go_wp2_with fail
      refine (enq_list (b := 0) H2.out.2.2.2.2.1 (by rw [HV.out.2.1]; omega) HV.out.2.2.1 (by unfold Small; omega)).mono ?_
      rintro e w3 ⟨sv, rfl, hown, hb3⟩
      rw [HV.out.2.1] at hown
      obtain ⟨s3, c3, rfl⟩ := own_shape hown
      have H3 : Hid (w3.ownsRow w2.heap.size 30 4 (.slice s3 n c3) n ((putsOf 0 xs).map stp).flatten ∧ Below w2.heap.size w2 w3) := ⟨hown, hb3⟩
      clear hown hb3
      have hw1 : IntKind.i64.wrap y = y := by rw [IntKind.wrap_i64]; omega
      have hw2 : IntKind.i64.wrap (65536 + y) = 65536 + y := by rw [IntKind.wrap_i64]; omega
      go_wp2_with (at_builtin; go_must (refine wpList_append_own_at _ rfl (.tmp 33) (.tmp 38) 27 rfl w2.heap.size 30 i0 (.agg #[.int .i64 0, .int .i64 0, .int .i64 0, .slice none 0 0]) 4 48 Try.underlying27 HI.out.1 HI.out.2.1 HI.out.2.2.1 HI.out.2.2.2 rfl (by decide) (.slice s3 n c3) n _ rfl (H3.out.1.alloc _) ⟨w3.heap.size, 0, none⟩ 1 1 (stp (.put (65536 + y))) rfl rfl ?c1 ?c2 ?c3 ?c4 ?c5 ?_))
      case c1 => first | exact two_cells | exact fun j u hj => hj
      case c2 => intro u hu; simp [stp] at hu; rcases hu with rfl | rfl | rfl | rfl <;> rfl
      case c3 => unfold maxLen; omega
      case c4 => omega
      case c5 => have := H3.out.2.size; simp; omega
      intro v4 w4 hown hgrow _ _
      obtain ⟨s4, c4, rfl⟩ := own_shape hown
      have H4 : Hid (w4.ownsRow w2.heap.size 30 4 (.slice s4 (n + 1) c4) (n + 1 + 0) (((putsOf 0 xs ++ [Step.put (65536 + y)]) ++ List.replicate 0 Step.get).map stp).flatten ∧ Below w2.heap.size w2 w4) := by
        refine ⟨?_, H3.out.2.trans (own_grown H3.out.1 hgrow H3.out.2.size)⟩
        rw [List.replicate_zero, List.append_nil]
        exact row_app (by simpa using hown)
      clear hown hgrow hw1 hw2
      go_wp2_with fail
      go_loopw [10, 41] (fun sv iv wr => ∃ (k : Nat), iv = .int .i64 (k : Nat) ∧ k ≤ m ∧ Hid (wr.ownsRow w2.heap.size 30 4 sv (n + 1 + k) (((putsOf 0 xs ++ [Step.put (65536 + y)]) ++ List.replicate k Step.get).map stp).flatten ∧ Below w2.heap.size w2 wr)) (fun _ iv _ => m - (intOf iv).toNat)
      case atStart => exact ⟨0, rfl, by omega, H4.out⟩
      case round =>
      obtain ⟨k, rfl, hk, hR⟩ := hrel
      have HR : Hid (wr.ownsRow w2.heap.size 30 4 u10 (n + 1 + k) (((putsOf 0 xs ++ [Step.put (65536 + y)]) ++ List.replicate k Step.get).map stp).flatten ∧ Below w2.heap.size w2 wr) := hR
      clear hR
      obtain ⟨t5, d5, rfl⟩ := own_shape HR.out.1
      by_cases hlt : k < m
      · have z1 : (k : Int) < (m : Int) := by omega
        go_wp2_with (at_builtin; go_must (refine wpList_append_own_at _ rfl (.tmp 43) (.tmp 45) 27 rfl w2.heap.size 30 i0 (.agg #[.int .i64 0, .int .i64 0, .int .i64 0, .slice none 0 0]) 4 48 Try.underlying27 HI.out.1 HI.out.2.1 HI.out.2.2.1 HI.out.2.2.2 rfl (by decide) (.slice t5 (n + 1 + k) d5) (n + 1 + k) _ rfl (HR.out.1.alloc _) ⟨wr.heap.size, 0, none⟩ 1 1 (stp (.get)) rfl rfl ?c1 ?c2 ?c3 ?c4 ?c5 ?_))
        case c1 => first | exact two_cells | exact fun j u hj => hj
        case c2 => intro u hu; simp [stp] at hu; rcases hu with rfl | rfl | rfl | rfl <;> rfl
        case c3 => unfold maxLen; omega
        case c4 => omega
        case c5 => have := HR.out.2.size; simp; omega
        intro v5 w5 hown hgrow _ _
        have HE : Hid (w5.ownsRow w2.heap.size 30 4 v5 (n + 1 + (k + 1)) (((putsOf 0 xs ++ [Step.put (65536 + y)]) ++ List.replicate (k + 1) Step.get).map stp).flatten ∧ Below w2.heap.size w2 w5) := by
          refine ⟨?_, HR.out.2.trans (own_grown HR.out.1 hgrow HR.out.2.size)⟩
          rw [List.replicate_succ', ← List.append_assoc]
          change w5.ownsRow w2.heap.size 30 4 v5 (n + 1 + k + 1) _
          exact row_app (by simpa using hown)
        clear hown hgrow
        go_wp2_with fail
        go_roundw
        case rel => exact ⟨k + 1, rfl, by omega, HE.out⟩
        case measure => simp [intOf]; omega
      have z1 : ¬ (k : Int) < (m : Int) := by omega
      obtain rfl : k = m := by omega
      go_wp2_with (at_builtin; go_must (refine wpList_append_own_at _ rfl (.tmp 48) (.tmp 52) 27 rfl w2.heap.size 30 i0 (.agg #[.int .i64 0, .int .i64 0, .int .i64 0, .slice none 0 0]) 4 48 Try.underlying27 HI.out.1 HI.out.2.1 HI.out.2.2.1 HI.out.2.2.2 rfl (by decide) (.slice t5 (n + 1 + k) d5) (n + 1 + k) _ rfl (HR.out.1.alloc _) ⟨wr.heap.size, 0, none⟩ 1 1 (stp (.del n)) rfl rfl ?c1 ?c2 ?c3 ?c4 ?c5 ?_))
      case c1 => first | exact two_cells | exact fun j u hj => hj
      case c2 => intro u hu; simp [stp] at hu; rcases hu with rfl | rfl | rfl | rfl <;> rfl
      case c3 => unfold maxLen; omega
      case c4 => omega
      case c5 => have := HR.out.2.size; simp; omega
      intro v6 w6 hown hgrow _ _
      obtain ⟨s6, c6, rfl⟩ := own_shape hown
      have H6 : Hid (w6.ownsRow w2.heap.size 30 4 (.slice s6 (n + 1 + k + 1) c6) (n + 1 + k + 1) ((((putsOf 0 xs ++ [Step.put (65536 + y)]) ++ List.replicate k Step.get) ++ [Step.del n]).map stp).flatten ∧ Below w2.heap.size w2 w6) :=
        ⟨row_app (by simpa using hown), HR.out.2.trans (own_grown HR.out.1 hgrow HR.out.2.size)⟩
      clear hown hgrow
      obtain ⟨p1, p2⟩ := undone_law HV.out.2.2.1 HV.out.2.2.2 (big := 65536 + y) (fun x hx => by obtain ⟨_, h⟩ := HV.out.2.2.1 x hx; omega) (by omega) (m := k) (by rw [HV.out.2.1]; omega) H2.out.2.1 H2.out.2.2.1
      rw [HV.out.2.1] at p1 p2
      obtain ⟨q1, q2, q3⟩ := fin_law p1 p2
      have hdl : (a.drop k).length = n - k := by rw [List.length_drop, H2.out.2.2.2.2.2]
      rw [hdl] at q1 q2 q3
      have hlen : (((putsOf 0 xs ++ [Step.put (65536 + y)]) ++ List.replicate k Step.get) ++ [Step.del n]).length = n + 1 + k + 1 := by simp [putsOf_len, HV.out.2.1]; omega
      rw [hlen] at q3
      have HO2 : Hid (Calls Try.prog 7 #[.slice s6 (n + 1 + k + 1) c6, .int .i64 ((n : Int) - (k : Int))] w6 (OutDone (((putsOf 0 xs ++ [Step.put (65536 + y)]) ++ List.replicate k Step.get) ++ [Step.del n]) (n + 1 + k + 1) (n - k) w6)) := by
        rw [HSUB.out]
        exact out_any (own_recs H6.out.1) (by omega) (by omega) q1 q2 (by omega)
      have HQ4 := Lib.hid q3
      have HDL := Lib.hid hdl
      clear p1 p2 q1 q2 q3 hlen hdl
      go_wp2_with fail
      refine HO2.out.mono ?_
      rintro e w8 ⟨sb, clb, esb, outb, rfl, hrb, hib, hb8⟩
      obtain ⟨kb1, kb2⟩ := HQ4.out _ _ _ hrb
      obtain ⟨s8, c8, rfl⟩ := hib.shape
      rw [List.length_map, kb1.length_eq, HDL.out] at hib ⊢
      have he := sorted_same (List.Pairwise.sublist (List.drop_sublist k a) H2.out.2.2.1) kb2 kb1.symm
      have hb28 : Below w2.heap.size w2 w8 := H6.out.2.trans (hb8.mono H6.out.2.size)
      have H8 : Hid (Ints w8 (.slice (some ⟨ab, ao + k, none⟩) (n - k) (ca - k)) (a.drop k) ∧ Ints w8 (.slice s8 (n - k) c8) (pri (outb.drop (n + 1 + k + 1))) ∧ Below W.heap.size W w8) := by
        refine ⟨?_, hib, H2.out.2.2.2.1.trans (hb28.mono H2.out.2.2.2.1.size)⟩
        have h := Vals.same H2.out.1 hb28
        rw [← List.take_append_drop k a, List.map_append] at h
        exact vals_drop h (by rw [List.length_map, List.length_take, H2.out.2.2.2.2.2]; omega)
      have hcap : n ≤ ca := by
        rcases H2.out.1 with ⟨h, _⟩ | ⟨_, _, _, h, h2, _⟩
        · simp at h
        · simp only [Value.slice.injEq] at h
          obtain ⟨_, h3, h4⟩ := h
          omega
      have HE8 := Lib.hid he
      clear hrb hib hb8 kb1 kb2 he hb28
      go_wp2_with fail
      refine (equal_any H8.out.1 H8.out.2.1 (by omega) (by omega)).mono ?_
      rintro e w9 ⟨rfl, hb⟩
      have H9 : Hid (Below W.heap.size W w9) := H8.out.2.2.trans (hb.mono H8.out.2.2.size)
      clear hb
      rw [decide_eq_true HE8.out]
      go_wp2_with fail
      go_ret
      exact ⟨rfl, H9.out⟩
    · have hfew : (decide (0 < n) && decide (n ≤ 30)) = false := by simp; omega
      clear hv hb hl
      go_enter Try.func5, Try.ntmps5
      go_wp2_with fail
      refine (few_any _ _ _ _).mono ?_
      rintro e w' ⟨rfl, rfl⟩
      rw [hfew]
      go_wp2_with fail
      go_ret
      exact ⟨rfl, Below.refl _ _⟩
  · by_cases hbig : (2147483647 : Int) < (n : Int)
    · have g1 : decide ((2147483647 : Int) < (n : Int)) = true := decide_eq_true hbig
      clear hv hb hl
      go_enter Try.func5, Try.ntmps5
      go_wp2_with fail
      go_ret
      exact ⟨rfl, Below.refl _ _⟩
    · have g1 : decide ((2147483647 : Int) < (n : Int)) = false := decide_eq_false hbig
      have hfew : (decide (0 < n) && decide (n ≤ 30)) = false := by simp; omega
      clear hv hb hl
      go_enter Try.func5, Try.ntmps5
      go_wp2_with fail
      refine (few_any _ _ _ _).mono ?_
      rintro e w' ⟨rfl, rfl⟩
      rw [hfew]
      go_wp2_with fail
      go_ret
      exact ⟨rfl, Below.refl _ _⟩

theorem own : ownKnob Try.prog.godebug = none := by kernel_rfl
theorem laidOut : laidOutB Try.prog = true := by kernel_rfl

set_option maxRecDepth 100000 in
theorem lifted (os : Os) (started : os.Started) (H : Type) (enc : TypeId × Value → H) :
    ReturnsInHanded {} Try.checked os 5 .any (Rows.fnFHUndoneSpec.pre6 enc Try.prog Try.f5 Rows.fnFHUndoneRow.domain false) (Rows.fnFHUndoneSpec.post enc Try.prog Try.f5 false true false false) := by
  refine LawKit.lifted (C := Try.checked) (T := 4) own started (by kernel_rfl) Try.func5 laidOut (by kernel_rfl) (by kernel_rfl) Try.underlying4 rfl ?_
    (ChangeSpec.witness6 (enc := enc) (C := Try.checked) false ⟨#[], #[.slice none 0 0, .int .i16 0, .int .u8 0], []⟩ 8 (by kernel_rfl) (by kernel_rfl) (by kernel_rfl) (by kernel_rfl)) ?_
  · intro ds hd
    match ds, hd with
    | [_, _, _], _ => rfl
  · intro W base args ds p hval0 hA0 _
    have hval : ∀ (j : Nat) t v, Try.f5.params[j]? = some t → args[j]? = some v → Value.okWide Try.prog W .any base t v := hval0
    have hA : DataW.TrodAll enc Try.prog W 0 (fun _ => true) true Try.f5.params.toList args.toList ds p := hA0
    rw [Try.params5] at hA hval
    obtain ⟨v0, vs0, d0, ds0, p0, q0, hargs, rfl, rfl, h0, r0⟩ := trodAll_cons hA
    obtain ⟨v1, vs1, d1, ds1, p1, q1, rfl, rfl, rfl, h1, r1⟩ := trodAll_cons r0
    obtain ⟨v2, vs2, d2, ds2, p2, q2, rfl, rfl, rfl, h2, r2⟩ := trodAll_cons r1
    obtain ⟨rfl, rfl, rfl⟩ := trodAll_nil r2
    obtain rfl : args = #[v0, v1, v2] := by cases args; simp_all
    obtain ⟨sk0, nk0, ck0, rfl⟩ := okWide_slice Try.underlying22 (hval 0 22 v0 rfl rfl)
    obtain ⟨fu0, hf0⟩ := h0
    obtain ⟨so0, n0, cp0, xs0, hw0, hl0, hv0, hb0⟩ := open_ilist Try.underlying22 Try.underlying34 (k := .i16) (by kernel_rfl) hf0
    rw [hw0]
    obtain ⟨a1, rfl, rfl, rfl, w1⟩ := open_int Try.underlying34 (hval 1 34 v1 rfl rfl) h1
    have b1 := bounds_i16 w1
    obtain ⟨a2, rfl, rfl, rfl, w2⟩ := open_int Try.underlying5 (hval 2 5 v2 rfl rfl) h2
    have b2 := bounds_u8 w2
    obtain ⟨i2, rfl⟩ : ∃ i : Nat, a2 = (i : Int) := ⟨a2.toNat, by omega⟩
    exact walk hl0 hv0 (fun x h => bounds_i16 (hb0 x h)) b1 (by omega)

theorem proved : Rows.FnFHUndoneSaid :=
  OpenClaim.holds_of_wide 5 Try.f5 rfl rfl rfl rfl rfl rfl rfl ⟨rfl, rfl, rfl, rfl, rfl⟩ rfl rfl rfl rfl rfl (by kernel_rfl) Try.func5 (by kernel_rfl)
    (of_decide_eq_true (by kernel_rfl)) (by unfold Func.isWrapper; first | (rw [if_pos (by decide +kernel)]; kernel_rfl) | (rw [if_neg (by decide +kernel)]; exact ⟨rfl, rfl⟩))
    (fun os started H enc _ => lifted os started H enc)
#print axioms proved
end Go.Proofs.Ytalphojbkeleiaa.LFnFHUndone
