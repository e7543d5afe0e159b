/- FnFHSame answers true for every list. -/
import Derived.Test.YtalphojbkeleiaaHK
import Derived.Test.YtalphojbkeleiaaRows
import Derived.Test.YtalphojbkeleiaaArgKit
import Derived.Test.YtalphojbkeleiaaLawKit
namespace Go.Proofs.Ytalphojbkeleiaa.LFnFHSame
open Go.RowKit Go.ChangeShapes Go.WideShapes Go.ChangeAt FH
set_option maxRecDepth 100000 in
set_option maxHeartbeats 8000000 in
theorem walk {W : World} {so : Option Addr} {n cp : Nat} {xs : List Int} (hl : xs.length = n) (hv : 0 < n → Vals W (.slice so n cp) (xs.map (Value.int .i16))) (hb : ∀ x ∈ xs, Small x) :
    Calls Try.prog 4 #[.slice so n cp] W fun e W' => e = .returned (.bool true) ∧ Below W.heap.size W W' := by
  by_cases hn : n ≤ 30
  · have g1 : decide ((2147483647 : Int) < (n : Int)) = false := decide_eq_false (by omega)
    by_cases h0 : 0 < n
    · have HV : Hid (Vals W (.slice so n cp) (xs.map (Value.int .i16)) ∧ xs.length = n ∧ (∀ x ∈ xs, Small x) ∧ xs.length ≤ 30) := ⟨hv h0, hl, hb, by omega⟩
      have hfew : (decide (0 < n) && decide (n ≤ 30)) = true := by simp; omega
      obtain ⟨i0, hi, hz0, hz1, hz2⟩ := info_at infoT
      have HI : Hid (Try.prog.info? 30 = some i0 ∧ i0.zero = some (.agg #[.int .i64 0, .int .i64 0, .int .i64 0, .slice none 0 0]) ∧ i0.size = 4 ∧ i0.bytes = 48) := ⟨hi, hz0, hz1, hz2⟩
      clear hv hb hl hi hz0 hz1 hz2
      go_enter Try.func4, Try.ntmps4
      go_wp2_with fail
      refine (few_any _ _ _ _).mono ?_
      rintro e w' ⟨rfl, rfl⟩
      rw [hfew]
      go_wp2_with fail
      refine (enq_list (b := 0) HV.out.1 (by rw [HV.out.2.1]; omega) HV.out.2.2.1 (by unfold Small; omega)).mono ?_
      rintro e w1 ⟨sv, rfl, hown, hb1⟩
      rw [HV.out.2.1] at hown
      obtain ⟨s1, c1, rfl⟩ := own_shape hown
      have H1 : Hid (w1.ownsRow W.heap.size 30 4 (.slice s1 n c1) n ((putsOf 0 xs).map stp).flatten ∧ Below W.heap.size W w1) := ⟨hown, hb1⟩
      clear hown hb1
      go_wp2_with (at_builtin; go_must (refine wpList_append_own_at _ rfl (.tmp 15) (.tmp 17) 27 rfl W.heap.size 30 i0 (.agg #[.int .i64 0, .int .i64 0, .int .i64 0, .slice none 0 0]) 4 48 Try.underlying27 HI.out.1 HI.out.2.1 HI.out.2.2.1 HI.out.2.2.2 rfl (by decide) (.slice s1 n c1) n _ rfl (H1.out.1.alloc _) ⟨w1.heap.size, 0, none⟩ 1 1 (stp (.put (-131072))) rfl rfl ?c1 ?c2 ?c3 ?c4 ?c5 ?_))
      case c1 => exact two_cells
      case c2 => intro u hu; simp [stp] at hu; rcases hu with rfl | rfl | rfl | rfl <;> rfl
      case c3 => unfold maxLen; omega
      case c4 => omega
      case c5 => have := H1.out.2.size; simp; omega
      intro v2 w2 hown hgrow _ _
      obtain ⟨s2, c2, rfl⟩ := own_shape hown
      have H2 : Hid (w2.ownsRow W.heap.size 30 4 (.slice s2 (n + 1) c2) (n + 1) ((putsOf 0 xs ++ [Step.put (-131072)]).map stp).flatten ∧ Below W.heap.size W w2) :=
        ⟨row_app hown, H1.out.2.trans (own_grown H1.out.1 hgrow H1.out.2.size)⟩
      clear hown hgrow
      go_wp2_with fail
      refine (clone_own H2.out.1 (by omega) (by omega)).mono ?_
      rintro e w3 ⟨s3, c3, rfl, hown, hb⟩
      have H3 : Hid (w3.ownsRow w2.heap.size 30 4 (.slice s3 (n + 1) c3) (n + 1) ((putsOf 0 xs ++ [Step.put (-131072)]).map stp).flatten ∧ Below w2.heap.size w2 w3) := ⟨hown, hb⟩
      clear hown hb
      go_wp2_with (at_builtin; go_must (refine wpList_append_own_at _ rfl (.tmp 21) (.tmp 23) 27 rfl w2.heap.size 30 i0 (.agg #[.int .i64 0, .int .i64 0, .int .i64 0, .slice none 0 0]) 4 48 Try.underlying27 HI.out.1 HI.out.2.1 HI.out.2.2.1 HI.out.2.2.2 rfl (by decide) (.slice s3 (n + 1) c3) (n + 1) _ rfl (H3.out.1.alloc _) ⟨w3.heap.size, 0, none⟩ 1 1 (stp (.get)) rfl rfl ?c1 ?c2 ?c3 ?c4 ?c5 ?_))
      case c1 => exact two_cells
      case c2 => intro u hu; simp [stp] at hu; rcases hu with rfl | rfl | rfl | rfl <;> rfl
      case c3 => unfold maxLen; omega
      case c4 => omega
      case c5 => have := H3.out.2.size; simp; omega
      intro v4 w4 hown hgrow _ _
      obtain ⟨s4, c4, rfl⟩ := own_shape hown
      have H4 : Hid (w4.ownsRow w2.heap.size 30 4 (.slice s4 (n + 1 + 1) c4) (n + 1 + 1) (((putsOf 0 xs ++ [Step.put (-131072)]) ++ [Step.get]).map stp).flatten ∧ Below w2.heap.size w2 w4) :=
        ⟨row_app (by simpa using hown), H3.out.2.trans (own_grown H3.out.1 hgrow H3.out.2.size)⟩
      clear hown hgrow
      obtain ⟨p1, p2⟩ := same_get HV.out.2.2.1 HV.out.2.2.2
      obtain ⟨q1, q2, q3⟩ := fin_law p1 p2
      rw [HV.out.2.1] at q1 q2 q3
      have hlen : ((putsOf 0 xs ++ [Step.put (-131072)]) ++ [Step.get]).length = n + 1 + 1 := by simp [putsOf_len, HV.out.2.1]
      rw [hlen] at q3
      have HO : Hid (Calls Try.prog 7 #[.slice s4 (n + 1 + 1) c4, .int .i64 (n : Nat)] w4 (OutDone ((putsOf 0 xs ++ [Step.put (-131072)]) ++ [Step.get]) (n + 1 + 1) n w4)) := out_any (own_recs H4.out.1) (by omega) (by omega) q1 q2 h0
      have HQ3 := Lib.hid q3
      clear p1 p2 q1 q2 q3 hlen
      go_wp2_with fail
      refine HO.out.mono ?_
      rintro e w5 ⟨sa, cla, esa, outa, rfl, hra, hia, hb5⟩
      obtain ⟨ka1, ka2⟩ := HQ3.out _ _ _ hra
      obtain ⟨s5, c5, rfl⟩ := hia.shape
      rw [List.length_map, ka1.length_eq, HV.out.2.1] at hia ⊢
      have H5 : Hid (Ints w5 (.slice s5 n c5) (pri (outa.drop (n + 1 + 1))) ∧ (pri (outa.drop (n + 1 + 1))).Perm xs ∧ (pri (outa.drop (n + 1 + 1))).Pairwise (· ≤ ·) ∧ Below w2.heap.size w2 w5 ∧ w5.ownsRow W.heap.size 30 4 (.slice s2 (n + 1) c2) (n + 1) ((putsOf 0 xs ++ [Step.put (-131072)]).map stp).flatten) := by
        have hb := H4.out.2.trans (hb5.mono H4.out.2.size)
        exact ⟨hia, ka1, ka2, hb, own_under H2.out.1 hb (Nat.le_refl _)⟩
      clear hra hia hb5 ka1 ka2
      go_wp2_with fail
      refine (clone_own H5.out.2.2.2.2 (by omega) (by omega)).mono ?_
      rintro e w6 ⟨s6, c6, rfl, hown, hb⟩
      have H6 : Hid (w6.ownsRow w5.heap.size 30 4 (.slice s6 (n + 1) c6) (n + 1) ((putsOf 0 xs ++ [Step.put (-131072)]).map stp).flatten ∧ Below w5.heap.size w5 w6) := ⟨hown, hb⟩
      clear hown hb
      go_wp2_with (at_builtin; go_must (refine wpList_append_own_at _ rfl (.tmp 32) (.tmp 36) 27 rfl w5.heap.size 30 i0 (.agg #[.int .i64 0, .int .i64 0, .int .i64 0, .slice none 0 0]) 4 48 Try.underlying27 HI.out.1 HI.out.2.1 HI.out.2.2.1 HI.out.2.2.2 rfl (by decide) (.slice s6 (n + 1) c6) (n + 1) _ rfl (H6.out.1.alloc _) ⟨w6.heap.size, 0, none⟩ 1 1 (stp (.del n)) rfl rfl ?c1 ?c2 ?c3 ?c4 ?c5 ?_))
      case c1 => exact two_cells
      case c2 => intro u hu; simp [stp] at hu; rcases hu with rfl | rfl | rfl | rfl <;> rfl
      case c3 => unfold maxLen; omega
      case c4 => omega
      case c5 => have := H6.out.2.size; simp; omega
      intro v7 w7 hown hgrow _ _
      obtain ⟨s7, c7, rfl⟩ := own_shape hown
      have H7 : Hid (w7.ownsRow w5.heap.size 30 4 (.slice s7 (n + 1 + 1) c7) (n + 1 + 1) (((putsOf 0 xs ++ [Step.put (-131072)]) ++ [Step.del n]).map stp).flatten ∧ Below w5.heap.size w5 w7) :=
        ⟨row_app (by simpa using hown), H6.out.2.trans (own_grown H6.out.1 hgrow H6.out.2.size)⟩
      clear hown hgrow
      obtain ⟨p1, p2⟩ := same_del HV.out.2.2.1 HV.out.2.2.2
      rw [HV.out.2.1] at p1 p2
      obtain ⟨q1, q2, q3⟩ := fin_law p1 p2
      rw [HV.out.2.1] at q1 q2 q3
      have hlen : ((putsOf 0 xs ++ [Step.put (-131072)]) ++ [Step.del n]).length = n + 1 + 1 := by simp [putsOf_len, HV.out.2.1]
      rw [hlen] at q3
      have HO2 : Hid (Calls Try.prog 7 #[.slice s7 (n + 1 + 1) c7, .int .i64 (n : Nat)] w7 (OutDone ((putsOf 0 xs ++ [Step.put (-131072)]) ++ [Step.del n]) (n + 1 + 1) n w7)) := out_any (own_recs H7.out.1) (by omega) (by omega) q1 q2 h0
      have HQ4 := Lib.hid q3
      clear p1 p2 q1 q2 q3 hlen
      go_wp2_with fail
      refine HO2.out.mono ?_
      rintro e w8 ⟨sb, clb, esb, outb, rfl, hrb, hib, hb8⟩
      obtain ⟨kb1, kb2⟩ := HQ4.out _ _ _ hrb
      obtain ⟨s8, c8, rfl⟩ := hib.shape
      rw [List.length_map, kb1.length_eq, HV.out.2.1] at hib ⊢
      have he := sorted_same H5.out.2.2.1 kb2 (H5.out.2.1.trans kb1.symm)
      have hb58 : Below w5.heap.size w5 w8 := H7.out.2.trans (hb8.mono H7.out.2.size)
      have H8 : Hid (Ints w8 (.slice s5 n c5) (pri (outa.drop (n + 1 + 1))) ∧ Ints w8 (.slice s8 n c8) (pri (outb.drop (n + 1 + 1))) ∧ pri (outa.drop (n + 1 + 1)) = pri (outb.drop (n + 1 + 1)) ∧ Below W.heap.size W w8) :=
        ⟨Vals.same H5.out.1 hb58, hib, he, H2.out.2.trans ((H5.out.2.2.2.1.trans (hb58.mono H5.out.2.2.2.1.size)).mono H2.out.2.size)⟩
      clear hrb hib hb8 kb1 kb2 he hb58
      go_wp2_with fail
      refine (equal_any H8.out.1 H8.out.2.1 (by omega) (by omega)).mono ?_
      rintro e w9 ⟨rfl, hb⟩
      have H9 : Hid (Below W.heap.size W w9) := H8.out.2.2.2.trans (hb.mono H8.out.2.2.2.size)
      clear hb
      rw [decide_eq_true H8.out.2.2.1]
      go_wp2_with fail
      go_ret
      exact ⟨rfl, H9.out⟩
    · have hfew : (decide (0 < n) && decide (n ≤ 30)) = false := by simp; omega
      clear hv hb hl
      go_enter Try.func4, Try.ntmps4
      go_wp2_with fail
      refine (few_any _ _ _ _).mono ?_
      rintro e w' ⟨rfl, rfl⟩
      rw [hfew]
      go_wp2_with fail
      go_ret
      exact ⟨rfl, Below.refl _ _⟩
  · by_cases hbig : (2147483647 : Int) < (n : Int)
    · have g1 : decide ((2147483647 : Int) < (n : Int)) = true := decide_eq_true hbig
      clear hv hb hl
      go_enter Try.func4, Try.ntmps4
      go_wp2_with fail
      go_ret
      exact ⟨rfl, Below.refl _ _⟩
    · have g1 : decide ((2147483647 : Int) < (n : Int)) = false := decide_eq_false hbig
      have hfew : (decide (0 < n) && decide (n ≤ 30)) = false := by simp; omega
      clear hv hb hl
      go_enter Try.func4, Try.ntmps4
      go_wp2_with fail
      refine (few_any _ _ _ _).mono ?_
      rintro e w' ⟨rfl, rfl⟩
      rw [hfew]
      go_wp2_with fail
      go_ret
      exact ⟨rfl, Below.refl _ _⟩

theorem own : ownKnob Try.prog.godebug = none := by kernel_rfl
theorem laidOut : laidOutB Try.prog = true := by kernel_rfl

set_option maxRecDepth 100000 in
theorem lifted (os : Os) (started : os.Started) (H : Type) (enc : TypeId × Value → H) :
    ReturnsInHanded {} Try.checked os 4 .any (Rows.fnFHSameSpec.pre6 enc Try.prog Try.f4 Rows.fnFHSameRow.domain false) (Rows.fnFHSameSpec.post enc Try.prog Try.f4 false true false false) := by
  refine LawKit.lifted (C := Try.checked) (T := 4) own started (by kernel_rfl) Try.func4 laidOut (by kernel_rfl) (by kernel_rfl) Try.underlying4 rfl ?_
    (ChangeSpec.witness6 (enc := enc) (C := Try.checked) false ⟨#[], #[.slice none 0 0], []⟩ 8 (by kernel_rfl) (by kernel_rfl) (by kernel_rfl) (by kernel_rfl)) ?_
  · intro ds hd
    match ds, hd with
    | [_], _ => rfl
  · intro W base args ds p hval0 hA0 _
    have hval : ∀ (j : Nat) t v, Try.f4.params[j]? = some t → args[j]? = some v → Value.okWide Try.prog W .any base t v := hval0
    have hA : DataW.TrodAll enc Try.prog W 0 (fun _ => true) true Try.f4.params.toList args.toList ds p := hA0
    rw [Try.params4] at hA hval
    obtain ⟨v0, vs0, d0, ds0, p0, q0, hargs, rfl, rfl, h0, r0⟩ := trodAll_cons hA
    obtain ⟨rfl, rfl, rfl⟩ := trodAll_nil r0
    obtain rfl : args = #[v0] := by cases args; simp_all
    obtain ⟨sk0, nk0, ck0, rfl⟩ := okWide_slice Try.underlying22 (hval 0 22 v0 rfl rfl)
    obtain ⟨fu0, hf0⟩ := h0
    obtain ⟨so0, n0, cp0, xs0, hw0, hl0, hv0, hb0⟩ := open_ilist Try.underlying22 Try.underlying34 (k := .i16) (by kernel_rfl) hf0
    rw [hw0]
    exact walk hl0 hv0 (fun x h => bounds_i16 (hb0 x h)) 

theorem proved : Rows.FnFHSameSaid :=
  OpenClaim.holds_of_wide 4 Try.f4 rfl rfl rfl rfl rfl rfl rfl ⟨rfl, rfl, rfl, rfl, rfl⟩ rfl rfl rfl rfl rfl (by kernel_rfl) Try.func4 (by kernel_rfl)
    (of_decide_eq_true (by kernel_rfl)) (by unfold Func.isWrapper; first | (rw [if_pos (by decide +kernel)]; kernel_rfl) | (rw [if_neg (by decide +kernel)]; exact ⟨rfl, rfl⟩))
    (fun os started H enc _ => lifted os started H enc)
#print axioms proved
end Go.Proofs.Ytalphojbkeleiaa.LFnFHSame
