/- dxGot. -/
import Derived.Test.YtmkbgdgfbmfbdaaDoorP14
namespace Go.Proofs.YtmkbgdgfbmfbdaaDoor
open Go.RowKit

theorem Ran.of_get {dup : Bool} {ss : List Step} {xs ks : List Item} {outs : List (List Item)} (h : Ran dup ss xs ks outs) : ∀ (i : Nat) (s : Step) (o : List Item), ss[i]? = some s → outs[i]? = some o → o ≠ [] → ∃ n, s = .get n := by
  induction h with
  | nil => intro i s o h; simp at h
  | @add ss s xs ks ys ks' o outs h hs ih =>
    intro i s' o' h1 h2 h3
    have hl := h.len
    by_cases hi : i < ss.length
    · rw [List.getElem?_append_left hi] at h1
      rw [List.getElem?_append_left (by omega)] at h2
      exact ih i s' o' h1 h2 h3
    · have hlt := (List.getElem?_eq_some_iff.1 h1).1
      simp at hlt
      have e : i = ss.length := by omega
      subst e
      rw [List.getElem?_append_right (Nat.le_refl _)] at h1
      rw [List.getElem?_append_right (by omega), hl] at h2
      simp at h1 h2
      subst h1 h2
      cases s with
      | put its => exact absurd hs.2.2 h3
      | get n => exact ⟨n, rfl⟩
theorem keysOf_append (a b : List Item) : keysOf (a ++ b) = keysOf a ++ keysOf b := by simp [keysOf]
theorem keys_le {outs : List (List Item)} {i : Nat} {o : List Item} (h : outs[i]? = some o) (j : Nat) : (keysOf (outs.take i).flatten ++ keysOf (o.take j)).length ≤ outs.flatten.length := by
  have e : outs = outs.take i ++ o :: outs.drop (i + 1) := by
    obtain ⟨hi, ho⟩ := List.getElem?_eq_some_iff.1 h
    rw [← ho, ← List.drop_eq_getElem_cons hi, List.take_append_drop]
  have h2 : outs.flatten.length = (outs.take i).flatten.length + (o.length + (outs.drop (i + 1)).flatten.length) := by
    conv => lhs; rw [e]
    rw [List.flatten_append, List.flatten_cons, List.length_append, List.length_append]
  simp only [keysOf, List.length_append, List.length_map, List.length_take]
  omega
theorem infoN : (Tryd.prog.info? 3).map (fun i => (i.zero, i.size, i.bytes)) = some (some (.int .i64 0), 1, 8) := by kernel_rfl
def GotKeys (dup : Bool) (ss : List Step) (w : World) (e : Ending) (w' : World) : Prop :=
  ∃ sv xs ks outs, e = .returned (.tuple #[sv, .bool true]) ∧ Ran dup ss xs ks outs ∧ Ints w' sv (keysOf outs.flatten) ∧ Below w.heap.size w w'
def KRow (K : Nat) (w : World) (sv : Value) (ks : List Int) : Prop := w.ownsRow K 3 1 sv ks.length (ks.map (Value.int .i64))
set_option maxRecDepth 100000 in
set_option maxHeartbeats 4000000 in
theorem got_any {w : World} {h n cp : Nat} {so : Option Addr} {dup : Bool} {ss : List Step} (hh : h ≤ 64) (hs : Steps w (.slice so n cp) ss) (hl : ss.length ≤ 100) (hg : Good dup ss) (hf : ∀ xs ks outs, Ran dup ss xs ks outs → outs.flatten.length ≤ 1000) :
    Calls Tryd.prog 12 #[.int .i64 h, .bool dup, .slice so n cp] w (GotKeys dup ss w) := by
  obtain ⟨i0, hi, hz0, hz1, hz2⟩ := info_at infoN
  have HI : Hid (Tryd.prog.info? 3 = some i0 ∧ i0.zero = some (.int .i64 0) ∧ i0.size = 1 ∧ i0.bytes = 8) := ⟨hi, hz0, hz1, hz2⟩
  have HS := Lib.hid hs
  obtain ⟨rs, hrs, hrl, hrm⟩ := hs
  have hn : ss.length = n := by rw [← hrl]; exact hrs.len
  have hn2 : n ≤ 100 := by omega
  have HN := Lib.hid hn
  have HM : Hid (Recs w 3 (.slice so n cp) rs ∧ rs.length = ss.length ∧ ∀ (i : Nat) (r : List Value) (s : Step), rs[i]? = some r → ss[i]? = some s → SMem w r s) := ⟨hrs, hrl, hrm⟩
  have HG := Lib.hid hg
  have HF := Lib.hid hf
  clear hi hz0 hz1 hz2 hrs hrl hrm hn hg hf
  go_enter Tryd.func12, Tryd.ntmps12
  go_wp2_with fail
  refine (run_any hh HS.out hl HG.out).mono ?_
  rintro e w1 ⟨sv, sis, xs, ks, outs, rfl, hran, hrec, hsaid, hb1⟩
  have hol : outs.length = n := by rw [hran.len, HN.out]
  have hsl : sis.length = n := by rw [hsaid.1, hol]
  obtain ⟨sx, cx, rfl⟩ := hrec.shape
  rw [List.length_map, hsl] at hrec ⊢
  have H1 : Hid (Ran dup ss xs ks outs ∧ Recs w1 4 (.slice sx n cx) (sis.map said4) ∧ Saids w1 sis outs ∧ Below w.heap.size w w1 ∧ outs.length = n ∧ sis.length = n) := ⟨hran, hrec, hsaid, hb1, hol, hsl⟩
  have hne : ((n : Int) != (n : Int)) = false := by simp
  clear hran hrec hsaid hb1 hol hsl hl
  go_wp2_with fail
  obtain ⟨K, hK⟩ : ∃ K, K = w1.heap.size := ⟨_, rfl⟩
  have HK := Lib.hid hK
  clear hK
  go_loopw [9, 25] (fun ov iv wr => ∃ (i : Nat), iv = .int .i64 (i : Nat) ∧ i ≤ n ∧ Hid (KRow K wr ov (keysOf (outs.take i).flatten) ∧ Below K w1 wr)) (fun _ iv _ => n - (intOf iv).toNat)
  case atStart => exact ⟨0, rfl, by omega, World.ownsRow_nil _ _ _ _, Below.refl _ _⟩
  case round =>
    obtain ⟨i, rfl, hin, hR⟩ := hrel
    have HR : Hid (KRow K wr u9 (keysOf (outs.take i).flatten) ∧ Below K w1 wr) := hR
    clear hR
    by_cases hlt : i < n
    · have z1 : (i : Int) < (n : Int) := by omega
      have z0 : (0 : Int) ≤ (i : Int) := by omega
      obtain ⟨si, hsi⟩ : ∃ r, sis[i]? = some r := ⟨_, List.getElem?_eq_getElem (by rw [H1.out.2.2.2.2.2]; exact hlt)⟩
      obtain ⟨o, ho⟩ : ∃ r, outs[i]? = some r := ⟨_, List.getElem?_eq_getElem (by rw [H1.out.2.2.2.2.1]; exact hlt)⟩
      have hp := H1.out.2.2.1.2 i si o hsi ho
      obtain ⟨s5, c5, rfl⟩ := Recs.shape hp
      obtain ⟨bs, os, cs, hsl, hcell⟩ := H1.out.2.1.at (i := i) (r := said4 (.slice s5 (o.map rec2).length c5)) (by rw [List.getElem?_map, hsi]; rfl)
      rw [List.length_map] at hp hcell
      obtain ⟨l, hl⟩ : ∃ l, l = o.length := ⟨_, rfl⟩
      rw [← hl] at hp hcell
      simp only [Value.slice.injEq] at hsl
      obtain ⟨rfl, hxx, rfl⟩ := hsl
      clear hxx
      have q0 := hcell 0 (.slice s5 l c5) rfl
      have q1 := hcell 1 (.int .i64 0) rfl
      have q2 := hcell 2 (.bool false) rfl
      have q3 := hcell 3 (.int .i64 0) rfl
      have hkb : ∀ (a : Addr) (v : Value), w1.cell? a = some v → wr.cell? a = some v := fun a v hc => (HR.out.2.cell (by rw [HK.out]; exact cell_lt' hc)).trans hc
      have c0 : wr.cell? ⟨bs, os + i * 4, none⟩ = some (.slice s5 l c5) := hkb _ _ q0
      have c1 : wr.cell? ⟨bs, os + i * 4 + 1, none⟩ = some (.int .i64 0) := hkb _ _ q1
      have c2 : wr.cell? ⟨bs, os + i * 4 + 2, none⟩ = some (.bool false) := hkb _ _ q2
      have c3 : wr.cell? ⟨bs, os + i * 4 + 3, none⟩ = some (.int .i64 0) := hkb _ _ q3
      have HO : Hid (outs[i]? = some o ∧ Pairs w1 (.slice s5 l c5) o ∧ l = o.length) := ⟨ho, hp, hl⟩
      have hz : ((0 : Int) != 0) = false := by decide
      have hll : l ≤ 1000 := by
        have h1 := keys_le ho o.length
        have h2 := HF.out _ _ _ H1.out.1
        rw [List.take_length, List.length_append] at h1
        simp only [keysOf, List.length_map] at h1
        omega
      clear hcell q0 q1 q2 q3 hkb hsi ho hp hl
      go_wp2_with fail
      have HW : Hid (KRow K (wr.alloc (.cells #[.slice s5 l c5, .int .i64 0, .bool false, .int .i64 0] 52)) u9 (keysOf (outs.take i).flatten) ∧ Below K w1 (wr.alloc (.cells #[.slice s5 l c5, .int .i64 0, .bool false, .int .i64 0] 52))) := ⟨HR.out.1.alloc _, HR.out.2.alloc (by rw [HK.out]; have := HR.out.2.size; omega) _⟩
      clear c0 c1 c2 c3
      go_loopw [9, 36] (fun ov jv wi => ∃ (j : Nat), jv = .int .i64 (j : Nat) ∧ j ≤ l ∧ Hid (KRow K wi ov (keysOf (outs.take i).flatten ++ keysOf (o.take j)) ∧ Below K w1 wi)) (fun _ jv _ => l - (intOf jv).toNat)
      case atStart =>
        refine ⟨0, rfl, by omega, ?_, HW.out.2⟩
        have h := HW.out.1
        rw [List.take_zero, show keysOf [] = [] from rfl, List.append_nil]
        exact h
      case round =>
        obtain ⟨j, rfl, hjl, hR2⟩ := hrel
        have HR2 : Hid (KRow K wr u9 (keysOf (outs.take i).flatten ++ keysOf (o.take j)) ∧ Below K w1 wr) := hR2
        clear hR2
        have hsz : K ≤ wr.heap.size := by rw [HK.out]; exact HR2.out.2.size
        obtain ⟨t5, d5, rfl⟩ := own_shape HR2.out.1
        obtain ⟨kl, hkl⟩ : ∃ kl, kl = (keysOf (outs.take i).flatten ++ keysOf (o.take j)).length := ⟨_, rfl⟩
        have HKL := Lib.hid hkl
        have hkl2 : kl ≤ 1000 := by
          have h1 := HF.out _ _ _ H1.out.1
          rw [hkl]
          exact Nat.le_trans (keys_le HO.out.1 j) h1
        rw [← hkl]
        clear hkl
        by_cases hjlt : j < l
        · have y1 : (j : Int) < (l : Int) := by omega
          have y0 : (0 : Int) ≤ (j : Int) := by omega
          obtain ⟨⟨k1, k2⟩, hx⟩ : ∃ x, o[j]? = some x := ⟨_, List.getElem?_eq_getElem (by rw [← HO.out.2.2]; exact hjlt)⟩
          obtain ⟨b2, o2, rfl, p0, p1⟩ := Pairs.at HO.out.2.1 hx
          obtain ⟨s, hs⟩ : ∃ s, ss[i]? = some s := ⟨_, List.getElem?_eq_getElem (by rw [HN.out]; exact hlt)⟩
          obtain ⟨N, rfl⟩ := H1.out.1.of_get i s o hs HO.out.1 (by intro e; rw [e] at hx; simp at hx)
          obtain ⟨r, hr⟩ : ∃ r, rs[i]? = some r := ⟨_, List.getElem?_eq_getElem (by rw [HM.out.2.1, HN.out]; exact hlt)⟩
          have hm : r = [.int .i64 2, .int .i64 N, .slice none 0 0] := HM.out.2.2 i r _ hr hs
          subst hm
          obtain ⟨bb, oo, cc, hsl, hcell⟩ := HM.out.1.at hr
          simp only [Value.slice.injEq] at hsl
          obtain ⟨rfl, hxx, rfl⟩ := hsl
          clear hxx
          have s0 := hcell 0 (.int .i64 2) rfl
          have hkb : ∀ (a : Addr) (v : Value), w1.cell? a = some v → wr.cell? a = some v := fun a v hc => (HR2.out.2.cell (by rw [HK.out]; exact cell_lt' hc)).trans hc
          have e0 : wr.cell? ⟨b2, o2 + j * 2, none⟩ = some (.int .i64 k1) := hkb _ _ p0
          have e1 : wr.cell? ⟨b2, o2 + j * 2 + 1, none⟩ = some (.int .i64 k2) := hkb _ _ p1
          have e2 : wr.cell? ⟨bb, oo + i * 3, none⟩ = some (.int .i64 2) := hkb _ _ ((H1.out.2.2.2.1.cell (cell_lt' s0)).trans s0)
          have e3 : ∀ o : Obj, (wr.alloc o).cell? ⟨bb, oo + i * 3, none⟩ = some (.int .i64 2) := fun o => (((Below.refl wr.heap.size wr).alloc (Nat.le_refl _) o).cell (cell_lt' e2)).trans e2
          have HX := Lib.hid hx
          have h22 : ((2 : Int) == 2) = true := by decide
          clear p0 p1 s0 hcell hkb hs hr hx
          go_wp2_with (at_builtin; go_must (refine wpList_append_own_at _ rfl (.tmp 46) (.tmp 49) 26 rfl K 3 i0 (.int .i64 0) 1 8 Tryd.underlying26 HI.out.1 HI.out.2.1 HI.out.2.2.1 HI.out.2.2.2 rfl (by decide) (.slice t5 kl d5) kl _ rfl (by rw [HKL.out]; exact (HR2.out.1.alloc _).alloc _) ⟨wr.heap.size + 1, 0, none⟩ 1 1 [.int .i64 k1] rfl rfl ?c1 ?c2 ?c3 ?c4 ?c5 ?_))
          case c1 => exact cells_two
          case c2 => intro u hu; simp at hu; subst hu; rfl
          case c3 => unfold maxLen; omega
          case c4 => omega
          case c5 => simp; omega
          intro v1 w2 hown hgrow _ _
          have HE : Hid (KRow K w2 v1 (keysOf (outs.take i).flatten ++ keysOf (o.take (j + 1))) ∧ Below K w1 w2) := by
            have hown0 := HR2.out.1
            rw [KRow, ← HKL.out] at hown0
            refine ⟨?_, HR2.out.2.trans (((Below.refl _ _).alloc hsz _).trans (own_grown (hown0.alloc _) hgrow (by simp; omega)))⟩
            have e : keysOf (outs.take i).flatten ++ keysOf (o.take (j + 1)) = (keysOf (outs.take i).flatten ++ keysOf (o.take j)) ++ [k1] := by
              rw [List.take_add_one, HX.out, List.append_assoc, Option.toList_some, keysOf_append]
              rfl
            rw [KRow, e, List.length_append, ← HKL.out, List.map_append]
            simpa using hown
          clear hown hgrow e0 e1 e2 e3
          go_wp2_with fail
          go_roundw
          case rel => exact ⟨j + 1, rfl, by omega, HE.out⟩
          case measure => simp [intOf]; omega
        · have y1 : ¬ (j : Int) < (l : Int) := by omega
          obtain rfl : j = l := by omega
          have HE : Hid (KRow K wr (.slice t5 kl d5) (keysOf (outs.take (i + 1)).flatten) ∧ Below K w1 wr) := by
            have h := HR2.out
            have e : keysOf (outs.take (i + 1)).flatten = keysOf (outs.take i).flatten ++ keysOf (o.take j) := by
              rw [List.take_add_one, HO.out.1, Option.toList_some, List.flatten_append, keysOf_append]
              rw [show o.take j = o from List.take_of_length_le (by rw [← HO.out.2.2]; exact Nat.le_refl _)]
              simp
            rw [e]
            rw [← HKL.out] at h
            exact h
          go_wp2_with fail
          go_roundw
          case rel => exact ⟨i + 1, rfl, by omega, HE.out⟩
          case measure => simp [intOf]; omega
    · have z1 : ¬ (i : Int) < (n : Int) := by omega
      obtain rfl : i = n := by omega
      go_wp2_with fail
      go_ret2
      have h := HR.out.1
      rw [List.take_of_length_le (by rw [H1.out.2.2.2.2.1]; exact Nat.le_refl _)] at h
      exact ⟨_, xs, ks, outs, rfl, H1.out.1, Vals.of_own h, H1.out.2.2.2.1.trans (HR.out.2.mono (by rw [HK.out]; exact H1.out.2.2.2.1.size))⟩
end Go.Proofs.YtmkbgdgfbmfbdaaDoor
