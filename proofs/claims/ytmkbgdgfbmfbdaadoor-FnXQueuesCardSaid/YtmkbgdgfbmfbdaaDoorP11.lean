/- PQRun. -/
import Derived.Test.YtmkbgdgfbmfbdaaDoorP10
namespace Go.Proofs.YtmkbgdgfbmfbdaaDoor
open Go.RowKit

theorem infoS : (Tryd.prog.info? 52).map (fun i => (i.zero, i.size, i.bytes)) = some (some (.agg #[.slice none 0 0, .int .i64 0, .bool false, .int .i64 0]), 4, 48) := by kernel_rfl
theorem cells_at {W : World} {xs : List Value} {T : TypeId} : ∀ j u, xs[j]? = some u → (W.alloc (.cells xs.toArray T)).cell? ((⟨W.heap.size, 0, none⟩ : Addr).add j) = some u := two_cells
set_option maxRecDepth 100000 in
set_option maxHeartbeats 4000000 in
theorem run_any {w : World} {h n cp : Nat} {so : Option Addr} {dup : Bool} {ss : List Step} (hh : h ≤ 64) (hs : Steps w (.slice so n cp) ss) (hl : ss.length ≤ 100) (hg : Good dup ss) :
    Calls Tryd.prog 19 #[.int .i64 h, .bool dup, .slice so n cp] w (RunDone dup ss w) := by
  obtain ⟨i0, hi, hz0, hz1, hz2⟩ := info_at infoS
  have HI : Hid (Tryd.prog.info? 52 = some i0 ∧ i0.zero = some (.agg #[.slice none 0 0, .int .i64 0, .bool false, .int .i64 0]) ∧ i0.size = 4 ∧ i0.bytes = 48) := ⟨hi, hz0, hz1, hz2⟩
  obtain ⟨rs, hrs, hrl, hrm⟩ := hs
  have hnl : rs.length = n := hrs.len
  have hn : ss.length = n := by rw [← hrl, hnl]
  have hn2 : n ≤ 100 := by omega
  have HN := Lib.hid hn
  have HM : Hid (Recs w 3 (.slice so n cp) rs ∧ rs.length = ss.length ∧ ∀ (i : Nat) (r : List Value) (s : Step), rs[i]? = some r → ss[i]? = some s → SMem w r s) := ⟨hrs, hrl, hrm⟩
  have HGd := Lib.hid hg
  clear hi hz0 hz1 hz2 hrs hrl hrm hnl hn hg hl
  go_enter Tryd.func19, Tryd.ntmps19
  go_wp2_with fail
  refine (new_any dup hh).mono ?_
  rintro e w0 ⟨q, m, v, rfl, hq, hb0⟩
  obtain ⟨B, hB⟩ : ∃ B, B = w.heap.size := ⟨_, rfl⟩
  rw [← hB] at hq
  have HB := Lib.hid hB
  have H0 : Hid (QS B w0 q m dup v [] [] ∧ Below w.heap.size w w0) := ⟨hq, hb0⟩
  clear hq hb0 hB
  go_wp2_with fail
  go_loopw [8, 16] (fun sv iv wr => ∃ (i : Nat) (v : Value) (xs ks : List Item) (sis : List Value) (outs : List (List Item)), iv = .int .i64 (i : Nat) ∧ i ≤ n ∧ Hid (RunAt B q m dup ss i sv v xs ks sis outs wr ∧ Below w.heap.size w wr)) (fun _ iv _ => n - (intOf iv).toNat)
  case atStart =>
    exact ⟨0, v, [], [], [], [], rfl, by omega, ⟨H0.out.1, Ran.nil, World.ownsRow_nil _ _ _ _, rfl, by simp, by simp [rowOf, Value.ownBlock]⟩, H0.out.2⟩
  case round =>
    obtain ⟨i, v, xs, ks, sis, outs, rfl, hin, hR⟩ := hrel
    have HR : Hid (RunAt B q m dup ss i u8 v xs ks sis outs wr ∧ Below w.heap.size w wr) := hR
    clear hR
    obtain ⟨t5, d5, rfl⟩ := own_shape HR.out.1.row
    by_cases hlt : i < n
    · have z1 : (i : Int) < (n : Int) := by omega
      have z0 : (0 : Int) ≤ (i : Int) := by omega
      obtain ⟨s, hs⟩ : ∃ s, ss[i]? = some s := ⟨_, List.getElem?_eq_getElem (by have := HN.out; omega)⟩
      obtain ⟨r, hr⟩ : ∃ r, rs[i]? = some r := ⟨_, List.getElem?_eq_getElem (by have := HN.out; have := HM.out.2.1; omega)⟩
      have hm := HM.out.2.2 i r s hr hs
      obtain ⟨x1, x2, x3, x4, x5, rfl⟩ := hm.shape
      obtain ⟨bs, os, cs, hsl, hcell⟩ := HM.out.1.at hr
      simp only [Value.slice.injEq] at hsl
      obtain ⟨rfl, hxx, rfl⟩ := hsl
      clear hxx
      have q0 := hcell 0 (.int .i64 x1) rfl
      have q1 := hcell 1 (.int .i64 x2) rfl
      have q2 := hcell 2 (.slice x3 x4 x5) rfl
      have c0 : wr.cell? ⟨bs, os + i * 3, none⟩ = some (.int .i64 x1) := (HR.out.2.cell (cell_lt' q0)).trans q0
      have c1 : wr.cell? ⟨bs, os + i * 3 + 1, none⟩ = some (.int .i64 x2) := (HR.out.2.cell (cell_lt' q1)).trans q1
      have c2 : wr.cell? ⟨bs, os + i * 3 + 2, none⟩ = some (.slice x3 x4 x5) := (HR.out.2.cell (cell_lt' q2)).trans q2
      have hbl : Below wr.heap.size wr (wr.alloc (.cells #[.int .i64 x1, .int .i64 x2, .slice x3 x4 x5] 35)) := (Below.refl _ _).alloc (Nat.le_refl _) _
      have H1 : Hid (QS B (wr.alloc (.cells #[.int .i64 x1, .int .i64 x2, .slice x3 x4 x5] 35)) q m dup v xs ks ∧ SMem (wr.alloc (.cells #[.int .i64 x1, .int .i64 x2, .slice x3 x4 x5] 35)) [.int .i64 x1, .int .i64 x2, .slice x3 x4 x5] s ∧ SOk dup s xs ks ∧ B ≤ (wr.alloc (.cells #[.int .i64 x1, .int .i64 x2, .slice x3 x4 x5] 35)).heap.size ∧ Below wr.heap.size wr (wr.alloc (.cells #[.int .i64 x1, .int .i64 x2, .slice x3 x4 x5] 35)) ∧ ss[i]? = some s) := by
        refine ⟨HR.out.1.qs.under hbl, (hm.same HR.out.2).same (hbl.mono (Nat.le_refl _)), HGd.out i s hs _ _ _ HR.out.1.ran, ?_, hbl, hs⟩
        have := HR.out.2.size
        have := hbl.size
        have := HB.out
        omega
      clear hs hr hm q0 q1 q2 hcell hbl
      go_wp2_with fail
      refine (step_any H1.out.1 H1.out.2.1 H1.out.2.2.2.1 H1.out.2.2.1).mono ?_
      rintro e w2 ⟨si, o, v', ys, ks', rfl, hp, hoff, hnew, hsr, hqs, hrw, hon⟩
      obtain ⟨s5, c5, rfl⟩ := Recs.shape hp
      generalize (o.map rec2).length = l5 at *
      obtain ⟨k1, k2, k3⟩ := HR.out.1.stepped H1.out.2.2.2.2.1 hrw hon
      have hsz : wr.heap.size ≤ w2.heap.size := Nat.le_trans (by simp) hon.size
      have HP : Hid (QS B w2 q m dup v' ys ks' ∧ Ran dup (ss.take (i + 1)) ys ks' (outs ++ [o]) ∧ (Pairs w2 (.slice s5 l5 c5) o ∧ Off w2 (q :: m :: rowOf v') (.slice s5 l5 c5) ∧ Off w2 (rowOf (.slice t5 i d5)) (.slice s5 l5 c5)) ∧ w2.ownsRow B 52 4 (.slice t5 i d5) i (sis.map said4).flatten ∧ (∀ (j : Nat) (si : Value) (o : List Item), sis[j]? = some si → outs[j]? = some o → Pairs w2 si o ∧ Off w2 (q :: m :: rowOf v') si ∧ Off w2 (rowOf (.slice t5 i d5)) si) ∧ (∀ k ∈ rowOf (.slice t5 i d5), k < w2.heap.size ∧ k ∉ q :: m :: rowOf v') ∧ Below w.heap.size w w2) := by
        refine ⟨hqs, ?_, ⟨hp, hoff, fun b o n c e => ⟨(hoff b o n c e).1, fun hm => ?_⟩⟩, k1, k2, fun k hk => ⟨Nat.lt_of_lt_of_le (k3 k hk).1 hsz, (k3 k hk).2⟩, ?_⟩
        · rw [List.take_add_one, H1.out.2.2.2.2.2]
          exact HR.out.1.ran.add hsr
        · have h1 := hnew b o n c e
          have h2 := (k3 b hm).1
          simp at h1
          omega
        · refine HR.out.2.trans ((H1.out.2.2.2.2.1.mono ?_).trans (hon.below ?_ ?_))
          · exact HR.out.2.size
          · have := HR.out.2.size; simp; omega
          · intro k hk
            rw [← HB.out]
            exact HR.out.1.qs.all_low k hk
      have hBw : B ≤ w2.heap.size := by have := HP.out.2.2.2.2.2.2.size; have := HB.out; omega
      clear hp hoff hnew hsr hqs hrw hon k1 k2 k3 c0 c1 c2 hsz
      go_wp2_with (at_builtin; go_must (refine wpList_append_own_at _ rfl (.tmp 20) (.tmp 24) 49 rfl B 52 i0 (.agg #[.slice none 0 0, .int .i64 0, .bool false, .int .i64 0]) 4 48 Tryd.underlying49 HI.out.1 HI.out.2.1 HI.out.2.2.1 HI.out.2.2.2 rfl (by decide) (.slice t5 i d5) i _ rfl (HP.out.2.2.2.1.alloc _) ⟨w2.heap.size, 0, none⟩ 1 1 (said4 (.slice s5 l5 c5)) rfl rfl ?c1 ?c2 ?c3 ?c4 ?c5 ?_))
      case c1 => exact two_cells
      case c2 => intro u hu; simp [said4] at hu; rcases hu with rfl | rfl | rfl | rfl <;> rfl
      case c3 => unfold maxLen; omega
      case c4 => omega
      case c5 => simp; omega
      intro v1 w3 hown hgrow _ hat
      have HE : Hid (RunAt B q m dup ss (i + 1) v1 v' ys ks' (sis ++ [.slice s5 l5 c5]) (outs ++ [o]) w3 ∧ Below w.heap.size w w3) := by
        have ho3 : Only (rowOf (.slice t5 i d5)) w2 w3 := ((Only.refl _ _).alloc _).grown hgrow (fun k hk => Or.inl (by simp [rowOf, hk]))
        refine ⟨RunAt.next HP.out.1 HP.out.2.1 HR.out.1.len ?_ hown HP.out.2.2.2.2.1 HP.out.2.2.1 HP.out.2.2.2.2.2.1 ho3 (fun k hk => ?_), HP.out.2.2.2.2.2.2.trans (ho3.below ?_ ?_)⟩
        · have h1 := HR.out.1.ran.len
          rw [List.length_take] at h1
          have h2 := HN.out
          omega
        · rcases hat with h | h
          · left; simp only [rowOf] at hk ⊢; rw [h] at hk; exact hk
          · right; simp only [rowOf] at hk; rw [h] at hk; simp at hk; omega
        · have := HB.out; omega
        · intro k hk
          rw [← HB.out]
          exact (own_rows HP.out.2.2.2.1 k hk).2
      clear hown hgrow hat
      go_wp2_with fail
      go_roundw
      case rel => exact ⟨i + 1, v', ys, ks', _, _, rfl, by omega, HE.out⟩
      case measure => simp [intOf]; omega
    · have z1 : ¬ (i : Int) < (n : Int) := by omega
      obtain rfl : i = n := by omega
      go_wp2_with fail
      go_ret
      have hr := HR.out.1.ran
      rw [List.take_of_length_le (by rw [HN.out]; exact Nat.le_refl _)] at hr
      refine ⟨_, sis, xs, ks, outs, rfl, hr, Recs.of_own (by decide) (by intro r hr; obtain ⟨p, _, rfl⟩ := List.mem_map.1 hr; rfl) HR.out.1.row, ⟨?_, fun j si o h1 h2 => (HR.out.1.said j si o h1 h2).1⟩, HR.out.2⟩
      rw [HR.out.1.len, hr.len, HN.out]
end Go.Proofs.YtmkbgdgfbmfbdaaDoor
