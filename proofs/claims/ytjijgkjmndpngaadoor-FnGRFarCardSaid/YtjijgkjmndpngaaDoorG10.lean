/- dgFar finds how far a vertex is from another one. -/
import Derived.Test.YtjijgkjmndpngaaDoorG9
namespace Go.Proofs.YtjijgkjmndpngaaDoor
open Go.RowKit

abbrev Row (B : Nat) (w : World) (v : Value) (xs : List Int) : Prop := w.ownsRow B 3 1 v xs.length (xs.map (Value.int .i64))
def lenOf : Value → Nat
  | .slice _ n _ => n
  | _ => 0
def Sep (u v : Value) : Prop := ∀ k, u.ownBlock = some k → v.ownBlock ≠ some k
section
variable {B : Nat} {w w' : World} {v u : Value} {xs : List Int}
theorem Row.below (h : Row B w v xs) (hb : Below w.heap.size w w') : Row B w' v xs := own_keep (M := []) h (Only.of_below hb) (by simp)
theorem Row.lt (h : Row B w v xs) {k : Nat} (hk : v.ownBlock = some k) : k < w.heap.size := by
  obtain ⟨_, cur, h2⟩ := own_block h hk
  exact (Array.getElem?_eq_some_iff.1 h2).1
theorem Row.grown {o : Obj} {row : Option Nat} (h : Row B w v xs) (hg : (w.alloc o).grownBy w' row) (hs : ∀ k, v.ownBlock = some k → row ≠ some k) : Row B w' v xs := by
  obtain ⟨h1, h | ⟨g, cap, cur, hv, hge, hh, r⟩⟩ := h
  · exact ⟨h1, Or.inl h⟩
  · have hlt : g < w.heap.size := Blk.lt (show Blk w g cur _ from hh)
    exact ⟨h1, Or.inr ⟨g, cap, cur, hv, hge, (grown_other hg hlt fun e => hs g (by rw [hv]; simp [Value.ownBlock]) e.symm).trans hh, r⟩⟩
theorem Row.shape (h : Row B w v xs) : ∃ so cp, v = .slice so xs.length cp := own_shape h
theorem Sep.symm (h : Sep u v) : Sep v u := fun k hv hu => h k hu hv
/-- A row that has grown stays apart from another one. -/
theorem Sep.grow {v' : Value} {K : Nat} (h : Sep v u) (hv : v'.ownBlock = v.ownBlock ∨ v'.ownBlock = some K) (hu : ∀ k, u.ownBlock = some k → k < K) : Sep v' u := by
  intro k hk hk2
  rcases hv with e | e
  · exact h k (by rw [← e]; exact hk) hk2
  · rw [e] at hk
    simp at hk
    have := hu k hk2
    omega
end
theorem Sep.nil (v : Value) : Sep v (.slice none 0 0) := fun k _ h => by simp [Value.ownBlock] at h

set_option maxRecDepth 100000 in
set_option maxHeartbeats 4000000 in
theorem far_any {w : World} {sl : Value} {es : List (Int × Int)} {a0 a1 a2 : Addr} (h : Pairs w sl es) (hl : es.length ≤ 20) (hs : Sents w a0 a1 a2) (u t : Int) :
    Calls Tryd.prog 12 #[sl, .int .i64 u, .int .i64 t] w fun e w' => ∃ d : Int, e = .returned (.int .i64 d) ∧ IsDist es u t d ∧ d ≤ 100 ∧ Below w.heap.size w w' := by
  obtain ⟨i0, hi, hz0, hz1, hz2⟩ := info_at info3
  have HI : Hid (Tryd.prog.info? 3 = some i0 ∧ i0.zero = some (.int .i64 0) ∧ i0.size = 1 ∧ i0.bytes = 8) := ⟨hi, hz0, hz1, hz2⟩
  clear hi hz0 hz1 hz2
  have H := Lib.hid h
  have HS := Lib.hid hs
  have HL := Lib.hid hl
  clear h hs hl
  obtain ⟨W, hW⟩ : ∃ W, W = (w.alloc (.cells #[.int .i64 u] 3)).alloc (.cells #[.int .i64 u] 3) := ⟨_, rfl⟩
  have HW : Hid (Row w.heap.size W (.slice (some ⟨w.heap.size, 0, none⟩) 1 1) [u] ∧ Row w.heap.size W (.slice (some ⟨w.heap.size + 1, 0, none⟩) 1 1) [u] ∧ Below w.heap.size w W) := by
    rw [hW]
    refine ⟨⟨by simp, Or.inr ⟨w.heap.size, 1, #[.int .i64 u], rfl, Nat.le_refl _, (Blk.new w _ _).alloc _, by simp, by simp [maxLen], by simp, by simp⟩⟩, ⟨by simp, Or.inr ⟨w.heap.size + 1, 1, #[.int .i64 u], rfl, by omega, ?_, by simp, by simp [maxLen], by simp, by simp⟩⟩, ((Below.refl _ _).alloc (Nat.le_refl _) _).alloc (by simp) _⟩
    have := Blk.new (w.alloc (.cells #[.int .i64 u] 3)) #[.int .i64 u] 3
    simp at this
    exact this
  have HWW := Lib.hid hW
  clear hW
  go_enter Tryd.func12, Tryd.ntmps12
  go_wp2_with fail
  rw [← HWW.out]
  go_loopw [7, 8, 9] (fun sv nv iv wr => ∃ (n : Nat) (seen now : List Int), iv = .int .i64 n ∧ Hid (BFS es u t n seen now ∧ Row w.heap.size wr sv seen ∧ Row w.heap.size wr nv now ∧ Sep sv nv ∧ Below w.heap.size w wr ∧ n ≤ seen.length ∧ (now ≠ [] → n + 1 ≤ seen.length) ∧ now.length ≤ seen.length)) (fun sv nv _ _ => 2 * (100 - lenOf sv) + (if lenOf nv = 0 then 0 else 1))
  case atStart => exact ⟨0, [u], [u], rfl, BFS.start _ _ _, HW.out.1, HW.out.2.1, fun k hk hk2 => by simp [Value.ownBlock] at hk hk2; omega, HW.out.2.2, by simp, by simp, by simp⟩
  case round =>
    obtain ⟨n, seen, now, rfl, hR⟩ := hrel
    have HR : Hid (BFS es u t n seen now ∧ Row w.heap.size wr _ seen ∧ Row w.heap.size wr _ now ∧ Sep _ _ ∧ Below w.heap.size w wr ∧ n ≤ seen.length ∧ (now ≠ [] → n + 1 ≤ seen.length) ∧ now.length ≤ seen.length) := hR
    clear hR
    obtain ⟨s1, c1, rfl⟩ := HR.out.2.1.shape
    obtain ⟨s2, c2, rfl⟩ := HR.out.2.2.1.shape
    obtain ⟨m, hm⟩ : ∃ m, m = now.length := ⟨_, rfl⟩
    obtain ⟨q, hq⟩ : ∃ q, q = seen.length := ⟨_, rfl⟩
    have HM := Lib.hid hm
    have HQ := Lib.hid hq
    have hq2 : q ≤ 41 := by have := HR.out.1.few; have := HL.out; omega
    have hm2 : m ≤ 41 := by have := HR.out.2.2.2.2.2.2.2; omega
    have hn2 : n ≤ 41 := by have := HR.out.2.2.2.2.2.1; omega
    rw [← hm, ← hq]
    clear hm hq
    by_cases hm0 : m = 0
    · subst hm0
      go_wp2_with fail
      go_ret
      have hnow : now = [] := List.length_eq_zero_iff.1 HM.out.symm
      have hb := HR.out.1
      rw [hnow] at hb
      exact ⟨-1, rfl, hb.stuck, by decide, HR.out.2.2.2.2.1⟩
    · have hmp : 0 < m := by omega
      clear hm0
      go_wp2_with fail
      refine (contains_any (xs := now) (by have := Vals.of_own HR.out.2.2.1; rw [← HM.out] at this; exact this) t (by omega)).mono ?_
      rintro e w' ⟨rfl, rfl⟩
      by_cases ht : t ∈ now
      · have HT := Lib.hid ht
        rw [decide_eq_true ht]
        clear ht
        go_wp2_with fail
        go_ret
        exact ⟨n, rfl, HR.out.1.found HT.out, by omega, HR.out.2.2.2.2.1⟩
      · have HT := Lib.hid ht
        rw [decide_eq_false ht]
        clear ht
        obtain ⟨wo, hwo⟩ : ∃ wo : World, wo = wr := ⟨_, rfl⟩
        rw [← hwo]
        rw [← hwo] at HR
        clear hwo
        rw [← HM.out, ← HQ.out] at HR
        go_wp2_with fail
        go_loopw [7, 10, 32] (fun sv xv jv wr => ∃ (j : Nat) (sn nx : List Int), j ≤ m ∧ jv = .int .i64 j ∧ Hid (Part es seen (now.take j) none sn nx ∧ Row w.heap.size wr sv sn ∧ Row w.heap.size wr xv nx ∧ Row w.heap.size wr (.slice s2 m c2) now ∧ Sep sv xv ∧ Sep sv (.slice s2 m c2) ∧ Sep xv (.slice s2 m c2) ∧ Below w.heap.size w wr)) (fun _ _ jv _ => m - (intOf jv).toNat)
        case atStart => exact ⟨0, seen, [], by omega, rfl, Part.start HR.out.1.nd, by rw [HQ.out]; rw [HQ.out] at HR; exact HR.out.2.1, World.ownsRow_nil _ _ _ _, by rw [HM.out]; rw [HM.out] at HR; exact HR.out.2.2.1, Sep.nil _, HR.out.2.2.2.1, (Sep.nil _).symm, HR.out.2.2.2.2.1⟩
        case round =>
          obtain ⟨j, sn, nx, hj, rfl, hR⟩ := hrel
          have H2 : Hid (Part es seen (now.take j) none sn nx ∧ Row w.heap.size wr _ sn ∧ Row w.heap.size wr _ nx ∧ Row w.heap.size wr (.slice s2 m c2) now ∧ Sep _ _ ∧ Sep _ (.slice s2 m c2) ∧ Sep _ (.slice s2 m c2) ∧ Below w.heap.size w wr) := hR
          clear hR
          obtain ⟨t1, d1, rfl⟩ := H2.out.2.1.shape
          obtain ⟨t2, d2, rfl⟩ := H2.out.2.2.1.shape
          by_cases hjm : j < m
          · obtain ⟨x, hx⟩ : ∃ x, now[j]? = some x := ⟨now[j]'(by rw [← HM.out]; exact hjm), List.getElem?_eq_getElem _⟩
            have HX := Lib.hid hx
            have hI : Ints wr (.slice s2 m c2) now := Vals.of_own H2.out.2.2.2.1
            obtain ⟨b1, o1, hs2, c0⟩ := hI.at hx
            subst hs2
            clear hI hx
            go_wp2_with fail
            refine (grAdj_any (H.out.same H2.out.2.2.2.2.2.2.2) (by have := HL.out; omega) (HS.out.same H2.out.2.2.2.2.2.2.2) x).mono ?_
            rintro e w5 ⟨av, ks, code, rfl, _, _, hnd, hks, _, hkl, hrow, hb⟩
            obtain ⟨s5, c5, rfl⟩ := own_shape hrow
            obtain ⟨d, hd⟩ : ∃ d, d = ks.length := ⟨_, rfl⟩
            have HD := Lib.hid hd
            have H3 : Hid (Part es seen (now.take j) (some (x, [])) sn nx ∧ Row w.heap.size w5 (.slice t1 sn.length d1) sn ∧ Row w.heap.size w5 (.slice t2 nx.length d2) nx ∧ Row w.heap.size w5 (.slice (some ⟨b1, o1, none⟩) m c2) now ∧ Row w.heap.size w5 (.slice s5 d c5) ks ∧ Sep (.slice t1 sn.length d1) (.slice t2 nx.length d2) ∧ Sep (.slice t1 sn.length d1) (.slice (some ⟨b1, o1, none⟩) m c2) ∧ Sep (.slice t2 nx.length d2) (.slice (some ⟨b1, o1, none⟩) m c2) ∧ Sep (.slice t1 sn.length d1) (.slice s5 d c5) ∧ Sep (.slice t2 nx.length d2) (.slice s5 d c5) ∧ Below w.heap.size w w5) := by
              obtain ⟨r1, r2, r3, r4, r5, r6, r7, r8⟩ := H2.out
              have hrow' := own_base hrow r8.size
              rw [← hd] at hrow' hrow
              refine ⟨r1.open x, r2.below hb, r3.below hb, r4.below hb, by rw [hd] at hrow' ⊢; exact hrow', r5, r6, r7, fun k hk hk2 => ?_, fun k hk hk2 => ?_, r8.trans (hb.mono r8.size)⟩
              · have e1 := r2.lt hk
                have e2 := (own_block hrow hk2).1
                omega
              · have e1 := r3.lt hk
                have e2 := (own_block hrow hk2).1
                omega
            have HKS : Hid (∀ k, k ∈ ks ↔ adjE es x k) := Lib.hid hks
            have hd2 : d ≤ 200 := by omega
            rw [← hd]
            clear hnd hks hkl hrow hb hd c0
            go_wp2_with fail
            go_loopw [7, 10, 44] (fun sv xv iv wr => ∃ (i : Nat) (sn nx : List Int), i ≤ d ∧ iv = .int .i64 i ∧ Hid (Part es seen (now.take j) (some (x, ks.take i)) sn nx ∧ Row w.heap.size wr sv sn ∧ Row w.heap.size wr xv nx ∧ Row w.heap.size wr (.slice (some ⟨b1, o1, none⟩) m c2) now ∧ Row w.heap.size wr (.slice s5 d c5) ks ∧ Sep sv xv ∧ Sep sv (.slice (some ⟨b1, o1, none⟩) m c2) ∧ Sep xv (.slice (some ⟨b1, o1, none⟩) m c2) ∧ Sep sv (.slice s5 d c5) ∧ Sep xv (.slice s5 d c5) ∧ Below w.heap.size w wr)) (fun _ _ iv _ => d - (intOf iv).toNat)
            case atStart => exact ⟨0, sn, nx, by omega, rfl, H3.out⟩
            case round =>
              obtain ⟨i, sn, nx, hi, rfl, hR⟩ := hrel
              have H4 : Hid (Part es seen (now.take j) (some (x, ks.take i)) sn nx ∧ Row w.heap.size wr _ sn ∧ Row w.heap.size wr _ nx ∧ Row w.heap.size wr (.slice (some ⟨b1, o1, none⟩) m c2) now ∧ Row w.heap.size wr (.slice s5 d c5) ks ∧ Sep _ _ ∧ Sep _ (.slice (some ⟨b1, o1, none⟩) m c2) ∧ Sep _ (.slice (some ⟨b1, o1, none⟩) m c2) ∧ Sep _ (.slice s5 d c5) ∧ Sep _ (.slice s5 d c5) ∧ Below w.heap.size w wr) := hR
              clear hR
              obtain ⟨t3, d3, rfl⟩ := H4.out.2.1.shape
              obtain ⟨t4, d4, rfl⟩ := H4.out.2.2.1.shape
              have hsn : sn.length ≤ 41 := by
                have h1 := Part.few HR.out.1 (fun y hy => List.mem_of_mem_take hy) (fun q hq v hv => by simp at hq; subst hq; exact ⟨x, List.mem_of_getElem? HX.out, (HKS.out v).1 (List.mem_of_mem_take hv)⟩) H4.out.1
                have := HL.out
                omega
              have hnx : nx.length ≤ 41 := by have := H4.out.1.len; omega
              obtain ⟨ln, hln⟩ : ∃ l, l = sn.length := ⟨_, rfl⟩
              obtain ⟨lx, hlx⟩ : ∃ l, l = nx.length := ⟨_, rfl⟩
              have HLN := Lib.hid hln
              have HLX := Lib.hid hlx
              rw [← hln] at hsn H4 ⊢
              rw [← hlx] at hnx H4 ⊢
              clear hln hlx
              by_cases hid : i < d
              · obtain ⟨y, hy⟩ : ∃ y, ks[i]? = some y := ⟨ks[i]'(by rw [← HD.out]; exact hid), List.getElem?_eq_getElem _⟩
                have HY := Lib.hid hy
                have hI : Ints wr (.slice s5 d c5) ks := Vals.of_own H4.out.2.2.2.2.1
                obtain ⟨b2, o2, hs5, c0⟩ := hI.at hy
                subst hs5
                clear hI hy
                go_wp2_with fail
                refine (contains_any (xs := sn) (Vals.of_own H4.out.2.1) y (by omega)).mono ?_
                rintro e w' ⟨rfl, rfl⟩
                by_cases hin : y ∈ sn
                · have HIN := Lib.hid hin
                  rw [decide_eq_true hin]
                  clear hin
                  go_wp2_with fail
                  go_roundw
                  case rel =>
                    refine ⟨i + 1, sn, nx, by omega, by go_num, ?_, H4.out.2⟩
                    rw [List.take_add_one, HY.out]
                    exact H4.out.1.skip HIN.out
                  case measure => simp [intOf]; omega
                · have HIN := Lib.hid hin
                  rw [decide_eq_false hin]
                  clear hin
                  have hlw : w.heap.size ≤ wr.heap.size := H4.out.2.2.2.2.2.2.2.2.2.2.size
                  go_wp2_with (at_builtin; go_must (refine wpList_append_own_at _ rfl (.tmp 52) (.tmp 54) 25 rfl w.heap.size 3 i0 (.int .i64 0) 1 8 Tryd.underlying25 HI.out.1 HI.out.2.1 HI.out.2.2.1 HI.out.2.2.2 rfl (by decide) (.slice t3 ln d3) sn.length _ rfl (H4.out.2.1.alloc _) ⟨wr.heap.size, 0, none⟩ 1 1 [.int .i64 y] rfl rfl ?c1 ?c2 ?c3 ?c4 ?c5 ?_))
                  case c1 => exact one_cell
                  case c2 => intro u hu; simp at hu; subst hu; rfl
                  case c3 => unfold maxLen; have := HLN.out; omega
                  case c4 => have := HLN.out; omega
                  case c5 => simp; omega
                  intro v6 w6 hown hgrow _ hat
                  obtain ⟨t6, d6, rfl⟩ := own_shape hown
                  have H6 : Hid (Row w.heap.size w6 (.slice t6 (ln + 1) d6) (sn ++ [y]) ∧ Row w.heap.size w6 (.slice t4 lx d4) nx ∧ Row w.heap.size w6 (.slice (some ⟨b1, o1, none⟩) m c2) now ∧ Row w.heap.size w6 (.slice (some ⟨b2, o2, none⟩) d c5) ks ∧ Sep (.slice t6 (ln + 1) d6) (.slice t4 lx d4) ∧ Sep (.slice t6 (ln + 1) d6) (.slice (some ⟨b1, o1, none⟩) m c2) ∧ Sep (.slice t6 (ln + 1) d6) (.slice (some ⟨b2, o2, none⟩) d c5) ∧ Below w.heap.size w w6) := by
                    obtain ⟨r1, r2, r3, r4, r5, r6, r7, r8, r9, r10, r11⟩ := H4.out
                    have hz : ∀ {v xs}, Row w.heap.size wr v xs → ∀ k, v.ownBlock = some k → k < wr.heap.size + 1 := fun h k hk => by
                      have := h.lt hk; omega
                    rw [← HLN.out] at hown hat
                    refine ⟨by show w6.ownsRow _ _ _ _ _ _; rw [List.length_append, List.map_append, ← HLN.out]; exact hown, r3.grown hgrow fun k hk hk2 => r6 k hk2 hk, r4.grown hgrow fun k hk hk2 => r7 k hk2 hk, r5.grown hgrow fun k hk hk2 => r9 k hk2 hk, r6.grow hat (hz r3), r7.grow hat (hz r4), r9.grow hat (hz r5), ?_⟩
                    exact (r11.alloc r11.size _).grown hgrow (by have := r11.size; simp; omega) fun k hk => (own_block r2 hk).1
                  rw [← HLN.out]
                  have hlw6 : w.heap.size ≤ w6.heap.size := H6.out.2.2.2.2.2.2.2.size
                  clear hown hgrow hat hlw c0
                  go_wp2_with (at_builtin; go_must (refine wpList_append_own_at _ rfl (.tmp 56) (.tmp 58) 25 rfl w.heap.size 3 i0 (.int .i64 0) 1 8 Tryd.underlying25 HI.out.1 HI.out.2.1 HI.out.2.2.1 HI.out.2.2.2 rfl (by decide) (.slice t4 lx d4) nx.length _ rfl (H6.out.2.1.alloc _) ⟨w6.heap.size, 0, none⟩ 1 1 [.int .i64 y] rfl rfl ?e1 ?e2 ?e3 ?e4 ?e5 ?_))
                  case e1 => exact one_cell
                  case e2 => intro u hu; simp at hu; subst hu; rfl
                  case e3 => unfold maxLen; have := HLX.out; omega
                  case e4 => have := HLX.out; omega
                  case e5 => simp; omega
                  intro v7 w7 hown hgrow _ hat
                  obtain ⟨t7, d7, rfl⟩ := own_shape hown
                  have H7 : Hid (Row w.heap.size w7 (.slice t6 (ln + 1) d6) (sn ++ [y]) ∧ Row w.heap.size w7 (.slice t7 (lx + 1) d7) (nx ++ [y]) ∧ Row w.heap.size w7 (.slice (some ⟨b1, o1, none⟩) m c2) now ∧ Row w.heap.size w7 (.slice (some ⟨b2, o2, none⟩) d c5) ks ∧ Sep (.slice t6 (ln + 1) d6) (.slice t7 (lx + 1) d7) ∧ Sep (.slice t6 (ln + 1) d6) (.slice (some ⟨b1, o1, none⟩) m c2) ∧ Sep (.slice t7 (lx + 1) d7) (.slice (some ⟨b1, o1, none⟩) m c2) ∧ Sep (.slice t6 (ln + 1) d6) (.slice (some ⟨b2, o2, none⟩) d c5) ∧ Sep (.slice t7 (lx + 1) d7) (.slice (some ⟨b2, o2, none⟩) d c5) ∧ Below w.heap.size w w7) := by
                    obtain ⟨r1, r2, r3, r4, r5, r6, r7, r8⟩ := H6.out
                    obtain ⟨_, _, _, _, _, _, _, q8, _, q10, _⟩ := H4.out
                    have hz : ∀ {v xs}, Row w.heap.size w6 v xs → ∀ k, v.ownBlock = some k → k < w6.heap.size + 1 := fun h k hk => by
                      have := h.lt hk; omega
                    rw [← HLX.out] at hown hat
                    refine ⟨r1.grown hgrow fun k hk hk2 => r5 k hk hk2, by show w7.ownsRow _ _ _ _ _ _; rw [List.length_append, List.map_append, ← HLX.out]; exact hown, r3.grown hgrow fun k hk hk2 => q8 k hk2 hk, r4.grown hgrow fun k hk hk2 => q10 k hk2 hk, (r5.symm.grow hat (hz r1)).symm, r6, q8.grow hat (hz r3), r7, q10.grow hat (hz r4), ?_⟩
                    exact (r8.alloc r8.size _).grown hgrow (by have := r8.size; simp; omega) fun k hk => (own_block r2 hk).1
                  rw [← HLX.out]
                  clear hown hgrow hat hlw6
                  go_wp2_with fail
                  go_roundw
                  case rel =>
                    refine ⟨i + 1, sn ++ [y], nx ++ [y], by omega, by go_num, ?_, H7.out⟩
                    rw [List.take_add_one, HY.out]
                    exact H4.out.1.take HIN.out
                  case measure => simp [intOf]; omega
              · have hix : i = d := by omega
                have HIX := Lib.hid hix
                clear hix
                go_wp2_with fail
                go_roundw
                case rel =>
                  have h1 := H4.out.1
                  rw [HIX.out, HD.out, List.take_length] at h1
                  obtain ⟨r1, r2, r3, r4, r5, r6, r7, r8, r9, r10, r11⟩ := H4.out
                  refine ⟨j + 1, sn, nx, by omega, by go_num, ?_, r2, r3, r4, r6, r7, r8, r11⟩
                  rw [List.take_add_one, HX.out]
                  exact h1.shut HKS.out
                case measure => simp [intOf]; omega
          · have hjx : j = m := by omega
            have HJX := Lib.hid hjx
            clear hjx
            go_wp2_with fail
            go_roundw
            case rel =>
              have h1 := H2.out.1
              rw [HJX.out, HM.out, List.take_length] at h1
              have hlen := h1.len
              obtain ⟨r1, r2, r3, r4, r5, r6, r7, r8⟩ := H2.out
              have hq1 : n + 1 ≤ q := HR.out.2.2.2.2.2.2.1 (fun e => by have := HM.out; rw [e] at this; simp at this; omega)
              refine ⟨n + 1, sn, nx, by go_num, HR.out.1.next h1 HT.out, r2, r3, r5, r8, by have := HQ.out; omega, fun hne => ?_, by omega⟩
              have := List.length_pos_iff.2 hne
              have := HQ.out
              omega
            case measure =>
              have h1 := H2.out.1
              rw [HJX.out, HM.out, List.take_length] at h1
              have hlen := h1.len
              have := HQ.out
              have hsn : sn.length ≤ 41 := by
                have h2 := Part.few HR.out.1 (fun y hy => hy) (fun q hq => by cases hq) h1
                have := HL.out
                omega
              show 2 * (100 - sn.length) + (if nx.length = 0 then 0 else 1) < 2 * (100 - q) + (if m = 0 then 0 else 1)
              rw [if_neg (by omega : ¬m = 0)]
              split <;> omega
end Go.Proofs.YtjijgkjmndpngaaDoor
