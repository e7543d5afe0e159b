/- A set in memory: All, Flatten. -/
import Derived.Test.YtjijgkjmndpngaaS2
namespace Go.Proofs.Ytjijgkjmndpngaa
open Go.RowKit

theorem own_other {w w' : World} {base : Nat} {e : TypeId} {size : Nat} {v : Value} {n : Nat} {xs : List Value} {M : List Nat} (h : w.ownsRow base e size v n xs) (ho : Only M w w')
    (hm : ∀ k ∈ M, ∀ cur e', w.heap[k]? ≠ some (.cells cur e')) : w'.ownsRow base e size v n xs := by
  obtain ⟨h1, h | ⟨g, cap, cur, hv, hge, hh, r⟩⟩ := h
  · exact ⟨h1, Or.inl h⟩
  · have hlt : g < w.heap.size := Blk.lt (show Blk w g cur e from hh)
    exact ⟨h1, Or.inr ⟨g, cap, cur, hv, hge, (ho.block g hlt fun hk => hm g hk cur e hh).trans hh, r⟩⟩
theorem IRange.not_cells {w : World} {b r : Nat} {L : List (Int × Value)} {done : List Int} (h : IRange w ik b r L done) (cur : Array Value) (e : TypeId) : w.heap[r]? ≠ some (.cells cur e) := by
  obtain ⟨E, c, s, h1, h2, h3, _⟩ := h
  rw [h3]; simp
theorem IMap.not_cells {w : World} {b : Nat} {L : List (Int × Value)} (h : IMap w ik b L) (cur : Array Value) (e : TypeId) : w.heap[b]? ≠ some (.cells cur e) := by
  obtain ⟨E, c, h1, _⟩ := h
  rw [h1.1]; simp
theorem own_block {w : World} {base : Nat} {e : TypeId} {size : Nat} {v : Value} {n : Nat} {xs : List Value} (h : w.ownsRow base e size v n xs) {k : Nat} (hk : v.ownBlock = some k) : base ≤ k ∧ ∃ cur, w.heap[k]? = some (.cells cur e) := by
  obtain ⟨_, h | ⟨g, cap, cur, hv, hge, hh, _⟩⟩ := h
  · rw [h.1] at hk; simp [Value.ownBlock] at hk
  · rw [hv] at hk; simp [Value.ownBlock] at hk; subst hk; exact ⟨hge, cur, hh⟩
theorem own_some {w : World} {base : Nat} {e : TypeId} {size : Nat} {v : Value} {n : Nat} {xs : List Value} (h : w.ownsRow base e size v n xs) (hv : v ≠ .slice none 0 0) : ∃ a cp, v = .slice (some a) n cp ∧ base ≤ a.block := by
  obtain ⟨_, h | ⟨g, cap, cur, hv2, hge, hh, _⟩⟩ := h
  · exact absurd h.1 hv
  · exact ⟨_, cap, hv2, hge⟩
theorem grown_other {w w' : World} {o : Obj} {row : Option Nat} (hg : (w.alloc o).grownBy w' row) {k : Nat} (hk : k < w.heap.size) (hr : some k ≠ row) : w'.heap[k]? = w.heap[k]? := by
  rw [hg.block k (by simp; omega) hr]
  exact heap_alloc_old w o hk

set_option maxRecDepth 100000 in
set_option maxHeartbeats 1000000 in
theorem all_any {w : World} {p b : Nat} {L : List (Int × Value)} {fl : Value} (hs : SetAt w p b L fl) {sl : Value} {xs : List Int} (h : Anys w sl xs) (hl : xs.length ≤ 1000) :
    Calls Try.prog 15 #[.pointer (some ⟨p, 0, none⟩), sl] w fun e w' => e = .returned (.bool (xs.all fun x => decide (x ∈ mkeys L))) ∧ Below w.heap.size w w' := by
  have HS := Lib.hid hs
  clear hs
  have H := Lib.hid h
  obtain ⟨so, cp, rfl⟩ := h.shape
  clear h
  obtain ⟨n, hn⟩ : ∃ n, n = xs.length := ⟨_, rfl⟩
  have HN := Lib.hid hn
  rw [List.length_map, ← hn]
  have hl2 : n ≤ 1000 := by omega
  clear hn hl
  go_enter Try.func15, Try.ntmps15
  go_wp2_with fail
  go_loopw [6, 7, 8, 11] (fun _ _ _ kv wr => ∃ k : Nat, k ≤ n ∧ kv = .int .i64 k ∧ Hid ((∀ x ∈ xs.take k, x ∈ mkeys L) ∧ Below w.heap.size w wr)) (fun _ _ _ kv _ => n - (intOf kv).toNat)
  case atStart => exact ⟨0, by omega, rfl, by simp, Below.refl _ _⟩
  case round =>
    obtain ⟨k, hk, rfl, hR⟩ := hrel
    have HR : Hid ((∀ x ∈ xs.take k, x ∈ mkeys L) ∧ Below w.heap.size w wr) := hR
    clear hR
    by_cases hkn : k < n
    · obtain ⟨x, hx⟩ : ∃ x, xs[k]? = some x := ⟨xs[k]'(by rw [← HN.out]; exact hkn), List.getElem?_eq_getElem _⟩
      have HX := Lib.hid hx
      rcases H.out with ⟨_, h2⟩ | ⟨bx, o, c, h1, h2, h3⟩
      · simp at h2; rw [HN.out, h2] at hkn; exact absurd hkn (by simp)
      · simp only [Value.slice.injEq] at h1
        obtain ⟨rfl, _, rfl⟩ := h1
        have h4 := h3 k (by rw [List.length_map, ← HN.out]; exact hkn)
        rw [List.getElem?_map, hx] at h4
        have c0 : wr.cell? ⟨bx, o + k, none⟩ = some (.iface 3 (.int .i64 x)) := (HR.out.2.cell (cell_lt' h4)).trans h4
        have c1 := (HS.out.same HR.out.2).c0
        have hlk : (Instr.lookup 48 (.map (some b)) (.iface 3 (.int .i64 x)) true).run Try.prog wr = .ok (.tuple #[.agg #[], .bool (decide (x ∈ mkeys L))]) wr := by
          have := run_look ikind Try.underlying48 (zero_unit wr) (HS.out.same HR.out.2).map x true
          rwa [if_pos rfl, look_unit HS.out.unit, mlook_isSome] at this
        clear h2 h3 h4 hx
        by_cases hin : x ∈ mkeys L
        · have HIN := Lib.hid hin
          rw [decide_eq_true hin] at hlk
          clear hin
          go_wp2_with fail
          go_roundw
          case rel =>
            refine ⟨k + 1, by omega, by go_num, ?_, HR.out.2.alloc HR.out.2.size _⟩
            rw [take_snoc HX.out]
            intro y hy
            rcases List.mem_append.1 hy with hy | hy
            · exact HR.out.1 y hy
            · simp at hy; rw [hy]; exact HIN.out
          case measure => simp [intOf]; omega
        · have HIN := Lib.hid hin
          rw [decide_eq_false hin] at hlk
          clear hin
          go_wp2_with fail
          go_ret
          refine ⟨retB ?_, HR.out.2.alloc HR.out.2.size _⟩
          symm
          rw [List.all_eq_false]
          exact ⟨x, List.mem_of_getElem? HX.out, by simp; exact HIN.out⟩
    · have hkx : k = n := by omega
      have HK := Lib.hid hkx
      clear hkx
      go_wp2_with fail
      go_ret
      refine ⟨retB ?_, HR.out.2⟩
      symm
      rw [List.all_eq_true]
      intro x hx
      have h2 : xs.take k = xs := by rw [HK.out, HN.out, List.take_length]
      have := HR.out.1 x (by rw [h2]; exact hx)
      simpa using this

set_option maxRecDepth 100000 in
set_option maxHeartbeats 1000000 in
theorem flatten_again {w : World} {p b : Nat} {L : List (Int × Value)} {a : Addr} {n cp : Nat} (hs : SetAt w p b L (.slice (some a) n cp)) :
    Calls Try.prog 16 #[.pointer (some ⟨p, 0, none⟩)] w fun e w' => e = .returned (.slice (some a) n cp) ∧ w = w' := by
  have c1 := hs.c1
  clear hs
  have hnl := fun w => run_neq_slice_nil (P := Try.prog) w 41 20 (some a) n cp Try.underlying41
  go_enter Try.func16, Try.ntmps16
  go_wp2_with fail
  go_ret
  exact ⟨rfl, rfl⟩

set_option maxRecDepth 100000 in
set_option maxHeartbeats 1000000 in
theorem flatten_any {w : World} {p b : Nat} {L : List (Int × Value)} (hs : SetAt w p b L (.slice none 0 0)) (hL : L.length ≤ 1000) :
    Calls Try.prog 16 #[.pointer (some ⟨p, 0, none⟩)] w fun e w' => ∃ a ks cp, e = .returned (.slice (some a) (List.length ks) cp) ∧ SetAt w' p b L (.slice (some a) ks.length cp) ∧ Anys w' (.slice (some a) ks.length cp) ks ∧
      ks.Nodup ∧ (∀ k, k ∈ ks ↔ k ∈ mkeys L) ∧ (∀ c, a = c → w.heap.size ≤ c.block) ∧ Only [p] w w' := by
  obtain ⟨i0, hi, hz0, hz1, hz2⟩ := info_at info20
  have HI : Hid (Try.prog.info? 20 = some i0 ∧ i0.zero = some .nilIface ∧ i0.size = 1 ∧ i0.bytes = 16) := ⟨hi, hz0, hz1, hz2⟩
  have hby := hz2
  clear hi hz0 hz1 hz2
  have hnl := fun w => run_neq_slice_nil (P := Try.prog) w 41 20 none 0 0 Try.underlying41
  have HS := Lib.hid hs
  have c0 := hs.c0
  have c1 := hs.c1
  have c2 := hs.blk.free 1
  have hplt := hs.plt
  clear hs
  go_enter Try.func16, Try.ntmps16
  go_wp2_with (first
    | (at_len; go_must (refine wpList_mlen _ rfl _ 48 rfl Try.underlying48 _ L rfl HS.out.map ?_))
    | (at_make; go_must (refine wpList_make_own _ rfl _ _ _ rfl w.heap.size 20 i0 .nilIface 1 Try.underlying41 HI.out.1 HI.out.2.1 HI.out.2.2.1 .i64 .i64 L.length L.length rfl rfl rfl (by rw [HI.out.2.2.2]; omega) (by unfold maxLen; omega) (Nat.le_refl _) ?_)))
  intro w1 hown hgrow
  have hb1 : Below w.heap.size w w1 := (Below.refl _ _).grown hgrow (Nat.le_refl _) (by simp)
  have H1 : Hid (SetAt w1 p b L (.slice none 0 0) ∧ w1.ownsRow w.heap.size 20 1 (.slice (some ⟨w.heap.size, 0, none⟩) 0 L.length) 0 [] ∧ Below w.heap.size w w1) := ⟨HS.out.same hb1, hown, hb1⟩
  have d0 := H1.out.1.c0
  have d2 := H1.out.1.blk.free 1
  have d1 := H1.out.1.c1
  have HS1 : Hid (SetAt (w1.setCell ⟨p, 1, none⟩ (.slice (some ⟨w.heap.size, 0, none⟩) 0 L.length)) p b L (.slice (some ⟨w.heap.size, 0, none⟩) 0 L.length) ∧
      (w1.setCell ⟨p, 1, none⟩ (.slice (some ⟨w.heap.size, 0, none⟩) 0 L.length)).ownsRow w.heap.size 20 1 (.slice (some ⟨w.heap.size, 0, none⟩) 0 L.length) 0 [] ∧ Only [p] w (w1.setCell ⟨p, 1, none⟩ (.slice (some ⟨w.heap.size, 0, none⟩) 0 L.length))) := by
    have ho : Only [p] w1 (w1.setCell ⟨p, 1, none⟩ (.slice (some ⟨w.heap.size, 0, none⟩) 0 L.length)) := (Only.refl [p] w1).setCell (Or.inl (by simp)) _
    exact ⟨⟨H1.out.1.blk.set 1 _, H1.out.1.map.only ho (by simp; exact H1.out.1.ne.symm), H1.out.1.ne, H1.out.1.unit⟩, ownsRow_setCell_below H1.out.2.1 hplt _, (Only.of_below H1.out.2.2).trans ho⟩
  clear hown hgrow hb1 c0 c1 c2
  go_wp2_with (at_range; go_must (refine wpList_mrange _ rfl _ _ rfl Try.underlying48 _ L rfl HS1.out.1.map ?_))
  intro w2 hrange hbl
  have hbl' : Below (w1.setCell ⟨p, 1, none⟩ (.slice (some ⟨w.heap.size, 0, none⟩) 0 L.length)).heap.size (w1.setCell ⟨p, 1, none⟩ (.slice (some ⟨w.heap.size, 0, none⟩) 0 L.length)) w2 := by simpa using hbl
  have h1 : p < w1.heap.size := H1.out.1.plt
  have h2 : w.heap.size ≤ w1.heap.size := H1.out.2.2.size
  obtain ⟨r, hr⟩ : ∃ r, r = w1.heap.size := ⟨_, rfl⟩
  rw [← hr] at hrange h1 h2
  have H2 : Hid (IRange w2 ik b r L [] ∧ SetAt w2 p b L (.slice (some ⟨w.heap.size, 0, none⟩) 0 L.length) ∧ w2.ownsRow w.heap.size 20 1 (.slice (some ⟨w.heap.size, 0, none⟩) 0 L.length) 0 [] ∧ Only [p] w w2 ∧ r ≠ p ∧ w.heap.size ≤ r) :=
    ⟨hrange, HS1.out.1.same hbl', own_other (M := []) HS1.out.2.1 (Only.of_below hbl') (by simp), HS1.out.2.2.trans (Only.of_below hbl'), by omega, h2⟩
  rw [← hr]
  clear h1 h2 hbl'
  clear hrange hbl hr d0 d1 d2 HS1 H1
  go_wp2_with fail
  go_loopw [3] (fun _ wr => ∃ (done : List Int) (a : Addr) (cp : Nat), done.length ≤ L.length ∧ Hid (IRange wr ik b r L done ∧ SetAt wr p b L (.slice (some a) done.length cp) ∧ wr.ownsRow w.heap.size 20 1 (.slice (some a) done.length cp) done.length (done.map ik) ∧ Only [p] w wr ∧ r ≠ p ∧ w.heap.size ≤ r)) (fun _ wr => L.length - (wr.iterSeen r).size)
  case atStart => exact ⟨[], _, _, by simp, H2.out⟩
  case round =>
    obtain ⟨done, a, cp, hd, hR⟩ := hrel
    have HR : Hid (IRange wr ik b r L done ∧ SetAt wr p b L (.slice (some a) done.length cp) ∧ wr.ownsRow w.heap.size 20 1 (.slice (some a) done.length cp) done.length (done.map ik) ∧ Only [p] w wr ∧ r ≠ p ∧ w.heap.size ≤ r) := hR
    clear hR
    go_wp2_with (at_next; go_must (refine wpList_mnext _ rfl _ rfl ik_inj b r L done rfl HR.out.1 ?_ ?_))
    · intro hdone
      have HD := Lib.hid hdone
      clear hdone
      have e1 := HR.out.2.1.c1
      go_wp2_with fail
      go_ret
      refine ⟨a, done, cp, rfl, HR.out.2.1, Vals.of_own HR.out.2.2.1, HR.out.1.le.1, fun k => ⟨HR.out.1.le.2 k, HD.out k⟩, ?_, HR.out.2.2.2.1⟩
      rintro c rfl
      exact (own_block HR.out.2.2.1 (by simp [Value.ownBlock])).1
    · intro k v w3 m1 m2 m3 m4 m5 m6
      have hen := m6 w3 rfl rfl
      have hrm : ∀ q ∈ [r], ∀ cur e', wr.heap[q]? ≠ some (.cells cur e') := by
        intro q hq
        simp at hq
        rw [hq]
        exact HR.out.1.not_cells
      have H3 : Hid (IRange w3 ik b r L (done ++ [k]) ∧ SetAt w3 p b L (.slice (some a) done.length cp) ∧ w3.ownsRow w.heap.size 20 1 (.slice (some a) done.length cp) done.length (done.map ik) ∧ Only [p] w w3) := by
        refine ⟨m4, HR.out.2.1.only m5 (by simp; exact HR.out.2.2.2.2.1.symm) (by simp; exact HR.out.1.ne), own_other HR.out.2.2.1 m5 hrm, HR.out.2.2.2.1.new (m5.mono (by intro q _ hq; simp at hq; simp [hq])) HR.out.2.2.2.2.2⟩
      have hlt := m4.len_le
      simp only [List.length_append, List.length_singleton] at hlt
      have e1 := H3.out.2.1.c1
      clear m1 m2 m3 m4 m5 m6 hrm
      simp only [ik] at hen ⊢
      go_wp2_with (at_builtin; go_must (refine wpList_append_own_at _ rfl _ _ 41 rfl w.heap.size 20 i0 .nilIface 1 16 Try.underlying41 HI.out.1 HI.out.2.1 HI.out.2.2.1 HI.out.2.2.2 rfl (by decide) _ _ _ rfl (H3.out.2.2.1.alloc _) ⟨w3.heap.size, 0, none⟩ 1 1 [ik k] rfl rfl ?c1 ?c2 ?c3 ?c4 ?c5 ?_))
      case c1 => exact one_cell
      case c2 => intro u hu; simp at hu; subst hu; rfl
      case c3 => unfold maxLen; omega
      case c4 => omega
      case c5 => have := H3.out.2.2.2.size; simp; omega
      intro v' w4 hown' hgrow hnil _
      obtain ⟨a', cp', rfl, ha'⟩ := own_some hown' (fun e => hnil e)
      have hkp : ∀ q, q < w3.heap.size → (∀ cur e', w3.heap[q]? ≠ some (.cells cur e')) ∨ q < w.heap.size → w4.heap[q]? = w3.heap[q]? := by
        intro q hq hc
        refine grown_other hgrow hq ?_
        intro hrow
        obtain ⟨h5, cur, h6⟩ := own_block H3.out.2.2.1 hrow.symm
        rcases hc with hc | hc
        · exact hc cur _ h6
        · omega
      have hb4 := hkp b H3.out.2.1.blt (Or.inl H3.out.2.1.map.not_cells)
      have hr4 := hkp r H3.out.1.rlt (Or.inl H3.out.1.not_cells)
      have hp4 := hkp p H3.out.2.1.plt (Or.inr hplt)
      have f1 : w4.cell? ⟨p, 1, none⟩ = some (.slice (some a) done.length cp) := (World.cell?_of_block hp4).trans e1
      have HB4 : Blk w4 p #[.map (some b), .slice (some a) done.length cp] 50 := hp4.trans H3.out.2.1.blk
      have f2 := HB4.free 1
      have H4 : Hid (IRange (w4.setCell ⟨p, 1, none⟩ (.slice (some a') (done.length + 1) cp')) ik b r L (done ++ [k]) ∧ SetAt (w4.setCell ⟨p, 1, none⟩ (.slice (some a') (done.length + 1) cp')) p b L (.slice (some a') (done ++ [k]).length cp') ∧
          (w4.setCell ⟨p, 1, none⟩ (.slice (some a') (done.length + 1) cp')).ownsRow w.heap.size 20 1 (.slice (some a') (done ++ [k]).length cp') (done ++ [k]).length ((done ++ [k]).map ik) ∧ Only [p] w (w4.setCell ⟨p, 1, none⟩ (.slice (some a') (done.length + 1) cp')) ∧ r ≠ p ∧ w.heap.size ≤ r) := by
        have hne := H3.out.2.1.ne
        have hrp := HR.out.2.2.2.2.1
        rw [List.length_append, List.length_singleton]
        refine ⟨H3.out.1.heap ((Below.heap_setCell _ _ _ _ hne.symm).trans hb4) ((Below.heap_setCell _ _ _ _ hrp).trans hr4), ⟨HB4.set 1 _, H3.out.2.1.map.heap ((Below.heap_setCell _ _ _ _ hne.symm).trans hb4), hne, H3.out.2.1.unit⟩, ?_, ?_, hrp, HR.out.2.2.2.2.2⟩
        · rw [List.map_append]
          exact ownsRow_setCell_below hown' hplt _
        · exact ((H3.out.2.2.2.alloc _).grown hgrow (fun q hq => Or.inr (own_block H3.out.2.2.1 hq).1)).setCell (Or.inl (by simp)) _
      have hm3 : (w4.iterSeen r).size = done.length + 1 := by
        unfold World.iterSeen
        rw [hr4]
        have := H3.out.1.seen
        unfold World.iterSeen at this
        rw [this]
        simp
      have hms : ((w4.setCell ⟨p, 1, none⟩ (.slice (some a') (done.length + 1) cp')).iterSeen r).size = done.length + 1 := by
        have h7 := H4.out.1.seen
        rw [h7]
        simp
      have hm0 := HR.out.1.seen
      clear hown' hgrow hnil hkp hb4 hr4 hp4 HB4 e1 hen hm3
      go_wp2_with fail
      go_roundw
      case rel => exact ⟨done ++ [k], a', cp', by simp; omega, H4.out⟩
      case measure => rw [hms, hm0]; omega
end Go.Proofs.Ytjijgkjmndpngaa
