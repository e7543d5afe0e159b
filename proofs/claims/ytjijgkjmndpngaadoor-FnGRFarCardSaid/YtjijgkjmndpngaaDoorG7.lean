/- impl.GRRun, impl.GRAdj; dgFew, dgNamed. -/
import Derived.Test.YtjijgkjmndpngaaDoorG6
import Derived.Test.YtjijgkjmndpngaaDoorArgKit
namespace Go.Proofs.YtjijgkjmndpngaaDoor
open Go.RowKit

theorem own_base {w : World} {b b' : Nat} {e : TypeId} {size : Nat} {v : Value} {n : Nat} {xs : List Value} (h : w.ownsRow b e size v n xs) (hb : b' ≤ b) : w.ownsRow b' e size v n xs := by
  obtain ⟨h1, h | ⟨g, cap, cur, hv, hge, r⟩⟩ := h
  · exact ⟨h1, Or.inl h⟩
  · exact ⟨h1, Or.inr ⟨g, cap, cur, hv, Nat.le_trans hb hge, r⟩⟩
theorem v_any {B : Nat} {w : World} {p A : Nat} {G : Gr} {ne : Nat} (h : GraphAt B w p A G ne) :
    Calls Tryd.prog 14 #[.pointer (some ⟨p, 0, none⟩)] w fun e w' => e = .returned (.int .i64 (G.length : Nat)) ∧ w = w' := by
  have c1 := h.c1
  clear h
  go_enter Tryd.func14, Tryd.ntmps14
  go_wp2_with fail
  go_ret
  exact ⟨rfl, rfl⟩
theorem e_any {B : Nat} {w : World} {p A : Nat} {G : Gr} {ne : Nat} (h : GraphAt B w p A G ne) :
    Calls Tryd.prog 15 #[.pointer (some ⟨p, 0, none⟩)] w fun e w' => e = .returned (.int .i64 (ne : Nat)) ∧ w = w' := by
  have c1 := h.c2
  clear h
  go_enter Tryd.func15, Tryd.ntmps15
  go_wp2_with fail
  go_ret
  exact ⟨rfl, rfl⟩

/-- How many vertices edges have. -/
def VCount (es : List (Int × Int)) (n : Nat) : Prop := ∃ vs : List Int, vs.Nodup ∧ vs.length = n ∧ ∀ v, v ∈ vs ↔ isV es v
theorem VCount.uniq {es : List (Int × Int)} {n m : Nat} (h : VCount es n) (k : VCount es m) : n = m := by
  obtain ⟨a, a1, a2, a3⟩ := h
  obtain ⟨b, b1, b2, b3⟩ := k
  rw [← a2, ← b2]
  exact Nat.le_antisymm (nodup_len a1 fun x hx => (b3 x).2 ((a3 x).1 hx)) (nodup_len b1 fun x hx => (a3 x).2 ((b3 x).1 hx))

set_option maxRecDepth 100000 in
set_option maxHeartbeats 1000000 in
theorem grRun_any {w : World} {sl : Value} {es : List (Int × Int)} {a0 a1 a2 : Addr} (h : Pairs w sl es) (hl : es.length ≤ 100) (hs : Sents w a0 a1 a2) :
    Calls Tryd.prog 7 #[sl] w fun e w' => ∃ v nv, e = .returned (.tuple #[v, .int .i64 (nv : Nat), .int .i64 (zeros (errsFrom [] es) : Nat)]) ∧ VCount es nv ∧ nv ≤ 200 ∧ Ints w' v (errsFrom [] es) ∧ (∀ a n c, v = .slice (some a) n c → w.heap.size ≤ a.block) ∧ Below w.heap.size w w' := by
  have H := Lib.hid h
  have HS := Lib.hid hs
  have HL := Lib.hid hl
  clear h hs hl
  go_enter Tryd.func7, Tryd.ntmps7
  go_wp2_with fail
  refine (grOf_any H.out HL.out HS.out).mono ?_
  rintro e w1 ⟨p, v, rfl, ⟨A, G, ne, hG, hI, hgl, hnl⟩, hv, hlow, hb⟩
  have H1 : Hid (GraphAt w.heap.size w1 p A G ne ∧ GInv es G ne ∧ Ints w1 v (errsFrom [] es) ∧ (∀ a n c, v = .slice (some a) n c → w.heap.size ≤ a.block) ∧ Below w.heap.size w w1 ∧ G.length ≤ 200) := ⟨hG, hI, hv, hlow, hb, by have := HL.out; omega⟩
  clear hG hI hgl hnl hv hlow hb
  go_wp2_with fail
  refine (v_any H1.out.1).mono ?_
  rintro e w' ⟨rfl, rfl⟩
  go_wp2_with fail
  refine (e_any H1.out.1).mono ?_
  rintro e w' ⟨rfl, rfl⟩
  go_wp2_with fail
  go_ret3
  refine ⟨v, G.length, ?_, ⟨gkeys G, H1.out.1.keys, by simp [gkeys], H1.out.2.1.key⟩, H1.out.2.2.2.2.2, H1.out.2.2.1, H1.out.2.2.2.1, H1.out.2.2.2.2.1⟩
  rw [← H1.out.2.1.cnt]
  rfl

theorem adj_any {B : Nat} {w : World} {p A : Nat} {G : Gr} {ne : Nat} {es : List (Int × Int)} {a0 a1 a2 : Addr} (hg : GraphAt B w p A G ne) (hi : GInv es G ne) (hl : G.length ≤ 200) (hs : Sents w a0 a1 a2) (x : Int) :
    Calls Tryd.prog 21 #[.pointer (some ⟨p, 0, none⟩), ik x] w fun e w' => ∃ sl ks code, e = .returned (.tuple #[sl, errval a0 a1 a2 code]) ∧ (code = 0 ∨ code = 1) ∧ (isV es x → code = 0) ∧ Anys w' sl ks ∧ ks.Nodup ∧ (∀ k, k ∈ ks ↔ adjE es x k) ∧ ks.length ≤ 200 ∧ Below w.heap.size w w' := by
  cases hx : gfind G x with
  | none =>
    have hnv : ¬isV es x := fun h => by
      obtain ⟨q, hq⟩ := gfind_some ((hi.key x).2 h)
      rw [hx] at hq; cases hq
    refine (adj_no hg hx hs.g0).mono ?_
    rintro e w1 ⟨rfl, hb⟩
    refine ⟨.slice none 0 0, [], 1, rfl, Or.inr rfl, fun h => absurd h hnv, Or.inl ⟨rfl, rfl⟩, by simp, fun k => ?_, by simp, hb⟩
    rw [← hi.nb]
    simp [nbrs, hx]
  | some q =>
    obtain ⟨b, ns⟩ := q
    have hnb : nbrs G x = ns := by rw [nbrs, hx]; rfl
    have hnd : ns.Nodup := by
      have := (hg.adj _ (gfind_mem hx)).nodup
      rwa [keys_unitp] at this
    have hsub : ∀ {l : List Int}, l.Nodup → (∀ k ∈ l, adjE es x k) → l.length ≤ 200 := fun {l} h1 h2 => by
      have h3 : l.length ≤ (gkeys G).length := nodup_len h1 fun k hk => by
        rw [hi.key]
        obtain ⟨h4, h5 | h5⟩ := h2 k hk
        · exact ⟨_, h5, h4, Or.inr rfl⟩
        · exact ⟨_, h5, fun e => h4 e.symm, Or.inl rfl⟩
      simp [gkeys] at h3
      omega
    have hns : ns.length ≤ 200 := hsub hnd fun k hk => (hi.nb x k).1 (by rw [hnb]; exact hk)
    refine (adj_is hg hx (by omega)).mono ?_
    rintro e w1 ⟨sl, ks, rfl, h1, h2, h3, h4⟩
    have h5 : ∀ k, k ∈ ks ↔ adjE es x k := fun k => by rw [h3, ← hi.nb, hnb]
    exact ⟨sl, ks, 0, rfl, Or.inl rfl, fun _ => rfl, h1, h2, h5, hsub h2 fun k hk => (h5 k).1 hk, h4⟩

set_option maxRecDepth 100000 in
set_option maxHeartbeats 2000000 in
theorem grAdj_any {w : World} {sl : Value} {es : List (Int × Int)} {a0 a1 a2 : Addr} (h : Pairs w sl es) (hl : es.length ≤ 100) (hs : Sents w a0 a1 a2) (x : Int) :
    Calls Tryd.prog 16 #[sl, .int .i64 x] w fun e w' => ∃ v ks code, e = .returned (.tuple #[v, .int .i64 code]) ∧ (isV es x → code = 0) ∧ Ints w' v ks ∧ ks.Nodup ∧ (∀ k, k ∈ ks ↔ adjE es x k) ∧ (∀ a n c, v = .slice (some a) n c → w.heap.size ≤ a.block) ∧ ks.length ≤ 200 ∧ w'.ownsRow w.heap.size 3 1 v ks.length (ks.map (Value.int .i64)) ∧ Below w.heap.size w w' := by
  obtain ⟨i0, hi, hz0, hz1, hz2⟩ := info_at info3
  have HI : Hid (Tryd.prog.info? 3 = some i0 ∧ i0.zero = some (.int .i64 0) ∧ i0.size = 1 ∧ i0.bytes = 8) := ⟨hi, hz0, hz1, hz2⟩
  clear hi hz0 hz1 hz2
  have H := Lib.hid h
  have HS := Lib.hid hs
  have HL := Lib.hid hl
  clear h hs hl
  go_enter Tryd.func16, Tryd.ntmps16
  go_wp2_with fail
  refine (grOf_any H.out HL.out HS.out).mono ?_
  rintro e w1 ⟨p, v, rfl, ⟨A, G, ne, hG, hI, hgl, hnl⟩, hv, hlow, hb⟩
  have H1 : Hid (GraphAt w.heap.size w1 p A G ne ∧ GInv es G ne ∧ Sents w1 a0 a1 a2 ∧ Below w.heap.size w w1 ∧ G.length ≤ 200) := ⟨hG, hI, HS.out.same hb, hb, by have := HL.out; omega⟩
  clear hG hI hgl hnl hv hlow hb
  go_wp2_with fail
  refine (adj_any H1.out.1 H1.out.2.1 H1.out.2.2.2.2 H1.out.2.2.1 x).mono ?_
  rintro e w2 ⟨sl2, ks, code, rfl, hc1, hc2, hA, hnd, hks, hkl, hb⟩
  obtain ⟨s2, c2, rfl⟩ := hA.shape
  obtain ⟨n, hn⟩ : ∃ n, n = ks.length := ⟨_, rfl⟩
  have HN := Lib.hid hn
  obtain ⟨ev, hev⟩ : ∃ ev, ev = errval a0 a1 a2 code := ⟨_, rfl⟩
  have HEV := Lib.hid hev
  have H2 : Hid (Anys w2 (.slice s2 n c2) ks ∧ Sents w2 a0 a1 a2 ∧ Below w.heap.size w w2 ∧ (isV es x → code = 0) ∧ ks.Nodup ∧ (∀ k, k ∈ ks ↔ adjE es x k) ∧ (code = 0 ∨ code = 1)) := by
    refine ⟨?_, H1.out.2.2.1.same hb, H1.out.2.2.2.1.trans (hb.mono H1.out.2.2.2.1.size), hc2, hnd, hks, hc1⟩
    rw [List.length_map, ← hn] at hA
    exact hA
  rw [List.length_map, ← hn, ← hev]
  have hkl2 : n ≤ 200 := by omega
  clear hc1 hc2 hA hnd hks hkl hb hn hev
  go_wp2_with fail
  go_loopw [4, 11, 26] (fun ov _ kv wr => ∃ k : Nat, k ≤ n ∧ kv = .int .i64 k ∧ Hid (wr.ownsRow w2.heap.size 3 1 ov k ((ks.take k).map (Value.int .i64)) ∧ Below w2.heap.size w2 wr)) (fun _ _ kv _ => n - (intOf kv).toNat)
  case atStart => exact ⟨0, by omega, rfl, World.ownsRow_nil _ _ _ _, Below.refl _ _⟩
  case round =>
    obtain ⟨k, hk, rfl, hR⟩ := hrel
    have HR : Hid (wr.ownsRow w2.heap.size 3 1 _ k ((ks.take k).map (Value.int .i64)) ∧ Below w2.heap.size w2 wr) := hR
    clear hR
    obtain ⟨so3, cp3, rfl⟩ := own_shape HR.out.1
    by_cases hkn : k < n
    · obtain ⟨y, hy⟩ : ∃ y, ks[k]? = some y := ⟨ks[k]'(by rw [← HN.out]; exact hkn), List.getElem?_eq_getElem _⟩
      have HY := Lib.hid hy
      rcases H2.out.1 with ⟨h1, h2⟩ | ⟨b, o, c, h1, h2, h3⟩
      · simp at h1; omega
      · simp only [Value.slice.injEq] at h1
        obtain ⟨rfl, h5, rfl⟩ := h1
        have h4 := h3 k (by omega)
        rw [List.getElem?_map, hy] at h4
        have c0 : wr.cell? ⟨b, o + k, none⟩ = some (.iface 3 (.int .i64 y)) := (HR.out.2.cell (cell_lt' h4)).trans h4
        have hta : ∀ w : World, (Instr.typeAssert (.iface 3 (.int .i64 y)) 20 3 false).run Tryd.prog w = .ok (.int .i64 y) w := fun _ => by kernel_rfl
        clear h2 h3 h4 h5 hy
        go_wp2_with (at_builtin; go_must (refine wpList_append_own_at _ rfl _ _ 25 rfl w2.heap.size 3 i0 (.int .i64 0) 1 8 Tryd.underlying25 HI.out.1 HI.out.2.1 HI.out.2.2.1 HI.out.2.2.2 rfl (by decide) _ _ _ rfl (HR.out.1.alloc _) ⟨wr.heap.size, 0, none⟩ 1 1 [.int .i64 y] rfl rfl ?c1 ?c2 ?c3 ?c4 ?c5 ?_))
        case c1 => exact one_cell
        case c2 => intro u hu; simp at hu; subst hu; rfl
        case c3 => unfold maxLen; omega
        case c4 => omega
        case c5 => have := HR.out.2.size; simp; omega
        intro v' w3 hown' hgrow _ hblk
        obtain ⟨so4, cp4, rfl⟩ := own_shape hown'
        have HQ : Hid (w3.ownsRow w2.heap.size 3 1 (.slice so4 (k + 1) cp4) (k + 1) ((ks.take (k + 1)).map (Value.int .i64)) ∧ Below w2.heap.size w2 w3) := by
          refine ⟨?_, HR.out.2.trans (own_grown HR.out.1 hgrow HR.out.2.size)⟩
          rw [List.take_add_one, HY.out, List.map_append, List.map_take]
          exact hown'
        clear hown' hgrow hblk c0
        go_wp2_with fail
        go_roundw
        case rel => exact ⟨k + 1, by omega, by go_num, HQ.out⟩
        case measure => simp [intOf]; omega
    · have hkx : k = n := by omega
      have HK := Lib.hid hkx
      clear hkx
      have HE : Hid (Ints wr (.slice so3 k cp3) ks ∧ Sents wr a0 a1 a2 ∧ (∀ a m c, Value.slice so3 k cp3 = .slice (some a) m c → w.heap.size ≤ a.block) ∧ Below w.heap.size w wr ∧ wr.ownsRow w.heap.size 3 1 (.slice so3 k cp3) ks.length (ks.map (Value.int .i64))) := by
        have h1 := HR.out.1
        have h2 : ks.take k = ks := by rw [HK.out, HN.out, List.take_length]
        rw [h2] at h1
        exact ⟨Vals.of_own h1, H2.out.2.1.same HR.out.2, fun a m c e => Nat.le_trans H2.out.2.2.1.size (own_low h1 a m c e), H2.out.2.2.1.trans (HR.out.2.mono H2.out.2.2.1.size), own_base (by rw [HK.out, HN.out] at h1 ⊢; exact h1) H2.out.2.2.1.size⟩
      go_wp2_with fail
      rw [HEV.out]
      refine (grError_any HE.out.2.1 code (by rcases H2.out.2.2.2.2.2.2 with h | h <;> simp [h])).mono ?_
      rintro e w' ⟨rfl, rfl⟩
      go_wp2_with fail
      go_ret2
      exact ⟨_, ks, code, rfl, H2.out.2.2.2.1, HE.out.1, H2.out.2.2.2.2.1, H2.out.2.2.2.2.2.1, HE.out.2.2.1, by have := HN.out; omega, HE.out.2.2.2.2, HE.out.2.2.2.1⟩
end Go.Proofs.YtjijgkjmndpngaaDoor
