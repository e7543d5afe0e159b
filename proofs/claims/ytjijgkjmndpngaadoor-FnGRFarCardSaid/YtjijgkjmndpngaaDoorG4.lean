/- Graphs of edges: impl.grOf. -/
import Derived.Test.YtjijgkjmndpngaaDoorG3
namespace Go.Proofs.YtjijgkjmndpngaaDoor
open Go.RowKit

theorem own_block {w : World} {base : Nat} {e : TypeId} {size : Nat} {v : Value} {n : Nat} {xs : List Value} (h : w.ownsRow base e size v n xs) {k : Nat} (hk : v.ownBlock = some k) : base ≤ k ∧ ∃ cur, w.heap[k]? = some (.cells cur e) := by
  obtain ⟨_, h | ⟨g, cap, cur, hv, hge, hh, _⟩⟩ := h
  · rw [h.1] at hk; simp [Value.ownBlock] at hk
  · rw [hv] at hk; simp [Value.ownBlock] at hk; subst hk; exact ⟨hge, cur, hh⟩
theorem grown_other {w w' : World} {o : Obj} {row : Option Nat} (hg : (w.alloc o).grownBy w' row) {k : Nat} (hk : k < w.heap.size) (hr : some k ≠ row) : w'.heap[k]? = w.heap[k]? := by
  rw [hg.block k (by simp; omega) hr]
  exact heap_alloc_old w o hk
theorem own_keep {w w' : World} {base : Nat} {e : TypeId} {size : Nat} {v : Value} {n : Nat} {xs : List Value} {M : List Nat} (h : w.ownsRow base e size v n xs) (ho : Only M w w')
    (hm : ∀ k ∈ M, k < base ∨ ∀ cur e', w.heap[k]? ≠ some (.cells cur e')) : w'.ownsRow base e size v n xs := by
  obtain ⟨h1, h | ⟨g, cap, cur, hv, hge, hh, r⟩⟩ := h
  · exact ⟨h1, Or.inl h⟩
  · have hlt : g < w.heap.size := Blk.lt (show Blk w g cur e from hh)
    refine ⟨h1, Or.inr ⟨g, cap, cur, hv, hge, (ho.block g hlt fun hk => ?_).trans hh, r⟩⟩
    rcases hm g hk with h2 | h2
    · omega
    · exact h2 cur e hh
theorem IMap.not_cells {α : Type} {mk : α → Value} {w : World} {b : Nat} {L : List (α × Value)} (h : IMap w mk b L) (cur : Array Value) (e : TypeId) : w.heap[b]? ≠ some (.cells cur e) := by
  obtain ⟨E, c, h1, _⟩ := h
  rw [h1.1]; simp
section
variable {B : Nat} {w w' : World} {p A : Nat} {G : Gr} {ne : Nat}
theorem GraphAt.heap (h : GraphAt B w p A G ne) (he : ∀ k ∈ p :: A :: gblks G, w'.heap[k]? = w.heap[k]?) : GraphAt B w' p A G ne :=
  ⟨(he p (by simp)).trans h.blk, h.map.heap (he A (by simp)), fun x hx => (h.adj x hx).heap (he _ (by have : x.2.1 ∈ gblks G := List.mem_map.2 ⟨x, hx, rfl⟩; simp [this])), h.nd, h.low⟩
theorem GraphAt.maps (h : GraphAt B w p A G ne) {k : Nat} (hk : k ∈ gblks G) (cur : Array Value) (e : TypeId) : w.heap[k]? ≠ some (.cells cur e) := by
  obtain ⟨x, hx, rfl⟩ := List.mem_map.1 hk
  exact (h.adj x hx).not_cells cur e
theorem GraphAt.lts (h : GraphAt B w p A G ne) {k : Nat} (hk : k ∈ p :: A :: gblks G) : k < w.heap.size := by
  simp only [List.mem_cons] at hk
  rcases hk with rfl | rfl | hk
  · exact h.blk.lt
  · exact h.map.lt
  · obtain ⟨x, hx, rfl⟩ := List.mem_map.1 hk
    exact (h.adj x hx).lt
theorem GraphAt.grown {base : Nat} {e : TypeId} {size : Nat} {v : Value} {n : Nat} {xs : List Value} {o : Obj} (h : GraphAt B w p A G ne) (hown : w.ownsRow base e size v n xs) (hp : p < base) (hA : A < base) (hg : (w.alloc o).grownBy w' v.ownBlock) : GraphAt B w' p A G ne := by
  refine h.heap fun k hk => grown_other hg (h.lts hk) fun e => ?_
  obtain ⟨h1, cur, h2⟩ := own_block hown e.symm
  simp only [List.mem_cons] at hk
  rcases hk with rfl | rfl | hk
  · omega
  · omega
  · exact h.maps hk cur _ h2
end
theorem EdgeStep.len {G G' : Gr} {ne ne' : Nat} {v u code : Int} (h : EdgeStep G ne v u G' ne' code) : G'.length ≤ G.length + 2 ∧ ne' ≤ ne + 1 := by
  rcases h with ⟨_, _, rfl, rfl⟩ | ⟨_, G1, G2, h1, h2, ⟨_, _, rfl, rfl⟩ | ⟨_, _, rfl, rfl⟩⟩
  · omega
  · have := h1.len; have := h2.len; omega
  · have := h1.len; have := h2.len; simp [gput]; omega

set_option maxRecDepth 100000 in
set_option maxHeartbeats 1000000 in
theorem new_any (w : World) :
    Calls Tryd.prog 18 #[] w fun e w' => e = .returned (.pointer (some ⟨w.heap.size + 1, 0, none⟩)) ∧ GraphAt w.heap.size w' (w.heap.size + 1) w.heap.size [] 0 ∧ w'.heap.size = w.heap.size + 2 ∧ Below w.heap.size w w' := by
  have hmk : ∀ w : World, (Instr.makeMap 50 none).run Tryd.prog w = .ok (.map (some w.heap.size)) (w.alloc (.map #[] 0)) := fun _ => by simp [Instr.makeMap]
  have HS : Hid (GraphAt w.heap.size ((w.alloc (.map #[] 0)).alloc (.cells #[.map (some w.heap.size), .int .i64 0, .int .i64 0] 52)) (w.heap.size + 1) w.heap.size [] 0 ∧ Below w.heap.size w ((w.alloc (.map #[] 0)).alloc (.cells #[.map (some w.heap.size), .int .i64 0, .int .i64 0] 52))) := by
    refine ⟨⟨?_, (IMap.new w ik).same ((Below.refl _ _).alloc (Nat.le_refl _) _), by simp, by simp [gblks], by simp [gblks]⟩, ((Below.refl _ _).alloc (Nat.le_refl _) _).alloc (by simp) _⟩
    have := Blk.new (w.alloc (.map #[] 0)) #[.map (some w.heap.size), .int .i64 0, .int .i64 0] 52
    simp at this
    exact this
  go_enter Tryd.func18, Tryd.ntmps18
  go_wp2_with fail
  go_ret
  exact ⟨rfl, HS.out.1, by simp, HS.out.2⟩

/-- What a graph of these edges is in memory. -/
def GraphOf (B : Nat) (w : World) (p : Nat) (es : List (Int × Int)) : Prop := ∃ A G ne, GraphAt B w p A G ne ∧ GInv es G ne ∧ G.length ≤ 2 * es.length ∧ ne ≤ es.length

set_option maxRecDepth 100000 in
set_option maxHeartbeats 2000000 in
theorem grOf_any {w : World} {sl : Value} {es : List (Int × Int)} {a0 a1 a2 : Addr} (h : Pairs w sl es) (hl : es.length ≤ 100) (hs : Sents w a0 a1 a2) :
    Calls Tryd.prog 13 #[sl] w fun e w' => ∃ p v, e = .returned (.tuple #[.pointer (some ⟨p, 0, none⟩), v]) ∧ GraphOf w.heap.size w' p es ∧ Ints w' v (errsFrom [] es) ∧ (∀ a n c, v = .slice (some a) n c → w.heap.size ≤ a.block) ∧ Below w.heap.size w w' := by
  obtain ⟨i0, hi, hz0, hz1, hz2⟩ := info_at info3
  have HI : Hid (Tryd.prog.info? 3 = some i0 ∧ i0.zero = some (.int .i64 0) ∧ i0.size = 1 ∧ i0.bytes = 8) := ⟨hi, hz0, hz1, hz2⟩
  clear hi hz0 hz1 hz2
  have H := Lib.hid h
  have HS := Lib.hid hs
  have h3 := hs.three
  obtain ⟨so, cp, rfl⟩ := h.shape
  clear h hs
  obtain ⟨n, hn⟩ : ∃ n, n = es.length := ⟨_, rfl⟩
  have HN := Lib.hid hn
  rw [List.length_map, ← hn] at H ⊢
  have hl2 : n ≤ 100 := by omega
  clear hn hl
  obtain ⟨B, hB⟩ : ∃ B, B = w.heap.size := ⟨_, rfl⟩
  have HB := Lib.hid hB
  rw [← hB] at h3 ⊢
  clear hB
  go_enter Tryd.func13, Tryd.ntmps13
  go_wp2_with fail
  refine (new_any w).mono ?_
  rintro e w1 ⟨rfl, hg, hsz, hb⟩
  obtain ⟨p, hp⟩ : ∃ p, p = w.heap.size + 1 := ⟨_, rfl⟩
  obtain ⟨A, hA⟩ : ∃ A, A = w.heap.size := ⟨_, rfl⟩
  rw [← hp] at hg ⊢
  have H1 : Hid (GraphAt B w1 p A [] 0 ∧ p < w1.heap.size ∧ A < w1.heap.size ∧ Below B w w1) := by
    rw [HB.out]
    refine ⟨?_, by omega, by omega, hb⟩
    rw [hA]; exact hg
  clear hg hsz hb hp hA
  go_wp2_with fail
  go_loopw [5, 7, 11] (fun ov _ kv wr => ∃ (k : Nat) (G : Gr) (ne : Nat), k ≤ n ∧ kv = .int .i64 k ∧ Hid (GraphAt B wr p A G ne ∧ GInv (es.take k) G ne ∧ wr.ownsRow w1.heap.size 3 1 ov k ((errsFrom [] (es.take k)).map (Value.int .i64)) ∧ Below B w wr ∧ G.length ≤ 2 * k ∧ ne ≤ k ∧ w1.heap.size ≤ wr.heap.size)) (fun _ _ kv _ => n - (intOf kv).toNat)
  case atStart => exact ⟨0, [], 0, by omega, rfl, H1.out.1, GInv.nil, World.ownsRow_nil _ _ _ _, H1.out.2.2.2, by simp, by omega, Nat.le_refl _⟩
  case round =>
    obtain ⟨k, G, ne, hk, rfl, hR⟩ := hrel
    have HR : Hid (GraphAt B wr p A G ne ∧ GInv (es.take k) G ne ∧ wr.ownsRow w1.heap.size 3 1 _ k ((errsFrom [] (es.take k)).map (Value.int .i64)) ∧ Below B w wr ∧ G.length ≤ 2 * k ∧ ne ≤ k ∧ w1.heap.size ≤ wr.heap.size) := hR
    clear hR
    obtain ⟨so2, cp2, rfl⟩ := own_shape HR.out.2.2.1
    by_cases hkn : k < n
    · obtain ⟨⟨x, y⟩, hx⟩ : ∃ x, es[k]? = some x := ⟨es[k]'(by rw [← HN.out]; exact hkn), List.getElem?_eq_getElem _⟩
      have HX := Lib.hid hx
      obtain ⟨b, o, rfl, q0, q1⟩ := Pairs.at H.out hx
      have hbw : Below w.heap.size w wr := by rw [← HB.out]; exact HR.out.2.2.2.1
      have c0 : wr.cell? ⟨b, o + k * 2, none⟩ = some (.int .i64 x) := (hbw.cell (cell_lt' q0)).trans q0
      have c1 : wr.cell? ⟨b, o + k * 2 + 1, none⟩ = some (.int .i64 y) := (hbw.cell (cell_lt' q1)).trans q1
      clear q0 q1 hx hbw
      have HW : Hid (GraphAt B (wr.alloc (.cells #[.int .i64 x, .int .i64 y] 30)) p A G ne ∧ (wr.alloc (.cells #[.int .i64 x, .int .i64 y] 30)).ownsRow w1.heap.size 3 1 (.slice so2 k cp2) k ((errsFrom [] (es.take k)).map (Value.int .i64)) ∧ Below B w (wr.alloc (.cells #[.int .i64 x, .int .i64 y] 30)) ∧ Sents (wr.alloc (.cells #[.int .i64 x, .int .i64 y] 30)) a0 a1 a2) := by
        have hb2 : Below B w (wr.alloc (.cells #[.int .i64 x, .int .i64 y] 30)) := HR.out.2.2.2.1.alloc (by have := HR.out.2.2.2.1.size; have := HB.out; omega) _
        exact ⟨HR.out.1.same ((Below.refl _ _).alloc (Nat.le_refl _) _), HR.out.2.2.1.alloc _, hb2, HS.out.same (by rw [← HB.out]; exact hb2)⟩
      have hgl : G.length ≤ 200 := by have := HR.out.2.2.2.2.1; omega
      have hnl : ne ≤ 200 := by have := HR.out.2.2.2.2.2.1; omega
      have hwz : w1.heap.size ≤ wr.heap.size := HR.out.2.2.2.2.2.2
      go_wp2_with fail
      refine (addEdge_any (E1 := errv a1) (E2 := errv a2) HW.out.1 x y (by omega) (by omega) h3 HW.out.2.2.2.g1 HW.out.2.2.2.g2).mono ?_
      rintro e w3 ⟨G', ne', code, rfl, hG, hstep, _, hO⟩
      have hst := HR.out.2.1.step hstep
      have hle := hstep.len
      have hcode : code = 0 ∨ code = 1 ∨ code = 2 ∨ code = 3 := by
        rw [hst.2]; unfold errOf; split
        · simp
        · split <;> simp
      have hev : (if code = 0 then Value.nilIface else if code = 2 then errv a1 else errv a2) = errval a0 a1 a2 code := by
        have h1 : code ≠ 1 := by rw [hst.2]; unfold errOf; split; simp; split <;> simp
        rcases hcode with rfl | rfl | rfl | rfl
        · rfl
        · exact absurd rfl h1
        · rfl
        · rfl
      rw [hev]
      have hlow : ∀ k ∈ p :: A :: gblks G, B ≤ k := HW.out.1.low
      have hb3 : Below B w w3 := HW.out.2.2.1.trans (hO.below (by have := HW.out.2.2.1.size; have := HB.out; omega) hlow)
      have H3 : Hid (GraphAt B w3 p A G' ne' ∧ GInv (es.take (k + 1)) G' ne' ∧ w3.ownsRow w1.heap.size 3 1 (.slice so2 k cp2) k ((errsFrom [] (es.take k)).map (Value.int .i64)) ∧ Below B w w3 ∧ Sents w3 a0 a1 a2 ∧ errsFrom [] (es.take (k + 1)) = errsFrom [] (es.take k) ++ [code] ∧ G'.length ≤ 2 * (k + 1) ∧ ne' ≤ k + 1 ∧ w1.heap.size ≤ w3.heap.size) := by
        have e1 : es.take (k + 1) = es.take k ++ [(x, y)] := by rw [List.take_add_one, HX.out]; rfl
        have e4 := HR.out.2.2.2.2.1
        have e5 := HR.out.2.2.2.2.2.1
        refine ⟨hG, by rw [e1]; exact hst.1, own_keep HW.out.2.1 hO (fun q hq => ?_), hb3, HS.out.same (by rw [← HB.out]; exact hb3), ?_, by omega, by omega, ?_⟩
        · simp only [List.mem_cons] at hq
          rcases hq with rfl | rfl | hq
          · exact Or.inl H1.out.2.1
          · exact Or.inl H1.out.2.2.1
          · exact Or.inr (HW.out.1.maps hq)
        · rw [e1, errsFrom_append, hst.2]; rfl
        · have := hO.size; simp at this; omega
      clear hG hstep hO hst hle hev hlow hb3 c0 c1 hwz
      go_wp2_with fail
      refine (grError_any H3.out.2.2.2.2.1 code hcode).mono ?_
      rintro e w' ⟨rfl, rfl⟩
      go_wp2_with (at_builtin; go_must (refine wpList_append_own_at _ rfl _ _ 25 rfl w1.heap.size 3 i0 (.int .i64 0) 1 8 Tryd.underlying25 HI.out.1 HI.out.2.1 HI.out.2.2.1 HI.out.2.2.2 rfl (by decide) _ _ _ rfl (H3.out.2.2.1.alloc _) ⟨w3.heap.size, 0, none⟩ 1 1 [.int .i64 code] rfl rfl ?c1 ?c2 ?c3 ?c4 ?c5 ?_))
      case c1 => exact one_cell
      case c2 => intro u hu; simp at hu; subst hu; rfl
      case c3 => unfold maxLen; omega
      case c4 => omega
      case c5 => have := H3.out.2.2.2.2.2.2.2.2; simp; omega
      intro v' w4 hown' hgrow _ _
      obtain ⟨so3, cp3, rfl⟩ := own_shape hown'
      have H4 : Hid (GraphAt B w4 p A G' ne' ∧ GInv (es.take (k + 1)) G' ne' ∧ w4.ownsRow w1.heap.size 3 1 (.slice so3 (k + 1) cp3) (k + 1) ((errsFrom [] (es.take (k + 1))).map (Value.int .i64)) ∧ Below B w w4 ∧ G'.length ≤ 2 * (k + 1) ∧ ne' ≤ k + 1 ∧ w1.heap.size ≤ w4.heap.size) := by
        obtain ⟨r1, r2, r3, r4, r5, r6, r7, r8, r9⟩ := H3.out
        refine ⟨r1.grown r3 H1.out.2.1 H1.out.2.2.1 hgrow, r2, by rw [r6, List.map_append]; exact hown', r4.trans ((own_grown r3 hgrow r9).mono (by have := H1.out.2.2.2.size; have := HB.out; omega)), r7, r8, ?_⟩
        have := hgrow.size; simp at this; omega
      clear hown' hgrow
      go_wp2_with fail
      go_roundw
      case rel => exact ⟨k + 1, G', ne', by omega, by go_num, H4.out⟩
      case measure => simp [intOf]; omega
    · have hkx : k = n := by omega
      have HK := Lib.hid hkx
      clear hkx
      go_wp2_with fail
      go_ret2
      have h2 : es.take k = es := by rw [HK.out, HN.out, List.take_length]
      obtain ⟨r1, r2, r3, r4, r5, r6, r7⟩ := HR.out
      rw [h2] at r2 r3
      refine ⟨p, _, rfl, ⟨A, G, ne, r1, r2, by have := HK.out; have := HN.out; omega, by have := HK.out; have := HN.out; omega⟩, Vals.of_own r3, fun a m c e => ?_, r4⟩
      have h4 := own_low r3 a m c e
      have h5 := H1.out.2.2.2.size
      have h6 := HB.out
      omega
end Go.Proofs.YtjijgkjmndpngaaDoor
