/- dgFew, dgNamed, dgAwake. -/
import Derived.Test.YtjijgkjmndpngaaDoorG7
namespace Go.Proofs.YtjijgkjmndpngaaDoor
open Go.RowKit

def small (p : Int × Int) : Prop := 0 ≤ p.1 ∧ p.1 ≤ 12 ∧ 0 ≤ p.2 ∧ p.2 ≤ 12
/-- What dgFew says when it says yes. -/
def FewSaid (b : Bool) (es : List (Int × Int)) : Prop := b = true → 0 < es.length ∧ es.length ≤ 20 ∧ ∀ p ∈ es, small p
def FewPost (w : World) (es : List (Int × Int)) (e : Ending) (w' : World) : Prop := ∃ b, e = .returned (.bool b) ∧ FewSaid b es ∧ Below w.heap.size w w'

set_option maxRecDepth 100000 in
set_option maxHeartbeats 2000000 in
theorem few_any {w : World} {so : Option Addr} {n cp : Nat} {es : List (Int × Int)} (h : 0 < n → Pairs w (.slice so n cp) es) (hl : es.length = n) (hn : n ≤ 2147483647) :
    Calls Tryd.prog 5 #[.slice so n cp] w fun e w' => FewPost w es e w' := by
  have H := Lib.hid h
  have HL := Lib.hid hl
  clear h hl
  go_enter Tryd.func5, Tryd.ntmps5
  go_wp2_with fail
  go_loopw [4, 7] (fun _ kv wr => ∃ k : Nat, k ≤ n ∧ kv = .int .i64 k ∧ Hid ((∀ p ∈ es.take k, small p) ∧ Below w.heap.size w wr)) (fun _ kv _ => n - (intOf kv).toNat)
  case atStart => exact ⟨0, by omega, rfl, by simp, Below.refl _ _⟩
  case round =>
    obtain ⟨k, hk, rfl, hR⟩ := hrel
    have HR : Hid ((∀ p ∈ es.take k, small p) ∧ Below w.heap.size w wr) := hR
    clear hR
    by_cases hkn : k < n
    · obtain ⟨⟨x, y⟩, hx⟩ : ∃ x, es[k]? = some x := ⟨es[k]'(by rw [HL.out]; exact hkn), List.getElem?_eq_getElem _⟩
      have HX := Lib.hid hx
      obtain ⟨b, o, rfl, q0, q1⟩ := Pairs.at (H.out (by omega)) hx
      have c0 : wr.cell? ⟨b, o + k * 2, none⟩ = some (.int .i64 x) := (HR.out.2.cell (cell_lt' q0)).trans q0
      have c1 : wr.cell? ⟨b, o + k * 2 + 1, none⟩ = some (.int .i64 y) := (HR.out.2.cell (cell_lt' q1)).trans q1
      clear q0 q1 hx
      by_cases b1 : x < 0
      · have d1 : decide (x < 0) = true := decide_eq_true b1
        go_wp2_with fail
        go_ret
        exact ⟨false, rfl, fun h => by simp at h, HR.out.2.alloc HR.out.2.size _⟩
      · have d1 : decide (x < 0) = false := decide_eq_false b1
        by_cases b2 : 12 < x
        · have d2 : decide (12 < x) = true := decide_eq_true b2
          go_wp2_with fail
          go_ret
          exact ⟨false, rfl, fun h => by simp at h, HR.out.2.alloc HR.out.2.size _⟩
        · have d2 : decide (12 < x) = false := decide_eq_false b2
          by_cases b3 : y < 0
          · have d3 : decide (y < 0) = true := decide_eq_true b3
            go_wp2_with fail
            go_ret
            exact ⟨false, rfl, fun h => by simp at h, HR.out.2.alloc HR.out.2.size _⟩
          · have d3 : decide (y < 0) = false := decide_eq_false b3
            by_cases b4 : 12 < y
            · have d4 : decide (12 < y) = true := decide_eq_true b4
              go_wp2_with fail
              go_ret
              exact ⟨false, rfl, fun h => by simp at h, HR.out.2.alloc HR.out.2.size _⟩
            · have d4 : decide (12 < y) = false := decide_eq_false b4
              have HB : Hid (small (x, y)) := ⟨by omega, by omega, by omega, by omega⟩
              clear b1 b2 b3 b4
              go_wp2_with fail
              go_roundw
              case rel =>
                refine ⟨k + 1, by omega, by go_num, fun p hp => ?_, HR.out.2.alloc HR.out.2.size _⟩
                rw [List.take_add_one, HX.out] at hp
                rcases List.mem_append.1 hp with hp | hp
                · exact HR.out.1 p hp
                · simp at hp; rw [hp]; exact HB.out
              case measure => simp [intOf]; omega
    · have hkx : k = n := by omega
      have HK := Lib.hid hkx
      have HE : Hid (∀ p ∈ es, small p) := by
        have h1 := HR.out.1
        rw [HK.out, ← HL.out, List.take_length] at h1
        exact h1
      clear hkx
      by_cases b1 : 0 < n
      · by_cases b2 : n ≤ 20
        · have d2 : decide ((n : Int) ≤ 20) = true := decide_eq_true (by omega)
          go_wp2_with fail
          go_ret
          exact ⟨true, rfl, fun _ => ⟨by rw [HL.out]; exact b1, by rw [HL.out]; exact b2, HE.out⟩, HR.out.2⟩
        · have d2 : decide ((n : Int) ≤ 20) = false := decide_eq_false (by omega)
          go_wp2_with fail
          go_ret
          exact ⟨false, rfl, fun h => by simp at h, HR.out.2⟩
      · have d1 : decide (0 < n) = false := decide_eq_false b1
        go_wp2_with fail
        go_ret
        exact ⟨false, rfl, fun h => by simp at h, HR.out.2⟩

theorem new_at {W : World} {o : Obj} {xs : List Value} {T : TypeId} : ∀ j u, xs[j]? = some u → ((W.alloc o).alloc (.cells xs.toArray T)).cell? ((⟨W.heap.size + 1, 0, none⟩ : Addr).add j) = some u := by
  intro j u hj
  have h := (Blk.new (W.alloc o) xs.toArray T).cell (i := j) (v := u) (by rw [List.getElem?_toArray]; exact hj)
  rw [addr_add, Nat.zero_add]
  simpa using h
def moved (p : Int × Int) : Int × Int := (p.1 + 100, p.2 + 100)
set_option maxRecDepth 100000 in
set_option maxHeartbeats 2000000 in
theorem named_any {w : World} {sl : Value} {es : List (Int × Int)} (h : Pairs w sl es) (hl : es.length ≤ 20) (hs : ∀ p ∈ es, small p) :
    Calls Tryd.prog 6 #[sl, .int .i64 1, .int .i64 100] w fun e w' => ∃ v, e = .returned v ∧ Pairs w' v (es.map moved) ∧ Below w.heap.size w w' := by
  obtain ⟨i0, hi, hz0, hz1, hz2⟩ := info_at infoE
  have HI : Hid (Tryd.prog.info? 30 = some i0 ∧ i0.zero = some (.agg #[.int .i64 0, .int .i64 0]) ∧ i0.size = 2 ∧ i0.bytes = 16) := ⟨hi, hz0, hz1, hz2⟩
  clear hi hz0 hz1 hz2
  have H := Lib.hid h
  have HSm := Lib.hid hs
  clear hs
  obtain ⟨so, cp, rfl⟩ := h.shape
  clear h
  obtain ⟨n, hn⟩ : ∃ n, n = es.length := ⟨_, rfl⟩
  have HN := Lib.hid hn
  rw [List.length_map, ← hn] at H ⊢
  have hl2 : n ≤ 20 := by omega
  clear hn hl
  go_enter Tryd.func6, Tryd.ntmps6
  go_wp2_with fail
  go_loopw [7, 9, 12] (fun ov _ kv wr => ∃ k : Nat, k ≤ n ∧ kv = .int .i64 k ∧ Hid (wr.ownsRow w.heap.size 30 2 ov k (((es.take k).map moved).map rec2).flatten ∧ Below w.heap.size w wr)) (fun _ _ kv _ => n - (intOf kv).toNat)
  case atStart => exact ⟨0, by omega, rfl, World.ownsRow_nil _ _ _ _, Below.refl _ _⟩
  case round =>
    obtain ⟨k, hk, rfl, hR⟩ := hrel
    have HR : Hid (wr.ownsRow w.heap.size 30 2 _ k (((es.take k).map moved).map rec2).flatten ∧ Below w.heap.size w wr) := hR
    clear hR
    obtain ⟨so3, cp3, rfl⟩ := own_shape HR.out.1
    by_cases hkn : k < n
    · obtain ⟨⟨x, y⟩, hx⟩ : ∃ x, es[k]? = some x := ⟨es[k]'(by rw [← HN.out]; exact hkn), List.getElem?_eq_getElem _⟩
      have HX := Lib.hid hx
      obtain ⟨b, o, rfl, q0, q1⟩ := Pairs.at H.out hx
      have c0 : wr.cell? ⟨b, o + k * 2, none⟩ = some (.int .i64 x) := (HR.out.2.cell (cell_lt' q0)).trans q0
      have c1 : wr.cell? ⟨b, o + k * 2 + 1, none⟩ = some (.int .i64 y) := (HR.out.2.cell (cell_lt' q1)).trans q1
      have hsm := HSm.out _ (List.mem_of_getElem? hx)
      obtain ⟨x0, x1, y0, y1⟩ := hsm
      simp only at x0 x1 y0 y1
      clear q0 q1 hx
      go_wp2_with (at_builtin; go_must (refine wpList_append_own_at _ rfl _ _ 22 rfl w.heap.size 30 i0 (.agg #[.int .i64 0, .int .i64 0]) 2 16 Tryd.underlying22 HI.out.1 HI.out.2.1 HI.out.2.2.1 HI.out.2.2.2 rfl (by decide) _ _ _ rfl ((HR.out.1.alloc _).alloc _) ⟨wr.heap.size + 1, 0, none⟩ 1 1 [.int .i64 (x + 100), .int .i64 (y + 100)] rfl rfl ?c1 ?c2 ?c3 ?c4 ?c5 ?_))
      case c1 => exact new_at
      case c2 => intro u hu; simp at hu; rcases hu with rfl | rfl <;> rfl
      case c3 => unfold maxLen; omega
      case c4 => omega
      case c5 => have := HR.out.2.size; simp; omega
      intro v' w3 hown' hgrow _ hblk
      obtain ⟨so4, cp4, rfl⟩ := own_shape hown'
      have HQ : Hid (w3.ownsRow w.heap.size 30 2 (.slice so4 (k + 1) cp4) (k + 1) (((es.take (k + 1)).map moved).map rec2).flatten ∧ Below w.heap.size w w3) := by
        refine ⟨?_, (HR.out.2.alloc HR.out.2.size _).trans (own_grown (HR.out.1.alloc _) hgrow (by have := HR.out.2.size; simp; omega))⟩
        rw [List.take_add_one, HX.out]
        simp only [Option.toList, List.map_append, List.flatten_append, List.map_cons, List.map_nil, List.flatten_cons, List.flatten_nil, List.append_nil, List.map_take, List.map_map]
        exact hown'
      clear hown' hgrow hblk c0 c1
      go_wp2_with fail
      go_roundw
      case rel => exact ⟨k + 1, by omega, by go_num, HQ.out⟩
      case measure => simp [intOf]; omega
    · have hkx : k = n := by omega
      have HK := Lib.hid hkx
      clear hkx
      go_wp2_with fail
      go_ret
      have h2 : es.take k = es := by rw [HK.out, HN.out, List.take_length]
      have h1 := HR.out.1
      rw [h2] at h1
      exact ⟨_, rfl, Pairs.of_own h1, HR.out.2⟩

theorem awake_v : VCount [(1, 2), (2, 3), (3, 3)] 3 := ⟨[1, 2, 3], by decide, rfl, fun v => by
  simp only [isV, List.mem_cons, List.not_mem_nil, or_false, exists_eq_or_imp, exists_eq_left]
  constructor
  · rintro (rfl | rfl | rfl) <;> simp
  · simp; omega⟩
theorem awake_k {ks : List Int} (hn : ks.Nodup) (h : ∀ k, k ∈ ks ↔ adjE [(1, 2)] 2 k) : ks = [1] := by
  have h1 : ∀ a, a ∈ ks ↔ a = 1 := fun a => by
    rw [h]; simp [adjE]; omega
  match ks, hn, h1 with
  | [], _, h => have := (h 1).2 rfl; simp at this
  | [a], _, h => have := (h a).1 (by simp); rw [this]
  | a :: b :: r, hn, h =>
    have e1 := (h a).1 (by simp)
    have e2 := (h b).1 (by simp)
    subst e1 e2
    simp at hn
set_option maxRecDepth 100000 in
set_option maxHeartbeats 2000000 in
theorem awake_any {w : World} {a0 a1 a2 : Addr} (hs : Sents w a0 a1 a2) :
    Calls Tryd.prog 9 #[] w fun e w' => e = .returned (.bool true) ∧ Below w.heap.size w w' := by
  have HS := Lib.hid hs
  clear hs
  go_enter Tryd.func9, Tryd.ntmps9
  go_wp2_with fail
  refine (grRun_any (es := [(1, 2), (2, 3), (3, 3)]) (Pairs.blk (ps := [(1, 2), (2, 3), (3, 3)]) (Blk.new w _ _)) (by simp) (HS.out.same ((Below.refl _ _).alloc (Nat.le_refl _) _))).mono ?_
  rintro e w1 ⟨v, nv, rfl, hv, _, hI, _, hb⟩
  obtain rfl := hv.uniq awake_v
  have H1 : Hid (Ints w1 v [0, 0, 2] ∧ Below w.heap.size w w1) := ⟨hI, ((Below.refl _ _).alloc (Nat.le_refl _) _).trans (hb.mono (by simp))⟩
  have hz : zeros (errsFrom [] [(1, 2), (2, 3), (3, 3)]) = 2 := by decide
  rw [hz]
  clear hv hI hb hz
  obtain ⟨s1, c1, rfl⟩ := H1.out.1.shape
  go_wp2_with fail
  refine (grAdj_any (es := [(1, 2)]) (Pairs.blk (ps := [(1, 2)]) (Blk.new w1 _ _)) (by simp) (HS.out.same (H1.out.2.alloc H1.out.2.size _)) 2).mono ?_
  rintro e w2 ⟨v2, ks, code, rfl, hc, hI, hnd, hks, _, _, _, hb⟩
  obtain rfl := awake_k hnd hks
  obtain rfl := hc ⟨(1, 2), by simp, by decide, Or.inr rfl⟩
  obtain ⟨s2, c2, rfl⟩ := hI.shape
  have H2 : Hid (Ints w2 (.slice s1 3 c1) [0, 0, 2] ∧ Ints w2 (.slice s2 1 c2) [1] ∧ Below w.heap.size w w2) :=
    ⟨(H1.out.1.same ((Below.refl _ _).alloc (Nat.le_refl _) _)).same hb, hI, (H1.out.2.alloc H1.out.2.size _).trans (hb.mono (by have := H1.out.2.size; simp; omega))⟩
  clear hc hI hnd hks hb
  go_wp2_with fail
  refine (equal_any (xs := [0, 0, 2]) (ys := [0, 0, 2]) (H2.out.1.same ((Below.refl _ _).alloc (Nat.le_refl _) _)) (vals_blk (vs := [0, 0, 2].map (Value.int .i64)) (Blk.new w2 _ _)) (by simp) (by simp)).mono ?_
  rintro e w3 ⟨rfl, hb⟩
  have H3 : Hid (Ints w3 (.slice s2 1 c2) [1] ∧ Below w.heap.size w w3) :=
    ⟨(H2.out.2.1.same ((Below.refl _ _).alloc (Nat.le_refl _) _)).same hb, (H2.out.2.2.alloc H2.out.2.2.size _).trans (hb.mono (by have := H2.out.2.2.size; simp; omega))⟩
  clear hb
  rw [show decide ([0, 0, 2] = ([0, 0, 2] : List Int)) = true from rfl]
  go_wp2_with fail
  refine (equal_any (xs := [1]) (ys := [1]) (H3.out.1.same ((Below.refl _ _).alloc (Nat.le_refl _) _)) (vals_blk (vs := [1].map (Value.int .i64)) (Blk.new w3 _ _)) (by simp) (by simp)).mono ?_
  rintro e w4 ⟨rfl, hb⟩
  have H4 : Hid (Below w.heap.size w w4) := (H3.out.2.alloc H3.out.2.size _).trans (hb.mono (by have := H3.out.2.size; simp; omega))
  clear hb
  rw [show decide ([1] = ([1] : List Int)) = true from rfl]
  go_wp2_with fail
  go_ret
  exact ⟨rfl, H4.out⟩
end Go.Proofs.YtjijgkjmndpngaaDoor
