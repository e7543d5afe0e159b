/- A step that puts elements. -/
import Derived.Test.YtmkbgdgfbmfbdaaDoorP7
import Derived.LoopN
import Derived.Deep.DeepCutAuto
import Derived.Handy
namespace Go.Proofs.YtmkbgdgfbmfbdaaDoor
open Go.RowKit

theorem Only.setCell_new {M : List Nat} {a w : World} (h : Only M a w) {p : Addr} (hp : a.heap.size ≤ p.block) (u : Value) : Only M a (w.setCell p u) := h.setCell (Or.inr hp) u
theorem Row.setCell {B : Nat} {w : World} {v : Value} {xs : List Item} (h : Row B w v xs) {p : Addr} (hp : p.block ∉ rowOf v) (u : Value) : Row B (w.setCell p u) v xs := by
  obtain ⟨h1, h | ⟨g, cap, cur, hv, hge, hh, r⟩⟩ := h
  · exact ⟨h1, Or.inl h⟩
  · have hb : Blk w g cur 85 := hh
    exact ⟨h1, Or.inr ⟨g, cap, cur, hv, hge, hb.other (fun e => hp (by rw [e, hv]; simp [rowOf, Value.ownBlock])) u, r⟩⟩
theorem IMap.setCell {w : World} {m : Nat} {L : List (Item × Value)} (h : IMap w pit m L) {p : Addr} (hp : p.block ≠ m) (u : Value) : IMap (w.setCell p u) pit m L :=
  h.only ((Only.refl [p.block] w).setCell (Or.inl (by simp)) u) (by simp; exact fun e => hp e.symm)
theorem QS.setCell {B : Nat} {w : World} {q m : Nat} {dup : Bool} {v : Value} {xs ks : List Item} (h : QS B w q m dup v xs ks) {p : Addr} (hp : p.block ∉ q :: m :: rowOf v) (u : Value) : QS B (w.setCell p u) q m dup v xs ks := by
  simp only [List.mem_cons, not_or] at hp
  obtain ⟨L, hL, hk⟩ := h.map
  exact ⟨Blk.other h.blk hp.1 u, Row.setCell h.row hp.2.2 u, h.heap, ⟨L, hL.setCell hp.2.1 u, hk⟩, h.low⟩
def StepPut (B q m : Nat) (dup : Bool) (v : Value) (xs ks its : List Item) (w : World) (e : Ending) (w' : World) : Prop :=
  e = .returned (.agg #[.slice none 0 0, .int .i64 0, .bool false, .int .i64 0]) ∧ ∃ v' ys, QS B w' q m dup v' ys (newKeys dup ks its) ∧ ys.Perm (xs ++ its) ∧ (∀ k ∈ rowOf v', k ∈ rowOf v ∨ w.heap.size ≤ k) ∧ Only (q :: m :: rowOf v) w w'
set_option maxRecDepth 100000 in
set_option maxHeartbeats 4000000 in
theorem step_put {B q m n ci : Nat} {N : Int} {si : Option Addr} {w : World} {dup : Bool} {v : Value} {xs ks its : List Item} (h : QS B w q m dup v xs ks) (hs : Pairs w (.slice si n ci) its) (hB : B ≤ w.heap.size) (hl : xs.length + its.length ≤ 1000) (hi0 : its ≠ []) (hf : dup = false → (ks ++ its).Nodup) :
    Calls Tryd.prog 25 #[.pointer (some ⟨q, 0, none⟩), .agg #[.int .i64 1, .int .i64 N, .slice si n ci]] w (StepPut B q m dup v xs ks its w) := by
  obtain ⟨i0, hi, hz0, hz1, hz2⟩ := info_at infoI
  have HI : Hid (Tryd.prog.info? 85 = some i0 ∧ i0.zero = some .nilIface ∧ i0.size = 1 ∧ i0.bytes = 16) := ⟨hi, hz0, hz1, hz2⟩
  have hlen : its.length = n := by have := hs.len; simpa using this
  have HLen := Lib.hid hlen
  have HLL := Lib.hid hl
  have hn2 : n ≤ 1000 := by omega
  have HS := Lib.hid h
  have HF := Lib.hid hf
  have HP := Lib.hid hs
  clear hi hz0 hz1 hz2 hlen hl h hf hs
  go_enter Tryd.func25, Tryd.ntmps25
  go_wp2_with fail
  obtain ⟨d, hd⟩ : ∃ d, d = w.heap.size + 1 := ⟨_, rfl⟩
  rw [← hd]
  have HD := Lib.hid hd
  have H0 : Hid (Blk ((w.alloc (.cells #[.int .i64 1, .int .i64 N, .slice si n ci] 35)).alloc (.cells #[.slice none 0 0, .int .i64 0, .bool false, .int .i64 0] 52)) d #[.slice none 0 0, .int .i64 0, .bool false, .int .i64 0] 52 ∧ Below w.heap.size w ((w.alloc (.cells #[.int .i64 1, .int .i64 N, .slice si n ci] 35)).alloc (.cells #[.slice none 0 0, .int .i64 0, .bool false, .int .i64 0] 52))) := by
    have hb := Blk.new (w.alloc (.cells #[.int .i64 1, .int .i64 N, .slice si n ci] 35)) #[.slice none 0 0, .int .i64 0, .bool false, .int .i64 0] 52
    rw [World.size_alloc] at hb
    rw [hd]
    exact ⟨hb, ((Below.refl _ _).alloc (Nat.le_refl _) _).alloc (by simp) _⟩
  clear hd
  go_loopw [5, 22] (fun lv iv wr => ∃ (i : Nat), iv = .int .i64 (i : Nat) ∧ i ≤ n ∧ Hid (wr.ownsRow (d + 1) 85 1 lv i ((its.take i).map pit) ∧ Blk wr d #[.slice none 0 0, .int .i64 0, .bool false, .int .i64 0] 52 ∧ Below w.heap.size w wr)) (fun _ iv _ => n - (intOf iv).toNat)
  case atStart =>
    exact ⟨0, rfl, by omega, ⟨rfl, Or.inl ⟨rfl, rfl⟩⟩, H0.out.1, H0.out.2⟩
  case round =>
    obtain ⟨i, rfl, hin, hR⟩ := hrel
    have HR : Hid (wr.ownsRow (d + 1) 85 1 u5 i ((its.take i).map pit) ∧ Blk wr d #[.slice none 0 0, .int .i64 0, .bool false, .int .i64 0] 52 ∧ Below w.heap.size w wr) := hR
    clear hR
    have hdr : d + 1 ≤ wr.heap.size := Blk.lt HR.out.2.1
    obtain ⟨t5, d5, rfl⟩ := own_shape HR.out.1
    by_cases hlt : i < n
    · have z1 : (i : Int) < (n : Int) := by omega
      have z0 : (0 : Int) ≤ (i : Int) := by omega
      obtain ⟨⟨k1, k2⟩, hx⟩ : ∃ x, its[i]? = some x := ⟨_, List.getElem?_eq_getElem (by have := HLen.out; omega)⟩
      have HX := Lib.hid hx
      obtain ⟨b, o, rfl, e1, e2⟩ := HP.out.at hx
      have e1 : w.cell? ⟨b, o + i * 2, none⟩ = some (.int .i64 k1) := e1
      have e2 : w.cell? ⟨b, o + i * 2 + 1, none⟩ = some (.int .i64 k2) := e2
      have r1 : wr.cell? ⟨b, o + i * 2, none⟩ = some (.int .i64 k1) := (HR.out.2.2.cell (cell_lt' e1)).trans e1
      have r2 : wr.cell? ⟨b, o + i * 2 + 1, none⟩ = some (.int .i64 k2) := (HR.out.2.2.cell (cell_lt' e2)).trans e2
      clear e1 e2 hx
      go_wp2_with (at_builtin; go_must (refine wpList_append_own_at _ rfl (.tmp 26) (.tmp 30) 70 rfl (d + 1) 85 i0 .nilIface 1 16 Tryd.underlying70 HI.out.1 HI.out.2.1 HI.out.2.2.1 HI.out.2.2.2 rfl (by decide) (.slice t5 i d5) i _ rfl ((HR.out.1.alloc _).alloc _) ⟨wr.heap.size + 1, 0, none⟩ 1 1 [.iface 76 (.agg #[.int .i64 k1, .int .i64 k2])] rfl rfl ?c1 ?c2 ?c3 ?c4 ?c5 ?_))
      all_goals first | rfl | (intro u hu; simp at hu; subst hu; rfl) | (unfold maxLen; omega) | omega | (simp; omega) | skip
      intro v1 w1 hown hgrow _ _
      have hb1 : Below (d + 1) wr w1 := ((Below.refl _ _).alloc hdr _).trans (own_grown (HR.out.1.alloc _) hgrow (by simp; omega))
      have HE : Hid (w1.ownsRow (d + 1) 85 1 v1 (i + 1) ((its.take (i + 1)).map pit) ∧ Blk w1 d #[.slice none 0 0, .int .i64 0, .bool false, .int .i64 0] 52 ∧ Below w.heap.size w w1) := by
        refine ⟨?_, HR.out.2.1.below hb1 (by omega), HR.out.2.2.trans (hb1.mono (by have := HD.out; omega))⟩
        rw [List.take_add_one, HX.out]
        simp only [Option.toList_some, List.map_append, List.map_cons, List.map_nil, List.map_take]
        exact hown
      clear hown hgrow hb1
      go_wp2_with fail
      go_roundw
      case rel => exact ⟨i + 1, rfl, by omega, HE.out⟩
      case measure => simp [intOf]; omega
    · have z1 : ¬ (i : Int) < (n : Int) := by omega
      obtain rfl : i = n := by omega
      have h1 := HR.out.1
      rw [List.take_of_length_le (by rw [HLen.out]; exact Nat.le_refl _)] at h1
      obtain ⟨g, d5', hg⟩ := own_some h1 (by rw [← HLen.out]; exact List.length_pos_iff.2 hi0)
      simp only [Value.slice.injEq] at hg
      obtain ⟨rfl, _, rfl⟩ := hg
      have hgl : d + 1 ≤ g := own_low h1 ⟨g, 0, none⟩ _ _ rfl
      have HQ : Hid (QS B wr q m dup v xs ks ∧ Its wr (q :: m :: rowOf v) (.slice (some ⟨g, 0, none⟩) i d5) its ∧ B ≤ wr.heap.size ∧ d ∉ q :: m :: rowOf v) := by
        have hdd := HD.out
        refine ⟨HS.out.under HR.out.2.2, ⟨g, 0, d5, by rw [HLen.out], fun hm => ?_, fun j x hj => ?_⟩, Nat.le_trans hB HR.out.2.2.size, fun hm => ?_⟩
        · have := HS.out.all_lt g hm
          omega
        · rw [Nat.zero_add]
          exact (own_cell h1 (by rw [List.getElem?_map, hj]; rfl)).1
        · have := HS.out.all_lt d hm
          omega
      clear h1 hgl
      go_wp2_with fail
      refine (put_any HQ.out.1 HQ.out.2.1 HQ.out.2.2.1 HLL.out hi0 HF.out).mono ?_
      rintro e w2 ⟨rfl, v2, ys, h1, h2, h3, h4⟩
      have HE : Hid (Blk w2 d #[.slice none 0 0, .int .i64 0, .bool false, .int .i64 0] 52 ∧ QS B w2 q m dup v2 ys (newKeys dup ks its) ∧ ys.Perm (xs ++ its) ∧ (∀ k ∈ rowOf v2, k ∈ rowOf v ∨ w.heap.size ≤ k) ∧ Only (q :: m :: rowOf v) w w2) := by
        refine ⟨HR.out.2.1.only h4 HQ.out.2.2.2, h1, h2, fun k hk => ?_, (Only.of_below HR.out.2.2).trans h4⟩
        rcases h3 k hk with h | h
        · exact Or.inl h
        · exact Or.inr (Nat.le_trans HR.out.2.2.size h)
      have HDN : Hid (d ∉ q :: m :: rowOf v2) := Lib.hid fun hm => by
        simp only [List.mem_cons] at hm
        have hn := HQ.out.2.2.2
        simp only [List.mem_cons, not_or] at hn
        rcases hm with hm | hm | hm
        · exact hn.1 hm
        · exact hn.2.1 hm
        · rcases h3 d hm with h | h
          · exact hn.2.2 h
          · omega
      clear h1 h2 h3 h4
      have f0 := HE.out.1.free 0
      have f1 := HE.out.1.free 1
      have f2 := HE.out.1.free 2
      have f3 := HE.out.1.free 3
      have c0 : w2.cell? ⟨d, 0, none⟩ = some (.slice none 0 0) := HE.out.1.cell (i := 0) rfl
      have c1 : w2.cell? ⟨d, 1, none⟩ = some (.int .i64 0) := HE.out.1.cell (i := 1) rfl
      have c2 : w2.cell? ⟨d, 2, none⟩ = some (.bool false) := HE.out.1.cell (i := 2) rfl
      have c3 : w2.cell? ⟨d, 3, none⟩ = some (.int .i64 0) := HE.out.1.cell (i := 3) rfl
      go_wp2_with fail
      refine (err_nil _).mono ?_
      rintro e w3 ⟨rfl, rfl⟩
      go_wp2_with fail
      have HBW := Lib.hid ((((HE.out.1.set 0 (.slice none 0 0)).set 1 (.int .i64 0)).set 2 (.bool false)).set 3 (.int .i64 0))
      have HOW := Lib.hid ((((HE.out.2.2.2.2.setCell_new (p := ⟨d, 0, none⟩) (by have := HD.out; show w.heap.size ≤ d; omega) (.slice none 0 0)).setCell_new (p := ⟨d, 1, none⟩) (by have := HD.out; show w.heap.size ≤ d; omega) (.int .i64 0)).setCell_new (p := ⟨d, 2, none⟩) (by have := HD.out; show w.heap.size ≤ d; omega) (.bool false)).setCell_new (p := ⟨d, 3, none⟩) (by have := HD.out; show w.heap.size ≤ d; omega) (.int .i64 0))
      have HQW := Lib.hid ((((HE.out.2.1.setCell (p := ⟨d, 0, none⟩) HDN.out (.slice none 0 0)).setCell (p := ⟨d, 1, none⟩) HDN.out (.int .i64 0)).setCell (p := ⟨d, 2, none⟩) HDN.out (.bool false)).setCell (p := ⟨d, 3, none⟩) HDN.out (.int .i64 0))
      generalize ((((_ : World).setCell ⟨d, 0, none⟩ (.slice none 0 0)).setCell ⟨d, 1, none⟩ (.int .i64 0)).setCell ⟨d, 2, none⟩ (.bool false)).setCell ⟨d, 3, none⟩ (.int .i64 0) = W at HBW HOW HQW ⊢
      have e0 : W.cell? ⟨d, 0, none⟩ = some (.slice none 0 0) := HBW.out.cell (i := 0) rfl
      have e1 : W.cell? ⟨d, 1, none⟩ = some (.int .i64 0) := HBW.out.cell (i := 1) rfl
      have e2 : W.cell? ⟨d, 2, none⟩ = some (.bool false) := HBW.out.cell (i := 2) rfl
      have e3 : W.cell? ⟨d, 3, none⟩ = some (.int .i64 0) := HBW.out.cell (i := 3) rfl
      refine bodyPost_ret (v := .agg #[.slice none 0 0, .int .i64 0, .bool false, .int .i64 0]) (by simp [results, Tryd.results25, go_sem, e0, e1, e2, e3]) rfl ?_
      exact ⟨rfl, _, _, HQW.out, HE.out.2.2.1, HE.out.2.2.2.1, HOW.out⟩
end Go.Proofs.YtmkbgdgfbmfbdaaDoor
