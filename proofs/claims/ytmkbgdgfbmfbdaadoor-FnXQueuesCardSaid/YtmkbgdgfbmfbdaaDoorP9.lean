/- A step that takes elements. -/
import Derived.Test.YtmkbgdgfbmfbdaaDoorP8
import Derived.Deep.RegionLaw
namespace Go.Proofs.YtmkbgdgfbmfbdaaDoor
open Go.RowKit

theorem infoP : (Tryd.prog.info? 48).map (fun i => (i.zero, i.size, i.bytes)) = some (some (.agg #[.int .i64 0, .int .i64 0]), 2, 16) := by kernel_rfl
theorem QS.only {B : Nat} {w w' : World} {q m : Nat} {dup : Bool} {v : Value} {xs ks : List Item} {M : List Nat} (h : QS B w q m dup v xs ks) (ho : Only M w w') (hk : ∀ k ∈ q :: m :: rowOf v, k ∉ M) : QS B w' q m dup v xs ks := by
  obtain ⟨L, hL, hLk⟩ := h.map
  exact ⟨h.blk.only ho (hk q (by simp)), Row.only h.row ho (fun k h => hk k (by simp [h])), h.heap, ⟨L, hL.only ho (hk m (by simp)), hLk⟩, h.low⟩
theorem two_cells {W : World} {xs : List Value} {T : TypeId} : ∀ j u, xs[j]? = some u → (W.alloc (.cells xs.toArray T)).cell? ((⟨W.heap.size, 0, none⟩ : Addr).add j) = some u := by
  intro j u hj
  have h := (Blk.new W xs.toArray T).cell (i := j) (v := u) (by rw [List.getElem?_toArray]; exact hj)
  rw [addr_add, Nat.zero_add]
  exact h
theorem take_snoc2 {l : List (Int × Int)} {i : Nat} {x : Int × Int} (h : l[i]? = some x) : ((l.take (i + 1)).map rec2).flatten = ((l.take i).map rec2).flatten ++ rec2 x := by
  rw [List.take_add_one, h]
  simp
theorem got_grow {w3 wr w6 : World} {g : Nat} {cs : Array Value} {T e : TypeId} {v v' : Value} {k m size : Nat} {xs ys : List Value} {o : Obj} (hB : Blk wr g cs T) (hown : wr.ownsRow (g + 1) e size v k xs) (hO : Only [g] w3 wr) (hown' : w6.ownsRow (g + 1) e size v' m ys) (hgrow : ((wr.alloc o).drew).grownBy w6 v.ownBlock) (hs : g + 1 ≤ wr.heap.size) (hg : w3.heap.size ≤ g) :
    Blk w6 g cs T ∧ w6.ownsRow (g + 1) e size v' m ys ∧ Only [g] w3 w6 := by
  refine ⟨?_, hown', ((hO.alloc o).drew).grown hgrow (fun q hq => Or.inr (by have := (own_block hown hq).1; omega))⟩
  have hlt := hB.lt
  refine (hgrow.block g (by simp; omega) ?_).trans ((heap_alloc_old wr o hlt).trans hB)
  intro e
  have := (own_block hown e.symm).1
  omega
def StepGot (B q m : Nat) (dup : Bool) (v : Value) (xs : List Item) (w : World) (e : Ending) (w' : World) : Prop :=
  ∃ si out v', e = .returned (.agg #[si, .int .i64 0, .bool false, .int .i64 0]) ∧ w'.ownsRow w.heap.size 48 2 si out.length (out.map rec2).flatten ∧ out.Perm xs ∧ Asc (keysOf out) ∧ QS B w' q m dup v' [] [] ∧ rowOf v' = rowOf v ∧ Only (q :: m :: rowOf v) w w'
set_option maxRecDepth 100000 in
set_option maxHeartbeats 4000000 in
theorem step_get {B q m N : Nat} {sx : Value} {w : World} {dup : Bool} {v : Value} {xs ks : List Item} (h : QS B w q m dup v xs ks) (hx : xs ≠ []) (hk : ∀ x ∈ ks, x ∈ xs) (hl : xs.length ≤ N) (hN : N ≤ 1000) :
    Calls Tryd.prog 25 #[.pointer (some ⟨q, 0, none⟩), .agg #[.int .i64 2, .int .i64 N, .slice none 0 0]] w (StepGot B q m dup v xs w) := by
  obtain ⟨i0, hi, hz0, hz1, hz2⟩ := info_at infoP
  have HI : Hid (Tryd.prog.info? 48 = some i0 ∧ i0.zero = some (.agg #[.int .i64 0, .int .i64 0]) ∧ i0.size = 2 ∧ i0.bytes = 16) := ⟨hi, hz0, hz1, hz2⟩
  have hN1 : 1 ≤ N := by
    have : 0 < xs.length := List.length_pos_iff.2 hx
    omega
  have zN : (1 : Int) ≤ (N : Int) := by omega
  have HS := Lib.hid h
  have HX := Lib.hid hx
  have HK := Lib.hid hk
  have HL := Lib.hid hl
  obtain ⟨d, hd⟩ : ∃ d, d = w.heap.size + 1 := ⟨_, rfl⟩
  have HD := Lib.hid hd
  have H0 : Hid (Blk ((w.alloc (.cells #[.int .i64 2, .int .i64 N, .slice none 0 0] 35)).alloc (.cells #[.slice none 0 0, .int .i64 0, .bool false, .int .i64 0] 52)) d #[.slice none 0 0, .int .i64 0, .bool false, .int .i64 0] 52 ∧ Below w.heap.size w ((w.alloc (.cells #[.int .i64 2, .int .i64 N, .slice none 0 0] 35)).alloc (.cells #[.slice none 0 0, .int .i64 0, .bool false, .int .i64 0] 52)) ∧ QS B ((w.alloc (.cells #[.int .i64 2, .int .i64 N, .slice none 0 0] 35)).alloc (.cells #[.slice none 0 0, .int .i64 0, .bool false, .int .i64 0] 52)) q m dup v xs ks) := by
    have hb := Blk.new (w.alloc (.cells #[.int .i64 2, .int .i64 N, .slice none 0 0] 35)) #[.slice none 0 0, .int .i64 0, .bool false, .int .i64 0] 52
    rw [World.size_alloc] at hb
    rw [hd]
    have hbw : Below w.heap.size w ((w.alloc (.cells #[.int .i64 2, .int .i64 N, .slice none 0 0] 35)).alloc (.cells #[.slice none 0 0, .int .i64 0, .bool false, .int .i64 0] 52)) := ((Below.refl _ _).alloc (Nat.le_refl _) _).alloc (by simp) _
    exact ⟨hb, hbw, h.under hbw⟩
  clear hi hz0 hz1 hz2 h hx hk hl
  go_enter Tryd.func25, Tryd.ntmps25
  go_wp2_with fail
  rw [← hd]
  clear hd
  refine (empty_any H0.out.2.2 HX.out).mono ?_
  rintro e w1 ⟨rfl, rfl⟩
  go_wp2_with fail
  refine (Get_any H0.out.2.2 HX.out HK.out HL.out hN).mono ?_
  rintro e w2 ⟨sl, out, v', rfl, hr, hp, ha, hq, hrow, ho⟩
  have hsz0 : ((w.alloc (.cells #[.int .i64 2, .int .i64 N, .slice none 0 0] 35)).alloc (.cells #[.slice none 0 0, .int .i64 0, .bool false, .int .i64 0] 52)).heap.size = d + 1 := by simp [HD.out]
  rw [hsz0] at hr
  have hdn : d ∉ q :: m :: rowOf v := fun hm => by have h1 := HS.out.all_lt d hm; have h2 := HD.out; omega
  have HQ : Hid (QS B w2 q m dup v' [] [] ∧ Row (d + 1) w2 sl out ∧ out.Perm xs ∧ Asc (keysOf out) ∧ rowOf v' = rowOf v ∧ Only (q :: m :: rowOf v) w w2 ∧ Blk w2 d #[.slice none 0 0, .int .i64 0, .bool false, .int .i64 0] 52 ∧ d ∉ q :: m :: rowOf v) := ⟨hq, hr, hp, ha, hrow, (Only.of_below H0.out.2.1).trans ho, H0.out.1.only ho hdn, hdn⟩
  have hon : 0 < out.length := by rw [hp.length_eq]; exact List.length_pos_iff.2 HX.out
  have hol : out.length ≤ 1000 := by rw [hp.length_eq]; have := HL.out; omega
  obtain ⟨gl, cl, rfl⟩ := own_some hr hon
  obtain ⟨n, hn⟩ : ∃ n, n = out.length := ⟨_, rfl⟩
  have HN := Lib.hid hn
  rw [← hn] at HQ hol ⊢
  clear hq hr hp ha hrow ho hsz0 hdn hon hn
  go_wp2_with fail
  refine (err_nil _).mono ?_
  rintro e w3 ⟨rfl, rfl⟩
  obtain ⟨g, hg⟩ : ∃ g, g = w3.heap.size := ⟨_, rfl⟩
  have HG := Lib.hid hg
  have hdg : d < g := by rw [hg]; exact HQ.out.2.2.2.2.2.2.1.lt
  have hwg : w.heap.size ≤ g := by have := HD.out; omega
  have H1 : Hid (Blk (w3.alloc (.cells #[.slice none 0 0, .int .i64 0, .bool false, .int .i64 0] 52)) g #[.slice none 0 0, .int .i64 0, .bool false, .int .i64 0] 52 ∧ Only [g] w3 (w3.alloc (.cells #[.slice none 0 0, .int .i64 0, .bool false, .int .i64 0] 52))) := by
    rw [hg]
    exact ⟨Blk.new _ _ _, (Only.refl _ _).alloc _⟩
  go_wp2_with fail
  rw [← hg]
  clear hg
  go_loopw [65] (fun iv wr => ∃ (i : Nat) (sv : Value), iv = .int .i64 (i : Nat) ∧ i ≤ n ∧ Hid (Blk wr g #[sv, .int .i64 0, .bool false, .int .i64 0] 52 ∧ wr.ownsRow (g + 1) 48 2 sv i ((out.take i).map rec2).flatten ∧ Only [g] w3 wr)) (fun iv _ => n - (intOf iv).toNat)
  case atStart => exact ⟨0, _, rfl, by omega, H1.out.1, World.ownsRow_nil _ _ _ _, H1.out.2⟩
  case round =>
    obtain ⟨i, sv, rfl, hin, hR⟩ := hrel
    have HR : Hid (Blk wr g #[sv, .int .i64 0, .bool false, .int .i64 0] 52 ∧ wr.ownsRow (g + 1) 48 2 sv i ((out.take i).map rec2).flatten ∧ Only [g] w3 wr) := hR
    clear hR
    obtain ⟨t5, d5, rfl⟩ := own_shape HR.out.2.1
    have hgr : g + 1 ≤ wr.heap.size := Blk.lt HR.out.1
    by_cases hlt : i < n
    · have z1 : (i : Int) < (n : Int) := by omega
      have z0 : (0 : Int) ≤ (i : Int) := by omega
      obtain ⟨⟨k1, k2⟩, hx⟩ : ∃ x, out[i]? = some x := ⟨_, List.getElem?_eq_getElem (by have := HN.out; omega)⟩
      have hrow := HQ.out.2.1
      rw [Row, ← HN.out] at hrow
      obtain ⟨q1, _⟩ := own_cell (i := i) (u := pit (k1, k2)) hrow (by rw [List.getElem?_map, hx]; rfl)
      have q1 : w3.cell? ⟨gl, i, none⟩ = some (.iface 76 (.agg #[.int .i64 k1, .int .i64 k2])) := q1
      have hne : gl ∉ [g] := by
        have h1 := cell_lt' q1
        have h2 := HG.out
        simp only [List.mem_singleton]
        simp only at h1
        omega
      have c0 : wr.cell? ⟨gl, i, none⟩ = some (.iface 76 (.agg #[.int .i64 k1, .int .i64 k2])) := (World.cell?_of_block (HR.out.2.2.block gl (cell_lt' q1) hne)).trans q1
      have HXi := Lib.hid hx
      have hta : ∀ w : World, (Instr.typeAssert (.iface 76 (.agg #[.int .i64 k1, .int .i64 k2])) 85 76 false).run Tryd.prog w = .ok (.agg #[.int .i64 k1, .int .i64 k2]) w := fun _ => by kernel_rfl
      have hf1 : ∀ w : World, (Instr.field 76 (.agg #[.int .i64 k1, .int .i64 k2]) 0).run Tryd.prog w = .ok (.agg #[.int .i64 k1, .int .i64 k2]) w := fun _ => by kernel_rfl
      have e0 : wr.cell? ⟨g, 0, none⟩ = some (.slice t5 i d5) := HR.out.1.cell (i := 0) rfl
      have e1 : wr.frozen? ⟨g, 0, none⟩ = false := HR.out.1.free 0
      have e2 : ∀ o : Obj, (wr.alloc o).cell? ⟨g, 0, none⟩ = some (.slice t5 i d5) := fun o => (HR.out.1.alloc o).cell (i := 0) rfl
      clear q1 hrow hx hne
      go_wp2_with fail
      go_region_law ((refine step_append_own rfl (.tmp 70) (.tmp 74) 24 rfl (g + 1) 48 i0 (.agg #[.int .i64 0, .int .i64 0]) 2 16 Tryd.underlying24 HI.out.1 HI.out.2.1 HI.out.2.2.1 HI.out.2.2.2 rfl (by decide) _ _ _ rfl (HR.out.2.1.alloc _) ⟨wr.heap.size, 0, none⟩ 1 1 [.int .i64 k1, .int .i64 k2] rfl rfl (two_cells (W := wr)) (by intro u hu; simp at hu; rcases hu with rfl | rfl <;> rfl) (by unfold maxLen; omega) (by omega) (by simp; omega) ?_; intro v' w6 hown' hgrow; obtain ⟨sv', cv', rfl⟩ := own_shape hown'; have HG6 : Hid (Blk w6 g #[.slice t5 i d5, .int .i64 0, .bool false, .int .i64 0] 52 ∧ w6.ownsRow (g + 1) 48 2 (.slice sv' (i + 1) cv') (i + 1) ((out.take (i + 1)).map rec2).flatten ∧ Only [g] w3 w6) := got_grow HR.out.1 HR.out.2.1 HR.out.2.2 (by rw [take_snoc2 HXi.out]; exact hown') hgrow hgr (by have := HG.out; omega); clear hown' hgrow; have d2 := HG6.out.1.cell (i := 0) rfl; have d3 := HG6.out.1.free 0))
      all_goals
        have HG7 : Hid (Blk (w6.setCell ⟨g, 0, none⟩ (.slice sv' (i + 1) cv')) g #[.slice sv' (i + 1) cv', .int .i64 0, .bool false, .int .i64 0] 52 ∧ (w6.setCell ⟨g, 0, none⟩ (.slice sv' (i + 1) cv')).ownsRow (g + 1) 48 2 (.slice sv' (i + 1) cv') (i + 1) ((out.take (i + 1)).map rec2).flatten ∧ Only [g] w3 (w6.setCell ⟨g, 0, none⟩ (.slice sv' (i + 1) cv'))) := ⟨HG6.out.1.set 0 _, ownsRow_setCell_below HG6.out.2.1 (Nat.lt_succ_self g) _, HG6.out.2.2.setCell (Or.inl (by simp)) _⟩
        clear d2 d3
        go_wp2_with fail
        go_roundw
        case rel => exact ⟨i + 1, _, rfl, by omega, HG7.out⟩
        case measure => simp [intOf]; omega
    · have z1 : ¬ (i : Int) < (n : Int) := by omega
      obtain rfl : i = n := by omega
      have HBd : Hid (Blk wr d #[.slice none 0 0, .int .i64 0, .bool false, .int .i64 0] 52 ∧ QS B wr q m dup v' [] [] ∧ d ∉ q :: m :: rowOf v' ∧ Only (q :: m :: rowOf v) w wr) := by
        have hgd : d ∉ [g] := by simp only [List.mem_singleton]; omega
        refine ⟨HQ.out.2.2.2.2.2.2.1.only HR.out.2.2 hgd, HQ.out.1.only HR.out.2.2 (fun k hk hm => ?_), ?_, HQ.out.2.2.2.2.2.1.chain HR.out.2.2 (fun k hk => ?_)⟩
        · simp only [List.mem_singleton] at hm
          have h1 := HQ.out.1.all_lt k hk
          have h2 := HG.out
          omega
        · rw [HQ.out.2.2.2.2.1]
          exact HQ.out.2.2.2.2.2.2.2
        · simp only [List.mem_singleton] at hk
          exact Or.inr (by omega)
      have g0 : wr.cell? ⟨g, 0, none⟩ = some (.slice t5 i d5) := HR.out.1.cell (i := 0) rfl
      have g1 : wr.cell? ⟨g, 1, none⟩ = some (.int .i64 0) := HR.out.1.cell (i := 1) rfl
      have g2 : wr.cell? ⟨g, 2, none⟩ = some (.bool false) := HR.out.1.cell (i := 2) rfl
      have g3 : wr.cell? ⟨g, 3, none⟩ = some (.int .i64 0) := HR.out.1.cell (i := 3) rfl
      have f0 := HBd.out.1.free 0
      have f1 := HBd.out.1.free 1
      have f2 := HBd.out.1.free 2
      have f3 := HBd.out.1.free 3
      have c0 : wr.cell? ⟨d, 0, none⟩ = some (.slice none 0 0) := HBd.out.1.cell (i := 0) rfl
      have c1 : wr.cell? ⟨d, 1, none⟩ = some (.int .i64 0) := HBd.out.1.cell (i := 1) rfl
      have c2 : wr.cell? ⟨d, 2, none⟩ = some (.bool false) := HBd.out.1.cell (i := 2) rfl
      have c3 : wr.cell? ⟨d, 3, none⟩ = some (.int .i64 0) := HBd.out.1.cell (i := 3) rfl
      go_wp2_with fail
      have hnew : w.heap.size ≤ d := by have := HD.out; omega
      have HBW := Lib.hid ((((HBd.out.1.set 0 (.slice t5 i d5)).set 1 (.int .i64 0)).set 2 (.bool false)).set 3 (.int .i64 0))
      have HOW := Lib.hid ((((HBd.out.2.2.2.setCell_new (p := ⟨d, 0, none⟩) hnew (.slice t5 i d5)).setCell_new (p := ⟨d, 1, none⟩) hnew (.int .i64 0)).setCell_new (p := ⟨d, 2, none⟩) hnew (.bool false)).setCell_new (p := ⟨d, 3, none⟩) hnew (.int .i64 0))
      have HQW := Lib.hid ((((HBd.out.2.1.setCell (p := ⟨d, 0, none⟩) HBd.out.2.2.1 (.slice t5 i d5)).setCell (p := ⟨d, 1, none⟩) HBd.out.2.2.1 (.int .i64 0)).setCell (p := ⟨d, 2, none⟩) HBd.out.2.2.1 (.bool false)).setCell (p := ⟨d, 3, none⟩) HBd.out.2.2.1 (.int .i64 0))
      have hdl : d < g + 1 := by omega
      have HRW := Lib.hid (ownsRow_setCell_below (a := ⟨d, 3, none⟩) (ownsRow_setCell_below (a := ⟨d, 2, none⟩) (ownsRow_setCell_below (a := ⟨d, 1, none⟩) (ownsRow_setCell_below (a := ⟨d, 0, none⟩) HR.out.2.1 hdl (.slice t5 i d5)) hdl (.int .i64 0)) hdl (.bool false)) hdl (.int .i64 0))
      generalize ((((wr : World).setCell ⟨d, 0, none⟩ (.slice t5 i d5)).setCell ⟨d, 1, none⟩ (.int .i64 0)).setCell ⟨d, 2, none⟩ (.bool false)).setCell ⟨d, 3, none⟩ (.int .i64 0) = W at HBW HOW HQW HRW ⊢
      have e0 : W.cell? ⟨d, 0, none⟩ = some (.slice t5 i d5) := HBW.out.cell (i := 0) rfl
      have e1 : W.cell? ⟨d, 1, none⟩ = some (.int .i64 0) := HBW.out.cell (i := 1) rfl
      have e2 : W.cell? ⟨d, 2, none⟩ = some (.bool false) := HBW.out.cell (i := 2) rfl
      have e3 : W.cell? ⟨d, 3, none⟩ = some (.int .i64 0) := HBW.out.cell (i := 3) rfl
      refine bodyPost_ret (v := .agg #[(.slice t5 i d5), .int .i64 0, .bool false, .int .i64 0]) (by simp [results, Tryd.results25, go_sem, e0, e1, e2, e3]) rfl ?_
      have hrw := HRW.out
      rw [List.take_of_length_le (by rw [← HN.out]; exact Nat.le_refl _)] at hrw
      refine ⟨_, out, _, rfl, ?_, HQ.out.2.2.1, HQ.out.2.2.2.1, HQW.out, HQ.out.2.2.2.2.1, HOW.out⟩
      rw [← HN.out]
      exact ⟨hrw.1, hrw.2.imp (fun h => h) (fun ⟨a, b, c, h1, h2, h3⟩ => ⟨a, b, c, h1, by omega, h3⟩)⟩
end Go.Proofs.YtmkbgdgfbmfbdaaDoor
