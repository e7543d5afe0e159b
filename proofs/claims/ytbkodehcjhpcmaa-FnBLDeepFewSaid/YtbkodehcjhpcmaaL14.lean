/- The thin package's calls on filters. -/
import Derived.Test.YtbkodehcjhpcmaaL9
import Derived.Test.YtbkodehcjhpcmaaL13
namespace Go.Proofs.Ytbkodehcjhpcmaa
open Go.RowKit

theorem Row.other {w : World} {g n r : Nat} {f : Nat → Nat} (h : Row w g n f) (hr : g ≠ r) (j : Nat) (v : Value) : Row (w.setCell ⟨r, j, none⟩ v) g n f := by
  obtain ⟨cur, T, h1, h2⟩ := h
  exact ⟨cur, T, h1.other (fun e => hr e.symm) v, h2⟩
theorem Only.low {w0 w w' : World} {b : Nat} (h : Only [b] w w') (hb : w0.heap.size ≤ b) (hs : w0.heap.size ≤ w.heap.size) : Below w0.heap.size w w' := h.below hs (by simp; exact hb)
set_option maxRecDepth 100000 in
set_option maxHeartbeats 2000000 in
theorem BLTest_any {w : World} {v : Value} {m k n : Nat} {f : Nat → Nat} (h : Fil w v m k n f) (h0 : 0 < n) (hn : n ≤ 1000) (hk : k ≤ 8) (hm : 0 < m) (hmn : m ≤ 64 * n) {so : Option Addr} {dn dc : Nat} {s : Nat → UInt8} (hd : Data w so dn dc s) (hdn : dn ≤ 80) :
    Calls Try.prog 10 #[v, .slice so dn dc] w fun e w' => e = .returned (.bool (found f (hashes s dn) m k)) ∧ Below w.heap.size w w' := by
  obtain ⟨sl, rfl, ⟨sb, so_, sc, rfl, hw⟩, hs⟩ := h
  have HW : Hid (Fil w (.agg #[.int .u64 (m : Nat), .int .u64 (k : Nat), .slice (some ⟨sb, so_, none⟩) n sc]) m k n f) := ⟨_, rfl, ⟨sb, so_, sc, rfl, hw⟩, hs⟩
  have HD := Lib.hid hd
  clear hw hs hd
  have b0 : Below w.heap.size w (w.alloc (.cells #[.int .u64 (m : Nat), .int .u64 (k : Nat), .slice (some ⟨sb, so_, none⟩) n sc] 27)) := (Below.refl _ _).alloc (Nat.le_refl _) _
  have hBx : Blk (w.alloc (.cells #[.int .u64 (m : Nat), .int .u64 (k : Nat), .slice (some ⟨sb, so_, none⟩) n sc] 27)) w.heap.size #[.int .u64 (m : Nat), .int .u64 (k : Nat), .slice (some ⟨sb, so_, none⟩) n sc] 27 := Blk.new w _ _
  go_enter Try.func10, Try.ntmps10
  go_wp2_with fail
  generalize (w.alloc (.cells #[.int .u64 (m : Nat), .int .u64 (k : Nat), .slice (some ⟨sb, so_, none⟩) n sc] 27)) = W at *
  have H0 : Hid (Fil W (.agg #[.int .u64 (m : Nat), .int .u64 (k : Nat), .slice (some ⟨sb, so_, none⟩) n sc]) m k n f ∧ Data W so dn dc s ∧ Below w.heap.size w W ∧ w.heap.size < W.heap.size) := ⟨HW.out.same b0, HD.out.same b0, b0, hBx.lt⟩
  clear b0 hBx
  refine (filter_any H0.out.1 h0 hn).mono ?_
  rintro e w1 ⟨q, p, b, c, rfl, hq, hb⟩
  have H1 : Hid (BF w1 W.heap.size q p b n c m k f ∧ Below W.heap.size W w1) := ⟨hq, hb⟩
  clear hq hb
  go_wp2_with fail
  refine (Test_any H1.out.1 hk hm hmn hn (H0.out.2.1.same H1.out.2) hdn).mono ?_
  rintro e w2 ⟨rfl, hb⟩
  have HB : Hid (Below w.heap.size w w2) := (H0.out.2.2.1.trans (H1.out.2.mono H0.out.2.2.1.size)).trans (hb.mono (Nat.le_trans H0.out.2.2.1.size H1.out.2.size))
  clear hb
  go_wp2_with fail
  go_ret
  exact ⟨rfl, HB.out⟩
set_option maxRecDepth 100000 in
set_option maxHeartbeats 2000000 in
theorem BLAdd_any {w : World} {v : Value} {m k n : Nat} {f : Nat → Nat} (h : Fil w v m k n f) (h0 : 0 < n) (hn : n ≤ 1000) (hk : k ≤ 8) (hm : 0 < m) (hmn : m ≤ 64 * n) {so : Option Addr} {dn dc : Nat} {s : Nat → UInt8} (hd : Data w so dn dc s) (hdn : dn ≤ 80) :
    Calls Try.prog 15 #[v, .slice so dn dc] w fun e w' => (∃ v', e = .returned v' ∧ Fil w' v' m k n (adds f (hashes s dn) m k)) ∧ Below w.heap.size w w' := by
  obtain ⟨sl, rfl, ⟨sb, so_, sc, rfl, hw⟩, hs⟩ := h
  have HW : Hid (Fil w (.agg #[.int .u64 (m : Nat), .int .u64 (k : Nat), .slice (some ⟨sb, so_, none⟩) n sc]) m k n f) := ⟨_, rfl, ⟨sb, so_, sc, rfl, hw⟩, hs⟩
  have HD := Lib.hid hd
  clear hw hs hd
  have b0 : Below w.heap.size w ((w.alloc (.cells #[.int .u64 (m : Nat), .int .u64 (k : Nat), .slice (some ⟨sb, so_, none⟩) n sc] 27)).alloc (.cells #[.int .u64 0, .int .u64 0, .slice none 0 0] 27)) := ((Below.refl _ _).alloc (Nat.le_refl _) _).alloc (by simp) _
  have hR := Blk.new (w.alloc (.cells #[.int .u64 (m : Nat), .int .u64 (k : Nat), .slice (some ⟨sb, so_, none⟩) n sc] 27)) #[.int .u64 0, .int .u64 0, .slice none 0 0] 27
  have hBx : Blk ((w.alloc (.cells #[.int .u64 (m : Nat), .int .u64 (k : Nat), .slice (some ⟨sb, so_, none⟩) n sc] 27)).alloc (.cells #[.int .u64 0, .int .u64 0, .slice none 0 0] 27)) w.heap.size #[.int .u64 (m : Nat), .int .u64 (k : Nat), .slice (some ⟨sb, so_, none⟩) n sc] 27 := (Blk.new w _ _).alloc _
  go_enter Try.func15, Try.ntmps15
  go_wp2_with fail
  generalize ((w.alloc (.cells #[.int .u64 (m : Nat), .int .u64 (k : Nat), .slice (some ⟨sb, so_, none⟩) n sc] 27)).alloc (.cells #[.int .u64 0, .int .u64 0, .slice none 0 0] 27)) = W at *
  simp at hR
  have H0 : Hid (Fil W (.agg #[.int .u64 (m : Nat), .int .u64 (k : Nat), .slice (some ⟨sb, so_, none⟩) n sc]) m k n f ∧ Data W so dn dc s ∧ Below w.heap.size w W ∧ Blk W (w.heap.size + 1) #[.int .u64 0, .int .u64 0, .slice none 0 0] 27 ∧ w.heap.size < W.heap.size) := ⟨HW.out.same b0, HD.out.same b0, b0, hR, hBx.lt⟩
  clear b0 hBx hR
  refine (filter_any H0.out.1 h0 hn).mono ?_
  rintro e w1 ⟨q, p, b, c, rfl, hq, hb⟩
  have H1 : Hid (BF w1 W.heap.size q p b n c m k f ∧ Below W.heap.size W w1) := ⟨hq, hb⟩
  clear hq hb
  go_wp2_with fail
  refine (add_any H1.out.1 hk hm hmn hn (H0.out.2.1.same H1.out.2) hdn).mono ?_
  rintro e w2 ⟨rfl, hq, ho⟩
  have H2 : Hid (BF w2 W.heap.size q p b n c m k (adds f (hashes s dn) m k) ∧ Below W.heap.size W w2) := ⟨hq, H1.out.2.trans (ho.low H1.out.1.Bb H1.out.2.size)⟩
  clear hq ho
  go_wp2_with fail
  refine (told_any H2.out.1 h0 hn).mono ?_
  rintro e w3 ⟨g, cc, rfl, hg, hnc, hr, hb⟩
  have hb3 : Below W.heap.size W w3 := H2.out.2.trans (hb.mono H2.out.2.size)
  have hB3 : Blk w3 (w.heap.size + 1) #[.int .u64 0, .int .u64 0, .slice none 0 0] 27 := (hb3.block _ H0.out.2.2.2.1.lt).trans H0.out.2.2.2.1
  have H3 : Hid (Row w3 g n (adds f (hashes s dn) m k) ∧ n ≤ cc ∧ W.heap.size ≤ g ∧ Blk w3 (w.heap.size + 1) #[.int .u64 0, .int .u64 0, .slice none 0 0] 27 ∧ Below w.heap.size w w3) := ⟨hr, hnc, Nat.le_trans H2.out.2.size hg, hB3, H0.out.2.2.1.trans (hb3.mono H0.out.2.2.1.size)⟩
  have g0 : w3.cell? ⟨w.heap.size + 1, 0, none⟩ = some (.int .u64 0) := hB3.cell rfl
  have g1 : w3.cell? ⟨w.heap.size + 1, 1, none⟩ = some (.int .u64 0) := hB3.cell rfl
  have g2 : w3.cell? ⟨w.heap.size + 1, 2, none⟩ = some (.slice none 0 0) := hB3.cell rfl
  have e0 := hB3.free 0
  have e1 := hB3.free 1
  have e2 := hB3.free 2
  clear hr hnc hg hb hb3 hB3
  go_wp2_with fail
  have s0 := ((H3.out.2.2.2.1.set 0 (.int .u64 (m : Nat))).set 1 (.int .u64 (k : Nat))).set 2 (.slice (some ⟨g, 0, none⟩) n cc)
  have hbl := ((H3.out.2.2.2.2.setCell (p := ⟨w.heap.size + 1, 0, none⟩) (Nat.le_succ _) (.int .u64 (m : Nat))).setCell (p := ⟨w.heap.size + 1, 1, none⟩) (Nat.le_succ _) (.int .u64 (k : Nat))).setCell (p := ⟨w.heap.size + 1, 2, none⟩) (Nat.le_succ _) (.slice (some ⟨g, 0, none⟩) n cc)
  have d0 := s0.cell (i := 0) (v := .int .u64 (m : Nat)) (by simp)
  have d1 := s0.cell (i := 1) (v := .int .u64 (k : Nat)) (by simp)
  have d2 := s0.cell (i := 2) (v := .slice (some ⟨g, 0, none⟩) n cc) (by simp)
  have hgw : g ≠ w.heap.size + 1 := by have h1 := H3.out.2.2.1; have h2 := H0.out.2.2.2.1.lt; omega
  have hrow := ((H3.out.1.other hgw 0 (.int .u64 (m : Nat))).other hgw 1 (.int .u64 (k : Nat))).other hgw 2 (.slice (some ⟨g, 0, none⟩) n cc)
  refine bodyPost_ret (v := .agg #[.int .u64 (m : Nat), .int .u64 (k : Nat), .slice (some ⟨g, 0, none⟩) n cc]) ?_ rfl ⟨⟨_, rfl, ⟨_, rfl, hrow.wds H3.out.2.1, H2.out.1.rs.small⟩⟩, hbl⟩
  simp [results, Try.results15, go_sem, d0, d1, d2]
set_option maxRecDepth 100000 in
set_option maxHeartbeats 2000000 in
theorem BLTestAndAdd_any {w : World} {v : Value} {m k n : Nat} {f : Nat → Nat} (h : Fil w v m k n f) (h0 : 0 < n) (hn : n ≤ 1000) (hk : k ≤ 8) (hm : 0 < m) (hmn : m ≤ 64 * n) {so : Option Addr} {dn dc : Nat} {s : Nat → UInt8} (hd : Data w so dn dc s) (hdn : dn ≤ 80) :
    Calls Try.prog 13 #[v, .slice so dn dc] w fun e w' => (∃ v', e = .returned (.tuple #[v', .bool (found f (hashes s dn) m k)]) ∧ Fil w' v' m k n (adds f (hashes s dn) m k)) ∧ Below w.heap.size w w' := by
  obtain ⟨sl, rfl, ⟨sb, so_, sc, rfl, hw⟩, hs⟩ := h
  have HW : Hid (Fil w (.agg #[.int .u64 (m : Nat), .int .u64 (k : Nat), .slice (some ⟨sb, so_, none⟩) n sc]) m k n f) := ⟨_, rfl, ⟨sb, so_, sc, rfl, hw⟩, hs⟩
  have HD := Lib.hid hd
  clear hw hs hd
  have b0 : Below w.heap.size w ((w.alloc (.cells #[.int .u64 (m : Nat), .int .u64 (k : Nat), .slice (some ⟨sb, so_, none⟩) n sc] 27)).alloc (.cells #[.int .u64 0, .int .u64 0, .slice none 0 0] 27)) := ((Below.refl _ _).alloc (Nat.le_refl _) _).alloc (by simp) _
  have hR := Blk.new (w.alloc (.cells #[.int .u64 (m : Nat), .int .u64 (k : Nat), .slice (some ⟨sb, so_, none⟩) n sc] 27)) #[.int .u64 0, .int .u64 0, .slice none 0 0] 27
  have hBx : Blk ((w.alloc (.cells #[.int .u64 (m : Nat), .int .u64 (k : Nat), .slice (some ⟨sb, so_, none⟩) n sc] 27)).alloc (.cells #[.int .u64 0, .int .u64 0, .slice none 0 0] 27)) w.heap.size #[.int .u64 (m : Nat), .int .u64 (k : Nat), .slice (some ⟨sb, so_, none⟩) n sc] 27 := (Blk.new w _ _).alloc _
  go_enter Try.func13, Try.ntmps13
  go_wp2_with fail
  generalize ((w.alloc (.cells #[.int .u64 (m : Nat), .int .u64 (k : Nat), .slice (some ⟨sb, so_, none⟩) n sc] 27)).alloc (.cells #[.int .u64 0, .int .u64 0, .slice none 0 0] 27)) = W at *
  simp at hR
  have H0 : Hid (Fil W (.agg #[.int .u64 (m : Nat), .int .u64 (k : Nat), .slice (some ⟨sb, so_, none⟩) n sc]) m k n f ∧ Data W so dn dc s ∧ Below w.heap.size w W ∧ Blk W (w.heap.size + 1) #[.int .u64 0, .int .u64 0, .slice none 0 0] 27 ∧ w.heap.size < W.heap.size) := ⟨HW.out.same b0, HD.out.same b0, b0, hR, hBx.lt⟩
  clear b0 hBx hR
  refine (filter_any H0.out.1 h0 hn).mono ?_
  rintro e w1 ⟨q, p, b, c, rfl, hq, hb⟩
  have H1 : Hid (BF w1 W.heap.size q p b n c m k f ∧ Below W.heap.size W w1) := ⟨hq, hb⟩
  clear hq hb
  go_wp2_with fail
  refine (TestAndAdd_any H1.out.1 hk hm hmn hn (H0.out.2.1.same H1.out.2) hdn).mono ?_
  rintro e w2 ⟨rfl, hq, ho⟩
  have H2 : Hid (BF w2 W.heap.size q p b n c m k (adds f (hashes s dn) m k) ∧ Below W.heap.size W w2) := ⟨hq, H1.out.2.trans (ho.low H1.out.1.Bb H1.out.2.size)⟩
  clear hq ho
  go_wp2_with fail
  refine (told_any H2.out.1 h0 hn).mono ?_
  rintro e w3 ⟨g, cc, rfl, hg, hnc, hr, hb⟩
  have hb3 : Below W.heap.size W w3 := H2.out.2.trans (hb.mono H2.out.2.size)
  have hB3 : Blk w3 (w.heap.size + 1) #[.int .u64 0, .int .u64 0, .slice none 0 0] 27 := (hb3.block _ H0.out.2.2.2.1.lt).trans H0.out.2.2.2.1
  have H3 : Hid (Row w3 g n (adds f (hashes s dn) m k) ∧ n ≤ cc ∧ W.heap.size ≤ g ∧ Blk w3 (w.heap.size + 1) #[.int .u64 0, .int .u64 0, .slice none 0 0] 27 ∧ Below w.heap.size w w3) := ⟨hr, hnc, Nat.le_trans H2.out.2.size hg, hB3, H0.out.2.2.1.trans (hb3.mono H0.out.2.2.1.size)⟩
  have g0 : w3.cell? ⟨w.heap.size + 1, 0, none⟩ = some (.int .u64 0) := hB3.cell rfl
  have g1 : w3.cell? ⟨w.heap.size + 1, 1, none⟩ = some (.int .u64 0) := hB3.cell rfl
  have g2 : w3.cell? ⟨w.heap.size + 1, 2, none⟩ = some (.slice none 0 0) := hB3.cell rfl
  have e0 := hB3.free 0
  have e1 := hB3.free 1
  have e2 := hB3.free 2
  clear hr hnc hg hb hb3 hB3
  go_wp2_with fail
  have s0 := ((H3.out.2.2.2.1.set 0 (.int .u64 (m : Nat))).set 1 (.int .u64 (k : Nat))).set 2 (.slice (some ⟨g, 0, none⟩) n cc)
  have hbl := ((H3.out.2.2.2.2.setCell (p := ⟨w.heap.size + 1, 0, none⟩) (Nat.le_succ _) (.int .u64 (m : Nat))).setCell (p := ⟨w.heap.size + 1, 1, none⟩) (Nat.le_succ _) (.int .u64 (k : Nat))).setCell (p := ⟨w.heap.size + 1, 2, none⟩) (Nat.le_succ _) (.slice (some ⟨g, 0, none⟩) n cc)
  have d0 := s0.cell (i := 0) (v := .int .u64 (m : Nat)) (by simp)
  have d1 := s0.cell (i := 1) (v := .int .u64 (k : Nat)) (by simp)
  have d2 := s0.cell (i := 2) (v := .slice (some ⟨g, 0, none⟩) n cc) (by simp)
  have hgw : g ≠ w.heap.size + 1 := by have h1 := H3.out.2.2.1; have h2 := H0.out.2.2.2.1.lt; omega
  have hrow := ((H3.out.1.other hgw 0 (.int .u64 (m : Nat))).other hgw 1 (.int .u64 (k : Nat))).other hgw 2 (.slice (some ⟨g, 0, none⟩) n cc)
  refine bodyPost_ret (v := .tuple #[.agg #[.int .u64 (m : Nat), .int .u64 (k : Nat), .slice (some ⟨g, 0, none⟩) n cc], .bool (found f (hashes s dn) m k)]) ?_ rfl ⟨⟨_, rfl, ⟨_, rfl, hrow.wds H3.out.2.1, H2.out.1.rs.small⟩⟩, hbl⟩
  simp [results, Try.results13, go_sem, d0, d1, d2]
set_option maxRecDepth 100000 in
set_option maxHeartbeats 2000000 in
theorem BLTestOrAdd_any {w : World} {v : Value} {m k n : Nat} {f : Nat → Nat} (h : Fil w v m k n f) (h0 : 0 < n) (hn : n ≤ 1000) (hk : k ≤ 8) (hm : 0 < m) (hmn : m ≤ 64 * n) {so : Option Addr} {dn dc : Nat} {s : Nat → UInt8} (hd : Data w so dn dc s) (hdn : dn ≤ 80) :
    Calls Try.prog 14 #[v, .slice so dn dc] w fun e w' => (∃ v', e = .returned (.tuple #[v', .bool (found f (hashes s dn) m k)]) ∧ Fil w' v' m k n (orAdds f (hashes s dn) m k)) ∧ Below w.heap.size w w' := by
  obtain ⟨sl, rfl, ⟨sb, so_, sc, rfl, hw⟩, hs⟩ := h
  have HW : Hid (Fil w (.agg #[.int .u64 (m : Nat), .int .u64 (k : Nat), .slice (some ⟨sb, so_, none⟩) n sc]) m k n f) := ⟨_, rfl, ⟨sb, so_, sc, rfl, hw⟩, hs⟩
  have HD := Lib.hid hd
  clear hw hs hd
  have b0 : Below w.heap.size w ((w.alloc (.cells #[.int .u64 (m : Nat), .int .u64 (k : Nat), .slice (some ⟨sb, so_, none⟩) n sc] 27)).alloc (.cells #[.int .u64 0, .int .u64 0, .slice none 0 0] 27)) := ((Below.refl _ _).alloc (Nat.le_refl _) _).alloc (by simp) _
  have hR := Blk.new (w.alloc (.cells #[.int .u64 (m : Nat), .int .u64 (k : Nat), .slice (some ⟨sb, so_, none⟩) n sc] 27)) #[.int .u64 0, .int .u64 0, .slice none 0 0] 27
  have hBx : Blk ((w.alloc (.cells #[.int .u64 (m : Nat), .int .u64 (k : Nat), .slice (some ⟨sb, so_, none⟩) n sc] 27)).alloc (.cells #[.int .u64 0, .int .u64 0, .slice none 0 0] 27)) w.heap.size #[.int .u64 (m : Nat), .int .u64 (k : Nat), .slice (some ⟨sb, so_, none⟩) n sc] 27 := (Blk.new w _ _).alloc _
  go_enter Try.func14, Try.ntmps14
  go_wp2_with fail
  generalize ((w.alloc (.cells #[.int .u64 (m : Nat), .int .u64 (k : Nat), .slice (some ⟨sb, so_, none⟩) n sc] 27)).alloc (.cells #[.int .u64 0, .int .u64 0, .slice none 0 0] 27)) = W at *
  simp at hR
  have H0 : Hid (Fil W (.agg #[.int .u64 (m : Nat), .int .u64 (k : Nat), .slice (some ⟨sb, so_, none⟩) n sc]) m k n f ∧ Data W so dn dc s ∧ Below w.heap.size w W ∧ Blk W (w.heap.size + 1) #[.int .u64 0, .int .u64 0, .slice none 0 0] 27 ∧ w.heap.size < W.heap.size) := ⟨HW.out.same b0, HD.out.same b0, b0, hR, hBx.lt⟩
  clear b0 hBx hR
  refine (filter_any H0.out.1 h0 hn).mono ?_
  rintro e w1 ⟨q, p, b, c, rfl, hq, hb⟩
  have H1 : Hid (BF w1 W.heap.size q p b n c m k f ∧ Below W.heap.size W w1) := ⟨hq, hb⟩
  clear hq hb
  go_wp2_with fail
  refine (TestOrAdd_any H1.out.1 hk hm hmn hn (H0.out.2.1.same H1.out.2) hdn).mono ?_
  rintro e w2 ⟨rfl, hq, ho⟩
  have H2 : Hid (BF w2 W.heap.size q p b n c m k (orAdds f (hashes s dn) m k) ∧ Below W.heap.size W w2) := ⟨hq, H1.out.2.trans (ho.low H1.out.1.Bb H1.out.2.size)⟩
  clear hq ho
  go_wp2_with fail
  refine (told_any H2.out.1 h0 hn).mono ?_
  rintro e w3 ⟨g, cc, rfl, hg, hnc, hr, hb⟩
  have hb3 : Below W.heap.size W w3 := H2.out.2.trans (hb.mono H2.out.2.size)
  have hB3 : Blk w3 (w.heap.size + 1) #[.int .u64 0, .int .u64 0, .slice none 0 0] 27 := (hb3.block _ H0.out.2.2.2.1.lt).trans H0.out.2.2.2.1
  have H3 : Hid (Row w3 g n (orAdds f (hashes s dn) m k) ∧ n ≤ cc ∧ W.heap.size ≤ g ∧ Blk w3 (w.heap.size + 1) #[.int .u64 0, .int .u64 0, .slice none 0 0] 27 ∧ Below w.heap.size w w3) := ⟨hr, hnc, Nat.le_trans H2.out.2.size hg, hB3, H0.out.2.2.1.trans (hb3.mono H0.out.2.2.1.size)⟩
  have g0 : w3.cell? ⟨w.heap.size + 1, 0, none⟩ = some (.int .u64 0) := hB3.cell rfl
  have g1 : w3.cell? ⟨w.heap.size + 1, 1, none⟩ = some (.int .u64 0) := hB3.cell rfl
  have g2 : w3.cell? ⟨w.heap.size + 1, 2, none⟩ = some (.slice none 0 0) := hB3.cell rfl
  have e0 := hB3.free 0
  have e1 := hB3.free 1
  have e2 := hB3.free 2
  clear hr hnc hg hb hb3 hB3
  go_wp2_with fail
  have s0 := ((H3.out.2.2.2.1.set 0 (.int .u64 (m : Nat))).set 1 (.int .u64 (k : Nat))).set 2 (.slice (some ⟨g, 0, none⟩) n cc)
  have hbl := ((H3.out.2.2.2.2.setCell (p := ⟨w.heap.size + 1, 0, none⟩) (Nat.le_succ _) (.int .u64 (m : Nat))).setCell (p := ⟨w.heap.size + 1, 1, none⟩) (Nat.le_succ _) (.int .u64 (k : Nat))).setCell (p := ⟨w.heap.size + 1, 2, none⟩) (Nat.le_succ _) (.slice (some ⟨g, 0, none⟩) n cc)
  have d0 := s0.cell (i := 0) (v := .int .u64 (m : Nat)) (by simp)
  have d1 := s0.cell (i := 1) (v := .int .u64 (k : Nat)) (by simp)
  have d2 := s0.cell (i := 2) (v := .slice (some ⟨g, 0, none⟩) n cc) (by simp)
  have hgw : g ≠ w.heap.size + 1 := by have h1 := H3.out.2.2.1; have h2 := H0.out.2.2.2.1.lt; omega
  have hrow := ((H3.out.1.other hgw 0 (.int .u64 (m : Nat))).other hgw 1 (.int .u64 (k : Nat))).other hgw 2 (.slice (some ⟨g, 0, none⟩) n cc)
  refine bodyPost_ret (v := .tuple #[.agg #[.int .u64 (m : Nat), .int .u64 (k : Nat), .slice (some ⟨g, 0, none⟩) n cc], .bool (found f (hashes s dn) m k)]) ?_ rfl ⟨⟨_, rfl, ⟨_, rfl, hrow.wds H3.out.2.1, H2.out.1.rs.small⟩⟩, hbl⟩
  simp [results, Try.results14, go_sem, d0, d1, d2]
end Go.Proofs.Ytbkodehcjhpcmaa
