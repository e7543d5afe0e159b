/- FnMGParts answers true for every list and every number. -/
import Derived.Test.YtkjlijgeoidmiaaM9
import Derived.Test.YtkjlijgeoidmiaaLawKit
namespace Go.Proofs.Ytkjlijgeoidmiaa.LMGParts
open Go.RowKit Go.ChangeShapes Go.WideShapes Go.ChangeAt MG

theorem sorted_unique : ∀ {a b : List Int}, a.Pairwise (· ≤ ·) → b.Pairwise (· ≤ ·) → a.Perm b → a = b
  | [], b, _, _, h => h.nil_eq
  | x :: a, b, ha, hb, h => by
    cases b with
    | nil => exact absurd h.length_eq (by simp)
    | cons y b =>
      have h1 := List.pairwise_cons.1 ha
      have h2 := List.pairwise_cons.1 hb
      have hx : y ≤ x := by
        rcases List.mem_cons.1 (h.mem_iff.1 (List.mem_cons_self)) with e | e
        · omega
        · exact h2.1 x e
      have hy : x ≤ y := by
        rcases List.mem_cons.1 (h.mem_iff.2 (List.mem_cons_self)) with e | e
        · omega
        · exact h1.1 y e
      have e : x = y := by omega
      subst e
      rw [sorted_unique h1.2 h2.2 h.cons_inv]
theorem keys_unique {A B : List MG.Item} (ha : Up A) (hb : Up B) (h : A.Perm B) : A.map (·.1) = B.map (·.1) :=
  sorted_unique (List.pairwise_map.2 ha) (List.pairwise_map.2 hb) (h.map _)
theorem step_append_at {P : Program} {ops : Array Oper} {o : Oper} {a : Act} {w : World} {K : Act → World → Prop} {Q : Exit → Act → World → Prop} {E : Prop}
    (hg : o.guard = none) (s x : Operand) (t : TypeId) (hop : o.op = Op.call { callee := Callee.builtin Builtin.append, args := #[s, x], argTypes := #[t, t] })
    (base : Nat) (e : TypeId) (i : TypeInfo) (z : Value) (size bytes : Nat) (ht : P.underlying t = some (.slice e)) (hi : P.info? e = some i) (hz : i.zero = some z)
    (hsize : i.size = size) (hby : i.bytes = bytes) (hzs : z.cells.size = size) (hsz : 0 < size)
    (v : Value) (n : Nat) (xs : List Value) (hs : a.eval s = v) (hown : w.ownsRow base e size v n xs)
    (ad : Addr) (m c : Nat) (news : List Value) (hx : a.eval x = .slice (some ad) m c) (hl : news.length = m * size) (hnews : ∀ j u, news[j]? = some u → w.cell? (ad.add j) = some u) (h1 : ∀ u ∈ news, u.oneCell' = true)
    (h63 : n + m ≤ maxLen) (hbytes : (n + m) * bytes ≤ 140737488355328) (hbase : base ≤ w.heap.size)
    (h : ∀ v' w', w'.ownsRow base e size v' (n + m) (xs ++ news) → w.grownBy w' v.ownBlock → (v'.ownBlock = v.ownBlock ∨ v'.ownBlock = some w.heap.size) → K (a.put o.dst v') w') :
    if Region.wanted o (yielded ops a.tmps) = true then Oper.wp P o a w K Q else E := by
  have hw : Region.wanted o (yielded ops a.tmps) = true := by simp [Region.wanted, hg]
  rw [if_pos hw]
  obtain ⟨v', w', hr, h2, h3, _, h4⟩ := run_append_own_at (P := P) w base t o.type e i z size bytes ht hi hz hsize hby hzs hsz v n xs hown ad m c news hl hnews h1 h63 hbytes hbase
  unfold Oper.wp
  simp [execOp, hop, resolve, invoke, builtin, hs, hx, hr, Result.andThen]
  exact h v' w' h2 h3 h4

/-- The two parts, on the way. -/
structure PS (b : Nat) (w0 wr : World) (L : List MG.Item) (i : Nat) (v0 v1 : Value) (n0 n1 : Nat) (P0 P1 : List MG.Item) : Prop where
  blk : Blk wr b #[v0, v1] 57
  low : b < w0.heap.size
  own0 : wr.ownsRow w0.heap.size 60 2 v0 n0 (P0.map rec2).flatten
  own1 : wr.ownsRow w0.heap.size 60 2 v1 n1 (P1.map rec2).flatten
  sep : ∀ k, v0.ownBlock = some k → v1.ownBlock = some k → False
  frame : Only [b] w0 wr
  perm : (P0 ++ P1).Perm (L.take i)
  sub0 : P0.Sublist (L.take i)
  sub1 : P1.Sublist (L.take i)
theorem own_blk {w : World} {base : Nat} {e : TypeId} {size : Nat} {v : Value} {n : Nat} {xs : List Value} (h : w.ownsRow base e size v n xs) {k : Nat} (hk : v.ownBlock = some k) : base ≤ k ∧ k < w.heap.size := by
  obtain ⟨_, h | ⟨g, cap, cur, hv, hge, hh, _⟩⟩ := h
  · rw [h.1] at hk; simp [Value.ownBlock] at hk
  · rw [hv] at hk; simp [Value.ownBlock] at hk; subst hk; exact ⟨hge, Blk.lt (show Blk w g cur e from hh)⟩
theorem own_keep {w w' : World} {base : Nat} {e : TypeId} {size : Nat} {v : Value} {n : Nat} {xs : List Value} (h : w.ownsRow base e size v n xs) (hk : ∀ k, v.ownBlock = some k → w'.heap[k]? = w.heap[k]?) : w'.ownsRow base e size v n xs := by
  obtain ⟨h1, h | ⟨g, cap, cur, hv, hge, hh, r⟩⟩ := h
  · exact ⟨h1, Or.inl h⟩
  · exact ⟨h1, Or.inr ⟨g, cap, cur, hv, hge, (hk g (by rw [hv]; rfl)).trans hh, r⟩⟩
theorem snoc_perm {P0 P1 T : List MG.Item} {x : MG.Item} (h : (P0 ++ P1).Perm T) : ((P0 ++ [x]) ++ P1).Perm (T ++ [x]) := by
  rw [List.append_assoc]
  refine (List.Perm.append_left _ List.perm_append_comm).trans ?_
  rw [← List.append_assoc]
  exact h.append_right _
theorem snoc_perm1 {P0 P1 T : List MG.Item} {x : MG.Item} (h : (P0 ++ P1).Perm T) : (P0 ++ (P1 ++ [x])).Perm (T ++ [x]) := by
  rw [← List.append_assoc]
  exact h.append_right _
theorem flat_snoc {P : List MG.Item} {x : MG.Item} : ((P ++ [x]).map rec2).flatten = (P.map rec2).flatten ++ rec2 x := by simp
theorem PS.step0 {b : Nat} {w0 wr wm w6 : World} {L : List MG.Item} {i : Nat} {v0 v1 v' : Value} {n0 n1 : Nat} {P0 P1 : List MG.Item} {x : MG.Item} (h : PS b w0 wr L i v0 v1 n0 n1 P0 P1) (hx : L[i]? = some x) (hm : Below wr.heap.size wr wm)
    (hown : w6.ownsRow w0.heap.size 60 2 v' (n0 + 1) ((P0.map rec2).flatten ++ rec2 x)) (hg : wm.grownBy w6 v0.ownBlock) (hat : v'.ownBlock = v0.ownBlock ∨ v'.ownBlock = some wm.heap.size) :
    Blk w6 b #[v0, v1] 57 ∧ PS b w0 (w6.setCell ⟨b, 0, none⟩ v') L (i + 1) v' v1 (n0 + 1) n1 (P0 ++ [x]) P1 := by
  have hb := h.blk.lt
  have hlow := h.low
  have hs := hm.size
  have e1 : L.take (i + 1) = L.take i ++ [x] := by rw [List.take_add_one, hx]; rfl
  have hB : Blk w6 b #[v0, v1] 57 := (hg.block b (by omega) (fun e => by have := (own_blk h.own0 e.symm).1; omega)).trans ((hm.block b hb).trans h.blk)
  refine ⟨hB, ⟨hB.set 0 v', h.low, by rw [flat_snoc]; exact ownsRow_setCell_below hown h.low _, ownsRow_setCell_below (own_keep h.own1 fun k hk => ?_) h.low _, fun k k0 k1 => ?_, ?_, ?_, ?_, ?_⟩⟩
  · have hk2 := own_blk h.own1 hk
    exact (hg.block k (by omega) (fun e => h.sep k e.symm hk)).trans (hm.block k hk2.2)
  · rcases hat with e | e
    · exact h.sep k (by rw [← e]; exact k0) k1
    · rw [e] at k0
      have := (own_blk h.own1 k1).2
      simp at k0
      omega
  · exact ((h.frame.trans (Only.of_below (M := [b]) hm)).grown hg (fun k hk => Or.inr (own_blk h.own0 hk).1)).setCell (Or.inl (by simp)) _
  · rw [e1]; exact snoc_perm h.perm
  · rw [e1]; exact h.sub0.append (List.Sublist.refl _)
  · rw [e1]; exact h.sub1.trans (List.sublist_append_left _ _)
theorem PS.step1 {b : Nat} {w0 wr wm w6 : World} {L : List MG.Item} {i : Nat} {v0 v1 v' : Value} {n0 n1 : Nat} {P0 P1 : List MG.Item} {x : MG.Item} (h : PS b w0 wr L i v0 v1 n0 n1 P0 P1) (hx : L[i]? = some x) (hm : Below wr.heap.size wr wm)
    (hown : w6.ownsRow w0.heap.size 60 2 v' (n1 + 1) ((P1.map rec2).flatten ++ rec2 x)) (hg : wm.grownBy w6 v1.ownBlock) (hat : v'.ownBlock = v1.ownBlock ∨ v'.ownBlock = some wm.heap.size) :
    Blk w6 b #[v0, v1] 57 ∧ PS b w0 (w6.setCell ⟨b, 1, none⟩ v') L (i + 1) v0 v' n0 (n1 + 1) P0 (P1 ++ [x]) := by
  have hb := h.blk.lt
  have hlow := h.low
  have hs := hm.size
  have e1 : L.take (i + 1) = L.take i ++ [x] := by rw [List.take_add_one, hx]; rfl
  have hB : Blk w6 b #[v0, v1] 57 := (hg.block b (by omega) (fun e => by have := (own_blk h.own1 e.symm).1; omega)).trans ((hm.block b hb).trans h.blk)
  refine ⟨hB, ⟨hB.set 1 v', h.low, ownsRow_setCell_below (own_keep h.own0 fun k hk => ?_) h.low _, by rw [flat_snoc]; exact ownsRow_setCell_below hown h.low _, fun k k0 k1 => ?_, ?_, ?_, ?_, ?_⟩⟩
  · have hk2 := own_blk h.own0 hk
    exact (hg.block k (by omega) (fun e => h.sep k hk e.symm)).trans (hm.block k hk2.2)
  · rcases hat with e | e
    · exact h.sep k k0 (by rw [← e]; exact k1)
    · rw [e] at k1
      have := (own_blk h.own0 k0).2
      simp at k1
      omega
  · exact ((h.frame.trans (Only.of_below (M := [b]) hm)).grown hg (fun k hk => Or.inr (own_blk h.own1 hk).1)).setCell (Or.inl (by simp)) _
  · rw [e1]; exact snoc_perm1 h.perm
  · rw [e1]; exact h.sub0.trans (List.sublist_append_left _ _)
  · rw [e1]; exact h.sub1.append (List.Sublist.refl _)

set_option maxRecDepth 100000 in
set_option maxHeartbeats 8000000 in
theorem walk {w : World} {so : Option Addr} {n cp : Nat} {xs : List Int} {u : Nat} (hxl : xs.length = n) (hx : 0 < n → I16s w (.slice so n cp) xs) (hxb : ∀ x ∈ xs, -32768 ≤ x ∧ x ≤ 32767) (hu : u < 256) :
    Calls Try.prog 8 #[.slice so n cp, .int .u8 (u : Nat)] w fun e w' => e = .returned (.bool true) ∧ Below w.heap.size w w' := by
  obtain ⟨i0, hi, hz0, hz1, hz2⟩ := info_at infoG
  have HI : Hid (Try.prog.info? 60 = some i0 ∧ i0.zero = some (.agg #[.int .i64 0, .int .i64 0]) ∧ i0.size = 2 ∧ i0.bytes = 16) := ⟨hi, hz0, hz1, hz2⟩
  clear hi hz0 hz1 hz2
  by_cases hs : 2147483647 < n
  · have g0 : decide ((2147483647 : Int) < (n : Int)) = true := by simp; omega
    go_enter Try.func8, Try.ntmps8
    go_wp2_with fail
    go_ret
    exact ⟨rfl, Below.refl _ _⟩
  have g0 : decide ((2147483647 : Int) < (n : Int)) = false := by simp; omega
  by_cases hf : ¬ (0 < n ∧ n ≤ 30)
  · go_enter Try.func8, Try.ntmps8
    go_wp2_with fail
    refine (few_any _ _ _ _).mono ?_
    rintro e w' ⟨rfl, rfl⟩
    rw [(show (decide (0 < n) && decide (n ≤ 30)) = false by simp; omega)]
    go_wp2_with fail
    go_ret
    exact ⟨rfl, Below.refl _ _⟩
  obtain ⟨h0, hn⟩ := Decidable.not_not.1 hf
  clear hf
  have HX : Hid (I16s w (.slice so n cp) xs ∧ (∀ x ∈ xs, -32768 ≤ x ∧ x ≤ 32767) ∧ xs.length = n) := ⟨hx h0, hxb, hxl⟩
  obtain ⟨m, hm⟩ : ∃ m, m = 1 + u % 7 := ⟨_, rfl⟩
  have hm0 : 0 < m := by omega
  have hm7 : m ≤ 7 := by omega
  have w1_ : IntKind.i64.wrap (u : Int) = (u : Int) := by rw [IntKind.wrap_i64]; omega
  obtain ⟨r, hr⟩ : ∃ r, r = u % 7 := ⟨_, rfl⟩
  have w2_ : Int.tmod (u : Int) 7 = (r : Int) := by rw [Int.tmod_eq_emod_of_nonneg (by omega)]; omega
  have w2b : (u : Int) % 7 = (r : Int) := by omega
  have w3_ : IntKind.i64.wrap (r : Int) = (r : Int) := by rw [IntKind.wrap_i64]; omega
  have w4_ : IntKind.i64.wrap (1 + (r : Int)) = (m : Int) := by rw [IntKind.wrap_i64]; omega
  clear hr
  clear hx hxb hxl hs hm
  go_enter Try.func8, Try.ntmps8
  go_wp2_with fail
  refine (few_any _ _ _ _).mono ?_
  rintro e w' ⟨rfl, rfl⟩
  rw [(show (decide (0 < n) && decide (n ≤ 30)) = true by simp; omega)]
  go_wp2_with fail
  obtain ⟨b, hbw⟩ : ∃ b, b = w.heap.size := ⟨_, rfl⟩
  have kb : Blk (w.alloc (.cells #[.slice none 0 0, .slice none 0 0] 57)) w.heap.size #[.slice none 0 0, .slice none 0 0] 57 := Blk.new w _ _
  have kw : Below w.heap.size w (w.alloc (.cells #[.slice none 0 0, .slice none 0 0] 57)) := (Below.refl _ _).alloc (Nat.le_refl _) _
  have ks : (w.alloc (.cells #[.slice none 0 0, .slice none 0 0] 57)).heap.size = w.heap.size + 1 := by simp
  generalize w.alloc (.cells #[.slice none 0 0, .slice none 0 0] 57) = W at kb kw ks ⊢
  rw [← hbw] at kb kw ks ⊢
  have HW : Hid (Blk W b #[.slice none 0 0, .slice none 0 0] 57 ∧ Below b w W ∧ b = w.heap.size) := ⟨kb, kw, hbw⟩
  clear kb kw hbw
  refine (dmItems_any (HX.out.1.same (by rw [← HW.out.2.2]; exact HW.out.2.1)) h0 hn HX.out.2.1).mono ?_
  rintro e w2 ⟨v2, rfl, L, hown, hup, hlen, hb⟩
  obtain ⟨⟨g, c2, rfl⟩, hgl, hgs⟩ : (∃ g c2, v2 = .slice (some ⟨g, 0, none⟩) n c2) ∧ (∀ g c, v2 = .slice (some ⟨g, 0, none⟩) n c → b < g) ∧ (∀ g c, v2 = .slice (some ⟨g, 0, none⟩) n c → g < w2.heap.size) := by
    refine ⟨own_some hown h0, fun g c e => ?_, fun g c e => ?_⟩
    · have := (own_blk hown (k := g) (by rw [e]; rfl)).1; omega
    · exact (own_blk hown (k := g) (by rw [e]; rfl)).2
  have hg1 := hgl g c2 rfl
  have hg2 := hgs g c2 rfl
  have s2 := hb.size
  have H2 : Hid (Pairs w2 (.slice (some ⟨g, 0, none⟩) n c2) L ∧ Up L ∧ L.length = n ∧ Below b w w2 ∧ PS b w2 w2 L 0 (.slice none 0 0) (.slice none 0 0) 0 0 [] []) :=
    ⟨Pairs.of_own hown, hup, hlen, HW.out.2.1.trans (hb.mono (by omega)), ⟨HW.out.1.below hb (by omega), by omega, World.ownsRow_nil _ _ _ _, World.ownsRow_nil _ _ _ _, (fun k h => by simp [Value.ownBlock] at h), Only.refl _ _, by simp, by simp, by simp⟩⟩
  have HP : Hid (∀ wr, Only [b] w2 wr → Pairs wr (.slice (some ⟨g, 0, none⟩) n c2) L) := Lib.hid fun wr ho => H2.out.1.heap fun b' o' c' e _ _ => by
    simp only [Value.slice.injEq, Option.some.injEq, Addr.mk.injEq] at e
    rw [← e.1.1]
    exact ho.block g hg2 (by simp; omega)
  clear hown hup hlen hb hgl hgs
  go_wp2_with fail
  go_loopw [8, 9, 24] (fun _ _ iv wr => ∃ (i : Nat), iv = .int .i64 (i : Nat) ∧ i ≤ n ∧ Hid (∃ v0 v1 n0 n1 P0 P1, n0 + n1 = i ∧ PS b w2 wr L i v0 v1 n0 n1 P0 P1)) (fun _ _ iv _ => n - (intOf iv).toNat)
  case atStart => exact ⟨0, rfl, by omega, _, _, 0, 0, [], [], rfl, H2.out.2.2.2.2⟩
  case round =>
    obtain ⟨i, rfl, hin, hR⟩ := hrel
    obtain ⟨v0, v1, n0, n1, P0, P1, hnn, hR⟩ := hR
    have HR : Hid (PS b w2 wr L i v0 v1 n0 n1 P0 P1) := hR
    clear hR
    obtain ⟨s0, e0, rfl⟩ := own_shape HR.out.own0
    obtain ⟨s1, e1, rfl⟩ := own_shape HR.out.own1
    by_cases hlt : i < n
    · have z1 : (i : Int) < (n : Int) := by omega
      have z0 : (0 : Int) ≤ (i : Int) := by omega
      obtain ⟨x1, x2, hx⟩ : ∃ x1 x2, (x1, x2) = gt_ L i := ⟨_, _, rfl⟩
      have hLi : L[i]? = some (x1, x2) := by rw [hx]; exact at_gt (by rw [H2.out.2.2.1]; exact hlt)
      obtain ⟨b', o', hbo, d0, d1⟩ := Pairs.at (HP.out wr HR.out.frame) hLi
      simp only [Option.some.injEq, Addr.mk.injEq] at hbo
      obtain ⟨rfl, rfl, _⟩ := hbo
      rw [Nat.zero_add] at d0 d1
      have c0 : wr.cell? ⟨g, i * 2, none⟩ = some (.int .i64 x1) := d0
      have c1 : wr.cell? ⟨g, i * 2 + 1, none⟩ = some (.int .i64 x2) := d1
      have HL := Lib.hid hLi
      obtain ⟨q, hq⟩ : ∃ q, q = i / m := ⟨_, rfl⟩
      have hq1 : Int.tdiv (i : Int) (m : Int) = (q : Int) := by rw [Int.tdiv_eq_ediv_of_nonneg (by omega), hq]; simp
      have hq1' : (i : Int) / (m : Int) = (q : Int) := by rw [hq]; simp
      have hqi : q ≤ 30 := by rw [hq]; exact Nat.le_trans (Nat.div_le_self _ _) (by omega)
      have hq2 : IntKind.i64.wrap (q : Int) = (q : Int) := by rw [IntKind.wrap_i64]; omega
      have hm1 : ((m : Int) == 0) = false := by simp; omega
      have hm2 : ¬ (m : Int) = 0 := by omega
      have hm3 : ¬ m = 0 := by omega
      clear d0 d1 hx hLi hq
      by_cases hpar : q % 2 = 0
      · have hq3 : Int.tmod (q : Int) 2 = 0 := by rw [Int.tmod_eq_emod_of_nonneg (by omega)]; omega
        have hq3' : (q : Int) % 2 = 0 := by omega
        clear hpar
        go_wp2_with fail
        have f2 : (wr.alloc (.cells #[.int .i64 x1, .int .i64 x2] 60)).cell? ⟨b, 0, none⟩ = some (.slice s0 n0 e0) := (HR.out.blk.alloc _).cell rfl
        have f3 : (wr.alloc (.cells #[.int .i64 x1, .int .i64 x2] 60)).cell? ⟨wr.heap.size, 0, none⟩ = some (.int .i64 x1) := (Blk.new wr _ _).cell rfl
        have f4 : (wr.alloc (.cells #[.int .i64 x1, .int .i64 x2] 60)).cell? ⟨wr.heap.size, 1, none⟩ = some (.int .i64 x2) := (Blk.new wr _ _).cell rfl
        have HM : Hid (Below wr.heap.size wr (wr.alloc (.cells #[.int .i64 x1, .int .i64 x2] 60))) := (Below.refl _ _).alloc (Nat.le_refl _) _
        have own0 : Hid ((wr.alloc (.cells #[.int .i64 x1, .int .i64 x2] 60)).ownsRow w2.heap.size 60 2 (.slice s0 n0 e0) n0 (P0.map rec2).flatten) := HR.out.own0.alloc _
        have sz : (wr.alloc (.cells #[.int .i64 x1, .int .i64 x2] 60)).heap.size = wr.heap.size + 1 := by simp
        have cel : Hid (∀ (j : Nat) (u : Value), [Value.int .i64 x1, .int .i64 x2][j]? = some u → ((wr.alloc (.cells #[.int .i64 x1, .int .i64 x2] 60)).alloc (.cells #[.int .i64 x1, .int .i64 x2] 60)).cell? ((⟨wr.heap.size + 1, 0, none⟩ : Addr).add j) = some u) := by
          have h := two_cells (W := wr.alloc (.cells #[.int .i64 x1, .int .i64 x2] 60)) (xs := [.int .i64 x1, .int .i64 x2]) (T := 60)
          rw [sz] at h
          exact h
        have swr := HR.out.frame.size
        have f5 : ((wr.alloc (.cells #[.int .i64 x1, .int .i64 x2] 60)).alloc (.cells #[.int .i64 x1, .int .i64 x2] 60)).cell? ⟨b, 0, none⟩ = some (.slice s0 n0 e0) := ((HR.out.blk.alloc _).alloc _).cell rfl
        have bs : Hid (w2.heap.size ≤ ((wr.alloc (.cells #[.int .i64 x1, .int .i64 x2] 60)).alloc (.cells #[.int .i64 x1, .int .i64 x2] 60)).heap.size) := Lib.hid (by simp; omega)
        generalize wr.alloc (.cells #[.int .i64 x1, .int .i64 x2] 60) = W1 at f2 f3 f4 f5 bs HM own0 sz cel ⊢
        obtain ⟨p, hp⟩ : ∃ p, p = wr.heap.size := ⟨_, rfl⟩
        rw [← hp] at f3 f4 sz cel ⊢
        clear hp
        go_region_law ((refine step_append_at rfl (.tmp 38) (.tmp 40) 56 rfl w2.heap.size 60 i0 (.agg #[.int .i64 0, .int .i64 0]) 2 16 Try.underlying56 HI.out.1 HI.out.2.1 HI.out.2.2.1 HI.out.2.2.2 rfl (by decide) (.slice s0 n0 e0) n0 (P0.map rec2).flatten rfl (own0.out.alloc _) ⟨p + 1, 0, none⟩ 1 1 [.int .i64 x1, .int .i64 x2] rfl rfl cel.out (by intro u hu; simp at hu; rcases hu with rfl | rfl <;> rfl) (by unfold maxLen; omega) (by omega) bs.out ?_; intro v' w6 hown' hgrow hat; obtain ⟨s', e', rfl⟩ := own_shape hown'; have HG6 := Lib.hid (PS.step0 HR.out HL.out ((HM.out.alloc HM.out.size _).drew) hown' hgrow hat); clear hown' hgrow hat; have d2 := HG6.out.1.cell (i := 0) rfl; have d3 := HG6.out.1.free 0))
        all_goals (go_wp2_with fail; go_roundw)
        all_goals first
          | (case rel => exact ⟨i + 1, by go_num, by omega, _, _, _, _, _, _, by omega, HG6.out.2⟩)
          | (case measure => simp [intOf]; omega)
      · have hq3 : Int.tmod (q : Int) 2 = 1 := by rw [Int.tmod_eq_emod_of_nonneg (by omega)]; omega
        have hq3' : (q : Int) % 2 = 1 := by omega
        clear hpar
        go_wp2_with fail
        have f2 : (wr.alloc (.cells #[.int .i64 x1, .int .i64 x2] 60)).cell? ⟨b, 1, none⟩ = some (.slice s1 n1 e1) := (HR.out.blk.alloc _).cell rfl
        have f3 : (wr.alloc (.cells #[.int .i64 x1, .int .i64 x2] 60)).cell? ⟨wr.heap.size, 0, none⟩ = some (.int .i64 x1) := (Blk.new wr _ _).cell rfl
        have f4 : (wr.alloc (.cells #[.int .i64 x1, .int .i64 x2] 60)).cell? ⟨wr.heap.size, 1, none⟩ = some (.int .i64 x2) := (Blk.new wr _ _).cell rfl
        have HM : Hid (Below wr.heap.size wr (wr.alloc (.cells #[.int .i64 x1, .int .i64 x2] 60))) := (Below.refl _ _).alloc (Nat.le_refl _) _
        have own1 : Hid ((wr.alloc (.cells #[.int .i64 x1, .int .i64 x2] 60)).ownsRow w2.heap.size 60 2 (.slice s1 n1 e1) n1 (P1.map rec2).flatten) := HR.out.own1.alloc _
        have sz : (wr.alloc (.cells #[.int .i64 x1, .int .i64 x2] 60)).heap.size = wr.heap.size + 1 := by simp
        have cel : Hid (∀ (j : Nat) (u : Value), [Value.int .i64 x1, .int .i64 x2][j]? = some u → ((wr.alloc (.cells #[.int .i64 x1, .int .i64 x2] 60)).alloc (.cells #[.int .i64 x1, .int .i64 x2] 60)).cell? ((⟨wr.heap.size + 1, 0, none⟩ : Addr).add j) = some u) := by
          have h := two_cells (W := wr.alloc (.cells #[.int .i64 x1, .int .i64 x2] 60)) (xs := [.int .i64 x1, .int .i64 x2]) (T := 60)
          rw [sz] at h
          exact h
        have swr := HR.out.frame.size
        have f5 : ((wr.alloc (.cells #[.int .i64 x1, .int .i64 x2] 60)).alloc (.cells #[.int .i64 x1, .int .i64 x2] 60)).cell? ⟨b, 1, none⟩ = some (.slice s1 n1 e1) := ((HR.out.blk.alloc _).alloc _).cell rfl
        have bs : Hid (w2.heap.size ≤ ((wr.alloc (.cells #[.int .i64 x1, .int .i64 x2] 60)).alloc (.cells #[.int .i64 x1, .int .i64 x2] 60)).heap.size) := Lib.hid (by simp; omega)
        generalize wr.alloc (.cells #[.int .i64 x1, .int .i64 x2] 60) = W1 at f2 f3 f4 f5 bs HM own1 sz cel ⊢
        obtain ⟨p, hp⟩ : ∃ p, p = wr.heap.size := ⟨_, rfl⟩
        rw [← hp] at f3 f4 sz cel ⊢
        clear hp
        go_region_law ((refine step_append_at rfl (.tmp 38) (.tmp 40) 56 rfl w2.heap.size 60 i0 (.agg #[.int .i64 0, .int .i64 0]) 2 16 Try.underlying56 HI.out.1 HI.out.2.1 HI.out.2.2.1 HI.out.2.2.2 rfl (by decide) (.slice s1 n1 e1) n1 (P1.map rec2).flatten rfl (own1.out.alloc _) ⟨p + 1, 0, none⟩ 1 1 [.int .i64 x1, .int .i64 x2] rfl rfl cel.out (by intro u hu; simp at hu; rcases hu with rfl | rfl <;> rfl) (by unfold maxLen; omega) (by omega) bs.out ?_; intro v' w6 hown' hgrow hat; obtain ⟨s', e', rfl⟩ := own_shape hown'; have HG6 := Lib.hid (PS.step1 HR.out HL.out ((HM.out.alloc HM.out.size _).drew) hown' hgrow hat); clear hown' hgrow hat; have d2 := HG6.out.1.cell (i := 1) rfl; have d3 := HG6.out.1.free 1))
        all_goals (go_wp2_with fail; go_roundw)
        all_goals first
          | (case rel => exact ⟨i + 1, by go_num, by omega, _, _, _, _, _, _, by omega, HG6.out.2⟩)
          | (case measure => simp [intOf]; omega)
    · have z1 : ¬ (i : Int) < (n : Int) := by omega
      obtain rfl : i = n := by omega
      have HP0 : Hid (Up P0 ∧ Up P1 ∧ (P0 ++ P1).Perm L ∧ n0 + n1 = i) := by
        have e : L.take i = L := List.take_of_length_le (by rw [H2.out.2.2.1]; exact Nat.le_refl _)
        have a0 := HR.out.sub0
        have a1 := HR.out.sub1
        have a2 := HR.out.perm
        rw [e] at a0 a1 a2
        exact ⟨H2.out.2.1.sublist a0, H2.out.2.1.sublist a1, a2, hnn⟩
      have hn0 : n0 ≤ 100 := by omega
      have hn1 : n1 ≤ 100 := by omega
      clear hnn
      go_wp2_with fail
      refine (awake_any _).mono ?_
      rintro e w3 ⟨rfl, hb⟩
      have k3 := HR.out.blk.below hb HR.out.blk.lt
      have q0 : w3.cell? ⟨b, 0, none⟩ = some (.slice s0 n0 e0) := k3.cell rfl
      have q1 : w3.cell? ⟨b, 1, none⟩ = some (.slice s1 n1 e1) := k3.cell rfl
      have H3 : Hid (Pairs w3 (.slice s0 n0 e0) P0 ∧ Pairs w3 (.slice s1 n1 e1) P1 ∧ Pairs w3 (.slice (some ⟨g, 0, none⟩) i c2) L ∧ Below b w w3) :=
        ⟨(Pairs.of_own HR.out.own0).same hb, (Pairs.of_own HR.out.own1).same hb, (HP.out wr HR.out.frame).same hb, H2.out.2.2.2.1.trans ((HR.out.frame.below (by have := HR.out.low; omega) (by simp)).trans (hb.mono (by have := HR.out.blk.lt; omega)))⟩
      have hbs : b ≤ w3.heap.size := Nat.le_of_lt k3.lt
      clear hb k3
      go_wp2_with fail
      refine (mgMerge_any H3.out.1 H3.out.2.1 hn0 hn1 HP0.out.1 HP0.out.2.1).mono ?_
      rintro e w4 ⟨v4, rfl, M, hown, hp, hup, hb⟩
      rw [HP0.out.2.2.2] at hown
      obtain ⟨s4, c4, rfl⟩ := own_shape hown
      have H4 : Hid (Pairs w4 (.slice s4 i c4) M ∧ Pairs w4 (.slice (some ⟨g, 0, none⟩) i c2) L ∧ Below b w w4 ∧ M.map (fun x => Value.int .i64 x.1) = L.map (fun x => Value.int .i64 x.1) ∧ b ≤ w4.heap.size) := by
        refine ⟨Pairs.of_own hown, H3.out.2.2.1.same hb, H3.out.2.2.2.trans (hb.mono hbs), ?_, by have := hb.size; omega⟩
        have h := keys_unique hup H2.out.2.1 (hp.trans HP0.out.2.2.1)
        have h2 := congrArg (List.map (Value.int .i64)) h
        rw [List.map_map, List.map_map] at h2
        exact h2
      clear hown hp hup hb hbs q0 q1
      go_wp2_with fail
      refine (keys_any H4.out.1 (by omega)).mono ?_
      rintro e w5 ⟨v5, rfl, hown, hb⟩
      obtain ⟨s5, c5, rfl⟩ := own_shape hown
      have H5 : Hid (Ints w5 (.slice s5 i c5) (L.map (·.1)) ∧ Pairs w5 (.slice (some ⟨g, 0, none⟩) i c2) L ∧ Below b w w5 ∧ b ≤ w5.heap.size) := by
        refine ⟨?_, H4.out.2.1.same hb, H4.out.2.2.1.trans (hb.mono H4.out.2.2.2.2), by have := hb.size; have := H4.out.2.2.2.2; omega⟩
        have h := Vals.of_own hown
        rw [H4.out.2.2.2.1] at h
        rw [Ints, List.map_map]
        exact h
      clear hown hb
      go_wp2_with fail
      refine (keys_any H5.out.2.1 (by omega)).mono ?_
      rintro e w6 ⟨v6, rfl, hown, hb⟩
      obtain ⟨s6, c6, rfl⟩ := own_shape hown
      have H6 : Hid (Ints w6 (.slice s5 i c5) (L.map (·.1)) ∧ Ints w6 (.slice s6 i c6) (L.map (·.1)) ∧ Below b w w6 ∧ b ≤ w6.heap.size) := by
        refine ⟨H5.out.1.same hb, ?_, H5.out.2.2.1.trans (hb.mono H5.out.2.2.2), by have := hb.size; have := H5.out.2.2.2; omega⟩
        have h := Vals.of_own hown
        rw [Ints, List.map_map]
        exact h
      clear hown hb
      go_wp2_with fail
      refine (equal_int H6.out.1 H6.out.2.1 (by omega) (by omega)).mono ?_
      rintro e w7 ⟨rfl, hb⟩
      have H7 : Hid (Below b w w7) := H6.out.2.2.1.trans (hb.mono H6.out.2.2.2)
      clear hb
      rw [decide_eq_true (rfl : L.map (·.1) = L.map (·.1))]
      go_wp2_with fail
      go_ret
      have h := H7.out
      rw [HW.out.2.2] at h
      exact ⟨rfl, h⟩

theorem own : ownKnob Try.prog.godebug = none := by kernel_rfl
theorem laidOut : laidOutB Try.prog = true := by kernel_rfl

set_option maxRecDepth 100000 in
theorem lifted (os : Os) (started : os.Started) (H : Type) (enc : TypeId × Value → H) :
    ReturnsInHanded {} Try.checked os 8 .any (Rows.fnMGPartsSpec.pre6 enc Try.prog Try.f8 Rows.fnMGPartsRow.domain false) (Rows.fnMGPartsSpec.post enc Try.prog Try.f8 false true false false) := by
  refine LawKit.lifted (C := Try.checked) (T := 4) own started (by kernel_rfl) Try.func8 laidOut (by kernel_rfl) (by kernel_rfl) Try.underlying4 rfl ?_
    (ChangeSpec.witness6 (enc := enc) (C := Try.checked) false ⟨#[], #[.slice none 0 0, .int .u8 0], []⟩ 8 (by kernel_rfl) (by kernel_rfl) (by kernel_rfl) (by kernel_rfl)) ?_
  · intro ds hd
    match ds, hd with
    | [_, _], _ => rfl
  · intro W base args ds p hval0 hA0 _
    have hval : ∀ (j : Nat) t v, Try.f8.params[j]? = some t → args[j]? = some v → Value.okWide Try.prog W .any base t v := hval0
    have hA : DataW.TrodAll enc Try.prog W 0 (fun _ => true) true Try.f8.params.toList args.toList ds p := hA0
    rw [Try.params8] at hA hval
    obtain ⟨v0, vs0, d0, ds0, p0, q0, hargs, rfl, rfl, h0, r0⟩ := trodAll_cons hA
    obtain ⟨v1, vs1, d1, ds1, p1, q1, rfl, rfl, rfl, h1, r1⟩ := trodAll_cons r0
    obtain ⟨rfl, rfl, rfl⟩ := trodAll_nil r1
    obtain rfl : args = #[v0, v1] := by cases args; simp_all
    obtain ⟨sk0, nk0, ck0, rfl⟩ := okWide_slice Try.underlying22 (hval 0 22 v0 rfl rfl)
    obtain ⟨fu0, hf0⟩ := h0
    obtain ⟨so0, n0, cp0, xs0, hw0, hl0, hv0, hb0⟩ := open_ilist Try.underlying22 Try.underlying23 (k := .i16) (by kernel_rfl) hf0
    rw [hw0]
    obtain ⟨a1, rfl, rfl, rfl, w1⟩ := open_int Try.underlying5 (hval 1 5 v1 rfl rfl) h1
    have b1 := bounds_u8 w1
    obtain ⟨i1, rfl⟩ : ∃ i : Nat, a1 = (i : Int) := ⟨a1.toNat, by omega⟩
    exact walk hl0 hv0 (fun x h => bounds_i16 (hb0 x h)) (by omega)

theorem proved : Rows.FnMGPartsSaid :=
  OpenClaim.holds_of_wide 8 Try.f8 rfl rfl rfl rfl rfl rfl rfl ⟨rfl, rfl, rfl, rfl, rfl⟩ rfl rfl rfl rfl rfl (by kernel_rfl) Try.func8 (by kernel_rfl)
    (of_decide_eq_true (by kernel_rfl)) (by unfold Func.isWrapper; first | (rw [if_pos (by decide +kernel)]; kernel_rfl) | (rw [if_neg (by decide +kernel)]; exact ⟨rfl, rfl⟩))
    (fun os started H enc _ => lifted os started H enc)
#print axioms proved
end Go.Proofs.Ytkjlijgeoidmiaa.LMGParts
