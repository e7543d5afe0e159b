/- A step that deletes. -/
import Derived.Test.YtalphojbkeleiaaHB
import Derived.Deep.RegionHeld3
namespace Go.Proofs.Ytalphojbkeleiaa
namespace FH
open Go.RowKit

/-- Behind the deletion. -/
structure Dl (w1 : World) (q : Nat) (A : List Nat) (m : Mem) (L : List Nat) (y : Nat) (W : World) : Prop where
  ex : ∃ m' hm', Fh W q A m' hm' (L.erase y) ∧ (∀ z, z ≠ y → (m' z).pr = (m z).pr)
  frame : Only (q :: A) w1 W
theorem Dl.alloc {w1 W : World} {q y : Nat} {A L : List Nat} {m : Mem} (h : Dl w1 q A m L y W) (o : Obj) : Dl w1 q A m L y (W.alloc o) := by
  obtain ⟨⟨m', hm', h1, h2⟩, h3⟩ := h
  exact ⟨⟨m', hm', h1.under ((Below.refl _ _).alloc (Nat.le_refl _) _), h2⟩, h3.alloc o⟩
theorem Dl.below {w1 W W' : World} {q y : Nat} {A L : List Nat} {m : Mem} (h : Dl w1 q A m L y W) (hb : Below W.heap.size W W') : Dl w1 q A m L y W' := by
  obtain ⟨⟨m', hm', h1, h2⟩, h3⟩ := h
  exact ⟨⟨m', hm', h1.under hb, h2⟩, h3.trans (Only.of_below hb)⟩
theorem Dl.lay {w1 W : World} {q y g : Nat} {A L : List Nat} {m : Mem} {x0 x1 x2 x3 x4 : Value} (h : Dl w1 q A m L y W) (hg : w1.heap.size ≤ g) (hn : ∀ k, w1.heap.size ≤ k → k ∉ q :: A) (hb : Blk W g #[x0, x1, x2, x3, x4] 39) (e p s : Int) (b : Bool) :
    Dl w1 q A m L y (lay5 W g e p s b) ∧ Blk (lay5 W g e p s b) g (said5 e p s b) 39 := by
  obtain ⟨h1, h2⟩ := lay5_blk hb e p s b
  obtain ⟨⟨m', hm', h3, h4⟩, h5⟩ := h
  refine ⟨⟨⟨m', hm', h3.only h2 (fun k hk e => ?_), h4⟩, ochain h5 h2 (fun k hk => ?_)⟩, h1⟩
  · simp only [List.mem_singleton] at e
    subst e
    exact hn k hg hk
  · simp only [List.mem_singleton] at hk
    exact Or.inr (by omega)
set_option maxRecDepth 100000 in
set_option maxHeartbeats 8000000 in
theorem step_del {w : World} {B b n : Nat} {M : List Nat} {es : List (Option Int)} {N p p0 : Int} {x : Value} (h : Abs w B b M true es) (hB : B ≤ w.heap.size) (hN : N = (n : Nat)) (hl : es[n]? = some (some p0)) :
    Calls Try.prog 13 #[.pointer (some ⟨b, 0, none⟩), .agg #[.int .i64 5, .int .i64 N, .int .i64 p, x]] w (StepTo B b M false (es.set n none) (-1) 0 w) := by
  subst hN
  obtain ⟨q, A, m, hm, L, v, ea, hh, hM, hes, hcl, hbt⟩ := h
  have HG : Hid (M = blks b q A v ∧ es = prs m ea ∧ (∀ y, (m y).mkd = false) ∧ (∀ y ∈ L, (m y).pr ≠ bot) ∧ B ≤ w.heap.size ∧ ∃ y, ea[n]? = some (some y)) := ⟨hM, hes, hcl rfl, hbt, hB, by rw [hes] at hl; obtain ⟨a, ha, _⟩ := prs_get hl; exact ⟨a, ha⟩⟩
  obtain ⟨d, hd⟩ : ∃ d, d = w.heap.size := ⟨_, rfl⟩
  have hb1 := (Blk.new w #[.int .i64 5, .int .i64 (n : Nat), .int .i64 p, x] 30).alloc (.cells #[.bool false, .int .i64 0, .int .i64 0, .int .i64 0, .bool false] 39)
  have hb2 := Blk.new (w.alloc (.cells #[.int .i64 5, .int .i64 (n : Nat), .int .i64 p, x] 30)) #[.bool false, .int .i64 0, .int .i64 0, .int .i64 0, .bool false] 39
  have hbw : Below w.heap.size w ((w.alloc (.cells #[.int .i64 5, .int .i64 (n : Nat), .int .i64 p, x] 30)).alloc (.cells #[.bool false, .int .i64 0, .int .i64 0, .int .i64 0, .bool false] 39)) := ((Below.refl _ _).alloc (Nat.le_refl _) _).alloc (by simp) _
  have H0 : Hid (Blk ((w.alloc (.cells #[.int .i64 5, .int .i64 (n : Nat), .int .i64 p, x] 30)).alloc (.cells #[.bool false, .int .i64 0, .int .i64 0, .int .i64 0, .bool false] 39)) d #[.int .i64 5, .int .i64 (n : Nat), .int .i64 p, x] 30 ∧ Blk ((w.alloc (.cells #[.int .i64 5, .int .i64 (n : Nat), .int .i64 p, x] 30)).alloc (.cells #[.bool false, .int .i64 0, .int .i64 0, .int .i64 0, .bool false] 39)) (d + 1) #[.bool false, .int .i64 0, .int .i64 0, .int .i64 0, .bool false] 39 ∧ Hp ((w.alloc (.cells #[.int .i64 5, .int .i64 (n : Nat), .int .i64 p, x] 30)).alloc (.cells #[.bool false, .int .i64 0, .int .i64 0, .int .i64 0, .bool false] 39)) B b q A m hm L v ea ∧ Below w.heap.size w ((w.alloc (.cells #[.int .i64 5, .int .i64 (n : Nat), .int .i64 p, x] 30)).alloc (.cells #[.bool false, .int .i64 0, .int .i64 0, .int .i64 0, .bool false] 39))) := by
    rw [World.size_alloc] at hb2
    rw [hd]
    exact ⟨hb1, hb2, hh.under hbw, hbw⟩
  have HD : Hid (d = w.heap.size ∧ ∀ k ∈ blks b q A v, k < w.heap.size) := ⟨hd, hh.all_lt⟩
  clear hb1 hb2 hbw hM hes hcl hbt hB hl
  go_enter Try.func13, Try.ntmps13
  go_upto_region 1 with (fail)
  rw [← hd]
  generalize ((w.alloc (.cells #[.int .i64 5, .int .i64 (n : Nat), .int .i64 p, x] 30)).alloc (.cells #[.bool false, .int .i64 0, .int .i64 0, .int .i64 0, .bool false] 39)) = w0 at H0 ⊢
  clear hd hh
  have a0 : w0.cell? ⟨d, 0, none⟩ = some (.int .i64 5) := H0.out.1.cell rfl
  have b0 : w0.cell? ⟨b, 0, none⟩ = some (.pointer (some ⟨q, 0, none⟩)) := H0.out.2.2.1.hb.cell rfl
  obtain ⟨y, hy⟩ := HG.out.2.2.2.2.2
  have HY := Lib.hid hy
  have hn : n < ea.length := (List.getElem?_eq_some_iff.1 hy).1
  obtain ⟨g7, c7, hv⟩ := own_some H0.out.2.2.1.row (by omega)
  subst hv
  have b1 : w0.cell? ⟨b, 1, none⟩ = some (.slice (some ⟨g7, 0, none⟩) ea.length c7) := H0.out.2.2.1.hb.cell rfl
  have e7 : w0.cell? ⟨g7, n, none⟩ = some (.pointer (some ⟨y, 0, none⟩)) := (own_cell (i := n) (u := optp (some y)) H0.out.2.2.1.row (by rw [row, List.getElem?_map, hy]; rfl)).1
  have a1 : w0.cell? ⟨d, 1, none⟩ = some (.int .i64 (n : Nat)) := H0.out.1.cell rfl
  obtain ⟨l, hl2⟩ : ∃ l, l = ea.length := ⟨_, rfl⟩
  have HLL := Lib.hid hl2
  rw [← hl2] at hn b1
  have hln : l ≤ 900 := by rw [hl2]; exact H0.out.2.2.1.len
  clear hy hl2
  have hn0 : decide ((n : Int) < 0) = false := decide_eq_false (by omega)
  have hn1 : decide (l ≤ n) = false := decide_eq_false (by omega)
  have hn2 : ¬ (n : Int) < 0 := by omega
  have hn3 : (0 : Int) ≤ (n : Int) := by omega
  go_wp2_with fail
  go_quiet (fail)
  go_upto_region 17 with (fail)
  have H1 : Hid (Hp (w0.drewN nq) B b q A m hm L (.slice (some ⟨g7, 0, none⟩) ea.length c7) ea ∧ Blk (w0.drewN nq) d #[.int .i64 5, .int .i64 (n : Nat), .int .i64 p, x] 30 ∧ Blk (w0.drewN nq) (d + 1) #[.bool false, .int .i64 0, .int .i64 0, .int .i64 0, .bool false] 39 ∧ Only [] w0 (w0.drewN nq)) :=
    ⟨H0.out.2.2.1.only (M := []) (Only.drewN (Only.refl _ _) nq) (by simp), H0.out.1, H0.out.2.1, (Only.refl _ _).drewN nq⟩
  generalize w0.drewN nq = w1 at H1 ⊢
  clear b1 e7 a0 a1 b0
  have HDL : Hid (∀ W', Only [] w1 W' → Calls Try.prog 22 #[.pointer (some ⟨q, 0, none⟩), .pointer (some ⟨y, 0, none⟩)] W' fun e w3 => e = .returned .nilIface ∧ Dl w1 q A m L y w3 ∧ Only (q :: A) W' w3) := fun W' ho => by
    refine (delete_any (H1.out.1.fh.only ho (by simp)) (H1.out.1.mem HY.out) HG.out.2.2.1 HG.out.2.2.2.1).mono ?_
    rintro e w3 ⟨m', hm', rfl, hf, hpr, ho3⟩
    exact ⟨rfl, ⟨⟨m', hm', hf, hpr⟩, (ho.mono (by simp)).trans ho3⟩, ho3⟩
  have hbl : ∀ k ∈ b :: rowB (.slice (some ⟨g7, 0, none⟩) ea.length c7), k ∉ q :: A := fun k hk => by
    simp only [List.mem_cons] at hk
    rcases hk with rfl | hk
    · exact H1.out.1.bA
    · intro e
      exact H1.out.1.sep k (by simpa [rowB] using hk) (List.mem_cons_of_mem _ e)
  have HHE : Hid (∀ W', Dl w1 q A m L y W' → Blk W' b #[.pointer (some ⟨q, 0, none⟩), .slice (some ⟨g7, 0, none⟩) ea.length c7] 49 ∧ W'.ownsRow B 40 1 (.slice (some ⟨g7, 0, none⟩) ea.length c7) ea.length (FH.row ea)) := fun W' ⟨⟨m', hm', hf, hpr⟩, ho⟩ =>
    ⟨H1.out.1.hb.only ho (hbl b (by simp)), own_only H1.out.1.row ho (fun k hk => hbl k (by simp [rowB, hk]))⟩
  have HSD : Hid (∀ W', Dl w1 q A m L y W' → Calls Try.prog 17 #[.pointer (some ⟨b, 0, none⟩), .pointer none, .nilIface] W' fun e w4 => e = .returned (.agg #[.bool true, .int .i64 (-1), .int .i64 0, .int .i64 0, .bool false]) ∧ Below W'.heap.size W' w4) := fun W' hd => by
    obtain ⟨h1, h2⟩ := HHE.out W' hd
    obtain ⟨⟨m', hm', hf, hpr⟩, ho⟩ := hd
    refine (said_any (x := none) (e1 := 0) (p1 := 0) (⟨hf.ms, h1, h2, H1.out.1.he.sub, H1.out.1.len⟩ : He W' B b q A m' (.slice (some ⟨g7, 0, none⟩) ea.length c7) ea) (by simp) (by simp)).mono ?_
    rintro e w' ⟨⟨f, hf, he⟩, hb⟩
    have hf1 : f = false := by
      cases f with
      | false => rfl
      | true => obtain ⟨_, _, _, h⟩ := hf.1 rfl; cases h
    rw [hf1] at he
    exact ⟨he, hb⟩
  have b0 : w1.cell? ⟨b, 0, none⟩ = some (.pointer (some ⟨q, 0, none⟩)) := H1.out.1.hb.cell rfl
  have b1 : w1.cell? ⟨b, 1, none⟩ = some (.slice (some ⟨g7, 0, none⟩) l c7) := by rw [HLL.out]; exact H1.out.1.hb.cell rfl
  have e7 : w1.cell? ⟨g7, n, none⟩ = some (.pointer (some ⟨y, 0, none⟩)) := (own_cell (i := n) (u := optp (some y)) H1.out.1.row (by rw [row, List.getElem?_map, HY.out]; rfl)).1
  have a1 : w1.cell? ⟨d, 1, none⟩ = some (.int .i64 (n : Nat)) := H1.out.2.1.cell rfl
  have HS : Hid (∀ W', Only (q :: A) w1 W' → W'.cell? ⟨b, 0, none⟩ = some (.pointer (some ⟨q, 0, none⟩)) ∧ W'.cell? ⟨b, 1, none⟩ = some (.slice (some ⟨g7, 0, none⟩) l c7) ∧ W'.cell? ⟨g7, n, none⟩ = some (.pointer (some ⟨y, 0, none⟩)) ∧ W'.cell? ⟨d, 1, none⟩ = some (.int .i64 (n : Nat))) := fun W' ho => by
    have key : ∀ (p : Addr) (u : Value), w1.cell? p = some u → p.block ∉ q :: A → W'.cell? p = some u := fun p u h1 h2 => (World.cell?_of_block (ho.block p.block (cell_lt' h1) h2)).trans h1
    refine ⟨key _ _ b0 (hbl b (by simp)), key _ _ b1 (hbl b (by simp)), key _ _ e7 (hbl g7 (by simp [rowB, Value.ownBlock])), key _ _ a1 (fun e => ?_)⟩
    have h1 := HD.out.2 d (by simp only [List.mem_cons] at e; exact mem_blks.2 (Or.inr (e.imp id Or.inl)))
    have h2 := HD.out.1
    omega
  have HNB : Hid (∀ k, w1.heap.size ≤ k → k ∉ q :: A) := fun k hk e => by have := H1.out.1.fh.all_lt k e; omega
  clear hbl
  go_cut [7] from 116 to 130 (fun t7 wx => ∃ g6 : Nat, t7 = .pointer (some ⟨g6, 0, none⟩) ∧ Hid (Dl w1 q A m L y wx ∧ Blk wx g6 (said5 (-1) 0 0 false) 39 ∧ w1.heap.size ≤ g6))
  case first =>
    go_region_held3 (fun W' => W'.cell? ⟨b, 0, none⟩ = some (.pointer (some ⟨q, 0, none⟩)) ∧ W'.cell? ⟨b, 1, none⟩ = some (.slice (some ⟨g7, 0, none⟩) l c7) ∧ W'.cell? ⟨g7, n, none⟩ = some (.pointer (some ⟨y, 0, none⟩)) ∧ W'.cell? ⟨d, 1, none⟩ = some (.int .i64 (n : Nat)))
      (with_reducible (first | exact HS.out _ (((((G4.out.1.frame.setCell (Or.inr G5.out) _).setCell (Or.inr G5.out) _).setCell (Or.inr G5.out) _).setCell (Or.inr G5.out) _).setCell (Or.inr G5.out) _) | exact HS.out _ G4.out.1.frame | exact HS.out _ (G4.out.1.frame.alloc _) | exact HS.out _ G3.out.1.frame | exact HS.out _ (G3.out.1.frame.alloc _) | exact ⟨b0, b1, e7, a1⟩ | exact HS.out _ ((Only.refl _ _).drew) | exact HS.out _ ((Only.refl _ _).drew.alloc _) | exact HS.out _ (((Only.refl _ _).alloc _).drew)))
      (first
        | (go_at_call 22; refine (HDL.out _ (by with_reducible (first | exact ((Only.refl _ _).alloc _).drew | exact (Only.refl _ _).drew.alloc _ | exact (Only.refl _ _).drew))).mono ?_; rintro e w3 ⟨rfl, hdl, ho3⟩; (first | (have ho4 : Only (q :: A) (w1.alloc (.cells #[.bool false, .int .i64 0, .int .i64 0, .int .i64 0, .bool false] 39)).drew w3 := by with_reducible exact ho3); (have G3 : Hid (Dl w1 q A m L y w3 ∧ Blk w3 w1.heap.size #[.bool false, .int .i64 0, .int .i64 0, .int .i64 0, .bool false] 39) := ⟨hdl, (Blk.new w1 _ _).drew.only ho4 (HNB.out _ (Nat.le_refl _))⟩); clear ho4 | (have ho4 : Only (q :: A) (w1.drew.alloc (.cells #[.bool false, .int .i64 0, .int .i64 0, .int .i64 0, .bool false] 39)) w3 := by with_reducible exact ho3); (have G3 : Hid (Dl w1 q A m L y w3 ∧ Blk w3 w1.heap.size #[.bool false, .int .i64 0, .int .i64 0, .int .i64 0, .bool false] 39) := ⟨hdl, (Blk.new w1.drew _ _).only ho4 (HNB.out _ (Nat.le_refl _))⟩); clear ho4 | (have G3 : Hid (Dl w1 q A m L y w3 ∧ True) := ⟨hdl, trivial⟩)); clear hdl ho3)
        | (go_at_call 17; refine (HSD.out _ (by first | exact G3.out.1 | exact G3.out.1.alloc _)).mono ?_; rintro e w4 ⟨rfl, hb4⟩; (first | ((have hb5 : Below w3.heap.size w3 w4 := by with_reducible exact hb4); (first | ((have G4 : Hid (Dl w1 q A m L y w4 ∧ Blk w4 w1.heap.size #[.bool false, .int .i64 0, .int .i64 0, .int .i64 0, .bool false] 39) := ⟨G3.out.1.below hb5, G3.out.2.below hb5 G3.out.2.lt⟩); have r0 : w4.cell? ⟨w1.heap.size, 0, none⟩ = some (.bool false) := G4.out.2.cell rfl; have r1 : w4.cell? ⟨w1.heap.size, 1, none⟩ = some (.int .i64 0) := G4.out.2.cell rfl; have r2 : w4.cell? ⟨w1.heap.size, 2, none⟩ = some (.int .i64 0) := G4.out.2.cell rfl; have r3 : w4.cell? ⟨w1.heap.size, 3, none⟩ = some (.int .i64 0) := G4.out.2.cell rfl; have r4 : w4.cell? ⟨w1.heap.size, 4, none⟩ = some (.bool false) := G4.out.2.cell rfl; have fr := G4.out.2.free; have G5 : Hid (w1.heap.size ≤ w1.heap.size) := Lib.hid (Nat.le_refl _)) | (have G4 : Hid (Dl w1 q A m L y w4 ∧ True) := ⟨G3.out.1.below hb5, trivial⟩)); clear hb5) | ((have hb5 : Below (w3.alloc (.cells #[.bool false, .int .i64 0, .int .i64 0, .int .i64 0, .bool false] 39)).heap.size (w3.alloc (.cells #[.bool false, .int .i64 0, .int .i64 0, .int .i64 0, .bool false] 39)) w4 := by with_reducible exact hb4); (have G4 : Hid (Dl w1 q A m L y w4 ∧ Blk w4 w3.heap.size #[.bool false, .int .i64 0, .int .i64 0, .int .i64 0, .bool false] 39) := ⟨(G3.out.1.alloc _).below hb5, (Blk.new w3 _ _).below hb5 (by simp)⟩); have r0 : w4.cell? ⟨w3.heap.size, 0, none⟩ = some (.bool false) := G4.out.2.cell rfl; have r1 : w4.cell? ⟨w3.heap.size, 1, none⟩ = some (.int .i64 0) := G4.out.2.cell rfl; have r2 : w4.cell? ⟨w3.heap.size, 2, none⟩ = some (.int .i64 0) := G4.out.2.cell rfl; have r3 : w4.cell? ⟨w3.heap.size, 3, none⟩ = some (.int .i64 0) := G4.out.2.cell rfl; have r4 : w4.cell? ⟨w3.heap.size, 4, none⟩ = some (.bool false) := G4.out.2.cell rfl; have fr := G4.out.2.free; have G5 : Hid (w1.heap.size ≤ w3.heap.size) := Lib.hid G3.out.1.frame.size; clear hb5)); clear hb4))
    all_goals go_wp2_with fail
    all_goals go_meet
    all_goals first | exact ⟨_, rfl, G4.out.1.alloc _, Blk.new w4 _ _, G4.out.1.frame.size⟩ | exact ⟨_, rfl, (G4.out.1.lay G5.out HNB.out G4.out.2 (-1) 0 0 false).1, (G4.out.1.lay G5.out HNB.out G4.out.2 (-1) 0 0 false).2, G5.out⟩
  case rest =>
  obtain ⟨g6, rfl, hR⟩ := hcut
  have HR : Hid (Dl w1 q A m L y wc ∧ Blk wc g6 (said5 (-1) 0 0 false) 39 ∧ w1.heap.size ≤ g6) := hR
  clear hR b0 b1 e7 a1
  have a1 : wc.cell? ⟨d, 1, none⟩ = some (.int .i64 (n : Nat)) := (HS.out _ HR.out.1.frame).2.2.2
  have HGN : Hid (Calls Try.prog 20 #[.pointer (some ⟨b, 0, none⟩), .int .i64 (n : Nat)] wc fun e w' => e = .returned (.tuple #[]) ∧ w'.ownsRow B 40 1 (.slice (some ⟨g7, 0, none⟩) ea.length c7) ea.length (FH.row (ea.set n none)) ∧ Only (rowB (.slice (some ⟨g7, 0, none⟩) ea.length c7)) wc w') :=
    gone_any (q := q) (HHE.out _ HR.out.1).2 (HHE.out _ HR.out.1).1 (by rw [← HLL.out]; exact hn) H1.out.1.len
  go_wp2_with fail
  refine HGN.out.mono ?_
  rintro e w5 ⟨rfl, hr5, ho5⟩
  obtain ⟨⟨m', hm', hf, hpr⟩, hfr⟩ := HR.out.1
  have hvlt : ∀ k ∈ rowB (.slice (some ⟨g7, 0, none⟩) ea.length c7), k < w.heap.size ∧ k ∉ b :: q :: A := fun k hk => ⟨HD.out.2 k (mem_blks.2 (Or.inr (Or.inr (Or.inr (by simpa [rowB] using hk))))), H1.out.1.sep k (by simpa [rowB] using hk)⟩
  have hsz1 : w.heap.size + 2 ≤ w1.heap.size := by
    have h2 := H1.out.2.2.1.lt
    have h3 := HD.out.1
    omega
  have hgb : Blk w5 g6 (said5 (-1) 0 0 false) 39 := HR.out.2.1.only ho5 (fun e => by have h1 := (hvlt g6 e).1; have h2 := HR.out.2.2; omega)
  have hp5 : Hp w5 B b q A m' hm' (L.erase y) (.slice (some ⟨g7, 0, none⟩) ea.length c7) (ea.set n none) := by
    refine H1.out.1.removed HY.out (hf.only ho5 (fun k hk e => ?_)) ((HHE.out _ HR.out.1).1.only ho5 (fun e => (hvlt b e).2 (by simp))) hr5
    exact (hvlt k e).2 (List.mem_cons_of_mem _ hk)
  have ho25 : Only M w w5 := by
    rw [HG.out.1]
    refine (((Only.of_below H0.out.2.2.2).trans (H1.out.2.2.2.mono (by simp))).trans (hfr.mono (fun k _ hk => ?_))).trans (ho5.mono (fun k _ hk => ?_))
    · simp only [List.mem_cons] at hk; exact mem_blks.2 (Or.inr (hk.imp id Or.inl))
    · exact mem_blks.2 (Or.inr (Or.inr (Or.inr (by simpa [rowB] using hk))))
  have H5 : Hid (Hp w5 B b q A m' hm' (L.erase y) (.slice (some ⟨g7, 0, none⟩) ea.length c7) (ea.set n none) ∧ Only M w w5 ∧ w.heap.size + 2 ≤ w1.heap.size ∧ (∀ k ∈ rowB (.slice (some ⟨g7, 0, none⟩) ea.length c7), k < w.heap.size) ∧ (∀ z, z ≠ y → (m' z).pr = (m z).pr)) := ⟨hp5, ho25, hsz1, fun k hk => (hvlt k hk).1, hpr⟩
  have g0 : w5.cell? ⟨g6, 0, none⟩ = some (.bool true) := hgb.cell rfl
  have g1 : w5.cell? ⟨g6, 1, none⟩ = some (.int .i64 (-1)) := hgb.cell rfl
  have g2 : w5.cell? ⟨g6, 2, none⟩ = some (.int .i64 0) := hgb.cell rfl
  have g3 : w5.cell? ⟨g6, 3, none⟩ = some (.int .i64 0) := hgb.cell rfl
  have g4 : w5.cell? ⟨g6, 4, none⟩ = some (.bool false) := hgb.cell rfl
  have HO5 : Hid (Only (rowB (.slice (some ⟨g7, 0, none⟩) ea.length c7)) wc w5 ∧ Only (q :: A) w1 wc) := ⟨ho5, hfr⟩
  clear hvlt hsz1 hgb hp5 ho25 hr5 ho5 hfr hf hpr a1
  have hdM : d + 1 ∉ M := fun e => by
    rw [HG.out.1] at e
    have h1 := HD.out.2 (d + 1) e
    have h2 := HD.out.1
    omega
  have hd5 : Blk w5 (d + 1) #[.bool false, .int .i64 0, .int .i64 0, .int .i64 0, .bool false] 39 := by
    have h0 := H1.out.2.2.1.only HO5.out.2 (fun e => hdM (by rw [HG.out.1]; simp only [List.mem_cons] at e; exact mem_blks.2 (Or.inr (e.imp id Or.inl))))
    exact h0.only HO5.out.1 (fun e => by have h1 := H5.out.2.2.2.1 _ e; have h2 := HD.out.1; omega)
  have HLB := Lib.hid (lay5_blk hd5 (-1) (0) 0 false)
  have r0 : w5.cell? ⟨d + 1, 0, none⟩ = some (.bool false) := hd5.cell rfl
  have r1 : w5.cell? ⟨d + 1, 1, none⟩ = some (.int .i64 0) := hd5.cell rfl
  have r2 : w5.cell? ⟨d + 1, 2, none⟩ = some (.int .i64 0) := hd5.cell rfl
  have r3 : w5.cell? ⟨d + 1, 3, none⟩ = some (.int .i64 0) := hd5.cell rfl
  have r4 : w5.cell? ⟨d + 1, 4, none⟩ = some (.bool false) := hd5.cell rfl
  have fr := hd5.free
  clear hdM hd5
  unfold lay5 at HLB
  go_wp2_with fail
  generalize (((((w5.setCell ⟨d + 1, 0, none⟩ (.bool true)).setCell ⟨d + 1, 1, none⟩ (.int .i64 (-1))).setCell ⟨d + 1, 2, none⟩ (.int .i64 (0))).setCell ⟨d + 1, 3, none⟩ (.int .i64 0)).setCell ⟨d + 1, 4, none⟩ (.bool false)) = w9 at HLB ⊢
  clear r0 r1 r2 r3 r4 fr
  have q0 : w9.cell? ⟨d + 1, 0, none⟩ = some (.bool true) := HLB.out.1.cell rfl
  have q1 : w9.cell? ⟨d + 1, 1, none⟩ = some (.int .i64 (-1)) := HLB.out.1.cell rfl
  have q2 : w9.cell? ⟨d + 1, 2, none⟩ = some (.int .i64 (0)) := HLB.out.1.cell rfl
  have q3 : w9.cell? ⟨d + 1, 3, none⟩ = some (.int .i64 0) := HLB.out.1.cell rfl
  have q4 : w9.cell? ⟨d + 1, 4, none⟩ = some (.bool false) := HLB.out.1.cell rfl
  refine bodyPost_ret (v := .agg (said5 (-1) (0) 0 false)) (by simp [results, Try.results13, go_sem, q0, q1, q2, q3, q4, said5]) rfl ?_
  refine ⟨blks b q A (.slice (some ⟨g7, 0, none⟩) ea.length c7), rfl, ⟨q, A, m', hm', L.erase y, (.slice (some ⟨g7, 0, none⟩) ea.length c7), ea.set n none, ?_, rfl, ?_, by simp, ?_⟩, ?_, ?_⟩
  · refine H5.out.1.only HLB.out.2 (fun k hk e => ?_)
    simp only [List.mem_singleton] at e
    have h1 := HD.out.2 k hk
    have h2 := HD.out.1
    omega
  · rw [HG.out.2.1]
    refine (prs_set (fun j c hj hc => H5.out.2.2.2.2 c ?_)).symm
    rintro rfl
    exact hj (at_once H1.out.1.nodup hc HY.out)
  · intro z hz
    have hzy : z ≠ y := fun e => ((H1.out.1.fh.hs.1.mem_erase_iff).1 hz).1 e
    rw [H5.out.2.2.2.2 z hzy]
    exact HG.out.2.2.2.1 z (List.mem_of_mem_erase hz)
  · intro k hk
    rw [HG.out.1]
    exact Or.inl hk
  · exact ochain H5.out.2.1 HLB.out.2 (fun k hk => by
      simp only [List.mem_singleton] at hk
      have := HD.out.1
      exact Or.inr (by omega))
end FH
end Go.Proofs.Ytalphojbkeleiaa
