/- A step that takes the least entry out. -/
import Derived.Test.YtalphojbkeleiaaHA
namespace Go.Proofs.Ytalphojbkeleiaa
namespace FH
open Go.RowKit

theorem live_set : ∀ {ea : List (Option Nat)} {i a : Nat}, ea[i]? = some (some a) → (a :: (ea.set i none).filterMap id).Perm (ea.filterMap id)
  | [], i, a, h => by simp at h
  | x :: t, 0, a, h => by simp at h; subst h; simp
  | x :: t, i + 1, a, h => by
    have ih := live_set (ea := t) (i := i) (a := a) (by simpa using h)
    cases x with
    | none => simpa using ih
    | some y =>
      simp only [List.set_cons_succ, List.filterMap_cons_some (show id (some y) = some y from rfl)]
      exact (List.Perm.swap y a _).trans (ih.cons y)
theorem Hp.removed {w1 w5 : World} {B b q i x : Nat} {A L : List Nat} {m m' : Mem} {hm hm' : Option Nat} {v : Value} {ea : List (Option Nat)} (h : Hp w1 B b q A m hm L v ea) (hi : ea[i]? = some (some x)) (hf : Fh w5 q A m' hm' (L.erase x))
    (hb : Blk w5 b #[.pointer (some ⟨q, 0, none⟩), v] 49) (hr : w5.ownsRow B 40 1 v ea.length (FH.row (ea.set i none))) : Hp w5 B b q A m' hm' (L.erase x) v (ea.set i none) := by
  refine ⟨hf, hb, by rw [List.length_set]; exact hr, ?_, h.low, h.sep, h.bA, by rw [List.length_set]; exact h.len⟩
  have h1 := live_set hi
  have h2 : (x :: L.erase x).Perm L := (List.perm_cons_erase (h.mem hi)).symm
  exact (List.perm_cons x).1 (h2.trans (h.live.trans h1.symm))
theorem prs_set {m m' : Mem} {ea : List (Option Nat)} {i : Nat} (h : ∀ (j a : Nat), j ≠ i → ea[j]? = some (some a) → (m' a).pr = (m a).pr) : prs m' (ea.set i none) = (prs m ea).set i none := by
  unfold prs
  apply List.ext_getElem?
  intro j
  rw [List.getElem?_map, List.getElem?_set, List.getElem?_set, List.getElem?_map, List.length_map]
  by_cases e : i = j
  · subst e
    simp only [if_true]
    split <;> rfl
  · rw [if_neg e, if_neg e]
    cases hx : ea[j]? with
    | none => rfl
    | some x =>
      cases x with
      | none => rfl
      | some a => simp [h j a (fun e' => e e'.symm) hx]
theorem prs_get {m : Mem} {ea : List (Option Nat)} {i : Nat} {p : Int} (h : (prs m ea)[i]? = some (some p)) : ∃ a, ea[i]? = some (some a) ∧ (m a).pr = p := by
  unfold prs at h
  rw [List.getElem?_map] at h
  cases hx : ea[i]? with
  | none => rw [hx] at h; simp at h
  | some x =>
    cases x with
    | none => rw [hx] at h; simp at h
    | some a => rw [hx] at h; simp at h; exact ⟨a, rfl, h⟩
theorem prs_at {m : Mem} {ea : List (Option Nat)} {i a : Nat} (h : ea[i]? = some (some a)) : (prs m ea)[i]? = some (some (m a).pr) := by
  unfold prs; rw [List.getElem?_map, h]; rfl
def GetTo (B b : Nat) (M : List Nat) (cl : Bool) (es : List (Option Int)) (w : World) (e : Ending) (w' : World) : Prop :=
  ∃ (i : Nat) (p : Int), es[i]? = some (some p) ∧ (∀ (j : Nat) (p' : Int), es[j]? = some (some p') → p ≤ p') ∧ StepTo B b M cl (es.set i none) i p w e w'
set_option maxRecDepth 100000 in
set_option maxHeartbeats 8000000 in
theorem step_get {w : World} {B b : Nat} {M : List Nat} {cl : Bool} {es : List (Option Int)} {N p : Int} {x : Value} (h : Abs w B b M cl es) (hB : B ≤ w.heap.size) (hl : ∃ (i : Nat) (p : Int), es[i]? = some (some p)) :
    Calls Try.prog 13 #[.pointer (some ⟨b, 0, none⟩), .agg #[.int .i64 3, .int .i64 N, .int .i64 p, x]] w (GetTo B b M cl es w) := by
  obtain ⟨q, A, m, hm, L, v, ea, hh, hM, hes, hcl, hbt⟩ := h
  have HG : Hid (M = blks b q A v ∧ es = prs m ea ∧ (cl = true → ∀ y, (m y).mkd = false) ∧ (∀ y ∈ L, (m y).pr ≠ bot) ∧ B ≤ w.heap.size ∧ L ≠ []) := ⟨hM, hes, hcl, hbt, hB, by obtain ⟨i, p, hp⟩ := hl; rw [hes] at hp; obtain ⟨a, ha, _⟩ := prs_get hp; exact List.ne_nil_of_mem (hh.mem ha)⟩
  obtain ⟨d, hd⟩ : ∃ d, d = w.heap.size := ⟨_, rfl⟩
  have hb1 := (Blk.new w #[.int .i64 3, .int .i64 N, .int .i64 p, x] 30).alloc (.cells #[.bool false, .int .i64 0, .int .i64 0, .int .i64 0, .bool false] 39)
  have hb2 := Blk.new (w.alloc (.cells #[.int .i64 3, .int .i64 N, .int .i64 p, x] 30)) #[.bool false, .int .i64 0, .int .i64 0, .int .i64 0, .bool false] 39
  have hbw : Below w.heap.size w ((w.alloc (.cells #[.int .i64 3, .int .i64 N, .int .i64 p, x] 30)).alloc (.cells #[.bool false, .int .i64 0, .int .i64 0, .int .i64 0, .bool false] 39)) := ((Below.refl _ _).alloc (Nat.le_refl _) _).alloc (by simp) _
  have H0 : Hid (Blk ((w.alloc (.cells #[.int .i64 3, .int .i64 N, .int .i64 p, x] 30)).alloc (.cells #[.bool false, .int .i64 0, .int .i64 0, .int .i64 0, .bool false] 39)) d #[.int .i64 3, .int .i64 N, .int .i64 p, x] 30 ∧ Blk ((w.alloc (.cells #[.int .i64 3, .int .i64 N, .int .i64 p, x] 30)).alloc (.cells #[.bool false, .int .i64 0, .int .i64 0, .int .i64 0, .bool false] 39)) (d + 1) #[.bool false, .int .i64 0, .int .i64 0, .int .i64 0, .bool false] 39 ∧ Hp ((w.alloc (.cells #[.int .i64 3, .int .i64 N, .int .i64 p, x] 30)).alloc (.cells #[.bool false, .int .i64 0, .int .i64 0, .int .i64 0, .bool false] 39)) B b q A m hm L v ea ∧ Below w.heap.size w ((w.alloc (.cells #[.int .i64 3, .int .i64 N, .int .i64 p, x] 30)).alloc (.cells #[.bool false, .int .i64 0, .int .i64 0, .int .i64 0, .bool false] 39))) := by
    rw [World.size_alloc] at hb2
    rw [hd]
    exact ⟨hb1, hb2, hh.under hbw, hbw⟩
  have HD : Hid (d = w.heap.size ∧ ∀ k ∈ blks b q A v, k < w.heap.size) := ⟨hd, hh.all_lt⟩
  clear hb1 hb2 hbw hM hes hcl hbt hB hl
  go_enter Try.func13, Try.ntmps13
  go_upto_region 1 with (fail)
  rw [← hd]
  generalize ((w.alloc (.cells #[.int .i64 3, .int .i64 N, .int .i64 p, x] 30)).alloc (.cells #[.bool false, .int .i64 0, .int .i64 0, .int .i64 0, .bool false] 39)) = w0 at H0 ⊢
  clear hd hh
  have a0 : w0.cell? ⟨d, 0, none⟩ = some (.int .i64 3) := H0.out.1.cell rfl
  have b0 : w0.cell? ⟨b, 0, none⟩ = some (.pointer (some ⟨q, 0, none⟩)) := H0.out.2.2.1.hb.cell rfl
  go_wp2_with fail
  refine (deq_any H0.out.2.2.1.fh HG.out.2.2.2.2.2).mono ?_
  rintro e w2 ⟨y, m', hm', rfl, hy, hle, hf, hpr, hmk, ho⟩
  obtain ⟨i, hi⟩ : ∃ i, ea[i]? = some (some y) := by
    have h1 := H0.out.2.2.1.live.subset hy
    obtain ⟨z, hz, e⟩ := List.mem_filterMap.1 h1
    obtain ⟨i, hi⟩ := List.getElem?_of_mem hz
    exact ⟨i, by rw [hi]; exact congrArg some e⟩
  have HY : Hid (y ∈ L ∧ (∀ b ∈ L, (m y).pr ≤ (m b).pr) ∧ Fh w2 q A m' hm' (L.erase y) ∧ (∀ y, (m' y).pr = (m y).pr) ∧ (∀ y, (m' y).mkd = true → (m y).mkd = true) ∧ Only (q :: A) w0 w2 ∧ ea[i]? = some (some y)) := ⟨hy, hle, hf, hpr, hmk, ho, hi⟩
  have hbl : ∀ k ∈ b :: rowB v, k ∉ q :: A := fun k hk => by
    simp only [List.mem_cons] at hk
    rcases hk with rfl | hk
    · exact H0.out.2.2.1.bA
    · intro e
      exact H0.out.2.2.1.sep k (by simpa [rowB] using hk) (List.mem_cons_of_mem _ e)
  have HE2 : Hid (He w2 B b q A m' v ea) := ⟨hf.ms, H0.out.2.2.1.hb.only ho (hbl b (by simp)), own_only H0.out.2.2.1.row ho (fun k hk => hbl k (by simp [rowB, hk])), H0.out.2.2.1.he.sub, H0.out.2.2.1.len⟩
  obtain ⟨P, hP⟩ : ∃ P, P = (m y).pr := ⟨_, rfl⟩
  have HPP := Lib.hid hP
  have HSD : Hid (Calls Try.prog 17 #[.pointer (some ⟨b, 0, none⟩), .pointer (some ⟨y, 0, none⟩), .nilIface] w2 fun e w' => e = .returned (.agg #[.bool true, .int .i64 i, .int .i64 P, .int .i64 0, .bool false]) ∧ Below w2.heap.size w2 w') := by
    refine (said_any (x := some y) (e1 := i) (p1 := P) HE2.out (fun c e => by cases e; exact ⟨H0.out.2.2.1.he.sub i y hi, by rw [hpr]; exact HG.out.2.2.2.1 y hy⟩) (fun j c h1 h2 => ?_)).mono ?_
    · cases h2
      exact ⟨by rw [at_once H0.out.2.2.1.nodup h1 hi], by rw [hpr]; exact hP⟩
    · rintro e w' ⟨⟨f, hf, he⟩, hb⟩
      have hf1 : f = true := hf.2 ⟨i, y, hi, rfl⟩
      rw [hf1] at he
      exact ⟨he, hb⟩
  clear hy hle hf hpr hmk ho hi hbl hP a0 b0
  go_wp2_with fail
  refine HSD.out.mono ?_
  rintro e w3 ⟨rfl, hb3⟩
  obtain ⟨g6, hg6⟩ : ∃ g6, g6 = w3.heap.size := ⟨_, rfl⟩
  have H3 : Hid (Blk (w3.alloc (.cells #[.bool true, .int .i64 i, .int .i64 P, .int .i64 0, .bool false] 39)) g6 (said5 i P 0 false) 39 ∧ Below w2.heap.size w2 (w3.alloc (.cells #[.bool true, .int .i64 i, .int .i64 P, .int .i64 0, .bool false] 39)) ∧ w2.heap.size ≤ g6) := by
    rw [hg6]; exact ⟨Blk.new _ _ _, hb3.alloc hb3.size _, hb3.size⟩
  clear hb3
  go_upto_region 10 with (fail)
  rw [← hg6]
  generalize w3.alloc (.cells #[.bool true, .int .i64 i, .int .i64 P, .int .i64 0, .bool false] 39) = w4 at H3 ⊢
  clear hg6
  have g1 : w4.cell? ⟨g6, 1, none⟩ = some (.int .i64 i) := H3.out.1.cell rfl
  have HGN : Hid (Calls Try.prog 20 #[.pointer (some ⟨b, 0, none⟩), .int .i64 (i : Nat)] w4 fun e w' => e = .returned (.tuple #[]) ∧ w'.ownsRow B 40 1 v ea.length (FH.row (ea.set i none)) ∧ Only (rowB v) w4 w') :=
    gone_any (q := q) (own_only HE2.out.row (Only.of_below (M := []) H3.out.2.1) (by simp)) (HE2.out.hb.below H3.out.2.1 HE2.out.hb.lt) (List.getElem?_eq_some_iff.1 HY.out.2.2.2.2.2.2).1 HE2.out.len
  go_wp2_with fail
  refine HGN.out.mono ?_
  rintro e w5 ⟨rfl, hr5, ho5⟩
  have hvlt : ∀ k ∈ rowB v, k < w.heap.size ∧ k ∉ b :: q :: A := fun k hk => ⟨HD.out.2 k (mem_blks.2 (Or.inr (Or.inr (Or.inr (by simpa [rowB] using hk))))), H0.out.2.2.1.sep k (by simpa [rowB] using hk)⟩
  have hsz2 : w.heap.size + 2 ≤ w2.heap.size := by
    have h1 := HY.out.2.2.2.2.2.1.size
    have h2 := H0.out.2.1.lt
    have h3 := HD.out.1
    omega
  have hgb : Blk w5 g6 (said5 i P 0 false) 39 := H3.out.1.only ho5 (fun e => by have h1 := (hvlt g6 e).1; have h2 := H3.out.2.2; omega)
  have hp5 : Hp w5 B b q A m' hm' (L.erase y) v (ea.set i none) := by
    refine H0.out.2.2.1.removed HY.out.2.2.2.2.2.2 (((HY.out.2.2.1).under H3.out.2.1).only ho5 (fun k hk e => ?_)) ((HE2.out.hb.below H3.out.2.1 HE2.out.hb.lt).only ho5 (fun e => (hvlt b e).2 (by simp))) hr5
    exact (hvlt k e).2 (List.mem_cons_of_mem _ hk)
  have ho25 : Only M w w5 := by
    rw [HG.out.1]
    refine (((Only.of_below H0.out.2.2.2).trans (HY.out.2.2.2.2.2.1.mono (fun k _ hk => ?_))).trans (Only.of_below H3.out.2.1)).trans (ho5.mono (fun k _ hk => ?_))
    · simp only [List.mem_cons] at hk; exact mem_blks.2 (Or.inr (hk.imp id Or.inl))
    · exact mem_blks.2 (Or.inr (Or.inr (Or.inr (by simpa [rowB] using hk))))
  have H5 : Hid (Hp w5 B b q A m' hm' (L.erase y) v (ea.set i none) ∧ Only M w w5 ∧ w.heap.size + 2 ≤ w2.heap.size ∧ (∀ k ∈ rowB v, k < w.heap.size)) := ⟨hp5, ho25, hsz2, fun k hk => (hvlt k hk).1⟩
  have g0 : w5.cell? ⟨g6, 0, none⟩ = some (.bool true) := hgb.cell rfl
  have g1 : w5.cell? ⟨g6, 1, none⟩ = some (.int .i64 i) := hgb.cell rfl
  have g2 : w5.cell? ⟨g6, 2, none⟩ = some (.int .i64 P) := hgb.cell rfl
  have g3 : w5.cell? ⟨g6, 3, none⟩ = some (.int .i64 0) := hgb.cell rfl
  have g4 : w5.cell? ⟨g6, 4, none⟩ = some (.bool false) := hgb.cell rfl
  have HO5 := Lib.hid ho5
  clear hvlt hsz2 hgb hp5 ho25 hr5 ho5
  have hdM : d + 1 ∉ M := fun e => by
    rw [HG.out.1] at e
    have h1 := HD.out.2 (d + 1) e
    have h2 := HD.out.1
    omega
  have hd5 : Blk w5 (d + 1) #[.bool false, .int .i64 0, .int .i64 0, .int .i64 0, .bool false] 39 := by
    have h0 := H0.out.2.1.only HY.out.2.2.2.2.2.1 (fun e => hdM (by rw [HG.out.1]; simp only [List.mem_cons] at e; exact mem_blks.2 (Or.inr (e.imp id Or.inl))))
    exact (h0.below H3.out.2.1 h0.lt).only HO5.out (fun e => by have h1 := H5.out.2.2.2 _ e; have h2 := HD.out.1; omega)
  have HLB := Lib.hid (lay5_blk hd5 (i) (P) 0 false)
  have r0 : w5.cell? ⟨d + 1, 0, none⟩ = some (.bool false) := hd5.cell rfl
  have r1 : w5.cell? ⟨d + 1, 1, none⟩ = some (.int .i64 0) := hd5.cell rfl
  have r2 : w5.cell? ⟨d + 1, 2, none⟩ = some (.int .i64 0) := hd5.cell rfl
  have r3 : w5.cell? ⟨d + 1, 3, none⟩ = some (.int .i64 0) := hd5.cell rfl
  have r4 : w5.cell? ⟨d + 1, 4, none⟩ = some (.bool false) := hd5.cell rfl
  have fr := hd5.free
  clear hdM hd5
  unfold lay5 at HLB
  go_wp2_with fail
  generalize (((((w5.setCell ⟨d + 1, 0, none⟩ (.bool true)).setCell ⟨d + 1, 1, none⟩ (.int .i64 (i))).setCell ⟨d + 1, 2, none⟩ (.int .i64 (P))).setCell ⟨d + 1, 3, none⟩ (.int .i64 0)).setCell ⟨d + 1, 4, none⟩ (.bool false)) = w9 at HLB ⊢
  clear r0 r1 r2 r3 r4 fr
  have q0 : w9.cell? ⟨d + 1, 0, none⟩ = some (.bool true) := HLB.out.1.cell rfl
  have q1 : w9.cell? ⟨d + 1, 1, none⟩ = some (.int .i64 (i)) := HLB.out.1.cell rfl
  have q2 : w9.cell? ⟨d + 1, 2, none⟩ = some (.int .i64 (P)) := HLB.out.1.cell rfl
  have q3 : w9.cell? ⟨d + 1, 3, none⟩ = some (.int .i64 0) := HLB.out.1.cell rfl
  have q4 : w9.cell? ⟨d + 1, 4, none⟩ = some (.bool false) := HLB.out.1.cell rfl
  refine bodyPost_ret (v := .agg (said5 (i) (P) 0 false)) (by simp [results, Try.results13, go_sem, q0, q1, q2, q3, q4, said5]) rfl ?_
  refine ⟨i, P, ?_, ?_, blks b q A v, rfl, ⟨q, A, m', hm', L.erase y, v, ea.set i none, ?_, rfl, ?_, ?_, ?_⟩, ?_, ?_⟩
  · rw [HG.out.2.1, HPP.out]; exact prs_at HY.out.2.2.2.2.2.2
  · intro j p' hj
    rw [HG.out.2.1] at hj
    obtain ⟨c, hc, rfl⟩ := prs_get hj
    rw [HPP.out]
    exact HY.out.2.1 c (H0.out.2.2.1.mem hc)
  · refine H5.out.1.only HLB.out.2 (fun k hk e => ?_)
    simp only [List.mem_singleton] at e
    have h1 := HD.out.2 k hk
    have h2 := HD.out.1
    omega
  · rw [HG.out.2.1]
    exact (prs_set (fun j c _ _ => HY.out.2.2.2.1 c)).symm
  · intro hc z
    cases hz : (m' z).mkd with
    | false => rfl
    | true => exact absurd (HY.out.2.2.2.2.1 z hz) (by rw [HG.out.2.2.1 hc z]; simp)
  · intro z hz
    rw [HY.out.2.2.2.1]
    exact HG.out.2.2.2.1 z (List.mem_of_mem_erase hz)
  · intro k hk
    rw [HG.out.1]
    exact Or.inl hk
  · exact ochain H5.out.2.1 HLB.out.2 (fun k hk => by
      simp only [List.mem_singleton] at hk
      have := HD.out.1
      exact Or.inr (by omega))
end FH
end Go.Proofs.Ytalphojbkeleiaa
