/- A script of steps on a new heap: FHRun. -/
import Derived.Test.YtalphojbkeleiaaHC
import Derived.Maps.AppendAt
namespace Go.Proofs.Ytalphojbkeleiaa
namespace FH
open Go.RowKit

inductive Step where
  | put (p : Int)
  | get
  | del (n : Nat)
def liv (es : List (Option Int)) : Nat := es.countP Option.isSome
/-- What a step does, and says. -/
def SR (s : Step) (es es' : List (Option Int)) (E P : Int) : Prop :=
  match s with
  | .put p => es' = es ++ [some p] ∧ E = es.length ∧ P = p
  | .get => ∃ i : Nat, es[i]? = some (some P) ∧ E = i ∧ (∀ (j : Nat) (p' : Int), es[j]? = some (some p') → P ≤ p') ∧ es' = es.set i none
  | .del n => es' = es.set n none ∧ E = -1 ∧ P = 0
def SOk (s : Step) (es : List (Option Int)) (cl : Bool) : Prop :=
  match s with
  | .put p => -1000000 ≤ p ∧ p ≤ 1000000 ∧ es.length < 800
  | .get => ∃ (i : Nat) (p : Int), es[i]? = some (some p)
  | .del n => cl = true ∧ ∃ p : Int, es[n]? = some (some p)
def clr' (s : Step) (cl : Bool) : Bool := match s with
  | .del _ => false
  | _ => cl
/-- A step in memory. -/
def SMem (r : List Value) (s : Step) : Prop :=
  match s with
  | .put p => ∃ N : Int, r = [.int .i64 1, .int .i64 N, .int .i64 p, .slice none 0 0]
  | .get => ∃ N p : Int, r = [.int .i64 3, .int .i64 N, .int .i64 p, .slice none 0 0]
  | .del n => ∃ p : Int, r = [.int .i64 5, .int .i64 (n : Nat), .int .i64 p, .slice none 0 0]
theorem SMem.shape {r : List Value} {s : Step} (h : SMem r s) : ∃ x y z : Int, r = [.int .i64 x, .int .i64 y, .int .i64 z, .slice none 0 0] := by
  cases s with
  | put p => obtain ⟨N, h⟩ := h; exact ⟨_, _, _, h⟩
  | get => obtain ⟨N, p, h⟩ := h; exact ⟨_, _, _, h⟩
  | del n => obtain ⟨p, h⟩ := h; exact ⟨_, _, _, h⟩
def StepDone (B b : Nat) (M : List Nat) (cl : Bool) (s : Step) (es : List (Option Int)) (w : World) (e : Ending) (w' : World) : Prop :=
  ∃ es' E P, SR s es es' E P ∧ StepTo B b M (clr' s cl) es' E P w e w'
theorem step_any {w : World} {B b : Nat} {M : List Nat} {cl : Bool} {es : List (Option Int)} {s : Step} {r0 r1 r2 r3 : Value} (h : Abs w B b M cl es) (hB : B ≤ w.heap.size) (hs : SMem [r0, r1, r2, r3] s) (hok : SOk s es cl) :
    Calls Try.prog 13 #[.pointer (some ⟨b, 0, none⟩), .agg #[r0, r1, r2, r3]] w (StepDone B b M cl s es w) := by
  cases s with
  | put p =>
    obtain ⟨N, hr⟩ := hs
    simp only [List.cons.injEq, and_true] at hr
    obtain ⟨rfl, rfl, rfl, rfl⟩ := hr
    exact (step_put h hB ⟨hok.1, hok.2.1⟩ hok.2.2).mono fun e w' h1 => ⟨_, _, _, ⟨rfl, rfl, rfl⟩, h1⟩
  | get =>
    obtain ⟨N, p, hr⟩ := hs
    simp only [List.cons.injEq, and_true] at hr
    obtain ⟨rfl, rfl, rfl, rfl⟩ := hr
    exact (step_get h hB hok).mono fun e w' ⟨i, p, h1, h2, h3⟩ => ⟨_, _, _, ⟨i, h1, rfl, h2, rfl⟩, h3⟩
  | del n =>
    obtain ⟨p, hr⟩ := hs
    simp only [List.cons.injEq, and_true] at hr
    obtain ⟨rfl, rfl, rfl, rfl⟩ := hr
    obtain ⟨rfl, p0, hp⟩ := hok
    exact (step_del h hB rfl hp).mono fun e w' h1 => ⟨_, _, _, ⟨rfl, rfl, rfl⟩, h1⟩
/-- What is said of a step in the end: entry, priority, size. -/
abbrev Out := Int × Int × Nat
def sd (o : Out) : List Value := [.bool true, .int .i64 o.1, .int .i64 o.2.1, .int .i64 (o.2.2 : Nat), .bool (decide (o.2.2 = 0))]
inductive Ran : List Step → Bool → List (Option Int) → List Out → Prop
  | nil : Ran [] true [] []
  | add {ss : List Step} {s : Step} {cl : Bool} {es es' : List (Option Int)} {E P : Int} {outs : List Out} (h : Ran ss cl es outs) (hs : SR s es es' E P) : Ran (ss ++ [s]) (clr' s cl) es' (outs ++ [(E, P, liv es')])
theorem Ran.len {ss : List Step} {cl : Bool} {es : List (Option Int)} {outs : List Out} (h : Ran ss cl es outs) : outs.length = ss.length := by
  induction h with
  | nil => rfl
  | add h hs ih => simp [ih]
def Good (ss : List Step) : Prop := ∀ (i : Nat) (s : Step), ss[i]? = some s → ∀ cl es outs, Ran (ss.take i) cl es outs → SOk s es cl
def Steps (w : World) (sl : Value) (ss : List Step) : Prop := ∃ rs, Recs w 4 sl rs ∧ rs.length = ss.length ∧ ∀ (i : Nat) (r : List Value) (s : Step), rs[i]? = some r → ss[i]? = some s → SMem r s
def RunDone (ss : List Step) (w : World) (e : Ending) (w' : World) : Prop :=
  ∃ sv cl es outs, e = .returned sv ∧ Ran ss cl es outs ∧ Recs w' 5 sv (outs.map sd) ∧ (∀ b o n c, sv = .slice (some ⟨b, o, none⟩) n c → w.heap.size ≤ b) ∧ Below w.heap.size w w'
theorem infoS : (Try.prog.info? 39).map (fun i => (i.zero, i.size, i.bytes)) = some (some (.agg #[.bool false, .int .i64 0, .int .i64 0, .int .i64 0, .bool false]), 5, 40) := by kernel_rfl
theorem two_cells {W : World} {xs : List Value} {T : TypeId} : ∀ j u, xs[j]? = some u → (W.alloc (.cells xs.toArray T)).cell? ((⟨W.heap.size, 0, none⟩ : Addr).add j) = some u := by
  intro j u hj
  have h := (Blk.new W xs.toArray T).cell (i := j) (v := u) (by rw [List.getElem?_toArray]; exact hj)
  rw [addr_add, Nat.zero_add]
  exact h
theorem liv_prs {m : Mem} {ea : List (Option Nat)} : liv (prs m ea) = (ea.filterMap id).length := by
  unfold liv prs
  induction ea with
  | nil => rfl
  | cons x t ih =>
    cases x with
    | none => simpa using ih
    | some a => simp [List.countP_cons, ih]
/-- The heap's own block under a state. -/
theorem Abs.size {w : World} {B b : Nat} {M : List Nat} {cl : Bool} {es : List (Option Int)} (h : Abs w B b M cl es) : ∃ (q : Nat) (z v : Value), Blk w b #[.pointer (some ⟨q, 0, none⟩), v] 49 ∧ Blk w q #[z, .int .u64 (liv es : Nat)] 43 ∧ b ∈ M ∧ q ∈ M ∧ liv es ≤ 1000 := by
  obtain ⟨q, A, m, hm, L, v, ea, hh, rfl, rfl, _, _⟩ := h
  have e : liv (prs m ea) = L.length := by rw [liv_prs, hh.live.length_eq]
  refine ⟨q, _, v, hh.hb, by rw [e]; exact hh.fh.blk, mem_blks.2 (Or.inl rfl), mem_blks.2 (Or.inr (Or.inl rfl)), by rw [e]; exact hh.fh.len⟩
theorem Abs.only {w w' : World} {B b : Nat} {M M' : List Nat} {cl : Bool} {es : List (Option Int)} (h : Abs w B b M cl es) (ho : Only M' w w') (hM : ∀ k ∈ M, k ∉ M') : Abs w' B b M cl es := by
  obtain ⟨q, A, m, hm, L, v, ea, hh, rfl, hr⟩ := h
  exact ⟨q, A, m, hm, L, v, ea, hh.only ho hM, rfl, hr⟩
theorem Abs.lt {w : World} {B b : Nat} {M : List Nat} {cl : Bool} {es : List (Option Int)} (h : Abs w B b M cl es) : ∀ k ∈ M, k < w.heap.size ∧ B ≤ k := by
  obtain ⟨q, A, m, hm, L, v, ea, hh, rfl, _⟩ := h
  intro k hk
  refine ⟨hh.all_lt k hk, ?_⟩
  rcases mem_blks.1 hk with h1 | h1 | h1 | h1
  · exact hh.low k (by simp [h1])
  · exact hh.low k (by simp [h1])
  · exact hh.low k (by simp [h1])
  · exact (ownB hh.row h1).1
/-- Where a run stands. -/
structure RunAt (w0 : World) (B b : Nat) (M : List Nat) (ss : List Step) (i : Nat) (sv : Value) (cl : Bool) (es : List (Option Int)) (outs : List Out) (w : World) : Prop where
  abs : Abs w B b M cl es
  ran : Ran (ss.take i) cl es outs
  row : w.ownsRow B 39 5 sv i (outs.map sd).flatten
  sep : ∀ k, sv.ownBlock = some k → k ∉ M
  frame : Below B w0 w
set_option maxRecDepth 100000 in
set_option maxHeartbeats 8000000 in
theorem run_any {w : World} {n cp : Nat} {so : Option Addr} {ss : List Step} (hs : Steps w (.slice so n cp) ss) (hl : ss.length ≤ 200) (hg : Good ss) :
    Calls Try.prog 11 #[.slice so n cp] w (RunDone ss w) := by
  obtain ⟨i0, hi, hz0, hz1, hz2⟩ := info_at infoS
  have HI : Hid (Try.prog.info? 39 = some i0 ∧ i0.zero = some (.agg #[.bool false, .int .i64 0, .int .i64 0, .int .i64 0, .bool false]) ∧ i0.size = 5 ∧ i0.bytes = 40) := ⟨hi, hz0, hz1, hz2⟩
  obtain ⟨rs, hrs, hrl, hrm⟩ := hs
  have hnl : rs.length = n := hrs.len
  have hn : ss.length = n := by rw [← hrl, hnl]
  have hn2 : n ≤ 200 := by omega
  have HN := Lib.hid hn
  have HM : Hid (Recs w 4 (.slice so n cp) rs ∧ rs.length = ss.length ∧ ∀ (i : Nat) (r : List Value) (s : Step), rs[i]? = some r → ss[i]? = some s → SMem r s) := ⟨hrs, hrl, hrm⟩
  have HGd := Lib.hid hg
  clear hi hz0 hz1 hz2 hrs hrl hrm hnl hn hg hl
  go_enter Try.func11, Try.ntmps11
  go_wp2_with fail
  refine (new_any w).mono ?_
  rintro e w0 ⟨rfl, hb0⟩
  go_wp2_with fail
  obtain ⟨b, hb⟩ : ∃ b, b = w0.heap.size + 1 := ⟨_, rfl⟩
  have H0 : Hid (RunAt w w.heap.size b (blks b w0.heap.size [] (.slice none 0 0)) ss 0 (.slice none 0 0) true [] [] ((w0.alloc (.cells #[.pointer none, .int .u64 0] 43)).alloc (.cells #[.pointer (some ⟨w0.heap.size, 0, none⟩), .slice none 0 0] 49))) := by
    have h1 := hb0.size
    have hq := (Blk.new w0 #[.pointer none, .int .u64 0] 43).alloc (.cells #[.pointer (some ⟨w0.heap.size, 0, none⟩), .slice none 0 0] 49)
    have hbb := Blk.new (w0.alloc (.cells #[.pointer none, .int .u64 0] 43)) #[.pointer (some ⟨w0.heap.size, 0, none⟩), .slice none 0 0] 49
    rw [World.size_alloc, ← hb] at hbb
    refine ⟨⟨w0.heap.size, [], fun _ => nd0 0 0, none, [], .slice none 0 0, [], ⟨⟨⟨by simp, by simp, by simp, by simp, by simp, by simp⟩, hq, by simp, HS.nil _, by simp, by simp⟩, hbb, World.ownsRow_nil _ _ _ _, by simp, ?_, by simp [Value.ownBlock], by simp; omega, by simp⟩, rfl, rfl, fun _ _ => rfl, by simp⟩, Ran.nil, World.ownsRow_nil _ _ _ _, by simp [Value.ownBlock], (hb0.alloc h1 _).alloc (by simp; omega) _⟩
    intro k hk
    simp only [List.mem_cons, List.not_mem_nil, or_false] at hk
    rcases hk with rfl | rfl <;> omega
  rw [← hb]
  generalize (w0.alloc (.cells #[.pointer none, .int .u64 0] 43)).alloc (.cells #[.pointer (some ⟨w0.heap.size, 0, none⟩), .slice none 0 0] 49) = w1 at H0 ⊢
  generalize blks b w0.heap.size [] (.slice none 0 0) = M0 at H0
  obtain ⟨B, hB⟩ : ∃ B, B = w.heap.size := ⟨_, rfl⟩
  rw [← hB] at H0
  have HB := Lib.hid hB
  clear hb0 hb hB
  go_loopw [5, 14] (fun sv iv wr => ∃ (i : Nat) (M : List Nat) (cl : Bool) (es : List (Option Int)) (outs : List Out), iv = .int .i64 (i : Nat) ∧ i ≤ n ∧ Hid (RunAt w B b M ss i sv cl es outs wr)) (fun _ iv _ => n - (intOf iv).toNat)
  case atStart => exact ⟨0, M0, true, [], [], rfl, by omega, H0⟩
  case round =>
    obtain ⟨i, M, cl, es, outs, rfl, hin, hR⟩ := hrel
    have HR : Hid (RunAt w B b M ss i u5 cl es outs wr) := hR
    clear hR
    obtain ⟨t5, d5, hv5⟩ := own_shape HR.out.row
    subst hv5
    by_cases hlt : i < n
    · have z1 : (i : Int) < (n : Int) := by omega
      have z0 : (0 : Int) ≤ (i : Int) := by omega
      obtain ⟨s, hs⟩ : ∃ s, ss[i]? = some s := ⟨_, List.getElem?_eq_getElem (by have := HN.out; omega)⟩
      obtain ⟨r, hr⟩ : ∃ r, rs[i]? = some r := ⟨_, List.getElem?_eq_getElem (by have := HN.out; have := HM.out.2.1; omega)⟩
      have hm := HM.out.2.2 i r s hr hs
      obtain ⟨x1, x2, x3, rfl⟩ := hm.shape
      obtain ⟨bs, os, cs, hsl, hcell⟩ := HM.out.1.at hr
      simp only [Value.slice.injEq] at hsl
      obtain ⟨rfl, hxx, rfl⟩ := hsl
      clear hxx
      have q0 := hcell 0 (.int .i64 x1) rfl
      have q1 := hcell 1 (.int .i64 x2) rfl
      have q2 := hcell 2 (.int .i64 x3) rfl
      have q3 := hcell 3 (.slice none 0 0) rfl
      have hfr := HR.out.frame
      rw [HB.out] at hfr
      have c0 : wr.cell? ⟨bs, os + i * 4, none⟩ = some (.int .i64 x1) := (hfr.cell (cell_lt' q0)).trans q0
      have c1 : wr.cell? ⟨bs, os + i * 4 + 1, none⟩ = some (.int .i64 x2) := (hfr.cell (cell_lt' q1)).trans q1
      have c2 : wr.cell? ⟨bs, os + i * 4 + 2, none⟩ = some (.int .i64 x3) := (hfr.cell (cell_lt' q2)).trans q2
      have c3 : wr.cell? ⟨bs, os + i * 4 + 3, none⟩ = some (.slice none 0 0) := (hfr.cell (cell_lt' q3)).trans q3
      have hbl : Below wr.heap.size wr (wr.alloc (.cells #[.int .i64 x1, .int .i64 x2, .int .i64 x3, .slice none 0 0] 30)) := (Below.refl _ _).alloc (Nat.le_refl _) _
      have H1 : Hid (Abs (wr.alloc (.cells #[.int .i64 x1, .int .i64 x2, .int .i64 x3, .slice none 0 0] 30)) B b M cl es ∧ SMem [.int .i64 x1, .int .i64 x2, .int .i64 x3, .slice none 0 0] s ∧ SOk s es cl ∧ B ≤ (wr.alloc (.cells #[.int .i64 x1, .int .i64 x2, .int .i64 x3, .slice none 0 0] 30)).heap.size ∧ Below wr.heap.size wr (wr.alloc (.cells #[.int .i64 x1, .int .i64 x2, .int .i64 x3, .slice none 0 0] 30)) ∧ ss[i]? = some s) := by
        refine ⟨HR.out.abs.only (Only.of_below (M := []) hbl) (by simp), hm, HGd.out i s hs _ _ _ HR.out.ran, ?_, hbl, hs⟩
        have := hfr.size
        have := hbl.size
        have := HB.out
        omega
      clear hs hr hm q0 q1 q2 q3 hcell hbl hfr
      go_wp2_with fail
      refine (step_any H1.out.1 H1.out.2.2.2.1 H1.out.2.1 H1.out.2.2.1).mono ?_
      rintro e w2 ⟨es', E, P, hsr, M', rfl, ha, hM, ho⟩
      obtain ⟨q, z, v, hbb, hqq, hbM, hqM, hlv⟩ := ha.size
      obtain ⟨g8, hg8⟩ : ∃ g8, g8 = w2.heap.size := ⟨_, rfl⟩
      have h8 := Blk.new w2 (said5 E P 0 false) 39
      rw [← hg8] at h8
      obtain ⟨S, hS⟩ : ∃ S, S = liv es' := ⟨_, rfl⟩
      rw [← hS] at hqq hlv
      have H2 : Hid (SR s es es' E P ∧ Abs w2 B b M' (clr' s cl) es' ∧ (∀ k ∈ M', k ∈ M ∨ (wr.alloc (.cells #[.int .i64 x1, .int .i64 x2, .int .i64 x3, .slice none 0 0] 30)).heap.size ≤ k) ∧ Only M (wr.alloc (.cells #[.int .i64 x1, .int .i64 x2, .int .i64 x3, .slice none 0 0] 30)) w2 ∧ g8 = w2.heap.size ∧ S = liv es' ∧ S ≤ 1000) := ⟨hsr, ha, hM, ho, hg8, hS, hlv⟩
      have H3 : Hid (Blk (w2.alloc (.cells (said5 E P 0 false) 39)) g8 (said5 E P 0 false) 39 ∧ Blk (w2.alloc (.cells (said5 E P 0 false) 39)) b #[.pointer (some ⟨q, 0, none⟩), v] 49 ∧ Blk (w2.alloc (.cells (said5 E P 0 false) 39)) q #[z, .int .u64 (S : Nat)] 43 ∧ ¬ g8 = q ∧ Below w2.heap.size w2 (w2.alloc (.cells (said5 E P 0 false) 39))) := by
        refine ⟨h8, hbb.alloc _, hqq.alloc _, fun e => ?_, (Below.refl _ _).alloc (Nat.le_refl _) _⟩
        have h1 := (ha.lt q hqM).1
        omega
      clear hsr ha hM ho hbb hqq hbM hqM hlv h8 hS
      rw [show said5 E P 0 false = #[.bool true, .int .i64 E, .int .i64 P, .int .i64 0, .bool false] from rfl] at H3 ⊢
      go_upto_region 8 with (fail)
      rw [← hg8]
      generalize w2.alloc (.cells #[.bool true, .int .i64 E, .int .i64 P, .int .i64 0, .bool false] 39) = w3 at H3 ⊢
      have HSZ : Hid (∀ W, Blk W q #[z, .int .u64 (S : Nat)] 43 → Calls Try.prog 14 #[.pointer (some ⟨q, 0, none⟩)] W fun e w' => e = .returned (.int .u64 (S : Nat)) ∧ w' = W) := fun W h => size_any h
      have HEM : Hid (∀ W, Blk W q #[z, .int .u64 (S : Nat)] 43 → Calls Try.prog 15 #[.pointer (some ⟨q, 0, none⟩)] W fun e w' => e = .returned (.bool (decide (S = 0))) ∧ w' = W) := fun W h => isEmpty_any h
      have b0 : w3.cell? ⟨b, 0, none⟩ = some (.pointer (some ⟨q, 0, none⟩)) := H3.out.2.1.cell rfl
      have g3 : w3.cell? ⟨g8, 3, none⟩ = some (.int .i64 0) := H3.out.1.cell rfl
      have g4 : w3.cell? ⟨g8, 4, none⟩ = some (.bool false) := H3.out.1.cell rfl
      have fg := H3.out.1.free
      have hS1 : S ≤ 1000 := H2.out.2.2.2.2.2.2
      have hbg : ¬ b = g8 := by
        intro e
        obtain ⟨_, _, _, h1, _, _, _, _⟩ := H2.out.2.1.size
        have h2 := h1.lt
        have h3 := H2.out.2.2.2.2.1
        omega
      have hgb : ¬ g8 = b := fun e => hbg e.symm
      have hSw : IntKind.i64.wrap (S : Int) = (S : Int) := by rw [IntKind.wrap_i64]; omega
      have K1 : Hid (Blk ((w3.setCell ⟨g8, 3, none⟩ (.int .i64 (S : Nat))).setCell ⟨g8, 4, none⟩ (.bool (decide (S = 0)))) g8 (sd (E, P, S)).toArray 39 ∧ Only [g8] w3 ((w3.setCell ⟨g8, 3, none⟩ (.int .i64 (S : Nat))).setCell ⟨g8, 4, none⟩ (.bool (decide (S = 0))))) := ⟨(H3.out.1.set 3 _).set 4 _, ((Only.refl _ _).setCell (Or.inl (by simp)) _).setCell (Or.inl (by simp)) _⟩
      have K2 : Hid (Blk ((w3.setCell ⟨g8, 4, none⟩ (.bool (decide (S = 0)))).setCell ⟨g8, 3, none⟩ (.int .i64 (S : Nat))) g8 (sd (E, P, S)).toArray 39 ∧ Only [g8] w3 ((w3.setCell ⟨g8, 4, none⟩ (.bool (decide (S = 0)))).setCell ⟨g8, 3, none⟩ (.int .i64 (S : Nat)))) := ⟨(H3.out.1.set 4 _).set 3 _, ((Only.refl _ _).setCell (Or.inl (by simp)) _).setCell (Or.inl (by simp)) _⟩
      clear c0 c1 c2 c3 hg8
      go_cut [] from 21 to 33 (fun wx => Blk wx g8 (sd (E, P, S)).toArray 39 ∧ Only [g8] w3 wx)
      case first =>
        go_region_with ((first | (go_at_call 14; refine (HSZ.out _ (by first | exact H3.out.2.2.1 | exact H3.out.2.2.1.other H3.out.2.2.2.1 _ | exact (H3.out.2.2.1.other H3.out.2.2.2.1 _).other H3.out.2.2.2.1 _)).mono ?_; rintro e w' ⟨rfl, rfl⟩) | (go_at_call 15; refine (HEM.out _ (by first | exact H3.out.2.2.1 | exact H3.out.2.2.1.other H3.out.2.2.2.1 _ | exact (H3.out.2.2.1.other H3.out.2.2.2.1 _).other H3.out.2.2.2.1 _)).mono ?_; rintro e w' ⟨rfl, rfl⟩)))
        all_goals go_wp2_with fail
        all_goals go_meet
        all_goals with_reducible (first | exact ⟨K1.out.1.drew, K1.out.2.drew⟩ | exact ⟨K2.out.1.drew, K2.out.2.drew⟩)
      case rest =>
      have H4 : Hid (Blk wc g8 (sd (E, P, S)).toArray 39 ∧ Only [g8] w3 wc) := hcut
      clear hcut b0 g3 g4 fg
      have hMM : ∀ k ∈ M', k < g8 := fun k hk => by have h1 := (H2.out.2.1.lt k hk).1; have h2 := H2.out.2.2.2.2.1; omega
      have hsz1 : wr.heap.size + 1 ≤ w2.heap.size := by have h1 := H2.out.2.2.2.1.size; simp at h1; exact h1
      have hsv : ∀ k, (Value.slice t5 i d5).ownBlock = some k → k ∉ M' ∧ k < wr.heap.size ∧ B ≤ k := fun k hk => by
        have h1 := ownB HR.out.row hk
        refine ⟨fun e => ?_, h1.2, h1.1⟩
        rcases H2.out.2.2.1 k e with h2 | h2
        · exact HR.out.sep k hk h2
        · simp at h2; omega
      have hfrw : Below B w w2 := by
        refine HR.out.frame.trans ((H1.out.2.2.2.2.1.mono ?_).trans (H2.out.2.2.2.1.below H1.out.2.2.2.1 (fun k hk => (HR.out.abs.lt k hk).2)))
        have h1 := HR.out.frame.size
        have h2 := HB.out
        omega
      have hB2 : B ≤ w2.heap.size := by have h1 := hfrw.size; have h2 := HB.out; omega
      have H5 : Hid (Abs wc B b M' (clr' s cl) es' ∧ wc.ownsRow B 39 5 (.slice t5 i d5) i (outs.map sd).flatten ∧ Below B w wc ∧ B ≤ wc.heap.size ∧ (∀ k, (Value.slice t5 i d5).ownBlock = some k → k ∉ M' ∧ k < wr.heap.size ∧ B ≤ k) ∧ (∀ k ∈ M', k < g8) ∧ g8 < wc.heap.size) := by
        refine ⟨(H2.out.2.1.only (Only.of_below (M := []) H3.out.2.2.2.2) (by simp)).only H4.out.2 (fun k hk e => ?_), ?_, ?_, ?_, hsv, hMM, H4.out.1.lt⟩
        · simp only [List.mem_singleton] at e
          have := hMM k hk
          omega
        · refine own_only (own_only (own_only (own_only HR.out.row (Only.of_below (M := []) H1.out.2.2.2.2.1) (by simp)) H2.out.2.2.2.1 HR.out.sep) (Only.of_below (M := []) H3.out.2.2.2.2) (by simp)) H4.out.2 (fun k hk e => ?_)
          simp only [List.mem_singleton] at e
          have h1 := (hsv k hk).2.1
          have h2 := H2.out.2.2.2.2.1
          omega
        · refine hfrw.trans ((H3.out.2.2.2.2.mono hB2).trans (H4.out.2.below (Nat.le_trans hB2 H3.out.2.2.2.2.size) (fun k hk => ?_)))
          simp only [List.mem_singleton] at hk
          have h2 := H2.out.2.2.2.2.1
          omega
        · have h1 := H4.out.2.size
          have h2 := H3.out.2.2.2.2.size
          omega
      have k0 : wc.cell? ⟨g8, 0, none⟩ = some (.bool true) := H4.out.1.cell rfl
      have k1 : wc.cell? ⟨g8, 1, none⟩ = some (.int .i64 E) := H4.out.1.cell rfl
      have k2 : wc.cell? ⟨g8, 2, none⟩ = some (.int .i64 P) := H4.out.1.cell rfl
      have k3 : wc.cell? ⟨g8, 3, none⟩ = some (.int .i64 (S : Nat)) := H4.out.1.cell rfl
      have k4 : wc.cell? ⟨g8, 4, none⟩ = some (.bool (decide (S = 0))) := H4.out.1.cell rfl
      have hn3 : n ≤ 200 := hn2
      have hBc : B ≤ wc.heap.size := H5.out.2.2.2.1
      clear hMM hsz1 hsv hfrw hB2 hbg hgb hSw hS1
      go_wp2_with (at_builtin; go_must (refine wpList_append_own_at _ rfl _ _ 36 rfl B 39 i0 (.agg #[.bool false, .int .i64 0, .int .i64 0, .int .i64 0, .bool false]) 5 40 Try.underlying36 HI.out.1 HI.out.2.1 HI.out.2.2.1 HI.out.2.2.2 rfl (by decide) (.slice t5 i d5) i _ rfl (H5.out.2.1.alloc _) ⟨wc.heap.size, 0, none⟩ 1 1 (sd (E, P, S)) rfl rfl ?c1 ?c2 ?c3 ?c4 ?c5 ?_))
      case c1 => exact two_cells
      case c2 => intro u hu; simp [sd] at hu; rcases hu with rfl | rfl | rfl | rfl | rfl <;> rfl
      case c3 => unfold maxLen; omega
      case c4 => omega
      case c5 => simp; omega
      intro v1 w4 hown hgrow _ hat
      have HE : Hid (RunAt w B b M' ss (i + 1) v1 (clr' s cl) es' (outs ++ [(E, P, S)]) w4) := by
        have ho4 : Only (rowB (.slice t5 i d5)) wc w4 := ((Only.refl _ _).alloc _).grown hgrow (fun k hk => Or.inl (by simp [rowB, hk]))
        refine ⟨H5.out.1.only ho4 (fun k hk e => (H5.out.2.2.2.2.1 k (by simpa [rowB] using e)).1 hk), ?_, ?_, fun k hk e => ?_, H5.out.2.2.1.trans (ho4.below H5.out.2.2.2.1 (fun k hk => (H5.out.2.2.2.2.1 k (by simpa [rowB] using hk)).2.2))⟩
        · rw [List.take_add_one, H1.out.2.2.2.2.2, H2.out.2.2.2.2.2.1]
          exact HR.out.ran.add H2.out.1
        · rw [List.map_append, List.flatten_append]
          simpa using hown
        · rcases hat with h | h
          · rw [h] at hk; exact (H5.out.2.2.2.2.1 k hk).1 e
          · rw [h] at hk
            simp at hk
            have h1 := H5.out.2.2.2.2.2.1 k e
            have h2 := H5.out.2.2.2.2.2.2
            omega
      clear hown hgrow hat k0 k1 k2 k3 k4
      go_wp2_with fail
      go_roundw
      case rel => exact ⟨i + 1, M', clr' s cl, es', _, rfl, by omega, HE.out⟩
      case measure => simp [intOf]; omega
    · have z1 : ¬ (i : Int) < (n : Int) := by omega
      obtain rfl : i = n := by omega
      go_wp2_with fail
      go_ret
      have hr := HR.out.ran
      rw [List.take_of_length_le (by rw [HN.out]; exact Nat.le_refl _)] at hr
      refine ⟨_, cl, es, outs, rfl, hr, Recs.of_own (by decide) (by intro r hr; obtain ⟨p, _, rfl⟩ := List.mem_map.1 hr; rfl) HR.out.row, fun b o n c e => ?_, ?_⟩
      · have h1 := own_low HR.out.row _ _ _ e
        rw [← HB.out]
        exact h1
      · rw [← HB.out]; exact HR.out.frame
end FH
end Go.Proofs.Ytalphojbkeleiaa
