/- Graphs in memory: what a graph is, a vertex added. -/
import Derived.Test.YtjijgkjmndpngaaDoorMapOps
import Derived.Test.YtjijgkjmndpngaaDoorRecKit
import Derived.Test.YtjijgkjmndpngaaDoorRows
import Derived.WalkSpells
import Derived.WalkLawsBesides
import Derived.Recover
import Derived.Lib.IfaceEq
import Derived.LaidEql
namespace Go.Proofs.YtjijgkjmndpngaaDoor
open Go.RowKit

def ik (x : Int) : Value := .iface 3 (.int .i64 x)
theorem ik_inj (x y : Int) (h : ik x = ik y) : x = y := by
  simp [ik] at h; exact h
theorem ikind : KeyKind Tryd.prog 20 ik where
  iface := ⟨_, Tryd.underlying20⟩
  eq w a b := by
    cases hi : Tryd.prog.info? 3 with
    | none => exact absurd hi (by decide +kernel)
    | some i =>
      have hcc : (Tryd.prog.info? 3).map (·.comparable) = some true := by kernel_rfl
      rw [hi] at hcc
      have hc : i.comparable = true := by simpa using hcc
      have h : ∀ d : Nat, (Op.equalIn (d + 2) 20 (.iface 3 (.int .i64 a)) (.iface 3 (.int .i64 b))).run Tryd.prog w = .ok (a == b) w := fun d => by
        simp [Op.equalIn, run_underlying Tryd.underlying20, run_underlying Tryd.underlying3, typeInfo, hi, hc]
      have h2 : (Op.equal 20 (ik a) (ik b)).run Tryd.prog w = .ok (a == b) w := h 9998
      rw [h2]
      congr 1
  chk w em a := by
    cases hi : Tryd.prog.info? 3 with
    | none => exact absurd hi (by decide +kernel)
    | some i =>
      have hcc : (Tryd.prog.info? 3).map (·.comparable) = some true := by kernel_rfl
      rw [hi] at hcc
      have hc : i.comparable = true := by simpa using hcc
      have h : ∀ d : Nat, (Instr.checkKey em (d + 2) 20 (.iface 3 (.int .i64 a))).run Tryd.prog w = .ok () w := fun d => by
        simp [Instr.checkKey, run_underlying Tryd.underlying20, run_underlying Tryd.underlying3, typeInfo, hi, hc]
      exact h 9998
  stay a := by simp [ik, Instr.sameBits]
abbrev Ints (w : World) (sl : Value) (xs : List Int) : Prop := Vals w sl (xs.map (Value.int .i64))
abbrev Anys (w : World) (sl : Value) (xs : List Int) : Prop := Vals w sl (xs.map ik)
theorem info20 : (Tryd.prog.info? 20).map (fun i => (i.zero, i.size, i.bytes)) = some (some .nilIface, 1, 16) := by kernel_rfl
theorem info3 : (Tryd.prog.info? 3).map (fun i => (i.zero, i.size, i.bytes)) = some (some (.int .i64 0), 1, 8) := by kernel_rfl

abbrev Gr := List (Int × Nat × List Int)
def gent (x : Int × Nat × List Int) : Int × Value := (x.1, .map (some x.2.1))
def unitp (k : Int) : Int × Value := (k, .agg #[])
def gkeys (G : Gr) : List Int := G.map (·.1)
def gblks (G : Gr) : List Nat := G.map (·.2.1)
/-- A graph in memory: p its struct, A its map of maps; all in blocks from B on. -/
structure GraphAt (B : Nat) (w : World) (p A : Nat) (G : Gr) (ne : Nat) : Prop where
  blk : Blk w p #[.map (some A), .int .i64 (G.length : Nat), .int .i64 (ne : Nat)] 52
  map : IMap w ik A (G.map gent)
  adj : ∀ x ∈ G, IMap w ik x.2.1 (x.2.2.map unitp)
  nd : (p :: A :: gblks G).Nodup
  low : ∀ k ∈ p :: A :: gblks G, B ≤ k
theorem keys_gent (G : Gr) : mkeys (G.map gent) = gkeys G := by simp [mkeys, gkeys, gent]
theorem keys_unitp (l : List Int) : mkeys (l.map unitp) = l := by simp [mkeys, unitp, Function.comp_def]
section
variable {B : Nat} {w w' : World} {p A : Nat} {G : Gr} {ne : Nat}
theorem GraphAt.c0 (h : GraphAt B w p A G ne) : w.cell? ⟨p, 0, none⟩ = some (.map (some A)) := h.blk.cell rfl
theorem GraphAt.c1 (h : GraphAt B w p A G ne) : w.cell? ⟨p, 1, none⟩ = some (.int .i64 (G.length : Nat)) := h.blk.cell rfl
theorem GraphAt.c2 (h : GraphAt B w p A G ne) : w.cell? ⟨p, 2, none⟩ = some (.int .i64 (ne : Nat)) := h.blk.cell rfl
theorem GraphAt.keys (h : GraphAt B w p A G ne) : (gkeys G).Nodup := by rw [← keys_gent]; exact h.map.nodup
theorem GraphAt.plow (h : GraphAt B w p A G ne) : B ≤ p := h.low p (by simp)
theorem GraphAt.alow (h : GraphAt B w p A G ne) : B ≤ A := h.low A (by simp)
theorem GraphAt.pA (h : GraphAt B w p A G ne) : p ≠ A := by have := h.nd; simp at this; exact this.1.1
theorem GraphAt.mem (h : GraphAt B w p A G ne) {x : Int × Nat × List Int} (hx : x ∈ G) : x.2.1 ≠ p ∧ x.2.1 ≠ A ∧ x.2.1 < w.heap.size := by
  have h1 : x.2.1 ∈ gblks G := List.mem_map.2 ⟨x, hx, rfl⟩
  have h2 := h.nd
  rw [List.nodup_cons, List.nodup_cons] at h2
  refine ⟨fun e => h2.1 ?_, fun e => h2.2.1 ?_, (h.adj x hx).lt⟩
  · rw [← e]; simp [h1]
  · rw [← e]; exact h1
theorem GraphAt.only {M : List Nat} (h : GraphAt B w p A G ne) (ho : Only M w w') (hm : ∀ k ∈ p :: A :: gblks G, k ∉ M) : GraphAt B w' p A G ne :=
  ⟨h.blk.only ho (hm p (by simp)), h.map.only ho (hm A (by simp)), fun x hx => (h.adj x hx).only ho (hm _ (by have : x.2.1 ∈ gblks G := List.mem_map.2 ⟨x, hx, rfl⟩; simp [this])), h.nd, h.low⟩
theorem GraphAt.same (h : GraphAt B w p A G ne) (ho : Below w.heap.size w w') : GraphAt B w' p A G ne := h.only (M := []) (Only.of_below ho) (by simp)

def gfind : Gr → Int → Option (Nat × List Int)
  | [], _ => none
  | x :: G, v => if v = x.1 then some x.2 else gfind G v
theorem mlook_gent (v : Int) : ∀ G : Gr, mlook (G.map gent) v = (gfind G v).map fun q => .map (some q.1)
  | [] => rfl
  | x :: G => by
    have ih := mlook_gent v G
    by_cases h : v = x.1
    · have h' : v = (gent x).1 := h
      rw [List.map_cons, mlook, gfind, if_pos h', if_pos h]; rfl
    · have h' : ¬v = (gent x).1 := h
      rw [List.map_cons, mlook, gfind, if_neg h', if_neg h]; exact ih
theorem gfind_mem {v : Int} {q : Nat × List Int} : ∀ {G : Gr}, gfind G v = some q → (v, q) ∈ G
  | [], h => by simp [gfind] at h
  | x :: G, h => by
    simp only [gfind] at h
    split at h
    · rename_i e
      simp at h
      rw [e, ← h]; simp
    · exact List.mem_cons_of_mem _ (gfind_mem h)
theorem gfind_some {v : Int} : ∀ {G : Gr}, v ∈ gkeys G → ∃ q, gfind G v = some q
  | [], h => by simp [gkeys] at h
  | x :: G, h => by
    simp only [gfind]
    by_cases e : v = x.1
    · exact ⟨x.2, by simp [e]⟩
    · rw [if_neg e]
      exact gfind_some (by simpa [gkeys, e] using h)
theorem gfind_none {v : Int} : ∀ {G : Gr}, v ∉ gkeys G → gfind G v = none
  | [], _ => rfl
  | x :: G, h => by
    have e : v ≠ x.1 := fun e => h (by simp [gkeys, e])
    simp only [gfind, if_neg e]
    exact gfind_none fun h2 => h (by simp only [gkeys, List.map_cons, List.mem_cons]; exact Or.inr h2)

/-- A vertex is added, if it is not there. -/
def GAdd (G : Gr) (v : Int) (G' : Gr) : Prop := (v ∈ gkeys G ∧ G' = G) ∨ (v ∉ gkeys G ∧ ∃ b, G' = G ++ [(v, b, [])])
theorem zero_map50 (w : World) : (zeroValue 60).run Tryd.prog w = .ok (.map none) w := by kernel_rfl
theorem zero_unit (w : World) : (zeroValue 58).run Tryd.prog w = .ok (.agg #[]) w := by kernel_rfl
end

theorem mput_fresh {L : List (Int × Value)} {a : Int} {v : Value} (h : a ∉ mkeys L) : mput L a v = L ++ [(a, v)] :=
  mput_none fun p hp e => h (by rw [e]; exact List.mem_map.2 ⟨p, hp, rfl⟩)
theorem GraphAt.added {B : Nat} {w w1 : World} {p A : Nat} {G : Gr} {ne : Nat} {v : Int} (h : GraphAt B w p A G ne) (hv : v ∉ gkeys G) (hm : IMap w1 ik A (mput (G.map gent) v (.map (some w.heap.size)))) (ho : Only [A] (w.alloc (.map #[] 0)) w1) :
    GraphAt B (w1.setCell ⟨p, 1, none⟩ (.int .i64 ((G.length : Int) + 1))) p A (G ++ [(v, w.heap.size, [])]) ne ∧ Only [p, A] w (w1.setCell ⟨p, 1, none⟩ (.int .i64 ((G.length : Int) + 1))) := by
  have hp := h.blk.lt
  have hA := h.map.lt
  have hal : Below w.heap.size w (w.alloc (.map #[] 0)) := (Below.refl _ _).alloc (Nat.le_refl _) _
  have h1 := h.same hal
  have hs : Only [p] w1 (w1.setCell ⟨p, 1, none⟩ (.int .i64 ((G.length : Int) + 1))) := (Only.refl [p] w1).setCell (Or.inl (by simp)) _
  have hb1 : Blk w1 p #[.map (some A), .int .i64 (G.length : Nat), .int .i64 (ne : Nat)] 52 := h1.blk.only ho (by simp; exact h.pA)
  have hnew : IMap w1 ik w.heap.size [] := (IMap.new w ik).only ho (by simp; omega)
  refine ⟨⟨?_, ?_, ?_, ?_, ?_⟩, ?_⟩
  · have := hb1.set 1 (.int .i64 ((G.length : Int) + 1))
    simpa using this
  · rw [mput_fresh (by rw [keys_gent]; exact hv)] at hm
    have := hm.only hs (by simp; exact h.pA.symm)
    simpa [gent] using this
  · intro x hx
    rcases List.mem_append.1 hx with hx | hx
    · obtain ⟨m1, m2, m3⟩ := h.mem hx
      exact ((h1.adj x hx).only ho (by simp; exact m2)).only hs (by simp; exact m1)
    · simp at hx
      subst hx
      exact hnew.only hs (by simp; omega)
  · have h2 := h.nd
    have h3 : w.heap.size ∉ p :: A :: gblks G := by
      intro hx
      simp only [List.mem_cons] at hx
      rcases hx with hx | hx | hx
      · omega
      · omega
      · obtain ⟨x, hx1, hx2⟩ := List.mem_map.1 hx
        have := (h.mem hx1).2.2
        omega
    have h4 : p :: A :: gblks (G ++ [(v, w.heap.size, [])]) = (p :: A :: gblks G) ++ [w.heap.size] := by simp [gblks]
    rw [h4, List.nodup_append]
    refine ⟨h2, by simp, fun a ha b hb => ?_⟩
    simp at hb
    subst hb
    exact fun e => h3 (e ▸ ha)
  · have h4 : p :: A :: gblks (G ++ [(v, w.heap.size, [])]) = (p :: A :: gblks G) ++ [w.heap.size] := by simp [gblks]
    rw [h4]
    intro k hk
    rcases List.mem_append.1 hk with hk | hk
    · exact h.low k hk
    · simp at hk
      have := h.plow
      omega
  · exact (((Only.of_below hal).trans (ho.mono (by intro k _ hk; simp at hk; simp [hk]))).trans (hs.mono (by intro k _ hk; simp at hk; simp [hk])))

set_option maxRecDepth 100000 in
set_option maxHeartbeats 1000000 in
theorem addVertex_any {B : Nat} {w : World} {p A : Nat} {G : Gr} {ne : Nat} (hg : GraphAt B w p A G ne) (v : Int) (hl : G.length ≤ 1000) :
    Calls Tryd.prog 23 #[.pointer (some ⟨p, 0, none⟩), ik v] w fun e w' => e = .returned (.tuple #[]) ∧ ∃ G', GraphAt B w' p A G' ne ∧ GAdd G v G' ∧ (∀ k ∈ gblks G', k ∈ gblks G ∨ w.heap.size ≤ k) ∧ Only [p, A] w w' := by
  have HG := Lib.hid hg
  have c0 := hg.c0
  have hlk0 := run_look ikind Tryd.underlying50 (zero_map50 w) hg.map v true
  rw [if_pos rfl, mlook_gent] at hlk0
  by_cases hv : v ∈ gkeys G
  · obtain ⟨q, hq⟩ := gfind_some hv
    rw [hq] at hlk0
    have hlk : (Instr.lookup 50 (.map (some A)) (ik v) true).run Tryd.prog w = .ok (.tuple #[.map (some q.1), .bool true]) w := hlk0
    have HV := Lib.hid hv
    clear hlk0 hv hq hg
    go_enter Tryd.func23, Tryd.ntmps23
    go_wp2_with fail
    go_end0
    exact ⟨rfl, G, HG.out, Or.inl ⟨HV.out, rfl⟩, fun k hk => Or.inl hk, Only.refl _ _⟩
  · rw [gfind_none hv] at hlk0
    have hlk : (Instr.lookup 50 (.map (some A)) (ik v) true).run Tryd.prog w = .ok (.tuple #[.map none, .bool false]) w := hlk0
    have HV := Lib.hid hv
    have hmk : ∀ w : World, (Instr.makeMap 60 none).run Tryd.prog w = .ok (.map (some w.heap.size)) (w.alloc (.map #[] 0)) := fun _ => by simp [Instr.makeMap]
    have HA : Hid (GraphAt B (w.alloc (.map #[] 0)) p A G ne ∧ IMap (w.alloc (.map #[] 0)) ik w.heap.size []) := ⟨hg.same ((Below.refl _ _).alloc (Nat.le_refl _) _), IMap.new w ik⟩
    have d0 := HA.out.1.c0
    clear hlk0 hv hg
    go_enter Tryd.func23, Tryd.ntmps23
    go_wp2_with (at_mapUpdate; go_must (refine wpList_mput _ rfl _ _ _ 50 rfl ikind Tryd.underlying50 _ _ rfl HA.out.1.map v rfl ?_))
    intro w1 hm ho
    have H1 := Lib.hid (HG.out.added HV.out hm ho)
    have hb1 : Blk w1 p #[.map (some A), .int .i64 (G.length : Nat), .int .i64 (ne : Nat)] 52 := HA.out.1.blk.only ho (by simp; exact HG.out.pA)
    have e1 := hb1.cell (i := 1) rfl
    have e2 := hb1.free 1
    have hl2 : (G.length : Int) ≤ 1000 := by omega
    clear hm ho hb1 c0 d0
    go_wp2_with fail
    go_end0
    refine ⟨rfl, _, H1.out.1, Or.inr ⟨HV.out, _, rfl⟩, fun k hk => ?_, H1.out.2⟩
    simp only [gblks, List.map_append, List.mem_append, List.map_cons, List.map_nil, List.mem_singleton] at hk ⊢
    rcases hk with hk | hk
    · exact Or.inl hk
    · exact Or.inr (by omega)
end Go.Proofs.YtjijgkjmndpngaaDoor
