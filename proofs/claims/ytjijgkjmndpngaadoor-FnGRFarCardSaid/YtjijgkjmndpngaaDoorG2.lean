/- An edge added to a graph. -/
import Derived.Test.YtjijgkjmndpngaaDoorG1
namespace Go.Proofs.YtjijgkjmndpngaaDoor
open Go.RowKit

def minsert (l : List Int) (k : Int) : List Int := if k ∈ l then l else l ++ [k]
def gput (G : Gr) (a k : Int) : Gr := G.map fun x => if x.1 = a then (x.1, x.2.1, minsert x.2.2 k) else x
def nbrs (G : Gr) (v : Int) : List Int := ((gfind G v).map (·.2)).getD []
theorem mput_unitp (k : Int) : ∀ l : List Int, mput (l.map unitp) k (.agg #[]) = (minsert l k).map unitp := by
  intro l
  by_cases h : k ∈ l
  · rw [minsert, if_pos h]
    induction l with
    | nil => simp at h
    | cons a l ih =>
      rw [List.map_cons, mput]
      by_cases e : k = a
      · subst e; rw [if_pos (show k = (unitp k).1 from rfl)]; rfl
      · rw [if_neg (show ¬k = (unitp a).1 from e), ih (by simpa [e] using h)]
  · rw [minsert, if_neg h, mput_fresh (by rw [keys_unitp]; exact h), List.map_append]; rfl
theorem gblks_gput (G : Gr) (a k : Int) : gblks (gput G a k) = gblks G := by
  simp only [gblks, gput, List.map_map]
  refine List.map_congr_left fun x _ => ?_
  simp only [Function.comp]; split <;> rfl
theorem gkeys_gput (G : Gr) (a k : Int) : gkeys (gput G a k) = gkeys G := by
  simp only [gkeys, gput, List.map_map]
  refine List.map_congr_left fun x _ => ?_
  simp only [Function.comp]; split <;> rfl
theorem gent_gput (G : Gr) (a k : Int) : (gput G a k).map gent = G.map gent := by
  simp only [gput, List.map_map]
  refine List.map_congr_left fun x _ => ?_
  simp only [Function.comp]; split <;> rfl
theorem gfind_gput (G : Gr) (a k v : Int) : gfind (gput G a k) v = (gfind G v).map fun q => if v = a then (q.1, minsert q.2 k) else q := by
  induction G with
  | nil => rfl
  | cons x G ih =>
    show gfind ((if x.1 = a then (x.1, x.2.1, minsert x.2.2 k) else x) :: gput G a k) v = _
    simp only [gfind, ih]
    by_cases h : x.1 = a
    · rw [if_pos h]
      by_cases e : v = x.1
      · have e2 : v = a := e.trans h
        simp [e, h]
      · simp [e]
    · rw [if_neg h]
      by_cases e : v = x.1
      · have e2 : v ≠ a := fun e2 => h (e ▸ e2)
        simp [e, h]
      · simp [e]
theorem nodup_inj {β γ : Type} {f : β → γ} {l : List β} (h : (l.map f).Nodup) {x y : β} (hx : x ∈ l) (hy : y ∈ l) (e : f x = f y) : x = y := by
  induction l with
  | nil => simp at hx
  | cons z l ih =>
    rw [List.map_cons, List.nodup_cons] at h
    rcases List.mem_cons.1 hx with e1 | hx1
    · rcases List.mem_cons.1 hy with e2 | hy1
      · rw [e1, e2]
      · exact absurd (List.mem_map.2 ⟨y, hy1, by rw [← e, e1]⟩) h.1
    · rcases List.mem_cons.1 hy with e2 | hy1
      · exact absurd (List.mem_map.2 ⟨x, hx1, by rw [e, e2]⟩) h.1
      · exact ih h.2 hx1 hy1
section
variable {B : Nat} {w w' : World} {p A : Nat} {G : Gr} {ne : Nat}
theorem GraphAt.blks (h : GraphAt B w p A G ne) : (gblks G).Nodup := by
  have := h.nd
  rw [List.nodup_cons, List.nodup_cons] at this
  exact this.2.2
theorem GraphAt.put {v k : Int} {b : Nat} {ns : List Int} (h : GraphAt B w p A G ne) (hv : (v, b, ns) ∈ G) (hm : IMap w' ik b (mput (ns.map unitp) k (.agg #[]))) (ho : Only [b] w w') : GraphAt B w' p A (gput G v k) ne := by
  obtain ⟨m1, m2, m3⟩ := h.mem hv
  rw [mput_unitp] at hm
  refine ⟨?_, ?_, ?_, by rw [gblks_gput]; exact h.nd, by rw [gblks_gput]; exact h.low⟩
  · have : (gput G v k).length = G.length := by simp [gput]
    rw [this]
    exact h.blk.only ho (by simp; exact fun e => m1 e.symm)
  · rw [gent_gput]; exact h.map.only ho (by simp; exact fun e => m2 e.symm)
  · intro x hx
    obtain ⟨y, hy, rfl⟩ := List.mem_map.1 hx
    by_cases e : y.1 = v
    · have h1 : y = (v, b, ns) := nodup_inj h.keys hy hv e
      subst h1
      simp only [if_pos]
      exact hm
    · rw [if_neg e]
      refine (h.adj y hy).only ho ?_
      simp only [List.mem_singleton]
      intro e2
      have h1 : y = (v, b, ns) := nodup_inj h.blks hy hv e2
      exact e (by rw [h1])
theorem GraphAt.count {n : Int} (h : GraphAt B w p A G ne) (hn : n = ne + 1) : GraphAt B (w.setCell ⟨p, 2, none⟩ (.int .i64 n)) p A G (ne + 1) := by
  have hs : Only [p] w (w.setCell ⟨p, 2, none⟩ (.int .i64 n)) := (Only.refl [p] w).setCell (Or.inl (by simp)) _
  refine ⟨?_, h.map.only hs (by simp; exact h.pA.symm), fun x hx => (h.adj x hx).only hs (by simp; exact (h.mem hx).1), h.nd, h.low⟩
  have := h.blk.set 2 (.int .i64 n)
  subst hn
  simpa using this
theorem Only.more {M : List Nat} {a b c : World} {x : Nat} (h : Only M a b) (k : Only [x] b c) (hx : x ∈ M ∨ a.heap.size ≤ x) : Only M a c :=
  ⟨k.os.trans h.os, k.tape.trans h.tape, k.output.trans h.output, Nat.le_trans h.size k.size, fun i hi hm => (k.block i (Nat.lt_of_lt_of_le hi h.size) (by
    simp only [List.mem_singleton]
    rintro rfl
    rcases hx with hx | hx
    · exact hm hx
    · omega)).trans (h.block i hi hm)⟩
end

theorem look_unitp (l : List Int) (u : Int) : (mlook (l.map unitp) u).getD (.agg #[]) = .agg #[] := by
  induction l with
  | nil => rfl
  | cons a l ih =>
    rw [List.map_cons, mlook]
    split
    · rfl
    · exact ih
theorem has_unitp (l : List Int) (u : Int) : (mlook (l.map unitp) u).isSome = decide (u ∈ l) := by rw [mlook_isSome, keys_unitp]

/-- What an edge does. -/
def EdgeStep (G : Gr) (ne : Nat) (v u : Int) (G' : Gr) (ne' : Nat) (code : Int) : Prop :=
  (v = u ∧ code = 2 ∧ G' = G ∧ ne' = ne) ∨ (v ≠ u ∧ ∃ G1 G2, GAdd G v G1 ∧ GAdd G1 u G2 ∧ ((u ∈ nbrs G2 v ∧ code = 3 ∧ G' = G2 ∧ ne' = ne) ∨ (u ∉ nbrs G2 v ∧ code = 0 ∧ G' = gput (gput G2 v u) u v ∧ ne' = ne + 1)))
def EdgePost (E1 E2 : Value) (B : Nat) (w : World) (p A : Nat) (G : Gr) (ne : Nat) (v u : Int) (e : Ending) (w' : World) : Prop :=
  ∃ G' ne' code, e = .returned (if code = 0 then .nilIface else if code = 2 then E1 else E2) ∧ GraphAt B w' p A G' ne' ∧ EdgeStep G ne v u G' ne' code ∧ (∀ k ∈ gblks G', k ∈ gblks G ∨ w.heap.size ≤ k) ∧ Only (p :: A :: gblks G) w w'
theorem GAdd.mem {G G' : Gr} {v : Int} (h : GAdd G v G') : v ∈ gkeys G' := by
  rcases h with ⟨h, rfl⟩ | ⟨_, b, rfl⟩
  · exact h
  · simp [gkeys]
theorem GAdd.sub {G G' : Gr} {v u : Int} (h : GAdd G v G') (hu : u ∈ gkeys G) : u ∈ gkeys G' := by
  rcases h with ⟨_, rfl⟩ | ⟨_, b, rfl⟩
  · exact hu
  · simp only [gkeys, List.map_append, List.mem_append] at hu ⊢; exact Or.inl hu
theorem GAdd.len {G G' : Gr} {v : Int} (h : GAdd G v G') : G'.length ≤ G.length + 1 := by
  rcases h with ⟨_, rfl⟩ | ⟨_, b, rfl⟩ <;> simp

set_option maxRecDepth 100000 in
set_option maxHeartbeats 2000000 in
theorem addEdge_any {B : Nat} {w : World} {p A : Nat} {G : Gr} {ne : Nat} {E1 E2 : Value} (hg : GraphAt B w p A G ne) (v u : Int) (hl : G.length ≤ 500) (hne : ne ≤ 500) (hB : 3 ≤ B) (g1 : w.cell? ⟨1, 0, none⟩ = some E1) (g2 : w.cell? ⟨2, 0, none⟩ = some E2) :
    Calls Tryd.prog 20 #[.pointer (some ⟨p, 0, none⟩), ik v, ik u] w fun e w' => EdgePost E1 E2 B w p A G ne v u e w' := by
  have hcmp : (Tryd.prog.info? 3).map (·.comparable) = some true := by kernel_rfl
  have heq : ∀ w : World, (binOp .eql 20 (ik v) (ik u)).run Tryd.prog w = .ok (.bool (v == u)) w := fun w => Lib.run_eql_iface_int w v u Tryd.underlying20 hcmp Tryd.underlying3
  have hgd : ∀ (w : World) (x y : Operand), (eqGuard .eql 20 x y (ik v) (ik u)).run Tryd.prog w = .ok () w := fun w x y => by rfl
  clear hcmp
  have HG := Lib.hid hg
  have HC2 := Lib.hid g2
  clear hg
  by_cases hvu : v = u
  · subst hvu
    rw [show (v == v) = true by simp] at heq
    clear g2
    go_enter Tryd.func20, Tryd.ntmps20
    go_wp2_with fail
    go_ret
    exact ⟨G, ne, 2, rfl, HG.out, Or.inl ⟨rfl, rfl, rfl, rfl⟩, fun k hk => Or.inl hk, Only.refl _ _⟩
  · rw [show (v == u) = false by simp [hvu]] at heq
    have HNE := Lib.hid hvu
    clear hvu g1 g2
    go_enter Tryd.func20, Tryd.ntmps20
    go_wp2_with fail
    refine (addVertex_any HG.out v (by omega)).mono ?_
    rintro e w1 ⟨rfl, G1, hG1, ha1, hf1, ho1⟩
    have H1 : Hid (GraphAt B w1 p A G1 ne ∧ GAdd G v G1 ∧ (∀ k ∈ gblks G1, k ∈ gblks G ∨ w.heap.size ≤ k) ∧ Only [p, A] w w1) := ⟨hG1, ha1, hf1, ho1⟩
    have hl1 := ha1.len
    clear hG1 ha1 hf1 ho1
    go_wp2_with fail
    refine (addVertex_any H1.out.1 u (by omega)).mono ?_
    rintro e w2 ⟨rfl, G2, hG2, ha2, hf2, ho2⟩
    have H2 : Hid (GraphAt B w2 p A G2 ne ∧ GAdd G1 u G2 ∧ (∀ k ∈ gblks G2, k ∈ gblks G ∨ w.heap.size ≤ k) ∧ Only (p :: A :: gblks G) w w2) := by
      refine ⟨hG2, ha2, fun k hk => ?_, (H1.out.2.2.2.trans ho2).mono (by intro k _ hk; simp at hk; rcases hk with rfl | rfl <;> simp)⟩
      rcases hf2 k hk with h | h
      · exact H1.out.2.2.1 k h
      · exact Or.inr (Nat.le_trans H1.out.2.2.2.size h)
    have hl2 := ha2.len
    clear hG2 ha2 hf2 ho2
    obtain ⟨⟨bv, nv⟩, hqv⟩ := gfind_some (H2.out.2.1.sub H1.out.2.1.mem)
    obtain ⟨⟨bu, nu⟩, hqu⟩ := gfind_some H2.out.2.1.mem
    have HV := Lib.hid hqv
    have HU := Lib.hid hqu
    clear hqv hqu
    have c0 := H2.out.1.c0
    have k1 := run_look ikind Tryd.underlying50 (zero_map50 w2) H2.out.1.map v false
    rw [mlook_gent, HV.out] at k1
    have l1 : (Instr.lookup 50 (.map (some A)) (ik v) false).run Tryd.prog w2 = .ok (.map (some bv)) w2 := k1
    have k2 := run_look ikind Tryd.underlying60 (zero_unit w2) (H2.out.1.adj _ (gfind_mem HV.out)) u true
    rw [if_pos rfl, look_unitp, has_unitp] at k2
    clear k1
    have hnb : nbrs G2 v = nv := by rw [nbrs, HV.out]; rfl
    have HNB := Lib.hid hnb
    clear hnb
    by_cases hin : u ∈ nv
    · have HIN := Lib.hid hin
      rw [decide_eq_true hin] at k2
      have g2 : (w2.alloc (.cells #[] 58)).cell? ⟨2, 0, none⟩ = some E2 := by
        have h1 : w2.cell? ⟨2, 0, none⟩ = some E2 := (World.cell?_of_block (H2.out.2.2.2.block 2 (cell_lt' HC2.out) (by
          intro hk
          have := HG.out.low 2 hk
          omega))).trans HC2.out
        rw [← h1]
        exact World.cell?_of_block (heap_alloc_old _ _ (cell_lt' h1))
      clear hin
      go_wp2_with fail
      go_ret
      exact ⟨G2, ne, 3, rfl, H2.out.1.same ((Below.refl _ _).alloc (Nat.le_refl _) _), Or.inr ⟨HNE.out, G1, G2, H1.out.2.1, H2.out.2.1, Or.inl ⟨by rw [HNB.out]; exact HIN.out, rfl, rfl, rfl⟩⟩, H2.out.2.2.1, H2.out.2.2.2.alloc _⟩
    · have HIN := Lib.hid hin
      rw [decide_eq_false hin] at k2
      have H3 : Hid (GraphAt B (w2.alloc (.cells #[] 58)) p A G2 ne) := Lib.hid (H2.out.1.same ((Below.refl _ _).alloc (Nat.le_refl _) _))
      have d0 := H3.out.c0
      have k1 := run_look ikind Tryd.underlying50 (zero_map50 (w2.alloc (.cells #[] 58))) H3.out.map v false
      rw [mlook_gent, HV.out] at k1
      have l3 : (Instr.lookup 50 (.map (some A)) (ik v) false).run Tryd.prog (w2.alloc (.cells #[] 58)) = .ok (.map (some bv)) (w2.alloc (.cells #[] 58)) := k1
      clear hin k1
      go_wp2_with (at_mapUpdate; go_must (refine wpList_mput _ rfl _ _ _ 60 rfl ikind Tryd.underlying60 _ _ rfl (H3.out.adj _ (gfind_mem HV.out)) u rfl ?_))
      intro w4 hm ho
      have hbv : bv ∈ gblks G2 := List.mem_map.2 ⟨_, gfind_mem HV.out, rfl⟩
      have hbu : bu ∈ gblks G2 := List.mem_map.2 ⟨_, gfind_mem HU.out, rfl⟩
      have hu4 : gfind (gput G2 v u) u = some (bu, nu) := by
        rw [gfind_gput, HU.out, Option.map_some, if_neg (fun e => HNE.out e.symm)]
      have H4 : Hid (GraphAt B w4 p A (gput G2 v u) ne ∧ gfind (gput G2 v u) u = some (bu, nu) ∧ Only (p :: A :: gblks G) w w4) := by
        refine ⟨H3.out.put (gfind_mem HV.out) hm ho, hu4, (H2.out.2.2.2.alloc _).more ho ?_⟩
        rcases H2.out.2.2.1 bv hbv with h | h
        · exact Or.inl (by simp [h])
        · exact Or.inr h
      have k1 := run_look ikind Tryd.underlying50 (zero_map50 w4) H4.out.1.map u false
      rw [mlook_gent, hu4] at k1
      have l4 : (Instr.lookup 50 (.map (some A)) (ik u) false).run Tryd.prog w4 = .ok (.map (some bu)) w4 := k1
      have d4 := H4.out.1.c0
      clear hm ho k1 hu4 hbv l3 d0 c0 k2 l1
      go_wp2_with (at_mapUpdate; go_must (refine wpList_mput _ rfl _ _ _ 60 rfl ikind Tryd.underlying60 _ _ rfl (H4.out.1.adj _ (gfind_mem H4.out.2.1)) v rfl ?_))
      intro w5 hm ho
      have H5 : Hid (GraphAt B w5 p A (gput (gput G2 v u) u v) ne ∧ Only (p :: A :: gblks G) w w5) := by
        refine ⟨H4.out.1.put (gfind_mem H4.out.2.1) hm ho, H4.out.2.2.more ho ?_⟩
        rcases H2.out.2.2.1 bu hbu with h | h
        · exact Or.inl (by simp [h])
        · exact Or.inr h
      have e1 := H5.out.1.c2
      have e2 := H5.out.1.blk.free 2
      have hn2 : (ne : Int) ≤ 500 := by omega
      clear hm ho hbu d4 l4
      go_wp2_with fail
      go_ret
      refine ⟨gput (gput G2 v u) u v, ne + 1, 0, rfl, H5.out.1.count rfl, Or.inr ⟨HNE.out, G1, G2, H1.out.2.1, H2.out.2.1, Or.inr ⟨by rw [HNB.out]; exact HIN.out, rfl, rfl, rfl⟩⟩, ?_, H5.out.2.setCell (Or.inl (by simp)) _⟩
      rw [gblks_gput, gblks_gput]
      exact H2.out.2.2.1
end Go.Proofs.YtjijgkjmndpngaaDoor
