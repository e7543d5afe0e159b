/- A graph is asked for a vertex's neighbours. -/
import Derived.Test.YtjijgkjmndpngaaDoorG4
import Derived.Laws.OwnMore
import Derived.Laws.MakeOwn
namespace Go.Proofs.YtjijgkjmndpngaaDoor
open Go.RowKit

theorem below_drewN {B : Nat} {w w' : World} (h : Below B w w') (n : Nat) : Below B w (w'.drewN n) := ⟨h.os, h.tape, h.output, h.size, h.block⟩
section
variable {B : Nat} {w w' : World} {p A : Nat} {G : Gr} {ne : Nat}

set_option maxRecDepth 100000 in
set_option maxHeartbeats 1000000 in
theorem degree_is (hg : GraphAt B w p A G ne) {v : Int} {b : Nat} {ns : List Int} (hv : gfind G v = some (b, ns)) (_hl : ns.length ≤ 1000) :
    Calls Tryd.prog 24 #[.pointer (some ⟨p, 0, none⟩), ik v] w fun e w' => e = .returned (.tuple #[.int .i64 (ns.length : Nat), .nilIface]) ∧ w = w' := by
  have c0 := hg.c0
  have k1 := run_look ikind Tryd.underlying50 (zero_map50 w) hg.map v true
  rw [mlook_gent, hv] at k1
  have l1 : (Instr.lookup 50 (.map (some A)) (ik v) true).run Tryd.prog w = .ok (.tuple #[.map (some b), .bool true]) w := k1
  have hlen := fun ty => run_len (P := Tryd.prog) Tryd.underlying60 (hg.adj _ (gfind_mem hv)) ty
  simp only [List.length_map] at hlen
  clear k1 hv hg
  go_enter Tryd.func24, Tryd.ntmps24
  go_wp2_with fail
  go_ret2
  exact ⟨rfl, rfl⟩

set_option maxRecDepth 100000 in
set_option maxHeartbeats 1000000 in
theorem degree_no (hg : GraphAt B w p A G ne) {v : Int} {E0 : Value} (hv : gfind G v = none) (g0 : w.cell? ⟨0, 0, none⟩ = some E0) :
    Calls Tryd.prog 24 #[.pointer (some ⟨p, 0, none⟩), ik v] w fun e w' => e = .returned (.tuple #[.int .i64 0, E0]) ∧ Below w.heap.size w w' := by
  have c0 := hg.c0
  have k1 := run_look ikind Tryd.underlying50 (zero_map50 w) hg.map v true
  rw [mlook_gent, hv] at k1
  have l1 : (Instr.lookup 50 (.map (some A)) (ik v) true).run Tryd.prog w = .ok (.tuple #[.map none, .bool false]) w := k1
  clear k1 hv hg
  go_enter Tryd.func24, Tryd.ntmps24
  go_wp2_with fail
  go_quiet (fail)
  go_wp2_with fail
  go_ret2
  exact ⟨rfl, below_drewN (Below.refl _ _) _⟩
end

set_option maxRecDepth 100000 in
set_option maxHeartbeats 1000000 in
theorem adj_no {B : Nat} {w : World} {p A : Nat} {G : Gr} {ne : Nat} (hg : GraphAt B w p A G ne) {v : Int} {a : Addr} (hv : gfind G v = none) (g0 : w.cell? ⟨0, 0, none⟩ = some (errv a)) :
    Calls Tryd.prog 21 #[.pointer (some ⟨p, 0, none⟩), ik v] w fun e w' => e = .returned (.tuple #[.slice none 0 0, errv a]) ∧ Below w.heap.size w w' := by
  have HG := Lib.hid hg
  have HV := Lib.hid hv
  have HC := Lib.hid g0
  have hnq : ∀ w : World, (binOp .neq 48 (errv a) .nilIface).run Tryd.prog w = .ok (.bool true) w := fun w => run_neq_iface_nil w 48 (by kernel_rfl) _ _
  have r1 : ∀ (w : World) (x y : Operand) (a : Addr), (eqGuard .neq 48 x y (errv a) .nilIface).run Tryd.prog w = .ok () w := fun _ _ _ _ => rfl
  clear hg hv g0
  go_enter Tryd.func21, Tryd.ntmps21
  go_wp2_with fail
  refine (degree_no HG.out HV.out HC.out).mono ?_
  rintro e w1 ⟨rfl, hb⟩
  have g0 := (hb.cell (cell_lt' HC.out)).trans HC.out
  have HB := Lib.hid hb
  clear hb
  go_wp2_with fail
  go_quiet (fail)
  go_wp2_with fail
  go_ret2
  exact ⟨rfl, below_drewN HB.out _⟩

/-- A row that is being filled. -/
def part (d : Nat) (ks : List Int) : List Value := ks.map ik ++ List.replicate (d - ks.length) .nilIface
theorem part_set {d : Nat} {ks : List Int} {k : Int} (h : ks.length < d) : (part d ks).toArray.setIfInBounds ks.length (ik k) = (part d (ks ++ [k])).toArray := by
  apply Array.ext'
  rw [Array.toList_setIfInBounds]
  simp only [part]
  obtain ⟨m, hm⟩ : ∃ m, d - ks.length = m + 1 := ⟨d - ks.length - 1, by omega⟩
  have h2 : d - (ks ++ [k]).length = m := by simp; omega
  rw [hm, h2, List.replicate_succ, List.map_append]
  rw [List.set_append_right _ _ (by simp)]
  simp

set_option maxRecDepth 100000 in
set_option maxHeartbeats 2000000 in
theorem adj_is {B : Nat} {w : World} {p A : Nat} {G : Gr} {ne : Nat} (hg : GraphAt B w p A G ne) {v : Int} {b : Nat} {ns : List Int} (hv : gfind G v = some (b, ns)) (hl : ns.length ≤ 1000) :
    Calls Tryd.prog 21 #[.pointer (some ⟨p, 0, none⟩), ik v] w fun e w' => ∃ sl ks, e = .returned (.tuple #[sl, .nilIface]) ∧ Anys w' sl ks ∧ ks.Nodup ∧ (∀ k, k ∈ ks ↔ k ∈ ns) ∧ Below w.heap.size w w' := by
  obtain ⟨i0, hi, hz0, hz1, hz2⟩ := info_at info20
  have HL := Lib.hid hl
  obtain ⟨d, hd⟩ : ∃ d, d = ns.length := ⟨_, rfl⟩
  have HD := Lib.hid hd
  have hd2 : d ≤ 1000 := by omega
  have hmk : ∀ w : World, (Instr.makeSlice 53 (.int .i64 (d : Nat)) (.int .i64 (d : Nat))).run Tryd.prog w = .ok (.slice (some ⟨w.heap.size, 0, none⟩) d d) (w.alloc (.cells (part d []).toArray 20)) := fun w => by
    have h1 := run_make w 53 20 i0 .nilIface Tryd.underlying53 hi hz0 .i64 .i64 (d : Int) (d : Int) (by omega) (by omega) (by rw [hz2]; omega) (by omega)
    rw [h1]
    have h2 : madeCells (Value.cells .nilIface) ((d : Int).toNat * i0.size) = (part d []).toArray := by
      apply Array.ext'
      rw [hz1, Nat.mul_one]
      show (madeCells #[Value.nilIface] _).toList = _
      rw [toList_madeCells_one]
      simp [part]
    rw [h2]
    simp
  have HG := Lib.hid hg
  have HV := Lib.hid hv
  clear hg hv hi hz0 hz1 hz2 hl hd
  go_enter Tryd.func21, Tryd.ntmps21
  go_wp2_with fail
  refine (degree_is HG.out HV.out HL.out).mono ?_
  rintro e w' ⟨rfl, rfl⟩
  rw [← HD.out]
  have hnq : (binOp .neq 48 .nilIface .nilIface).run Tryd.prog w = .ok (.bool false) w := run_neq_nil_nil_at w 48 (by kernel_rfl)
  obtain ⟨g, hgs⟩ : ∃ g, g = w.heap.size := ⟨_, rfl⟩
  have H1 : Hid (GraphAt B (w.alloc (.cells (part d []).toArray 20)) p A G ne ∧ Blk (w.alloc (.cells (part d []).toArray 20)) g (part d []).toArray 20 ∧ Below g w (w.alloc (.cells (part d []).toArray 20))) := by
    rw [hgs]
    exact ⟨HG.out.same ((Below.refl _ _).alloc (Nat.le_refl _) _), Blk.new _ _ _, (Below.refl _ _).alloc (Nat.le_refl _) _⟩
  have c0 := H1.out.1.c0
  have k1 := run_look ikind Tryd.underlying50 (zero_map50 (w.alloc (.cells (part d []).toArray 20))) H1.out.1.map v false
  rw [mlook_gent, HV.out] at k1
  have l1 : (Instr.lookup 50 (.map (some A)) (ik v) false).run Tryd.prog (w.alloc (.cells (part d []).toArray 20)) = .ok (.map (some b)) (w.alloc (.cells (part d []).toArray 20)) := k1
  have HM := Lib.hid (H1.out.1.adj _ (gfind_mem HV.out))
  clear k1
  go_wp2_with (at_range; go_must (refine wpList_mrange _ rfl _ _ rfl Tryd.underlying60 _ (ns.map unitp) rfl HM.out ?_))
  intro w2 hrange hbl
  obtain ⟨r, hr⟩ : ∃ r, r = w.heap.size + 1 := ⟨_, rfl⟩
  rw [← hr] at hrange
  have H2 : Hid (IRange w2 ik b r (ns.map unitp) [] ∧ Blk w2 g (part d []).toArray 20 ∧ Below g w w2 ∧ r ≠ g ∧ g ≤ r ∧ b ≠ g) := by
    have hb1 := H1.out.2.1.lt
    have hblt := HM.out.lt
    have hbw : b < w.heap.size := (HG.out.mem (gfind_mem HV.out)).2.2
    exact ⟨hrange, H1.out.2.1.below hbl (by omega), H1.out.2.2.trans (hbl.mono (by omega)), by omega, by omega, by omega⟩
  rw [← hr]
  rw [← hgs]
  have HGS := Lib.hid hgs
  clear hrange hbl hr hgs c0 l1 hnq hmk
  go_wp2_with fail
  go_loopw [9, 10] (fun iv _ wr => ∃ done : List Int, done.length ≤ d ∧ iv = .int .i64 (done.length : Nat) ∧ Hid (IRange wr ik b r (ns.map unitp) done ∧ Blk wr g (part d done).toArray 20 ∧ Below g w wr)) (fun _ _ wr => d - (wr.iterSeen r).size)
  case atStart => exact ⟨[], by simp, rfl, H2.out.1, H2.out.2.1, H2.out.2.2.1⟩
  case round =>
    obtain ⟨done, hdn, rfl, hR⟩ := hrel
    have HR : Hid (IRange wr ik b r (ns.map unitp) done ∧ Blk wr g (part d done).toArray 20 ∧ Below g w wr) := hR
    clear hR
    go_wp2_with (at_next; go_must (refine wpList_mnext _ rfl _ rfl ik_inj b r (ns.map unitp) done rfl HR.out.1 ?_ ?_))
    · intro hdone
      have HDN := Lib.hid hdone
      clear hdone
      go_wp2_with fail
      go_ret2
      have hle := HR.out.1.le
      rw [keys_unitp] at hle
      have hdo := HDN.out
      rw [keys_unitp] at hdo
      have hlen : done.length = d := by
        rw [HD.out]
        exact Nat.le_antisymm (nodup_len hle.1 hle.2) (by
          have h1 := HM.out.nodup
          rw [keys_unitp] at h1
          exact nodup_len h1 hdo)
      refine ⟨_, done, rfl, ?_, hle.1, fun k => ⟨hle.2 k, hdo k⟩, by rw [← HGS.out]; exact HR.out.2.2⟩
      refine Or.inr ⟨g, 0, d, by rw [List.length_map, hlen]; rfl, by rw [List.length_map, hlen]; exact Nat.le_refl _, fun i hi => ?_⟩
      rw [Nat.zero_add, List.getElem?_eq_getElem hi]
      refine HR.out.2.1.cell ?_
      rw [List.getElem?_toArray, part, List.getElem?_append_left hi, List.getElem?_eq_getElem hi]
    · intro k u w3 m1 m2 x0 m3 m30 m4 m5 m6
      have hen := m6 w3 rfl rfl
      have hlt := m4.len_le
      simp only [List.length_append, List.length_singleton, List.length_map] at hlt
      rw [← HD.out] at hlt
      have H3 : Hid (IRange w3 ik b r (ns.map unitp) (done ++ [k]) ∧ Blk w3 g (part d done).toArray 20 ∧ Below g w w3) :=
        ⟨m4, HR.out.2.1.only m5 (by simp; exact H2.out.2.2.2.1.symm), HR.out.2.2.trans (m5.below (by have := HR.out.2.2.size; have := HGS.out; omega) (by simp; exact H2.out.2.2.2.2.1))⟩
      have e1 : w3.cell? ⟨g, done.length, none⟩ = some .nilIface := H3.out.2.1.cell (by
        rw [List.getElem?_toArray, part, List.getElem?_append_right (by simp), List.length_map, Nat.sub_self, List.getElem?_replicate]
        simp; omega)
      have e2 := H3.out.2.1.free done.length
      clear m1 m2 m30 m3 m4 m5 m6 x0
      have hs0 := HR.out.1.seen
      have hst : ∀ (w : World), (store ⟨g, done.length, none⟩ (ik k)).run Tryd.prog w = (store ⟨g, done.length, none⟩ (.iface 3 (.int .i64 k))).run Tryd.prog w := fun _ => rfl
      have hik : ik k = .iface 3 (.int .i64 k) := rfl
      rw [hik] at hen ⊢
      clear hik
      have H4 : Hid (IRange (w3.setCell ⟨g, done.length, none⟩ (.iface 3 (.int .i64 k))) ik b r (ns.map unitp) (done ++ [k]) ∧ Blk (w3.setCell ⟨g, done.length, none⟩ (.iface 3 (.int .i64 k))) g (part d (done ++ [k])).toArray 20 ∧ Below g w (w3.setCell ⟨g, done.length, none⟩ (.iface 3 (.int .i64 k)))) := by
        refine ⟨H3.out.1.heap (Below.heap_setCell _ _ _ _ H2.out.2.2.2.2.2) (Below.heap_setCell _ _ _ _ H2.out.2.2.2.1), ?_, H3.out.2.2.setCell (Nat.le_refl _) _⟩
        rw [← part_set (by omega)]
        exact H3.out.2.1.set _ _
      have hms := H4.out.1.seen
      have hdl : done.length ≤ 1000 := by omega
      clear hst
      go_wp2_with fail
      go_roundw
      case rel => exact ⟨done ++ [k], by simp; omega, by simp, H4.out⟩
      case measure => rw [hms, hs0]; simp; omega
end Go.Proofs.YtjijgkjmndpngaaDoor
