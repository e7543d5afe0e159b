/- What a step says; an entry forgotten. -/
import Derived.Test.YtalphojbkeleiaaH8
namespace Go.Proofs.Ytalphojbkeleiaa
namespace FH
open Go.RowKit

def said5 (e p s : Int) (b : Bool) : Array Value := #[.bool true, .int .i64 e, .int .i64 p, .int .i64 s, .bool b]
theorem said5_put (e p s e' p' : Int) (b : Bool) : ((said5 e p s b).setIfInBounds 1 (.int .i64 e')).setIfInBounds 2 (.int .i64 p') = said5 e' p' s b := rfl
set_option maxRecDepth 100000 in
set_option maxHeartbeats 8000000 in
theorem said_any {w : World} {B b q : Nat} {x : Option Nat} {e1 p1 : Int} {A : List Nat} {m : Mem} {v : Value} {ea : List (Option Nat)} (h : He w B b q A m v ea) (hx : ∀ a, x = some a → a ∈ A ∧ (m a).pr ≠ bot) (he : ∀ (i a : Nat), ea[i]? = some (some a) → x = some a → e1 = i ∧ p1 = (m a).pr) :
    Calls Try.prog 17 #[.pointer (some ⟨b, 0, none⟩), optp x, .nilIface] w fun e w' => (∃ f : Bool, (f = true ↔ ∃ (i a : Nat), ea[i]? = some (some a) ∧ x = some a) ∧ e = .returned (.agg (if f then said5 e1 p1 0 false else said5 (-1) 0 0 false))) ∧ Below w.heap.size w w' := by
  have HH := Lib.hid h
  obtain ⟨so, cp, hv⟩ := own_shape h.row
  subst hv
  have b1 : w.cell? ⟨b, 1, none⟩ = some (.slice so ea.length cp) := h.hb.cell rfl
  have HE := Lib.hid he
  have HX := Lib.hid hx
  have hln : ea.length ≤ 900 := h.len
  obtain ⟨n, hn⟩ : ∃ n, n = ea.length := ⟨_, rfl⟩
  rw [← hn] at b1 hln
  have HN := Lib.hid hn
  have hblt := h.hb.lt
  obtain ⟨o, ho⟩ : ∃ o, o = w.heap.size + 1 := ⟨_, rfl⟩
  have HO := Lib.hid ho
  have H0 : Hid (Blk ((w.alloc (.cells #[.bool false, .int .i64 0, .int .i64 0, .int .i64 0, .bool false] 39)).alloc (.cells #[.bool true, .int .i64 (-1), .int .i64 0, .int .i64 0, .bool false] 39)) o (said5 (-1) 0 0 false) 39 ∧ Blk ((w.alloc (.cells #[.bool false, .int .i64 0, .int .i64 0, .int .i64 0, .bool false] 39)).alloc (.cells #[.bool true, .int .i64 (-1), .int .i64 0, .int .i64 0, .bool false] 39)) w.heap.size (#[.bool false, .int .i64 0, .int .i64 0, .int .i64 0, .bool false]) 39 ∧ Below w.heap.size w ((w.alloc (.cells #[.bool false, .int .i64 0, .int .i64 0, .int .i64 0, .bool false] 39)).alloc (.cells #[.bool true, .int .i64 (-1), .int .i64 0, .int .i64 0, .bool false] 39))) := by
    refine ⟨?_, (Blk.new _ _ _).alloc _, ((Below.refl _ _).alloc (Nat.le_refl _) _).alloc (by simp) _⟩
    have h := Blk.new (w.alloc (.cells #[.bool false, .int .i64 0, .int .i64 0, .int .i64 0, .bool false] 39)) (said5 (-1) 0 0 false) 39
    rw [World.size_alloc, ← ho] at h
    exact h
  obtain ⟨z, hz⟩ := optp_ptr x
  have HZ := Lib.hid hz
  rw [hz]
  clear h he hx hn hz
  go_enter Try.func17, Try.ntmps17
  go_wp2_with fail
  rw [← ho]
  generalize (w.alloc (.cells #[.bool false, .int .i64 0, .int .i64 0, .int .i64 0, .bool false] 39)).alloc (.cells #[.bool true, .int .i64 (-1), .int .i64 0, .int .i64 0, .bool false] 39) = w0 at H0 ⊢
  generalize hr : w.heap.size = r
  have HR := Lib.hid hr
  clear ho hr b1 hblt
  go_loopw [18] (fun iv wr => ∃ (k : Nat) (f : Bool), k ≤ n ∧ iv = .int .i64 (k : Nat) ∧ Hid ((f = true ↔ ∃ (i a : Nat), i < k ∧ ea[i]? = some (some a) ∧ x = some a) ∧ (∃ E P : Int, Blk wr o (said5 E P 0 false) 39 ∧ E = (if f then e1 else -1) ∧ P = (if f then p1 else 0)) ∧ Blk wr r (#[.bool false, .int .i64 0, .int .i64 0, .int .i64 0, .bool false]) 39 ∧ Below w.heap.size w wr)) (fun iv _ => n - (intOf iv).toNat)
  case atStart =>
    refine ⟨0, false, by omega, rfl, ⟨by simp, fun ⟨i, a, h, _⟩ => absurd h (by omega)⟩, ⟨_, _, H0.out.1, rfl, rfl⟩, by rw [← HR.out]; exact H0.out.2.1, H0.out.2.2⟩
  case round =>
    obtain ⟨k, f, hk, rfl, hL⟩ := hrel
    have HL : Hid ((f = true ↔ ∃ (i a : Nat), i < k ∧ ea[i]? = some (some a) ∧ x = some a) ∧ (∃ E P : Int, Blk wr o (said5 E P 0 false) 39 ∧ E = (if f then e1 else -1) ∧ P = (if f then p1 else 0)) ∧ Blk wr r (#[.bool false, .int .i64 0, .int .i64 0, .int .i64 0, .bool false]) 39 ∧ Below w.heap.size w wr) := hL
    clear hL
    by_cases hlt : k < n
    · obtain ⟨t, ht⟩ : ∃ t, ea[k]? = some t := ⟨_, List.getElem?_eq_getElem (by rw [← HN.out]; exact hlt)⟩
      obtain ⟨g, cp', hv⟩ := own_some HH.out.row (by rw [← HN.out]; omega)
      simp only [Value.slice.injEq] at hv
      obtain ⟨rfl, _, _⟩ := hv
      have ck : wr.cell? ⟨g, k, none⟩ = some (optp t) := by
        have h1 := (own_cell (i := k) (u := optp t) HH.out.row (by rw [row, List.getElem?_map, ht]; rfl)).1
        exact (HL.out.2.2.2.cell (cell_lt' h1)).trans h1
      have HT := Lib.hid ht
      clear ht
      have HS : Hid ((¬ ∃ a, t = some a ∧ x = some a) → ((f = true ↔ ∃ (i a : Nat), i < k + 1 ∧ ea[i]? = some (some a) ∧ x = some a) ∧ (∃ E P : Int, Blk wr o (said5 E P 0 false) 39 ∧ E = (if f then e1 else -1) ∧ P = (if f then p1 else 0)) ∧ Blk wr r (#[.bool false, .int .i64 0, .int .i64 0, .int .i64 0, .bool false]) 39 ∧ Below w.heap.size w wr)) := fun hno => by
        refine ⟨?_, HL.out.2⟩
        rw [HL.out.1]
        constructor
        · rintro ⟨i, a, h1, h2, h3⟩; exact ⟨i, a, by omega, h2, h3⟩
        · rintro ⟨i, a, h1, h2, h3⟩
          by_cases hik : i = k
          · subst hik
            rw [HT.out] at h2
            exact absurd ⟨a, Option.some.inj h2, h3⟩ hno
          · exact ⟨i, a, by omega, h2, h3⟩
      have skip : True := trivial
      cases x with
      | none =>
        obtain rfl : none = z := by have h := HZ.out; simpa [optp] using h
        clear skip
        go_wp2_with fail
        go_roundw
        case rel => exact ⟨k + 1, f, by omega, rfl, HS.out (by rintro ⟨a, _, h⟩; cases h)⟩
        case measure => simp [intOf]; omega
      | some a =>
        obtain rfl : some ⟨a, 0, none⟩ = z := by have h := HZ.out; simpa [optp, ptr] using h
        clear skip
        cases t with
        | none =>
          rw [show optp none = .pointer none from rfl] at ck
          go_wp2_with fail
          go_roundw
          case rel => exact ⟨k + 1, f, by omega, rfl, HS.out (by rintro ⟨a, h, _⟩; cases h)⟩
          case measure => simp [intOf]; omega
        | some c =>
          rw [show optp (some c) = .pointer (some ⟨c, 0, none⟩) from rfl] at ck
          have KC : Hid (c ∈ A) := HH.out.sub k c HT.out
          have KA : Hid (a ∈ A ∧ (m a).pr ≠ bot) := HX.out a rfl
          have HMS : Hid (Ms wr A m) := HH.out.ms.only (Only.of_below (M := []) HL.out.2.2.2) (by simp)
          by_cases hac : a = c
          · subst hac
            have hpe : (binOp .eql 40 (.pointer (some ⟨a, 0, none⟩)) (.pointer (some ⟨a, 0, none⟩))).run Try.prog wr = .ok (.bool true) wr := by
              have h := eql_ptr HMS.out (a := a) (b := a) KA.out.1 KA.out.1
              rw [decide_eq_true rfl] at h
              exact h
            obtain ⟨p, hp⟩ : ∃ p, p = (m a).pr := ⟨_, rfl⟩
            have hcv : ∀ w : World, (convert 54 3 (.float .f64 (fb p))).run Try.prog w = .ok (.int .i64 p) w := fun w => by
              rw [hp]; exact run_convert_float_int w _ _ .f64 .i64 _ _ rfl Try.underlying3 (fb_int (HH.out.ms.pr a KA.out.1) KA.out.2)
            have c6 : wr.cell? ⟨a, 6, none⟩ = some (.float .f64 (fb p)) := by rw [hp]; exact HMS.out.c6 KA.out.1
            have HP := Lib.hid hp
            clear hp
            obtain ⟨E, P, hb, _, _⟩ := HL.out.2.1
            have o1 : wr.cell? ⟨o, 1, none⟩ = some (.int .i64 E) := hb.cell rfl
            have o2 : wr.cell? ⟨o, 2, none⟩ = some (.int .i64 P) := hb.cell rfl
            have of := hb.free
            have HB := Lib.hid hb
            clear hb
            go_wp2_with fail
            clear hpe ck
            have HW2 : Hid ((true = true ↔ ∃ (i a' : Nat), i < k + 1 ∧ ea[i]? = some (some a') ∧ some a = some a') ∧ (∃ E P : Int, Blk ((wr.setCell ⟨o, 1, none⟩ (.int .i64 (k : Nat))).setCell ⟨o, 2, none⟩ (.int .i64 p)) o (said5 E P 0 false) 39 ∧ E = (if true then e1 else -1) ∧ P = (if true then p1 else 0)) ∧ Blk ((wr.setCell ⟨o, 1, none⟩ (.int .i64 (k : Nat))).setCell ⟨o, 2, none⟩ (.int .i64 p)) r (#[.bool false, .int .i64 0, .int .i64 0, .int .i64 0, .bool false]) 39 ∧ Below w.heap.size w ((wr.setCell ⟨o, 1, none⟩ (.int .i64 (k : Nat))).setCell ⟨o, 2, none⟩ (.int .i64 p))) := by
              have hor : ¬ o = r := by have h1 := HO.out; have h2 := HR.out; omega
              have how : w.heap.size ≤ o := by have h1 := HO.out; omega
              obtain ⟨h1, h2⟩ := HE.out k a HT.out rfl
              refine ⟨⟨fun _ => ⟨k, a, by omega, HT.out, rfl⟩, fun _ => rfl⟩, ⟨k, p, (HB.out.set 1 _).set 2 _, ?_, ?_⟩, ((HL.out.2.2.1.other hor _).other hor _), (HL.out.2.2.2.setCell how _).setCell how _⟩
              · rw [if_pos rfl, h1]
              · rw [if_pos rfl, h2, HP.out]
            go_region
            go_wp2_with fail
            go_roundw
            case rel => exact ⟨k + 1, true, by omega, rfl, HW2.out.1, HW2.out.2.1, HW2.out.2.2.1, HW2.out.2.2.2.drew⟩
            case measure => simp [intOf]; omega
          · have hpe : (binOp .eql 40 (.pointer (some ⟨a, 0, none⟩)) (.pointer (some ⟨c, 0, none⟩))).run Try.prog wr = .ok (.bool false) wr := by
              have h := eql_ptr HMS.out (a := a) (b := c) KA.out.1 KC.out
              rw [decide_eq_false hac] at h
              exact h
            have HAC := Lib.hid hac
            clear hac
            go_wp2_with fail
            go_roundw
            case rel => exact ⟨k + 1, f, by omega, rfl, HS.out (by rintro ⟨d, h1, h2⟩; cases h1; cases h2; exact HAC.out rfl)⟩
            case measure => simp [intOf]; omega
    · obtain ⟨E, P, hb, hE, hP⟩ := HL.out.2.1
      have o0 : wr.cell? ⟨o, 0, none⟩ = some (.bool true) := hb.cell rfl
      have o1 : wr.cell? ⟨o, 1, none⟩ = some (.int .i64 E) := hb.cell rfl
      have o2 : wr.cell? ⟨o, 2, none⟩ = some (.int .i64 P) := hb.cell rfl
      have o3 : wr.cell? ⟨o, 3, none⟩ = some (.int .i64 0) := hb.cell rfl
      have o4 : wr.cell? ⟨o, 4, none⟩ = some (.bool false) := hb.cell rfl
      have r0 : wr.cell? ⟨r, 0, none⟩ = some (.bool false) := HL.out.2.2.1.cell rfl
      have r1 : wr.cell? ⟨r, 1, none⟩ = some (.int .i64 0) := HL.out.2.2.1.cell rfl
      have r2 : wr.cell? ⟨r, 2, none⟩ = some (.int .i64 0) := HL.out.2.2.1.cell rfl
      have r3 : wr.cell? ⟨r, 3, none⟩ = some (.int .i64 0) := HL.out.2.2.1.cell rfl
      have r4 : wr.cell? ⟨r, 4, none⟩ = some (.bool false) := HL.out.2.2.1.cell rfl
      have fr := HL.out.2.2.1.free
      have HEP : Hid (E = (if f then e1 else -1) ∧ P = (if f then p1 else 0)) := ⟨hE, hP⟩
      have HW3 : Hid (Blk (((((wr.setCell ⟨r, 0, none⟩ (.bool true)).setCell ⟨r, 1, none⟩ (.int .i64 E)).setCell ⟨r, 2, none⟩ (.int .i64 P)).setCell ⟨r, 3, none⟩ (.int .i64 0)).setCell ⟨r, 4, none⟩ (.bool false)) r (said5 E P 0 false) 39 ∧ Below w.heap.size w (((((wr.setCell ⟨r, 0, none⟩ (.bool true)).setCell ⟨r, 1, none⟩ (.int .i64 E)).setCell ⟨r, 2, none⟩ (.int .i64 P)).setCell ⟨r, 3, none⟩ (.int .i64 0)).setCell ⟨r, 4, none⟩ (.bool false))) := by
        have how : w.heap.size ≤ r := by have h2 := HR.out; omega
        exact ⟨((((HL.out.2.2.1.set 0 _).set 1 _).set 2 _).set 3 _).set 4 _, ((((HL.out.2.2.2.setCell how _).setCell how _).setCell how _).setCell how _).setCell how _⟩
      clear hb hE hP
      go_wp2_with fail
      generalize (((((wr.setCell ⟨r, 0, none⟩ (.bool true)).setCell ⟨r, 1, none⟩ (.int .i64 E)).setCell ⟨r, 2, none⟩ (.int .i64 P)).setCell ⟨r, 3, none⟩ (.int .i64 0)).setCell ⟨r, 4, none⟩ (.bool false)) = w9 at HW3 ⊢
      have q0 : w9.cell? ⟨r, 0, none⟩ = some (.bool true) := HW3.out.1.cell rfl
      have q1 : w9.cell? ⟨r, 1, none⟩ = some (.int .i64 E) := HW3.out.1.cell rfl
      have q2 : w9.cell? ⟨r, 2, none⟩ = some (.int .i64 P) := HW3.out.1.cell rfl
      have q3 : w9.cell? ⟨r, 3, none⟩ = some (.int .i64 0) := HW3.out.1.cell rfl
      have q4 : w9.cell? ⟨r, 4, none⟩ = some (.bool false) := HW3.out.1.cell rfl
      refine bodyPost_ret (v := .agg (said5 E P 0 false)) (by simp [results, Try.results17, go_sem, q0, q1, q2, q3, q4, said5]) rfl ⟨⟨f, ?_, ?_⟩, HW3.out.2⟩
      · rw [HL.out.1]
        constructor
        · rintro ⟨i, a, _, h2, h3⟩; exact ⟨i, a, h2, h3⟩
        · rintro ⟨i, a, h2, h3⟩
          have h4 := (List.getElem?_eq_some_iff.1 h2).1
          exact ⟨i, a, by have := HN.out; omega, h2, h3⟩
      · rw [HEP.out.1, HEP.out.2]
        cases f <;> rfl
set_option maxRecDepth 100000 in
set_option maxHeartbeats 8000000 in
theorem gone_any {w : World} {B b q n : Nat} {v : Value} {ea : List (Option Nat)} (hr : w.ownsRow B 40 1 v ea.length (FH.row ea)) (hb : Blk w b #[.pointer (some ⟨q, 0, none⟩), v] 49) (hn : n < ea.length) (hl : ea.length ≤ 900) :
    Calls Try.prog 20 #[.pointer (some ⟨b, 0, none⟩), .int .i64 (n : Nat)] w fun e w' => e = .returned (.tuple #[]) ∧ w'.ownsRow B 40 1 v ea.length (FH.row (ea.set n none)) ∧ Only (rowB v) w w' := by
  obtain ⟨g, cp, hv⟩ := own_some hr (by omega)
  subst hv
  have b1 : w.cell? ⟨b, 1, none⟩ = some (.slice (some ⟨g, 0, none⟩) ea.length cp) := hb.cell rfl
  obtain ⟨u, hu⟩ : ∃ u, ea[n]? = some u := ⟨_, List.getElem?_eq_getElem hn⟩
  obtain ⟨c1, f1⟩ := own_cell (i := n) (u := optp u) hr (by rw [row, List.getElem?_map, hu]; rfl)
  have H1 : Hid ((w.setCell ⟨g, n, none⟩ (.pointer none)).ownsRow B 40 1 (.slice (some ⟨g, 0, none⟩) ea.length cp) ea.length (FH.row (ea.set n none)) ∧ Only (rowB (.slice (some ⟨g, 0, none⟩) ea.length cp)) w (w.setCell ⟨g, n, none⟩ (.pointer none))) := by
    refine ⟨?_, (Only.refl _ _).setCell (Or.inl (by simp [rowB, Value.ownBlock])) _⟩
    have h := own_set (i := n) (u := .pointer none) hr hn
    rw [row, List.map_set]
    exact h
  obtain ⟨l, hl2⟩ : ∃ l, l = ea.length := ⟨_, rfl⟩
  rw [← hl2] at hn hl b1 H1 ⊢
  have hn1 : n < l := hn
  have hd1 : decide (n < l) = true := decide_eq_true hn
  clear hr hb hu hl2
  go_enter Try.func20, Try.ntmps20
  go_wp2_with fail
  go_end0
  exact ⟨rfl, H1.out⟩
end FH
end Go.Proofs.Ytalphojbkeleiaa
