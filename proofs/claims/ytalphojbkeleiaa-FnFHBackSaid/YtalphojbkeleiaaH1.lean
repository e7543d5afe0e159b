/- Entries of the heap in memory; newEntry, mergeLists. -/
import Derived.Test.YtalphojbkeleiaaHF
import Derived.Test.YtalphojbkeleiaaHR
import Derived.Test.YtalphojbkeleiaaRecKit
import Derived.Test.YtalphojbkeleiaaOwnKit
import Derived.Test.YtalphojbkeleiaaChecked
import Derived.WalkLawsBesides
import Derived.Deep.RegionLaw
namespace Go.Proofs.Ytalphojbkeleiaa
namespace FH
open Go.RowKit

def ptr (a : Nat) : Value := .pointer (some ⟨a, 0, none⟩)
def optp : Option Nat → Value
  | none => .pointer none
  | some a => ptr a
def blk (d : Nd) : Array Value := #[.int .i64 (d.deg : Nat), .bool d.mkd, ptr d.nx, ptr d.pv, optp d.ch, optp d.pa, .float .f64 (fb d.pr)]
/-- All entries that were ever made, as memory has them. -/
structure Ms (w : World) (A : List Nat) (m : Mem) : Prop where
  blk : ∀ a ∈ A, Blk w a (blk (m a)) 67
  nx : ∀ a ∈ A, (m a).nx ∈ A
  pv : ∀ a ∈ A, (m a).pv ∈ A
  ch : ∀ a ∈ A, ∀ c, (m a).ch = some c → c ∈ A
  pa : ∀ a ∈ A, ∀ c, (m a).pa = some c → c ∈ A
  pr : ∀ a ∈ A, Pri (m a).pr
section
variable {w w' : World} {A : List Nat} {m : Mem} {a : Nat}
theorem Ms.set (h : Ms w A m) (ha : a ∈ A) {i : Nat} {v : Value} {d : Nd} (hd : (FH.blk (m a)).setIfInBounds i v = FH.blk d) (h1 : d.nx ∈ A) (h2 : d.pv ∈ A) (h3 : ∀ c, d.ch = some c → c ∈ A) (h4 : ∀ c, d.pa = some c → c ∈ A) (h5 : Pri d.pr) : Ms (w.setCell ⟨a, i, none⟩ v) A (st m a d) := by
  have key : ∀ b, b = a ∨ b ≠ a := fun b => by by_cases e : b = a <;> simp [e]
  refine ⟨fun b hb => ?_, fun b hb => ?_, fun b hb => ?_, fun b hb => ?_, fun b hb => ?_, fun b hb => ?_⟩
  · rcases key b with rfl | e
    · rw [st_same, ← hd]; exact (h.blk b hb).set i v
    · rw [st_other _ _ e]; exact (h.blk b hb).other (fun e' => e e'.symm) v
  all_goals rcases key b with rfl | e
  · rw [st_same]; exact h1
  · rw [st_other _ _ e]; exact h.nx b hb
  · rw [st_same]; exact h2
  · rw [st_other _ _ e]; exact h.pv b hb
  · rw [st_same]; exact h3
  · rw [st_other _ _ e]; exact h.ch b hb
  · rw [st_same]; exact h4
  · rw [st_other _ _ e]; exact h.pa b hb
  · rw [st_same]; exact h5
  · rw [st_other _ _ e]; exact h.pr b hb
theorem Ms.sDeg (h : Ms w A m) (ha : a ∈ A) (v : Nat) : Ms (w.setCell ⟨a, 0, none⟩ (.int .i64 (v : Nat))) A (sDeg m a v) := h.set ha (by simp [FH.blk]) (h.nx a ha) (h.pv a ha) (h.ch a ha) (h.pa a ha) (h.pr a ha)
theorem Ms.sMkd (h : Ms w A m) (ha : a ∈ A) (v : Bool) : Ms (w.setCell ⟨a, 1, none⟩ (.bool v)) A (sMkd m a v) := h.set ha (by simp [FH.blk]) (h.nx a ha) (h.pv a ha) (h.ch a ha) (h.pa a ha) (h.pr a ha)
theorem Ms.sNx (h : Ms w A m) (ha : a ∈ A) {v : Nat} (hv : v ∈ A) : Ms (w.setCell ⟨a, 2, none⟩ (ptr v)) A (sNx m a v) := h.set ha (by simp [FH.blk]) hv (h.pv a ha) (h.ch a ha) (h.pa a ha) (h.pr a ha)
theorem Ms.sPv (h : Ms w A m) (ha : a ∈ A) {v : Nat} (hv : v ∈ A) : Ms (w.setCell ⟨a, 3, none⟩ (ptr v)) A (sPv m a v) := h.set ha (by simp [FH.blk]) (h.nx a ha) hv (h.ch a ha) (h.pa a ha) (h.pr a ha)
theorem Ms.sCh (h : Ms w A m) (ha : a ∈ A) {v : Option Nat} (hv : ∀ c, v = some c → c ∈ A) : Ms (w.setCell ⟨a, 4, none⟩ (optp v)) A (sCh m a v) := h.set ha (by simp [FH.blk]) (h.nx a ha) (h.pv a ha) hv (h.pa a ha) (h.pr a ha)
theorem Ms.sPa (h : Ms w A m) (ha : a ∈ A) {v : Option Nat} (hv : ∀ c, v = some c → c ∈ A) : Ms (w.setCell ⟨a, 5, none⟩ (optp v)) A (sPa m a v) := h.set ha (by simp [FH.blk]) (h.nx a ha) (h.pv a ha) (h.ch a ha) hv (h.pr a ha)
theorem Ms.sPr (h : Ms w A m) (ha : a ∈ A) {v : Int} (hv : Pri v) : Ms (w.setCell ⟨a, 6, none⟩ (.float .f64 (fb v))) A (sPr m a v) := h.set ha (by simp [FH.blk]) (h.nx a ha) (h.pv a ha) (h.ch a ha) (h.pa a ha) hv
theorem Ms.c0 (h : Ms w A m) (ha : a ∈ A) : w.cell? ⟨a, 0, none⟩ = some (.int .i64 ((m a).deg : Nat)) := (h.blk a ha).cell rfl
theorem Ms.c1 (h : Ms w A m) (ha : a ∈ A) : w.cell? ⟨a, 1, none⟩ = some (.bool (m a).mkd) := (h.blk a ha).cell rfl
theorem Ms.c2 (h : Ms w A m) (ha : a ∈ A) : w.cell? ⟨a, 2, none⟩ = some (.pointer (some ⟨(m a).nx, 0, none⟩)) := (h.blk a ha).cell rfl
theorem Ms.c3 (h : Ms w A m) (ha : a ∈ A) : w.cell? ⟨a, 3, none⟩ = some (.pointer (some ⟨(m a).pv, 0, none⟩)) := (h.blk a ha).cell rfl
theorem Ms.c4 (h : Ms w A m) (ha : a ∈ A) : w.cell? ⟨a, 4, none⟩ = some (optp (m a).ch) := (h.blk a ha).cell rfl
theorem Ms.c5 (h : Ms w A m) (ha : a ∈ A) : w.cell? ⟨a, 5, none⟩ = some (optp (m a).pa) := (h.blk a ha).cell rfl
theorem Ms.c6 (h : Ms w A m) (ha : a ∈ A) : w.cell? ⟨a, 6, none⟩ = some (.float .f64 (fb (m a).pr)) := (h.blk a ha).cell rfl
theorem Ms.free (h : Ms w A m) (ha : a ∈ A) (i : Nat) : w.frozen? ⟨a, i, none⟩ = false := (h.blk a ha).free i
theorem Ms.lt (h : Ms w A m) (ha : a ∈ A) : a < w.heap.size := (h.blk a ha).lt
theorem Ms.only {M : List Nat} (h : Ms w A m) (ho : Only M w w') (hM : ∀ a ∈ A, a ∉ M) : Ms w' A m := { h with blk := fun a ha => (h.blk a ha).only ho (hM a ha) }
theorem Ms.other {p : Addr} (h : Ms w A m) (hp : p.block ∉ A) (v : Value) : Ms (w.setCell p v) A m := { h with blk := fun a ha => (h.blk a ha).other (fun e => hp (e ▸ ha)) v }
theorem Ms.alloc (h : Ms w A m) (o : Obj) : Ms (w.alloc o) A m := { h with blk := fun a ha => (h.blk a ha).alloc o }
theorem Ms.drew (h : Ms w A m) : Ms w.drew A m := ⟨h.blk, h.nx, h.pv, h.ch, h.pa, h.pr⟩
theorem Ms.add (h : Ms w A m) {d : Nd} (hd : Blk w' a (FH.blk d) 67) (ha : a = w.heap.size) (hb : Below w.heap.size w w') (h1 : d.nx ∈ a :: A) (h2 : d.pv ∈ a :: A) (h3 : d.ch = none) (h4 : d.pa = none) (h5 : Pri d.pr) : Ms w' (a :: A) (st m a d) := by
  have hA : ∀ b ∈ A, b ≠ a := fun b hb e => by have := h.lt hb; omega
  refine ⟨fun b hb' => ?_, fun b hb' => ?_, fun b hb' => ?_, fun b hb' => ?_, fun b hb' => ?_, fun b hb' => ?_⟩
  all_goals
    simp only [List.mem_cons] at hb'
    rcases hb' with rfl | hb'
    · rw [st_same]; first | assumption | (intro c hc; rw [h3] at hc; cases hc) | (intro c hc; rw [h4] at hc; cases hc)
    · rw [st_other _ _ (hA b hb')]
      first | exact (h.blk b hb').below hb (h.lt hb') | exact List.mem_cons_of_mem _ (h.nx b hb') | exact List.mem_cons_of_mem _ (h.pv b hb') | exact fun c hc => List.mem_cons_of_mem _ (h.ch b hb' c hc) | exact fun c hc => List.mem_cons_of_mem _ (h.pa b hb' c hc) | exact h.pr b hb'
end
set_option maxRecDepth 100000 in
set_option maxHeartbeats 4000000 in
theorem newEntry_any (p : Int) (w : World) :
    Calls Try.prog 24 #[.float .f64 (fb p)] w fun e w' => e = .returned (ptr w.heap.size) ∧ Blk w' w.heap.size (FH.blk (nd0 w.heap.size p)) 67 ∧ Below w.heap.size w w' ∧ w'.heap.size = w.heap.size + 1 := by
  obtain ⟨a, ha⟩ : ∃ a, a = w.heap.size := ⟨_, rfl⟩
  have HA := Lib.hid ha
  have hsf : ∀ (w : World) (a : Addr) (k : FloatKind) (b : Nat) (m : Mode), (store a (.float k b) m).run Try.prog w = stored Try.prog w a (.float k b) m := fun w a k b m => run_store _ w a _ m rfl
  clear ha
  go_enter Try.func24, Try.ntmps24
  go_wp2_with fail
  go_ret
  exact ⟨rfl, Blk.new _ _ _, (Below.refl _ _).alloc (Nat.le_refl _) _, by simp⟩

theorem oset {A : List Nat} {w w' : World} (h : Only A w w') {p : Addr} (hp : p.block ∈ A) (v : Value) : Only A w (w'.setCell p v) := h.setCell (Or.inl hp) v
set_option maxRecDepth 100000 in
set_option maxHeartbeats 4000000 in
theorem merge_any {w : World} {A : List Nat} {m : Mem} (h : Ms w A m) {a b : Option Nat} (ha : ∀ x, a = some x → x ∈ A) (hb : ∀ x, b = some x → x ∈ A) (hab : ∀ x y, a = some x → b = some y → x ≠ y ∧ (m x).nx ≠ (m y).nx) :
    Calls Try.prog 25 #[optp a, optp b] w fun e w' => e = .returned (optp (mgOH m a b)) ∧ Ms w' A (mgO m a b) ∧ Only A w w' := by
  have H0 := Lib.hid h
  have HA := Lib.hid ha
  have HB := Lib.hid hb
  clear h ha hb
  cases a with
  | none =>
    cases b with
    | none =>
      rw [show optp none = .pointer none from rfl]
      go_enter Try.func25, Try.ntmps25
      go_wp2_with fail
      go_ret
      exact ⟨rfl, H0.out, Only.refl _ _⟩
    | some b =>
      rw [show optp none = .pointer none from rfl, show optp (some b) = .pointer (some ⟨b, 0, none⟩) from rfl]
      go_enter Try.func25, Try.ntmps25
      go_wp2_with fail
      go_ret
      exact ⟨rfl, H0.out, Only.refl _ _⟩
  | some a =>
    cases b with
    | none =>
      rw [show optp none = .pointer none from rfl, show optp (some a) = .pointer (some ⟨a, 0, none⟩) from rfl]
      go_enter Try.func25, Try.ntmps25
      go_wp2_with fail
      go_ret
      exact ⟨rfl, H0.out, Only.refl _ _⟩
    | some b =>
      have ka : a ∈ A := HA.out a rfl
      have kb : b ∈ A := HB.out b rfl
      have KA := Lib.hid ka
      have KB := Lib.hid kb
      have KN := Lib.hid (H0.out.nx b kb)
      have KM := Lib.hid (H0.out.nx a ka)
      clear ka kb
      obtain ⟨x, hx⟩ : ∃ x, x = (m a).nx := ⟨_, rfl⟩
      obtain ⟨y, hy⟩ : ∃ y, y = (m b).nx := ⟨_, rfl⟩
      have HX := Lib.hid hx
      have HY := Lib.hid hy
      have HL := Lib.hid (lss_fb (H0.out.pr a KA.out) (H0.out.pr b KB.out))
      obtain ⟨hne, hxy⟩ := hab a b rfl rfl
      have hne' : b ≠ a := fun e => hne e.symm
      rw [← hx, ← hy] at hxy
      have hyx : y ≠ x := fun e => hxy e.symm
      have ca := H0.out.c2 KA.out
      have cb := H0.out.c2 KB.out
      have cap := H0.out.c6 KA.out
      have cbp := H0.out.c6 KB.out
      rw [← hx] at ca
      rw [← hy] at cb
      rw [← hx] at KM
      rw [← hy] at KN
      have cx := H0.out.c3 KM.out
      have cy := H0.out.c3 KN.out
      have fa := H0.out.free KA.out
      have fb := H0.out.free KB.out
      have fx := H0.out.free KM.out
      have fy := H0.out.free KN.out
      have H4 : Hid (Ms ((((w.setCell ⟨a, 2, none⟩ (.pointer (some ⟨y, 0, none⟩))).setCell ⟨y, 3, none⟩ (.pointer (some ⟨a, 0, none⟩))).setCell ⟨b, 2, none⟩ (.pointer (some ⟨x, 0, none⟩))).setCell ⟨x, 3, none⟩ (.pointer (some ⟨b, 0, none⟩))) A (mg m a b) ∧ Only A w ((((w.setCell ⟨a, 2, none⟩ (.pointer (some ⟨y, 0, none⟩))).setCell ⟨y, 3, none⟩ (.pointer (some ⟨a, 0, none⟩))).setCell ⟨b, 2, none⟩ (.pointer (some ⟨x, 0, none⟩))).setCell ⟨x, 3, none⟩ (.pointer (some ⟨b, 0, none⟩)))) := by
        refine ⟨?_, oset (oset (oset (oset (Only.refl A w) KA.out _) KN.out _) KB.out _) KM.out _⟩
        have h := (((H0.out.sNx KA.out KN.out).sPv KN.out KA.out).sNx KB.out KM.out).sPv KM.out KB.out
        rw [hx, hy] at h ⊢
        exact h
      clear hx hy
      rw [show optp (some a) = .pointer (some ⟨a, 0, none⟩) from rfl, show optp (some b) = .pointer (some ⟨b, 0, none⟩) from rfl]
      go_enter Try.func25, Try.ntmps25
      go_wp2_with fail
      generalize ((((w.setCell ⟨a, 2, none⟩ (.pointer (some ⟨y, 0, none⟩))).setCell ⟨y, 3, none⟩ (.pointer (some ⟨a, 0, none⟩))).setCell ⟨b, 2, none⟩ (.pointer (some ⟨x, 0, none⟩))).setCell ⟨x, 3, none⟩ (.pointer (some ⟨b, 0, none⟩))) = w4 at H4 ⊢
      have da : w4.cell? ⟨a, 6, none⟩ = some (.float .f64 (FH.fb (m a).pr)) := by rw [H4.out.1.c6 KA.out, mg_pr]
      have db : w4.cell? ⟨b, 6, none⟩ = some (.float .f64 (FH.fb (m b).pr)) := by rw [H4.out.1.c6 KB.out, mg_pr]
      clear hne hne' hxy hyx ca cb cap cbp cx cy fa fb fx fy
      by_cases hlt : (m a).pr < (m b).pr
      · have hc : (FloatKind.f64.format.order (FH.fb (m a).pr) (FH.fb (m b).pr) == some Ordering.lt) = true := by rw [HL.out]; exact decide_eq_true hlt
        go_region
        go_wp2_with fail
        go_ret
        refine ⟨?_, H4.out.1.drew, H4.out.2.drew⟩
        show _ = Ending.returned (ptr (mgH m a b))
        rw [mgH, if_pos hlt]; rfl
      · have hc : (FloatKind.f64.format.order (FH.fb (m a).pr) (FH.fb (m b).pr) == some Ordering.lt) = false := by rw [HL.out]; exact decide_eq_false hlt
        go_region
        go_wp2_with fail
        go_ret
        refine ⟨?_, H4.out.1.drew, H4.out.2.drew⟩
        show _ = Ending.returned (ptr (mgH m a b))
        rw [mgH, if_neg (by omega)]; rfl
end FH
end Go.Proofs.Ytalphojbkeleiaa
