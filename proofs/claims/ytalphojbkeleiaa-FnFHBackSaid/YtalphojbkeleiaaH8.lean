/- Delete; what a step says; an entry forgotten. -/
import Derived.Test.YtalphojbkeleiaaH7
import Derived.Laws.FloatArith
namespace Go.Proofs.Ytalphojbkeleiaa
namespace FH
open Go.RowKit

/-- An entry is gone. -/
def Del (w : World) (q : Nat) (A : List Nat) (m : Mem) (L : List Nat) (n : Nat) (e : Ending) (w' : World) : Prop :=
  ∃ m' hm', e = .returned .nilIface ∧ Fh w' q A m' hm' (L.erase n) ∧ (∀ y, y ≠ n → (m' y).pr = (m y).pr) ∧ Only (q :: A) w w'
set_option maxRecDepth 100000 in
set_option maxHeartbeats 8000000 in
theorem delete_any {w : World} {q n : Nat} {A : List Nat} {m : Mem} {hm : Option Nat} {L : List Nat} (h : Fh w q A m hm L) (hn : n ∈ L) (hmk : ∀ y, (m y).mkd = false) (hpr : ∀ y ∈ L, (m y).pr ≠ bot) :
    Calls Try.prog 22 #[.pointer (some ⟨q, 0, none⟩), .pointer (some ⟨n, 0, none⟩)] w (Del w q A m L n) := by
  have hq0 := h.blk
  have HF := Lib.hid h
  have HN := Lib.hid hn
  have HMK := Lib.hid hmk
  have HPR := Lib.hid hpr
  have hd : decide (L.length = 0) = false := decide_eq_false (by have := List.length_pos_of_mem hn; omega)
  clear h hn hmk hpr
  go_enter Try.func22, Try.ntmps22
  go_wp2_with fail
  refine (isEmpty_any hq0).mono ?_
  rintro e w1 ⟨rfl, rfl⟩
  rw [hd]
  clear hd hq0
  go_wp2_with fail
  refine (low_any HF.out HN.out HMK.out).mono ?_
  rintro e w2 ⟨rfl, m2, hf2, hb2, hp2, ho2⟩
  have H2 : Hid (Fh w2 q A m2 (some n) L ∧ (m2 n).pr = bot ∧ (∀ y, y ≠ n → (m2 y).pr = (m y).pr) ∧ Only (q :: A) w1 w2) := ⟨hf2, hb2, hp2, ho2⟩
  clear hf2 hb2 hp2 ho2
  go_wp2_with fail
  refine (deq_any H2.out.1 (List.ne_nil_of_mem HN.out)).mono ?_
  rintro e w3 ⟨x, m3, hm3, rfl, hx, hle, hf3, hp3, _, ho3⟩
  have hxn : x = n := by
    by_cases e : x = n
    · exact e
    · have h1 := hle n HN.out
      rw [H2.out.2.1, H2.out.2.2.1 x e] at h1
      have h2 := pri_bot (HF.out.ms.pr x (HF.out.sub x hx))
      exact absurd (by omega) (HPR.out x hx)
  subst hxn
  have H3 : Hid (Del w1 q A m L x (.returned .nilIface) w3) := ⟨m3, hm3, rfl, hf3, fun y hy => by rw [hp3, H2.out.2.2.1 y hy], H2.out.2.2.2.trans ho3⟩
  clear hx hle hf3 hp3 ho3
  go_wp2_with fail
  go_ret
  exact H3.out
/-- The entries that came, by their numbers. -/
structure Hp (w : World) (B b q : Nat) (A : List Nat) (m : Mem) (hm : Option Nat) (L : List Nat) (v : Value) (ea : List (Option Nat)) : Prop where
  fh : Fh w q A m hm L
  hb : Blk w b #[.pointer (some ⟨q, 0, none⟩), v] 49
  row : w.ownsRow B 40 1 v ea.length (FH.row ea)
  live : L.Perm (ea.filterMap id)
  low : ∀ k ∈ b :: q :: A, B ≤ k
  sep : ∀ k, v.ownBlock = some k → k ∉ b :: q :: A
  bA : b ∉ q :: A
  len : ea.length ≤ 900
/-- What of that is needed to say something of an entry. -/
structure He (w : World) (B b q : Nat) (A : List Nat) (m : Mem) (v : Value) (ea : List (Option Nat)) : Prop where
  ms : Ms w A m
  hb : Blk w b #[.pointer (some ⟨q, 0, none⟩), v] 49
  row : w.ownsRow B 40 1 v ea.length (FH.row ea)
  sub : ∀ (i a : Nat), ea[i]? = some (some a) → a ∈ A
  len : ea.length ≤ 900
def rowB (v : Value) : List Nat := v.ownBlock.toList
def blks (b q : Nat) (A : List Nat) (v : Value) : List Nat := (b :: q :: A) ++ rowB v
theorem own_only {B : Nat} {w w' : World} {M : List Nat} {e : TypeId} {size n : Nat} {v : Value} {xs : List Value} (h : w.ownsRow B e size v n xs) (ho : Only M w w') (hk : ∀ k, v.ownBlock = some k → k ∉ M) : w'.ownsRow B e size v n xs :=
  own_keep h fun k h1 _ h3 => ho.block k h3 (hk k h1)
section
variable {w w' : World} {B b q : Nat} {A : List Nat} {m : Mem} {hm : Option Nat} {L : List Nat} {v : Value} {ea : List (Option Nat)}
theorem Hp.only {M : List Nat} (h : Hp w B b q A m hm L v ea) (ho : Only M w w') (hM : ∀ k ∈ blks b q A v, k ∉ M) : Hp w' B b q A m hm L v ea :=
  { h with fh := h.fh.only ho (fun a ha => hM a (by simp only [List.mem_cons] at ha; simp only [blks, List.mem_append, List.mem_cons]; rcases ha with h | h <;> simp [h])), hb := h.hb.only ho (hM b (by simp [blks])), row := own_only h.row ho (fun k hk => hM k (by simp [blks, rowB, hk])) }
theorem Hp.under (h : Hp w B b q A m hm L v ea) (hb : Below w.heap.size w w') : Hp w' B b q A m hm L v ea := h.only (Only.of_below (M := []) hb) (by simp)
theorem Hp.nodup (h : Hp w B b q A m hm L v ea) : (ea.filterMap id).Nodup := h.live.nodup_iff.1 h.fh.hs.1
theorem Hp.mem (h : Hp w B b q A m hm L v ea) {i a : Nat} (hi : ea[i]? = some (some a)) : a ∈ L := h.live.symm.subset (List.mem_filterMap.2 ⟨_, List.mem_of_getElem? hi, rfl⟩)
theorem Hp.he (h : Hp w B b q A m hm L v ea) : He w B b q A m v ea := ⟨h.fh.ms, h.hb, h.row, fun _ a hi => h.fh.sub a (h.mem hi), h.len⟩
theorem Hp.all_lt (h : Hp w B b q A m hm L v ea) : ∀ k ∈ blks b q A v, k < w.heap.size := fun k hk => by
  simp only [blks, List.mem_append, List.mem_cons, rowB, Option.mem_toList] at hk
  rcases hk with (rfl | hk) | hk
  · exact h.hb.lt
  · exact h.fh.all_lt k (by simpa using hk)
  · exact (ownB h.row hk).2
end
theorem at_once {ea : List (Option Nat)} (hn : (ea.filterMap id).Nodup) {i j a : Nat} (hi : ea[i]? = some (some a)) (hj : ea[j]? = some (some a)) : i = j := by
  induction ea generalizing i j with
  | nil => simp at hi
  | cons x t ih =>
    have hn' : (t.filterMap id).Nodup := by
      cases x with
      | none => simpa using hn
      | some y => simp at hn; exact hn.2
    have key : ∀ k : Nat, t[k]? = some (some a) → x ≠ some a := fun k hk e => by
      subst e
      simp at hn
      exact hn.1 (List.mem_of_getElem? hk)
    cases i with
    | zero =>
      cases j with
      | zero => rfl
      | succ j => simp at hi hj; exact absurd hi (key j hj)
    | succ i =>
      cases j with
      | zero => simp at hi hj; exact absurd hj (key i hi)
      | succ j => simp at hi hj; rw [ih hn' hi hj]
end FH
end Go.Proofs.Ytalphojbkeleiaa
