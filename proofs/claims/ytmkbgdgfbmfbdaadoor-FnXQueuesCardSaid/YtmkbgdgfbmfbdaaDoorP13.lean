/- dxPuts. -/
import Derived.Test.YtmkbgdgfbmfbdaaDoorP12
namespace Go.Proofs.YtmkbgdgfbmfbdaaDoor
open Go.RowKit

theorem infoT : (Tryd.prog.info? 35).map (fun i => (i.zero, i.size, i.bytes)) = some (some (.agg #[.int .i64 0, .int .i64 0, .slice none 0 0]), 3, 40) := by kernel_rfl
def chunks (m : Nat) : Nat → List Item → List (List Item)
  | 0, _ => []
  | f + 1, l => if l = [] then [] else l.take m :: chunks m f (l.drop m)
theorem chunks_fuel {m : Nat} (hm : 1 ≤ m) : ∀ (f : Nat) (l : List Item), l.length ≤ f → chunks m f l = chunks m l.length l := by
  intro f
  induction f using Nat.strongRecOn with
  | _ f ih =>
    intro l hl
    cases l with
    | nil => cases f <;> simp [chunks]
    | cons x l =>
      cases f with
      | zero => simp at hl
      | succ f =>
        simp only [List.length_cons, chunks]
        simp at hl
        have hd : ((x :: l).drop m).length ≤ l.length := by simp; omega
        rw [ih f (by omega) _ (by omega), ← ih l.length (by omega) _ hd]
theorem chunks_cons {m : Nat} (hm : 1 ≤ m) {l : List Item} (hl : l ≠ []) : chunks m l.length l = l.take m :: chunks m (l.drop m).length (l.drop m) := by
  cases l with
  | nil => exact absurd rfl hl
  | cons x l =>
    simp only [List.length_cons, chunks]
    rw [chunks_fuel hm l.length ((x :: l).drop m) (by simp; omega)]
    simp
def lenOf : Value → Nat
  | .slice _ n _ => n
  | _ => 0
def putRec (so : Option Addr) (n c : Nat) : List Value := [.int .i64 1, .int .i64 0, .slice so n c]
set_option maxRecDepth 100000 in
set_option maxHeartbeats 2000000 in
theorem puts_any {w : World} {sl : Value} {its : List Item} {most : Nat} (hs : Pairs w sl its) (hl : its.length ≤ 100) (hm : 1 ≤ most ∧ most ≤ 100) :
    Calls Tryd.prog 11 #[sl, .int .i64 most] w fun e w' => ∃ sv, e = .returned sv ∧ Steps w' sv ((chunks most its.length its).map Step.put) ∧ Below w.heap.size w w' := by
  obtain ⟨i0, hi, hz0, hz1, hz2⟩ := info_at infoT
  have HI : Hid (Tryd.prog.info? 35 = some i0 ∧ i0.zero = some (.agg #[.int .i64 0, .int .i64 0, .slice none 0 0]) ∧ i0.size = 3 ∧ i0.bytes = 40) := ⟨hi, hz0, hz1, hz2⟩
  obtain ⟨so, cp, rfl⟩ := hs.shape
  rw [List.length_map]
  obtain ⟨n, hn⟩ : ∃ n, n = its.length := ⟨_, rfl⟩
  have HN := Lib.hid hn
  have HP := Lib.hid hs
  rw [List.length_map, ← hn] at HP
  rw [← hn]
  have hn2 : n ≤ 100 := by omega
  obtain ⟨hm1, hm2⟩ := hm
  clear hi hz0 hz1 hz2 hs hn hl
  go_enter Tryd.func11, Tryd.ntmps11
  go_wp2_with fail
  go_loopw [0, 5] (fun lv sv wr => ∃ (rest : List Item) (cs : List (List Item)) (rs : List (List Value)), Hid (Pairs w lv rest ∧ rest.length ≤ n ∧ chunks most n its = cs ++ chunks most rest.length rest ∧ wr.ownsRow w.heap.size 35 3 sv rs.length rs.flatten ∧ rs.length = cs.length ∧ rs.length + rest.length ≤ n ∧ (∀ r ∈ rs, r.length = 3) ∧ (∀ (i : Nat) (r : List Value) (c : List Item), rs[i]? = some r → cs[i]? = some c → SMem w r (.put c)) ∧ Below w.heap.size w wr)) (fun lv _ _ => lenOf lv)
  case atStart =>
    refine ⟨its, [], [], HP.out, ?_, ?_, World.ownsRow_nil _ _ _ _, rfl, ?_, by simp, by simp, Below.refl _ _⟩
    · rw [HN.out]; exact Nat.le_refl _
    · rw [HN.out]; rfl
    · have := HN.out; simp; omega
  case round =>
    obtain ⟨rest, cs, rs, hR⟩ := hrel
    have HR : Hid (Pairs w u0 rest ∧ rest.length ≤ n ∧ chunks most n its = cs ++ chunks most rest.length rest ∧ wr.ownsRow w.heap.size 35 3 u5 rs.length rs.flatten ∧ rs.length = cs.length ∧ rs.length + rest.length ≤ n ∧ (∀ r ∈ rs, r.length = 3) ∧ (∀ (i : Nat) (r : List Value) (c : List Item), rs[i]? = some r → cs[i]? = some c → SMem w r (.put c)) ∧ Below w.heap.size w wr) := hR
    clear hR
    obtain ⟨t5, d5, rfl⟩ := own_shape HR.out.2.2.2.1
    cases rest with
    | nil =>
      obtain ⟨s0, c0, rfl⟩ := HR.out.1.shape
      simp only [List.map_nil, List.length_nil]
      go_wp2_with fail
      go_ret
      have hch := HR.out.2.2.1
      simp only [List.length_nil, chunks, List.append_nil] at hch
      refine ⟨_, rfl, ⟨rs, Recs.of_own (by decide) HR.out.2.2.2.2.2.2.1 HR.out.2.2.2.1, ?_, fun i r s h1 h2 => ?_⟩, HR.out.2.2.2.2.2.2.2.2⟩
      · rw [List.length_map, hch]; exact HR.out.2.2.2.2.1
      · rw [hch, List.getElem?_map] at h2
        cases hc : cs[i]? with
        | none => rw [hc] at h2; cases h2
        | some c =>
          rw [hc] at h2
          simp at h2
          subst h2
          exact (HR.out.2.2.2.2.2.2.2.1 i r c h1 hc).same HR.out.2.2.2.2.2.2.2.2
    | cons x rest =>
      obtain ⟨b0, o0, c0, hsl, hc0, hcell⟩ := HR.out.1.resolve_left (by simp)
      subst hsl
      obtain ⟨l, hl⟩ : ∃ l, l = ((x :: rest).map rec2).length := ⟨_, rfl⟩
      rw [← hl] at hc0 ⊢
      have HL := Lib.hid hl
      have hl0 : (0 : Int) < (l : Int) := by rw [hl]; simp
      have hln : l ≤ n := by rw [hl, List.length_map]; exact HR.out.2.1
      clear hl
      have HCell := Lib.hid hcell
      clear hcell
      obtain ⟨k, hk⟩ : ∃ k, k = if l < most then l else most := ⟨_, rfl⟩
      have hk1 : (if (l : Int) < (most : Int) then (l : Int) else (most : Int)) = (k : Int) := by rw [hk]; split <;> split <;> omega
      have hk2 : (if l < most then (l : Int) else (most : Int)) = (k : Int) := by rw [hk]; split <;> rfl
      have hk3 : k ≤ l ∧ 1 ≤ k ∧ (k < l → k = most) ∧ k ≤ most := by rw [hk]; split <;> omega
      have HK := Lib.hid hk3
      have z0 : (0 : Int) ≤ (k : Int) := by omega
      have z1 : (k : Int) ≤ (l : Int) := by omega
      have z2 : (k : Int) ≤ (c0 : Int) := by omega
      have y1 : k ≤ l := by omega
      have y2 : k ≤ c0 := by omega
      clear hk hk3
      go_wp2_with (at_builtin; go_must (refine wpList_append_own_at _ rfl (.tmp 14) (.tmp 19) 29 rfl w.heap.size 35 i0 (.agg #[.int .i64 0, .int .i64 0, .slice none 0 0]) 3 40 Tryd.underlying29 HI.out.1 HI.out.2.1 HI.out.2.2.1 HI.out.2.2.2 rfl (by decide) (.slice t5 rs.length d5) rs.length _ rfl (HR.out.2.2.2.1.alloc _) ⟨wr.heap.size, 0, none⟩ 1 1 (putRec (some ⟨b0, o0, none⟩) k c0) rfl rfl ?c1 ?c2 ?c3 ?c4 ?c5 ?_))
      case c1 => exact two_cells
      case c2 => intro u hu; simp [putRec] at hu; rcases hu with rfl | rfl | rfl <;> rfl
      case c3 => unfold maxLen; have := HR.out.2.2.2.2.2.1; omega
      case c4 => have := HR.out.2.2.2.2.2.1; omega
      case c5 => have := HR.out.2.2.2.2.2.2.2.2.size; simp; omega
      intro v1 w1 hown hgrow _ _
      have HE : Hid (Pairs w (.slice (if c0 = k then some ⟨b0, o0, none⟩ else some ⟨b0, o0 + k * 2, none⟩) (l - k) (c0 - k)) ((x :: rest).drop k) ∧ ((x :: rest).drop k).length ≤ n ∧ chunks most n its = (cs ++ [(x :: rest).take k]) ++ chunks most ((x :: rest).drop k).length ((x :: rest).drop k) ∧ w1.ownsRow w.heap.size 35 3 v1 (rs ++ [putRec (some ⟨b0, o0, none⟩) k c0]).length (rs ++ [putRec (some ⟨b0, o0, none⟩) k c0]).flatten ∧ (rs ++ [putRec (some ⟨b0, o0, none⟩) k c0]).length = (cs ++ [(x :: rest).take k]).length ∧ (rs ++ [putRec (some ⟨b0, o0, none⟩) k c0]).length + ((x :: rest).drop k).length ≤ n ∧ (∀ r ∈ rs ++ [putRec (some ⟨b0, o0, none⟩) k c0], r.length = 3) ∧ (∀ (i : Nat) (r : List Value) (c : List Item), (rs ++ [putRec (some ⟨b0, o0, none⟩) k c0])[i]? = some r → (cs ++ [(x :: rest).take k])[i]? = some c → SMem w r (.put c)) ∧ Below w.heap.size w w1) := by
        have hll := HL.out
        have hk := HK.out
        simp only [List.length_map, List.length_cons] at hll
        have hbel : Below w.heap.size wr w1 := own_grown HR.out.2.2.2.1 hgrow HR.out.2.2.2.2.2.2.2.2.size
        have hrs := HR.out.2.2.2.2.2.1
        have hps : Pairs w (.slice (some ⟨b0, o0, none⟩) k c0) ((x :: rest).take k) := by
          refine Or.inr ⟨b0, o0, c0, ?_, ?_, fun i r hi j v hj => ?_⟩
          · rw [List.length_map, List.length_take, List.length_cons, ← hll, Nat.min_eq_left hk.1]
          · rw [List.length_map, List.length_take]; omega
          · rw [List.map_take, List.getElem?_take] at hi
            split at hi
            · exact HCell.out i r hi j v hj
            · cases hi
        have hdl : ((x :: rest).drop k).length = l - k := by rw [List.length_drop, List.length_cons, ← hll]
        have hpd : Pairs w (.slice (if c0 = k then some ⟨b0, o0, none⟩ else some ⟨b0, o0 + k * 2, none⟩) (l - k) (c0 - k)) ((x :: rest).drop k) := by
          by_cases hck : c0 = k
          · rw [if_pos hck]
            have hnil : (x :: rest).drop k = [] := List.length_eq_zero_iff.1 (by rw [hdl]; omega)
            rw [hnil]
            exact Or.inr ⟨b0, o0, c0 - k, by rw [show l - k = 0 by omega]; rfl, Nat.zero_le _, fun i r hi => by simp at hi⟩
          · rw [if_neg hck]
            refine Or.inr ⟨b0, o0 + k * 2, c0 - k, ?_, ?_, fun i r hi j v hj => ?_⟩
            · rw [List.length_map, hdl]
            · rw [List.length_map, hdl]; omega
            · rw [List.map_drop, List.getElem?_drop] at hi
              have h := HCell.out (k + i) r hi j v hj
              rw [show o0 + k * 2 + i * 2 + j = o0 + (k + i) * 2 + j by omega]
              exact h
        have hne : (x :: rest) ≠ [] := by simp
        have hch : chunks most (x :: rest).length (x :: rest) = (x :: rest).take k :: chunks most ((x :: rest).drop k).length ((x :: rest).drop k) := by
          rw [chunks_cons hm1 hne]
          by_cases hkl : k < l
          · rw [hk.2.2.1 hkl]
          · have hkm : l ≤ most := by have := hk.2.2.2; omega
            have h1 : (x :: rest).take most = (x :: rest).take k := by rw [List.take_of_length_le (by rw [List.length_cons]; omega), List.take_of_length_le (by rw [List.length_cons]; omega)]
            have h2 : (x :: rest).drop most = (x :: rest).drop k := by rw [List.drop_of_length_le (by rw [List.length_cons]; omega), List.drop_of_length_le (by rw [List.length_cons]; omega)]
            rw [h1, h2]
        refine ⟨hpd, ?_, ?_, ?_, ?_, ?_, ?_, ?_, HR.out.2.2.2.2.2.2.2.2.trans hbel⟩
        · rw [hdl]; omega
        · rw [HR.out.2.2.1, hch]; simp
        · rw [List.length_append, List.flatten_append]
          simpa using hown
        · simp [HR.out.2.2.2.2.1]
        · rw [List.length_append, hdl]
          simp only [List.length_cons, List.length_nil] at hrs ⊢
          omega
        · intro r hr
          rcases List.mem_append.1 hr with h | h
          · exact HR.out.2.2.2.2.2.2.1 r h
          · simp at h; rw [h]; rfl
        · intro i r c h1 h2
          by_cases hi : i < rs.length
          · rw [List.getElem?_append_left hi] at h1
            rw [List.getElem?_append_left (by rw [← HR.out.2.2.2.2.1]; exact hi)] at h2
            exact HR.out.2.2.2.2.2.2.2.1 i r c h1 h2
          · have hlt := (List.getElem?_eq_some_iff.1 h1).1
            simp at hlt
            have e : i = rs.length := by omega
            rw [e] at h1 h2
            rw [List.getElem?_append_right (Nat.le_refl _)] at h1
            rw [List.getElem?_append_right (by rw [← HR.out.2.2.2.2.1]; exact Nat.le_refl _), HR.out.2.2.2.2.1] at h2
            simp at h1 h2
            subst h1 h2
            exact ⟨0, _, _, _, rfl, hps⟩
      clear hown hgrow
      go_wp2_with fail
      go_roundw
      case rel => exact ⟨_, _, _, HE.out⟩
      case measure =>
        have := HK.out
        simp [lenOf]
        omega
end Go.Proofs.YtmkbgdgfbmfbdaaDoor
