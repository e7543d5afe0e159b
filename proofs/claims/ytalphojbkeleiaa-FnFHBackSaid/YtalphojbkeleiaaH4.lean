/- DequeueMin: the roots are visited, and linked till no two of them have one degree. -/
import Derived.Test.YtalphojbkeleiaaH3
namespace Go.Proofs.Ytalphojbkeleiaa
namespace FH
open Go.RowKit

/-- The loops of a text, the outer ones first. -/
def loops : Code → List Code
  | .loop c => .loop c :: loops c
  | .seq a b => loops a ++ loops b
  | .block _ c => loops c
  | .scope c => loops c
  | .cond _ a b => loops a ++ loops b
  | _ => []
noncomputable def visit : Code := ((Try.f19.body.map loops).getD []).getD 2 .skip
set_option maxRecDepth 100000 in
set_option maxHeartbeats 16000000 in
theorem visit_any {Q0 : Exit → Act → World → Prop} {w1 w0 : World} {B q n g k cp c0 : Nat} {A L' us : List Nat} {m3 : Mem} {vs : List Value} (c1 c2 c3 c4 c5 c6 c8 c9 c10 c15 c16 c17 c18 c19 c20 c21 c22 c23 c24 c25 c26 c27 c28 c29 c30 c31 c32 c33 c34 c35 c36 c37 c38 c39 c40 c41 c42 c43 c44 c45 c46 c47 c48 c49 c50 c51 c52 c53 c54 c55 c56 c57 c58 c59 c60 c61 c62 c63 c64 c65 c66 c67 c68 c69 c70 c71 c72 c73 c74 c75 c76 c77 c78 c79 c80 c81 c82 c83 c84 c85 c86 c87 c88 c89 c90 c91 c92 c93 c94 c95 c96 c97 c98 c99 c100 c101 c102 c103 c104 c105 c106 c107 c108 c109 c110 c111 c112 c113 c114 c115 c116 c117 c118 c119 c120 c121 c122 c123 c124 c125 c126 c127 c128 c129 c130 c131 c132 c133 c134 c135 c136 c137 c138 c139 c140 c141 c142 c143 c144 c145 c146 c147 c148 c149 c150 c151 c152 c279 u7 u11 u12 u13 u14 u156 u157 u158 u159 u160 u161 u162 u163 u164 u165 u166 u167 u168 u169 u170 u171 u172 u173 u174 u175 u176 u177 u178 u179 u180 u181 u182 u183 u184 u185 u186 u187 u188 u189 u190 u191 u192 u193 u194 u195 u196 u197 u198 u199 u200 u201 u202 u203 u204 u205 u206 u207 u208 u209 u210 u211 u212 u213 u214 u215 u216 u217 u218 u219 u220 u221 u222 u223 u224 u225 u226 u227 u228 u229 u230 u231 u232 u233 u234 u235 u236 u237 u238 u239 u240 u241 u242 u243 u244 u245 u246 u247 u248 u249 u250 u251 u252 u253 u254 u255 u256 u257 u258 u259 u260 u261 u262 u263 u264 u265 u266 u267 u268 u269 u270 u271 u272 u273 u274 u275 u276 u277 u278 : Value)
    (HS : Hid (Lp w1 B q A n L' m3 g vs.toArray c0 us none m3 [] u7 w0)) (HKL : Hid (k = us.length)) (HVS : Hid (∀ (i d : Nat), us[i]? = some d → i < k → vs[i]? = some (ptr d))) (hk1000 : k ≤ 1000)
    (hexit : ∀ (y7 y11 y12 y13 y14 y155 y156 y157 y158 y159 y160 y161 y162 y163 y164 y165 y166 y167 y168 y169 y170 y171 y172 y173 y174 y175 y176 y177 y178 y179 y180 y181 y182 y183 y184 y185 y186 y187 y188 y189 y190 y191 y192 y193 y194 y195 y196 y197 y198 y199 y200 y201 y202 y203 y204 y205 y206 y207 y208 y209 y210 y211 y212 y213 y214 y215 y216 y217 y218 y219 y220 y221 y222 y223 y224 y225 y226 y227 y228 y229 y230 y231 y232 y233 y234 y235 y236 y237 y238 y239 y240 y241 y242 y243 y244 y245 y246 y247 y248 y249 y250 y251 y252 y253 y254 y255 y256 y257 y258 y259 y260 y261 y262 y263 y264 y265 y266 y267 y268 y269 y270 y271 y272 y273 y274 y275 y276 y277 y278 : Value) (w' : World) (h : Nat) (mm : Mem) (ts : List (Option Nat)), Lp w1 B q A n L' m3 g vs.toArray h [] none mm ts y7 w' → Q0 (.exit 4) ⟨(.pointer (some ⟨q, 0, none⟩) :: c1 :: c2 :: c3 :: c4 :: c5 :: c6 :: y7 :: c8 :: c9 :: c10 :: y11 :: y12 :: y13 :: y14 :: c15 :: c16 :: c17 :: c18 :: c19 :: c20 :: c21 :: c22 :: c23 :: c24 :: c25 :: c26 :: c27 :: c28 :: c29 :: c30 :: c31 :: c32 :: c33 :: c34 :: c35 :: c36 :: c37 :: c38 :: c39 :: c40 :: c41 :: c42 :: c43 :: c44 :: c45 :: c46 :: c47 :: c48 :: c49 :: c50 :: c51 :: c52 :: c53 :: c54 :: c55 :: c56 :: c57 :: c58 :: c59 :: c60 :: c61 :: c62 :: c63 :: c64 :: c65 :: c66 :: c67 :: c68 :: c69 :: c70 :: c71 :: c72 :: c73 :: c74 :: c75 :: c76 :: c77 :: c78 :: c79 :: c80 :: c81 :: c82 :: c83 :: c84 :: c85 :: c86 :: c87 :: c88 :: c89 :: c90 :: c91 :: c92 :: c93 :: c94 :: c95 :: c96 :: c97 :: c98 :: c99 :: c100 :: c101 :: c102 :: c103 :: c104 :: c105 :: c106 :: c107 :: c108 :: c109 :: c110 :: c111 :: c112 :: c113 :: c114 :: c115 :: c116 :: c117 :: c118 :: c119 :: c120 :: c121 :: c122 :: c123 :: c124 :: c125 :: c126 :: c127 :: c128 :: c129 :: c130 :: c131 :: c132 :: c133 :: c134 :: c135 :: c136 :: c137 :: c138 :: c139 :: c140 :: c141 :: c142 :: c143 :: c144 :: c145 :: c146 :: c147 :: c148 :: c149 :: c150 :: c151 :: c152 :: .slice (some ⟨g, 0, none⟩) k cp :: .int .i64 (k : Nat) :: y155 :: y156 :: y157 :: y158 :: y159 :: y160 :: y161 :: y162 :: y163 :: y164 :: y165 :: y166 :: y167 :: y168 :: y169 :: y170 :: y171 :: y172 :: y173 :: y174 :: y175 :: y176 :: y177 :: y178 :: y179 :: y180 :: y181 :: y182 :: y183 :: y184 :: y185 :: y186 :: y187 :: y188 :: y189 :: y190 :: y191 :: y192 :: y193 :: y194 :: y195 :: y196 :: y197 :: y198 :: y199 :: y200 :: y201 :: y202 :: y203 :: y204 :: y205 :: y206 :: y207 :: y208 :: y209 :: y210 :: y211 :: y212 :: y213 :: y214 :: y215 :: y216 :: y217 :: y218 :: y219 :: y220 :: y221 :: y222 :: y223 :: y224 :: y225 :: y226 :: y227 :: y228 :: y229 :: y230 :: y231 :: y232 :: y233 :: y234 :: y235 :: y236 :: y237 :: y238 :: y239 :: y240 :: y241 :: y242 :: y243 :: y244 :: y245 :: y246 :: y247 :: y248 :: y249 :: y250 :: y251 :: y252 :: y253 :: y254 :: y255 :: y256 :: y257 :: y258 :: y259 :: y260 :: y261 :: y262 :: y263 :: y264 :: y265 :: y266 :: y267 :: y268 :: y269 :: y270 :: y271 :: y272 :: y273 :: y274 :: y275 :: y276 :: y277 :: y278 :: c279 :: []).toArray, []⟩ w') :
    Code.wp Try.prog visit Q0 ⟨(.pointer (some ⟨q, 0, none⟩) :: c1 :: c2 :: c3 :: c4 :: c5 :: c6 :: u7 :: c8 :: c9 :: c10 :: u11 :: u12 :: u13 :: u14 :: c15 :: c16 :: c17 :: c18 :: c19 :: c20 :: c21 :: c22 :: c23 :: c24 :: c25 :: c26 :: c27 :: c28 :: c29 :: c30 :: c31 :: c32 :: c33 :: c34 :: c35 :: c36 :: c37 :: c38 :: c39 :: c40 :: c41 :: c42 :: c43 :: c44 :: c45 :: c46 :: c47 :: c48 :: c49 :: c50 :: c51 :: c52 :: c53 :: c54 :: c55 :: c56 :: c57 :: c58 :: c59 :: c60 :: c61 :: c62 :: c63 :: c64 :: c65 :: c66 :: c67 :: c68 :: c69 :: c70 :: c71 :: c72 :: c73 :: c74 :: c75 :: c76 :: c77 :: c78 :: c79 :: c80 :: c81 :: c82 :: c83 :: c84 :: c85 :: c86 :: c87 :: c88 :: c89 :: c90 :: c91 :: c92 :: c93 :: c94 :: c95 :: c96 :: c97 :: c98 :: c99 :: c100 :: c101 :: c102 :: c103 :: c104 :: c105 :: c106 :: c107 :: c108 :: c109 :: c110 :: c111 :: c112 :: c113 :: c114 :: c115 :: c116 :: c117 :: c118 :: c119 :: c120 :: c121 :: c122 :: c123 :: c124 :: c125 :: c126 :: c127 :: c128 :: c129 :: c130 :: c131 :: c132 :: c133 :: c134 :: c135 :: c136 :: c137 :: c138 :: c139 :: c140 :: c141 :: c142 :: c143 :: c144 :: c145 :: c146 :: c147 :: c148 :: c149 :: c150 :: c151 :: c152 :: .slice (some ⟨g, 0, none⟩) k cp :: .int .i64 (k : Nat) :: .int .i64 (0 : Nat) :: u156 :: u157 :: u158 :: u159 :: u160 :: u161 :: u162 :: u163 :: u164 :: u165 :: u166 :: u167 :: u168 :: u169 :: u170 :: u171 :: u172 :: u173 :: u174 :: u175 :: u176 :: u177 :: u178 :: u179 :: u180 :: u181 :: u182 :: u183 :: u184 :: u185 :: u186 :: u187 :: u188 :: u189 :: u190 :: u191 :: u192 :: u193 :: u194 :: u195 :: u196 :: u197 :: u198 :: u199 :: u200 :: u201 :: u202 :: u203 :: u204 :: u205 :: u206 :: u207 :: u208 :: u209 :: u210 :: u211 :: u212 :: u213 :: u214 :: u215 :: u216 :: u217 :: u218 :: u219 :: u220 :: u221 :: u222 :: u223 :: u224 :: u225 :: u226 :: u227 :: u228 :: u229 :: u230 :: u231 :: u232 :: u233 :: u234 :: u235 :: u236 :: u237 :: u238 :: u239 :: u240 :: u241 :: u242 :: u243 :: u244 :: u245 :: u246 :: u247 :: u248 :: u249 :: u250 :: u251 :: u252 :: u253 :: u254 :: u255 :: u256 :: u257 :: u258 :: u259 :: u260 :: u261 :: u262 :: u263 :: u264 :: u265 :: u266 :: u267 :: u268 :: u269 :: u270 :: u271 :: u272 :: u273 :: u274 :: u275 :: u276 :: u277 :: u278 :: c279 :: []).toArray, []⟩ w0 := by
  obtain ⟨i0, hi0, hz0, hs0, hb0⟩ := info_at infoE
  have HI : Hid (Try.prog.info? 40 = some i0 ∧ i0.zero = some (.pointer none) ∧ i0.size = 1 ∧ i0.bytes = 8) := ⟨hi0, hz0, hs0, hb0⟩
  clear hi0 hz0 hs0 hb0
  conv => arg 2; whnf
  go_loopg [7, 155] k (fun gk v jv wr => ∃ (j h : Nat) (mm : Mem) (ts : List (Option Nat)), j ≤ k ∧ gk = k - j ∧ jv = .int .i64 (j : Nat) ∧ Hid (Lp w1 B q A n L' m3 g vs.toArray h (us.drop j) none mm ts v wr))
  case atStart => exact ⟨0, c0, m3, [], by omega, by omega, rfl, HS⟩
  case round =>
    obtain ⟨j, h, mm, ts, hj1, hg1, rfl, HL⟩ := hrel
    by_cases hj : j < k
    · obtain ⟨d, hd⟩ : ∃ d, us[j]? = some d := ⟨_, List.getElem?_eq_getElem (by rw [← HKL.out]; exact hj)⟩
      have hdrop : us.drop j = d :: us.drop (j + 1) := by
        obtain ⟨h1, h2⟩ := List.getElem?_eq_some_iff.1 hd
        rw [← h2]; exact List.drop_eq_getElem_cons h1
      have HT : Hid (Lp w1 B q A n L' m3 g vs.toArray h (us.drop (j + 1)) (some d) mm ts u7 wr) := by
        obtain ⟨⟨R, K, rk, h1⟩, h2, h3⟩ := HL.out
        rw [hdrop] at h1
        exact ⟨⟨R, K, rk, h1.take⟩, h2, h3⟩
      have cg : wr.cell? ⟨g, j, none⟩ = some (.pointer (some ⟨d, 0, none⟩)) := HL.out.2.1.tov.cell (by rw [List.getElem?_toArray]; exact HVS.out j d hd hj)
      have hg2 : k - (j + 1) < gk := by omega
      clear hd hdrop HL hg1
      go_wp2_with fail
      obtain ⟨wa, rfl⟩ : ∃ wa : World, wa = wr := ⟨_, rfl⟩
      clear cg
      go_loopg [7, 11] (cnt ts) (fun gk v cv wr => ∃ (c : Nat) (mm : Mem) (ts : List (Option Nat)), gk = cnt ts ∧ cv = .pointer (some ⟨c, 0, none⟩) ∧ Hid (Lp w1 B q A n L' m3 g vs.toArray h (us.drop (j + 1)) (some c) mm ts v wr))
      case atStart => exact ⟨d, mm, ts, rfl, rfl, HT⟩
      case round =>
        obtain ⟨GK, rfl⟩ : ∃ GK : Nat, GK = gk := ⟨_, rfl⟩
        obtain ⟨c, mm, ts, hg4, rfl, HL⟩ := hrel
        have HG4 := Lib.hid hg4
        clear hg4
        clear HT
        obtain ⟨dg, hdg⟩ : ∃ dg, dg = (mm c).deg := ⟨_, rfl⟩
        have HD : Hid (dg = (mm c).deg ∧ dg ≤ 1000 ∧ c ∈ A) := by
          obtain ⟨⟨R, K, rk, h1⟩, h2, h3, h4, h5, h6⟩ := HL.out
          have hcL := (h1.wf.rL c (h1.hand c rfl).1).1
          exact ⟨hdg, by rw [hdg]; exact Nat.le_trans (h1.wf.deg_le hcL) h5, h4 c hcL⟩
        clear hdg
        obtain ⟨we, rfl⟩ : ∃ we : World, we = wr := ⟨_, rfl⟩
        go_wp2_with fail
        go_loopg [7] (dg + 1 - ts.length) (fun gk v wr => ∃ (ts' : List (Option Nat)), gk = dg + 1 - ts'.length ∧ Hid (Lp w1 B q A n L' m3 g vs.toArray h (us.drop (j + 1)) (some c) mm ts' v wr ∧ cnt ts' = cnt ts))
        case atStart => exact ⟨ts, rfl, HL.out, rfl⟩
        case round =>
          obtain ⟨ts', hg5, HL5⟩ := hrel
          have c1 : wr.cell? ⟨c, 0, none⟩ = some (.int .i64 (dg : Nat)) := by rw [HD.out.1]; exact HL5.out.1.2.1.ms.c0 HD.out.2.2
          obtain ⟨l7, hl7⟩ : ∃ l7, l7 = ts'.length := ⟨_, rfl⟩
          have HLL : Hid (l7 = ts'.length) := hl7
          have hl1001 : l7 ≤ 1001 := by rw [hl7]; exact HL5.out.1.2.2.1
          have hd1000 : dg ≤ 1000 := HD.out.2.1
          have HO : Hid (∀ v, u7 = v → wr.ownsRow B 40 1 v l7 (row ts')) := by rintro v rfl; rw [hl7]; exact HL5.out.1.2.1.row
          rw [← hl7] at hg5
          clear hl7
          by_cases hlt : dg < l7
          · obtain ⟨g7, c7, hv⟩ := own_some (HO.out _ rfl) (by omega)
            subst hv
            obtain ⟨t, ht⟩ : ∃ t, ts'[dg]? = some t := ⟨_, List.getElem?_eq_getElem (by rw [← HLL.out]; exact hlt)⟩
            obtain ⟨d7, f7⟩ := own_cell (i := dg) (u := optp t) (HO.out _ rfl) (by rw [row, List.getElem?_map, ht]; rfl)
            have HTT := Lib.hid ht
            clear ht
            obtain ⟨⟨⟨R4, K4, rk4, h41⟩, h42, h43, h44⟩, h45⟩ := HL5.out
            have HC4 := Lib.hid h41
            have HS4 := Lib.hid h42
            have HX4 := Lib.hid h45
            clear h41 h42 h43 h44 h45
            cases t with
            | none =>
              rw [show optp none = .pointer none from rfl] at d7
              have HP : Hid (St w1 B q A n h mm (.slice (some ⟨g7, 0, none⟩) l7 c7) (ts'.set dg (some c)) g vs.toArray (wr.setCell ⟨g7, dg, none⟩ (.pointer (some ⟨c, 0, none⟩)))) := HS4.out.put (by rw [HLL.out]) (by rw [← HLL.out]; exact hlt) (some c)
              go_wp2_with fail
              generalize wr.setCell ⟨g7, dg, none⟩ (.pointer (some ⟨c, 0, none⟩)) = wb at HP ⊢
              have KC : Hid (c ∈ A) := HD.out.2.2
              have KH : Hid (h ∈ A) := HL5.out.1.2.2.2.2.2
              have a1 := HP.out.ms.c6 KC.out
              have a2 : wb.cell? ⟨q, 0, none⟩ = some (.pointer (some ⟨h, 0, none⟩)) := HP.out.blk.cell rfl
              have a3 := HP.out.ms.c6 KH.out
              have a4 := HP.out.blk.free
              have HLE := Lib.hid (leq_fb (HP.out.ms.pr c KC.out) (HP.out.ms.pr h KH.out))
              clear d7 f7 c1 hg5
              by_cases hle : (mm c).pr ≤ (mm h).pr
              · have hb1 : (FloatKind.f64.format.order (FH.fb (mm c).pr) (FH.fb (mm h).pr) == some .lt || FloatKind.f64.format.order (FH.fb (mm c).pr) (FH.fb (mm h).pr) == some .eq) = true := by rw [HLE.out]; exact decide_eq_true hle
                go_quiet (fail)
                go_wp2_with fail
                go_roundg (k - (j + 1))
                case measure => exact hg2
                case rel => exact ⟨j + 1, c, mm, ts'.set dg (some c), by omega, rfl, rfl, Lp.place HC4.out ((HP.out.drewN _).min c) HD.out.1 (by rw [← HLL.out]; exact hlt) (by rw [if_pos hle]) HL5.out.1.2.2.1 HL5.out.1.2.2.2.1 HL5.out.1.2.2.2.2.1 KH.out KC.out⟩
              · have hb1 : (FloatKind.f64.format.order (FH.fb (mm c).pr) (FH.fb (mm h).pr) == some .lt || FloatKind.f64.format.order (FH.fb (mm c).pr) (FH.fb (mm h).pr) == some .eq) = false := by rw [HLE.out]; exact decide_eq_false hle
                go_quiet (fail)
                go_wp2_with fail
                go_roundg (k - (j + 1))
                case measure => exact hg2
                case rel => exact ⟨j + 1, h, mm, ts'.set dg (some c), by omega, rfl, rfl, Lp.place HC4.out (HP.out.drewN _) HD.out.1 (by rw [← HLL.out]; exact hlt) (by rw [if_neg (by omega)]) HL5.out.1.2.2.1 HL5.out.1.2.2.2.1 HL5.out.1.2.2.2.2.1 KH.out KC.out⟩
            | some o =>
              rw [show optp (some o) = .pointer (some ⟨o, 0, none⟩) from rfl] at d7
              have HP : Hid (St w1 B q A n h mm (.slice (some ⟨g7, 0, none⟩) l7 c7) (ts'.set dg none) g vs.toArray (wr.setCell ⟨g7, dg, none⟩ (.pointer none))) := HS4.out.put (by rw [HLL.out]) (by rw [← HLL.out]; exact hlt) none
              obtain ⟨n', x', hnx⟩ : ∃ n' x', (n' = o ∧ x' = c ∧ (mm o).pr < (mm c).pr) ∨ (n' = c ∧ x' = o ∧ ¬ (mm o).pr < (mm c).pr) := by
                by_cases hlt : (mm o).pr < (mm c).pr
                · exact ⟨o, c, Or.inl ⟨rfl, rfl, hlt⟩⟩
                · exact ⟨c, o, Or.inr ⟨rfl, rfl, hlt⟩⟩
              have HK : Hid (n' ∈ R4 ∧ x' ∈ R4 ∧ n' ≠ x' ∧ (∃ R' K' rk', Cn (lk mm n' x') m3 L' h (us.drop (j + 1)) (some n') (ts'.set dg none) R' K' rk') ∧ n' ∈ A ∧ x' ∈ A ∧ o ∈ A) := by
                have h0 := HTT.out
                rw [HD.out.1] at h0 ⊢
                obtain ⟨k1, k2, k3, k4⟩ := HC4.out.link h0 hnx
                exact ⟨k1, k2, k3, k4, HL5.out.1.2.2.2.1 _ (HC4.out.wf.rL _ k1).1, HL5.out.1.2.2.2.1 _ (HC4.out.wf.rL _ k2).1, HL5.out.1.2.2.2.1 _ (HC4.out.wf.rL _ (HC4.out.slots _ _ h0).1).1⟩
              have HNX := Lib.hid hnx
              clear hnx
              go_wp2_with fail
              generalize wr.setCell ⟨g7, dg, none⟩ (.pointer none) = wb at HP ⊢
              have KC : Hid (c ∈ A) := HD.out.2.2
              have KO : Hid (o ∈ A) := HK.out.2.2.2.2.2.2
              have a1 := HP.out.ms.c6 KC.out
              have a3 := HP.out.ms.c6 KO.out
              have HLT := Lib.hid (lss_fb (HP.out.ms.pr o KO.out) (HP.out.ms.pr c KC.out))
              clear d7 f7 c1 hg5
              go_quiet (fail)
              go_upto_if 205 with (fail)
              have HP1 := Lib.hid (HP.out.drewN nq)
              generalize wb.drewN nq = wy at HP1 ⊢
              clear a1 a3
              go_cut [13, 14] from 205 to 209 (fun a b wx => a = .pointer (some ⟨n', 0, none⟩) ∧ b = .pointer (some ⟨x', 0, none⟩) ∧ wx = wy)
              case first =>
                rcases HNX.out with ⟨rfl, rfl, h3⟩ | ⟨rfl, rfl, h3⟩
                · have hb1 : (FloatKind.f64.format.order (FH.fb (mm n').pr) (FH.fb (mm x').pr) == some .lt) = true := by rw [HLT.out]; exact decide_eq_true h3
                  go_wp2_with fail
                  all_goals first | exact absurd (hb1.symm.trans ‹(FloatKind.f64.format.order (FH.fb (mm n').pr) (FH.fb (mm x').pr) == some .lt) = false›) (by decide) | (go_meet; exact ⟨rfl, rfl, rfl⟩)
                · have hb1 : (FloatKind.f64.format.order (FH.fb (mm x').pr) (FH.fb (mm n').pr) == some .lt) = false := by rw [HLT.out]; exact decide_eq_false (by omega)
                  go_wp2_with fail
                  all_goals first | exact absurd (hb1.symm.trans ‹(FloatKind.f64.format.order (FH.fb (mm x').pr) (FH.fb (mm n').pr) == some .lt) = true›) (by decide) | (go_meet; exact ⟨rfl, rfl, rfl⟩)
              case rest =>
              obtain ⟨rfl, rfl, rfl⟩ := hcut
              obtain ⟨P, hP⟩ : ∃ P, P = (mm x').pv := ⟨_, rfl⟩
              obtain ⟨N', hN'⟩ : ∃ N', N' = (mm x').nx := ⟨_, rfl⟩
              have KX' : Hid (x' ∈ A) := HK.out.2.2.2.2.2.1
              have KN' : Hid (n' ∈ A) := HK.out.2.2.2.2.1
              have HPN : Hid (P = (mm x').pv ∧ N' = (mm x').nx ∧ P ∈ A ∧ N' ∈ A ∧ P ≠ x' ∧ N' ≠ x') := by
                obtain ⟨h1, h2⟩ := HC4.out.wf.apart HK.out.1 HK.out.2.1 HK.out.2.2.1
                exact ⟨hP, hN', by rw [hP]; exact HP1.out.ms.pv _ KX'.out, by rw [hN']; exact HP1.out.ms.nx _ KX'.out, by rw [hP]; exact h2, by rw [hN']; exact h1⟩
              clear hP hN'
              have b2 : wc.cell? ⟨x', 2, none⟩ = some (.pointer (some ⟨N', 0, none⟩)) := by rw [HPN.out.2.1]; exact HP1.out.ms.c2 KX'.out
              have b3 : wc.cell? ⟨x', 3, none⟩ = some (.pointer (some ⟨P, 0, none⟩)) := by rw [HPN.out.1]; exact HP1.out.ms.c3 KX'.out
              go_wp2_with fail
              go_still_tail 10, (by kernel_rfl)
              change wpList _ _ _ _ _ wc.drew
              have HP2 := Lib.hid HP1.out.drew
              generalize wc.drew = wy at HP2 ⊢
              clear b2 b3
              have b3 := HP2.out.ms.c3 HPN.out.2.2.2.1
              have f3 := HP2.out.ms.free HPN.out.2.2.2.1
              have HP3 : Hid (St w1 B q A n h (sPv mm N' P) (.slice (some ⟨g7, 0, none⟩) l7 c7) (ts'.set dg none) g vs.toArray (wy.setCell ⟨N', 3, none⟩ (.pointer (some ⟨P, 0, none⟩)))) := HP2.out.write (p := ⟨N', 3, none⟩) HPN.out.2.2.2.1 (HP2.out.ms.sPv HPN.out.2.2.2.1 HPN.out.2.2.1)
              go_upto_region 42 with (fail)
              generalize wy.setCell ⟨N', 3, none⟩ (.pointer (some ⟨P, 0, none⟩)) = wz at HP3 ⊢
              clear b3 f3
              have b2 : wz.cell? ⟨x', 2, none⟩ = some (.pointer (some ⟨N', 0, none⟩)) := by rw [HPN.out.2.1]; have h := HP3.out.ms.c2 KX'.out; simpa using h
              have b3 : wz.cell? ⟨x', 3, none⟩ = some (.pointer (some ⟨P, 0, none⟩)) := by
                have h := HP3.out.ms.c3 KX'.out
                rw [sPv_pv, if_neg (fun e => HPN.out.2.2.2.2.2 e.symm), ← HPN.out.1] at h
                exact h
              go_still_tail 10, (by kernel_rfl)
              change wpList _ _ _ _ _ wz.drew
              have HP4 := Lib.hid HP3.out.drew
              generalize wz.drew = wy2 at HP4 ⊢
              clear b2 b3
              have b2 := HP4.out.ms.c2 HPN.out.2.2.1
              have f2 := HP4.out.ms.free HPN.out.2.2.1
              have HP5 : Hid (St w1 B q A n h (dl mm x') (.slice (some ⟨g7, 0, none⟩) l7 c7) (ts'.set dg none) g vs.toArray (wy2.setCell ⟨P, 2, none⟩ (.pointer (some ⟨N', 0, none⟩)))) := by
                have h := HP4.out.write (p := ⟨P, 2, none⟩) HPN.out.2.2.1 (HP4.out.ms.sNx HPN.out.2.2.1 HPN.out.2.2.2.1)
                unfold dl
                rw [← HPN.out.1, ← HPN.out.2.1]
                exact h
              go_upto_region 43 with (fail)
              generalize wy2.setCell ⟨P, 2, none⟩ (.pointer (some ⟨N', 0, none⟩)) = wz2 at HP5 ⊢
              clear b2 f2
              have b2 := HP5.out.ms.c2 KX'.out
              have b3 := HP5.out.ms.c3 KX'.out
              have f2 := HP5.out.ms.free KX'.out
              obtain ⟨m5, hm5⟩ : ∃ m5, m5 = sNx (sPv (dl mm x') x' x') x' x' := ⟨_, rfl⟩
              have HP6 : Hid (St w1 B q A n h m5 (.slice (some ⟨g7, 0, none⟩) l7 c7) (ts'.set dg none) g vs.toArray ((wz2.setCell ⟨x', 3, none⟩ (.pointer (some ⟨x', 0, none⟩))).setCell ⟨x', 2, none⟩ (.pointer (some ⟨x', 0, none⟩)))) := by
                rw [hm5]
                have h := HP5.out.write (p := ⟨x', 3, none⟩) KX'.out (HP5.out.ms.sPv KX'.out KX'.out)
                exact h.write (p := ⟨x', 2, none⟩) KX'.out (h.ms.sNx KX'.out KX'.out)
              have HM5 := Lib.hid hm5
              clear hm5
              go_upto_region 45 with (fail)
              generalize (wz2.setCell ⟨x', 3, none⟩ (.pointer (some ⟨x', 0, none⟩))).setCell ⟨x', 2, none⟩ (.pointer (some ⟨x', 0, none⟩)) = wz3 at HP6 ⊢
              clear b2 b3 f2
              obtain ⟨zc, hzc⟩ := optp_ptr (mm n').ch
              obtain ⟨zh, hzh⟩ := optp_ptr (mgOH m5 (mm n').ch (some x'))
              have b4 : wz3.cell? ⟨n', 4, none⟩ = some (.pointer zc) := by
                have h := HP6.out.ms.c4 KN'.out
                rw [HM5.out, sNx_ch, sPv_ch, dl_ch, hzc] at h
                exact h
              have HMG : Hid (Calls Try.prog 25 #[.pointer zc, .pointer (some ⟨x', 0, none⟩)] wz3 fun e w' => e = .returned (.pointer zh) ∧ Ms w' A (mgO m5 (mm n').ch (some x')) ∧ Only A wz3 w') := by
                rw [← hzc, ← hzh]
                refine merge_any HP6.out.ms (a := (mm n').ch) (b := some x') (fun c e => HP1.out.ms.ch _ KN'.out c e) (fun c e => by cases e; exact KX'.out) (fun c y e1 e2 => ?_)
                cases e2
                rw [HM5.out]
                exact HC4.out.wf.kid_next HK.out.1 HK.out.2.1 HK.out.2.2.1 e1
              have HZH := Lib.hid hzh
              clear hzc hzh
              go_wp2_with fail
              refine HMG.out.mono ?_
              rintro e wv ⟨rfl, hv1, ho1⟩
              have HP7 := Lib.hid (HP6.out.call ho1 hv1)
              clear hv1 ho1 b4
              obtain ⟨dn, hdn⟩ : ∃ dn, dn = (mm n').deg := ⟨_, rfl⟩
              have hne : ¬ n' = x' := HK.out.2.2.1
              have hne' : ¬ x' = n' := fun e => hne e.symm
              have n0 : wv.cell? ⟨n', 0, none⟩ = some (.int .i64 (dn : Nat)) := by
                have h := HP7.out.ms.c0 KN'.out
                rw [mgO_deg, HM5.out, sNx_deg, sPv_deg, dl_deg, ← hdn] at h
                exact h
              have n4 := HP7.out.ms.c4 KN'.out
              have x1 := HP7.out.ms.c1 KX'.out
              have x5 := HP7.out.ms.c5 KX'.out
              have fn := HP7.out.ms.free KN'.out
              have fx := HP7.out.ms.free KX'.out
              have hdn1 : dn ≤ 1000 := by
                rw [hdn]
                exact Nat.le_trans (HC4.out.wf.deg_le (HC4.out.wf.rL _ HK.out.1).1) HL5.out.1.2.2.2.2.1
              have HP8 : Hid (St w1 B q A n h (lk mm n' x') (.slice (some ⟨g7, 0, none⟩) l7 c7) (ts'.set dg none) g vs.toArray ((((wv.setCell ⟨n', 4, none⟩ (.pointer zh)).setCell ⟨x', 5, none⟩ (.pointer (some ⟨n', 0, none⟩))).setCell ⟨x', 1, none⟩ (.bool false)).setCell ⟨n', 0, none⟩ (.int .i64 ((dn : Int) + 1)))) := HP7.out.link HM5.out hdn HZH.out KN'.out KX'.out (fun c e => HP1.out.ms.ch _ KN'.out c e)
              have HD2 := Lib.hid hdn
              have HC6 : Hid (cnt (ts'.set dg none) < GK) := by
                have h1 := cnt_put HTT.out
                have h2 := HX4.out
                have h3 := HG4.out
                show _ < _
                omega
              clear hdn
              go_upto_region 49 with (fail)
              generalize (((wv.setCell ⟨n', 4, none⟩ (.pointer zh)).setCell ⟨x', 5, none⟩ (.pointer (some ⟨n', 0, none⟩))).setCell ⟨x', 1, none⟩ (.bool false)).setCell ⟨n', 0, none⟩ (.int .i64 ((dn : Int) + 1)) = wz4 at HP8 ⊢
              clear n0 n4 x1 x5 fn fx hdn1 hne hne'
              go_wp2_with fail
              go_roundg (cnt (ts'.set dg none))
              case measure => exact HC6.out
              case rel => exact ⟨n', lk mm n' x', ts'.set dg none, rfl, rfl, HK.out.2.2.2.1, HP8.out, by rw [List.length_set, ← HLL.out]; exact hl1001, HL5.out.1.2.2.2.1, HL5.out.1.2.2.2.2.1, HL5.out.1.2.2.2.2.2⟩
          · have hg6 : dg + 1 - (l7 + 1) < gk := by omega
            clear hg5
            obtain ⟨so, cp7, hv⟩ := own_shape (HO.out _ rfl)
            subst hv
            go_wp2_with (at_builtin; go_must (refine wpList_append_own_at _ rfl _ _ 47 rfl B 40 i0 (.pointer none) 1 8 Try.underlying47 HI.out.1 HI.out.2.1 HI.out.2.2.1 HI.out.2.2.2 rfl (by decide) _ _ _ rfl ((HO.out _ rfl).alloc _) ⟨wr.heap.size, 0, none⟩ 1 1 [optp none] rfl rfl ?c1 ?c2 ?c3 ?c4 ?c5 ?_))
            case c1 => exact one_cell
            case c2 => intro u hu; simp at hu; subst hu; rfl
            case c3 => unfold maxLen; omega
            case c4 => omega
            case c5 => have := HL5.out.1.2.1.ws; simp; omega
            intro v' w' hown hgr _ hv
            have HL6 : Hid (Lp w1 B q A n L' m3 g vs.toArray h (us.drop (j + 1)) (some c) mm (ts' ++ [none]) v' w' ∧ cnt (ts' ++ [none]) = cnt ts) := by
              obtain ⟨⟨⟨R, K, rk, h1⟩, h2, h3, h4⟩, h5⟩ := HL5.out
              refine ⟨⟨⟨R, K, rk, h1.grow⟩, h2.app (u := none) (by rw [← HLL.out]; exact hown) hgr (by simpa using hv), by have := HLL.out; simp; omega, h4⟩, by rw [cnt_grow]; exact h5⟩
            have HL7 : Hid (dg + 1 - (l7 + 1) = dg + 1 - (ts' ++ [none]).length) := by rw [List.length_append, ← HLL.out]; rfl
            clear hown hgr hv
            go_wp2_with fail
            go_roundg (dg + 1 - (l7 + 1))
            case measure => exact hg6
            case rel => exact ⟨ts' ++ [none], HL7.out, HL6.out⟩
    · have hjk : us.drop j = [] := List.drop_eq_nil_of_le (by rw [← HKL.out]; omega)
      have HE : Hid (Lp w1 B q A n L' m3 g vs.toArray h [] none mm ts u7 wr) := by have h := HL.out; rw [hjk] at h; exact h
      clear hjk hg1 HS
      go_wp2_with fail
      trace_state
      exact hexit _ _ _ _ _ _ _ _ _ _ _ _ _ _ _ _ _ _ _ _ _ _ _ _ _ _ _ _ _ _ _ _ _ _ _ _ _ _ _ _ _ _ _ _ _ _ _ _ _ _ _ _ _ _ _ _ _ _ _ _ _ _ _ _ _ _ _ _ _ _ _ _ _ _ _ _ _ _ _ _ _ _ _ _ _ _ _ _ _ _ _ _ _ _ _ _ _ _ _ _ _ _ _ _ _ _ _ _ _ _ _ _ _ _ _ _ _ _ _ _ _ _ _ _ _ _ _ _ _ wr h mm ts HE.out
end FH
end Go.Proofs.Ytalphojbkeleiaa
