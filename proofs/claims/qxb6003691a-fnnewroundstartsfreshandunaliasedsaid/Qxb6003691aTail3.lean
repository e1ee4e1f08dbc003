import Derived.Test.Qxb6003691aRound5
import Derived.Test.Qxb6003691aTail1
import Derived.StillTailTactics
namespace Go.Proofs.Qxb6003691a
open Go.RowKit
set_option linter.unusedVariables false

theorem Links.set {w : World} {lb m : Nat} {S R : Nat → Int} (h : Links w lb m S R) {i : Nat} (hi : i < m) (s r : Int) :
    Links ((w.setCell ⟨lb, i * 2, none⟩ (.int .i64 s)).setCell ⟨lb, i * 2 + 1, none⟩ (.int .i64 r)) lb m (iupd S i s) (iupd R i r) := by
  obtain ⟨t, c, hc, hs, hv⟩ := h
  refine ⟨t, (c.setIfInBounds (i * 2) (.int .i64 s)).setIfInBounds (i * 2 + 1) (.int .i64 r), ?_, by simpa using hs, fun j hj => ?_⟩
  · simp [World.setCell, Array.getElem?_modify, hc]
  · unfold iupd
    by_cases e : j = i
    · subst e
      rw [if_pos rfl, if_pos rfl]
      constructor
      · rw [Array.getElem?_setIfInBounds_ne (by omega), Array.getElem?_setIfInBounds_self_of_lt (by omega)]
      · rw [Array.getElem?_setIfInBounds_self_of_lt (by simp; omega)]
    · rw [if_neg e, if_neg e]
      constructor
      · rw [Array.getElem?_setIfInBounds_ne (by omega), Array.getElem?_setIfInBounds_ne (by omega)]; exact (hv j hj).1
      · rw [Array.getElem?_setIfInBounds_ne (by omega), Array.getElem?_setIfInBounds_ne (by omega)]; exact (hv j hj).2
theorem Links.made (w : World) (m : Nat) : Links (w.alloc (.cells (madeCells #[.int .i64 0, .int .i64 0] (m * 2)) 49)) w.heap.size m (fun _ => 0) (fun _ => 0) := by
  refine ⟨49, madeCells #[.int .i64 0, .int .i64 0] (m * 2), heap_new _ _ _ rfl, by rw [size_madeCells]; exact Nat.le_refl _, fun i hi => ⟨?_, ?_⟩⟩
  · have h1 : i * 2 < m * 2 := by omega
    simp [madeCells, h1]
  · have h1 : i * 2 + 1 < m * 2 := by omega
    have h2 : (i * 2 + 1) % 2 = 1 := by omega
    simp [madeCells, h1, h2]
theorem Links.congr {w : World} {lb m : Nat} {S R S' R' : Nat → Int} (h : Links w lb m S R) (e1 : ∀ i, i < m → S i = S' i) (e2 : ∀ i, i < m → R i = R' i) : Links w lb m S' R' := by
  obtain ⟨t, c, hc, hs, hv⟩ := h
  exact ⟨t, c, hc, hs, fun i hi => by rw [← e1 i hi, ← e2 i hi]; exact hv i hi⟩

theorem make_links (n : Nat) (hn : n ≤ 1048576) (w : World) :
    (Instr.makeSlice 47 (.int .i64 (n : Int)) (.int .i64 (n : Int))).run Try.prog w = .ok (.slice (some ⟨w.heap.size, 0, none⟩) n n) (w.alloc (.cells (madeCells #[.int .i64 0, .int .i64 0] (n * 2)) 49)) :=
  make_any 47 49 #[.int .i64 0, .int .i64 0] 2 16 Try.underlying47 (by kernel_rfl) n (by omega) (by omega) w

theorem part_step (S : Nat → Int) (l i : Nat) : iupd (fun i => if i < l then S i else 0) l (S l) i = if i < l + 1 then S i else 0 := by
  unfold iupd
  by_cases e : i = l
  · subst e; simp
  · rw [if_neg e]
    by_cases e2 : i < l
    · simp only [if_pos e2]; rw [if_pos (by omega)]
    · simp only [if_neg e2]; rw [if_neg (by omega)]

set_option maxRecDepth 100000 in
set_option maxHeartbeats 20000000 in
theorem loop1 {n m e5 e6 lc : Nat} (hm : m ≤ 4096) {b5 b6 la : Option Addr} {S R : Nat → Int} {w2 w : World} {Q0 : Exit → Act → World → Prop} {c1 c2 c3 c4 c7 c8 c9 c10 c11 c12 c13 c14 c17 c18 c19 c20 c21 c22 c23 c24 c25 c26 c27 c28 c29 c30 c31 c32 c33 c34 c35 c36 c37 c38 c39 c40 c41 c42 c43 c44 c45 c46 c47 c48 c49 c50 c51 c52 c53 c54 c55 c56 c57 c58 c59 c60 c61 c62 c63 c64 c65 c66 c67 c68 c69 c70 c71 c72 c73 c74 c75 c76 c77 c78 c79 c80 c81 c82 c83 c84 c85 c86 c87 c88 c89 c90 c91 c92 c93 c94 c95 c96 c97 c98 c99 c100 c101 c102 c103 c104 c105 c106 c107 c108 c109 c110 c111 c112 c113 c114 c115 c116 c117 c118 c119 c120 c121 c122 c123 c124 c125 c126 c127 c128 c129 c130 c131 c132 c133 c134 c135 c136 c137 c138 c139 c140 c141 c142 c143 c144 c145 c146 c147 c148 c149 c150 c151 c152 c153 c154 c155 c156 c157 c158 c159 c160 c161 c162 c163 c164 c165 c166 c167 c168 c169 c170 c171 c172 c173 c174 c175 c176 c177 c178 c179 c180 c181 c182 c183 c184 c185 c186 c187 c188 c189 c190 c191 c192 c193 c194 c195 c196 c197 c198 c199 c200 c201 c202 c203 c204 c205 c206 c207 c208 c209 c210 c211 c212 c213 c214 c215 c216 c217 c218 c219 c220 c221 c222 c223 c224 c225 c226 c227 c228 c229 c230 c231 c232 c233 c234 c235 c236 c237 c238 c239 c240 c241 c242 c243 c244 c245 c246 c247 c248 c249 c250 c251 c252 c253 c254 c255 c256 c257 c258 c259 c260 c261 c262 c263 c264 c265 c266 c267 c268 c269 c270 c271 c272 c273 c274 c275 c276 c277 c278 c279 c280 c281 c282 c283 c284 c285 c286 c287 c288 c289 c290 c291 c292 c293 c294 c295 c296 c297 c298 c299 c300 c301 c302 c303 c304 c305 c306 c307 c308 c309 c310 c311 c312 c313 c314 c315 c316 c317 c318 c319 c320 c321 c322 c323 c324 c325 c326 c327 c328 c329 c330 c331 c332 : Value}
    (h5 : Two5 w2 m b5 S) (h6 : Two5 w2 m b6 R) (hL : 0 < m → ∃ lb, la = some ⟨lb, 0, none⟩ ∧ w2.heap.size ≤ lb ∧ Links w lb m (fun _ => 0) (fun _ => 0)) (hBc : Below w2.heap.size w2 w)
    (hexit : ∀ (u16 u96 u97 u98 u99 u100 u101 u102 u103 u104 u105 u106 u107 u108 u109 u110 u111 u112 u113 : Value) (w' : World), ((0 < m → ∃ lb, la = some ⟨lb, 0, none⟩ ∧ Links w' lb m S R) ∧ Below w2.heap.size w2 w') → Q0 (.exit 0) ⟨(.int .i64 n :: c1 :: c2 :: c3 :: c4 :: .slice b5 m e5 :: .slice b6 m e6 :: c7 :: c8 :: c9 :: c10 :: c11 :: c12 :: c13 :: c14 :: .slice la m lc :: u16 :: c17 :: c18 :: c19 :: c20 :: c21 :: c22 :: c23 :: c24 :: c25 :: c26 :: c27 :: c28 :: c29 :: c30 :: c31 :: c32 :: c33 :: c34 :: c35 :: c36 :: c37 :: c38 :: c39 :: c40 :: c41 :: c42 :: c43 :: c44 :: c45 :: c46 :: c47 :: c48 :: c49 :: c50 :: c51 :: c52 :: c53 :: c54 :: c55 :: c56 :: c57 :: c58 :: c59 :: c60 :: c61 :: c62 :: c63 :: c64 :: c65 :: c66 :: c67 :: c68 :: c69 :: c70 :: c71 :: c72 :: c73 :: c74 :: c75 :: c76 :: c77 :: c78 :: c79 :: c80 :: c81 :: c82 :: c83 :: c84 :: c85 :: c86 :: c87 :: c88 :: c89 :: c90 :: c91 :: c92 :: c93 :: c94 :: c95 :: u96 :: u97 :: u98 :: u99 :: u100 :: u101 :: u102 :: u103 :: u104 :: u105 :: u106 :: u107 :: u108 :: u109 :: u110 :: u111 :: u112 :: u113 :: c114 :: c115 :: c116 :: c117 :: c118 :: c119 :: c120 :: c121 :: c122 :: c123 :: c124 :: c125 :: c126 :: c127 :: c128 :: c129 :: c130 :: c131 :: c132 :: c133 :: c134 :: c135 :: c136 :: c137 :: c138 :: c139 :: c140 :: c141 :: c142 :: c143 :: c144 :: c145 :: c146 :: c147 :: c148 :: c149 :: c150 :: c151 :: c152 :: c153 :: c154 :: c155 :: c156 :: c157 :: c158 :: c159 :: c160 :: c161 :: c162 :: c163 :: c164 :: c165 :: c166 :: c167 :: c168 :: c169 :: c170 :: c171 :: c172 :: c173 :: c174 :: c175 :: c176 :: c177 :: c178 :: c179 :: c180 :: c181 :: c182 :: c183 :: c184 :: c185 :: c186 :: c187 :: c188 :: c189 :: c190 :: c191 :: c192 :: c193 :: c194 :: c195 :: c196 :: c197 :: c198 :: c199 :: c200 :: c201 :: c202 :: c203 :: c204 :: c205 :: c206 :: c207 :: c208 :: c209 :: c210 :: c211 :: c212 :: c213 :: c214 :: c215 :: c216 :: c217 :: c218 :: c219 :: c220 :: c221 :: c222 :: c223 :: c224 :: c225 :: c226 :: c227 :: c228 :: c229 :: c230 :: c231 :: c232 :: c233 :: c234 :: c235 :: c236 :: c237 :: c238 :: c239 :: c240 :: c241 :: c242 :: c243 :: c244 :: c245 :: c246 :: c247 :: c248 :: c249 :: c250 :: c251 :: c252 :: c253 :: c254 :: c255 :: c256 :: c257 :: c258 :: c259 :: c260 :: c261 :: c262 :: c263 :: c264 :: c265 :: c266 :: c267 :: c268 :: c269 :: c270 :: c271 :: c272 :: c273 :: c274 :: c275 :: c276 :: c277 :: c278 :: c279 :: c280 :: c281 :: c282 :: c283 :: c284 :: c285 :: c286 :: c287 :: c288 :: c289 :: c290 :: c291 :: c292 :: c293 :: c294 :: c295 :: c296 :: c297 :: c298 :: c299 :: c300 :: c301 :: c302 :: c303 :: c304 :: c305 :: c306 :: c307 :: c308 :: c309 :: c310 :: c311 :: c312 :: c313 :: c314 :: c315 :: c316 :: c317 :: c318 :: c319 :: c320 :: c321 :: c322 :: c323 :: c324 :: c325 :: c326 :: c327 :: c328 :: c329 :: c330 :: c331 :: c332 :: []).toArray, []⟩ w') :
    Code.wp Try.prog (Code.loop (bodyAt Try.f5.body 0)) Q0 ⟨(.int .i64 n :: c1 :: c2 :: c3 :: c4 :: .slice b5 m e5 :: .slice b6 m e6 :: c7 :: c8 :: c9 :: c10 :: c11 :: c12 :: c13 :: c14 :: .slice la m lc :: .int .i64 0 :: c17 :: c18 :: c19 :: c20 :: c21 :: c22 :: c23 :: c24 :: c25 :: c26 :: c27 :: c28 :: c29 :: c30 :: c31 :: c32 :: c33 :: c34 :: c35 :: c36 :: c37 :: c38 :: c39 :: c40 :: c41 :: c42 :: c43 :: c44 :: c45 :: c46 :: c47 :: c48 :: c49 :: c50 :: c51 :: c52 :: c53 :: c54 :: c55 :: c56 :: c57 :: c58 :: c59 :: c60 :: c61 :: c62 :: c63 :: c64 :: c65 :: c66 :: c67 :: c68 :: c69 :: c70 :: c71 :: c72 :: c73 :: c74 :: c75 :: c76 :: c77 :: c78 :: c79 :: c80 :: c81 :: c82 :: c83 :: c84 :: c85 :: c86 :: c87 :: c88 :: c89 :: c90 :: c91 :: c92 :: c93 :: c94 :: c95 :: c96 :: c97 :: c98 :: c99 :: c100 :: c101 :: c102 :: c103 :: c104 :: c105 :: c106 :: c107 :: c108 :: c109 :: c110 :: c111 :: c112 :: c113 :: c114 :: c115 :: c116 :: c117 :: c118 :: c119 :: c120 :: c121 :: c122 :: c123 :: c124 :: c125 :: c126 :: c127 :: c128 :: c129 :: c130 :: c131 :: c132 :: c133 :: c134 :: c135 :: c136 :: c137 :: c138 :: c139 :: c140 :: c141 :: c142 :: c143 :: c144 :: c145 :: c146 :: c147 :: c148 :: c149 :: c150 :: c151 :: c152 :: c153 :: c154 :: c155 :: c156 :: c157 :: c158 :: c159 :: c160 :: c161 :: c162 :: c163 :: c164 :: c165 :: c166 :: c167 :: c168 :: c169 :: c170 :: c171 :: c172 :: c173 :: c174 :: c175 :: c176 :: c177 :: c178 :: c179 :: c180 :: c181 :: c182 :: c183 :: c184 :: c185 :: c186 :: c187 :: c188 :: c189 :: c190 :: c191 :: c192 :: c193 :: c194 :: c195 :: c196 :: c197 :: c198 :: c199 :: c200 :: c201 :: c202 :: c203 :: c204 :: c205 :: c206 :: c207 :: c208 :: c209 :: c210 :: c211 :: c212 :: c213 :: c214 :: c215 :: c216 :: c217 :: c218 :: c219 :: c220 :: c221 :: c222 :: c223 :: c224 :: c225 :: c226 :: c227 :: c228 :: c229 :: c230 :: c231 :: c232 :: c233 :: c234 :: c235 :: c236 :: c237 :: c238 :: c239 :: c240 :: c241 :: c242 :: c243 :: c244 :: c245 :: c246 :: c247 :: c248 :: c249 :: c250 :: c251 :: c252 :: c253 :: c254 :: c255 :: c256 :: c257 :: c258 :: c259 :: c260 :: c261 :: c262 :: c263 :: c264 :: c265 :: c266 :: c267 :: c268 :: c269 :: c270 :: c271 :: c272 :: c273 :: c274 :: c275 :: c276 :: c277 :: c278 :: c279 :: c280 :: c281 :: c282 :: c283 :: c284 :: c285 :: c286 :: c287 :: c288 :: c289 :: c290 :: c291 :: c292 :: c293 :: c294 :: c295 :: c296 :: c297 :: c298 :: c299 :: c300 :: c301 :: c302 :: c303 :: c304 :: c305 :: c306 :: c307 :: c308 :: c309 :: c310 :: c311 :: c312 :: c313 :: c314 :: c315 :: c316 :: c317 :: c318 :: c319 :: c320 :: c321 :: c322 :: c323 :: c324 :: c325 :: c326 :: c327 :: c328 :: c329 :: c330 :: c331 :: c332 :: []).toArray, []⟩ w := by
  show Code.wp _ (Code.loop (Code.seq _ _)) _ _ _
  go_loopw [16] (fun v wr => ∃ l : Nat, l ≤ m ∧ v = .int .i64 l ∧ (0 < m → ∃ lb, la = some ⟨lb, 0, none⟩ ∧ w2.heap.size ≤ lb ∧ Links wr lb m (fun i => if i < l then S i else 0) (fun i => if i < l then R i else 0)) ∧ Below w2.heap.size w2 wr) (fun v _ => m - (intOf v).toNat)
  case atStart => exact ⟨0, by omega, rfl, fun h => (by obtain ⟨lb, e1, e2, e3⟩ := hL h; exact ⟨lb, e1, e2, e3.congr (by simp) (by simp)⟩), hBc⟩
  case round =>
    clear hL hBc
    obtain ⟨l, hl, rfl, hL, hB⟩ := hrel
    have HL : Hid _ := hL
    clear hL
    by_cases hlt : l < m
    · clear hexit
      obtain ⟨x5, rfl, r5⟩ := h5 (by omega)
      obtain ⟨x6, rfl, r6⟩ := h6 (by omega)
      obtain ⟨lb, rfl, q3, hL⟩ := HL.out (by omega)
      have y1 := (r5.of_block (hB.block _ r5.lt)).cell hlt
      have y2 := (r6.of_block (hB.block _ r6.lt)).cell hlt
      have y3 := hL.fst hlt
      have y4 := hL.snd hlt
      have y5 := hL.frozen (l * 2)
      have y6 := hL.frozen (l * 2 + 1)
      have L1 := (hL.set hlt (S l) (R l)).congr (S' := fun i => if i < l + 1 then S i else 0) (R' := fun i => if i < l + 1 then R i else 0) (fun i _ => part_step S l i) (fun i _ => part_step R l i)
      have B1 : Below w2.heap.size w2 (((wr.setCell ⟨lb, l * 2, none⟩ (.int .i64 (S l))).setCell ⟨lb, l * 2 + 1, none⟩ (.int .i64 (R l)))) := (hB.setCell q3 _).setCell q3 _
      have HH : Hid _ := And.intro L1 B1
      clear L1 B1 hL hB r5 r6 h5 h6 HL
      go_wp2
      refine wp_region_still_tail 12 (by kernel_rfl) (by kernel_rfl) ?_
      simp only [List.take_succ_cons, List.take_zero, List.drop_succ_cons, List.drop_zero]
      rw [show ({ wr with drawn := wr.drawn + 1 } : World) = wr.drew from rfl]
      still_step
      still_step
      still_step
      still_step
      still_step
      repeat still_step
      refine wpStill_nil ?_
      go_wp2
      all_goals go_roundw
      all_goals first
        | (case rel => exact ⟨l + 1, by omega, by go_num, fun _ => ⟨lb, rfl, q3, HH.out.1⟩, HH.out.2.drew⟩)
        | (case measure => simp [intOf]; omega)
    · have HX : Hid ((0 < m → ∃ lb, la = some ⟨lb, 0, none⟩ ∧ Links wr lb m S R) ∧ Below w2.heap.size w2 wr) := by
        refine ⟨fun h => ?_, hB⟩
        obtain ⟨lb, e1, e2, e3⟩ := HL.out h
        exact ⟨lb, e1, e3.congr (fun i hi => by rw [if_pos (by omega)]) (fun i hi => by rw [if_pos (by omega)])⟩
      clear HL hB h5 h6
      go_wp2
      exact HX.out

end Go.Proofs.Qxb6003691a
