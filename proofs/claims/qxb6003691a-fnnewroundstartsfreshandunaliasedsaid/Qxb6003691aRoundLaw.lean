import Derived.Test.Qxb6003691aTail2
import Derived.Test.Qxb6003691aTail3
import Derived.Test.Qxb6003691aTail4
import Derived.Test.Qxb6003691aDropLaw
import Derived.Deep.CutRange
namespace Go.Proofs.Qxb6003691a
open Go.RowKit
set_option linter.unusedVariables false

set_option maxRecDepth 100000 in
set_option maxHeartbeats 20000000 in
theorem round_core (n m c5 c6 : Nat) (hn : n ≤ 64) (hm : m ≤ 4096) (a5 a6 : Option Addr) (S R : Nat → Int) (p0 p1 p2 p3 : Int) (w : World)
    (h5 : Src w a5 m (fun i => .int .i64 (S i))) (h6 : Src w a6 m (fun i => .int .i64 (R i))) (g5 : allB S n m = true) (g6 : allB R n m = true) :
    Calls Try.prog 5 #[.int .i64 n, .int .u64 p0, .int .u64 p1, .int .u64 p2, .int .u64 p3, .slice a5 m c5, .slice a6 m c6] w fun e w' => e = .returned (.bool true) ∧ Below w.heap.size w w' := by
  have hd : decide (m + m ≤ 1048576) = true := decide_eq_true (by omega)
  go_enter Try.func5, Try.ntmps5
  go_wp2_with (go_at_call 24; refine (bytes24 _ _ _ _ _ _ _ _ _ _ _ _ (by unfold maxLen; omega) (by unfold maxLen; omega)).mono ?_; rintro e w' ⟨rfl, rfl⟩)
  clear hd
  go_wp2_with fail
  refine (allBelow_any _ _ _ S _ _ h5 (by omega)).mono ?_
  rintro e w' ⟨rfl, rfl⟩
  rw [g5]
  go_wp2_with fail
  refine (allBelow_any _ _ _ R _ _ h6 (by omega)).mono ?_
  rintro e w' ⟨rfl, rfl⟩
  rw [g6]
  have HS := allB_out g5
  have HR := allB_out g6
  clear g5 g6
  go_wp2_with fail
  refine (copy26 _ _ _ _ _ h5 (by omega)).mono ?_
  rintro e w1 ⟨b5, rfl, ho5, hnil, hB1⟩
  have h61 := h6.below hB1
  clear h5 h6
  go_wp2_with fail
  refine (copy26 _ _ _ _ _ h61 (by omega)).mono ?_
  rintro e w2 ⟨b6, rfl, ho6, -, hB2⟩
  have hB12 := hB1.trans (hB2.mono hB1.size)
  have H5 : Hid (0 < m → ∃ b, b5 = some ⟨b, 0, none⟩ ∧ w'.heap.size ≤ b ∧ Row w2 b m (fun i => .int .i64 (S i))) := by
    intro h
    obtain ⟨b, e1, e2, e3⟩ := ho5.pos h
    exact ⟨b, e1, e2, e3.below hB2⟩
  have H6 : Hid (0 < m → ∃ b, b6 = some ⟨b, 0, none⟩ ∧ w'.heap.size ≤ b ∧ Row w2 b m (fun i => .int .i64 (R i))) := by
    intro h
    obtain ⟨b, e1, e2, e3⟩ := ho6.pos h
    exact ⟨b, e1, by have := hB1.size; omega, e3⟩
  have H0 : Hid (b5 = none → m = 0) := ho5.src.1
  clear ho5 ho6 h61 hB1 hB2 hnil
  have hne := nenil 43 3 Try.underlying43
  have hmk := make_links m (by omega)
  go_upto_if 92 with (fail)
  go_cut [15] from 39 (fun v wc => ∃ la lc, v = .slice la m lc ∧ (0 < m → ∃ lb, la = some ⟨lb, 0, none⟩ ∧ w2.heap.size ≤ lb ∧ Links wc lb m (fun _ => 0) (fun _ => 0)) ∧ Below w2.heap.size w2 wc)
  case first =>
    cases b5 with
    | none =>
      have hm0 : Hid (m = 0) := H0.out rfl
      clear H5 H6 H0
      go_wp2
      go_meet
      case rel => exact ⟨none, 0, by rw [hm0.out], fun h => absurd h (by have := hm0.out; omega), Below.refl _ _⟩
    | some x =>
      clear H5 H6 H0
      go_wp2
      go_meet
      case rel => exact ⟨_, _, rfl, fun _ => ⟨_, rfl, Nat.le_refl _, Links.made _ _⟩, (Below.refl _ _).alloc (Nat.le_refl _) _⟩
  case rest =>
    clear hmk hne
    obtain ⟨la, lc, rfl, hL, hBc⟩ := hcut
    have HL : Hid _ := hL
    clear hL
    go_wp2
    refine loop1 (S := S) (R := R) (w2 := w2) hm (fun h => (by obtain ⟨b, e1, e2, e3⟩ := H5.out h; exact ⟨b, e1, e3⟩)) (fun h => (by obtain ⟨b, e1, e2, e3⟩ := H6.out h; exact ⟨b, e1, e3⟩)) HL.out hBc ?_
    intro a16 a96 a97 a98 a99 a100 a101 a102 a103 a104 a105 a106 a107 a108 a109 a110 a111 a112 a113 wr ⟨hL, hB⟩
    clear HL hBc
    have hrg := range39 wr p0 p1 p2 p3 la m lc
    have B1 := below39 wr (cells39 p0 p1 p2 p3 la m lc)
    have HLL : Hid (0 < m → ∃ lb, la = some ⟨lb, 0, none⟩ ∧ Links (stored39 wr (cells39 p0 p1 p2 p3 la m lc)) lb m S R) := by
      intro h
      obtain ⟨lb, e1, e3⟩ := hL h
      exact ⟨lb, e1, e3.below B1 e3.lt⟩
    have B2 : Below w2.heap.size w2 (stored39 wr (cells39 p0 p1 p2 p3 la m lc)) := hB.trans (B1.mono hB.size)
    clear hL hB B1
    go_upto_region 20 with (fail)
    refine reg20 ?_
    intro z1 z2 z3 z4 z5 z6 z7
    go_upto_region 21 with (fail)
    refine reg21 hn hm hrg HLL.out HS HR ?_
    rintro z8 z9 z10 sb b w4 ⟨hr, k1, k2, hB4⟩
    have B4 := B2.trans (hB4.mono B2.size)
    have k3 : w2.heap.size ≤ b.gc := by have := B2.size; omega
    have k4 : w2.heap.size ≤ b.ac := by have := B2.size; omega
    have BW : Below w'.heap.size w' w4 := hB12.trans (B4.mono hB12.size)
    have n9 := hB12.size
    have ST : St w' w4 sb b n m p0 p1 p2 p3 S R b5 b6 (fun _ => 0) (fun _ => 0) := by
      refine ⟨hr, fun h => ?_, fun h => ?_, BW, by omega, by omega⟩
      · obtain ⟨x, e1, e2, e3⟩ := H5.out h
        have := e3.lt
        exact ⟨x, e1, by omega, by omega, e3.of_block (B4.block _ e3.lt)⟩
      · obtain ⟨x, e1, e2, e3⟩ := H6.out h
        have := e3.lt
        exact ⟨x, e1, by omega, by omega, e3.of_block (B4.block _ e3.lt)⟩
    clear HLL B2 hB4 hrg k1 k2 H5 H6 H0 hB12 HS HR B4 hr BW n9 k3 k4
    go_wp2_with fail
    refine (sizes_any ST.rnd).mono ?_
    rintro e w5 ⟨rfl, q, rfl⟩
    have S5 := ST.drewN q
    clear ST
    generalize w4.drewN q = w5 at S5 ⊢
    go_wp2_with fail
    refine loop2 hn hm S5 ?_
    clear S5
    intro x14 x24 x25 x26 x27 x28 x29 x30 x155 x156 x157 x158 x159 x160 x161 x162 x163 x164 x165 x166 x167 x168 x169 x170 x171 x172 x173 x174 x175 x176 x177 x178 x179 x180 x181 x182 x183 x184 x185 x186 x187 x188 x189 x190 x191 x192 x193 x194 x195 x196 x197 x198 x199 x200 x201 x202 x203 x204 x205 x206 x207 x208 x209 x210 x211 x212 x213 x214 x215 x216 x217 x218 x219 x220 x221 x222 x223 x224 x225 x226 x227 x228 x229 x230 x231 x232 x233 x234 w6 S6
    have S7 : St w' w6 sb b n m p0 p1 p2 p3 S R b5 b6 (gp 0) (ap 0) := by rw [gp_zero, ap_zero]; exact S6
    clear S6
    go_wp2_with fail
    refine loop5 hn hm S7 ?_
    clear S7
    intro y31 y32 y33 y235 y236 y237 y238 y239 y240 y241 y242 y243 y244 y245 y246 y247 y248 y249 y250 y251 y252 y253 y254 y255 y256 y257 y258 y259 y260 y261 y262 w7 S7
    go_wp2_with fail
    refine loop7 hn hm S7 (fun k hk => by simp [gp, hk]) (fun k hk => by simp [ap, hk]) ?_
    intro t14 t34 t35 t36 t37 t38 t263 t264 t265 t266 t267 t268 t269 t270 t271 t272 t273 t274 t275 t276 t277 t278 t279 t280 t281 t282 t283 t284 t285 t286 t287 t288 t289 t290 t291 t292 t293 t294 t295 t296 t297 t298 t299 t300 t301 t302 t303 t304 t305 t306 t307 t308 t309 t310 t311 t312 t313 t314 t315 t316 t317 t318 t319 t320 t321 t322 t323 t324 t325 t326 t327 t328 t329 t330 t331 t332
    have BX := S7.bel
    clear S7
    go_wp2_with fail
    go_ret
    exact ⟨rfl, BX⟩

end Go.Proofs.Qxb6003691a
