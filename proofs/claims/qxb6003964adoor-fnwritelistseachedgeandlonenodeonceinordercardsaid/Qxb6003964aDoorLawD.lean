/-
  The law from its matrix on.
-/
import Derived.Test.Qxb6003964aDoorLawE
import Derived.Test.Qxb6003964aDoorMat
namespace Go.Proofs.Qxb6003964aDoor
open Go.ChangeShapes Go.WideShapes Go.ChangeAt Go.RowKit
open Go.Lib (byteCells decDigits nDigits)
variable {n gN cN gE cE l : Nat} {I : Nat → Nat} {w0 w : World} {fail : Bool}

set_option maxRecDepth 100000 in
set_option maxHeartbeats 8000000 in
theorem law_D (hn : n ≤ 256) (hI63 : ∀ i, i < n → I i < 9223372036854775808) (hup : ∀ a b, a < b → b < n → I a < I b)
    (hN : ∀ k, k < n → w.cell? ⟨gN, k, none⟩ = some (.int .i64 (I k : Int))) (hl : l ≤ 4096) (hE : ∀ k, k < l → ∃ e : Nat, e < 256 ∧ w.cell? ⟨gE, k, none⟩ = some (.int .u8 (e : Int)))
    (hg : gN < w.heap.size ∧ gE < w.heap.size) (hB : Below w0.heap.size w0 w) (htab : Lib.TabIs Tryd.prog w0 Tryd.powName .u64 Lib.pow10Tab)
    {u0 u3 u4 u5 u6 u7 u8 u9 u10 u11 u12 u13 u15 u17 u18 u19 u20 u21 u22 u23 u24 u25 u26 u27 u28 u29 u30 u31 u32 u33 u34 u35 u36 u37 u38 u39 u40 u41 u42 u43 u44 u45 u46 u47 u48 u49 u50 u51 u52 u53 u54 u55 u56 u57 u58 u59 u60 u61 u62 u63 u64 u65 u66 u67 u68 u69 u70 u71 u72 u73 u74 u75 u76 u77 u78 u79 u80 u81 u82 u83 u84 u85 u86 u87 u88 u89 u90 u91 u92 u93 u94 u95 u96 u97 u98 u99 u100 u101 u102 u103 u104 u105 u106 u107 u108 u109 u110 u111 u112 u113 u114 u115 u116 u117 u118 u119 u120 u121 u122 u123 u124 u125 u126 u127 u128 u129 u130 u131 u132 u133 u134 u135 u136 u137 u138 u139 u140 u141 u142 u143 u144 u145 u146 u147 u148 u149 u150 u151 u152 u153 u154 u155 u156 u157 u158 u159 u160 u161 u162 u163 u164 u165 u166 u167 u168 u169 u170 u171 u172 u173 u174 u175 u176 u177 u178 u179 u180 u181 u182 u183 u184 u185 u186 u187 u188 u189 u190 u191 u192 u193 u194 u195 u196 u197 u198 u199 u200 u201 u202 u203 u204 u205 u206 u207 u208 u209 u210 u211 u212 u213 u214 u215 u216 u217 u218 u219 u220 u221 u222 u223 u224 u225 u226 u227 u228 u229 u230 u231 u232 u233 u234 u235 u236 u237 u238 u239 u240 u241 u242 u243 u244 u245 u246 u247 u248 u249 u250 u251 u252 u253 u254 u255 u256 u257 u258 u259 u260 u261 u262 u263 u264 u265 u266 u267 u268 u269 u270 u271 u272 u273 u274 u275 u276 u277 u278 u279 u280 u281 u282 u283 u284 u285 u286 u287 u288 u289 u290 u291 u292 u293 u294 u295 u296 u297 u298 u299 u300 u301 u302 u303 u304 u305 u306 u307 u308 u309 u310 u311 u312 u313 u314 u315 u316 u317 u318 u319 u320 u321 u322 u323 u324 u325 u326 u327 u328 u329 u330 u331 u332 u333 u334 u335 u336 u337 u338 u339 u340 u341 u342 u343 u344 u345 u346 u347 u348 u349 u350 u351 u352 u353 u354 u355 u356 u357 u358 u359 u360 u361 u362 u363 u364 u365 u366 u367 u368 u369 u370 u371 u372 u373 u374 u375 u376 u377 u378 u379 u380 u381 u382 u383 u384 u385 u386 u387 u388 u389 u390 u391 u392 u393 u394 u395 u396 u397 u398 u399 u400 u401 u402 u403 u404 : Value}
    {Kk : Act → World → Prop} (hK : ∀ a w, (behind Tryd.f3 35).wp Tryd.prog (bodyPost Tryd.prog Tryd.f3 (LPost w0)) a w → Kk a w) :
    (stAt Tryd.f3 35).wp Tryd.prog (Exit.then Kk (bodyPost Tryd.prog Tryd.f3 (LPost w0))) { tmps := #[u0, (.slice (some ⟨gE, 0, none⟩) l cE), (.bool fail), u3, u4, u5, u6, u7, u8, u9, u10, u11, u12, u13, (.slice (some ⟨gN, 0, none⟩) n cN), u15, (.int .i64 (n : Int)), u17, u18, u19, u20, u21, u22, u23, u24, u25, u26, u27, u28, u29, u30, u31, u32, u33, u34, u35, u36, u37, u38, u39, u40, u41, u42, u43, u44, u45, u46, u47, u48, u49, u50, u51, u52, u53, u54, u55, u56, u57, u58, u59, u60, u61, u62, u63, u64, u65, u66, u67, u68, u69, u70, u71, u72, u73, u74, u75, u76, u77, u78, u79, u80, u81, u82, u83, u84, u85, u86, u87, u88, u89, u90, u91, u92, u93, u94, u95, u96, u97, u98, u99, u100, u101, u102, u103, u104, u105, u106, u107, u108, u109, u110, u111, u112, u113, u114, u115, u116, u117, u118, u119, u120, u121, u122, u123, u124, u125, u126, u127, u128, u129, u130, u131, u132, u133, u134, u135, u136, u137, u138, u139, u140, u141, u142, u143, u144, u145, u146, u147, u148, u149, u150, u151, u152, u153, u154, u155, u156, u157, u158, u159, u160, u161, u162, u163, u164, u165, u166, u167, u168, u169, u170, u171, u172, u173, u174, u175, u176, u177, u178, u179, u180, u181, u182, u183, u184, u185, u186, u187, u188, u189, u190, u191, u192, u193, u194, u195, u196, u197, u198, u199, u200, u201, u202, u203, u204, u205, u206, u207, u208, u209, u210, u211, u212, u213, u214, u215, u216, u217, u218, u219, u220, u221, u222, u223, u224, u225, u226, u227, u228, u229, u230, u231, u232, u233, u234, u235, u236, u237, u238, u239, u240, u241, u242, u243, u244, u245, u246, u247, u248, u249, u250, u251, u252, u253, u254, u255, u256, u257, u258, u259, u260, u261, u262, u263, u264, u265, u266, u267, u268, u269, u270, u271, u272, u273, u274, u275, u276, u277, u278, u279, u280, u281, u282, u283, u284, u285, u286, u287, u288, u289, u290, u291, u292, u293, u294, u295, u296, u297, u298, u299, u300, u301, u302, u303, u304, u305, u306, u307, u308, u309, u310, u311, u312, u313, u314, u315, u316, u317, u318, u319, u320, u321, u322, u323, u324, u325, u326, u327, u328, u329, u330, u331, u332, u333, u334, u335, u336, u337, u338, u339, u340, u341, u342, u343, u344, u345, u346, u347, u348, u349, u350, u351, u352, u353, u354, u355, u356, u357, u358, u359, u360, u361, u362, u363, u364, u365, u366, u367, u368, u369, u370, u371, u372, u373, u374, u375, u376, u377, u378, u379, u380, u381, u382, u383, u384, u385, u386, u387, u388, u389, u390, u391, u392, u393, u394, u395, u396, u397, u398, u399, u400, u401, u402, u403, u404], defers := [] } w := by
  obtain ⟨Q', hQ'⟩ : ∃ Q', Q' = bodyPost Tryd.prog Tryd.f3 (LPost w0) := ⟨_, rfl⟩
  rw [← hQ'] at hK ⊢
  simp only [stAt, behind, seqFst, seqSnd, restFrom, headRegion, Tryd.f3, Option.getD_some, Nat.beq, cond_true, cond_false] at hK ⊢
  subst hQ'
  have HN := Lib.hid hN
  have HE := Lib.hid hE
  have Hup := Lib.hid hup
  have HI := Lib.hid hI63
  have HB := Lib.hid hB
  have Htab := Lib.hid htab
  clear hN hE hup hI63 hB htab
  have hnn : n * n ≤ 65536 := Nat.mul_le_mul hn hn
  have hmk := make_bools (n * n) hnn w
  have H0 := Lib.hid (MatAt.new n w)
  have HF0 : Hid (Fr (fun _ => False) w (w.alloc (.cells (madeCells #[.bool false] (n * n)) 4))) := (Fr.refl _ w).alloc _
  obtain ⟨W1, hW1⟩ : ∃ W1, W1 = w.alloc (.cells (madeCells #[.bool false] (n * n)) 4) := ⟨_, rfl⟩
  rw [← hW1] at hmk H0 HF0
  clear hW1
  obtain ⟨q, hq⟩ : ∃ q, n * n = q := ⟨_, rfl⟩
  have Hq := Lib.hid hq
  have hqi : (n : Int) * (n : Int) = (q : Int) := by rw [← hq, Int.natCast_mul]
  rw [hq] at hmk hnn
  have hq2 : (q : Int) ≤ 65536 := by omega
  clear hq
  by_cases hn0 : 0 < n
  · have hn1 : (0 : Int) < (n : Int) := by omega
    go_wp2
    go_loopg [18] (l + 1) (fun gk kv wr => ∃ k : Nat, k ≤ l + 1 ∧ gk = l + 1 - k ∧ kv = .int .i64 (k : Int) ∧ Fr (fun _ => False) w wr ∧ MatAt n w.heap.size wr)
    case atStart => exact ⟨0, by omega, by omega, rfl, HF0.out, H0.out⟩
    case round =>
      clear H0 HF0
      obtain ⟨k, hk, rfl, rfl, hF, hM⟩ := hrel
      have HF := Lib.hid hF
      have HM := Lib.hid hM
      clear hF hM
      by_cases hkl : k + 1 < l
      · have hk1 : (k : Int) + 1 < (l : Int) := by omega
        have hk2 : k < l := by omega
        obtain ⟨e1, he1, c1⟩ := HE.out k hk2
        obtain ⟨e2, he2, c2⟩ := HE.out (k + 1) hkl
        have d1 : wr.cell? ⟨gE, k, none⟩ = some (.int .u8 (e1 : Int)) := (HF.out.cell (p := ⟨gE, k, none⟩) hg.2 id).trans c1
        have d2 : wr.cell? ⟨gE, k + 1, none⟩ = some (.int .u8 (e2 : Int)) := (HF.out.cell (p := ⟨gE, k + 1, none⟩) hg.2 id).trans c2
        clear c1 c2
        go_upto_region 42 with fail
        obtain ⟨a, ha, han⟩ : ∃ a : Nat, (e1 : Int) % (n : Int) = (a : Int) ∧ a < n := ⟨e1 % n, by simp, Nat.mod_lt _ hn0⟩
        obtain ⟨b, hb, hbn⟩ : ∃ b : Nat, (e2 : Int) % (n : Int) = (b : Int) ∧ b < n := ⟨e2 % n, by simp, Nat.mod_lt _ hn0⟩
        rw [ha, hb]
        clear ha hb d1 d2 he1 he2
        by_cases hab : a = b
        · have e3 : ((a : Int) == (b : Int)) = true := by simp [hab]
          go_wp2
          go_roundg (l + 1 - (k + 2))
          case measure => omega
          case rel => exact ⟨k + 2, by omega, rfl, by simp, HF.out, HM.out⟩
        · have e3 : ((a : Int) == (b : Int)) = false := by rw [beq_eq_false_iff_ne]; omega
          go_upto_region 43 with fail
          obtain ⟨x1, m1⟩ := HM.out.cell han hbn
          have m2 := HM.out.free (a * n + b)
          have HM1 := Lib.hid (HM.out.set han hbn hab)
          have HF1 : Hid (Fr (fun _ => False) w (wr.setCell ⟨w.heap.size, a * n + b, none⟩ (.bool true))) := HF.out.setCell _ _ (fun h => absurd h (Nat.lt_irrefl _))
          have l1 := mat_lt han hbn
          rw [Hq.out] at l1
          obtain ⟨qa, hqa⟩ : ∃ q, a * n = q := ⟨_, rfl⟩
          have hqa' : (a : Int) * (n : Int) = (qa : Int) := by rw [← hqa, Int.natCast_mul]
          rw [hqa] at m1 m2 HM1 HF1 l1
          have l3 : (qa : Int) + (b : Int) < 65536 := by omega
          clear hqa HM HF
          go_upto_region 44 with fail
          obtain ⟨W2, hW2⟩ : ∃ W2, W2 = wr.setCell ⟨w.heap.size, qa + b, none⟩ (.bool true) := ⟨_, rfl⟩
          rw [← hW2] at HM1 HF1 ⊢
          obtain ⟨x3, m3⟩ := HM1.out.cell hbn han
          have m4 := HM1.out.free (b * n + a)
          have HM2 := Lib.hid (HM1.out.set hbn han (Ne.symm hab))
          have HF2 : Hid (Fr (fun _ => False) w (W2.setCell ⟨w.heap.size, b * n + a, none⟩ (.bool true))) := HF1.out.setCell _ _ (fun h => absurd h (Nat.lt_irrefl _))
          have l2 := mat_lt hbn han
          rw [Hq.out] at l2
          obtain ⟨qb, hqb⟩ : ∃ q, b * n = q := ⟨_, rfl⟩
          have hqb' : (b : Int) * (n : Int) = (qb : Int) := by rw [← hqb, Int.natCast_mul]
          rw [hqb] at m3 m4 HM2 HF2 l2
          have l4 : (qb : Int) + (a : Int) < 65536 := by omega
          clear HM1 HF1 hqb hW2 m1 m2 l1 l3 hqa'
          go_wp2
          go_roundg (l + 1 - (k + 2))
          case measure => omega
          case rel => exact ⟨k + 2, by omega, rfl, by simp, HF2.out, HM2.out⟩
      · have hk1 : decide ((k : Int) + 1 < (l : Int)) = false := decide_eq_false (by omega)
        have hk2 : ((k : Int) + 1 < (l : Int)) = False := eq_false (by omega)
        go_upto_region 45 with fail
        obtain ⟨cur, h1, h2, M, h3, h4⟩ := HM.out
        have hs := HF.out.size
        have := blk_lt h1
        obtain rfl := Hq.out
        exact law_E (M := M) hn HI.out Hup.out h3 (fun k hk => (HF.out.cell (p := ⟨gN, k, none⟩) hg.1 id).trans (HN.out k hk)) (fun i j hi hj => (blk_cell h1 _).trans (h4 i j hi hj)) (by omega) (HB.out.trans (HF.out.below HB.out.size (fun _ _ => id))) Htab.out (by assumption)
  · have hn1 : decide ((0 : Int) < (n : Int)) = false := decide_eq_false (by omega)
    go_upto_region 45 with fail
    obtain ⟨cur, h1, h2, M, h3, h4⟩ := H0.out
    have hs := HF0.out.size
    have := blk_lt h1
    obtain rfl := Hq.out
    exact law_E (M := M) hn HI.out Hup.out h3 (fun k hk => (HF0.out.cell (p := ⟨gN, k, none⟩) hg.1 id).trans (HN.out k hk)) (fun i j hi hj => (blk_cell h1 _).trans (h4 i j hi hj)) (by omega) (HB.out.trans (HF0.out.below HB.out.size (fun _ _ => id))) Htab.out (by assumption)
end Go.Proofs.Qxb6003964aDoor
