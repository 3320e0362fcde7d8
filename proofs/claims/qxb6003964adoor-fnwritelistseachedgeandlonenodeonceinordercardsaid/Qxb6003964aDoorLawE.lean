/-
  The law from its rows off and adj on: the graph, Write, the fail branch.
-/
import Derived.Test.Qxb6003964aDoorLawH
namespace Go.Proofs.Qxb6003964aDoor
open Go.ChangeShapes Go.WideShapes Go.ChangeAt Go.RowKit
open Go.Lib (byteCells decDigits nDigits)
variable {n gN cN gM : Nat} {I : Nat → Nat} {M : Nat → Nat → Bool} {w0 w : World} {fail : Bool}

theorem offadj_start : OffAdj n M w 0 (.slice (some ⟨w.heap.size + 1, 0, none⟩) 0 0) (adjL M n 0) ((w.alloc (.cells (madeCells #[.int .i64 0] (n + 1)) 3)).alloc (.cells (madeCells #[.int .i32 0] 0) 21)) := by
  refine ⟨((Fr.refl _ _).alloc _).alloc _, ⟨_, blk_old (blk_new w _), by simp [madeCells], fun k hk => ?_⟩, ⟨by simp [adjL, i32Cells], .inr ⟨w.heap.size + 1, 0, madeCells #[.int .i32 0] 0, by simp [adjL], Nat.le_refl _, ?_, by simp [adjL], by simp [maxLen], ?_, by simp [adjL, i32Cells]⟩⟩, by simp, by simp⟩
  · obtain rfl : k = 0 := by omega
    have hs : (madeCells #[Value.int .i64 0] (n + 1)).size = n + 1 := by simp [madeCells]
    simp [madeCells, offN, adjL]
  · have := blk_new (w.alloc (.cells (madeCells #[.int .i64 0] (n + 1)) 3)) (.cells (madeCells #[.int .i32 0] 0) 21)
    simpa using this
  · simp [madeCells]
def adjIn (M : Nat → Nat → Bool) (n i j : Nat) : List Nat := adjL M n i ++ (List.range j).filter (fun j => M i j)
theorem adjIn_succ (i j : Nat) : adjIn M n i (j + 1) = adjIn M n i j ++ (if M i j = true then [j] else []) := by
  unfold adjIn
  rw [List.range_succ, List.filter_append, ← List.append_assoc]
  cases h : M i j <;> simp [h]
theorem adjIn_len {i j : Nat} (hn : n ≤ 256) (hi : i < n) (hj : j ≤ n) : (adjIn M n i j).length ≤ 65536 := by
  unfold adjIn
  rw [List.length_append]
  have h1 : (adjL M n i).length ≤ i * n := offN_le i
  have h2 := List.length_filter_le (fun j => M i j) (List.range j)
  rw [List.length_range] at h2
  have h3 : i * n ≤ 255 * 256 := Nat.mul_le_mul (by omega) hn
  omega

set_option maxRecDepth 100000 in
set_option maxHeartbeats 8000000 in
theorem law_E (hn : n ≤ 256) (hI63 : ∀ i, i < n → I i < 9223372036854775808) (hup : ∀ a b, a < b → b < n → I a < I b) (hirr : ∀ i, M i i = false)
    (hN : ∀ k, k < n → w.cell? ⟨gN, k, none⟩ = some (.int .i64 (I k : Int))) (hM : ∀ i j, i < n → j < n → w.cell? ⟨gM, i * n + j, none⟩ = some (.bool (M i j)))
    (hg : gN < w.heap.size ∧ gM < w.heap.size) (hB : Below w0.heap.size w0 w) (htab : Lib.TabIs Tryd.prog w0 Tryd.powName .u64 Lib.pow10Tab)
    {u0 u1 u3 u4 u5 u6 u7 u8 u9 u10 u11 u12 u13 u15 u18 u19 u20 u21 u22 u23 u24 u25 u26 u27 u28 u29 u30 u31 u32 u33 u34 u35 u36 u37 u38 u39 u40 u41 u42 u43 u44 u45 u46 u47 u48 u49 u50 u51 u52 u53 u54 u55 u56 u57 u58 u59 u60 u61 u62 u63 u64 u65 u66 u67 u68 u69 u70 u71 u72 u73 u74 u75 u76 u77 u78 u79 u80 u81 u82 u83 u84 u85 u86 u87 u88 u89 u90 u91 u92 u93 u94 u95 u96 u97 u98 u99 u100 u101 u102 u103 u104 u105 u106 u107 u108 u109 u110 u111 u112 u113 u114 u115 u116 u117 u118 u119 u120 u121 u122 u123 u124 u125 u126 u127 u128 u129 u130 u131 u132 u133 u134 u135 u136 u137 u138 u139 u140 u141 u142 u143 u144 u145 u146 u147 u148 u149 u150 u151 u152 u153 u154 u155 u156 u157 u158 u159 u160 u161 u162 u163 u164 u165 u166 u167 u168 u169 u170 u171 u172 u173 u174 u175 u176 u177 u178 u179 u180 u181 u182 u183 u184 u185 u186 u187 u188 u189 u190 u191 u192 u193 u194 u195 u196 u197 u198 u199 u200 u201 u202 u203 u204 u205 u206 u207 u208 u209 u210 u211 u212 u213 u214 u215 u216 u217 u218 u219 u220 u221 u222 u223 u224 u225 u226 u227 u228 u229 u230 u231 u232 u233 u234 u235 u236 u237 u238 u239 u240 u241 u242 u243 u244 u245 u246 u247 u248 u249 u250 u251 u252 u253 u254 u255 u256 u257 u258 u259 u260 u261 u262 u263 u264 u265 u266 u267 u268 u269 u270 u271 u272 u273 u274 u275 u276 u277 u278 u279 u280 u281 u282 u283 u284 u285 u286 u287 u288 u289 u290 u291 u292 u293 u294 u295 u296 u297 u298 u299 u300 u301 u302 u303 u304 u305 u306 u307 u308 u309 u310 u311 u312 u313 u314 u315 u316 u317 u318 u319 u320 u321 u322 u323 u324 u325 u326 u327 u328 u329 u330 u331 u332 u333 u334 u335 u336 u337 u338 u339 u340 u341 u342 u343 u344 u345 u346 u347 u348 u349 u350 u351 u352 u353 u354 u355 u356 u357 u358 u359 u360 u361 u362 u363 u364 u365 u366 u367 u368 u369 u370 u371 u372 u373 u374 u375 u376 u377 u378 u379 u380 u381 u382 u383 u384 u385 u386 u387 u388 u389 u390 u391 u392 u393 u394 u395 u396 u397 u398 u399 u400 u401 u402 u403 u404 : Value}
    {Kk : Act → World → Prop} (hK : ∀ a w, (behind Tryd.f3 45).wp Tryd.prog (bodyPost Tryd.prog Tryd.f3 (LPost w0)) a w → Kk a w) :
    (stAt Tryd.f3 45).wp Tryd.prog (Exit.then Kk (bodyPost Tryd.prog Tryd.f3 (LPost w0))) { tmps := #[u0, u1, (.bool fail), u3, u4, u5, u6, u7, u8, u9, u10, u11, u12, u13, (.slice (some ⟨gN, 0, none⟩) n cN), u15, (.int .i64 (n : Int)), (.slice (some ⟨gM, 0, none⟩) (n * n) (n * n)), u18, u19, u20, u21, u22, u23, u24, u25, u26, u27, u28, u29, u30, u31, u32, u33, u34, u35, u36, u37, u38, u39, u40, u41, u42, u43, u44, u45, u46, u47, u48, u49, u50, u51, u52, u53, u54, u55, u56, u57, u58, u59, u60, u61, u62, u63, u64, u65, u66, u67, u68, u69, u70, u71, u72, u73, u74, u75, u76, u77, u78, u79, u80, u81, u82, u83, u84, u85, u86, u87, u88, u89, u90, u91, u92, u93, u94, u95, u96, u97, u98, u99, u100, u101, u102, u103, u104, u105, u106, u107, u108, u109, u110, u111, u112, u113, u114, u115, u116, u117, u118, u119, u120, u121, u122, u123, u124, u125, u126, u127, u128, u129, u130, u131, u132, u133, u134, u135, u136, u137, u138, u139, u140, u141, u142, u143, u144, u145, u146, u147, u148, u149, u150, u151, u152, u153, u154, u155, u156, u157, u158, u159, u160, u161, u162, u163, u164, u165, u166, u167, u168, u169, u170, u171, u172, u173, u174, u175, u176, u177, u178, u179, u180, u181, u182, u183, u184, u185, u186, u187, u188, u189, u190, u191, u192, u193, u194, u195, u196, u197, u198, u199, u200, u201, u202, u203, u204, u205, u206, u207, u208, u209, u210, u211, u212, u213, u214, u215, u216, u217, u218, u219, u220, u221, u222, u223, u224, u225, u226, u227, u228, u229, u230, u231, u232, u233, u234, u235, u236, u237, u238, u239, u240, u241, u242, u243, u244, u245, u246, u247, u248, u249, u250, u251, u252, u253, u254, u255, u256, u257, u258, u259, u260, u261, u262, u263, u264, u265, u266, u267, u268, u269, u270, u271, u272, u273, u274, u275, u276, u277, u278, u279, u280, u281, u282, u283, u284, u285, u286, u287, u288, u289, u290, u291, u292, u293, u294, u295, u296, u297, u298, u299, u300, u301, u302, u303, u304, u305, u306, u307, u308, u309, u310, u311, u312, u313, u314, u315, u316, u317, u318, u319, u320, u321, u322, u323, u324, u325, u326, u327, u328, u329, u330, u331, u332, u333, u334, u335, u336, u337, u338, u339, u340, u341, u342, u343, u344, u345, u346, u347, u348, u349, u350, u351, u352, u353, u354, u355, u356, u357, u358, u359, u360, u361, u362, u363, u364, u365, u366, u367, u368, u369, u370, u371, u372, u373, u374, u375, u376, u377, u378, u379, u380, u381, u382, u383, u384, u385, u386, u387, u388, u389, u390, u391, u392, u393, u394, u395, u396, u397, u398, u399, u400, u401, u402, u403, u404], defers := [] } w := by
  obtain ⟨Q', hQ'⟩ : ∃ Q', Q' = bodyPost Tryd.prog Tryd.f3 (LPost w0) := ⟨_, rfl⟩
  rw [← hQ'] at hK ⊢
  simp only [stAt, behind, seqFst, seqSnd, restFrom, headRegion, Tryd.f3, Option.getD_some, Nat.beq, cond_true, cond_false] at hK ⊢
  subst hQ'
  have HN := Lib.hid hN
  have HM := Lib.hid hM
  have Hup := Lib.hid hup
  have HI := Lib.hid hI63
  have HB := Lib.hid hB
  have Htab := Lib.hid htab
  have Hirr := Lib.hid hirr
  clear hN hM hup hI63 hB htab hirr
  have hnn : n * n ≤ 65536 := Nat.mul_le_mul hn hn
  have hmk := make_ints (n + 1) (by omega) w
  rw [Int.natCast_add] at hmk
  have hmk : (Instr.makeSlice 26 (.int .i64 ((n : Int) + 1)) (.int .i64 ((n : Int) + 1))).run Tryd.prog w = .ok (.slice (some ⟨w.heap.size, 0, none⟩) (n + 1) (n + 1)) (w.alloc (.cells (madeCells #[.int .i64 0] (n + 1)) 3)) := hmk
  have hmk2 := make_i32s 0 (by omega) (w.alloc (.cells (madeCells #[.int .i64 0] (n + 1)) 3))
  have hmk2 : (Instr.makeSlice 27 (.int .i64 0) (.int .i64 0)).run Tryd.prog (w.alloc (.cells (madeCells #[.int .i64 0] (n + 1)) 3)) = .ok (.slice (some ⟨w.heap.size + 1, 0, none⟩) 0 0) ((w.alloc (.cells (madeCells #[.int .i64 0] (n + 1)) 3)).alloc (.cells (madeCells #[.int .i32 0] 0) 21)) := by simpa using hmk2
  go_wp2
  clear hmk hmk2
  have H0 := Lib.hid (offadj_start (n := n) (M := M) (w := w))
  go_loopg [22, 23] n (fun gk av iv wr => ∃ i : Nat, i ≤ n ∧ gk = n - i ∧ iv = .int .i64 (i : Int) ∧ OffAdj n M w i av (adjL M n i) wr)
  case atStart => exact ⟨0, by omega, by omega, rfl, H0.out⟩
  case round =>
    clear H0
    obtain ⟨i, hi, rfl, rfl, hoa⟩ := hrel
    have HO := Lib.hid hoa
    clear hoa
    by_cases hin : i < n
    · have hin' : (i : Int) < (n : Int) := by omega
      obtain ⟨q, hq⟩ : ∃ q, i * n = q := ⟨_, rfl⟩
      have hqi : (i : Int) * (n : Int) = (q : Int) := by rw [← hq, Int.natCast_mul]
      have hq0 : q + n ≤ n * n := by
        rw [← hq]
        have : (i + 1) * n ≤ n * n := Nat.mul_le_mul_right n hin
        rw [Nat.add_mul, Nat.one_mul] at this
        exact this
      have HM' : Hid (∀ j, j < n → w.cell? ⟨gM, q + j, none⟩ = some (.bool (M i j))) := fun j hj => by rw [← hq]; exact HM.out i j hin hj
      clear hq
      go_wp2
      go_loopg [22, 24] n (fun gk av jv wr => ∃ j : Nat, j ≤ n ∧ gk = n - j ∧ jv = .int .i64 (j : Int) ∧ OffAdj n M w i av (adjIn M n i j) wr)
      case atStart => exact ⟨0, by omega, by omega, rfl, by unfold adjIn; simpa using HO.out⟩
      case round =>
        clear HO
        obtain ⟨j, hj, rfl, rfl, hoa⟩ := hrel
        have HO := Lib.hid hoa
        clear hoa
        by_cases hjn : j < n
        · have hjn' : (j : Int) < (n : Int) := by omega
          have cj : wr.cell? ⟨gM, q + j, none⟩ = some (.bool (M i j)) := (HO.out.fr.cell (p := ⟨gM, q + j, none⟩) hg.2 id).trans (HM'.out j hjn)
          have hqj : (q : Int) + (j : Int) < 65536 := by omega
          have hqj2 : q + j < n * n := by omega
          have Hs := Lib.hid (adjIn_succ (M := M) (n := n) i j)
          cases hm : M i j with
          | false =>
            rw [hm] at cj
            go_wp2
            go_roundg (n - (j + 1))
            case measure => omega
            case rel => exact ⟨j + 1, by omega, rfl, by simp, by rw [Hs.out, hm]; simpa using HO.out⟩
          | true =>
            rw [hm] at cj
            have hl := adjIn_len (M := M) hn hin hj
            go_wp2_with (at_builtin; refine wpList_appJ rfl _ _ rfl (j := j) HO.out hl rfl rfl ?_; intro v' w' h'; have H' := Lib.hid h'; clear h')
            go_roundg (n - (j + 1))
            case measure => omega
            case rel => exact ⟨j + 1, by omega, rfl, by simp, by rw [Hs.out, hm]; exact H'.out⟩
        · have e : n = j := by omega
          subst e
          have hadj : adjIn M n i n = adjL M n i ++ rowJ M n i := rfl
          rw [hadj] at HO
          obtain ⟨ga, ca, hav, hca, -, hga, -⟩ := HO.out.shape
          subst hav
          obtain ⟨cur, o1, o2, -⟩ := HO.out.off
          have HS := Lib.hid (HO.out.store hin)
          obtain ⟨x, hx⟩ : ∃ x, cur[i + 1]? = some x := ⟨cur[i + 1]'(by omega), Array.getElem?_eq_getElem (by omega)⟩
          have c1 : wr.cell? ⟨w.heap.size, i + 1, none⟩ = some x := (blk_cell o1 _).trans hx
          have c2 : wr.frozen? ⟨w.heap.size, i + 1, none⟩ = false := blk_free o1 _
          have hin2 : i + 1 < n + 1 := by omega
          clear HO HM' o1 o2 hx hadj
          go_wp2
          go_roundg (n - (i + 1))
          case measure => omega
          case rel => exact ⟨i + 1, by omega, rfl, by simp, by have := HS.out; rw [List.length_append, Int.natCast_add] at this; rw [List.length_append]; exact this⟩
    · have e : n = i := by omega
      subst e
      obtain ⟨ga, ca, hav, hca, -, hga, hcells⟩ := HO.out.shape
      subst hav
      obtain ⟨cur, o1, o2, o3⟩ := HO.out.off
      have hF : Hid (∀ k, k ≤ n → wr.cell? ⟨w.heap.size, k, none⟩ = some (.int .i64 (offN M n k : Int))) := fun k hk => (blk_cell o1 k).trans (o3 k hk)
      have hA : Hid (∀ k, k < offN M n n → wr.cell? ⟨ga, k, none⟩ = some (.int .i32 (adjA M n k : Int))) := fun k hk => hcells k _ (by
        unfold offN at hk
        unfold i32Cells adjA
        rw [List.getElem?_map, List.getElem?_eq_getElem hk, Option.map_some, List.getD_eq_getElem?_getD, List.getElem?_eq_getElem hk, Option.getD_some])
      have hN' : Hid (∀ k, k < n → wr.cell? ⟨gN, k, none⟩ = some (.int .i64 (I k : Int))) := fun k hk => (HO.out.fr.cell (p := ⟨gN, k, none⟩) hg.1 id).trans (HN.out k hk)
      have hM' : Hid (∀ i j, i < n → j < n → wr.cell? ⟨gM, i * n + j, none⟩ = some (.bool (M i j))) := fun i j hi hj => (HO.out.fr.cell (p := ⟨gM, i * n + j, none⟩) hg.2 id).trans (HM.out i j hi hj)
      have hsz : Hid (gN < wr.heap.size ∧ gM < wr.heap.size ∧ w.heap.size < wr.heap.size ∧ ga < wr.heap.size) := by
        have := HO.out.sz; exact ⟨by omega, by omega, by omega, hga⟩
      have hB' : Hid (Below w0.heap.size w0 wr) := HB.out.trans (HO.out.fr.below HB.out.size (fun _ _ => id))
      have hca' := Lib.hid hca
      have hl : (adjL M n n).length = offN M n n := rfl
      rw [hl]
      clear o1 o2 o3 hcells HO hca hga
      go_upto_region 56 with fail
      exact law_H hn HI.out Hup.out Hirr.out hN'.out hM'.out hF.out hA.out hsz.out hca'.out hB'.out Htab.out (by assumption)
end Go.Proofs.Qxb6003964aDoor
