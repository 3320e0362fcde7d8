/-
  The law from the graph's rows on: the graph, Write, the fail branch.
-/
import Derived.Test.Qxb6003964aDoorCp
namespace Go.Proofs.Qxb6003964aDoor
open Go.ChangeShapes Go.WideShapes Go.ChangeAt Go.RowKit
open Go.Lib (byteCells decDigits nDigits)
variable {n gN cN gM gF gA cA : Nat} {I : Nat → Nat} {M : Nat → Nat → Bool} {w0 w : World} {fail : Bool}

theorem grOK (hn : n ≤ 256) (hI63 : ∀ i, i < n → I i < 9223372036854775808) (hc : offN M n n ≤ cA) : GrOK n (offN M n n) cA I (offN M n) (adjA M n) :=
  ⟨hn, Nat.le_trans (offN_le n) (Nat.mul_le_mul hn hn), hc, hI63, fun i _ => offN_mono (Nat.le_succ i), fun _ hi => offN_mono hi, fun _ hk => adjA_lt hk⟩

/-- The three worlds: the ids' row, the graph, the sink. -/
def wI (w : World) (n : Nat) (I : Nat → Nat) : World := w.alloc (.cells (i64Cells n (fun k => (I k : Int))).toArray 2)
def wG (w : World) (n m c gF gA : Nat) (I : Nat → Nat) : World := (wI w n I).alloc (.cells #[.slice (some ⟨w.heap.size, 0, none⟩) n n, .slice (some ⟨gF, 0, none⟩) (n + 1) (n + 1), .slice (some ⟨gA, 0, none⟩) m c] 40 (0, 0))
def wK (w : World) (n m c gF gA : Nat) (I : Nat → Nat) (fail : Bool) : World := (wG w n m c gF gA I).alloc (.cells #[.slice none 0 0, .bool fail] 32 (0, 0))
theorem wI_size : (wI w n I).heap.size = w.heap.size + 1 := by simp [wI]
theorem wG_size {m c : Nat} : (wG w n m c gF gA I).heap.size = w.heap.size + 2 := by simp [wG, wI]
theorem wK_size {m c : Nat} : (wK w n m c gF gA I fail).heap.size = w.heap.size + 3 := by simp [wK, wG, wI]
theorem wK_fr {m c : Nat} : Fr (fun _ => False) w (wK w n m c gF gA I fail) := ((((Fr.refl _ w).alloc _).alloc _).alloc _)
theorem wK_grAt {m c : Nat} {F A : Nat → Nat} (hF : ∀ k, k ≤ n → w.cell? ⟨gF, k, none⟩ = some (.int .i64 (F k : Int))) (hA : ∀ k, k < m → w.cell? ⟨gA, k, none⟩ = some (.int .i32 (A k : Int))) (h1 : gF < w.heap.size) (h2 : gA < w.heap.size) :
    GrAt (w.heap.size + 1) w.heap.size gF gA n m c I F A (wK w n m c gF gA I fail) := by
  refine ⟨?_, fun k hk => ?_, fun k hk => (wK_fr.cell (p := ⟨gF, k, none⟩) h1 id).trans (hF k hk), fun k hk => (wK_fr.cell (p := ⟨gA, k, none⟩) h2 id).trans (hA k hk), by rw [wK_size]; omega⟩
  · have := blk_old (o := .cells #[.slice none 0 0, .bool fail] 32 (0, 0)) (blk_new (wI w n I) (.cells #[.slice (some ⟨w.heap.size, 0, none⟩) n n, .slice (some ⟨gF, 0, none⟩) (n + 1) (n + 1), .slice (some ⟨gA, 0, none⟩) m c] 40 (0, 0)))
    rw [wI_size] at this
    exact this
  · have := blk_old (o := .cells #[.slice none 0 0, .bool fail] 32 (0, 0)) (blk_old (o := .cells #[.slice (some ⟨w.heap.size, 0, none⟩) n n, .slice (some ⟨gF, 0, none⟩) (n + 1) (n + 1), .slice (some ⟨gA, 0, none⟩) m c] 40 (0, 0)) (blk_new w (.cells (i64Cells n (fun k => (I k : Int))).toArray 2)))
    have h3 : (wK w n m c gF gA I fail).cell? ⟨w.heap.size, k, none⟩ = _ := blk_cell this k
    rw [h3, List.getElem?_toArray, i64Cells_get hk]
theorem wK_sink {m c : Nat} : (wK w n m c gF gA I fail).heap[w.heap.size + 2]? = some (.cells #[.slice none 0 0, .bool fail] 32 (0, 0)) := by
  have := blk_new (wG w n m c gF gA I) (.cells #[.slice none 0 0, .bool fail] 32 (0, 0))
  rw [wG_size] at this
  exact this
theorem write_wK (hn : n ≤ 256) (hI63 : ∀ i, i < n → I i < 9223372036854775808) (hc : offN M n n ≤ cA)
    (hF : ∀ k, k ≤ n → w.cell? ⟨gF, k, none⟩ = some (.int .i64 (offN M n k : Int))) (hA : ∀ k, k < offN M n n → w.cell? ⟨gA, k, none⟩ = some (.int .i32 (adjA M n k : Int)))
    (h1 : gF < w.heap.size) (h2 : gA < w.heap.size) (hB : Below w0.heap.size w0 w) (htab : Lib.TabIs Tryd.prog w0 Tryd.powName .u64 Lib.pow10Tab) :
    Calls Tryd.prog 6 #[.iface 30 (.pointer (some ⟨w.heap.size + 1 + 1, 0, none⟩)), .pointer (some ⟨w.heap.size + 1, 0, none⟩)] (wK w n (offN M n n) cA gF gA I fail) fun e w' => Fin' (w.heap.size + 5) (w.heap.size + 1 + 1) (wK w n (offN M n n) cA gF gA I fail) fail (textL I (linesTo M n n)) e w' := by
  have hB2 : Below w0.heap.size w0 (wK w n (offN M n n) cA gF gA I fail) := hB.trans (wK_fr.below hB.size (fun _ _ => id))
  have := write_any (K := w.heap.size + 2) (fail := fail) (grOK (M := M) hn hI63 hc) (wK_grAt hF hA h1 h2) wK_sink (by omega) ((Lib.tabBelow_of_tabIs htab).on hB2) (by have := hB.size; omega)
  rw [wK_size, text_eq n (Nat.le_refl n)] at this
  exact this

set_option maxRecDepth 100000 in
set_option maxHeartbeats 8000000 in
theorem law_H (hn : n ≤ 256) (hI63 : ∀ i, i < n → I i < 9223372036854775808) (hup : ∀ a b, a < b → b < n → I a < I b) (hirr : ∀ i, M i i = false)
    (hN : ∀ k, k < n → w.cell? ⟨gN, k, none⟩ = some (.int .i64 (I k : Int))) (hM : ∀ i j, i < n → j < n → w.cell? ⟨gM, i * n + j, none⟩ = some (.bool (M i j)))
    (hF : ∀ k, k ≤ n → w.cell? ⟨gF, k, none⟩ = some (.int .i64 (offN M n k : Int))) (hA : ∀ k, k < offN M n n → w.cell? ⟨gA, k, none⟩ = some (.int .i32 (adjA M n k : Int)))
    (hg : gN < w.heap.size ∧ gM < w.heap.size ∧ gF < w.heap.size ∧ gA < w.heap.size) (hc : offN M n n ≤ cA)
    (hB : Below w0.heap.size w0 w) (htab : Lib.TabIs Tryd.prog w0 Tryd.powName .u64 Lib.pow10Tab)
    {u0 u1 u3 u4 u5 u6 u7 u8 u9 u10 u11 u12 u13 u15 u18 u19 u20 u23 u24 u25 u26 u27 u28 u29 u30 u31 u32 u33 u34 u35 u36 u37 u38 u39 u40 u41 u42 u43 u44 u45 u46 u47 u48 u49 u50 u51 u52 u53 u54 u55 u56 u57 u58 u59 u60 u61 u62 u63 u64 u65 u66 u67 u68 u69 u70 u71 u72 u73 u74 u75 u76 u77 u78 u79 u80 u81 u82 u83 u84 u85 u86 u87 u88 u89 u90 u91 u92 u93 u94 u95 u96 u97 u98 u99 u100 u101 u102 u103 u104 u105 u106 u107 u108 u109 u110 u111 u112 u113 u114 u115 u116 u117 u118 u119 u120 u121 u122 u123 u124 u125 u126 u127 u128 u129 u130 u131 u132 u133 u134 u135 u136 u137 u138 u139 u140 u141 u142 u143 u144 u145 u146 u147 u148 u149 u150 u151 u152 u153 u154 u155 u156 u157 u158 u159 u160 u161 u162 u163 u164 u165 u166 u167 u168 u169 u170 u171 u172 u173 u174 u175 u176 u177 u178 u179 u180 u181 u182 u183 u184 u185 u186 u187 u188 u189 u190 u191 u192 u193 u194 u195 u196 u197 u198 u199 u200 u201 u202 u203 u204 u205 u206 u207 u208 u209 u210 u211 u212 u213 u214 u215 u216 u217 u218 u219 u220 u221 u222 u223 u224 u225 u226 u227 u228 u229 u230 u231 u232 u233 u234 u235 u236 u237 u238 u239 u240 u241 u242 u243 u244 u245 u246 u247 u248 u249 u250 u251 u252 u253 u254 u255 u256 u257 u258 u259 u260 u261 u262 u263 u264 u265 u266 u267 u268 u269 u270 u271 u272 u273 u274 u275 u276 u277 u278 u279 u280 u281 u282 u283 u284 u285 u286 u287 u288 u289 u290 u291 u292 u293 u294 u295 u296 u297 u298 u299 u300 u301 u302 u303 u304 u305 u306 u307 u308 u309 u310 u311 u312 u313 u314 u315 u316 u317 u318 u319 u320 u321 u322 u323 u324 u325 u326 u327 u328 u329 u330 u331 u332 u333 u334 u335 u336 u337 u338 u339 u340 u341 u342 u343 u344 u345 u346 u347 u348 u349 u350 u351 u352 u353 u354 u355 u356 u357 u358 u359 u360 u361 u362 u363 u364 u365 u366 u367 u368 u369 u370 u371 u372 u373 u374 u375 u376 u377 u378 u379 u380 u381 u382 u383 u384 u385 u386 u387 u388 u389 u390 u391 u392 u393 u394 u395 u396 u397 u398 u399 u400 u401 u402 u403 u404 : Value}
    {Kk : Act → World → Prop} (hK : ∀ a w, (behind Tryd.f3 56).wp Tryd.prog (bodyPost Tryd.prog Tryd.f3 (LPost w0)) a w → Kk a w) :
    (stAt Tryd.f3 56).wp Tryd.prog (Exit.then Kk (bodyPost Tryd.prog Tryd.f3 (LPost w0))) { tmps := #[u0, u1, (.bool fail), u3, u4, u5, u6, u7, u8, u9, u10, u11, u12, u13, (.slice (some ⟨gN, 0, none⟩) n cN), u15, (.int .i64 (n : Int)), (.slice (some ⟨gM, 0, none⟩) (n * n) (n * n)), u18, u19, u20, (.slice (some ⟨gF, 0, none⟩) (n + 1) (n + 1)), (.slice (some ⟨gA, 0, none⟩) (offN M n n) cA), u23, u24, u25, u26, u27, u28, u29, u30, u31, u32, u33, u34, u35, u36, u37, u38, u39, u40, u41, u42, u43, u44, u45, u46, u47, u48, u49, u50, u51, u52, u53, u54, u55, u56, u57, u58, u59, u60, u61, u62, u63, u64, u65, u66, u67, u68, u69, u70, u71, u72, u73, u74, u75, u76, u77, u78, u79, u80, u81, u82, u83, u84, u85, u86, u87, u88, u89, u90, u91, u92, u93, u94, u95, u96, u97, u98, u99, u100, u101, u102, u103, u104, u105, u106, u107, u108, u109, u110, u111, u112, u113, u114, u115, u116, u117, u118, u119, u120, u121, u122, u123, u124, u125, u126, u127, u128, u129, u130, u131, u132, u133, u134, u135, u136, u137, u138, u139, u140, u141, u142, u143, u144, u145, u146, u147, u148, u149, u150, u151, u152, u153, u154, u155, u156, u157, u158, u159, u160, u161, u162, u163, u164, u165, u166, u167, u168, u169, u170, u171, u172, u173, u174, u175, u176, u177, u178, u179, u180, u181, u182, u183, u184, u185, u186, u187, u188, u189, u190, u191, u192, u193, u194, u195, u196, u197, u198, u199, u200, u201, u202, u203, u204, u205, u206, u207, u208, u209, u210, u211, u212, u213, u214, u215, u216, u217, u218, u219, u220, u221, u222, u223, u224, u225, u226, u227, u228, u229, u230, u231, u232, u233, u234, u235, u236, u237, u238, u239, u240, u241, u242, u243, u244, u245, u246, u247, u248, u249, u250, u251, u252, u253, u254, u255, u256, u257, u258, u259, u260, u261, u262, u263, u264, u265, u266, u267, u268, u269, u270, u271, u272, u273, u274, u275, u276, u277, u278, u279, u280, u281, u282, u283, u284, u285, u286, u287, u288, u289, u290, u291, u292, u293, u294, u295, u296, u297, u298, u299, u300, u301, u302, u303, u304, u305, u306, u307, u308, u309, u310, u311, u312, u313, u314, u315, u316, u317, u318, u319, u320, u321, u322, u323, u324, u325, u326, u327, u328, u329, u330, u331, u332, u333, u334, u335, u336, u337, u338, u339, u340, u341, u342, u343, u344, u345, u346, u347, u348, u349, u350, u351, u352, u353, u354, u355, u356, u357, u358, u359, u360, u361, u362, u363, u364, u365, u366, u367, u368, u369, u370, u371, u372, u373, u374, u375, u376, u377, u378, u379, u380, u381, u382, u383, u384, u385, u386, u387, u388, u389, u390, u391, u392, u393, u394, u395, u396, u397, u398, u399, u400, u401, u402, u403, u404], defers := [] } w := by
  obtain ⟨Q', hQ'⟩ : ∃ Q', Q' = bodyPost Tryd.prog Tryd.f3 (LPost w0) := ⟨_, rfl⟩
  rw [← hQ'] at hK ⊢
  simp only [stAt, behind, seqFst, seqSnd, restFrom, headRegion, Tryd.f3, Option.getD_some, Nat.beq, cond_true, cond_false] at hK ⊢
  subst hQ'
  have HN := Lib.hid hN
  have HM := Lib.hid hM
  have Hup := Lib.hid hup
  have HI := Lib.hid hI63
  have HB := Lib.hid hB
  have Hirr := Lib.hid hirr
  have hmk := make_i64s n (by omega) w
  have hcp := copy_new 22 2 (.int .i64 0) 2 w n cN ⟨gN, 0, none⟩ (i64Cells n (fun k => (I k : Int))) Tryd.underlying22 size2 (i64Cells_len _ _) (fun j v hj => by
    obtain ⟨hjn, rfl⟩ := i64Cells_some hj
    rw [add_plain, Nat.zero_add]
    exact (((Fr.refl (fun _ => False) w).alloc _).cell (p := ⟨gN, j, none⟩) hg.1 id).trans (hN j hjn)) (i64Cells_one _ _)
  have hwr := Lib.hid (write_wK (fail := fail) hn hI63 hc hF hA hg.2.2.1 hg.2.2.2 hB htab)
  have hfr : Hid (Fr (fun _ => False) w (wK w n (offN M n n) cA gF gA I fail)) := wK_fr
  have hzg : ∀ w1 : World, Calls Tryd.prog 5 #[.slice (some ⟨w.heap.size, 0, none⟩) n n, .slice (some ⟨gF, 0, none⟩) (n + 1) (n + 1), .slice (some ⟨gA, 0, none⟩) (offN M n n) cA] w1 _ := fun w1 => zzgraph_any (w := w1) _ _ _ _ _ _ _ _ _
  have Hlim : Hid ((textL I (linesTo M n n)).length ≤ 16777216) := by
    have := text_lim0 (grOK (M := M) hn hI63 hc) (Nat.le_refl n)
    rwa [text_eq n (Nat.le_refl n)] at this
  have Hne := Lib.hid (fun h : 0 < n => text_ne (I := I) (M := M) h hirr)
  have Hg := Lib.hid hg
  clear hN hM hup hI63 hB htab hirr hF hA hg hc
  have hnn : n * n ≤ 65536 := Nat.mul_le_mul hn hn
  go_upto_region 58 with fail
  go_upto_region 60 with (go_at_call 5; refine (hzg _).mono ?_; rintro e1 w1 ⟨rfl, rfl⟩)
  go_upto_region 61 with (go_at_call 6; refine hwr.out.mono ?_; intro e1 w1 hfin; have Hfin := Lib.hid hfin; obtain ⟨x1, rfl⟩ := hfin.ret; clear hfin)
  clear hwr hzg hcp hmk
  cases fail
  · obtain ⟨hFr, ⟨-, hx, vg, hS⟩ | ⟨hno, -⟩⟩ := Hfin.out
    · obtain rfl : x1 = .nilIface := by simpa using hx
      have HS := Lib.hid hS
      have hF2 : Hid (Fr (fun _ => False) w w1) := hfr.out.trans' hFr (fun i hi e => by omega)
      have hsz : w1.heap.size ≥ w.heap.size := hF2.out.size
      clear hFr hS hx
      have hN' : Hid (∀ k, k < n → w1.cell? ⟨gN, k, none⟩ = some (.int .i64 (I k : Int))) := fun k hk => (hF2.out.cell (p := ⟨gN, k, none⟩) Hg.out.1 id).trans (HN.out k hk)
      have hM' : Hid (∀ i j, i < n → j < n → w1.cell? ⟨gM, i * n + j, none⟩ = some (.bool (M i j))) := fun i j hi hj => (hF2.out.cell (p := ⟨gM, i * n + j, none⟩) Hg.out.2.1 id).trans (HM.out i j hi hj)
      have hB' : Hid (Below w0.heap.size w0 w1) := HB.out.trans (hF2.out.below HB.out.size (fun _ _ => id))
      clear hF2
      go_upto_region 65 with fail
      exact law_F hn HI.out Hup.out hN'.out hM'.out HS.out hB'.out Hlim.out (by assumption)
    · exact absurd hno (by simp)
  · obtain ⟨hFr, ⟨hno, -⟩ | ⟨-, hc⟩⟩ := Hfin.out
    · exact absurd hno (by simp)
    · have hF2 : Hid (Fr (fun _ => False) w w1) := hfr.out.trans' hFr (fun i hi e => by omega)
      have hB' : Hid (Below w0.heap.size w0 w1) := HB.out.trans (hF2.out.below HB.out.size (fun _ _ => id))
      clear hFr hF2
      rcases hc with ⟨hT, hx⟩ | ⟨hT, a1, hx⟩
      · obtain rfl : x1 = .nilIface := by simpa using hx
        have hn0 : n = 0 := Decidable.byContradiction fun h => Hne.out (by omega) hT
        have hn1 : decide ((0 : Int) < (n : Int)) = false := decide_eq_false (by omega)
        have hn2 : ((0 : Int) < (n : Int)) = False := eq_false (by omega)
        clear hx hT
        go_wp2
        go_ret
        exact ⟨rfl, hB'.out⟩
      · obtain rfl : x1 = .iface 75 (.pointer (some a1)) := by simpa using hx
        have hn0 : 0 < n := Decidable.byContradiction fun h => hT (by
          obtain rfl : n = 0 := by omega
          rfl)
        have hn1 : decide ((0 : Int) < (n : Int)) = true := decide_eq_true (by omega)
        have hn2 : ((0 : Int) < (n : Int)) = True := eq_true (by omega)
        clear hx hT
        go_wp2
        go_ret
        exact ⟨rfl, hB'.out⟩
end Go.Proofs.Qxb6003964aDoor
