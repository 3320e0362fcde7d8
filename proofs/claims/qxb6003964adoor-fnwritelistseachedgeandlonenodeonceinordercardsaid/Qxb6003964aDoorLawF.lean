/-
  The law's last part but one: how many lines are wanted.
-/
import Derived.Test.Qxb6003964aDoorLawG
namespace Go.Proofs.Qxb6003964aDoor
open Go.ChangeShapes Go.WideShapes Go.ChangeAt Go.RowKit
open Go.Lib (byteCells decDigits nDigits)
variable {B K n gN cN gM : Nat} {I : Nat → Nat} {M : Nat → Nat → Bool} {vg : Value} {w0 w : World}

def degN (M : Nat → Nat → Bool) (i k : Nat) : Nat := ((List.range k).filter (fun j => M i j)).length
def upN (M : Nat → Nat → Bool) (i k : Nat) : Nat := ((List.range k).filter (fun j => M i j && decide (i < j))).length
theorem degN_succ (i k : Nat) : degN M i (k + 1) = degN M i k + (if M i k = true then 1 else 0) := by
  unfold degN
  rw [List.range_succ, List.filter_append, List.length_append]
  cases h : M i k <;> simp [h]
theorem upN_succ (i k : Nat) : upN M i (k + 1) = upN M i k + (if M i k = true ∧ i < k then 1 else 0) := by
  unfold upN
  rw [List.range_succ, List.filter_append, List.length_append]
  cases h : M i k <;> by_cases h2 : i < k <;> simp [h, h2]
theorem degN_le (i k : Nat) : degN M i k ≤ k := by
  have := List.length_filter_le (fun j => M i j) (List.range k)
  rwa [List.length_range] at this
theorem upN_le (i k : Nat) : upN M i k ≤ k := by
  have := List.length_filter_le (fun j => M i j && decide (i < j)) (List.range k)
  rwa [List.length_range] at this
theorem nodeLines_len (i : Nat) : (nodeLines M n i).length = upN M i n + (if degN M i n = 0 then 1 else 0) := by
  unfold nodeLines
  by_cases h : rowJ M n i = []
  · rw [if_pos h, if_pos (by unfold degN; unfold rowJ at h; rw [h]; rfl)]
    have : upN M i n = 0 := by
      unfold rowJ at h
      unfold upN
      rw [List.filter_eq_nil_iff] at h
      rw [List.length_eq_zero_iff, List.filter_eq_nil_iff]
      intro a ha
      have := h a ha
      simp at this
      simp [this]
    rw [this]; rfl
  · rw [if_neg h, if_neg (by unfold degN; unfold rowJ at h; intro e; exact h (List.length_eq_zero_iff.1 e)), List.length_map]
    unfold rowJ upN
    rw [List.filter_filter]
    simp only [Bool.and_comm, Nat.add_zero]
theorem linesTo_succ (k : Nat) : (linesTo M n (k + 1)).length = (linesTo M n k).length + upN M k n + (if degN M k n = 0 then 1 else 0) := by
  unfold linesTo
  rw [List.range_succ, List.flatMap_append, List.length_append, List.flatMap_cons, List.flatMap_nil, List.append_nil, nodeLines_len]
  omega
theorem linesTo_le (k : Nat) : (linesTo M n k).length ≤ k * (n + 1) := by
  induction k with
  | zero => simp [linesTo]
  | succ k ih =>
    rw [linesTo_succ]
    have := upN_le (M := M) k n
    rw [Nat.add_mul, Nat.one_mul]
    split <;> omega

def WantIn (M : Nat → Nat → Bool) (n i : Nat) (w : World) (gk : Nat) (wv dv jv : Value) (wr : World) : Prop :=
  ∃ j : Nat, j ≤ n ∧ gk = n - j ∧ jv = .int .i64 (j : Int) ∧ dv = .int .i64 (degN M i j : Int) ∧ wv = .int .i64 (((linesTo M n i).length + upN M i j : Nat) : Int) ∧ w = wr

set_option maxRecDepth 100000 in
set_option maxHeartbeats 8000000 in
theorem law_F (hn : n ≤ 256) (hI63 : ∀ i, i < n → I i < 9223372036854775808) (hup : ∀ a b, a < b → b < n → I a < I b)
    (hN : ∀ k, k < n → w.cell? ⟨gN, k, none⟩ = some (.int .i64 (I k : Int))) (hM : ∀ i j, i < n → j < n → w.cell? ⟨gM, i * n + j, none⟩ = some (.bool (M i j)))
    (hS : SinkAt B K false vg (textL I (linesTo M n n)) w) (hB : Below w0.heap.size w0 w) (hlim : (textL I (linesTo M n n)).length ≤ 16777216)
    {u0 u1 u2 u3 u4 u5 u6 u7 u8 u9 u10 u11 u12 u13 u15 u18 u19 u20 u21 u22 u23 u24 u25 u26 u28 u29 u30 u31 u32 u33 u34 u35 u36 u37 u38 u39 u40 u41 u42 u43 u44 u45 u46 u47 u48 u49 u50 u51 u52 u53 u54 u55 u56 u57 u58 u59 u60 u61 u62 u63 u64 u65 u66 u67 u68 u69 u70 u71 u72 u73 u74 u75 u76 u77 u78 u79 u80 u81 u82 u83 u84 u85 u86 u87 u88 u89 u90 u91 u92 u93 u94 u95 u96 u97 u98 u99 u100 u101 u102 u103 u104 u105 u106 u107 u108 u109 u110 u111 u112 u113 u114 u115 u116 u117 u118 u119 u120 u121 u122 u123 u124 u125 u126 u127 u128 u129 u130 u131 u132 u133 u134 u135 u136 u137 u138 u139 u140 u141 u142 u143 u144 u145 u146 u147 u148 u149 u150 u151 u152 u153 u154 u155 u156 u157 u158 u159 u160 u161 u162 u163 u164 u165 u166 u167 u168 u169 u170 u171 u172 u173 u174 u175 u176 u177 u178 u179 u180 u181 u182 u183 u184 u185 u186 u187 u188 u189 u190 u191 u192 u193 u194 u195 u196 u197 u198 u199 u200 u201 u202 u203 u204 u205 u206 u207 u208 u209 u210 u211 u212 u213 u214 u215 u216 u217 u218 u219 u220 u221 u222 u223 u224 u225 u226 u227 u228 u229 u230 u231 u232 u233 u234 u235 u236 u237 u238 u239 u240 u241 u242 u243 u244 u245 u246 u247 u248 u249 u250 u251 u252 u253 u254 u255 u256 u257 u258 u259 u260 u261 u262 u263 u264 u265 u266 u267 u268 u269 u270 u271 u272 u273 u274 u275 u276 u277 u278 u279 u280 u281 u282 u283 u284 u285 u286 u287 u288 u289 u290 u291 u292 u293 u294 u295 u296 u297 u298 u299 u300 u301 u302 u303 u304 u305 u306 u307 u308 u309 u310 u311 u312 u313 u314 u315 u316 u317 u318 u319 u320 u321 u322 u323 u324 u325 u326 u327 u328 u329 u330 u331 u332 u333 u334 u335 u336 u337 u338 u339 u340 u341 u342 u343 u344 u345 u346 u347 u348 u349 u350 u351 u352 u353 u354 u355 u356 u357 u358 u359 u360 u361 u362 u363 u364 u365 u366 u367 u368 u369 u370 u371 u372 u373 u374 u375 u376 u377 u378 u379 u380 u381 u382 u383 u384 u385 u386 u387 u388 u389 u390 u391 u392 u393 u394 u395 u396 u397 u398 u399 u400 u401 u402 u403 u404 : Value}
    {Kk : Act → World → Prop} (hK : ∀ a w, (behind Tryd.f3 65).wp Tryd.prog (bodyPost Tryd.prog Tryd.f3 (LPost w0)) a w → Kk a w) :
    (stAt Tryd.f3 65).wp Tryd.prog (Exit.then Kk (bodyPost Tryd.prog Tryd.f3 (LPost w0))) { tmps := #[u0, u1, u2, u3, u4, u5, u6, u7, u8, u9, u10, u11, u12, u13, (.slice (some ⟨gN, 0, none⟩) n cN), u15, (.int .i64 (n : Int)), (.slice (some ⟨gM, 0, none⟩) (n * n) (n * n)), u18, u19, u20, u21, u22, u23, u24, u25, u26, (.pointer (some ⟨K, 0, none⟩)), u28, u29, u30, u31, u32, u33, u34, u35, u36, u37, u38, u39, u40, u41, u42, u43, u44, u45, u46, u47, u48, u49, u50, u51, u52, u53, u54, u55, u56, u57, u58, u59, u60, u61, u62, u63, u64, u65, u66, u67, u68, u69, u70, u71, u72, u73, u74, u75, u76, u77, u78, u79, u80, u81, u82, u83, u84, u85, u86, u87, u88, u89, u90, u91, u92, u93, u94, u95, u96, u97, u98, u99, u100, u101, u102, u103, u104, u105, u106, u107, u108, u109, u110, u111, u112, u113, u114, u115, u116, u117, u118, u119, u120, u121, u122, u123, u124, u125, u126, u127, u128, u129, u130, u131, u132, u133, u134, u135, u136, u137, u138, u139, u140, u141, u142, u143, u144, u145, u146, u147, u148, u149, u150, u151, u152, u153, u154, u155, u156, u157, u158, u159, u160, u161, u162, u163, u164, u165, u166, u167, u168, u169, u170, u171, u172, u173, u174, u175, u176, u177, u178, u179, u180, u181, u182, u183, u184, u185, u186, u187, u188, u189, u190, u191, u192, u193, u194, u195, u196, u197, u198, u199, u200, u201, u202, u203, u204, u205, u206, u207, u208, u209, u210, u211, u212, u213, u214, u215, u216, u217, u218, u219, u220, u221, u222, u223, u224, u225, u226, u227, u228, u229, u230, u231, u232, u233, u234, u235, u236, u237, u238, u239, u240, u241, u242, u243, u244, u245, u246, u247, u248, u249, u250, u251, u252, u253, u254, u255, u256, u257, u258, u259, u260, u261, u262, u263, u264, u265, u266, u267, u268, u269, u270, u271, u272, u273, u274, u275, u276, u277, u278, u279, u280, u281, u282, u283, u284, u285, u286, u287, u288, u289, u290, u291, u292, u293, u294, u295, u296, u297, u298, u299, u300, u301, u302, u303, u304, u305, u306, u307, u308, u309, u310, u311, u312, u313, u314, u315, u316, u317, u318, u319, u320, u321, u322, u323, u324, u325, u326, u327, u328, u329, u330, u331, u332, u333, u334, u335, u336, u337, u338, u339, u340, u341, u342, u343, u344, u345, u346, u347, u348, u349, u350, u351, u352, u353, u354, u355, u356, u357, u358, u359, u360, u361, u362, u363, u364, u365, u366, u367, u368, u369, u370, u371, u372, u373, u374, u375, u376, u377, u378, u379, u380, u381, u382, u383, u384, u385, u386, u387, u388, u389, u390, u391, u392, u393, u394, u395, u396, u397, u398, u399, u400, u401, u402, u403, u404], defers := [] } w := by
  have HG : Hid (SinkAt B K false vg (textL I (linesTo M n n)) w) := hS
  have HN := Lib.hid hN
  have HM := Lib.hid hM
  have Hup := Lib.hid hup
  have HI := Lib.hid hI63
  have HB := Lib.hid hB
  have Hlim := Lib.hid hlim
  clear hS hN hM hup hI63 hB hlim
  have hnn : n * n ≤ 65536 := Nat.mul_le_mul hn hn
  obtain ⟨Q', hQ'⟩ : ∃ Q', Q' = bodyPost Tryd.prog Tryd.f3 (LPost w0) := ⟨_, rfl⟩
  rw [← hQ'] at hK ⊢
  simp only [stAt, behind, seqFst, seqSnd, restFrom, headRegion, Tryd.f3, Option.getD_some, Nat.beq, cond_true, cond_false] at hK ⊢
  subst hQ'
  go_wp2
  go_loopg [29, 30] n (fun gk wv iv wr => ∃ i : Nat, i ≤ n ∧ gk = n - i ∧ iv = .int .i64 (i : Int) ∧ wv = .int .i64 ((linesTo M n i).length : Int) ∧ w = wr)
  case atStart => exact ⟨0, by omega, by omega, rfl, rfl, rfl⟩
  case round =>
    obtain ⟨i, hi, rfl, rfl, rfl, hw⟩ := hrel
    subst hw
    by_cases hin : i < n
    · obtain ⟨q, hq⟩ : ∃ q, i * n = q := ⟨_, rfl⟩
      have hqi : (i : Int) * (n : Int) = (q : Int) := by rw [← hq, Int.natCast_mul]
      have hq0 : q + n ≤ n * n := by
        rw [← hq]
        have : (i + 1) * n ≤ n * n := Nat.mul_le_mul_right n hin
        rw [Nat.add_mul, Nat.one_mul] at this
        exact this
      have hLi : (linesTo M n i).length ≤ 65792 := Nat.le_trans (linesTo_le i) (Nat.mul_le_mul (by omega : i ≤ 256) (by omega : n + 1 ≤ 257))
      have Hsucc := Lib.hid (linesTo_succ (M := M) (n := n) i)
      have HM' : Hid (∀ j, j < n → w.cell? ⟨gM, q + j, none⟩ = some (.bool (M i j))) := fun j hj => by rw [← hq]; exact HM.out i j hin hj
      clear hq
      go_wp2
      go_loopg [29, 31, 32] n (fun gk wv dv jv wr => WantIn M n i w gk wv dv jv wr)
      case atStart => exact ⟨0, by omega, by omega, rfl, rfl, rfl, rfl⟩
      case round =>
        obtain ⟨j, hj, rfl, rfl, rfl, rfl, hw⟩ := hrel
        subst hw
        have hdl := degN_le (M := M) i j
        have hul := upN_le (M := M) i j
        by_cases hjn : j < n
        · have cj := HM'.out j hjn
          have hds := degN_succ (M := M) i j
          have hus := upN_succ (M := M) i j
          have Hds := Lib.hid hds
          have Hus := Lib.hid hus
          clear hds hus
          have hqj : (q : Int) + (j : Int) < 65536 := by omega
          have hqj2 : q + j < n * n := by omega
          have hjn' : (j : Int) < (n : Int) := by omega
          obtain ⟨d, hd⟩ : ∃ d, degN M i j = d := ⟨_, rfl⟩
          obtain ⟨s, hs⟩ : ∃ s, (linesTo M n i).length + upN M i j = s := ⟨_, rfl⟩
          have Hd := Lib.hid hd
          have Hs := Lib.hid hs
          rw [hd] at hdl
          rw [hd, hs]
          have hs1 : (s : Int) ≤ 131072 := by omega
          have hd1 : (d : Int) ≤ 256 := by omega
          clear hd hs hdl hul
          cases hm : M i j with
          | false =>
            rw [hm] at cj
            go_wp2
            go_roundg (n - (j + 1))
            case measure => omega
            case rel => exact ⟨j + 1, by omega, rfl, by simp, by rw [Hds.out, Hd.out, hm]; simp, by rw [Hus.out, hm, ← Hs.out]; simp, rfl⟩
          | true =>
            rw [hm] at cj
            by_cases hij : i < j
            · have h1 : decide ((i : Int) < (j : Int)) = true := decide_eq_true (by omega)
              have h2 : ((i : Int) < (j : Int)) = True := eq_true (by omega)
              go_wp2
              go_roundg (n - (j + 1))
              case measure => omega
              case rel => exact ⟨j + 1, by omega, rfl, by simp, by rw [Hds.out, Hd.out, hm]; simp, by rw [Hus.out, hm, if_pos ⟨rfl, hij⟩, ← Nat.add_assoc, Hs.out]; simp, rfl⟩
            · have h1 : decide ((i : Int) < (j : Int)) = false := decide_eq_false (by omega)
              have h2 : ((i : Int) < (j : Int)) = False := eq_false (by omega)
              go_wp2
              go_roundg (n - (j + 1))
              case measure => omega
              case rel => exact ⟨j + 1, by omega, rfl, by simp, by rw [Hds.out, Hd.out, hm]; simp, by rw [Hus.out, hm, if_neg (fun h => hij h.2), Nat.add_zero, Hs.out], rfl⟩
        · obtain rfl : j = n := by omega
          obtain ⟨s, hs⟩ : ∃ s, (linesTo M j i).length + upN M i j = s := ⟨_, rfl⟩
          rw [hs] at Hsucc ⊢
          have hs1 : (s : Int) ≤ 131072 := by omega
          have Hs := Lib.hid hs
          clear hs
          by_cases hd0 : degN M i j = 0
          · rw [hd0] at Hsucc ⊢
            go_wp2
            go_roundg (j - (i + 1))
            case measure => omega
            case rel => exact ⟨i + 1, by omega, rfl, by simp, by rw [Hsucc.out]; simp, rfl⟩
          · have hd1 : ((degN M i j : Int) == 0) = false := by rw [beq_eq_false_iff_ne]; omega
            go_wp2
            go_roundg (j - (i + 1))
            case measure => omega
            case rel => exact ⟨i + 1, by omega, rfl, by simp, by rw [Hsucc.out, if_neg hd0]; simp, rfl⟩
    · obtain rfl : i = n := by omega
      go_upto_region 79 with fail
      exact law_G hn HI.out Hup.out HN.out HM.out HG.out HB.out Hlim.out (by assumption)
end Go.Proofs.Qxb6003964aDoor
