/-
  The law from its nodes on.
-/
import Derived.Test.Qxb6003964aDoorLawD
import Derived.Test.Qxb6003964aDoorNums
namespace Go.Proofs.Qxb6003964aDoor
open Go.ChangeShapes Go.WideShapes Go.ChangeAt Go.RowKit
open Go.Lib (byteCells decDigits nDigits)
variable {gS cS s gE cE l : Nat} {T : Nat → Nat} {w0 w : World} {fail : Bool}

set_option maxRecDepth 100000 in
set_option maxHeartbeats 8000000 in
theorem law_C (hs : s ≤ 256) (hS : RowN gS s T w) (hsrt : Srt T s) (hl : l ≤ 4096) (hE : ∀ k, k < l → ∃ e : Nat, e < 256 ∧ w.cell? ⟨gE, k, none⟩ = some (.int .u8 (e : Int)))
    (hg : gE < w.heap.size) (hB : Below w0.heap.size w0 w) (htab : Lib.TabIs Tryd.prog w0 Tryd.powName .u64 Lib.pow10Tab)
    {u0 u3 u4 u5 u6 u7 u8 u10 u11 u12 u13 u14 u15 u16 u17 u18 u19 u20 u21 u22 u23 u24 u25 u26 u27 u28 u29 u30 u31 u32 u33 u34 u35 u36 u37 u38 u39 u40 u41 u42 u43 u44 u45 u46 u47 u48 u49 u50 u51 u52 u53 u54 u55 u56 u57 u58 u59 u60 u61 u62 u63 u64 u65 u66 u67 u68 u69 u70 u71 u72 u73 u74 u75 u76 u77 u78 u79 u80 u81 u82 u83 u84 u85 u86 u87 u88 u89 u90 u91 u92 u93 u94 u95 u96 u97 u98 u99 u100 u101 u102 u103 u104 u105 u106 u107 u108 u109 u110 u111 u112 u113 u114 u115 u116 u117 u118 u119 u120 u121 u122 u123 u124 u125 u126 u127 u128 u129 u130 u131 u132 u133 u134 u135 u136 u137 u138 u139 u140 u141 u142 u143 u144 u145 u146 u147 u148 u149 u150 u151 u152 u153 u154 u155 u156 u157 u158 u159 u160 u161 u162 u163 u164 u165 u166 u167 u168 u169 u170 u171 u172 u173 u174 u175 u176 u177 u178 u179 u180 u181 u182 u183 u184 u185 u186 u187 u188 u189 u190 u191 u192 u193 u194 u195 u196 u197 u198 u199 u200 u201 u202 u203 u204 u205 u206 u207 u208 u209 u210 u211 u212 u213 u214 u215 u216 u217 u218 u219 u220 u221 u222 u223 u224 u225 u226 u227 u228 u229 u230 u231 u232 u233 u234 u235 u236 u237 u238 u239 u240 u241 u242 u243 u244 u245 u246 u247 u248 u249 u250 u251 u252 u253 u254 u255 u256 u257 u258 u259 u260 u261 u262 u263 u264 u265 u266 u267 u268 u269 u270 u271 u272 u273 u274 u275 u276 u277 u278 u279 u280 u281 u282 u283 u284 u285 u286 u287 u288 u289 u290 u291 u292 u293 u294 u295 u296 u297 u298 u299 u300 u301 u302 u303 u304 u305 u306 u307 u308 u309 u310 u311 u312 u313 u314 u315 u316 u317 u318 u319 u320 u321 u322 u323 u324 u325 u326 u327 u328 u329 u330 u331 u332 u333 u334 u335 u336 u337 u338 u339 u340 u341 u342 u343 u344 u345 u346 u347 u348 u349 u350 u351 u352 u353 u354 u355 u356 u357 u358 u359 u360 u361 u362 u363 u364 u365 u366 u367 u368 u369 u370 u371 u372 u373 u374 u375 u376 u377 u378 u379 u380 u381 u382 u383 u384 u385 u386 u387 u388 u389 u390 u391 u392 u393 u394 u395 u396 u397 u398 u399 u400 u401 u402 u403 u404 : Value}
    {Kk : Act → World → Prop} (hK : ∀ a w, (behind Tryd.f3 28).wp Tryd.prog (bodyPost Tryd.prog Tryd.f3 (LPost w0)) a w → Kk a w) :
    (stAt Tryd.f3 28).wp Tryd.prog (Exit.then Kk (bodyPost Tryd.prog Tryd.f3 (LPost w0))) { tmps := #[u0, (.slice (some ⟨gE, 0, none⟩) l cE), (.bool fail), u3, u4, u5, u6, u7, u8, (.slice (some ⟨gS, 0, none⟩) s cS), u10, u11, u12, u13, u14, u15, u16, u17, u18, u19, u20, u21, u22, u23, u24, u25, u26, u27, u28, u29, u30, u31, u32, u33, u34, u35, u36, u37, u38, u39, u40, u41, u42, u43, u44, u45, u46, u47, u48, u49, u50, u51, u52, u53, u54, u55, u56, u57, u58, u59, u60, u61, u62, u63, u64, u65, u66, u67, u68, u69, u70, u71, u72, u73, u74, u75, u76, u77, u78, u79, u80, u81, u82, u83, u84, u85, u86, u87, u88, u89, u90, u91, u92, u93, u94, u95, u96, u97, u98, u99, u100, u101, u102, u103, u104, u105, u106, u107, u108, u109, u110, u111, u112, u113, u114, u115, u116, u117, u118, u119, u120, u121, u122, u123, u124, u125, u126, u127, u128, u129, u130, u131, u132, u133, u134, u135, u136, u137, u138, u139, u140, u141, u142, u143, u144, u145, u146, u147, u148, u149, u150, u151, u152, u153, u154, u155, u156, u157, u158, u159, u160, u161, u162, u163, u164, u165, u166, u167, u168, u169, u170, u171, u172, u173, u174, u175, u176, u177, u178, u179, u180, u181, u182, u183, u184, u185, u186, u187, u188, u189, u190, u191, u192, u193, u194, u195, u196, u197, u198, u199, u200, u201, u202, u203, u204, u205, u206, u207, u208, u209, u210, u211, u212, u213, u214, u215, u216, u217, u218, u219, u220, u221, u222, u223, u224, u225, u226, u227, u228, u229, u230, u231, u232, u233, u234, u235, u236, u237, u238, u239, u240, u241, u242, u243, u244, u245, u246, u247, u248, u249, u250, u251, u252, u253, u254, u255, u256, u257, u258, u259, u260, u261, u262, u263, u264, u265, u266, u267, u268, u269, u270, u271, u272, u273, u274, u275, u276, u277, u278, u279, u280, u281, u282, u283, u284, u285, u286, u287, u288, u289, u290, u291, u292, u293, u294, u295, u296, u297, u298, u299, u300, u301, u302, u303, u304, u305, u306, u307, u308, u309, u310, u311, u312, u313, u314, u315, u316, u317, u318, u319, u320, u321, u322, u323, u324, u325, u326, u327, u328, u329, u330, u331, u332, u333, u334, u335, u336, u337, u338, u339, u340, u341, u342, u343, u344, u345, u346, u347, u348, u349, u350, u351, u352, u353, u354, u355, u356, u357, u358, u359, u360, u361, u362, u363, u364, u365, u366, u367, u368, u369, u370, u371, u372, u373, u374, u375, u376, u377, u378, u379, u380, u381, u382, u383, u384, u385, u386, u387, u388, u389, u390, u391, u392, u393, u394, u395, u396, u397, u398, u399, u400, u401, u402, u403, u404], defers := [] } w := by
  obtain ⟨Q', hQ'⟩ : ∃ Q', Q' = bodyPost Tryd.prog Tryd.f3 (LPost w0) := ⟨_, rfl⟩
  rw [← hQ'] at hK ⊢
  simp only [stAt, behind, seqFst, seqSnd, restFrom, headRegion, Tryd.f3, Option.getD_some, Nat.beq, cond_true, cond_false] at hK ⊢
  subst hQ'
  have HS := Lib.hid hS
  have HT := Lib.hid hsrt
  have HE := Lib.hid hE
  have HB := Lib.hid hB
  have Htab := Lib.hid htab
  clear hS hsrt hE hB htab
  obtain ⟨W1, hmk, h0⟩ := nums_make w s (by omega)
  have H0 := Lib.hid h0
  clear h0
  go_wp2
  go_loopg [14, 15] s (fun gk av iv wr => ∃ (i : Nat) (xs : List Nat), i ≤ s ∧ gk = s - i ∧ iv = .int .i64 (i : Int) ∧ Nums w av xs wr ∧ Ded T i xs)
  case atStart => exact ⟨0, [], by omega, by omega, rfl, H0.out, Ded.start⟩
  case round =>
    clear H0 hmk
    obtain ⟨i, xs, hi, rfl, rfl, hN, hD⟩ := hrel
    have HN := Lib.hid hN
    have HD := Lib.hid hD
    have hlen : xs.length ≤ 256 := Nat.le_trans hD.len (by omega)
    obtain ⟨gN, cN, rfl, -, -, -, -⟩ := hN.shape
    clear hN hD
    by_cases hin : i < s
    · have hin' : (i : Int) < (s : Int) := by omega
      have c1 : wr.cell? ⟨gS, i, none⟩ = some (.int .i64 (T i : Int)) := (HN.out.fr.cell (p := ⟨gS, i, none⟩) HS.out.lt id).trans (HS.out.cell hin)
      have ht : T i < 9223372036854775808 := HS.out.lim hin
      by_cases hx : xs = []
      · subst hx
        have HD' : Hid (Ded T (i + 1) ([] ++ [T i])) := HD.out.push (.inl (HD.out.nil rfl))
        go_wp2_with fail
        go_quiet (fail)
        go_wp2_with (at_builtin; refine wpList_appN rfl _ _ rfl (j := T i) (HN.out.drewN _) ht (by simp) rfl rfl ?_; intro v' w' h'; have H' := Lib.hid h'; clear h')
        go_roundg (s - (i + 1))
        case measure => omega
        case rel => exact ⟨i + 1, _, by omega, rfl, by simp, H'.out, HD'.out⟩
      · obtain ⟨m, hm⟩ : ∃ m, xs.length = m + 1 := ⟨xs.length - 1, by have := List.length_pos_iff.2 hx; omega⟩
        obtain ⟨gN', cN', hav, hc, h1, h2, hR⟩ := HN.out.shape
        obtain ⟨rfl, rfl⟩ : gN' = gN ∧ cN' = cN := by simpa [eq_comm] using hav
        obtain ⟨y, hy⟩ : ∃ y, T (i - 1) = y := ⟨_, rfl⟩
        have c2 : wr.cell? ⟨gN', m, none⟩ = some (.int .i64 (y : Int)) := by
          have h3 := hR.cell (k := m) (by omega)
          have h4 := HD.out.lastCell hx
          rw [hm, Nat.add_sub_cancel, hy] at h4
          rw [h4] at h3
          exact h3
        have hi0 : 0 < i := Nat.pos_of_ne_zero fun e => by have := HD.out.len; omega
        have hyT : y ≤ T i := by rw [← hy]; exact HT.out (i - 1) i (by omega) hin
        have hy63 : y < 9223372036854775808 := by omega
        rw [hm] at HN hlen ⊢
        have hm1 : IntKind.i64.wrap (m : Int) = (m : Int) := by rw [IntKind.wrap_i64]; omega
        have hm2 : ((m : Int) + 1 = 0) = False := eq_false (by omega)
        have hm3 : ((m : Int) + 1 == 0) = false := by rw [beq_eq_false_iff_ne]; omega
        have hm4 : (m : Int) < (m : Int) + 1 := by omega
        have hm5 : m < m + 1 := by omega
        by_cases hey : y = T i
        · have HD' : Hid (Ded T (i + 1) xs) := HD.out.skip hx (hy.trans hey)
          rw [hey] at c2
          clear hav hc h1 h2 hR hyT hy63 hy HD
          go_wp2_with fail
          go_quiet (fail)
          go_wp2_with fail
          go_roundg (s - (i + 1))
          case measure => omega
          case rel => exact ⟨i + 1, _, by omega, rfl, by simp, HN.out.drewN _, HD'.out⟩
        · have HD' : Hid (Ded T (i + 1) (xs ++ [T i])) := HD.out.push (.inr (by rw [hy]; omega))
          have hlx : Hid (xs.length ≤ 65536) := by have : xs.length ≤ 65536 := by omega
                                                   exact this
          obtain ⟨z, hz⟩ : ∃ z, T i = z := ⟨_, rfl⟩
          rw [hz] at c1 ht hey hyT HD'
          have e3 : ((y : Int) == (z : Int)) = false := by rw [beq_eq_false_iff_ne]; omega
          clear hav hc h1 h2 hR hyT hy63 hy HD hz
          go_wp2_with fail
          go_quiet (fail)
          go_wp2_with (at_builtin; refine wpList_appN rfl _ _ rfl (j := z) (HN.out.drewN _) ht hlx.out rfl rfl ?_; intro v' w' h'; have H' := Lib.hid h'; clear h')
          go_roundg (s - (i + 1))
          case measure => omega
          case rel => exact ⟨i + 1, _, by omega, rfl, by simp, H'.out, HD'.out⟩
    · have e : s = i := by omega
      subst e
      obtain ⟨gN', cN', hav, hc, h1, h2, hR⟩ := HN.out.shape
      have HR := Lib.hid hR
      obtain ⟨rfl, rfl⟩ : gN' = gN ∧ cN' = cN := by simpa [eq_comm] using hav
      have hB' : Hid (Below w0.heap.size w0 wr) := HB.out.trans (HN.out.fr.below HB.out.size (fun _ _ => id))
      have hE' : Hid (∀ k, k < l → ∃ e : Nat, e < 256 ∧ wr.cell? ⟨gE, k, none⟩ = some (.int .u8 (e : Int))) := fun k hk => by
        obtain ⟨e, he, h⟩ := HE.out k hk
        exact ⟨e, he, (HN.out.fr.cell (p := ⟨gE, k, none⟩) hg id).trans h⟩
      have hg' : Hid (gN' < wr.heap.size ∧ gE < wr.heap.size) := ⟨h2, by have := HN.out.fr.size; omega⟩
      clear hav hc h1 h2 hR HN
      go_upto_region 35 with fail
      exact law_D hlen (fun k hk => HR.out.lim hk) HD.out.rise (fun k hk => HR.out.cell hk) hl hE'.out hg'.out hB'.out Htab.out (by assumption)
end Go.Proofs.Qxb6003964aDoor
