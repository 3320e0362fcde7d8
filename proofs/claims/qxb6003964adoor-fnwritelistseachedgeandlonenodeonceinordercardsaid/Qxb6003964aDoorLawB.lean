/-
  The law from its sort on.
-/
import Derived.Test.Qxb6003964aDoorLawC
namespace Go.Proofs.Qxb6003964aDoor
open Go.ChangeShapes Go.WideShapes Go.ChangeAt Go.RowKit
open Go.Lib (byteCells decDigits nDigits)
variable {gS cS s gE cE l : Nat} {T : Nat → Nat} {w0 w : World} {fail : Bool}

def InSort (gS s i x : Nat) (w : World) (gk : Nat) (jv : Value) (wr : World) : Prop :=
  ∃ (j : Nat) (T : Nat → Nat), j ≤ i ∧ j = gk ∧ jv = .int .i64 (j : Int) ∧ Fr (fun k => k = gS) w wr ∧ RowN gS s T wr ∧ Hole T i j x
def OutSort (gS s : Nat) (w : World) (gk : Nat) (iv : Value) (wr : World) : Prop :=
  ∃ (i : Nat) (T : Nat → Nat), i ≤ 257 ∧ gk = 257 - i ∧ iv = .int .i64 (i : Int) ∧ Fr (fun k => k = gS) w wr ∧ RowN gS s T wr ∧ Srt T i

set_option maxRecDepth 100000 in
set_option maxHeartbeats 8000000 in
theorem law_B (hs : s ≤ 256) (hS : RowN gS s T w) (hl : l ≤ 4096) (hE : ∀ k, k < l → ∃ e : Nat, e < 256 ∧ w.cell? ⟨gE, k, none⟩ = some (.int .u8 (e : Int)))
    (hg : gE < w.heap.size) (hd : gE ≠ gS) (hb : w0.heap.size ≤ gS) (hB : Below w0.heap.size w0 w) (htab : Lib.TabIs Tryd.prog w0 Tryd.powName .u64 Lib.pow10Tab)
    {u0 u3 u4 u5 u6 u7 u8 u10 u11 u12 u13 u14 u15 u16 u17 u18 u19 u20 u21 u22 u23 u24 u25 u26 u27 u28 u29 u30 u31 u32 u33 u34 u35 u36 u37 u38 u39 u40 u41 u42 u43 u44 u45 u46 u47 u48 u49 u50 u51 u52 u53 u54 u55 u56 u57 u58 u59 u60 u61 u62 u63 u64 u65 u66 u67 u68 u69 u70 u71 u72 u73 u74 u75 u76 u77 u78 u79 u80 u81 u82 u83 u84 u85 u86 u87 u88 u89 u90 u91 u92 u93 u94 u95 u96 u97 u98 u99 u100 u101 u102 u103 u104 u105 u106 u107 u108 u109 u110 u111 u112 u113 u114 u115 u116 u117 u118 u119 u120 u121 u122 u123 u124 u125 u126 u127 u128 u129 u130 u131 u132 u133 u134 u135 u136 u137 u138 u139 u140 u141 u142 u143 u144 u145 u146 u147 u148 u149 u150 u151 u152 u153 u154 u155 u156 u157 u158 u159 u160 u161 u162 u163 u164 u165 u166 u167 u168 u169 u170 u171 u172 u173 u174 u175 u176 u177 u178 u179 u180 u181 u182 u183 u184 u185 u186 u187 u188 u189 u190 u191 u192 u193 u194 u195 u196 u197 u198 u199 u200 u201 u202 u203 u204 u205 u206 u207 u208 u209 u210 u211 u212 u213 u214 u215 u216 u217 u218 u219 u220 u221 u222 u223 u224 u225 u226 u227 u228 u229 u230 u231 u232 u233 u234 u235 u236 u237 u238 u239 u240 u241 u242 u243 u244 u245 u246 u247 u248 u249 u250 u251 u252 u253 u254 u255 u256 u257 u258 u259 u260 u261 u262 u263 u264 u265 u266 u267 u268 u269 u270 u271 u272 u273 u274 u275 u276 u277 u278 u279 u280 u281 u282 u283 u284 u285 u286 u287 u288 u289 u290 u291 u292 u293 u294 u295 u296 u297 u298 u299 u300 u301 u302 u303 u304 u305 u306 u307 u308 u309 u310 u311 u312 u313 u314 u315 u316 u317 u318 u319 u320 u321 u322 u323 u324 u325 u326 u327 u328 u329 u330 u331 u332 u333 u334 u335 u336 u337 u338 u339 u340 u341 u342 u343 u344 u345 u346 u347 u348 u349 u350 u351 u352 u353 u354 u355 u356 u357 u358 u359 u360 u361 u362 u363 u364 u365 u366 u367 u368 u369 u370 u371 u372 u373 u374 u375 u376 u377 u378 u379 u380 u381 u382 u383 u384 u385 u386 u387 u388 u389 u390 u391 u392 u393 u394 u395 u396 u397 u398 u399 u400 u401 u402 u403 u404 : Value}
    {Kk Kj : Act → World → Prop} (hK : ∀ a w, (behind Tryd.f3 19).wp Tryd.prog (bodyPost Tryd.prog Tryd.f3 (LPost w0)) a w → Kk a w)
    (hJ : ∀ a w, (seqSnd (stAt Tryd.f3 19)).wp Tryd.prog (Exit.then Kk (bodyPost Tryd.prog Tryd.f3 (LPost w0))) a w → Kj a w) :
    (seqFst (stAt Tryd.f3 19)).wp Tryd.prog (Exit.then Kj (Exit.then Kk (bodyPost Tryd.prog Tryd.f3 (LPost w0)))) { tmps := #[u0, (.slice (some ⟨gE, 0, none⟩) l cE), (.bool fail), u3, u4, u5, u6, u7, u8, (.slice (some ⟨gS, 0, none⟩) s cS), u10, u11, u12, u13, u14, u15, u16, u17, u18, u19, u20, u21, u22, u23, u24, u25, u26, u27, u28, u29, u30, u31, u32, u33, u34, u35, u36, u37, u38, u39, u40, u41, u42, u43, u44, u45, u46, u47, u48, u49, u50, u51, u52, u53, u54, u55, u56, u57, u58, u59, u60, u61, u62, u63, u64, u65, u66, u67, u68, u69, u70, u71, u72, u73, u74, u75, u76, u77, u78, u79, u80, u81, u82, u83, u84, u85, u86, u87, u88, u89, u90, u91, u92, u93, u94, u95, u96, u97, u98, u99, u100, u101, u102, u103, u104, u105, u106, u107, u108, u109, u110, u111, u112, u113, u114, u115, u116, u117, u118, u119, u120, u121, u122, u123, u124, u125, u126, u127, u128, u129, u130, u131, u132, u133, u134, u135, u136, u137, u138, u139, u140, u141, u142, u143, u144, u145, u146, u147, u148, u149, u150, u151, u152, u153, u154, u155, u156, u157, u158, u159, u160, u161, u162, u163, u164, u165, u166, u167, u168, u169, u170, u171, u172, u173, u174, u175, u176, u177, u178, u179, u180, u181, u182, u183, u184, u185, u186, u187, u188, u189, u190, u191, u192, u193, u194, u195, u196, u197, u198, u199, u200, u201, u202, u203, u204, u205, u206, u207, u208, u209, u210, u211, u212, u213, u214, u215, u216, u217, u218, u219, u220, u221, u222, u223, u224, u225, u226, u227, u228, u229, u230, u231, u232, u233, u234, u235, u236, u237, u238, u239, u240, u241, u242, u243, u244, u245, u246, u247, u248, u249, u250, u251, u252, u253, u254, u255, u256, u257, u258, u259, u260, u261, u262, u263, u264, u265, u266, u267, u268, u269, u270, u271, u272, u273, u274, u275, u276, u277, u278, u279, u280, u281, u282, u283, u284, u285, u286, u287, u288, u289, u290, u291, u292, u293, u294, u295, u296, u297, u298, u299, u300, u301, u302, u303, u304, u305, u306, u307, u308, u309, u310, u311, u312, u313, u314, u315, u316, u317, u318, u319, u320, u321, u322, u323, u324, u325, u326, u327, u328, u329, u330, u331, u332, u333, u334, u335, u336, u337, u338, u339, u340, u341, u342, u343, u344, u345, u346, u347, u348, u349, u350, u351, u352, u353, u354, u355, u356, u357, u358, u359, u360, u361, u362, u363, u364, u365, u366, u367, u368, u369, u370, u371, u372, u373, u374, u375, u376, u377, u378, u379, u380, u381, u382, u383, u384, u385, u386, u387, u388, u389, u390, u391, u392, u393, u394, u395, u396, u397, u398, u399, u400, u401, u402, u403, u404], defers := [] } w := by
  obtain ⟨Q', hQ'⟩ : ∃ Q', Q' = bodyPost Tryd.prog Tryd.f3 (LPost w0) := ⟨_, rfl⟩
  rw [← hQ'] at hK hJ ⊢
  simp only [stAt, behind, seqFst, seqSnd, restFrom, headRegion, Tryd.f3, Option.getD_some, Nat.beq, cond_true, cond_false] at hK hJ ⊢
  subst hQ'
  have HS := Lib.hid hS
  have HE := Lib.hid hE
  have HB := Lib.hid hB
  have Htab := Lib.hid htab
  have Hd := Lib.hid hd
  have Hb := Lib.hid hb
  clear hS hE hB htab hd hb
  go_wp2
  go_loopg [11] 256 (fun gk iv wr => OutSort gS s w gk iv wr)
  case atStart => exact ⟨1, T, by omega, by omega, rfl, Fr.refl _ _, HS.out, fun a b h1 h2 => by omega⟩
  case round =>
    clear HS
    obtain ⟨i, T1, hi, rfl, rfl, hF, hR, hT⟩ := hrel
    have HF := Lib.hid hF
    have HR := Lib.hid hR
    have HT := Lib.hid hT
    clear hF hR hT
    by_cases hin : i < s
    · have hin' : (i : Int) < (s : Int) := by omega
      have c1 := HR.out.cell hin
      have hx63 := HR.out.lim hin
      have H0 : Hid (Hole T1 i i (T1 i)) := Hole.start HT.out
      obtain ⟨x, hx⟩ : ∃ x, T1 i = x := ⟨_, rfl⟩
      rw [hx] at c1 hx63 H0
      clear hx
      go_wp2
      go_loopg [13] i (fun gk jv wr => InSort gS s i x w gk jv wr)
      case atStart => exact ⟨i, T1, Nat.le_refl _, rfl, rfl, HF.out, HR.out, H0.out⟩
      case round =>
        clear H0 HF HR HT c1
        obtain ⟨j, T2, hj, rfl, rfl, hF, hR, hT⟩ := hrel
        have HF := Lib.hid hF
        have HR := Lib.hid hR
        have HT := Lib.hid hT
        clear hF hR hT
        by_cases hj0 : j = 0
        · subst hj0
          have HS' : Hid (Srt (upd T2 0 x) (i + 1)) := HT.out.stop (.inl rfl)
          have HR' := Lib.hid (HR.out.set (j := 0) (x := x) (by omega) hx63)
          have c2 := HR.out.cell (k := 0) (by omega)
          have c3 := HR.out.free 0
          have HF' : Hid (Fr (fun k => k = gS) w (wr.setCell ⟨gS, 0, none⟩ (.int .i64 (x : Int)))) := HF.out.setCell _ _ (fun _ => rfl)
          have h0s : 0 < s := by omega
          clear HF HR HT
          go_wp2
          go_roundg (257 - (i + 1))
          case measure => omega
          case rel => exact ⟨i + 1, _, by omega, rfl, by simp, HF'.out, HR'.out, HS'.out⟩
        · obtain ⟨m, rfl⟩ : ∃ m, j = m + 1 := ⟨j - 1, by omega⟩
          have c2 := HR.out.cell (k := m) (by omega)
          have c3 := HR.out.cell (k := m + 1) (by omega)
          have c4 := HR.out.free (m + 1)
          have hy63 := HR.out.lim (k := m) (by omega)
          have hm1 : IntKind.i64.wrap (m : Int) = (m : Int) := by rw [IntKind.wrap_i64]; omega
          have hm2 : ((m : Int) + 1 = 0) = False := eq_false (by omega)
          have hm3 : decide ((0 : Int) < (m : Int) + 1) = true := decide_eq_true (by omega)
          have hm4 : ((0 : Int) < (m : Int) + 1) = True := eq_true (by omega)
          have hm5 : m < s := by omega
          have hm6 : m + 1 < s := by omega
          have hm7 : (m : Int) < 256 := by omega
          by_cases hxy : x < T2 m
          · have HT' : Hid (Hole (upd T2 (m + 1) (T2 m)) i m x) := HT.out.step (Nat.succ_pos m) hxy
            have HR' := Lib.hid (HR.out.set (j := m + 1) (x := T2 m) hm6 hy63)
            obtain ⟨y, hy⟩ : ∃ y, T2 m = y := ⟨_, rfl⟩
            rw [hy] at c2 HT' HR' hxy hy63
            have HF' : Hid (Fr (fun k => k = gS) w (wr.setCell ⟨gS, m + 1, none⟩ (.int .i64 (y : Int)))) := HF.out.setCell _ _ (fun _ => rfl)
            have h1 : decide ((x : Int) < (y : Int)) = true := decide_eq_true (by omega)
            have h2 : ((x : Int) < (y : Int)) = True := eq_true (by omega)
            clear HF HR HT hy hj0
            go_wp2
            go_roundg m
            case measure => omega
            case rel => exact ⟨m, _, by omega, rfl, by simp, HF'.out, HR'.out, HT'.out⟩
          · have HS' : Hid (Srt (upd T2 (m + 1) x) (i + 1)) := HT.out.stop (.inr (by rw [Nat.add_sub_cancel]; omega))
            have HR' := Lib.hid (HR.out.set (j := m + 1) (x := x) hm6 hx63)
            obtain ⟨y, hy⟩ : ∃ y, T2 m = y := ⟨_, rfl⟩
            rw [hy] at c2 hxy hy63
            have HF' : Hid (Fr (fun k => k = gS) w (wr.setCell ⟨gS, m + 1, none⟩ (.int .i64 (x : Int)))) := HF.out.setCell _ _ (fun _ => rfl)
            have h1 : decide ((x : Int) < (y : Int)) = false := decide_eq_false (by omega)
            have h2 : ((x : Int) < (y : Int)) = False := eq_false (by omega)
            clear HF HR HT hy hj0
            go_wp2
            go_roundg (257 - (i + 1))
            case measure => omega
            case rel => exact ⟨i + 1, _, by omega, rfl, by simp, HF'.out, HR'.out, HS'.out⟩
    · have hi1 : decide ((i : Int) < (s : Int)) = false := decide_eq_false (by omega)
      have hi2 : ((i : Int) < (s : Int)) = False := eq_false (by omega)
      have hsi : s ≤ i := by omega
      have hsrt : Hid (Srt T1 s) := fun a b h1 h2 => HT.out a b h1 (by omega)
      have hE' : Hid (∀ k, k < l → ∃ e : Nat, e < 256 ∧ wr.cell? ⟨gE, k, none⟩ = some (.int .u8 (e : Int))) := fun k hk => by
        obtain ⟨e, he, h⟩ := HE.out k hk
        exact ⟨e, he, (HF.out.cell (p := ⟨gE, k, none⟩) hg Hd.out).trans h⟩
      have hB' : Hid (Below w0.heap.size w0 wr) := HB.out.trans (HF.out.below HB.out.size (fun k hk e => by have := Hb.out; omega))
      have hg' : Hid (gE < wr.heap.size) := Nat.lt_of_lt_of_le hg HF.out.size
      clear hin hsi
      go_upto_region 28 with fail
      exact law_C hs HR.out hsrt.out hl hE'.out hg'.out hB'.out Htab.out (by assumption)
end Go.Proofs.Qxb6003964aDoor
