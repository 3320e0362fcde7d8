/-
  The law's last part: the text is read back.
-/
import Derived.Test.Qxb6003964aDoorTail
import Derived.Deep.CutRange
namespace Go.Proofs.Qxb6003964aDoor
open Go.ChangeShapes Go.WideShapes Go.ChangeAt Go.RowKit
open Go.Lib (byteCells decDigits nDigits)
variable {B K n gN cN gM : Nat} {I : Nat → Nat} {M : Nat → Nat → Bool} {vg : Value} {w0 w : World}

def keyV (I : Nat → Nat) : Ln → Int
  | (_, none) => -1
  | (_, some j) => (I j : Int)
theorem dec_ne {u : Nat} {b : UInt8} (h : b ∈ decDigits u) : b.toNat ≠ 10 := by
  rw [Lib.decDigits_eq, List.mem_map] at h
  obtain ⟨t, _, rfl⟩ := h
  simp only [Lib.dg]
  rw [UInt8.toNat_ofNat']
  omega
theorem body_ne {I : Nat → Nat} {l : Ln} {b : UInt8} (h : b ∈ bodyOf I l) : b.toNat ≠ 10 := by
  obtain ⟨i, _ | j⟩ := l
  · exact dec_ne h
  · simp only [bodyOf, List.mem_append, List.mem_cons] at h
    rcases h with h | rfl | h
    · exact dec_ne h
    · decide
    · exact dec_ne h
structure RoundAt (I : Nat → Nat) (l : Ln) (T : List UInt8) (g p : Nat) (w : World) : Prop where
  body : BytesAt w ⟨g, p, none⟩ (bodyOf I l)
  cells : ∀ e, p ≤ e → e < p + (bodyOf I l).length → ∃ z : Int, w.cell? ⟨g, e, none⟩ = some (.int .u8 z) ∧ (z == 10) = false
  nl : w.cell? ⟨g, p + (bodyOf I l).length, none⟩ = some (.int .u8 10)
  lt : p + (bodyOf I l).length < T.length
theorem round_at {I : Nat → Nat} {ls : List Ln} {r : Nat} {l : Ln} {g : Nat} (hl : ls[r]? = some l) (hb : BytesAt w ⟨g, 0, none⟩ (textL I ls)) : RoundAt I l (textL I ls) g (textL I (ls.take r)).length w := by
  have e := textL_take (I := I) hl
  rw [e] at hb ⊢
  generalize textL I (ls.take r) = pre at *
  generalize textL I (ls.drop (r + 1)) = post at *
  have h1 : ∀ k v, (byteCells (bodyOf I l ++ 10 :: post))[k]? = some v → w.cell? ⟨g, pre.length + k, none⟩ = some v := fun k v hk => by
    have := hb (pre.length + k) v (by rw [byteCells_append, List.getElem?_append_right (by rw [byteCells_len]; omega), byteCells_len, Nat.add_sub_cancel_left]; exact hk)
    rwa [add_plain, Nat.zero_add] at this
  have h2 : BytesAt w ⟨g, pre.length, none⟩ (bodyOf I l) := fun j u hj => by
    rw [add_plain]
    apply h1
    rw [byteCells_append, List.getElem?_append_left (List.getElem?_eq_some_iff.1 hj).1]
    exact hj
  refine ⟨h2, fun x hx1 hx2 => ?_, ?_, by simp⟩
  · obtain ⟨k, rfl⟩ : ∃ k, x = pre.length + k := ⟨x - pre.length, by omega⟩
    have hk : k < (bodyOf I l).length := by omega
    have := h2 k (.int .u8 ((bodyOf I l)[k].toNat : Int)) (by unfold byteCells; rw [List.getElem?_map, List.getElem?_eq_getElem hk]; rfl)
    rw [add_plain] at this
    refine ⟨_, this, ?_⟩
    have := body_ne (List.getElem_mem hk)
    rw [beq_eq_false_iff_ne]
    omega
  · have := h1 (bodyOf I l).length (.int .u8 10) (by rw [byteCells_append, List.getElem?_append_right (by rw [byteCells_len]; exact Nat.le_refl _), byteCells_len, Nat.sub_self]; rfl)
    exact this
theorem parse_any {I : Nat → Nat} {l : Ln} {g p c : Nat} (hI : ∀ i, i < n → I i < 9223372036854775808) (hg : GoodL M n l) (hb : BytesAt w ⟨g, p, none⟩ (bodyOf I l)) (hc : (bodyOf I l).length ≤ c) :
    Calls Tryd.prog 7 #[.slice (some ⟨g, p, none⟩) (bodyOf I l).length c] w fun e w' => e = .returned (.tuple #[.int .i64 (I l.1 : Int), .int .i64 (keyV I l), .bool true]) ∧ w' = w := by
  obtain ⟨i, _ | j⟩ := l
  · exact parseLine_one (hI i hg.1) g p c hb
  · refine parseLine_two (hI i hg.1) (hI j ?_) g p c hb hc
    rcases hg.2 with ⟨h, _⟩ | ⟨j', h, h2, _⟩
    · exact absurd h (by simp)
    · have : j = j' := by simpa using h
      omega

theorem lines_le (I : Nat → Nat) (ls : List Ln) : ls.length ≤ (textL I ls).length := by
  induction ls with
  | nil => simp
  | cons l ls ih =>
    show _ ≤ (List.flatMap (render I) (l :: ls)).length
    rw [List.flatMap_cons, List.length_append, List.length_cons]
    have : 0 < (render I l).length := by simp [render]
    unfold textL at ih
    omega
def ParRel (I : Nat → Nat) (ls : List Ln) (w : World) (gk : Nat) (cv fv pu pv ps : Value) (wr : World) : Prop :=
  ∃ r : Nat, r ≤ ls.length ∧ gk = ls.length - r ∧ cv = .int .i64 (r : Int) ∧ ps = .int .i64 ((textL I (ls.take r)).length : Int) ∧
    ((r = 0 ∧ fv = .bool true) ∨ (fv = .bool false ∧ ∃ k l, r = k + 1 ∧ ls[k]? = some l ∧ pu = .int .i64 (I l.1 : Int) ∧ pv = .int .i64 (keyV I l))) ∧ wr = w

set_option maxRecDepth 100000 in
set_option maxHeartbeats 8000000 in
theorem law_G (hn : n ≤ 256) (hI63 : ∀ i, i < n → I i < 9223372036854775808) (hup : ∀ a b, a < b → b < n → I a < I b)
    (hN : ∀ k, k < n → w.cell? ⟨gN, k, none⟩ = some (.int .i64 (I k : Int))) (hM : ∀ i j, i < n → j < n → w.cell? ⟨gM, i * n + j, none⟩ = some (.bool (M i j)))
    (hS : SinkAt B K false vg (textL I (linesTo M n n)) w) (hB : Below w0.heap.size w0 w) (hlim : (textL I (linesTo M n n)).length ≤ 16777216)
    
    {u0 u1 u2 u3 u4 u5 u6 u7 u8 u9 u10 u11 u12 u13 u15 u18 u19 u20 u21 u22 u23 u24 u25 u26 u28 u30 u31 u32 u33 u34 u35 u36 u37 u38 u39 u40 u41 u42 u43 u44 u45 u46 u47 u48 u49 u50 u51 u52 u53 u54 u55 u56 u57 u58 u59 u60 u61 u62 u63 u64 u65 u66 u67 u68 u69 u70 u71 u72 u73 u74 u75 u76 u77 u78 u79 u80 u81 u82 u83 u84 u85 u86 u87 u88 u89 u90 u91 u92 u93 u94 u95 u96 u97 u98 u99 u100 u101 u102 u103 u104 u105 u106 u107 u108 u109 u110 u111 u112 u113 u114 u115 u116 u117 u118 u119 u120 u121 u122 u123 u124 u125 u126 u127 u128 u129 u130 u131 u132 u133 u134 u135 u136 u137 u138 u139 u140 u141 u142 u143 u144 u145 u146 u147 u148 u149 u150 u151 u152 u153 u154 u155 u156 u157 u158 u159 u160 u161 u162 u163 u164 u165 u166 u167 u168 u169 u170 u171 u172 u173 u174 u175 u176 u177 u178 u179 u180 u181 u182 u183 u184 u185 u186 u187 u188 u189 u190 u191 u192 u193 u194 u195 u196 u197 u198 u199 u200 u201 u202 u203 u204 u205 u206 u207 u208 u209 u210 u211 u212 u213 u214 u215 u216 u217 u218 u219 u220 u221 u222 u223 u224 u225 u226 u227 u228 u229 u230 u231 u232 u233 u234 u235 u236 u237 u238 u239 u240 u241 u242 u243 u244 u245 u246 u247 u248 u249 u250 u251 u252 u253 u254 u255 u256 u257 u258 u259 u260 u261 u262 u263 u264 u265 u266 u267 u268 u269 u270 u271 u272 u273 u274 u275 u276 u277 u278 u279 u280 u281 u282 u283 u284 u285 u286 u287 u288 u289 u290 u291 u292 u293 u294 u295 u296 u297 u298 u299 u300 u301 u302 u303 u304 u305 u306 u307 u308 u309 u310 u311 u312 u313 u314 u315 u316 u317 u318 u319 u320 u321 u322 u323 u324 u325 u326 u327 u328 u329 u330 u331 u332 u333 u334 u335 u336 u337 u338 u339 u340 u341 u342 u343 u344 u345 u346 u347 u348 u349 u350 u351 u352 u353 u354 u355 u356 u357 u358 u359 u360 u361 u362 u363 u364 u365 u366 u367 u368 u369 u370 u371 u372 u373 u374 u375 u376 u377 u378 u379 u380 u381 u382 u383 u384 u385 u386 u387 u388 u389 u390 u391 u392 u393 u394 u395 u396 u397 u398 u399 u400 u401 u402 u403 u404 : Value}
    {Kk : Act → World → Prop} (hK : ∀ a w, (behind Tryd.f3 79).wp Tryd.prog (bodyPost Tryd.prog Tryd.f3 (LPost w0)) a w → Kk a w) :
    (stAt Tryd.f3 79).wp Tryd.prog (Exit.then Kk (bodyPost Tryd.prog Tryd.f3 (LPost w0))) { tmps := #[u0, u1, u2, u3, u4, u5, u6, u7, u8, u9, u10, u11, u12, u13, (.slice (some ⟨gN, 0, none⟩) n cN), u15, (.int .i64 (n : Int)), (.slice (some ⟨gM, 0, none⟩) (n * n) (n * n)), u18, u19, u20, u21, u22, u23, u24, u25, u26, (.pointer (some ⟨K, 0, none⟩)), u28, (.int .i64 ((linesTo M n n).length : Int)), u30, u31, u32, u33, u34, u35, u36, u37, u38, u39, u40, u41, u42, u43, u44, u45, u46, u47, u48, u49, u50, u51, u52, u53, u54, u55, u56, u57, u58, u59, u60, u61, u62, u63, u64, u65, u66, u67, u68, u69, u70, u71, u72, u73, u74, u75, u76, u77, u78, u79, u80, u81, u82, u83, u84, u85, u86, u87, u88, u89, u90, u91, u92, u93, u94, u95, u96, u97, u98, u99, u100, u101, u102, u103, u104, u105, u106, u107, u108, u109, u110, u111, u112, u113, u114, u115, u116, u117, u118, u119, u120, u121, u122, u123, u124, u125, u126, u127, u128, u129, u130, u131, u132, u133, u134, u135, u136, u137, u138, u139, u140, u141, u142, u143, u144, u145, u146, u147, u148, u149, u150, u151, u152, u153, u154, u155, u156, u157, u158, u159, u160, u161, u162, u163, u164, u165, u166, u167, u168, u169, u170, u171, u172, u173, u174, u175, u176, u177, u178, u179, u180, u181, u182, u183, u184, u185, u186, u187, u188, u189, u190, u191, u192, u193, u194, u195, u196, u197, u198, u199, u200, u201, u202, u203, u204, u205, u206, u207, u208, u209, u210, u211, u212, u213, u214, u215, u216, u217, u218, u219, u220, u221, u222, u223, u224, u225, u226, u227, u228, u229, u230, u231, u232, u233, u234, u235, u236, u237, u238, u239, u240, u241, u242, u243, u244, u245, u246, u247, u248, u249, u250, u251, u252, u253, u254, u255, u256, u257, u258, u259, u260, u261, u262, u263, u264, u265, u266, u267, u268, u269, u270, u271, u272, u273, u274, u275, u276, u277, u278, u279, u280, u281, u282, u283, u284, u285, u286, u287, u288, u289, u290, u291, u292, u293, u294, u295, u296, u297, u298, u299, u300, u301, u302, u303, u304, u305, u306, u307, u308, u309, u310, u311, u312, u313, u314, u315, u316, u317, u318, u319, u320, u321, u322, u323, u324, u325, u326, u327, u328, u329, u330, u331, u332, u333, u334, u335, u336, u337, u338, u339, u340, u341, u342, u343, u344, u345, u346, u347, u348, u349, u350, u351, u352, u353, u354, u355, u356, u357, u358, u359, u360, u361, u362, u363, u364, u365, u366, u367, u368, u369, u370, u371, u372, u373, u374, u375, u376, u377, u378, u379, u380, u381, u382, u383, u384, u385, u386, u387, u388, u389, u390, u391, u392, u393, u394, u395, u396, u397, u398, u399, u400, u401, u402, u403, u404], defers := [] } w := by
  have c0 : w.cell? ⟨K, 0, none⟩ = some vg := (blk_cell hS.hk 0).trans rfl
  obtain ⟨ls, hls⟩ : ∃ ls, linesTo M n n = ls := ⟨_, rfl⟩
  have hgood : ∀ r l, ls[r]? = some l → GoodL M n l := fun r l h => lines_good (Nat.le_refl n) (by rw [hls]; exact List.mem_of_getElem? h)
  have hnext : ∀ r l l', ls[r]? = some l → ls[r + 1]? = some l' → Asc l l' := fun r l l' h h' => lines_next (M := M) (n := n) (k := n) (by rw [hls]; exact h) (by rw [hls]; exact h')
  rw [hls] at hS hlim ⊢
  obtain ⟨a, c, hvg⟩ := own_shape hS.own
  obtain ⟨T, hT⟩ : ∃ T, textL I ls = T := ⟨_, rfl⟩
  have Hown := Lib.hid hS.own
  have HN := Lib.hid hN
  have HM := Lib.hid hM
  have Hup := Lib.hid hup
  have HI := Lib.hid hI63
  have Hgood := Lib.hid hgood
  have Hnext := Lib.hid hnext
  have HB := Lib.hid hB
  have HT := Lib.hid hT
  rw [hT] at hlim Hown hvg
  subst hvg
  clear hS hN hM hup hI63 hgood hnext hB hls hT
  obtain ⟨Q', hQ'⟩ : ∃ Q', Q' = bodyPost Tryd.prog Tryd.f3 (LPost w0) := ⟨_, rfl⟩
  rw [← hQ'] at hK ⊢
  simp only [stAt, behind, seqFst, seqSnd, restFrom, headRegion, Tryd.f3, Option.getD_some, Nat.beq, cond_true, cond_false] at hK ⊢
  subst hQ'
  go_wp2
  go_loopg [34, 35, 36, 37, 38] ls.length (fun gk cv fv pu pv ps wr => ParRel I ls w gk cv fv pu pv ps wr)
  case atStart => exact ⟨0, by omega, by omega, rfl, rfl, .inl ⟨rfl, rfl⟩, rfl⟩
  case round =>
    obtain ⟨r, hr, rfl, rfl, rfl, hfirst, rfl⟩ := hrel
    by_cases hrl : r < ls.length
    · obtain ⟨l, hl⟩ : ∃ l, ls[r]? = some l := ⟨_, List.getElem?_eq_getElem hrl⟩
      have hTpos : 0 < T.length := by
        have e := textL_take (I := I) hl
        rw [HT.out] at e
        rw [e]
        simp only [List.length_append, List.length_cons]
        omega
      obtain ⟨g, c', hv, hTc, -, -, hby⟩ := own_row Hown.out hTpos
      obtain ⟨rfl, rfl⟩ : a = some ⟨g, 0, none⟩ ∧ c = c' := by simpa using hv
      clear hv
      have HR : Hid (RoundAt I l T g (textL I (ls.take r)).length wr) := by
        have := round_at (I := I) hl (by rw [HT.out]; exact hby)
        rwa [HT.out] at this
      have hsucc := textL_succ (I := I) hl
      obtain ⟨p, hp⟩ : ∃ p, (textL I (ls.take r)).length = p := ⟨_, rfl⟩
      obtain ⟨E, hE⟩ : ∃ E, p + (bodyOf I l).length = E := ⟨_, rfl⟩
      rw [hp] at HR hsucc ⊢
      rw [hE] at hsucc
      have hbp := bodyOf_pos (I := I) l
      have hrb : (r : Int) ≤ 16777216 := by have := lines_le I ls; rw [HT.out] at this; omega
      have hET := HR.out.lt
      have cE := HR.out.nl
      rw [hE] at hET cE
      have Hcells : Hid (∀ e, p ≤ e → e < E → ∃ z : Int, wr.cell? ⟨g, e, none⟩ = some (.int .u8 z) ∧ (z == 10) = false) := by rw [← hE]; exact HR.out.cells
      have hg := Hgood.out r l hl
      have HPL : Hid (Calls Tryd.prog 7 #[.slice (some ⟨g, p, none⟩) (E - p) (c - p)] wr fun e w' => e = .returned (.tuple #[.int .i64 (I l.1 : Int), .int .i64 (keyV I l), .bool true]) ∧ w' = wr) := by
        have := parse_any (c := c - p) HI.out hg HR.out.body (by omega)
        rwa [show (bodyOf I l).length = E - p by omega] at this
      have Hg := Lib.hid hg
      have Hl := Lib.hid hl
      have Hsucc := Lib.hid hsucc
      have Hfirst := Lib.hid hfirst
      have hpE : p < E := by omega
      have hcp : ¬ c - p = 0 := by omega
      have hpT : (p : Int) < (T.length : Int) := by omega
      have hTl : (T.length : Int) ≤ 16777216 := by omega
      have hTc' : (T.length : Int) ≤ (c : Int) := by omega
      clear hl hby hp hg hsucc hfirst HR hE hbp
      go_wp2
      go_loopg [39] (E - p) (fun gk ev wx => ∃ e : Nat, p ≤ e ∧ e ≤ E ∧ gk = E - e ∧ ev = .int .i64 (e : Int) ∧ wx = wr)
      case atStart => exact ⟨p, by omega, by omega, rfl, rfl, rfl⟩
      case round =>
        obtain ⟨e, he1, he2, rfl, rfl, rfl⟩ := hrel
        by_cases heE : e < E
        · obtain ⟨z, cz, hz⟩ := Hcells.out e he1 heE
          have heT : (e : Int) < (T.length : Int) := by omega
          clear cE c0
          go_wp2
          go_roundg (E - (e + 1))
          case measure => omega
          case rel => exact ⟨e + 1, by omega, by omega, rfl, by simp, rfl⟩
        · obtain rfl : e = E := by omega
          have heT : (e : Int) < (T.length : Int) := by omega
          have heT2 : ((e : Int) == (T.length : Int)) = false := by rw [beq_eq_false_iff_ne]; omega
          go_upto_region 93 with (go_at_call 7; refine HPL.out.mono ?_; rintro e1 w1 ⟨rfl, rfl⟩)
          go_cut [356] from 306 to 401 (fun v wc => v = .bool false ∧ wc = w1)
          case first =>
            rcases Hfirst.out with ⟨hr0, rfl⟩ | ⟨rfl, k, lp, rfl, hlp, rfl, rfl⟩
            · clear Hfirst
              go_wp2
              go_meet
              case rel => exact ⟨rfl, rfl⟩
            · have hasc := Hnext.out k lp l hlp Hl.out
              have h2 : (I lp.1 : Int) < (I l.1 : Int) ∨ (I lp.1 = I l.1 ∧ keyV I lp < keyV I l) := by
                rcases hasc with h | ⟨h, j, j', e1, e2, h3⟩
                · left; have := Hup.out _ _ h Hg.out.1; omega
                · right
                  refine ⟨by rw [h], ?_⟩
                  obtain ⟨i1, o1⟩ := lp
                  obtain ⟨i2, o2⟩ := l
                  subst e1 e2
                  have hj' : j' < n := by
                    rcases Hg.out.2 with ⟨e, _⟩ | ⟨j2, e, h4, _⟩
                    · exact absurd e (by simp)
                    · have : j' = j2 := by simpa using e
                      omega
                  have := Hup.out j j' h3 hj'
                  simp only [keyV]
                  omega
              generalize keyV I lp = kv at *
              generalize keyV I l = kv2 at *
              generalize I lp.1 = x1 at *
              generalize I l.1 = x2 at *
              clear hasc
              by_cases h3 : (x1 : Int) < (x2 : Int)
              · clear h2
                go_wp2
                go_meet
                case rel => exact ⟨rfl, rfl⟩
              · have h4 : x1 = x2 ∧ kv < kv2 := by rcases h2 with h | h; exact absurd h h3; exact h
                obtain ⟨rfl, h5⟩ := h4
                clear h2
                go_wp2
                go_meet
                case rel => exact ⟨rfl, rfl⟩
          case rest =>
            obtain ⟨rfl, hw⟩ := hcut
            have hw' := hw.symm
            subst hw'
            clear hw
            obtain ⟨i, o⟩ := l
            obtain ⟨hi, hkind⟩ := Hg.out
            simp only at hi hkind
            obtain ⟨q, hq⟩ : ∃ q, i * n = q := ⟨_, rfl⟩
            have hqi : (i : Int) * (n : Int) = (q : Int) := by rw [← hq, Int.natCast_mul]
            have hq0 : q + n ≤ n * n := by
              rw [← hq]
              have : (i + 1) * n ≤ n * n := Nat.mul_le_mul_right n hi
              rw [Nat.add_mul, Nat.one_mul] at this
              exact this
            have hnn : n * n ≤ 65536 := Nat.mul_le_mul hn hn
            have HM' : Hid (∀ j, j < n → w1.cell? ⟨gM, q + j, none⟩ = some (.bool (M i j))) := fun j hj => by rw [← hq]; exact HM.out i j hi hj
            cases o with
            | none =>
              have Hno : Hid (∀ j, j < n → M i j = false) := by
                rcases hkind with ⟨_, h⟩ | ⟨j, h, _⟩
                · exact h
                · exact absurd h (by simp)
              clear hkind
              simp only [keyV]
              go_wp2_with (go_at_call 8; refine (find_any hn HN.out Hup.out hi).mono ?_; rintro e1 w2 ⟨rfl, hw2⟩; have hw2' := hw2.symm; subst hw2'; clear hw2)
              go_loopg [44] n (fun gk jv wx => ∃ j : Nat, j ≤ n ∧ gk = n - j ∧ jv = .int .i64 (j : Int) ∧ w1 = wx)
              case atStart => exact ⟨0, by omega, by omega, rfl, rfl⟩
              case round =>
                obtain ⟨j, hj, rfl, rfl, hwx⟩ := hrel
                subst hwx
                by_cases hjn : j < n
                · have cj := HM'.out j hjn
                  rw [Hno.out j hjn] at cj
                  have hqj : (q : Int) + (j : Int) < 65536 := by omega
                  have hqj2 : q + j < n * n := by omega
                  go_wp2
                  go_roundg (n - (j + 1))
                  case measure => omega
                  case rel => exact ⟨j + 1, by omega, rfl, by simp, rfl⟩
                · obtain rfl : j = n := by omega
                  go_wp2
                  go_roundg (ls.length - (r + 1))
                  case measure => omega
                  case rel => exact ⟨r + 1, by omega, rfl, by simp, by rw [Hsucc.out]; simp, .inr ⟨rfl, r, (i, none), rfl, Hl.out, rfl, rfl⟩, rfl⟩
            | some j =>
              obtain ⟨hjn, hij, hMj⟩ : j < n ∧ i < j ∧ M i j = true := by
                rcases hkind with ⟨h, _⟩ | ⟨j', h, h2⟩
                · exact absurd h (by simp)
                · have : j = j' := by simpa using h
                  subst this
                  exact h2
              clear hkind
              have cj := HM'.out j hjn
              rw [hMj] at cj
              have hIij : (I i : Int) < (I j : Int) := by have := Hup.out i j hij hjn; omega
              have hj0 : (0 : Int) ≤ (I j : Int) := by omega
              have hqj : (q : Int) + (j : Int) < 65536 := by omega
              have hqj2 : q + j < n * n := by omega
              simp only [keyV]
              clear hMj
              have hle1 : decide ((I j : Int) ≤ (I i : Int)) = false := decide_eq_false (by omega)
              have hle2 : ((I j : Int) ≤ (I i : Int)) = False := eq_false (by omega)
              clear hIij hij
              have hi0 : decide ((i : Int) < 0) = false := by simp
              have hi0' : ((i : Int) < 0) = False := by simp
              have hj1 : decide ((j : Int) < 0) = false := by simp
              have hj1' : ((j : Int) < 0) = False := by simp
              have hj2 : decide ((I j : Int) < 0) = false := by simp
              have hj2' : ((I j : Int) < 0) = False := by simp
              go_upto_region 98 with (go_at_call 8; refine (find_any (i := i) hn HN.out Hup.out hi).mono ?_; rintro e1 w2 ⟨rfl, hw2⟩; have hw2' := hw2.symm; subst hw2'; clear hw2)
              go_upto_region 109 with (go_at_call 8; refine (find_any (i := j) hn HN.out Hup.out hjn).mono ?_; rintro e1 w2 ⟨rfl, hw2⟩; have hw2' := hw2.symm; subst hw2'; clear hw2)
              go_upto_region 111 with fail
              go_wp2_with fail
              go_roundg (ls.length - (r + 1))
              case measure => omega
              case rel => exact ⟨r + 1, by omega, rfl, by simp, by rw [Hsucc.out]; simp, .inr ⟨rfl, r, (i, some j), rfl, Hl.out, rfl, rfl⟩, rfl⟩
    · have hr' : r = ls.length := by omega
      subst hr'
      have hps : (textL I (ls.take ls.length)).length = T.length := by rw [List.take_length, HT.out]
      rw [hps]
      clear hfirst
      go_wp2
      go_ret
      exact ⟨rfl, HB.out⟩
end Go.Proofs.Qxb6003964aDoor
