/-
  The state of graph.Write: the writer, the line, what is written so far.
-/
import Derived.Test.Qxb6003964aDoorNew
namespace Go.Proofs.Qxb6003964aDoor
open Go.ChangeShapes Go.WideShapes Go.ChangeAt Go.RowKit
open Go.Lib (byteCells)
variable {B P Q K : Nat} {err vg : Value} {pend got : List UInt8} {w : World}

theorem nDigits_le : ∀ (k u : Nat), u < 10 ^ (k + 1) → Lib.nDigits u ≤ k + 1
  | 0, u, h => by rw [Lib.nDigits_small (by simpa using h)]; exact Nat.le_refl _
  | k + 1, u, h => by
    by_cases h10 : u < 10
    · rw [Lib.nDigits_small h10]; omega
    · rw [Lib.nDigits_big h10]
      have := nDigits_le k (u / 10) (by rw [Nat.pow_succ] at h; omega)
      omega
theorem dec_len {u : Nat} (h : u < 9223372036854775808) : (Lib.decDigits u).length ≤ 19 := by
  rw [Lib.decDigits_length]; exact nDigits_le 18 u (by omega)
theorem dec_pos (u : Nat) : 0 < (Lib.decDigits u).length := by rw [Lib.decDigits_length]; exact Lib.nDigits_pos u

theorem BwAt.keep {S : Nat → Prop} {fail : Bool} {w1 : World} (h : BwAt B P Q K fail err pend got vg w) (hF : Fr S w w1) (hP : ¬ S P) (hQ : ¬ S Q) (hK : ¬ S K) (hv : ∀ g, vg.ownBlock = some g → ¬ S g) : BwAt B P Q K fail err pend got vg w1 := by
  obtain ⟨cur, q1, q2, q3⟩ := h.hq
  exact ⟨⟨hF.keepBlk h.sink.hk hK, hF.keepOwn h.sink.own hv, h.sink.kB, Nat.le_trans h.sink.sz hF.size⟩, hF.keepBlk h.hp hP, ⟨cur, hF.keepBlk q1 hQ, q2, q3⟩, h.len, h.dst⟩

def Out (fail : Bool) (err : Value) (pend got T : List UInt8) : Prop :=
  (err = .nilIface ∧ got ++ pend = T ∧ (fail = true → got = [])) ∨ (fail = true ∧ T ≠ [] ∧ ∃ a, err = .iface 75 (.pointer (some a)))

structure St (B P Q K : Nat) (w0 : World) (fail : Bool) (vg lv : Value) (L T : List UInt8) (w : World) : Prop where
  bw : ∃ err pend got, BwAt B P Q K fail err pend got vg w ∧ Out fail err pend got T
  own : w.ownsRow B 5 1 lv L.length (byteCells L)
  dis : ∀ g, lv.ownBlock = some g → vg.ownBlock ≠ some g
  fr : Fr (fun k => k = K) w0 w
  base : w0.heap.size ≤ P ∧ w0.heap.size ≤ Q ∧ w0.heap.size ≤ B

variable {w0 w1 : World} {fail : Bool} {lv : Value} {L T : List UInt8}
theorem St.frame (h : St B P Q K w0 fail vg lv L T w) (hF : Fr (fun _ => False) w w1) : St B P Q K w0 fail vg lv L T w1 := by
  obtain ⟨err, pend, got, hb, ho⟩ := h.bw
  exact ⟨⟨err, pend, got, hb.keep hF id id id (fun _ _ => id), ho⟩, hF.keepOwn h.own (fun _ _ => id), h.dis, h.fr.trans (hF.mono (fun _ => False.elim)), h.base⟩
theorem St.drewN (h : St B P Q K w0 fail vg lv L T w) (m : Nat) : St B P Q K w0 fail vg lv L T (w.drewN m) := h.frame ((Fr.refl _ _).drewN m)
theorem St.alloc (h : St B P Q K w0 fail vg lv L T w) (o : Obj) : St B P Q K w0 fail vg lv L T (w.alloc o) := h.frame ((Fr.refl _ _).alloc o)
theorem St.sz (h : St B P Q K w0 fail vg lv L T w) : B ≤ w.heap.size := by
  obtain ⟨err, pend, got, hb, ho⟩ := h.bw
  exact hb.sink.sz

theorem St.grow {sv v' : Value} {L' : List UInt8} (h : St B P Q K w0 fail vg lv L T w) (hsv : sv.ownBlock = lv.ownBlock) (hg : w.grownBy w1 sv.ownBlock) (hN : Near w sv v') (ho : w1.ownsRow B 5 1 v' L'.length (byteCells L')) :
    St B P Q K w0 fail vg v' L' T w1 := by
  obtain ⟨err, pend, got, hb, hout⟩ := h.bw
  have hF : Fr (fun k => lv.ownBlock = some k) w w1 := (Fr.refl _ w).grown hg (fun k hk _ => by rw [← hsv]; exact hk)
  have hlow : ∀ k, lv.ownBlock = some k → B ≤ k := fun k hk => (h.own.lt k hk).1
  have hd := hb.dst
  refine ⟨⟨err, pend, got, hb.keep hF (fun e => ?_) (fun e => ?_) (fun e => ?_) (fun g hg e => h.dis g e hg), hout⟩, ho, ?_, h.fr.trans' hF (fun i hi e => ?_), h.base⟩
  · have := hlow _ e; omega
  · have := hlow _ e; omega
  · have := hlow _ e; have := hb.sink.kB; omega
  · intro g hg hv
    rcases hN with e | ⟨g', e, hg'⟩
    · exact h.dis g (by rw [← hsv, ← e]; exact hg) hv
    · have : g' = g := by rw [e] at hg; exact Option.some.inj hg
      have := (hb.sink.own.lt g hv).2
      omega
  · have := hlow _ e; have := h.base; omega

theorem own_row {base : Nat} {v : Value} {bs : List UInt8} (h : w.ownsRow base 5 1 v bs.length (byteCells bs)) (hp : 0 < bs.length) : ∃ g c, v = .slice (some ⟨g, 0, none⟩) bs.length c ∧ bs.length ≤ c ∧ base ≤ g ∧ g < w.heap.size ∧ BytesAt w ⟨g, 0, none⟩ bs := by
  obtain ⟨h1, ⟨h2, h3⟩ | ⟨g, cap, cur, rfl, h4, h5, h6, h7, h8, h9⟩⟩ := h
  · omega
  · refine ⟨g, cap, rfl, h6, h4, blk_lt h5, buf_bytes h5 ?_⟩
    simpa using h9

/-- One line is handed to the writer. -/
theorem bw_step {v2 : Value} {bs : List UInt8} (h : St B P Q K w0 fail vg lv L T w) (ho : w.ownsRow B 5 1 v2 bs.length (byteCells bs)) (hdis : ∀ g, v2.ownBlock = some g → vg.ownBlock ≠ some g) (hbp : 0 < bs.length) (hb64 : bs.length ≤ 64) (hT : T.length ≤ 16777216) :
    Calls Tryd.prog 12 #[.pointer (some ⟨P, 0, none⟩), v2] w fun e w' => (∃ x, e = .returned x) ∧ ∃ vg', St B P Q K w0 fail vg' lv L (T ++ bs) w' := by
  obtain ⟨err, pend, got, hb, hout⟩ := h.bw
  obtain ⟨g, c, rfl, hc, hBg, hgl, hby⟩ := own_row ho hbp
  have hd := hb.dst
  have hKB := hb.sink.kB
  have hne : err = .nilIface → got.length ≤ 16777216 := by
    intro he
    rcases hout with ⟨-, ht, -⟩ | ⟨-, -, a, ha⟩
    · rw [← ht, List.length_append] at hT; omega
    · rw [ha] at he; exact absurd he (by simp)
  refine (bwrite_any bs g c hc hb ?_ hby hbp hb64 hne ⟨by omega, by omega, by omega, hdis g rfl, hgl⟩).mono ?_
  · rcases hout with ⟨he, -, -⟩ | ⟨hf, -, a, ha⟩
    · exact .inl he
    · exact .inr ⟨hf, a, ha⟩
  · rintro e w' ⟨x, y, err', pend', got', vg', rfl, hb', hN, hF, hcase⟩
    have hlow : ∀ k, vg.ownBlock = some k → B ≤ k := fun k hk => (hb.sink.own.lt k hk).1
    refine ⟨⟨_, rfl⟩, vg', ⟨err', pend', got', hb', ?_⟩, hF.keepOwn h.own ?_, ?_, h.fr.trans' hF ?_, h.base⟩
    · have hbn : T ++ bs ≠ [] := by
        intro e0; have := congrArg List.length e0; simp at this; rw [this.2] at hbp; simp at hbp
      rcases hcase with ⟨he, ht, hg, he0⟩ | ⟨hf, a, ha⟩
      · rcases hout with ⟨-, ht0, hg0⟩ | ⟨hf, hT0, a, ha⟩
        · exact .inl ⟨he, by rw [ht, ht0], fun hf => by rw [hg hf, hg0 hf]⟩
        · rw [ha] at he0; exact absurd he0 (by simp)
      · exact .inr ⟨hf, hbn, a, ha⟩
    · intro k hk hS
      have := (h.own.lt k hk).1
      rcases hS with e | e | e | e
      · omega
      · omega
      · omega
      · exact h.dis k hk e
    · intro k hk hv
      rcases hN with e | ⟨g', e, hg'⟩
      · exact h.dis k hk (by rw [← e]; exact hv)
      · have : g' = k := by rw [e] at hv; exact Option.some.inj hv
        have := (h.own.lt k hk).2
        omega
    · intro i hi hS
      have := h.base
      rcases hS with e | e | e | e
      · omega
      · omega
      · exact e
      · have := hlow i e; omega
end Go.Proofs.Qxb6003964aDoor
