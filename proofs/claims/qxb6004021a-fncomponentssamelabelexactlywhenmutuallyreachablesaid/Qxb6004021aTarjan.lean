/-
  Tarjan's algorithm as 'components' runs it, in plain terms: a state, what each round does to it, and what stays true. No Go in sight.
-/
import Init
namespace Go.Proofs.Qxb6004021a.Tj

def upd {α : Type} (f : Nat → α) (i : Nat) (v : α) : Nat → α := fun j => if j = i then v else f j
theorem upd_same {α : Type} (f : Nat → α) (i : Nat) (v : α) : upd f i v i = v := by simp [upd]
theorem upd_ne {α : Type} (f : Nat → α) {i j : Nat} (v : α) (h : j ≠ i) : upd f i v j = f j := by simp [upd, h]

def sumTo (h : Nat → Nat) : Nat → Nat
  | 0 => 0
  | n + 1 => sumTo h n + h n
theorem sumTo_congr {h h' : Nat → Nat} {n : Nat} (e : ∀ j, j < n → h' j = h j) : sumTo h' n = sumTo h n := by
  induction n with
  | zero => rfl
  | succ n ih => simp only [sumTo]; rw [ih (fun j hj => e j (by omega)), e n (by omega)]
theorem sumTo_one {h h' : Nat → Nat} {n i : Nat} (hi : i < n) (e : ∀ j, j < n → j ≠ i → h' j = h j) : sumTo h' n + h i = sumTo h n + h' i := by
  induction n with
  | zero => omega
  | succ n ih =>
    simp only [sumTo]
    by_cases hn : i = n
    · subst hn
      rw [sumTo_congr (h := h) (h' := h') (fun j hj => e j (by omega) (by omega))]; omega
    · have := ih (by omega) (fun j hj hne => e j (by omega) hne)
      rw [e n (by omega) (by omega)]; omega
theorem sumTo_le {h : Nat → Nat} {n i : Nat} (hi : i < n) : h i ≤ sumTo h n := by
  induction n with
  | zero => omega
  | succ n ih =>
    simp only [sumTo]
    by_cases hn : i = n
    · subst hn; omega
    · have := ih (by omega); omega

/-- v can be reached from u: every set that holds u and is closed under the edges holds v. -/
def Reach (g : Nat → List Nat) (u v : Nat) : Prop := ∀ S : Nat → Prop, S u → (∀ x y, S x → y ∈ g x → S y) → S v
theorem Reach.refl (g : Nat → List Nat) (u : Nat) : Reach g u u := fun _ h _ => h
theorem Reach.edge {g : Nat → List Nat} {u v : Nat} (h : v ∈ g u) : Reach g u v := fun _ hu hc => hc u v hu h
theorem Reach.trans {g : Nat → List Nat} {u v x : Nat} (h : Reach g u v) (k : Reach g v x) : Reach g u x := fun S hu hc => k S (h S hu hc) hc

structure St where
  order : Nat → Int
  low : Nat → Int
  onSt : Nat → Bool
  comp : Nat → Int
  calls : List (Nat × Nat)
  stack : List Nat
  reached : Nat
  labels : Nat

def IsFr (s : St) (u : Nat) : Prop := ∃ nx, (u, nx) ∈ s.calls

structure Inv (n : Nat) (g : Nat → List Nat) (ex : Nat → Nat → Prop) (s : St) : Prop where
  fr_le : ∀ v nx, (v, nx) ∈ s.calls → nx ≤ (g v).length
  fr_st : ∀ v, IsFr s v → v ∈ s.stack
  fr_so : s.calls.Pairwise (fun a b => s.order b.1 < s.order a.1)
  st_lt : ∀ x, x ∈ s.stack → x < n
  st_or : ∀ x, x ∈ s.stack → 0 ≤ s.order x
  st_so : s.stack.Pairwise (fun a b => s.order b < s.order a)
  on : ∀ x, x < n → (s.onSt x = true ↔ x ∈ s.stack)
  or_lt : ∀ x, x < n → s.order x < s.reached
  or_ge : ∀ x, x < n → -1 ≤ s.order x
  lo_le : ∀ x, x ∈ s.stack → s.low x ≤ s.order x
  lo_ge : ∀ x, x ∈ s.stack → 0 ≤ s.low x
  edge : ∀ x, x ∈ s.stack → ∀ j (h : j < (g x).length), (∀ nx, (x, nx) ∈ s.calls → j < nx) → ¬ ex x j →
    0 ≤ s.order (g x)[j] ∧ ((g x)[j] ∈ s.stack → ∀ u, IsFr s u → s.order u ≤ s.order x → (∀ u', IsFr s u' → s.order u' ≤ s.order x → s.order u' ≤ s.order u) → s.low u ≤ s.order (g x)[j])
  tr : ∀ u, IsFr s u → ∀ x, x ∈ s.stack → s.order u ≤ s.order x → Reach g u x
  re : ∀ x, x ∈ s.stack → ∃ y, y ∈ s.stack ∧ s.order y = s.low x ∧ Reach g x y
  nf : ∀ x, x ∈ s.stack → ¬ IsFr s x → s.low x < s.order x
  dn : ∀ x, x < n → 0 ≤ s.order x → x ∉ s.stack → 0 ≤ s.comp x ∧ s.comp x < s.labels ∧ ∀ y, y ∈ g x → 0 ≤ s.order y ∧ y ∉ s.stack ∧ s.comp y ≤ s.comp x
  us : ∀ l : Nat, l < s.labels → ∃ x, x < n ∧ 0 ≤ s.order x ∧ x ∉ s.stack ∧ s.comp x = l
  sm : ∀ x y, x < n → y < n → 0 ≤ s.order x → 0 ≤ s.order y → x ∉ s.stack → y ∉ s.stack → s.comp x = s.comp y → Reach g x y
  c1 : s.calls.length ≤ s.reached
  c2 : s.labels + s.stack.length ≤ s.reached
  c3 : s.reached + sumTo (fun x => if s.order x = -1 then 1 else 0) n = n

variable {n : Nat} {g : Nat → List Nat} {s : St}

/-- Two nodes of the stack with one order are one. -/
theorem Inv.inj {ex : Nat → Nat → Prop} (h : Inv n g ex s) {x y : Nat} (hx : x ∈ s.stack) (hy : y ∈ s.stack) (e : s.order x = s.order y) : x = y := by
  have key : ∀ l : List Nat, l.Pairwise (fun a b => s.order b < s.order a) → x ∈ l → y ∈ l → x = y := by
    intro l
    induction l with
    | nil => intro _ hx; cases hx
    | cons a l ih =>
      intro hp hx hy
      rw [List.pairwise_cons] at hp
      rcases List.mem_cons.1 hx with rfl | hx'
      · rcases List.mem_cons.1 hy with rfl | hy'
        · rfl
        · have := hp.1 y hy'; omega
      · rcases List.mem_cons.1 hy with rfl | hy'
        · have := hp.1 x hx'; omega
        · exact ih hp.2 hx' hy'
  exact key _ h.st_so hx hy

/-- The top frame has the greatest order; below it the orders are smaller. -/
theorem Inv.rest_lt {ex : Nat → Nat → Prop} (h : Inv n g ex s) {v nx : Nat} {rest : List (Nat × Nat)} (hc : s.calls = (v, nx) :: rest) {u k : Nat} (hu : (u, k) ∈ rest) : s.order u < s.order v := by
  have := h.fr_so
  rw [hc, List.pairwise_cons] at this
  exact this.1 (u, k) hu
theorem Inv.fr_top {ex : Nat → Nat → Prop} (h : Inv n g ex s) {v nx : Nat} {rest : List (Nat × Nat)} (hc : s.calls = (v, nx) :: rest) {u : Nat} (hu : IsFr s u) : s.order u ≤ s.order v := by
  obtain ⟨k, hk⟩ := hu
  rw [hc] at hk
  rcases List.mem_cons.1 hk with e | hk
  · cases e; exact Int.le_refl _
  · exact Int.le_of_lt (h.rest_lt hc hk)
theorem Inv.top_only {ex : Nat → Nat → Prop} (h : Inv n g ex s) {v nx : Nat} {rest : List (Nat × Nat)} (hc : s.calls = (v, nx) :: rest) {k : Nat} (hk : (v, k) ∈ s.calls) : k = nx := by
  rw [hc] at hk
  rcases List.mem_cons.1 hk with e | hk
  · cases e; rfl
  · have := h.rest_lt hc hk; omega

/-- Every node of the stack reaches a frame that is not above it. -/
theorem Inv.toFr {ex : Nat → Nat → Prop} (h : Inv n g ex s) : ∀ (k : Nat) (x : Nat), x ∈ s.stack → (s.order x).toNat = k → ∃ u, IsFr s u ∧ s.order u ≤ s.order x ∧ Reach g x u := by
  intro k
  induction k using Nat.strongRecOn with
  | _ k ih =>
    intro x hx hk
    by_cases hf : IsFr s x
    · exact ⟨x, hf, Int.le_refl _, Reach.refl _ _⟩
    · obtain ⟨y, hy, hyo, hr⟩ := h.re x hx
      have h1 := h.nf x hx hf
      have h2 := h.st_or y hy
      have h3 := h.st_or x hx
      obtain ⟨u, hu, hle, hr'⟩ := ih (s.order y).toNat (by omega) y hy rfl
      exact ⟨u, hu, by omega, hr.trans hr'⟩

theorem Inv.empty {ex : Nat → Nat → Prop} (h : Inv n g ex s) (hc : s.calls = []) : s.stack = [] := by
  cases hs : s.stack with
  | nil => rfl
  | cons x r =>
    obtain ⟨u, ⟨k, hk⟩, _⟩ := h.toFr _ x (by rw [hs]; simp) rfl
    rw [hc] at hk; cases hk

/-! ### Entering a node -/
def enter (s : St) (w : Nat) : St :=
  { s with order := upd s.order w s.reached, low := upd s.low w s.reached, onSt := upd s.onSt w true, calls := (w, 0) :: s.calls, stack := w :: s.stack, reached := s.reached + 1 }

theorem enter_inv {ex : Nat → Nat → Prop} (h : Inv n g ex s) {w : Nat} (hw : w < n) (ho : s.order w = -1) (hex : ∀ x j (hj : j < (g x).length), ex x j → (g x)[j] = w) (hr : ∀ u, IsFr s u → Reach g u w) :
    Inv n g (fun _ _ => False) (enter s w) := by
  have hne : ∀ x, 0 ≤ s.order x → x ≠ w := fun x hx e => by subst e; omega
  have hst : ∀ x, x ∈ s.stack → x ≠ w := fun x hx => hne x (h.st_or x hx)
  have hfr : ∀ u, IsFr (enter s w) u ↔ u = w ∨ IsFr s u := by
    intro u
    constructor
    · rintro ⟨k, hk⟩
      rcases List.mem_cons.1 hk with e | hk
      · cases e; exact .inl rfl
      · exact .inr ⟨k, hk⟩
    · rintro (rfl | ⟨k, hk⟩)
      · exact ⟨0, List.mem_cons_self ..⟩
      · exact ⟨k, List.mem_cons_of_mem _ hk⟩
  have hfs : ∀ u, IsFr s u → u ≠ w := fun u hu => hst u (h.fr_st u hu)
  have oS : ∀ x, x ≠ w → (enter s w).order x = s.order x := fun x hx => upd_ne _ _ hx
  have oW : (enter s w).order w = s.reached := upd_same _ _ _
  have lS : ∀ x, x ≠ w → (enter s w).low x = s.low x := fun x hx => upd_ne _ _ hx
  have lW : (enter s w).low w = s.reached := upd_same _ _ _
  have hstk : (enter s w).stack = w :: s.stack := rfl
  have hrch : (enter s w).reached = s.reached + 1 := rfl
  have hlt : ∀ x, x ∈ s.stack → s.order x < s.reached := fun x hx => h.or_lt x (h.st_lt x hx)
  refine ⟨?_, ?_, ?_, ?_, ?_, ?_, ?_, ?_, ?_, ?_, ?_, ?_, ?_, ?_, ?_, ?_, ?_, ?_, ?_, ?_, ?_⟩
  · intro v nx hv
    rcases List.mem_cons.1 hv with e | hv
    · cases e; exact Nat.zero_le _
    · exact h.fr_le v nx hv
  · intro v hv
    rcases (hfr v).1 hv with rfl | hv
    · exact List.mem_cons_self ..
    · exact List.mem_cons_of_mem _ (h.fr_st v hv)
  · show ((w, 0) :: s.calls).Pairwise _
    rw [List.pairwise_cons]
    refine ⟨fun b hb => ?_, h.fr_so.imp_of_mem fun {a b} ha hb hab => ?_⟩
    · have hb' : IsFr s b.1 := ⟨b.2, hb⟩
      rw [oS _ (hfs _ hb'), oW]
      exact hlt _ (h.fr_st _ hb')
    · rw [oS _ (hfs _ ⟨a.2, ha⟩), oS _ (hfs _ ⟨b.2, hb⟩)]; exact hab
  · intro x hx
    rcases List.mem_cons.1 hx with rfl | hx
    · exact hw
    · exact h.st_lt x hx
  · intro x hx
    rcases List.mem_cons.1 hx with rfl | hx
    · rw [oW]; omega
    · rw [oS _ (hst x hx)]; exact h.st_or x hx
  · rw [hstk, List.pairwise_cons]
    refine ⟨fun b hb => ?_, h.st_so.imp_of_mem fun {a b} ha hb hab => ?_⟩
    · rw [oS _ (hst b hb), oW]; exact hlt b hb
    · rw [oS _ (hst a ha), oS _ (hst b hb)]; exact hab
  · intro x hx
    show upd s.onSt w true x = true ↔ x ∈ w :: s.stack
    by_cases e : x = w
    · subst e; simp [upd_same]
    · rw [upd_ne _ _ e, h.on x hx]; simp [e]
  · intro x hx
    rw [hrch]
    by_cases e : x = w
    · subst e; rw [oW]; omega
    · rw [oS x e]; have := h.or_lt x hx; omega
  · intro x hx
    by_cases e : x = w
    · subst e; rw [oW]; omega
    · rw [oS x e]; exact h.or_ge x hx
  · intro x hx
    rcases List.mem_cons.1 hx with rfl | hx
    · rw [oW, lW]; exact Int.le_refl _
    · rw [oS _ (hst x hx), lS _ (hst x hx)]; exact h.lo_le x hx
  · intro x hx
    rcases List.mem_cons.1 hx with rfl | hx
    · rw [lW]; omega
    · rw [lS _ (hst x hx)]; exact h.lo_ge x hx
  · intro x hx0 j hj hpr _
    rcases List.mem_cons.1 hx0 with rfl | hx
    · exact absurd (hpr 0 (List.mem_cons_self ..)) (by omega)
    · have hxw := hst x hx
      have hpr' : ∀ nx, (x, nx) ∈ s.calls → j < nx := fun nx hn => hpr nx (List.mem_cons_of_mem _ hn)
      have own : ∀ u, IsFr (enter s w) u → (enter s w).order u ≤ (enter s w).order x → IsFr s u := by
        intro u hu0 hle
        rcases (hfr u).1 hu0 with rfl | hu
        · rw [oW, oS x hxw] at hle; have := hlt x hx; omega
        · exact hu
      by_cases hexx : ex x j
      · have e := hex x j hj hexx
        rw [e, oW]
        refine ⟨by omega, fun _ u hu hle _ => ?_⟩
        have hus := own u hu hle
        rw [lS _ (hfs u hus)]
        have := h.lo_le u (h.fr_st u hus); have := hlt u (h.fr_st u hus); omega
      · obtain ⟨h0, h1⟩ := h.edge x hx j hj hpr' hexx
        have hyw := hne _ h0
        rw [oS _ hyw]
        refine ⟨h0, fun hy u hu hle hmax => ?_⟩
        have hus := own u hu hle
        rw [lS _ (hfs u hus)]
        rw [oS u (hfs u hus), oS x hxw] at hle
        refine h1 ((List.mem_cons.1 hy).resolve_left hyw) u hus hle fun u' hu' hle' => ?_
        have := hmax u' ((hfr u').2 (.inr hu')) (by rw [oS _ (hfs u' hu'), oS x hxw]; exact hle')
        rwa [oS _ (hfs u' hu'), oS _ (hfs u hus)] at this
  · intro u hu0 x hx0 hle
    rcases (hfr u).1 hu0 with rfl | hu
    · rcases List.mem_cons.1 hx0 with rfl | hx
      · exact Reach.refl _ _
      · rw [oW, oS _ (hst x hx)] at hle; have := hlt x hx; omega
    · rcases List.mem_cons.1 hx0 with rfl | hx
      · exact hr u hu
      · rw [oS _ (hfs u hu), oS _ (hst x hx)] at hle
        exact h.tr u hu x hx hle
  · intro x hx
    rcases List.mem_cons.1 hx with rfl | hx
    · exact ⟨x, List.mem_cons_self .., by rw [oW, lW], Reach.refl _ _⟩
    · obtain ⟨y, hy, e, hr'⟩ := h.re x hx
      exact ⟨y, List.mem_cons_of_mem _ hy, by rw [oS _ (hst y hy), lS _ (hst x hx)]; exact e, hr'⟩
  · intro x hx hnf
    rcases List.mem_cons.1 hx with rfl | hx
    · exact absurd ((hfr x).2 (.inl rfl)) hnf
    · rw [oS _ (hst x hx), lS _ (hst x hx)]
      exact h.nf x hx (fun hf => hnf ((hfr x).2 (.inr hf)))
  · intro x hx hox hns
    have hxw : x ≠ w := fun e => hns (by subst e; exact List.mem_cons_self ..)
    rw [oS x hxw] at hox
    obtain ⟨h1, h2, h3⟩ := h.dn x hx hox (fun hm => hns (List.mem_cons_of_mem _ hm))
    refine ⟨h1, h2, fun y hy => ?_⟩
    obtain ⟨k1, k2, k3⟩ := h3 y hy
    exact ⟨by rw [oS _ (hne y k1)]; exact k1, fun hm => k2 ((List.mem_cons.1 hm).resolve_left (hne y k1)), k3⟩
  · intro l hl
    obtain ⟨x, h1, h2, h3, h4⟩ := h.us l hl
    exact ⟨x, h1, by rw [oS _ (hne x h2)]; exact h2, fun hm => h3 ((List.mem_cons.1 hm).resolve_left (hne x h2)), h4⟩
  · intro x y hx hy hox hoy hnx hny e
    have hxw : x ≠ w := fun e => hnx (by subst e; exact List.mem_cons_self ..)
    have hyw : y ≠ w := fun e => hny (by subst e; exact List.mem_cons_self ..)
    rw [oS x hxw] at hox
    rw [oS y hyw] at hoy
    exact h.sm x y hx hy hox hoy (fun hm => hnx (List.mem_cons_of_mem _ hm)) (fun hm => hny (List.mem_cons_of_mem _ hm)) e
  · show s.calls.length + 1 ≤ s.reached + 1; have := h.c1; omega
  · show s.labels + (s.stack.length + 1) ≤ s.reached + 1; have := h.c2; omega
  · have := sumTo_one (h := fun x => if s.order x = -1 then 1 else 0) (h' := fun x => if (enter s w).order x = -1 then 1 else 0) hw (fun j _ hj => by simp only [oS j hj])
    have h3 := h.c3
    rw [hrch]
    simp only [oW, ho] at this
    simp only [if_true] at this
    rw [if_neg (by omega)] at this
    omega

/-! ### One edge further -/
def adv (s : St) (v nx : Nat) (rest : List (Nat × Nat)) : St := { s with calls := (v, nx + 1) :: rest }

theorem isFr_adv {v nx : Nat} {rest : List (Nat × Nat)} (hc : s.calls = (v, nx) :: rest) (u : Nat) : IsFr (adv s v nx rest) u ↔ IsFr s u := by
  unfold IsFr adv
  rw [hc]
  simp only [List.mem_cons, Prod.mk.injEq]
  constructor
  · rintro ⟨k, ⟨rfl, rfl⟩ | hk⟩
    · exact ⟨nx, .inl ⟨rfl, rfl⟩⟩
    · exact ⟨k, .inr hk⟩
  · rintro ⟨k, ⟨rfl, rfl⟩ | hk⟩
    · exact ⟨_, .inl ⟨rfl, rfl⟩⟩
    · exact ⟨k, .inr hk⟩

theorem adv_inv (h : Inv n g (fun _ _ => False) s) {v nx : Nat} {rest : List (Nat × Nat)} (hc : s.calls = (v, nx) :: rest) (hnx : nx < (g v).length) :
    Inv n g (fun x j => x = v ∧ j = nx) (adv s v nx rest) := by
  have hfr := isFr_adv (s := s) hc
  have hso := h.fr_so
  rw [hc, List.pairwise_cons] at hso
  refine ⟨?_, ?_, ?_, h.st_lt, h.st_or, h.st_so, h.on, h.or_lt, h.or_ge, h.lo_le, h.lo_ge, ?_, ?_, h.re, ?_, h.dn, h.us, h.sm, ?_, h.c2, h.c3⟩
  · intro u k hk
    rcases List.mem_cons.1 hk with e | hk
    · cases e; exact hnx
    · exact h.fr_le u k (by rw [hc]; exact List.mem_cons_of_mem _ hk)
  · exact fun u hu => h.fr_st u ((hfr u).1 hu)
  · show ((v, nx + 1) :: rest).Pairwise _
    rw [List.pairwise_cons]
    exact hso
  · intro x hx j hj hpr hex
    have hpr' : ∀ k, (x, k) ∈ s.calls → j < k := by
      intro k hk
      by_cases e : x = v
      · subst e
        have := h.top_only hc hk
        have h1 := hpr (nx + 1) (List.mem_cons_self ..)
        have h2 : j ≠ nx := fun e => hex ⟨rfl, e⟩
        omega
      · rw [hc] at hk
        rcases List.mem_cons.1 hk with e' | hk
        · cases e'; exact absurd rfl e
        · exact hpr k (List.mem_cons_of_mem _ hk)
    obtain ⟨h0, h1⟩ := h.edge x hx j hj hpr' (fun f => f)
    exact ⟨h0, fun hy u hu hle hmax => h1 hy u ((hfr u).1 hu) hle fun u' hu' hle' => hmax u' ((hfr u').2 hu') hle'⟩
  · exact fun u hu => h.tr u ((hfr u).1 hu)
  · exact fun x hx hnf => h.nf x hx fun hf => hnf ((hfr x).2 hf)
  · have := h.c1; rw [hc] at this; exact this

/-- The edge leads to a node that is done. -/
theorem off_inv {ex : Nat → Nat → Prop} (h : Inv n g ex s) {w : Nat} (hex : ∀ x j (hj : j < (g x).length), ex x j → (g x)[j] = w) (ho : 0 ≤ s.order w) (hw : w ∉ s.stack) : Inv n g (fun _ _ => False) s := by
  refine ⟨h.fr_le, h.fr_st, h.fr_so, h.st_lt, h.st_or, h.st_so, h.on, h.or_lt, h.or_ge, h.lo_le, h.lo_ge, ?_, h.tr, h.re, h.nf, h.dn, h.us, h.sm, h.c1, h.c2, h.c3⟩
  intro x hx j hj hpr _
  by_cases hexx : ex x j
  · rw [hex x j hj hexx]
    exact ⟨ho, fun hm => absurd hm hw⟩
  · exact h.edge x hx j hj hpr hexx

def lower (s : St) (v : Nat) (m : Int) : St := { s with low := upd s.low v (min (s.low v) m) }

/-- The edge leads to a node of the stack. -/
theorem on_inv {ex : Nat → Nat → Prop} (h : Inv n g ex s) {v nx w : Nat} {rest : List (Nat × Nat)} (hc : s.calls = (v, nx) :: rest) (hex : ∀ x j, ex x j → x = v ∧ ∀ hj : j < (g x).length, (g x)[j] = w) (hw : w ∈ s.stack) (hvw : w ∈ g v) :
    Inv n g (fun _ _ => False) (lower s v (s.order w)) := by
  have hv : v ∈ s.stack := h.fr_st v ⟨nx, by rw [hc]; exact List.mem_cons_self ..⟩
  have hle : ∀ x, (lower s v (s.order w)).low x ≤ s.low x := by
    intro x
    by_cases e : x = v
    · subst e; show upd s.low x _ x ≤ _; rw [upd_same]; omega
    · show upd s.low v _ x ≤ _; rw [upd_ne _ _ e]; exact Int.le_refl _
  have hlv : (lower s v (s.order w)).low v = min (s.low v) (s.order w) := upd_same _ _ _
  have hln : ∀ x, x ≠ v → (lower s v (s.order w)).low x = s.low x := fun x hx => upd_ne _ _ hx
  have hfv : IsFr s v := ⟨nx, by rw [hc]; exact List.mem_cons_self ..⟩
  refine ⟨h.fr_le, h.fr_st, h.fr_so, h.st_lt, h.st_or, h.st_so, h.on, h.or_lt, h.or_ge, ?_, ?_, ?_, h.tr, ?_, ?_, h.dn, h.us, h.sm, h.c1, h.c2, h.c3⟩
  · exact fun x hx => Int.le_trans (hle x) (h.lo_le x hx)
  · intro x hx
    by_cases e : x = v
    · subst e; rw [hlv]; have := h.lo_ge x hx; have := h.st_or w hw; omega
    · rw [hln x e]; exact h.lo_ge x hx
  · intro x hx j hj hpr _
    by_cases hexx : ex x j
    · obtain ⟨rfl, e⟩ := hex x j hexx
      rw [e hj]
      refine ⟨h.st_or w hw, fun _ u hu hle' hmax => ?_⟩
      have : u = x := h.inj (h.fr_st u hu) hv (by have := hmax x hfv (Int.le_refl _); have := h.fr_top hc hu; exact Int.le_antisymm (by assumption) (by assumption))
      subst this
      show (lower s u (s.order w)).low u ≤ s.order w
      rw [hlv]; omega
    · obtain ⟨h0, h1⟩ := h.edge x hx j hj hpr hexx
      exact ⟨h0, fun hy u hu hle' hmax => Int.le_trans (hle u) (h1 hy u hu hle' hmax)⟩
  · intro x hx
    by_cases e : x = v
    · subst e
      rw [hlv]
      by_cases hm : s.low x ≤ s.order w
      · obtain ⟨y, hy, ey, hr⟩ := h.re x hx
        exact ⟨y, hy, by show s.order y = _; omega, hr⟩
      · exact ⟨w, hw, by show s.order w = _; omega, Reach.edge hvw⟩
    · rw [hln x e]; exact h.re x hx
  · exact fun x hx hnf => Int.lt_of_le_of_lt (hle x) (h.nf x hx hnf)

/-! ### A frame is left -/
def lowUp (s : St) (rest : List (Nat × Nat)) (v : Nat) : Nat → Int := match rest with
  | [] => s.low
  | (u, _) :: _ => upd s.low u (min (s.low u) (s.low v))
def back (s : St) (rest : List (Nat × Nat)) (v : Nat) : St := { s with calls := rest, low := lowUp s rest v }

theorem isFr_back {v nx : Nat} {rest : List (Nat × Nat)} (h : Inv n g (fun _ _ => False) s) (hc : s.calls = (v, nx) :: rest) (u : Nat) : IsFr (back s rest v) u ↔ IsFr s u ∧ u ≠ v := by
  constructor
  · rintro ⟨k, hk⟩
    exact ⟨⟨k, by rw [hc]; exact List.mem_cons_of_mem _ hk⟩, fun e => by subst e; have := h.rest_lt hc hk; omega⟩
  · rintro ⟨⟨k, hk⟩, hne⟩
    rw [hc] at hk
    rcases List.mem_cons.1 hk with e | hk
    · cases e; exact absurd rfl hne
    · exact ⟨k, hk⟩

theorem lowUp_le (rest : List (Nat × Nat)) (v x : Nat) : lowUp s rest v x ≤ s.low x := by
  unfold lowUp
  split
  · exact Int.le_refl _
  · rename_i u k r
    by_cases e : x = u
    · subst e; rw [upd_same]; omega
    · rw [upd_ne _ _ e]; exact Int.le_refl _
theorem lowUp_not {rest : List (Nat × Nat)} {v x : Nat} (hx : ∀ k, (x, k) ∉ rest) : lowUp s rest v x = s.low x := by
  unfold lowUp
  split
  · rfl
  · rename_i u k r
    rw [upd_ne _ _ (fun e => hx k (by subst e; exact List.mem_cons_self ..))]

theorem back_inv (h : Inv n g (fun _ _ => False) s) {v nx : Nat} {rest : List (Nat × Nat)} (hc : s.calls = (v, nx) :: rest) (hnx : nx = (g v).length) (hlo : s.low v ≠ s.order v) :
    Inv n g (fun _ _ => False) (back s rest v) := by
  have hfr := isFr_back h hc
  have hso := h.fr_so
  rw [hc, List.pairwise_cons] at hso
  have hfv : IsFr s v := ⟨nx, by rw [hc]; exact List.mem_cons_self ..⟩
  have hv := h.fr_st v hfv
  have hsub : ∀ u k, (u, k) ∈ rest → (u, k) ∈ s.calls := fun u k hk => by rw [hc]; exact List.mem_cons_of_mem _ hk
  have hlv : lowUp s rest v v = s.low v := lowUp_not (fun k hk => by have := h.rest_lt hc hk; omega)
  refine ⟨?_, ?_, hso.2, h.st_lt, h.st_or, h.st_so, h.on, h.or_lt, h.or_ge, ?_, ?_, ?_, ?_, ?_, ?_, h.dn, h.us, h.sm, ?_, h.c2, h.c3⟩
  · exact fun u k hk => h.fr_le u k (hsub u k hk)
  · exact fun u hu => h.fr_st u ((hfr u).1 hu).1
  · exact fun x hx => Int.le_trans (lowUp_le rest v x) (h.lo_le x hx)
  · intro x hx
    show 0 ≤ lowUp s rest v x
    have h1 := h.lo_ge x hx
    have h2 := h.lo_ge v hv
    unfold lowUp
    split
    · exact h1
    · rename_i u k r
      by_cases e : x = u
      · subst e; rw [upd_same]; omega
      · rw [upd_ne _ _ e]; exact h1
  · intro x hx j hj hpr _
    have hpr' : ∀ k, (x, k) ∈ s.calls → j < k := by
      intro k hk
      by_cases e : x = v
      · subst e; rw [h.top_only hc hk, hnx]; exact hj
      · rw [hc] at hk
        rcases List.mem_cons.1 hk with e' | hk
        · cases e'; exact absurd rfl e
        · exact hpr k hk
    obtain ⟨h0, h1⟩ := h.edge x hx j hj hpr' (fun f => f)
    refine ⟨h0, fun hy u hu hle hmax => ?_⟩
    show lowUp s rest v u ≤ _
    have hu' := (hfr u).1 hu
    by_cases hxv : s.order v ≤ s.order x
    · have hv1 := h1 hy v hfv hxv (fun u' hu' _ => h.fr_top hc hu')
      obtain ⟨k, hk⟩ := hu
      have hk' : (u, k) ∈ rest := hk
      cases hrest : rest with
      | nil => rw [hrest] at hk'; cases hk'
      | cons a r =>
        obtain ⟨u2, k2⟩ := a
        have hu2 : IsFr (back s rest v) u2 := ⟨k2, by show (u2, k2) ∈ rest; rw [hrest]; exact List.mem_cons_self ..⟩
        have hlt2 := h.rest_lt hc (show (u2, k2) ∈ rest by rw [hrest]; exact List.mem_cons_self ..)
        have hle2 : s.order u2 ≤ s.order u := hmax u2 hu2 (by show s.order u2 ≤ s.order x; omega)
        have hle3 : s.order u ≤ s.order u2 := by
          rw [hrest] at hk'
          rcases List.mem_cons.1 hk' with e | hk'
          · cases e; exact Int.le_refl _
          · have := hso.2
            rw [hrest, List.pairwise_cons] at this
            exact Int.le_of_lt (this.1 _ hk')
        have e : u = u2 := h.inj (h.fr_st u hu'.1) (h.fr_st u2 ((hfr u2).1 hu2).1) (Int.le_antisymm hle3 hle2)
        subst e
        show upd s.low u _ u ≤ _
        rw [upd_same]
        show _ ≤ s.order _
        omega
    · refine Int.le_trans (lowUp_le rest v u) (h1 hy u hu'.1 hle fun u' hu'' hle' => ?_)
      by_cases e : u' = v
      · subst e; exact absurd hle' hxv
      · exact hmax u' ((hfr u').2 ⟨hu'', e⟩) hle'
  · exact fun u hu => h.tr u ((hfr u).1 hu).1
  · intro x hx
    show ∃ y, y ∈ s.stack ∧ s.order y = lowUp s rest v x ∧ Reach g x y
    cases hrest : rest with
    | nil => exact h.re x hx
    | cons a r =>
      obtain ⟨u, k⟩ := a
      show ∃ y, y ∈ s.stack ∧ s.order y = upd s.low u (min (s.low u) (s.low v)) x ∧ Reach g x y
      by_cases e : x = u
      · subst e
        rw [upd_same]
        by_cases hm : s.low x ≤ s.low v
        · obtain ⟨y, hy, ey, hr⟩ := h.re x hx
          exact ⟨y, hy, by omega, hr⟩
        · obtain ⟨y, hy, ey, hr⟩ := h.re v hv
          have hxr : (x, k) ∈ rest := by rw [hrest]; exact List.mem_cons_self ..
          have hlt := h.rest_lt hc hxr
          exact ⟨y, hy, by omega, (h.tr x ⟨k, hsub x k hxr⟩ v hv (by omega)).trans hr⟩
      · rw [upd_ne _ _ e]; exact h.re x hx
  · intro x hx hnf
    show lowUp s rest v x < s.order x
    by_cases e : x = v
    · subst e
      rw [hlv]
      have := h.lo_le x hx; omega
    · exact Int.lt_of_le_of_lt (lowUp_le rest v x) (h.nf x hx fun hf => hnf ((hfr x).2 ⟨hf, e⟩))
  · have := h.c1; rw [hc] at this; simp at this; show rest.length ≤ s.reached; omega

/-! ### A component is taken off the stack -/
def take (s : St) (S R : List Nat) : St :=
  { s with onSt := fun x => if x ∈ S then false else s.onSt x, comp := fun x => if x ∈ S then (s.labels : Int) else s.comp x, stack := R, labels := s.labels + 1 }

theorem take_inv (h : Inv n g (fun _ _ => False) s) {v nx : Nat} {rest : List (Nat × Nat)} (hc : s.calls = (v, nx) :: rest) (hnx : nx = (g v).length) (hlo : s.low v = s.order v) {A R : List Nat} (hs : s.stack = A ++ v :: R) (hg : ∀ x, x < n → ∀ y, y ∈ g x → y < n) :
    Inv n g (fun _ _ => False) (take (back s rest v) (A ++ [v]) R) := by
  have hfr := isFr_back h hc
  have hso := h.fr_so
  rw [hc, List.pairwise_cons] at hso
  have hfv : IsFr s v := ⟨nx, by rw [hc]; exact List.mem_cons_self ..⟩
  have hv := h.fr_st v hfv
  have hsub : ∀ u k, (u, k) ∈ rest → (u, k) ∈ s.calls := fun u k hk => by rw [hc]; exact List.mem_cons_of_mem _ hk
  have hst := h.st_so
  rw [hs, List.pairwise_append] at hst
  obtain ⟨hst1, hst2, hst3⟩ := hst
  rw [List.pairwise_cons] at hst2
  have hA : ∀ x, x ∈ A → s.order v < s.order x := fun x hx => hst3 x hx v (List.mem_cons_self ..)
  have hR : ∀ x, x ∈ R → s.order x < s.order v := fun x hx => hst2.1 x hx
  have inS : ∀ x, x ∈ s.stack → s.order v ≤ s.order x → x ∈ A ++ [v] := by
    intro x hx hle
    rw [hs] at hx
    rcases List.mem_append.1 hx with hx | hx
    · exact List.mem_append_left _ hx
    · rcases List.mem_cons.1 hx with rfl | hx
      · exact List.mem_append_right _ (List.mem_cons_self ..)
      · have := hR x hx; omega
  have inR : ∀ x, x ∈ s.stack → s.order x < s.order v → x ∈ R := by
    intro x hx hlt
    rw [hs] at hx
    rcases List.mem_append.1 hx with hx | hx
    · have := hA x hx; omega
    · rcases List.mem_cons.1 hx with rfl | hx
      · omega
      · exact hx
  have ofS : ∀ x, x ∈ A ++ [v] → x ∈ s.stack ∧ s.order v ≤ s.order x := by
    intro x hx
    rcases List.mem_append.1 hx with hx | hx
    · exact ⟨by rw [hs]; exact List.mem_append_left _ hx, Int.le_of_lt (hA x hx)⟩
    · obtain rfl : x = v := by simpa using hx
      exact ⟨hv, Int.le_refl _⟩
  have ofR : ∀ x, x ∈ R → x ∈ s.stack := fun x hx => by rw [hs]; exact List.mem_append_right _ (List.mem_cons_of_mem _ hx)
  have hlow : ∀ x, lowUp s rest v x = s.low x := by
    intro x
    cases hrest : rest with
    | nil => rfl
    | cons a r =>
      obtain ⟨u, k⟩ := a
      show upd s.low u (min (s.low u) (s.low v)) x = s.low x
      by_cases e : x = u
      · subst e
        rw [upd_same]
        have hxr : (x, k) ∈ rest := by rw [hrest]; exact List.mem_cons_self ..
        have h1 := h.rest_lt hc hxr
        have h2 := h.lo_le x (h.fr_st x ⟨k, hsub x k hxr⟩)
        omega
      · exact upd_ne _ _ e
  have closed : ∀ x, x ∈ A ++ [v] → ∀ y, y ∈ g x → 0 ≤ s.order y ∧ (y ∈ s.stack → y ∈ A ++ [v]) := by
    intro x hx y hy
    obtain ⟨hxs, hxo⟩ := ofS x hx
    obtain ⟨j, hj, rfl⟩ := List.mem_iff_getElem.1 hy
    have hpr : ∀ k, (x, k) ∈ s.calls → j < k := by
      intro k hk
      have hle := h.fr_top hc ⟨k, hk⟩
      have e : x = v := h.inj hxs hv (Int.le_antisymm hle hxo)
      subst e
      rw [h.top_only hc hk, hnx]; exact hj
    obtain ⟨h0, h1⟩ := h.edge x hxs j hj hpr (fun f => f)
    refine ⟨h0, fun hm => inS _ hm ?_⟩
    have := h1 hm v hfv hxo (fun u' hu' _ => h.fr_top hc hu')
    omega
  have hlS : ∀ x, ((take (back s rest v) (A ++ [v]) R)).low x = s.low x := fun x => hlow x
  have hcS : ∀ x, x ∈ A ++ [v] → (take (back s rest v) (A ++ [v]) R).comp x = s.labels := fun x hx => if_pos hx
  have hcN : ∀ x, x ∉ A ++ [v] → (take (back s rest v) (A ++ [v]) R).comp x = s.comp x := fun x hx => if_neg hx
  have hlb : (take (back s rest v) (A ++ [v]) R).labels = s.labels + 1 := rfl
  have notR : ∀ x, x ∈ A ++ [v] → x ∉ R := fun x hx hr => by have := (ofS x hx).2; have := hR x hr; omega
  have toV : ∀ x, x ∈ s.stack → Reach g x v := by
    intro x hx
    obtain ⟨u, hu, _, hr⟩ := h.toFr _ x hx rfl
    exact hr.trans (h.tr u hu v hv (h.fr_top hc hu))
  refine ⟨?_, ?_, hso.2, ?_, ?_, hst2.2, ?_, h.or_lt, h.or_ge, ?_, ?_, ?_, ?_, ?_, ?_, ?_, ?_, ?_, ?_, ?_, h.c3⟩
  · exact fun u k hk => h.fr_le u k (hsub u k hk)
  · rintro u ⟨k, hk⟩
    exact inR u (h.fr_st u ⟨k, hsub u k hk⟩) (h.rest_lt hc hk)
  · exact fun x hx => h.st_lt x (ofR x hx)
  · exact fun x hx => h.st_or x (ofR x hx)
  · intro x hx
    show (if x ∈ A ++ [v] then false else s.onSt x) = true ↔ x ∈ R
    by_cases hS : x ∈ A ++ [v]
    · rw [if_pos hS]
      exact ⟨fun e => (by cases e), fun hr => absurd hr (notR x hS)⟩
    · rw [if_neg hS, h.on x hx]
      refine ⟨fun hm => inR x hm ?_, ofR x⟩
      have : ¬ s.order v ≤ s.order x := fun hle => hS (inS x hm hle)
      omega
  · exact fun x hx => by rw [hlS]; exact h.lo_le x (ofR x hx)
  · exact fun x hx => by rw [hlS]; exact h.lo_ge x (ofR x hx)
  · intro x hx j hj hpr _
    have hxo := hR x hx
    have hpr' : ∀ k, (x, k) ∈ s.calls → j < k := by
      intro k hk
      rw [hc] at hk
      rcases List.mem_cons.1 hk with e' | hk
      · cases e'; omega
      · exact hpr k hk
    obtain ⟨h0, h1⟩ := h.edge x (ofR x hx) j hj hpr' (fun f => f)
    refine ⟨h0, fun hy u hu hle hmax => ?_⟩
    rw [hlS]
    have hu' : IsFr s u := by
      obtain ⟨k, hk⟩ := hu
      exact ⟨k, hsub u k hk⟩
    refine h1 (ofR _ hy) u hu' hle fun u' hu'' hle' => ?_
    obtain ⟨k, hk⟩ := hu''
    rw [hc] at hk
    rcases List.mem_cons.1 hk with e' | hk
    · cases e'; omega
    · exact hmax u' ⟨k, hk⟩ hle'
  · rintro u ⟨k, hk⟩ x hx hle
    exact h.tr u ⟨k, hsub u k hk⟩ x (ofR x hx) hle
  · intro x hx
    obtain ⟨y, hy, ey, hr⟩ := h.re x (ofR x hx)
    refine ⟨y, inR y hy ?_, by rw [hlS]; exact ey, hr⟩
    have := h.lo_le x (ofR x hx); have := hR x hx; omega
  · intro x hx hnf
    rw [hlS]
    refine h.nf x (ofR x hx) ?_
    rintro ⟨k, hk⟩
    rw [hc] at hk
    rcases List.mem_cons.1 hk with e' | hk
    · cases e'; have := hR v hx; omega
    · exact hnf ⟨k, hk⟩
  · intro x hx hox hns
    rw [hlb]
    by_cases hS : x ∈ A ++ [v]
    · rw [hcS x hS]
      refine ⟨by omega, by omega, fun y hy => ?_⟩
      obtain ⟨h0, h1⟩ := closed x hS y hy
      refine ⟨h0, fun hr => notR y (h1 (ofR y hr)) hr, ?_⟩
      by_cases hyS : y ∈ A ++ [v]
      · rw [hcS y hyS]; exact Int.le_refl _
      · rw [hcN y hyS]
        have := (h.dn y (hg x hx y hy) h0 (fun hm => hyS (h1 hm))).2.1
        omega
    · have hxn : x ∉ s.stack := by
        intro hm
        by_cases hle : s.order v ≤ s.order x
        · exact hS (inS x hm hle)
        · exact hns (inR x hm (by omega))
      obtain ⟨h1, h2, h3⟩ := h.dn x hx hox hxn
      rw [hcN x hS]
      refine ⟨h1, by omega, fun y hy => ?_⟩
      obtain ⟨k1, k2, k3⟩ := h3 y hy
      refine ⟨k1, fun hr => k2 (ofR y hr), ?_⟩
      rw [hcN y (fun hm => k2 (ofS y hm).1)]; exact k3
  · intro l hl
    rw [hlb] at hl
    by_cases e : l = s.labels
    · subst e
      exact ⟨v, h.st_lt v hv, h.st_or v hv, notR v (by simp), hcS v (by simp)⟩
    · obtain ⟨x, h1, h2, h3, h4⟩ := h.us l (by omega)
      exact ⟨x, h1, h2, fun hr => h3 (ofR x hr), by rw [hcN x (fun hm => h3 (ofS x hm).1)]; exact h4⟩
  · intro x y hx hy hox hoy hnx' hny e
    have cls : ∀ z, z < n → 0 ≤ s.order z → z ∉ R → z ∉ A ++ [v] → z ∉ s.stack := by
      intro z _ _ hzR hzS hm
      by_cases hle : s.order v ≤ s.order z
      · exact hzS (inS z hm hle)
      · exact hzR (inR z hm (by omega))
    by_cases hxS : x ∈ A ++ [v]
    · by_cases hyS : y ∈ A ++ [v]
      · exact (toV x (ofS x hxS).1).trans (h.tr v hfv y (ofS y hyS).1 (ofS y hyS).2)
      · rw [hcS x hxS, hcN y hyS] at e
        have := (h.dn y hy hoy (cls y hy hoy hny hyS)).2.1
        omega
    · by_cases hyS : y ∈ A ++ [v]
      · rw [hcN x hxS, hcS y hyS] at e
        have := (h.dn x hx hox (cls x hx hox hnx' hxS)).2.1
        omega
      · rw [hcN x hxS, hcN y hyS] at e
        exact h.sm x y hx hy hox hoy (cls x hx hox hnx' hxS) (cls y hy hoy hny hyS) e
  · have := h.c1; rw [hc] at this; simp at this; show rest.length ≤ s.reached; omega
  · have := h.c2; rw [hs] at this; simp at this; show s.labels + 1 + R.length ≤ s.reached; omega

/-! ### The measure; the start; the end -/
def mu (n : Nat) (g : Nat → List Nat) (s : St) : Nat :=
  sumTo (fun x => if s.order x = -1 then (g x).length + 1 else 0) n + (s.calls.map fun f => (g f.1).length - f.2 + 1).sum

theorem mu_adv {v nx : Nat} {rest : List (Nat × Nat)} (hc : s.calls = (v, nx) :: rest) (hnx : nx < (g v).length) : mu n g (adv s v nx rest) < mu n g s := by
  unfold mu
  rw [hc]
  show _ + (((v, nx + 1) :: rest).map fun f => (g f.1).length - f.2 + 1).sum < _
  simp only [List.map_cons, List.sum_cons]
  show sumTo (fun x => if s.order x = -1 then (g x).length + 1 else 0) n + _ < _
  omega
theorem mu_enter {w : Nat} (hw : w < n) (ho : s.order w = -1) : mu n g (enter s w) = mu n g s := by
  unfold mu
  have := sumTo_one (h := fun x => if s.order x = -1 then (g x).length + 1 else 0) (h' := fun x => if (enter s w).order x = -1 then (g x).length + 1 else 0) hw
    (fun j _ hj => by show (if upd s.order w s.reached j = -1 then _ else _) = _; rw [upd_ne _ _ hj])
  have e : (enter s w).order w = s.reached := upd_same _ _ _
  simp only [e, ho, if_true] at this
  rw [if_neg (by omega)] at this
  show sumTo (fun x => if (enter s w).order x = -1 then (g x).length + 1 else 0) n + (((w, 0) :: s.calls).map fun f => (g f.1).length - f.2 + 1).sum = _
  simp only [List.map_cons, List.sum_cons]
  omega
theorem mu_lower (v : Nat) (m : Int) : mu n g (lower s v m) = mu n g s := rfl
theorem mu_back {v nx : Nat} {rest : List (Nat × Nat)} (hc : s.calls = (v, nx) :: rest) : mu n g (back s rest v) < mu n g s := by
  unfold mu
  rw [hc]
  show sumTo (fun x => if s.order x = -1 then (g x).length + 1 else 0) n + (rest.map fun f => (g f.1).length - f.2 + 1).sum < _
  simp only [List.map_cons, List.sum_cons]
  omega
theorem mu_take (S R : List Nat) : mu n g (take s S R) = mu n g s := rfl

def st0 : St := { order := fun _ => -1, low := fun _ => 0, onSt := fun _ => false, comp := fun _ => 0, calls := [], stack := [], reached := 0, labels := 0 }
theorem sum_ones (m : Nat) : sumTo (fun _ => 1) m = m := by
  induction m with
  | zero => rfl
  | succ m ih => simp only [sumTo, ih]
theorem st0_inv (n : Nat) (g : Nat → List Nat) : Inv n g (fun _ _ => False) st0 := by
  refine ⟨?_, ?_, List.Pairwise.nil, ?_, ?_, List.Pairwise.nil, ?_, ?_, ?_, ?_, ?_, ?_, ?_, ?_, ?_, ?_, ?_, ?_, Nat.le_refl _, Nat.le_refl _, ?_⟩
  · intro v nx h; cases h
  · rintro v ⟨k, h⟩; cases h
  · intro x h; cases h
  · intro x h; cases h
  · intro x _; exact ⟨fun h => (by cases h), fun h => (by cases h)⟩
  · intro x _; show (-1 : Int) < 0; omega
  · intro x _; exact Int.le_refl _
  · intro x h; cases h
  · intro x h; cases h
  · intro x h; cases h
  · rintro u ⟨k, h⟩; cases h
  · intro x h; cases h
  · intro x h; cases h
  · intro x _ h; exact absurd h (by show ¬ (0 : Int) ≤ -1; omega)
  · intro l h; exact absurd h (Nat.not_lt_zero _)
  · intro x y _ _ h; exact absurd h (by show ¬ (0 : Int) ≤ -1; omega)
  · show 0 + sumTo (fun x => if (-1 : Int) = -1 then 1 else 0) n = n
    simp only [if_true, sum_ones]; omega

/-- What the labels of all nodes say. -/
structure Good (n : Nat) (g : Nat → List Nat) (c : Nat → Int) : Prop where
  ge : ∀ x, x < n → 0 ≤ c x
  dense : ∀ x, x < n → ∀ l : Nat, (l : Int) ≤ c x → ∃ y, y < n ∧ c y = l
  fall : ∀ x, x < n → ∀ y, y ∈ g x → c y ≤ c x
  lt : ∀ x, x < n → c x < n
  same : ∀ x y, x < n → y < n → c x = c y → Reach g x y

theorem Inv.good (h : Inv n g (fun _ _ => False) s) (hc : s.calls = []) (hall : ∀ x, x < n → 0 ≤ s.order x) : Good n g s.comp := by
  have he := h.empty hc
  have hn : ∀ x, x ∉ s.stack := fun x hx => by rw [he] at hx; cases hx
  have hlab : s.labels ≤ n := by have := h.c2; have := h.c3; omega
  refine ⟨fun x hx => (h.dn x hx (hall x hx) (hn x)).1, fun x hx l hl => ?_, fun x hx y hy => ((h.dn x hx (hall x hx) (hn x)).2.2 y hy).2.2, fun x hx => ?_, fun x y hx hy => h.sm x y hx hy (hall x hx) (hall y hy) (hn x) (hn y)⟩
  · have h1 := (h.dn x hx (hall x hx) (hn x)).2.1
    obtain ⟨y, a, _, _, d⟩ := h.us l (by omega)
    exact ⟨y, a, d⟩
  · have h1 := (h.dn x hx (hall x hx) (hn x)).2.1; omega

theorem Good.falls {c : Nat → Int} (h : Good n g c) (hg : ∀ x, x < n → ∀ y, y ∈ g x → y < n) {x y : Nat} (hx : x < n) (hr : Reach g x y) : c y ≤ c x :=
  (hr (fun z => z < n ∧ c z ≤ c x) ⟨hx, Int.le_refl _⟩ fun a b ha hb => ⟨hg a ha.1 b hb, Int.le_trans (h.fall a ha.1 b hb) ha.2⟩).2
theorem Good.iff {c : Nat → Int} (h : Good n g c) (hg : ∀ x, x < n → ∀ y, y ∈ g x → y < n) {x y : Nat} (hx : x < n) (hy : y < n) : c x = c y ↔ Reach g x y ∧ Reach g y x :=
  ⟨fun e => ⟨h.same x y hx hy e, h.same y x hy hx e.symm⟩, fun ⟨a, b⟩ => Int.le_antisymm (h.falls hg hy b) (h.falls hg hx a)⟩
end Go.Proofs.Qxb6004021a.Tj
