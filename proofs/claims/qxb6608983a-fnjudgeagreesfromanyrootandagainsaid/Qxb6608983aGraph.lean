/-
  THE PLAIN LAW OF SEAT b6608983a: hop distances over usable links. No Go in sight.
-/
set_option linter.unusedVariables false
namespace Go.Proofs.Qxb6608983a.G

/-- link i joins u and v -/
def Joins (A B : Nat → Nat) (i u v : Nat) : Prop := (A i = u ∧ B i = v) ∨ (A i = v ∧ B i = u)

theorem Joins.symm {A B : Nat → Nat} {i u v : Nat} (h : Joins A B i u v) : Joins A B i v u := by
  rcases h with h | h
  · exact .inr h
  · exact .inl h

/-- d is the function of hop distances from src over the usable links, -1 where src does not reach: said by what holds at each link and at each reached vertex. -/
structure IsDist (n m : Nat) (A B : Nat → Nat) (U : Nat → Bool) (src : Nat) (d : Nat → Int) : Prop where
  lo : ∀ v, v < n → -1 ≤ d v
  hi : ∀ v, v < n → d v < n
  src_lt : src < n
  src0 : d src = 0
  relax : ∀ i, i < m → U i = true → ∀ u v, Joins A B i u v → 0 ≤ d u → 0 ≤ d v ∧ d v ≤ d u + 1
  par : ∀ v, v < n → v ≠ src → 0 ≤ d v → ∃ i u, i < m ∧ U i = true ∧ Joins A B i u v ∧ 0 ≤ d u ∧ d v = d u + 1

/-- the links' ends lie among n -/
def Ends (n m : Nat) (A B : Nat → Nat) : Prop := ∀ i, i < m → A i < n ∧ B i < n ∧ A i ≠ B i

theorem Ends.lt {n m : Nat} {A B : Nat → Nat} (h : Ends n m A B) {i u v : Nat} (hi : i < m) (hj : Joins A B i u v) : u < n ∧ v < n := by
  have := h i hi
  rcases hj with ⟨rfl, rfl⟩ | ⟨rfl, rfl⟩
  · exact ⟨this.1, this.2.1⟩
  · exact ⟨this.2.1, this.1⟩

def upd (d : Nat → Int) (v : Nat) (x : Int) : Nat → Int := fun u => if u = v then x else d u
theorem upd_same (d : Nat → Int) (v : Nat) (x : Int) : upd d v x v = x := if_pos rfl
theorem upd_other (d : Nat → Int) (v : Nat) (x : Int) {u : Nat} (h : u ≠ v) : upd d v x u = d u := if_neg h

/-! ### Bellman-Ford beside a D that is known -/
section
variable {n m : Nat} {A B : Nat → Nat} {U : Nat → Bool} {src : Nat} {D : Nat → Int}

/-- what holds of d at every moment of round r -/
structure Good (n : Nat) (src : Nat) (D : Nat → Int) (r : Nat) (d : Nat → Int) : Prop where
  lo : ∀ v, v < n → -1 ≤ d v
  ub : ∀ v, v < n → 0 ≤ d v → 0 ≤ D v ∧ D v ≤ d v
  src0 : d src = 0
  ex : ∀ v, v < n → 0 ≤ D v → D v ≤ r → d v = D v

/-- one half of a link's relaxing: from u to v -/
def half (d : Nat → Int) (u v : Nat) : Nat → Int := if 0 ≤ d u ∧ (d v < 0 ∨ d u + 1 < d v) then upd d v (d u + 1) else d

theorem half_yes {d : Nat → Int} {u v : Nat} (h : 0 ≤ d u ∧ (d v < 0 ∨ d u + 1 < d v)) : half d u v = upd d v (d u + 1) := if_pos h
theorem half_no {d : Nat → Int} {u v : Nat} (h : ¬ (0 ≤ d u ∧ (d v < 0 ∨ d u + 1 < d v))) : half d u v = d := if_neg h

/-- where d is D already it stays -/
theorem half_keeps {r : Nat} {d : Nat → Int} (g : Good n src D r d) (hD : IsDist n m A B U src D) {i u v : Nat} (hi : i < m) (hU : U i = true) (hj : Joins A B i u v) (hu : u < n) {x : Nat} (hx0 : 0 ≤ D x) (hx : d x = D x) :
    half d u v x = D x := by
  by_cases h : 0 ≤ d u ∧ (d v < 0 ∨ d u + 1 < d v)
  · rw [half_yes h]
    by_cases e : x = v
    · subst e
      have h1 := g.ub u hu h.1
      have h2 := hD.relax i hi hU u x hj h1.1
      rcases h.2 with h3 | h3
      · omega
      · omega
    · rw [upd_other _ _ _ e]; exact hx
  · rw [half_no h]; exact hx

theorem half_good {r : Nat} {d : Nat → Int} (g : Good n src D r d) (hD : IsDist n m A B U src D) (hE : Ends n m A B) {i u v : Nat} (hi : i < m) (hU : U i = true) (hj : Joins A B i u v) : Good n src D r (half d u v) := by
  have hl := hE.lt hi hj
  refine ⟨fun x hx => ?_, fun x hx h0 => ?_, ?_, fun x hx h0 hr => half_keeps g hD hi hU hj hl.1 h0 (g.ex x hx h0 hr)⟩
  · by_cases h : 0 ≤ d u ∧ (d v < 0 ∨ d u + 1 < d v)
    · rw [half_yes h]
      by_cases e : x = v
      · subst e; rw [upd_same]; omega
      · rw [upd_other _ _ _ e]; exact g.lo x hx
    · rw [half_no h]; exact g.lo x hx
  · by_cases h : 0 ≤ d u ∧ (d v < 0 ∨ d u + 1 < d v)
    · rw [half_yes h] at h0 ⊢
      by_cases e : x = v
      · subst e
        rw [upd_same] at h0 ⊢
        have h1 := g.ub u hl.1 h.1
        have h2 := hD.relax i hi hU u x hj h1.1
        omega
      · rw [upd_other _ _ _ e] at h0 ⊢; exact g.ub x hx h0
    · rw [half_no h] at h0 ⊢; exact g.ub x hx h0
  · have h0 : 0 ≤ D src := by rw [hD.src0]; omega
    have := half_keeps g hD hi hU hj hl.1 (x := src) h0 (by rw [g.src0, hD.src0])
    rw [this, hD.src0]

/-- behind the half from u to v the edge is relaxed in that direction where D u = r -/
theorem half_done {r : Nat} {d : Nat → Int} (g : Good n src D r d) (hD : IsDist n m A B U src D) (hE : Ends n m A B) {i u v : Nat} (hi : i < m) (hU : U i = true) (hj : Joins A B i u v) (h0 : D u = r) (h1 : D v = r + 1) : half d u v v = D v := by
  have hl := hE.lt hi hj
  have hdu := g.ex u hl.1 (by omega) (by omega)
  by_cases h : 0 ≤ d u ∧ (d v < 0 ∨ d u + 1 < d v)
  · rw [half_yes h, upd_same]; omega
  · rw [half_no h]
    have h3 : ¬ d v < 0 ∧ ¬ d u + 1 < d v := by
      constructor
      · intro hh; exact h ⟨by omega, .inl hh⟩
      · intro hh; exact h ⟨by omega, .inr hh⟩
    have h4 := g.ub v hl.2 (by omega)
    omega

theorem half_le {d : Nat → Int} {K : Int} (h : ∀ v, v < n → d v ≤ K) (hK : 0 ≤ K) {u v : Nat} (hu : u < n) : ∀ x, x < n → half d u v x ≤ K + 1 := by
  intro x hx
  by_cases c : 0 ≤ d u ∧ (d v < 0 ∨ d u + 1 < d v)
  · rw [half_yes c]
    by_cases e : x = v
    · subst e; rw [upd_same]; have := h u hu; omega
    · rw [upd_other _ _ _ e]; have := h x hx; omega
  · rw [half_no c]; have := h x hx; omega

/-- all usable links among the first i are relaxed -/
def Fix (A B : Nat → Nat) (U : Nat → Bool) (i : Nat) (d : Nat → Int) : Prop := ∀ j, j < i → U j = true → ∀ u v, Joins A B j u v → 0 ≤ d u → 0 ≤ d v ∧ d v ≤ d u + 1

/-- INSIDE ROUND r, behind the first i links: ch tells whether something has turned in this round. -/
structure Inner (n : Nat) (A B : Nat → Nat) (U : Nat → Bool) (src : Nat) (D : Nat → Int) (r i : Nat) (d : Nat → Int) (ch : Bool) : Prop where
  good : Good n src D r d
  done : ∀ j, j < i → U j = true → ∀ u v, Joins A B j u v → D u = r → D v = r + 1 → d v = D v
  fix : ch = false → Fix A B U i d
  bd : ∀ v, v < n → d v ≤ 8192 * r + 2 * i

/-- AT THE HEAD OF ROUND r -/
structure Outer (n m : Nat) (A B : Nat → Nat) (U : Nat → Bool) (src : Nat) (D : Nat → Int) (r : Nat) (d : Nat → Int) (ch : Bool) : Prop where
  good : Good n src D r d
  fix : ch = false → Fix A B U m d
  bd : ∀ v, v < n → d v ≤ 8192 * r

theorem Outer.inner {r : Nat} {d : Nat → Int} {ch : Bool} (h : Outer n m A B U src D r d ch) : Inner n A B U src D r 0 d false :=
  ⟨h.good, fun j hj => absurd hj (Nat.not_lt_zero _), fun _ j hj => absurd hj (Nat.not_lt_zero _), fun v hv => by have := h.bd v hv; omega⟩

theorem Inner.skip {r i : Nat} {d : Nat → Int} {ch : Bool} (h : Inner n A B U src D r i d ch) (hU : U i = false) : Inner n A B U src D r (i + 1) d ch := by
  refine ⟨h.good, fun j hj hUj => ?_, fun hc j hj hUj => ?_, fun v hv => by have := h.bd v hv; omega⟩
  · by_cases e : j = i
    · subst e; rw [hU] at hUj; cases hUj
    · exact h.done j (by omega) hUj
  · by_cases e : j = i
    · subst e; rw [hU] at hUj; cases hUj
    · exact h.fix hc j (by omega) hUj

/-- did a half turn something? -/
def moved (d : Nat → Int) (u v : Nat) : Bool := decide (0 ≤ d u ∧ (d v < 0 ∨ d u + 1 < d v))

theorem Inner.step {r i : Nat} {d : Nat → Int} {ch : Bool} (h : Inner n A B U src D r i d ch) (hD : IsDist n m A B U src D) (hE : Ends n m A B) (hi : i < m) (hU : U i = true) :
    Inner n A B U src D r (i + 1) (half (half d (A i) (B i)) (B i) (A i)) (ch || moved d (A i) (B i) || moved (half d (A i) (B i)) (B i) (A i)) := by
  have j1 : Joins A B i (A i) (B i) := .inl ⟨rfl, rfl⟩
  have j2 : Joins A B i (B i) (A i) := .inr ⟨rfl, rfl⟩
  have hl := hE i hi
  have g1 := half_good h.good hD hE hi hU j1
  have g2 := half_good g1 hD hE hi hU j2
  have keep : ∀ x, 0 ≤ D x → d x = D x → half (half d (A i) (B i)) (B i) (A i) x = D x := fun x h0 hx =>
    half_keeps g1 hD hi hU j2 hl.2.1 h0 (half_keeps h.good hD hi hU j1 hl.1 h0 hx)
  refine ⟨g2, fun j hj hUj u v hjn hu hv => ?_, fun hc => ?_, ?_⟩
  · by_cases e : j = i
    · subst e
      rcases hjn with ⟨e1, e2⟩ | ⟨e1, e2⟩
      · subst e1; subst e2
        exact half_keeps g1 hD hi hU j2 hl.2.1 (by omega) (half_done h.good hD hE hi hU j1 hu hv)
      · subst e1; subst e2
        exact half_done g1 hD hE hi hU j2 hu hv
    · exact keep v (by omega) (h.done j (by omega) hUj u v hjn hu hv)
  · simp only [Bool.or_eq_false_iff] at hc
    obtain ⟨⟨hc1, hc2⟩, hc3⟩ := hc
    have n1 : ¬ (0 ≤ d (A i) ∧ (d (B i) < 0 ∨ d (A i) + 1 < d (B i))) := of_decide_eq_false hc2
    have e1 : half d (A i) (B i) = d := half_no n1
    rw [e1] at hc3 ⊢
    have n2 : ¬ (0 ≤ d (B i) ∧ (d (A i) < 0 ∨ d (B i) + 1 < d (A i))) := of_decide_eq_false hc3
    rw [half_no n2]
    intro j hj hUj u v hjn h0
    by_cases e : j = i
    · subst e
      rcases hjn with ⟨rfl, rfl⟩ | ⟨rfl, rfl⟩
      · constructor
        · refine Int.not_lt.1 fun hh => n1 ⟨h0, .inl hh⟩
        · refine Int.not_lt.1 fun hh => n1 ⟨h0, .inr hh⟩
      · constructor
        · refine Int.not_lt.1 fun hh => n2 ⟨h0, .inl hh⟩
        · refine Int.not_lt.1 fun hh => n2 ⟨h0, .inr hh⟩
    · exact h.fix hc1 j (by omega) hUj u v hjn h0
  · intro v hv
    have b1 := half_le h.bd (by omega) (v := B i) hl.1
    have b2 := half_le b1 (by omega) (v := A i) hl.2.1 v hv
    omega

theorem Inner.outer {r : Nat} {d : Nat → Int} {ch : Bool} (h : Inner n A B U src D r m d ch) (hD : IsDist n m A B U src D) (hm : m ≤ 4096) : Outer n m A B U src D (r + 1) d ch := by
  refine ⟨⟨h.good.lo, h.good.ub, h.good.src0, fun v hv h0 hr => ?_⟩, h.fix, fun v hv => by have := h.bd v hv; omega⟩
  by_cases e : D v ≤ r
  · exact h.good.ex v hv h0 e
  · have hne : v ≠ src := fun hh => by rw [hh, hD.src0] at e; omega
    obtain ⟨i, u, hi, hU, hj, hu, hd⟩ := hD.par v hv hne h0
    exact h.done i hi hU u v hj (by omega) (by omega)

/-- THE END: nothing turned, or n rounds have gone: d is D. -/
theorem Outer.final {r : Nat} {d : Nat → Int} {ch : Bool} (h : Outer n m A B U src D r d ch) (hD : IsDist n m A B U src D) (hE : Ends n m A B) (hend : ch = false ∨ r = n) : ∀ v, v < n → d v = D v := by
  have neg : ∀ v, v < n → D v < 0 → d v = D v := fun v hv hn => by
    have h1 := h.good.lo v hv
    have h2 := hD.lo v hv
    by_cases h3 : 0 ≤ d v
    · have := h.good.ub v hv h3; omega
    · omega
  rcases hend with hc | hr
  · have fx := h.fix hc
    have key : ∀ k : Nat, ∀ v, v < n → D v = k → d v = D v := by
      intro k
      induction k with
      | zero =>
        intro v hv hk
        by_cases e : v = src
        · rw [e, h.good.src0, hD.src0]
        · obtain ⟨i, u, hi, hU, hj, hu, hd⟩ := hD.par v hv e (by omega)
          omega
      | succ k ih =>
        intro v hv hk
        have hne : v ≠ src := fun hh => by rw [hh, hD.src0] at hk; omega
        obtain ⟨i, u, hi, hU, hj, hu, hd⟩ := hD.par v hv hne (by omega)
        have hul := (hE.lt hi hj).1
        have hdu := ih u hul (by omega)
        have h1 := fx i hi hU u v hj (by omega)
        have h2 := h.good.ub v hv h1.1
        omega
    intro v hv
    by_cases h0 : 0 ≤ D v
    · exact key (D v).toNat v hv (by omega)
    · exact neg v hv (by omega)
  · intro v hv
    by_cases h0 : 0 ≤ D v
    · have := hD.hi v hv
      exact h.good.ex v hv h0 (by omega)
    · exact neg v hv (by omega)

theorem outer_start {d : Nat → Int} (hD : IsDist n m A B U src D) (hs : d src = 0) (ho : ∀ v, v < n → v ≠ src → d v = -1) : Outer n m A B U src D 0 d true := by
  refine ⟨⟨fun v hv => ?_, fun v hv h0 => ?_, hs, fun v hv h0 hr => ?_⟩, (fun hc => by cases hc), fun v hv => ?_⟩
  · by_cases e : v = src
    · rw [e, hs]; omega
    · rw [ho v hv e]; omega
  · by_cases e : v = src
    · rw [e, hs, hD.src0]; omega
    · rw [ho v hv e] at h0; omega
  · by_cases e : v = src
    · rw [e, hs, hD.src0]
    · obtain ⟨i, u, hi, hU, hj, hu, hd⟩ := hD.par v hv e h0
      omega
  · by_cases e : v = src
    · rw [e, hs]; omega
    · rw [ho v hv e]; omega
end
end Go.Proofs.Qxb6608983a.G
