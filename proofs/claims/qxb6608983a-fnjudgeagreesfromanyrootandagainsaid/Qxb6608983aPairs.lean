/-
  PLAIN LAWS of all-pairs distances: one function of distances, existence, triangle, symmetry; Floyd and Warshall's rounds end at it.
-/
import Derived.Test.Qxb6608983aBfs
set_option linter.unusedVariables false
namespace Go.Proofs.Qxb6608983a.G

section
variable {n m : Nat} {A B : Nat → Nat} {U : Nat → Bool}

theorem IsDist.le_of {s : Nat} {d d' : Nat → Int} (h : IsDist n m A B U s d) (k : IsDist n m A B U s d') (hE : Ends n m A B) : ∀ (x v : Nat), v < n → d v = x → 0 ≤ d' v ∧ d' v ≤ x
  | x, v, hv, e => by
    by_cases hs : v = s
    · subst hs; rw [k.src0]; omega
    · obtain ⟨i, u, hi, hU, hj, h0, e1⟩ := h.par v hv hs (by omega)
      have hu := (hE.lt hi hj).1
      match x, e with
      | 0, e => omega
      | y + 1, e =>
        have := IsDist.le_of h k hE y u hu (by omega)
        have := k.relax i hi hU u v hj this.1
        omega

theorem IsDist.uniq {s : Nat} {d d' : Nat → Int} (h : IsDist n m A B U s d) (k : IsDist n m A B U s d') (hE : Ends n m A B) {v : Nat} (hv : v < n) : d v = d' v := by
  have l1 := h.lo v hv
  have l2 := k.lo v hv
  by_cases h0 : 0 ≤ d v
  · have a := h.le_of k hE (d v).toNat v hv (by omega)
    have b := k.le_of h hE (d' v).toNat v hv (by omega)
    omega
  · by_cases h1 : 0 ≤ d' v
    · have b := k.le_of h hE (d' v).toNat v hv (by omega)
      omega
    · omega

/-- DD s is the distances from s, for each s -/
def AllD (n m : Nat) (A B : Nat → Nat) (U : Nat → Bool) (DD : Nat → Nat → Int) : Prop := ∀ s, s < n → IsDist n m A B U s (DD s)

variable {DD : Nat → Nat → Int}

theorem AllD.tri' (h : AllD n m A B U DD) (hE : Ends n m A B) {i k : Nat} (hi : i < n) (hk : k < n) (h0 : 0 ≤ DD i k) : ∀ (x v : Nat), v < n → DD k v = x → 0 ≤ DD i v ∧ DD i v ≤ DD i k + x
  | x, v, hv, e => by
    by_cases hs : v = k
    · subst hs; omega
    · obtain ⟨l, u, hl, hU, hj, h1, e1⟩ := (h k hk).par v hv hs (by omega)
      have hu := (hE.lt hl hj).1
      match x, e with
      | 0, e => omega
      | y + 1, e =>
        have := AllD.tri' h hE hi hk h0 y u hu (by omega)
        have := (h i hi).relax l hl hU u v hj this.1
        omega

theorem AllD.tri (h : AllD n m A B U DD) (hE : Ends n m A B) {i k v : Nat} (hi : i < n) (hk : k < n) (hv : v < n) (h0 : 0 ≤ DD i k) (h1 : 0 ≤ DD k v) : 0 ≤ DD i v ∧ DD i v ≤ DD i k + DD k v := by
  have := h.tri' hE hi hk h0 (DD k v).toNat v hv (by omega)
  omega

theorem AllD.edge (h : AllD n m A B U DD) (hE : Ends n m A B) {i u v : Nat} (hi : i < m) (hU : U i = true) (hj : Joins A B i u v) : 0 ≤ DD u v ∧ DD u v ≤ 1 := by
  have hu := (hE.lt hi hj).1
  have s0 := (h u hu).src0
  have := (h u hu).relax i hi hU u v hj (by omega)
  omega

theorem AllD.symm' (h : AllD n m A B U DD) (hE : Ends n m A B) {u : Nat} (hu : u < n) : ∀ (x v : Nat), v < n → DD u v = x → 0 ≤ DD v u ∧ DD v u ≤ x
  | x, v, hv, e => by
    by_cases hs : v = u
    · subst hs; omega
    · obtain ⟨l, y, hl, hU, hj, h1, e1⟩ := (h u hu).par v hv hs (by omega)
      have hy := (hE.lt hl hj).1
      match x, e with
      | 0, e => omega
      | z + 1, e =>
        have a := AllD.symm' h hE hu z y hy (by omega)
        have b := h.edge hE hl hU hj.symm
        have c := h.tri hE hv hy hu b.1 a.1
        omega

theorem AllD.symm (h : AllD n m A B U DD) (hE : Ends n m A B) {u v : Nat} (hu : u < n) (hv : v < n) (h0 : 0 ≤ DD u v) : DD v u = DD u v := by
  have a := h.symm' hE hu (DD u v).toNat v hv (by omega)
  have b := h.symm' hE hv (DD v u).toNat u hu (by omega)
  omega
end

/-! existence: the search, run to its end -/
section
variable {n m : Nat} {A B : Nat → Nat} {Ps : Nat → List (Nat × Nat)} {F C : Nat → Bool} {src : Nat}

theorem BInv.zero {d : Nat → Int} {Q : List Nat} {i k : Nat} (h : BInv n Ps F C src d Q i k) : BInv n Ps F C src d Q i 0 :=
  ⟨h.nodup, h.mem, h.lt, h.lo, h.head, h.src0, h.il, h.mono, h.near, h.idx, h.proc, fun j hj => absurd hj (Nat.not_lt_zero _), h.par⟩

theorem bfs_row (hpv : ∀ u, u < n → ∀ pr, pr ∈ Ps u → pr.1 < n ∧ pr.2 < m) : ∀ (b : Nat) (d : Nat → Int) (Q : List Nat) (i k : Nat), BInv n Ps F C src d Q i k → i < Q.length → (Ps (Q.getD i 0)).length - k ≤ b →
    ∃ d' Q', BInv n Ps F C src d' Q' (i + 1) 0
  | b, d, Q, i, k, h, hi, hb => by
    by_cases hk : (Ps (Q.getD i 0)).length ≤ k
    · exact ⟨d, Q, h.next hi hk⟩
    · match b with
      | 0 => omega
      | b + 1 =>
        have hk' : k < (Ps (Q.getD i 0)).length := by omega
        obtain ⟨⟨v, l⟩, hp'⟩ : ∃ y, (Ps (Q.getD i 0))[k]? = some y := ⟨_, List.getElem?_eq_getElem hk'⟩
        have hm := hpv _ (h.lt _ (getD_mem hi)) (v, l) (List.mem_of_getElem? hp')
        by_cases hs : F v = true ∨ C l = true ∨ 0 ≤ d v
        · exact bfs_row hpv b d Q i (k + 1) (h.skip hi hp' hm.1 hs) hi (by omega)
        · have h1 : F v = false := by cases e : F v with | true => exact absurd (.inl e) hs | false => rfl
          have h2 : C l = false := by cases e : C l with | true => exact absurd (.inr (.inl e)) hs | false => rfl
          have h3 : d v < 0 := by
            rcases Int.lt_or_le (d v) 0 with h3 | h3
            · exact h3
            · exact absurd (.inr (.inr h3)) hs
          have hadd := h.add hi hp' hm.1 h1 h2 h3
          exact bfs_row hpv b _ _ i (k + 1) hadd (by simp; omega) (by rw [getD_snoc_left hi]; omega)

theorem bfs_end (hpv : ∀ u, u < n → ∀ pr, pr ∈ Ps u → pr.1 < n ∧ pr.2 < m) : ∀ (a : Nat) (d : Nat → Int) (Q : List Nat) (i : Nat), BInv n Ps F C src d Q i 0 → n - i ≤ a →
    ∃ d' Q', BInv n Ps F C src d' Q' Q'.length 0
  | a, d, Q, i, h, ha => by
    have hl := h.length
    have hil := h.il
    by_cases hi : i < Q.length
    · match a with
      | 0 => omega
      | a + 1 =>
        obtain ⟨d', Q', h'⟩ := bfs_row hpv _ d Q i 0 h hi (Nat.le_refl _)
        exact bfs_end hpv a d' Q' (i + 1) h' (by omega)
    · obtain rfl : i = Q.length := by omega
      exact ⟨d, Q, h⟩
end

theorem exists_dist {n m : Nat} {A B : Nat → Nat} {Ps : Nat → List (Nat × Nat)} (F C : Nat → Bool) (hP : PortsOf n m A B Ps) (hE : Ends n m A B) {src : Nat} (hs : src < n) : ∃ d, IsDist n m A B (usable A B F C) src d := by
  cases hF : F src with
  | false =>
    have hpv : ∀ u, u < n → ∀ pr, pr ∈ Ps u → pr.1 < n ∧ pr.2 < m := fun u hu pr hpr => by
      obtain ⟨h1, h2⟩ := (hP u hu pr.1 pr.2).1 hpr
      exact ⟨(hE.lt h1 h2).2, h1⟩
    have h0 : BInv n Ps F C src (upd (fun _ => -1) src 0) [src] 0 0 := bfs_start hs _ (upd_same _ _ _) (fun v _ hv => upd_other _ _ _ hv)
    obtain ⟨d, Q, h⟩ := bfs_end hpv n _ _ 0 h0 (by omega)
    exact ⟨d, (h.final hP hE hs hF (Nat.le_refl _)).1⟩
  | true =>
    refine ⟨upd (fun _ => -1) src 0, fun v hv => ?_, fun v hv => ?_, hs, upd_same _ _ _, fun i hi hU u v hj h0 => ?_, fun v hv hne h0 => ?_⟩
    · by_cases e : v = src
      · subst e; rw [upd_same]; omega
      · rw [upd_other _ _ _ e]; omega
    · by_cases e : v = src
      · subst e; rw [upd_same]; omega
      · rw [upd_other _ _ _ e]; omega
    · by_cases e : u = src
      · subst e
        have := ((usable_iff hj).1 hU).2.1
        rw [hF] at this
        cases this
      · rw [upd_other _ _ _ e] at h0; omega
    · rw [upd_other _ _ _ hne] at h0; omega

theorem exists_all {n m : Nat} {A B : Nat → Nat} {Ps : Nat → List (Nat × Nat)} (F C : Nat → Bool) (hP : PortsOf n m A B Ps) (hE : Ends n m A B) : ∃ DD, AllD n m A B (usable A B F C) DD := by
  refine ⟨fun s => if h : s < n then (exists_dist F C hP hE h).choose else fun _ => 0, fun s hs => ?_⟩
  simp only [hs, dif_pos]
  exact (exists_dist F C hP hE hs).choose_spec

/-! Floyd and Warshall -/
def rel (d : Nat → Nat → Int) (k a b : Nat) : Int := if 0 ≤ d a k ∧ 0 ≤ d k b ∧ (d a b < 0 ∨ d a k + d k b < d a b) then d a k + d k b else d a b
def upd2 (d : Nat → Nat → Int) (a b : Nat) (x : Int) : Nat → Nat → Int := fun u v => if u = a ∧ v = b then x else d u v

theorem rel_le {d : Nat → Nat → Int} {k a b : Nat} (h : 0 ≤ d a b) : 0 ≤ rel d k a b ∧ rel d k a b ≤ d a b := by
  unfold rel; split <;> omega
theorem rel_via {d : Nat → Nat → Int} {k a b : Nat} (h : 0 ≤ d a k) (h' : 0 ≤ d k b) : 0 ≤ rel d k a b ∧ rel d k a b ≤ d a k + d k b := by
  unfold rel; split <;> omega
theorem rel_or (d : Nat → Nat → Int) (k a b : Nat) : rel d k a b = d a b ∨ (0 ≤ d a k ∧ 0 ≤ d k b ∧ rel d k a b = d a k + d k b) := by
  unfold rel; split
  · next h => exact .inr ⟨h.1, h.2.1, rfl⟩
  · exact .inl rfl
theorem rel_col {d : Nat → Nat → Int} {k a : Nat} (h : d k k = 0) : rel d k a k = d a k := by unfold rel; split <;> omega
theorem rel_row {d : Nat → Nat → Int} {k b : Nat} (h : d k k = 0) : rel d k k b = d k b := by unfold rel; split <;> omega

structure FW (n m : Nat) (A B : Nat → Nat) (U : Nat → Bool) (DD : Nat → Nat → Int) (K : Nat) (d : Nat → Nat → Int) : Prop where
  lo : ∀ u v, u < n → v < n → -1 ≤ d u v
  diag : ∀ u, u < n → d u u = 0
  snd : ∀ u v, u < n → v < n → 0 ≤ d u v → 0 ≤ DD u v ∧ DD u v ≤ d u v
  edge : ∀ i, i < m → U i = true → ∀ u v, Joins A B i u v → 0 ≤ d u v ∧ d u v ≤ 1
  tri : ∀ x, x < K → ∀ u v, u < n → v < n → 0 ≤ d u x → 0 ≤ d x v → 0 ≤ d u v ∧ d u v ≤ d u x + d x v
  mid : ∀ u v, u < n → v < n → ∀ l : Int, 0 < l → l < d u v → ∃ x, x < K ∧ d u x = l ∧ 0 ≤ d x v ∧ d x v ≤ d u v - l

section
variable {n m K : Nat} {A B : Nat → Nat} {U : Nat → Bool} {DD d : Nat → Nat → Int}

theorem FW.step (h : FW n m A B U DD K d) (hD : AllD n m A B U DD) (hE : Ends n m A B) (hK : K < n) : FW n m A B U DD (K + 1) (rel d K) := by
  have tri' : ∀ x, x < K + 1 → ∀ u v, u < n → v < n → 0 ≤ rel d K u x → 0 ≤ rel d K x v → 0 ≤ rel d K u v ∧ rel d K u v ≤ rel d K u x + rel d K x v := by
    intro x hx u v hu hv h1 h2
    by_cases e : x = K
    · subst e
      rw [rel_col (h.diag x hK)] at h1 ⊢
      rw [rel_row (h.diag x hK)] at h2 ⊢
      exact rel_via h1 h2
    · have hx' : x < K := by omega
      have hxn : x < n := by omega
      rcases rel_or d K u x with e1 | ⟨a1, a2, e1⟩ <;> rcases rel_or d K x v with e2 | ⟨b1, b2, e2⟩
      · rw [e1] at h1 ⊢
        rw [e2] at h2 ⊢
        have t := h.tri x hx' u v hu hv h1 h2
        have := rel_le (k := K) t.1
        omega
      · rw [e1] at h1 ⊢
        rw [e2] at h2 ⊢
        have t := h.tri x hx' u K hu hK h1 b1
        have := rel_via t.1 b2
        omega
      · rw [e1] at h1 ⊢
        rw [e2] at h2 ⊢
        have t := h.tri x hx' K v hK hv a2 h2
        have := rel_via a1 t.1
        omega
      · rw [e1, e2]
        have := rel_via (d := d) a1 b2
        omega
  refine ⟨fun u v hu hv => ?_, fun u hu => ?_, fun u v hu hv h0 => ?_, fun i hi hU u v hj => ?_, tri', fun u v hu hv l l0 l1 => ?_⟩
  · have := h.lo u v hu hv
    rcases rel_or d K u v with e | ⟨a, b, e⟩ <;> omega
  · have h0 := h.diag u hu
    have := rel_le (d := d) (k := K) (a := u) (b := u) (by omega)
    omega
  · rcases rel_or d K u v with e | ⟨a, b, e⟩
    · rw [e] at h0 ⊢; exact h.snd u v hu hv h0
    · have s1 := h.snd u K hu hK a
      have s2 := h.snd K v hK hv b
      have := hD.tri hE hu hK hv s1.1 s2.1
      omega
  · have := h.edge i hi hU u v hj
    have := rel_le (k := K) this.1
    omega
  · have key : ∀ x, x < K + 1 → 0 ≤ rel d K u x → rel d K u x ≤ l → 0 ≤ rel d K x v → rel d K x v ≤ rel d K u v - l → ∃ x, x < K + 1 ∧ rel d K u x = l ∧ 0 ≤ rel d K x v ∧ rel d K x v ≤ rel d K u v - l := by
      intro x hx g1 g2 g3 g4
      have := tri' x hx u v hu hv g1 g3
      exact ⟨x, hx, by omega, g3, g4⟩
    rcases rel_or d K u v with e | ⟨a, b, e⟩
    · obtain ⟨x, hx, q1, q2, q3⟩ := h.mid u v hu hv l l0 (by omega)
      have r1 := rel_le (d := d) (k := K) (a := u) (b := x) (by omega)
      have r2 := rel_le (k := K) q2
      exact key x (by omega) (by omega) (by omega) (by omega) (by omega)
    · by_cases c : l < d u K
      · obtain ⟨x, hx, q1, q2, q3⟩ := h.mid u K hu hK l l0 c
        have r1 := rel_le (d := d) (k := K) (a := u) (b := x) (by omega)
        have r2 := rel_via q2 b
        exact key x (by omega) (by omega) (by omega) (by omega) (by omega)
      · by_cases c2 : l = d u K
        · have r1 := rel_col (d := d) (k := K) (a := u) (h.diag K hK)
          have r2 := rel_row (d := d) (k := K) (b := v) (h.diag K hK)
          exact key K (by omega) (by omega) (by omega) (by omega) (by omega)
        · obtain ⟨x, hx, q1, q2, q3⟩ := h.mid K v hK hv (l - d u K) (by omega) (by omega)
          have r1 := rel_via (d := d) (k := K) (a := u) (b := x) a (by omega)
          have r2 := rel_le (k := K) q2
          exact key x (by omega) (by omega) (by omega) (by omega) (by omega)

theorem FW.bound (h : FW n m A B U DD K d) {u v : Nat} (hu : u < n) (hv : v < n) : d u v ≤ K + 1 := by
  rcases Int.lt_or_le (K + 1 : Int) (d u v) with hlt | hle
  · exfalso
    have hx : ∀ i : Nat, i < K + 1 → ∃ x, x < K ∧ d u x = (i : Int) + 1 := fun i hi => by
      obtain ⟨x, h1, h2, _⟩ := h.mid u v hu hv ((i : Int) + 1) (by omega) (by omega)
      exact ⟨x, h1, h2⟩
    let f : Nat → Nat := fun i => if hi : i < K + 1 then (hx i hi).choose else 0
    have hf : ∀ i, i < K + 1 → f i < K ∧ d u (f i) = (i : Int) + 1 := fun i hi => by
      have e : f i = (hx i hi).choose := dif_pos hi
      rw [e]
      exact (hx i hi).choose_spec
    have hl := nodup_length K ((List.range (K + 1)).map f) ?_ ?_
    · simp at hl; omega
    · rw [List.nodup_iff_pairwise_ne, List.pairwise_map]
      refine List.Pairwise.imp_of_mem ?_ List.nodup_range
      intro a b ha hb hab e
      have h1 := hf a (List.mem_range.1 ha)
      have h2 := hf b (List.mem_range.1 hb)
      rw [e] at h1
      have := h1.2.symm.trans h2.2
      exact hab (by omega)
    · intro x hx
      obtain ⟨i, hi, rfl⟩ := List.mem_map.1 hx
      exact (hf i (List.mem_range.1 hi)).1
  · exact hle

theorem FW.le' (h : FW n m A B U DD n d) (hD : AllD n m A B U DD) (hE : Ends n m A B) {u : Nat} (hu : u < n) : ∀ (x v : Nat), v < n → DD u v = x → 0 ≤ d u v ∧ d u v ≤ x
  | x, v, hv, e => by
    by_cases hs : v = u
    · subst hs; have := h.diag v hv; omega
    · obtain ⟨l, y, hl, hU, hj, h1, e1⟩ := (hD u hu).par v hv hs (by omega)
      have hy := (hE.lt hl hj).1
      match x, e with
      | 0, e => omega
      | z + 1, e =>
        have a := FW.le' h hD hE hu z y hy (by omega)
        have b := h.edge l hl hU y v hj
        have c := h.tri y hy u v hu hv a.1 b.1
        omega

theorem FW.final (h : FW n m A B U DD n d) (hD : AllD n m A B U DD) (hE : Ends n m A B) {u v : Nat} (hu : u < n) (hv : v < n) : d u v = DD u v := by
  have l1 := h.lo u v hu hv
  have l2 := (hD u hu).lo v hv
  by_cases h0 : 0 ≤ DD u v
  · have a := h.le' hD hE hu (DD u v).toNat v hv (by omega)
    have b := h.snd u v hu hv a.1
    omega
  · by_cases h1 : 0 ≤ d u v
    · have := h.snd u v hu hv h1; omega
    · omega

/-- the links laid, i of them -/
structure Laid (n : Nat) (A B : Nat → Nat) (U : Nat → Bool) (DD : Nat → Nat → Int) (i : Nat) (d : Nat → Nat → Int) : Prop where
  lo : ∀ u v, u < n → v < n → -1 ≤ d u v
  one : ∀ u v, u < n → v < n → d u v ≤ 1
  diag : ∀ u, u < n → d u u = 0
  snd : ∀ u v, u < n → v < n → 0 ≤ d u v → 0 ≤ DD u v ∧ DD u v ≤ d u v
  edge : ∀ j, j < i → U j = true → ∀ u v, Joins A B j u v → d u v = 1

theorem Laid.fw (h : Laid n A B U DD m d) : FW n m A B U DD 0 d :=
  ⟨h.lo, h.diag, h.snd, fun i hi hU u v hj => by have := h.edge i hi hU u v hj; omega, fun x hx => absurd hx (Nat.not_lt_zero _), fun u v hu hv l l0 l1 => by have := h.one u v hu hv; omega⟩

theorem Laid.skip {i : Nat} (h : Laid n A B U DD i d) (hU : U i = false) : Laid n A B U DD (i + 1) d :=
  ⟨h.lo, h.one, h.diag, h.snd, fun j hj hUj u v hJ => by
    by_cases e : j = i
    · subst e; rw [hU] at hUj; cases hUj
    · exact h.edge j (by omega) hUj u v hJ⟩

theorem Laid.step {i : Nat} (h : Laid n A B U DD i d) (hD : AllD n m A B U DD) (hE : Ends n m A B) (hi : i < m) (hU : U i = true) : Laid n A B U DD (i + 1) (upd2 (upd2 d (A i) (B i) 1) (B i) (A i) 1) := by
  have hne := (hE i hi).2.2
  have e1 := hD.edge hE hi hU (.inl ⟨rfl, rfl⟩)
  have e2 := hD.edge hE hi hU (.inr ⟨rfl, rfl⟩)
  have val : ∀ u v, upd2 (upd2 d (A i) (B i) 1) (B i) (A i) 1 u v = if (u = B i ∧ v = A i) ∨ (u = A i ∧ v = B i) then 1 else d u v := by
    intro u v
    unfold upd2
    by_cases a : u = B i ∧ v = A i
    · rw [if_pos a, if_pos (.inl a)]
    · rw [if_neg a]
      by_cases b : u = A i ∧ v = B i
      · rw [if_pos b, if_pos (.inr b)]
      · rw [if_neg b, if_neg (fun h => h.elim a b)]
  refine ⟨fun u v hu hv => ?_, fun u v hu hv => ?_, fun u hu => ?_, fun u v hu hv h0 => ?_, fun j hj hUj u v hJ => ?_⟩
  · rw [val]; have := h.lo u v hu hv; split <;> omega
  · rw [val]; have := h.one u v hu hv; split <;> omega
  · rw [val, if_neg (fun q => q.elim (fun q => hne (q.2.symm.trans q.1)) (fun q => hne (q.1.symm.trans q.2)))]; exact h.diag u hu
  · rw [val] at h0 ⊢
    split
    · next c => rcases c with ⟨rfl, rfl⟩ | ⟨rfl, rfl⟩ <;> assumption
    · next c => rw [if_neg c] at h0; exact h.snd u v hu hv h0
  · rw [val]
    split
    · rfl
    · next c =>
      by_cases e : j = i
      · subst e
        exact absurd (hJ.elim (fun q => .inr ⟨q.1.symm, q.2.symm⟩) (fun q => .inl ⟨q.2.symm, q.1.symm⟩)) c
      · exact h.edge j (by omega) hUj u v hJ

/-- in the middle of round k: the rows before i and row i up to j are done -/
def Part (n : Nat) (d0 : Nat → Nat → Int) (k i j : Nat) (d : Nat → Nat → Int) : Prop := ∀ u v, u < n → v < n → d u v = if u < i ∨ (u = i ∧ v < j) then rel d0 k u v else d0 u v

theorem Part.start (d : Nat → Nat → Int) (k : Nat) : Part n d k 0 0 d := fun u v _ _ => by rw [if_neg (by omega)]
theorem Part.newRow {d0 : Nat → Nat → Int} {k i : Nat} (h : Part n d0 k i n d) : Part n d0 k (i + 1) 0 d := fun u v hu hv => by
  rw [h u v hu hv]
  by_cases c : u < i ∨ u = i ∧ v < n
  · rw [if_pos c, if_pos (by omega)]
  · rw [if_neg c, if_neg (by omega)]
theorem Part.skipRow {d0 : Nat → Nat → Int} {k i : Nat} (h : Part n d0 k i 0 d) (h0 : d0 i k < 0) : Part n d0 k (i + 1) 0 d := fun u v hu hv => by
  rw [h u v hu hv]
  by_cases c : u < i ∨ u = i ∧ v < 0
  · rw [if_pos c, if_pos (by omega)]
  · rw [if_neg c]
    by_cases e : u = i
    · subst e
      rw [if_pos (by omega)]
      unfold rel
      rw [if_neg (by omega)]
    · rw [if_neg (by omega)]
theorem Part.col {d0 : Nat → Nat → Int} {k i j : Nat} (h : Part n d0 k i j d) (hk : k < n) (h0 : d0 k k = 0) {u : Nat} (hu : u < n) : d u k = d0 u k := by
  rw [h u k hu hk]
  split
  · exact rel_col h0
  · rfl
theorem Part.row {d0 : Nat → Nat → Int} {k i j : Nat} (h : Part n d0 k i j d) (hk : k < n) (h0 : d0 k k = 0) {v : Nat} (hv : v < n) : d k v = d0 k v := by
  rw [h k v hk hv]
  split
  · exact rel_row h0
  · rfl
theorem Part.at {d0 : Nat → Nat → Int} {k i j : Nat} (h : Part n d0 k i j d) (hi : i < n) (hj : j < n) : d i j = d0 i j := by
  rw [h i j hi hj, if_neg (by omega)]
theorem Part.keep {d0 : Nat → Nat → Int} {k i j : Nat} (h : Part n d0 k i j d) (he : rel d0 k i j = d0 i j) : Part n d0 k i (j + 1) d := fun u v hu hv => by
  rw [h u v hu hv]
  by_cases c : u < i ∨ u = i ∧ v < j
  · rw [if_pos c, if_pos (by omega)]
  · rw [if_neg c]
    by_cases e : u = i ∧ v = j
    · obtain ⟨rfl, rfl⟩ := e
      rw [if_pos (by omega), he]
    · rw [if_neg (by omega)]
theorem Part.set {d0 : Nat → Nat → Int} {k i j : Nat} (h : Part n d0 k i j d) {x : Int} (he : rel d0 k i j = x) : Part n d0 k i (j + 1) (upd2 d i j x) := fun u v hu hv => by
  unfold upd2
  by_cases e : u = i ∧ v = j
  · obtain ⟨rfl, rfl⟩ := e
    rw [if_pos ⟨rfl, rfl⟩, if_pos (by omega), he]
  · rw [if_neg e, h u v hu hv]
    by_cases c : u < i ∨ u = i ∧ v < j
    · rw [if_pos c, if_pos (by omega)]
    · rw [if_neg c, if_neg (by omega)]
theorem Part.fw {k : Nat} {d0 : Nat → Nat → Int} (h : Part n d0 k n 0 d) (hf : FW n m A B U DD k d0) (hD : AllD n m A B U DD) (hE : Ends n m A B) (hk : k < n) : FW n m A B U DD (k + 1) d := by
  have e : ∀ u v, u < n → v < n → d u v = rel d0 k u v := fun u v hu hv => by rw [h u v hu hv, if_pos (.inl hu)]
  have s := hf.step hD hE hk
  refine ⟨fun u v hu hv => by rw [e u v hu hv]; exact s.lo u v hu hv, fun u hu => by rw [e u u hu hu]; exact s.diag u hu, fun u v hu hv => by rw [e u v hu hv]; exact s.snd u v hu hv, fun i hi hU u v hj => ?_, fun x hx u v hu hv => ?_, fun u v hu hv l l0 l1 => ?_⟩
  · have hl := hE.lt hi hj
    rw [e u v hl.1 hl.2]; exact s.edge i hi hU u v hj
  · rw [e u x hu (by omega), e x v (by omega) hv, e u v hu hv]; exact s.tri x hx u v hu hv
  · rw [e u v hu hv] at l1 ⊢
    obtain ⟨x, hx, q1, q2, q3⟩ := s.mid u v hu hv l l0 l1
    exact ⟨x, hx, by rw [e u x hu (by omega)]; exact q1, by rw [e x v (by omega) hv]; exact q2, by rw [e x v (by omega) hv]; exact q3⟩
end

/-! the diameter of a component -/
structure IsDiam (n : Nat) (DD : Nat → Nat → Int) (r : Nat) (W : Int) : Prop where
  le : ∀ u v, u < n → v < n → 0 ≤ DD r u → 0 ≤ DD r v → DD u v ≤ W
  at_ : ∃ u v, u < n ∧ v < n ∧ 0 ≤ DD r u ∧ 0 ≤ DD r v ∧ DD u v = W

theorem IsDiam.other {n m : Nat} {A B : Nat → Nat} {U : Nat → Bool} {DD : Nat → Nat → Int} (hD : AllD n m A B U DD) (hE : Ends n m A B) {r o : Nat} {W : Int} (h : IsDiam n DD r W) (hr : r < n) (ho : o < n) (hc : 0 ≤ DD r o) : IsDiam n DD o W := by
  have hs := hD.symm hE hr ho hc
  have f : ∀ u, u < n → (0 ≤ DD r u ↔ 0 ≤ DD o u) := fun u hu => ⟨fun h => (hD.tri hE ho hr hu (by omega) h).1, fun h => (hD.tri hE hr ho hu hc h).1⟩
  refine ⟨fun u v hu hv h1 h2 => h.le u v hu hv ((f u hu).2 h1) ((f v hv).2 h2), ?_⟩
  obtain ⟨u, v, hu, hv, h1, h2, e⟩ := h.at_
  exact ⟨u, v, hu, hv, (f u hu).1 h1, (f v hv).1 h2, e⟩
end Go.Proofs.Qxb6608983a.G
