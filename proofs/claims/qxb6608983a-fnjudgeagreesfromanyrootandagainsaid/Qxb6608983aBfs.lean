/-
  THE PLAIN LAW OF SEAT b6608983a: breadth-first search finds the hop distances. No Go in sight.
-/
import Derived.Test.Qxb6608983aGraph
set_option linter.unusedVariables false
namespace Go.Proofs.Qxb6608983a.G

theorem nodup_length : ∀ (n : Nat) (l : List Nat), l.Nodup → (∀ x ∈ l, x < n) → l.length ≤ n
  | 0, l, _, h => by
    cases l with
    | nil => exact Nat.le_refl _
    | cons a t => exact absurd (h a (List.mem_cons_self ..)) (Nat.not_lt_zero _)
  | n + 1, l, hn, h => by
    have h1 : ∀ x ∈ l.erase n, x < n := fun x hx => by
      have h2 := (List.Nodup.mem_erase_iff hn).1 hx
      have h3 := h x h2.2
      have h4 := h2.1
      omega
    have h2 := nodup_length n (l.erase n) (hn.erase n) h1
    have h3 : l.length ≤ (l.erase n).length + 1 := by
      rw [List.length_erase]
      split <;> omega
    omega

/-- the ports at u: the links at it, each with the vertex at its other end -/
def PortsOf (n m : Nat) (A B : Nat → Nat) (Ps : Nat → List (Nat × Nat)) : Prop := ∀ u, u < n → ∀ v l, (v, l) ∈ Ps u ↔ l < m ∧ Joins A B l u v

/-- THE SEARCH, i vertices of the queue done, k ports of the next one. -/
structure BInv (n : Nat) (Ps : Nat → List (Nat × Nat)) (F C : Nat → Bool) (src : Nat) (d : Nat → Int) (Q : List Nat) (i k : Nat) : Prop where
  nodup : Q.Nodup
  mem : ∀ v, v < n → (v ∈ Q ↔ 0 ≤ d v)
  lt : ∀ v, v ∈ Q → v < n
  lo : ∀ v, v < n → -1 ≤ d v
  head : Q[0]? = some src
  src0 : d src = 0
  il : i ≤ Q.length
  mono : ∀ x y, x ≤ y → y < Q.length → d (Q.getD x 0) ≤ d (Q.getD y 0)
  near : i < Q.length → ∀ x, x < Q.length → d (Q.getD x 0) ≤ d (Q.getD i 0) + 1
  idx : ∀ x, x < Q.length → d (Q.getD x 0) ≤ x
  proc : ∀ x, x < i → ∀ pr, pr ∈ Ps (Q.getD x 0) → F pr.1 = false → C pr.2 = false → 0 ≤ d pr.1 ∧ d pr.1 ≤ d (Q.getD x 0) + 1
  cur : ∀ j, j < k → ∀ pr, (Ps (Q.getD i 0))[j]? = some pr → F pr.1 = false → C pr.2 = false → 0 ≤ d pr.1 ∧ d pr.1 ≤ d (Q.getD i 0) + 1
  par : ∀ v, v ∈ Q → v ≠ src → ∃ u l, u ∈ Q ∧ (v, l) ∈ Ps u ∧ F v = false ∧ C l = false ∧ d v = d u + 1

section
variable {n m : Nat} {A B : Nat → Nat} {Ps : Nat → List (Nat × Nat)} {F C : Nat → Bool} {src : Nat} {d : Nat → Int} {Q : List Nat} {i k : Nat}

theorem getD_mem {Q : List Nat} {x : Nat} (h : x < Q.length) : Q.getD x 0 ∈ Q := by
  rw [List.getD, List.getElem?_eq_getElem h]
  exact List.getElem_mem h

theorem mem_getD {Q : List Nat} {v : Nat} (h : v ∈ Q) : ∃ x, x < Q.length ∧ Q.getD x 0 = v := by
  obtain ⟨x, hx, e⟩ := List.mem_iff_getElem.1 h
  exact ⟨x, hx, by rw [List.getD, List.getElem?_eq_getElem hx]; exact e⟩

theorem getD_snoc_left {Q : List Nat} {v x : Nat} (h : x < Q.length) : (Q ++ [v]).getD x 0 = Q.getD x 0 := by
  rw [List.getD, List.getD, List.getElem?_append_left h]

theorem getD_snoc_last {Q : List Nat} {v : Nat} : (Q ++ [v]).getD Q.length 0 = v := by
  rw [List.getD, List.getElem?_append_right (Nat.le_refl _), Nat.sub_self]
  rfl

theorem BInv.length (h : BInv n Ps F C src d Q i k) : Q.length ≤ n := nodup_length n Q h.nodup h.lt

theorem bfs_start (hs : src < n) (d0 : Nat → Int) (h0 : d0 src = 0) (h1 : ∀ v, v < n → v ≠ src → d0 v = -1) : BInv n Ps F C src d0 [src] 0 0 := by
  have g0 : ∀ x, x < [src].length → ([src] : List Nat).getD x 0 = src := fun x hx => by
    have : x = 0 := by simpa using hx
    subst this; rfl
  refine ⟨by simp, fun v hv => ⟨fun hm => ?_, fun hm => ?_⟩, fun v hv => ?_, fun v hv => ?_, rfl, h0, Nat.zero_le _, fun x y hxy hy => ?_, fun _ x hx => ?_, fun x hx => ?_, fun x hx => absurd hx (Nat.not_lt_zero _), fun j hj => absurd hj (Nat.not_lt_zero _), fun v hv hne => ?_⟩
  · rw [List.mem_singleton] at hm; rw [hm, h0]; omega
  · rw [List.mem_singleton]
    by_cases e : v = src
    · exact e
    · rw [h1 v hv e] at hm; omega
  · rw [List.mem_singleton] at hv; rw [hv]; exact hs
  · by_cases e : v = src
    · rw [e, h0]; omega
    · rw [h1 v hv e]; omega
  · rw [g0 x (by omega), g0 y hy]; exact Int.le_refl _
  · rw [g0 x hx, g0 0 (by simp)]; omega
  · rw [g0 x hx, h0]; omega
  · rw [List.mem_singleton] at hv; exact absurd hv hne

theorem BInv.skip (h : BInv n Ps F C src d Q i k) (hi : i < Q.length) {v l : Nat} (hp : (Ps (Q.getD i 0))[k]? = some (v, l)) (hv : v < n) (hs : F v = true ∨ C l = true ∨ 0 ≤ d v) : BInv n Ps F C src d Q i (k + 1) := by
  refine ⟨h.nodup, h.mem, h.lt, h.lo, h.head, h.src0, h.il, h.mono, h.near, h.idx, h.proc, fun j hj pr hpr hF hC => ?_, h.par⟩
  by_cases e : j = k
  · subst e
    rw [hp] at hpr
    injection hpr with hpr
    subst hpr
    have h0 : 0 ≤ d v := by
      rcases hs with hs | hs | hs
      · rw [hs] at hF; cases hF
      · rw [hs] at hC; cases hC
      · exact hs
    refine ⟨h0, ?_⟩
    obtain ⟨x, hx, ex⟩ := mem_getD ((h.mem v hv).2 h0)
    have := h.near hi x hx
    rw [ex] at this
    exact this
  · exact h.cur j (by omega) pr hpr hF hC

theorem BInv.add (h : BInv n Ps F C src d Q i k) (hi : i < Q.length) {v l : Nat} (hp : (Ps (Q.getD i 0))[k]? = some (v, l)) (hv : v < n) (hF : F v = false) (hC : C l = false) (hd : d v < 0) :
    BInv n Ps F C src (upd d v (d (Q.getD i 0) + 1)) (Q ++ [v]) i (k + 1) := by
  have hnm : v ∉ Q := fun hm => by have := (h.mem v hv).1 hm; omega
  have hpm := getD_mem hi
  have hp0 := (h.mem _ (h.lt _ hpm)).1 hpm
  have hold : ∀ u, u ∈ Q → upd d v (d (Q.getD i 0) + 1) u = d u := fun u hu => upd_other _ _ _ (fun e => hnm (e ▸ hu))
  have gi : (Q ++ [v]).getD i 0 = Q.getD i 0 := getD_snoc_left hi
  have hlen : (Q ++ [v]).length = Q.length + 1 := by simp
  have hge : ∀ u, u < n → 0 ≤ d u → upd d v (d (Q.getD i 0) + 1) u = d u := fun u hu h0 => hold u ((h.mem u hu).2 h0)
  have cases_x : ∀ x, x < (Q ++ [v]).length → (x < Q.length ∧ (Q ++ [v]).getD x 0 = Q.getD x 0 ∧ upd d v (d (Q.getD i 0) + 1) ((Q ++ [v]).getD x 0) = d (Q.getD x 0)) ∨ (x = Q.length ∧ upd d v (d (Q.getD i 0) + 1) ((Q ++ [v]).getD x 0) = d (Q.getD i 0) + 1) := fun x hx => by
    rw [hlen] at hx
    by_cases e : x < Q.length
    · exact .inl ⟨e, getD_snoc_left e, by rw [getD_snoc_left e]; exact hold _ (getD_mem e)⟩
    · have : x = Q.length := by omega
      subst this
      exact .inr ⟨rfl, by rw [getD_snoc_last, upd_same]⟩
  refine ⟨?_, fun u hu => ?_, fun u hu => ?_, fun u hu => ?_, ?_, ?_, by rw [hlen]; have := h.il; omega, fun x y hxy hy => ?_, fun _ x hx => ?_, fun x hx => ?_, fun x hx pr hpr hF' hC' => ?_, fun j hj pr hpr hF' hC' => ?_, fun u hu hne => ?_⟩
  · rw [List.nodup_append]
    exact ⟨h.nodup, by simp, fun a ha b hb e => by rw [List.mem_singleton] at hb; subst hb; subst e; exact hnm ha⟩
  · rw [List.mem_append, List.mem_singleton]
    by_cases e : u = v
    · subst e
      rw [upd_same]
      exact ⟨fun _ => by omega, fun _ => .inr rfl⟩
    · rw [upd_other _ _ _ e]
      exact ⟨fun hh => hh.elim (h.mem u hu).1 (fun h2 => absurd h2 e), fun hh => .inl ((h.mem u hu).2 hh)⟩
  · rw [List.mem_append, List.mem_singleton] at hu
    rcases hu with hu | hu
    · exact h.lt u hu
    · rw [hu]; exact hv
  · by_cases e : u = v
    · subst e; rw [upd_same]; omega
    · rw [upd_other _ _ _ e]; exact h.lo u hu
  · rw [List.getElem?_append_left (by have := h.il; omega)]; exact h.head
  · have hsm : src ∈ Q := List.mem_of_getElem? h.head
    rw [hold src hsm]; exact h.src0
  · rcases cases_x y hy with ⟨y1, y2, y3⟩ | ⟨y1, y3⟩
    · rcases cases_x x (by omega) with ⟨x1, x2, x3⟩ | ⟨x1, x3⟩
      · rw [x3, y3]; exact h.mono x y hxy y1
      · omega
    · rcases cases_x x (by omega) with ⟨x1, x2, x3⟩ | ⟨x1, x3⟩
      · rw [x3, y3]; exact h.near hi x x1
      · rw [x3, y3]; exact Int.le_refl _
  · rw [gi, hold _ hpm]
    rcases cases_x x hx with ⟨x1, x2, x3⟩ | ⟨x1, x3⟩
    · rw [x3]; exact h.near hi x x1
    · rw [x3]; exact Int.le_refl _
  · rcases cases_x x hx with ⟨x1, x2, x3⟩ | ⟨x1, x3⟩
    · rw [x3]; exact h.idx x x1
    · rw [x3]; have := h.idx i hi; omega
  · have hx' : x < Q.length := by omega
    rw [getD_snoc_left hx'] at hpr ⊢
    rw [hold _ (getD_mem hx')]
    have h1 := h.proc x hx pr hpr hF' hC'
    by_cases e : pr.1 = v
    · rw [e] at h1; omega
    · rw [upd_other _ _ _ e]; exact h1
  · rw [gi] at hpr ⊢
    rw [hold _ hpm]
    by_cases e : j = k
    · subst e
      rw [hp] at hpr
      injection hpr with hpr
      subst hpr
      rw [upd_same]
      omega
    · have h1 := h.cur j (by omega) pr hpr hF' hC'
      by_cases e : pr.1 = v
      · rw [e] at h1; omega
      · rw [upd_other _ _ _ e]; exact h1
  · rw [List.mem_append, List.mem_singleton] at hu
    rcases hu with hu | hu
    · obtain ⟨u', l', h1, h2, h3, h4, h5⟩ := h.par u hu hne
      exact ⟨u', l', List.mem_append_left _ h1, h2, h3, h4, by rw [hold u hu, hold u' h1]; exact h5⟩
    · subst hu
      exact ⟨Q.getD i 0, l, List.mem_append_left _ hpm, List.mem_of_getElem? hp, hF, hC, by rw [upd_same, hold _ hpm]⟩

theorem BInv.next (h : BInv n Ps F C src d Q i k) (hi : i < Q.length) (hk : (Ps (Q.getD i 0)).length ≤ k) : BInv n Ps F C src d Q (i + 1) 0 := by
  refine ⟨h.nodup, h.mem, h.lt, h.lo, h.head, h.src0, hi, h.mono, fun hi1 x hx => ?_, h.idx, fun x hx pr hpr hF hC => ?_, fun j hj => absurd hj (Nat.not_lt_zero _), h.par⟩
  · have h1 := h.near hi x hx
    have h2 := h.mono i (i + 1) (by omega) hi1
    omega
  · by_cases e : x = i
    · subst e
      obtain ⟨j, hj, e⟩ := List.mem_iff_getElem.1 hpr
      exact h.cur j (by omega) pr (by rw [List.getElem?_eq_getElem hj, e]) hF hC
    · exact h.proc x (by omega) pr hpr hF hC

/-- which links serve: neither cut nor at a failed end -/
def usable (A B : Nat → Nat) (F C : Nat → Bool) (i : Nat) : Bool := !C i && !F (A i) && !F (B i)

theorem usable_iff {i u v : Nat} (hj : Joins A B i u v) : usable A B F C i = true ↔ C i = false ∧ F u = false ∧ F v = false := by
  unfold usable
  rcases hj with ⟨rfl, rfl⟩ | ⟨rfl, rfl⟩
  · simp [and_assoc]
  · simp [and_assoc]
    intro _
    exact And.comm

theorem BInv.alive (h : BInv n Ps F C src d Q i k) (hs : F src = false) : ∀ v, v ∈ Q → F v = false := fun v hv => by
  by_cases e : v = src
  · rw [e]; exact hs
  · obtain ⟨_, _, _, _, h3, _⟩ := h.par v hv e
    exact h3

/-- THE END: the queue is done: d is the distances; the last one queued is a farthest. -/
theorem BInv.final (h : BInv n Ps F C src d Q i k) (hP : PortsOf n m A B Ps) (hE : Ends n m A B) (hs : src < n) (hF : F src = false) (hi : Q.length ≤ i) :
    IsDist n m A B (usable A B F C) src d ∧ 0 < Q.length ∧ Q.getD 0 0 = src ∧ Q.getD (Q.length - 1) 0 < n ∧ ∀ v, v < n → d v ≤ d (Q.getD (Q.length - 1) 0) := by
  have hpos : 0 < Q.length := by
    have := h.head
    cases Q with
    | nil => simp at this
    | cons a t => simp
  have hlen := h.length
  have al := h.alive hF
  refine ⟨⟨h.lo, fun v hv => ?_, hs, h.src0, fun j hj hU u v hjn h0 => ?_, fun v hv hne h0 => ?_⟩, hpos, ?_, h.lt _ (getD_mem (by omega)), fun v hv => ?_⟩
  · by_cases h0 : 0 ≤ d v
    · obtain ⟨x, hx, ex⟩ := mem_getD ((h.mem v hv).2 h0)
      have := h.idx x hx
      rw [ex] at this
      omega
    · omega
  · have hl := hE.lt hj hjn
    obtain ⟨u1, u2, u3⟩ := (usable_iff hjn).1 hU
    have hum := (h.mem u hl.1).2 h0
    obtain ⟨x, hx, ex⟩ := mem_getD hum
    have hpm : (v, j) ∈ Ps (Q.getD x 0) := by rw [ex]; exact (hP u hl.1 v j).2 ⟨hj, hjn⟩
    have := h.proc x (by omega) (v, j) hpm u3 u1
    rw [ex] at this
    exact this
  · obtain ⟨u, l, h1, h2, h3, h4, h5⟩ := h.par v ((h.mem v hv).2 h0) hne
    obtain ⟨h6, h7⟩ := (hP u (h.lt u h1) v l).1 h2
    exact ⟨l, u, h6, (usable_iff h7).2 ⟨h4, al u h1, h3⟩, h7, (h.mem u (h.lt u h1)).1 h1, h5⟩
  · have := h.head
    rw [List.getD, this]
    rfl
  · by_cases h0 : 0 ≤ d v
    · obtain ⟨x, hx, ex⟩ := mem_getD ((h.mem v hv).2 h0)
      have := h.mono x (Q.length - 1) (by omega) (by omega)
      rw [ex] at this
      exact this
    · have h1 := getD_mem (Q := Q) (x := Q.length - 1) (by omega)
      have := (h.mem _ (h.lt _ h1)).1 h1
      omega
end
end Go.Proofs.Qxb6608983a.G
