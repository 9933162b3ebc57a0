/-
  PLAIN LAWS of a sort by counting: farthestFirst.
-/
import Derived.Test.Qxb6608983aBfs
set_option linter.unusedVariables false
namespace Go.Proofs.Qxb6608983a.G

/-- p is E - j away -/
abbrev At (D : Nat → Int) (E j p : Nat) : Prop := 0 ≤ D p ∧ D p + (j : Int) = (E : Int)

/-- how many of the first k are E - j away -/
def cnt (D : Nat → Int) (E j : Nat) : Nat → Nat
  | 0 => 0
  | k + 1 => cnt D E j k + if At D E j k then 1 else 0
/-- .. are farther than E - j -/
def sums (D : Nat → Int) (E k : Nat) : Nat → Nat
  | 0 => 0
  | j + 1 => sums D E k j + cnt D E j k

section
variable {D : Nat → Int} {E : Nat}

theorem cnt_yes {j k : Nat} (h : At D E j k) : cnt D E j (k + 1) = cnt D E j k + 1 := by
  show cnt D E j k + (if At D E j k then 1 else 0) = _
  rw [if_pos h]
theorem cnt_no {j k : Nat} (h : ¬ At D E j k) : cnt D E j (k + 1) = cnt D E j k := by
  show cnt D E j k + (if At D E j k then 1 else 0) = _
  rw [if_neg h]; rfl
theorem cnt_mono {j a : Nat} : ∀ b, a ≤ b → cnt D E j a ≤ cnt D E j b
  | 0, h => by obtain rfl : a = 0 := by omega
               exact Nat.le_refl _
  | b + 1, h => by
    by_cases e : a = b + 1
    · subst e; exact Nat.le_refl _
    · exact Nat.le_trans (cnt_mono b (by omega)) (Nat.le_add_right _ _)
theorem cnt_lt {j p n : Nat} (h : At D E j p) (hp : p < n) : cnt D E j p < cnt D E j n := by
  have := cnt_mono (D := D) (E := E) (j := j) (a := p + 1) n hp
  rw [cnt_yes h] at this
  omega
theorem sums_mono {k i : Nat} : ∀ j, i ≤ j → sums D E k i ≤ sums D E k j
  | 0, h => by obtain rfl : i = 0 := by omega
               exact Nat.le_refl _
  | j + 1, h => by
    by_cases e : i = j + 1
    · subst e; exact Nat.le_refl _
    · exact Nat.le_trans (sums_mono j (by omega)) (Nat.le_add_right _ _)
theorem sums_step (k : Nat) : ∀ J, sums D E (k + 1) J = sums D E k J + if 0 ≤ D k ∧ D k ≤ E ∧ (E : Int) < D k + J then 1 else 0
  | 0 => by
    rw [if_neg (by omega)]; rfl
  | J + 1 => by
    show sums D E (k + 1) J + (cnt D E J k + if At D E J k then 1 else 0) = sums D E k J + cnt D E J k + _
    rw [sums_step k J]
    by_cases c : At D E J k
    · rw [if_pos c, if_neg (by obtain ⟨h1, h2⟩ := c; omega), if_pos (by obtain ⟨h1, h2⟩ := c; omega)]; omega
    · rw [if_neg c]
      by_cases c2 : 0 ≤ D k ∧ D k ≤ E ∧ (E : Int) < D k + J
      · rw [if_pos c2, if_pos (by omega)]; omega
      · rw [if_neg c2, if_neg (by intro h; exact c ⟨h.1, by omega⟩)]; omega
theorem sums_le (J : Nat) : ∀ k, sums D E k J ≤ k
  | 0 => by
    have : ∀ J, sums D E 0 J = 0 := fun J => by
      induction J with
      | zero => rfl
      | succ J ih => show sums D E 0 J + 0 = 0; omega
    rw [this]; exact Nat.le_refl _
  | k + 1 => by
    rw [sums_step]
    have := sums_le J k
    split <;> omega
theorem sums_find {n x : Nat} : ∀ J, x < sums D E n J → ∃ j t, j < J ∧ t < cnt D E j n ∧ x = sums D E n j + t
  | 0, h => absurd h (Nat.not_lt_zero _)
  | J + 1, h => by
    by_cases c : x < sums D E n J
    · obtain ⟨j, t, h1, h2, h3⟩ := sums_find J c
      exact ⟨j, t, by omega, h2, h3⟩
    · have h' : x < sums D E n J + cnt D E J n := h
      exact ⟨J, x - sums D E n J, by omega, by omega, by omega⟩

/-- loop 1: the first k counted -/
def Cnt1 (D : Nat → Int) (E k : Nat) (f : Nat → Int) : Prop := f 0 = 0 ∧ ∀ j, j ≤ E → f (j + 1) = cnt D E j k
theorem Cnt1.skip {k : Nat} {f : Nat → Int} (h : Cnt1 D E k f) (hk : D k < 0) : Cnt1 D E (k + 1) f := ⟨h.1, fun j hj => by rw [h.2 j hj, cnt_no (fun c => by have := c.1; omega)]⟩
theorem Cnt1.step {k j : Nat} {f : Nat → Int} (h : Cnt1 D E k f) (hj : j ≤ E) (hk : At D E j k) : Cnt1 D E (k + 1) (upd f (j + 1) (f (j + 1) + 1)) := by
  refine ⟨by rw [upd_other _ _ _ (by omega)]; exact h.1, fun i hi => ?_⟩
  by_cases e : i = j
  · subst e; rw [upd_same, h.2 i hi, cnt_yes hk]; omega
  · rw [upd_other _ _ _ (by omega), h.2 i hi, cnt_no (fun c => by have := c.2; have := hk.2; omega)]

/-- loop 2: the sums up to d -/
def Cnt2 (D : Nat → Int) (E n d : Nat) (f : Nat → Int) : Prop := (∀ i, i < d → f i = sums D E n i) ∧ ∀ i, d ≤ i → i ≤ E + 1 → f i = cnt D E (i - 1) n
theorem Cnt1.two {n : Nat} {f : Nat → Int} (h : Cnt1 D E n f) : Cnt2 D E n 1 f :=
  ⟨fun i hi => by obtain rfl : i = 0 := by omega
                  rw [h.1]; rfl, fun i h1 h2 => by have := h.2 (i - 1) (by omega); rw [show i - 1 + 1 = i by omega] at this; exact this⟩
theorem Cnt2.step {n d : Nat} {f : Nat → Int} (h : Cnt2 D E n d f) (h1 : 1 ≤ d) (hd : d ≤ E + 1) : Cnt2 D E n (d + 1) (upd f d (f d + f (d - 1))) := by
  refine ⟨fun i hi => ?_, fun i h2 h3 => ?_⟩
  · by_cases e : i = d
    · subst e
      rw [upd_same, h.2 i (Nat.le_refl _) hd, h.1 (i - 1) (by omega)]
      have : sums D E n i = sums D E n (i - 1) + cnt D E (i - 1) n := by
        obtain ⟨y, rfl⟩ : ∃ y, i = y + 1 := ⟨i - 1, by omega⟩
        rfl
      rw [this]; omega
    · rw [upd_other _ _ _ e]; exact h.1 i (by omega)
  · rw [upd_other _ _ _ (by omega)]; exact h.2 i (by omega) h3

/-- loop 3: the first p laid out -/
structure Cnt3 (D : Nat → Int) (E n p : Nat) (f h : Nat → Int) : Prop where
  at_ : ∀ j, j ≤ E → f j = sums D E n j + cnt D E j p
  is : ∀ j t, j ≤ E → t < cnt D E j p → ∃ q : Nat, q < p ∧ h (sums D E n j + t) = q ∧ At D E j q
  all : ∀ q j, q < p → j ≤ E → At D E j q → ∃ t, t < cnt D E j p ∧ h (sums D E n j + t) = q
theorem Cnt2.three {n : Nat} {f h : Nat → Int} (c : Cnt2 D E n (E + 2) f) : Cnt3 D E n 0 f h :=
  ⟨fun j hj => by rw [c.1 j (by omega)]; show _ = _ + ((0 : Nat) : Int); omega, fun j t _ ht => absurd ht (Nat.not_lt_zero _), fun q j hq => absurd hq (Nat.not_lt_zero _)⟩
theorem Cnt3.skip {n p : Nat} {f h : Nat → Int} (c : Cnt3 D E n p f h) (hk : D p < 0) : Cnt3 D E n (p + 1) f h := by
  have e : ∀ j, cnt D E j (p + 1) = cnt D E j p := fun j => cnt_no (fun c => by have := c.1; omega)
  refine ⟨fun j hj => by rw [e]; exact c.at_ j hj, fun j t hj ht => ?_, fun q j hq hj ha => ?_⟩
  · rw [e] at ht
    obtain ⟨q, h1, h2⟩ := c.is j t hj ht
    exact ⟨q, by omega, h2⟩
  · by_cases e2 : q = p
    · subst e2; have := ha.1; omega
    · rw [e]; exact c.all q j (by omega) hj ha
theorem Cnt3.pos {n p j : Nat} {f h : Nat → Int} (c : Cnt3 D E n p f h) (hp : p < n) (hj : j ≤ E) (ha : At D E j p) : f j = ((sums D E n j + cnt D E j p : Nat) : Int) ∧ sums D E n j + cnt D E j p < n := by
  refine ⟨by rw [c.at_ j hj]; omega, ?_⟩
  have h1 := cnt_lt ha hp
  have h2 : sums D E n (j + 1) ≤ n := sums_le (j + 1) n
  have h3 : sums D E n (j + 1) = sums D E n j + cnt D E j n := rfl
  omega
theorem Cnt3.step {n p j x : Nat} {f h : Nat → Int} (c : Cnt3 D E n p f h) (hp : p < n) (hj : j ≤ E) (ha : At D E j p) (hx : x = sums D E n j + cnt D E j p) : Cnt3 D E n (p + 1) (upd f j (f j + 1)) (upd h x p) := by
  have hne : ∀ i, i ≠ j → cnt D E i (p + 1) = cnt D E i p := fun i hi => cnt_no (fun c => by have := c.2; have := ha.2; omega)
  have hy := cnt_yes ha
  have hlt := cnt_lt ha hp
  have far : ∀ i t, i ≤ E → t < cnt D E i p → sums D E n i + t ≠ x := by
    intro i t hi ht
    rcases Nat.lt_trichotomy i j with l | e | g
    · have h1 := cnt_mono (D := D) (E := E) (j := i) (a := p) n (by omega)
      have h2 := sums_mono (D := D) (E := E) (k := n) (i := i + 1) j l
      have h3 : sums D E n (i + 1) = sums D E n i + cnt D E i n := rfl
      omega
    · subst e; omega
    · have h2 := sums_mono (D := D) (E := E) (k := n) (i := j + 1) i g
      have h3 : sums D E n (j + 1) = sums D E n j + cnt D E j n := rfl
      omega
  refine ⟨fun i hi => ?_, fun i t hi ht => ?_, fun q i hq hi hai => ?_⟩
  · by_cases e : i = j
    · subst e; rw [upd_same, c.at_ i hi, hy]; omega
    · rw [upd_other _ _ _ e, c.at_ i hi, hne i e]
  · by_cases e : i = j ∧ t = cnt D E j p
    · obtain ⟨rfl, rfl⟩ := e
      exact ⟨p, by omega, by rw [hx, upd_same], ha⟩
    · have ht' : t < cnt D E i p := by
        by_cases e2 : i = j
        · subst e2; rw [hy] at ht; omega
        · rw [hne i e2] at ht; exact ht
      obtain ⟨q, h1, h2, h3⟩ := c.is i t hi ht'
      exact ⟨q, by omega, by rw [upd_other _ _ _ (far i t hi ht')]; exact h2, h3⟩
  · by_cases e : q = p
    · subst e
      have hij : i = j := by have := hai.2; have := ha.2; omega
      subst hij
      exact ⟨cnt D E i q, by rw [hy]; omega, by rw [hx, upd_same]⟩
    · obtain ⟨t, h1, h2⟩ := c.all q i (by omega) hi hai
      refine ⟨t, ?_, by rw [upd_other _ _ _ (far i t hi h1)]; exact h2⟩
      by_cases e2 : i = j
      · subst e2; rw [hy]; omega
      · rw [hne i e2]; exact h1
theorem Cnt3.last {n : Nat} {f h : Nat → Int} (c : Cnt3 D E n n f h) (hE : ∀ p, p < n → D p ≤ E) :
    f E = ((sums D E n (E + 1) : Nat) : Int) ∧ sums D E n (E + 1) ≤ n ∧ (∀ x, x < sums D E n (E + 1) → ∃ q : Nat, q < n ∧ h x = q ∧ 0 ≤ D q) ∧ ∀ q, q < n → 0 ≤ D q → ∃ x, x < sums D E n (E + 1) ∧ h x = q := by
  refine ⟨?_, sums_le _ _, fun x hx => ?_, fun q hq h0 => ?_⟩
  · rw [c.at_ E (Nat.le_refl _)]
    show _ = ((sums D E n E + cnt D E E n : Nat) : Int)
    omega
  · obtain ⟨j, t, h1, h2, rfl⟩ := sums_find (E + 1) hx
    obtain ⟨q, g1, g2, g3⟩ := c.is j t (by omega) h2
    exact ⟨q, g1, g2, g3.1⟩
  · have hle := hE q hq
    have ha : At D E (E - (D q).toNat) q := ⟨h0, by omega⟩
    obtain ⟨t, g1, g2⟩ := c.all q (E - (D q).toNat) hq (by omega) ha
    refine ⟨_, ?_, g2⟩
    have h2 := sums_mono (D := D) (E := E) (k := n) (i := E - (D q).toNat + 1) (E + 1) (by omega)
    have h3 : sums D E n (E - (D q).toNat + 1) = sums D E n (E - (D q).toNat) + cnt D E (E - (D q).toNat) n := rfl
    omega
end
end Go.Proofs.Qxb6608983a.G
