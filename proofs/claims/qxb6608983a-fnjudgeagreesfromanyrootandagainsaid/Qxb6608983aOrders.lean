/-
  SEAT b6608983a: a region in which a set of operations may come up in any order (newSearchTree: nine makes): an invariant over all subsets.
-/
import Derived.Test.Qxb6608983aMem
import Derived.Deep.DeepCutAuto
set_option linter.unusedVariables false
set_option linter.unusedSimpArgs false
namespace Go
/-! ### a set of operations that may come up in any order -/
section
variable {P : Program} {ops : Array Oper} {Q : Exit → Act → World → Prop} {md : Region.Mode} {S : World → Prop}

theorem wpOp_of_run {i : Nat} {o : Oper} {v : Value} {a : Act} {w w' : World} (hi : ops[i]? = some o) (hw : Region.wanted o (yielded ops a.tmps) = true) (hrun : (execOp a.eval o).run P w = .ok (.value v) w')
    {K : Act → World → Prop} (h : K (a.put o.dst v) w') : wpOp P ops Q i K a w := by
  unfold Go.wpOp
  simp only [hi, hw, if_true, Oper.wp, hrun, Oper.upon]
  exact .inl h

theorem count_set_true : ∀ (bs : List Bool) (k : Nat), bs[k]? = some false → (bs.set k true).count false + 1 = bs.count false
  | [], k, h => by simp at h
  | b :: bs, 0, h => by
    simp at h
    subst h
    simp
  | b :: bs, k + 1, h => by
    have ih := count_set_true bs k (by simpa using h)
    simp only [List.set_cons_succ, List.count_cons]
    omega

theorem eq_replicate_of_count : ∀ (bs : List Bool), bs.count false = 0 → bs = List.replicate bs.length true
  | [], _ => rfl
  | b :: bs, h => by
    cases b
    · simp at h
    · have ih := eq_replicate_of_count bs (by simpa using h)
      rw [List.length_cons, List.replicate_succ, ← ih]

theorem wpAnyH_set (N : Nat) (M : Nat → Nat) (lst : List Bool → Array Bool) (F : (Nat → Value) → Act) (I : World → Prop) (Φ : Nat → Value → Prop) (f : Nat)
    (hSI : ∀ w, I w → S w)
    (hready : ∀ bs : List Bool, bs.length = N → bs.count false ≠ 0 → Region.ready md ops (lst bs) ≠ [] ∧ ∀ j ∈ Region.ready md ops (lst bs), ∃ k, k < N ∧ M k = j ∧ bs[k]? = some false)
    (hset : ∀ (bs : List Bool) (k : Nat), bs.length = N → k < N → (lst bs).setIfInBounds (M k) true = lst (bs.set k true))
    (hstep : ∀ k, k < N → ∀ u w, I w → ∃ o v w', ops[M k]? = some o ∧ Region.wanted o (yielded ops (F u).tmps) = true ∧ (execOp (F u).eval o).run P w = .ok (.value v) w' ∧ I w' ∧ Φ k v ∧ (F u).put o.dst v = F (fun j => if j = k then v else u j))
    (hend : ∀ u w, I w → (∀ k, k < N → Φ k (u k)) → wpAnyH P md ops Q S f (lst (List.replicate N true)) (F u) w) :
    ∀ (c : Nat) (bs : List Bool) (u : Nat → Value) (w : World), bs.length = N → bs.count false = c → I w → (∀ k, bs[k]? = some true → Φ k (u k)) → wpAnyH P md ops Q S (c + f) (lst bs) (F u) w := by
  intro c
  induction c with
  | zero =>
    intro bs u w hl hc hI hP
    have e := eq_replicate_of_count bs hc
    rw [hl] at e
    rw [Nat.zero_add]
    subst e
    exact hend u w hI (fun k hk => hP k (by rw [List.getElem?_replicate, if_pos hk]))
  | succ c ih =>
    intro bs u w hl hc hI hP
    obtain ⟨h1, h2⟩ := hready bs hl (by omega)
    rw [show c + 1 + f = (c + f) + 1 by omega]
    refine ⟨fun h => absurd h h1, fun j hj => ?_⟩
    obtain ⟨k, hk, rfl, hb⟩ := h2 j hj
    obtain ⟨o, v, w', ho, hw, hr, hI', hv, hput⟩ := hstep k hk u w hI
    refine wpOp_of_run ho hw hr ⟨hSI w' hI', ?_⟩
    rw [hput, hset bs k hl hk]
    refine ih (bs.set k true) _ w' (by simp [hl]) (by have := count_set_true bs k hb; omega) hI' (fun j hj => ?_)
    by_cases e : j = k
    · subst e; rw [if_pos rfl]; exact hv
    · rw [if_neg e]
      rw [List.getElem?_set_ne (Ne.symm e)] at hj
      exact hP j hj

theorem run_make_op {a : Act} {o : Oper} {t : TypeId} {l c : Operand} {v1 v2 v : Value} {w w' : World} (ho : o.op = .makeSlice t l c) (hl : a.eval l = v1) (hc : a.eval c = v2) (hrun : (Instr.makeSlice t v1 v2).run P w = .ok v w') :
    (execOp a.eval o).run P w = .ok (.value v) w' := by
  simp [execOp, ho, hl, hc, hrun, Result.andThen]

theorem anyH_one {i : Nat} {o : Oper} {v : Value} {fuel : Nat} {L : Array Bool} {a : Act} {w w' : World} (hr : Region.ready md ops L = [i]) (hi : ops[i]? = some o) (hw : Region.wanted o (yielded ops a.tmps) = true) (d : Nat) (hd : o.dst = some d)
    (hrun : (execOp a.eval o).run P w = .ok (.value v) w') (hS : S w') (h : wpAnyH P md ops Q S fuel (L.setIfInBounds i true) (a.put (some d) v) w') : wpAnyH P md ops Q S (fuel + 1) L a w := by
  refine ⟨fun h0 => (by rw [hr] at h0; cases h0), fun j hj => ?_⟩
  rw [hr, List.mem_singleton] at hj
  subst hj
  exact wpOp_of_run hi hw hrun ⟨hS, by rw [hd]; exact h⟩

theorem anyH_cast {fuel fuel' : Nat} {L L' : Array Bool} {a a' : Act} {w : World} (e : L = L') (e2 : fuel = fuel') (e3 : a = a') (h : wpAnyH P md ops Q S fuel' L' a' w) : wpAnyH P md ops Q S fuel L a w := by rw [e, e2, e3]; exact h
end
end Go

namespace Go
section
variable {ops : Array Oper} {md : Region.Mode}

/-- operation number j waits for number i -/
def waits (md : Region.Mode) (ops : Array Oper) (j i : Nat) : Bool := match ops[j]? with | some o => o.after.any (fun e => Region.binds md e && e.on == i) | none => false
/-- operation number j waits for none but those that 'ok' names -/
def waitsIn (md : Region.Mode) (ops : Array Oper) (j : Nat) (ok : Nat → Bool) : Bool := match ops[j]? with | some o => o.after.all (fun e => !Region.binds md e || ok e.on) | none => false

theorem not_ready_of_waits {j i : Nat} {listed : Array Bool} (hw : waits md ops j i = true) (hi : listed.getD i false = false) : j ∉ Region.ready md ops listed := fun hj => by
  obtain ⟨_, o, ho, hall⟩ := mem_ready.1 hj
  unfold waits at hw
  rw [ho] at hw
  obtain ⟨e, he, hb⟩ := Array.any_eq_true'.1 hw
  simp only [Bool.and_eq_true, beq_iff_eq] at hb
  have := hall e he hb.1
  rw [hb.2, hi] at this
  cases this

theorem ready_of_waitsIn {j : Nat} {ok : Nat → Bool} {listed : Array Bool} (hw : waitsIn md ops j ok = true) (hj : listed.getD j true = false) (hok : ∀ i, ok i = true → listed.getD i false = true) : j ∈ Region.ready md ops listed := by
  unfold waitsIn at hw
  cases ho : ops[j]? with
  | none => rw [ho] at hw; cases hw
  | some o =>
    rw [ho] at hw
    refine mem_ready.2 ⟨hj, o, ho, fun e he hb => ?_⟩
    have h1 := Array.all_eq_true'.1 hw e he
    rw [hb] at h1
    exact hok _ (by simpa using h1)
end
end Go
