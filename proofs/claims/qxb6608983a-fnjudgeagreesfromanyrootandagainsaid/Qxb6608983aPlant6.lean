import Derived.Test.Qxb6608983aReach6
set_option linter.unusedVariables false
set_option linter.unusedSimpArgs false
namespace Go.Proofs.Qxb6608983a
open Go.ChangeShapes Go.WideShapes Go.ChangeAt Go.RowKit
open G (upd upd_same upd_other)

theorem set_same_cell {cs : Array Value} {i : Nat} {v : Value} (h : cs[i]? = some v) : cs.setIfInBounds i v = cs := by
  apply Array.ext_getElem?
  intro j
  by_cases e : i = j
  · subst e
    rw [Array.getElem?_setIfInBounds_self_of_lt (Array.getElem?_eq_some_iff.1 h).1, h]
  · rw [Array.getElem?_setIfInBounds_ne e]

/-- forget on a tree with an empty subtree: nothing turns -/
theorem forget_any (T : Nat) (cs : Array Value) (t : TypeId) (w : World) (hB : Blk w T cs t) (h14 : cs[14]? = some (.slice none 0 0)) :
    Calls Try.prog 48 #[.pointer (some ⟨T, 0, none⟩)] w fun e w' => e = .returned (.tuple #[]) ∧ Blk w' T cs t ∧ Keeps (fun b => b = T) w w' := by
  have c := hB.cell h14
  have f := hB.free 14
  have hset : Hid (Blk (w.setCell ⟨T, 14, none⟩ (.slice none 0 0)) T cs t) := by
    have := hB.set 14 (.slice none 0 0)
    rw [set_same_cell h14] at this
    exact this
  have hk : Hid (Keeps (fun b => b = T) w (w.setCell ⟨T, 14, none⟩ (.slice none 0 0))) := (Keeps.refl (fun b => b = T) w).setCell (p := ⟨T, 14, none⟩) (fun _ => rfl) _
  go_enter Try.func48, Try.ntmps48
  go_wp2
  go_loopw [9] (fun i wr => i = .int .i64 0 ∧ wr = w) (fun i _ => 0)
  case atStart => exact ⟨rfl, rfl⟩
  case round =>
    obtain ⟨rfl, rfl⟩ := hrel
    go_wp2
    go_end0
    exact ⟨rfl, hset.out, hk.out⟩

set_option maxHeartbeats 1000000 in
theorem plant_any (T n m lo hi gf gc gd gv gq q src : Nat) (ac : Option Addr) (t : TypeId) (cs : Array Value) (Ps : Nat → List (Nat × Nat)) (F C : Nat → Bool) (w : World) (hn : n ≤ 4096) (hm : m ≤ 4096)
    (hB : Blk w T cs t) (hsz : cs.size = 21) (h14 : cs[14]? = some (.slice none 0 0)) (hW : WalkCells cs n m lo gf ac gd gv gq q) (hP : PortsAt w lo hi n Ps) (hF : BRow w gf n F) (hac : 0 < m → ac = some ⟨gc, 0, none⟩ ∧ BRow w gc m C) (hA : Apart T lo hi gf gc gd gv gq)
    (r1 : ∃ f, IRow w gd n f) (r2 : ∃ f, IRow w gv n f) (r3 : ∃ f, IRow w gq n f) (hsrc : src < n) (hpv : ∀ u, u < n → ∀ pr, pr ∈ Ps u → pr.1 < n ∧ pr.2 < m) (hpl : ∀ u, (Ps u).length ≤ 8192) :
    Calls Try.prog 44 #[.pointer (some ⟨T, 0, none⟩), .int .i64 src] w fun e w' => e = .returned (.tuple #[]) ∧ ∃ d Q cs', G.BInv n Ps F C src d Q Q.length 0 ∧ Blk w' T cs' t ∧ cs'.size = 21 ∧
      cs'[3]? = some (.slice (some ⟨gd, 0, none⟩) n n) ∧ cs'[5]? = some (.slice (some ⟨gq, 0, none⟩) Q.length n) ∧ cs'[7]? = some (.int .i64 (d (Q.getD (Q.length - 1) 0))) ∧
      IRow w' gd n d ∧ (∃ qf, IRow w' gq n qf ∧ ∀ i, i < Q.length → qf i = (Q.getD i 0 : Nat)) ∧ Keeps (fun b => b = T ∨ b = gd ∨ b = gv ∨ b = gq) w w' := by
  go_enter Try.func44, Try.ntmps44
  go_wp2_with fail
  refine (forget_any T cs t w hB h14).mono ?_
  rintro e w1 ⟨rfl, hB1, hK1⟩
  have hdT := Ne.symm hA.Td
  have hvT := Ne.symm hA.Tv
  have hqT := Ne.symm hA.Tq
  obtain ⟨f1, r1⟩ := r1
  obtain ⟨f2, r2⟩ := r2
  obtain ⟨f3, r3⟩ := r3
  have s1 := r1.kept hK1 hdT
  have s2 := r2.kept hK1 hvT
  have s3 := r3.kept hK1 hqT
  have hP1 := hP.kept hK1 (fun b h1 h2 e => hA.pl b h1 h2 (.inl e))
  have hF1 := hF.kept hK1 (fun e => hA.f (.inl e))
  have hC1 : 0 < m → ac = some ⟨gc, 0, none⟩ ∧ BRow w1 gc m C := fun h => ⟨(hac h).1, (hac h).2.kept hK1 (fun e => hA.c (.inl e))⟩
  have lT := hB1.lt
  go_wp2_with fail
  refine (reach_any T n m lo hi gf gc gd gv gq q src ac t cs Ps F C w1 hn hm hB1 hW hP1 hF1 hC1 hA ⟨_, s1⟩ ⟨_, s2⟩ ⟨_, s3⟩ hsrc hpv hpl).mono ?_
  rintro e w2 ⟨d, Q, rfl, hI, hS⟩
  have hK2 : Hid (Keeps (fun b => b = T ∨ b = gd ∨ b = gv ∨ b = gq) w w2) := (hK1.mono (fun _ _ h => .inl h)).trans hS.keeps (fun _ _ h => h)
  have hI' : Hid (G.BInv n Ps F C src d Q Q.length 0) := hI
  obtain ⟨bk, di, vi, qu, ke⟩ := hS
  have hsz' : (cs.setIfInBounds 5 (.slice (some ⟨gq, 0, none⟩) Q.length n)).size = 21 := by simp [hsz]
  have e3 : (cs.setIfInBounds 5 (.slice (some ⟨gq, 0, none⟩) Q.length n))[3]? = some (.slice (some ⟨gd, 0, none⟩) n n) := by
    rw [Array.getElem?_setIfInBounds_ne (by decide)]; exact hW.c3
  have e5 : (cs.setIfInBounds 5 (.slice (some ⟨gq, 0, none⟩) Q.length n))[5]? = some (.slice (some ⟨gq, 0, none⟩) Q.length n) := by
    rw [Array.getElem?_setIfInBounds_self_of_lt (by omega)]
  generalize cs.setIfInBounds 5 (.slice (some ⟨gq, 0, none⟩) Q.length n) = cs2 at *
  have e7 : ∃ v, w2.cell? ⟨T, 7, none⟩ = some v := ⟨_, bk.cell (Array.getElem?_eq_getElem (by omega : 7 < cs2.size))⟩
  have e8 : ∃ v, w2.cell? ⟨T, 8, none⟩ = some v := ⟨_, bk.cell (Array.getElem?_eq_getElem (by omega : 8 < cs2.size))⟩
  obtain ⟨v7, e7⟩ := e7
  obtain ⟨v8, e8⟩ := e8
  have f7 := bk.free 7
  have f8 := bk.free 8
  clear hI hB1 hK1 s1 s2 s3 hP1 hF1 hC1 ke vi
  obtain ⟨qf, hq1, hq2⟩ := qu
  have hq2' : Hid (∀ i, i < Q.length → qf i = (Q.getD i 0 : Nat)) := hq2
  clear hq2
  generalize hec : d (Q.getD (Q.length - 1) 0) = ec at *
  have hec' : Hid (d (Q.getD (Q.length - 1) 0) = ec) := hec
  clear hec
  go_wp2_with fail
  go_end0
  refine ⟨rfl, d, Q, (cs2.setIfInBounds 7 (.int .i64 ec)).setIfInBounds 8 (.bool false), hI'.out, (bk.set 7 _).set 8 _, by simp [hsz'], ?_, ?_, ?_, (di.other (a := ⟨T, 7, none⟩) hdT _).other (a := ⟨T, 8, none⟩) hdT _, ⟨qf, (hq1.other (a := ⟨T, 7, none⟩) hqT _).other (a := ⟨T, 8, none⟩) hqT _, hq2'.out⟩, (hK2.out.setCell (p := ⟨T, 7, none⟩) (fun _ => .inl rfl) _).setCell (p := ⟨T, 8, none⟩) (fun _ => .inl rfl) _⟩
  · rw [Array.getElem?_setIfInBounds_ne (by decide), Array.getElem?_setIfInBounds_ne (by decide)]; exact e3
  · rw [Array.getElem?_setIfInBounds_ne (by decide), Array.getElem?_setIfInBounds_ne (by decide)]; exact e5
  · rw [Array.getElem?_setIfInBounds_ne (by decide), Array.getElem?_setIfInBounds_self_of_lt (by omega), hec'.out]
end Go.Proofs.Qxb6608983a
