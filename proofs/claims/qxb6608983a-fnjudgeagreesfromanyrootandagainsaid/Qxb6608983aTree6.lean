import Derived.Test.Qxb6608983aOrders
set_option linter.unusedVariables false
set_option linter.unusedSimpArgs false
namespace Go.Proofs.Qxb6608983a
open Go.ChangeShapes Go.WideShapes Go.ChangeAt Go.RowKit
open G (upd upd_same upd_other)

theorem keeps_set3 (w : World) (T : Nat) (x y z : Value) : Keeps (fun b => b = T) w (((w.setCell ⟨T, 3, none⟩ x).setCell ⟨T, 4, none⟩ y).setCell ⟨T, 5, none⟩ z) := by
  have h1 : Keeps (fun b => b = T) w (w.setCell ⟨T, 3, none⟩ x) := (Keeps.refl (fun b => b = T) w).setCell (p := ⟨T, 3, none⟩) (fun _ => rfl) x
  have h2 : Keeps (fun b => b = T) w ((w.setCell ⟨T, 3, none⟩ x).setCell ⟨T, 4, none⟩ y) := h1.setCell (p := ⟨T, 4, none⟩) (fun _ => rfl) y
  exact h2.setCell (p := ⟨T, 5, none⟩) (fun _ => rfl) z
theorem size_set3 (w : World) (T : Nat) (x y z : Value) : (((w.setCell ⟨T, 3, none⟩ x).setCell ⟨T, 4, none⟩ y).setCell ⟨T, 5, none⟩ z).heap.size = w.heap.size := by simp [World.setCell]
/-- (*walk).allocate: the block T of the walk (or of the tree that holds it at its head) gets its three rows -/
theorem allocate_any (T n c : Nat) (a : Option Addr) (cs : Array Value) (t : TypeId) (w : World) (hn : n ≤ 4096) (hb : Blk w T cs t) (hs : 6 ≤ cs.size) (h0 : cs[0]? = some (.slice a n c)) :
    Calls Try.prog 40 #[.pointer (some ⟨T, 0, none⟩)] w fun e w' => e = .returned (.tuple #[]) ∧
      Blk w' T (((cs.setIfInBounds 3 (.slice (some ⟨w.heap.size, 0, none⟩) n n)).setIfInBounds 4 (.slice (some ⟨w.heap.size + 1, 0, none⟩) n n)).setIfInBounds 5 (.slice (some ⟨w.heap.size + 2, 0, none⟩) 0 n)) t ∧
      IRow w' w.heap.size n (fun _ => 0) ∧ IRow w' (w.heap.size + 1) n (fun _ => 0) ∧ IRow w' (w.heap.size + 2) n (fun _ => 0) ∧ Keeps (fun b => b = T) w w' ∧ w'.heap.size = w.heap.size + 3 := by
  have hT := hb.lt
  have c0 := hb.cell h0
  have c3 := hb.cell (Array.getElem?_eq_getElem (by omega : 3 < cs.size))
  have c4 := hb.cell (Array.getElem?_eq_getElem (by omega : 4 < cs.size))
  have c5 := hb.cell (Array.getElem?_eq_getElem (by omega : 5 < cs.size))
  have f3 := hb.free 3
  have f4 := hb.free 4
  have f5 := hb.free 5
  generalize cs[3] = v3 at *
  generalize cs[4] = v4 at *
  generalize cs[5] = v5 at *
  have hT1 : T < w.heap.size + 1 := by omega
  have hT2 : T < w.heap.size + 2 := by omega
  have hT3 : T < w.heap.size + 1 + 1 := by omega
  have hmk := make_ints n (by omega)
  have hmk0 := make_ints0 n (by omega)
  go_enter Try.func40, Try.ntmps40
  go_wp2
  go_end0
  have hB := (((hb.set 3 (.slice (some ⟨w.heap.size, 0, none⟩) n n)).set 4 (.slice (some ⟨w.heap.size + 1, 0, none⟩) n n)).set 5 (.slice (some ⟨w.heap.size + 2, 0, none⟩) 0 n))
  have hK := keeps_set3 w T (.slice (some ⟨w.heap.size, 0, none⟩) n n) (.slice (some ⟨w.heap.size + 1, 0, none⟩) n n) (.slice (some ⟨w.heap.size + 2, 0, none⟩) 0 n)
  have hsz := size_set3 w T (.slice (some ⟨w.heap.size, 0, none⟩) n n) (.slice (some ⟨w.heap.size + 1, 0, none⟩) n n) (.slice (some ⟨w.heap.size + 2, 0, none⟩) 0 n)
  generalize ((w.setCell ⟨T, 3, none⟩ (.slice (some ⟨w.heap.size, 0, none⟩) n n)).setCell ⟨T, 4, none⟩ (.slice (some ⟨w.heap.size + 1, 0, none⟩) n n)).setCell ⟨T, 5, none⟩ (.slice (some ⟨w.heap.size + 2, 0, none⟩) 0 n) = W at *
  have r1 := irow_made W n
  have r2 := irow_made (W.alloc (.cells (madeCells #[.int .i64 0] n) 3)) n
  have r3 := irow_made ((W.alloc (.cells (madeCells #[.int .i64 0] n) 3)).alloc (.cells (madeCells #[.int .i64 0] n) 3)) n
  simp only [World.size_alloc, hsz] at r1 r2 r3
  exact ⟨rfl, ((hB.alloc _).alloc _).alloc _, (r1.alloc _).alloc _, r2.alloc _, r3, ((hK.alloc _).alloc _).alloc _, by simp [hsz]⟩

/-- THE CELLS OF A WALK, at the head of block T: the ports in block lo, failed in gf, cut in gc, its own rows in gd, gv, gq -/
structure WalkCells (cs : Array Value) (n m lo gf : Nat) (ac : Option Addr) (gd gv gq q : Nat) : Prop where
  size : 6 ≤ cs.size
  c0 : cs[0]? = some (.slice (some ⟨lo, 0, none⟩) n n)
  c1 : cs[1]? = some (.slice (some ⟨gf, 0, none⟩) n n)
  c2 : cs[2]? = some (.slice ac m m)
  c3 : cs[3]? = some (.slice (some ⟨gd, 0, none⟩) n n)
  c4 : cs[4]? = some (.slice (some ⟨gv, 0, none⟩) n n)
  c5 : cs[5]? = some (.slice (some ⟨gq, 0, none⟩) q n)

theorem walkCells_of {cs : Array Value} {n m lo gf gd gv gq : Nat} {ac : Option Addr} (hs : 6 ≤ cs.size) (h0 : cs[0]? = some (.slice (some ⟨lo, 0, none⟩) n n)) (h1 : cs[1]? = some (.slice (some ⟨gf, 0, none⟩) n n)) (h2 : cs[2]? = some (.slice ac m m)) :
    WalkCells (((cs.setIfInBounds 3 (.slice (some ⟨gd, 0, none⟩) n n)).setIfInBounds 4 (.slice (some ⟨gv, 0, none⟩) n n)).setIfInBounds 5 (.slice (some ⟨gq, 0, none⟩) 0 n)) n m lo gf ac gd gv gq 0 := by
  refine ⟨by simp; omega, ?_, ?_, ?_, ?_, ?_, ?_⟩
  · rw [Array.getElem?_setIfInBounds_ne (by decide), Array.getElem?_setIfInBounds_ne (by decide), Array.getElem?_setIfInBounds_ne (by decide)]; exact h0
  · rw [Array.getElem?_setIfInBounds_ne (by decide), Array.getElem?_setIfInBounds_ne (by decide), Array.getElem?_setIfInBounds_ne (by decide)]; exact h1
  · rw [Array.getElem?_setIfInBounds_ne (by decide), Array.getElem?_setIfInBounds_ne (by decide), Array.getElem?_setIfInBounds_ne (by decide)]; exact h2
  · rw [Array.getElem?_setIfInBounds_ne (by decide), Array.getElem?_setIfInBounds_ne (by decide), Array.getElem?_setIfInBounds_self_of_lt (by omega)]
  · rw [Array.getElem?_setIfInBounds_ne (by decide), Array.getElem?_setIfInBounds_self_of_lt (by simp; omega)]
  · rw [Array.getElem?_setIfInBounds_self_of_lt (by simp; omega)]

theorem set3_other {cs : Array Value} {x y z : Value} {i : Nat} (hi : 6 ≤ i) : (((cs.setIfInBounds 3 x).setIfInBounds 4 y).setIfInBounds 5 z)[i]? = cs[i]? := by
  rw [Array.getElem?_setIfInBounds_ne (by omega), Array.getElem?_setIfInBounds_ne (by omega), Array.getElem?_setIfInBounds_ne (by omega)]

/-- ZZnewWalk -/
theorem newWalk_any (n m lo gf : Nat) (ac : Option Addr) (w : World) (hn : n ≤ 4096) :
    Calls Try.prog 11 #[.slice (some ⟨lo, 0, none⟩) n n, .slice (some ⟨gf, 0, none⟩) n n, .slice ac m m] w fun e w' => e = .returned (.pointer (some ⟨w.heap.size, 0, none⟩)) ∧
      (∃ cs, Blk w' w.heap.size cs 58 ∧ WalkCells cs n m lo gf ac (w.heap.size + 1) (w.heap.size + 2) (w.heap.size + 3) 0) ∧
      IRow w' (w.heap.size + 1) n (fun _ => 0) ∧ IRow w' (w.heap.size + 2) n (fun _ => 0) ∧ IRow w' (w.heap.size + 3) n (fun _ => 0) ∧ Below w.heap.size w w' ∧ w'.heap.size = w.heap.size + 4 := by
  go_enter Try.func11, Try.ntmps11
  go_wp2_with fail
  refine (allocate_any w.heap.size n n (some ⟨lo, 0, none⟩) _ 58 _ hn (Blk.new w _ 58) (by simp) (by rfl)).mono ?_
  rintro e w1 ⟨rfl, hB, r1, r2, r3, hK, hsz⟩
  have hW := walkCells_of (gd := w.heap.size + 1) (gv := w.heap.size + 2) (gq := w.heap.size + 3) (m := m) (lo := lo) (gf := gf) (ac := ac) (n := n) (cs := #[.slice (some ⟨lo, 0, none⟩) n n, .slice (some ⟨gf, 0, none⟩) n n, .slice ac m m, .slice none 0 0, .slice none 0 0, .slice none 0 0]) (by simp) rfl rfl rfl
  simp only [World.size_alloc] at hB r1 r2 r3 hsz
  have hsz' : Hid _ := hsz
  clear hsz
  go_wp2_with fail
  go_ret
  refine ⟨rfl, ⟨_, hB, hW⟩, r1, r2, r3, ?_, hsz'.out⟩
  exact ((Below.refl _ _).alloc (Nat.le_refl _) _).trans (hK.below (by simp) (fun i hi => by omega))

def mk9 : Nat → Nat := fun k => [15, 17, 20, 24, 26, 28, 30, 32, 34].getD k 99
def lst9 (bs : List Bool) : Array Bool :=
  #[true, true, true, true, true, true, true, true, true, true, true, true, true, true, true, bs.getD 0 false, true, bs.getD 1 false, true, true, bs.getD 2 false, true, true, true, bs.getD 3 false, true, bs.getD 4 false, true, bs.getD 5 false, true, bs.getD 6 false, true, bs.getD 7 false, true, bs.getD 8 false, false, false, false]

theorem hset9 : ∀ (bs : List Bool) (k : Nat), bs.length = 9 → k < 9 → (lst9 bs).setIfInBounds (mk9 k) true = lst9 (bs.set k true) := by
  intro bs k hl hk
  match bs, hl with
  | [b0, b1, b2, b3, b4, b5, b6, b7, b8], _ =>
    match k, hk with
    | 0, _ => rfl
    | 1, _ => rfl
    | 2, _ => rfl
    | 3, _ => rfl
    | 4, _ => rfl
    | 5, _ => rfl
    | 6, _ => rfl
    | 7, _ => rfl
    | 8, _ => rfl

def ok9 (i : Nat) : Bool := decide (i < 35) && !([15, 17, 20, 24, 26, 28, 30, 32, 34].contains i)

theorem lst9_size (bs : List Bool) : (lst9 bs).size = 38 := rfl

theorem lst9_false (b0 b1 b2 b3 b4 b5 b6 b7 b8 : Bool) (j : Nat) (h : (lst9 [b0, b1, b2, b3, b4, b5, b6, b7, b8]).getD j true = false) :
    (∃ k, k < 9 ∧ mk9 k = j ∧ [b0, b1, b2, b3, b4, b5, b6, b7, b8][k]? = some false) ∨ j = 35 ∨ j = 36 ∨ j = 37 := by
  by_cases hj : j < 38
  · match j, hj with
    | 0, _ => exact absurd h (by simp [lst9])
    | 1, _ => exact absurd h (by simp [lst9])
    | 2, _ => exact absurd h (by simp [lst9])
    | 3, _ => exact absurd h (by simp [lst9])
    | 4, _ => exact absurd h (by simp [lst9])
    | 5, _ => exact absurd h (by simp [lst9])
    | 6, _ => exact absurd h (by simp [lst9])
    | 7, _ => exact absurd h (by simp [lst9])
    | 8, _ => exact absurd h (by simp [lst9])
    | 9, _ => exact absurd h (by simp [lst9])
    | 10, _ => exact absurd h (by simp [lst9])
    | 11, _ => exact absurd h (by simp [lst9])
    | 12, _ => exact absurd h (by simp [lst9])
    | 13, _ => exact absurd h (by simp [lst9])
    | 14, _ => exact absurd h (by simp [lst9])
    | 15, _ => exact .inl ⟨0, by decide, rfl, by simpa [lst9] using h⟩
    | 16, _ => exact absurd h (by simp [lst9])
    | 17, _ => exact .inl ⟨1, by decide, rfl, by simpa [lst9] using h⟩
    | 18, _ => exact absurd h (by simp [lst9])
    | 19, _ => exact absurd h (by simp [lst9])
    | 20, _ => exact .inl ⟨2, by decide, rfl, by simpa [lst9] using h⟩
    | 21, _ => exact absurd h (by simp [lst9])
    | 22, _ => exact absurd h (by simp [lst9])
    | 23, _ => exact absurd h (by simp [lst9])
    | 24, _ => exact .inl ⟨3, by decide, rfl, by simpa [lst9] using h⟩
    | 25, _ => exact absurd h (by simp [lst9])
    | 26, _ => exact .inl ⟨4, by decide, rfl, by simpa [lst9] using h⟩
    | 27, _ => exact absurd h (by simp [lst9])
    | 28, _ => exact .inl ⟨5, by decide, rfl, by simpa [lst9] using h⟩
    | 29, _ => exact absurd h (by simp [lst9])
    | 30, _ => exact .inl ⟨6, by decide, rfl, by simpa [lst9] using h⟩
    | 31, _ => exact absurd h (by simp [lst9])
    | 32, _ => exact .inl ⟨7, by decide, rfl, by simpa [lst9] using h⟩
    | 33, _ => exact absurd h (by simp [lst9])
    | 34, _ => exact .inl ⟨8, by decide, rfl, by simpa [lst9] using h⟩
    | 35, _ => exact .inr (.inl rfl)
    | 36, _ => exact .inr (.inr (.inl rfl))
    | 37, _ => exact .inr (.inr (.inr rfl))
  · have : (lst9 [b0, b1, b2, b3, b4, b5, b6, b7, b8]).getD j true = true := by
      rw [Array.getD_eq_getD_getElem?, Array.getElem?_eq_none (by rw [lst9_size]; omega)]
      rfl
    rw [this] at h
    cases h

theorem lst9_ok (b0 b1 b2 b3 b4 b5 b6 b7 b8 : Bool) (i : Nat) (h : ok9 i = true) : (lst9 [b0, b1, b2, b3, b4, b5, b6, b7, b8]).getD i false = true := by
  have hi : i < 35 := by unfold ok9 at h; simp at h; exact h.1
  match i, hi with
  | 0, _ => rfl
  | 1, _ => rfl
  | 2, _ => rfl
  | 3, _ => rfl
  | 4, _ => rfl
  | 5, _ => rfl
  | 6, _ => rfl
  | 7, _ => rfl
  | 8, _ => rfl
  | 9, _ => rfl
  | 10, _ => rfl
  | 11, _ => rfl
  | 12, _ => rfl
  | 13, _ => rfl
  | 14, _ => rfl
  | 15, _ => exact absurd h (by decide)
  | 16, _ => rfl
  | 17, _ => exact absurd h (by decide)
  | 18, _ => rfl
  | 19, _ => rfl
  | 20, _ => exact absurd h (by decide)
  | 21, _ => rfl
  | 22, _ => rfl
  | 23, _ => rfl
  | 24, _ => exact absurd h (by decide)
  | 25, _ => rfl
  | 26, _ => exact absurd h (by decide)
  | 27, _ => rfl
  | 28, _ => exact absurd h (by decide)
  | 29, _ => rfl
  | 30, _ => exact absurd h (by decide)
  | 31, _ => rfl
  | 32, _ => exact absurd h (by decide)
  | 33, _ => rfl
  | 34, _ => exact absurd h (by decide)

theorem lst9_at (bs : List Bool) (k : Nat) (hl : bs.length = 9) (hk : k < 9) (h : bs[k]? = some false) : (lst9 bs).getD (mk9 k) true = false ∧ (lst9 bs).getD (mk9 k) false = false := by
  match bs, hl with
  | [b0, b1, b2, b3, b4, b5, b6, b7, b8], _ =>
    match k, hk with
    | 0, _ => exact ⟨by simpa [lst9, mk9] using h, by simpa [lst9, mk9] using h⟩
    | 1, _ => exact ⟨by simpa [lst9, mk9] using h, by simpa [lst9, mk9] using h⟩
    | 2, _ => exact ⟨by simpa [lst9, mk9] using h, by simpa [lst9, mk9] using h⟩
    | 3, _ => exact ⟨by simpa [lst9, mk9] using h, by simpa [lst9, mk9] using h⟩
    | 4, _ => exact ⟨by simpa [lst9, mk9] using h, by simpa [lst9, mk9] using h⟩
    | 5, _ => exact ⟨by simpa [lst9, mk9] using h, by simpa [lst9, mk9] using h⟩
    | 6, _ => exact ⟨by simpa [lst9, mk9] using h, by simpa [lst9, mk9] using h⟩
    | 7, _ => exact ⟨by simpa [lst9, mk9] using h, by simpa [lst9, mk9] using h⟩
    | 8, _ => exact ⟨by simpa [lst9, mk9] using h, by simpa [lst9, mk9] using h⟩

theorem exists_false : ∀ (bs : List Bool), bs.count false ≠ 0 → ∃ k, k < bs.length ∧ bs[k]? = some false
  | [], h => absurd rfl h
  | false :: bs, _ => ⟨0, by simp, rfl⟩
  | true :: bs, h => by
    obtain ⟨k, h1, h2⟩ := exists_false bs (by simpa using h)
    exact ⟨k + 1, by simp; omega, by simpa using h2⟩

theorem ready9 {md : Region.Mode} {ops : Array Oper} (hM : ((List.range 9).all fun k => waitsIn md ops (mk9 k) ok9) = true) (h35 : ((List.range 9).all fun k => waits md ops 35 (mk9 k)) = true) (h36 : waits md ops 36 35 = true) (h37 : waits md ops 37 36 = true) :
    ∀ bs : List Bool, bs.length = 9 → bs.count false ≠ 0 → Region.ready md ops (lst9 bs) ≠ [] ∧ ∀ j ∈ Region.ready md ops (lst9 bs), ∃ k, k < 9 ∧ mk9 k = j ∧ bs[k]? = some false := by
  intro bs hl hc
  obtain ⟨k0, hk0, hb0⟩ := exists_false bs hc
  rw [hl] at hk0
  obtain ⟨ha1, ha2⟩ := lst9_at bs k0 hl hk0 hb0
  match bs, hl with
  | [b0, b1, b2, b3, b4, b5, b6, b7, b8], _ =>
    refine ⟨fun e => ?_, fun j hj => ?_⟩
    · have := ready_of_waitsIn (List.all_eq_true.1 hM k0 (List.mem_range.2 hk0)) ha1 (lst9_ok b0 b1 b2 b3 b4 b5 b6 b7 b8)
      rw [e] at this
      cases this
    · rcases lst9_false b0 b1 b2 b3 b4 b5 b6 b7 b8 j (mem_ready.1 hj).1 with h | h | h | h
      · exact h
      · subst h
        exact absurd hj (not_ready_of_waits (List.all_eq_true.1 h35 k0 (List.mem_range.2 hk0)) ha2)
      · subst h
        exact absurd hj (not_ready_of_waits h36 rfl)
      · subst h
        exact absurd hj (not_ready_of_waits h37 rfl)

/-- the frame of newSearchTree's great literal, all but the nine makes taken -/
def fr9 (Wk n m nf nc cl cp : Nat) (ap af ac al : Option Addr) (u : Nat → Value) : Act := { tmps := #[.pointer (some ⟨Wk, 0, none⟩), .slice al m cl, undef, undef, .pointer none, .int .i64 n, undef, .pointer (some ⟨Wk, 0, none⟩), .pointer (some ⟨Wk, 0, none⟩), .pointer (some ⟨Wk, 0, none⟩), .slice ap n cp, .int .i64 n, .pointer (some ⟨Wk, 0, none⟩), .pointer (some ⟨Wk, 0, none⟩), .pointer (some ⟨Wk, 0, none⟩), .slice ap n cp, .pointer (some ⟨Wk, 0, none⟩), .pointer (some ⟨Wk, 0, none⟩), .pointer (some ⟨Wk, 1, none⟩), .slice af n nf, .pointer (some ⟨Wk, 0, none⟩), .pointer (some ⟨Wk, 0, none⟩), .pointer (some ⟨Wk, 2, none⟩), .slice ac m nc, .agg #[.slice ap n cp, .slice af n nf, .slice ac m nc, .slice none 0 0, .slice none 0 0, .slice none 0 0], .slice al m cl, .int .i64 n, u 0, .int .i64 n, u 1, .slice al m cl, .int .i64 m, u 2, .int .i64 n, .int .i64 (2 * (n : Int)), .int .i64 (2 * (n : Int) + 3), u 3, .int .i64 n, u 4, .int .i64 n, u 5, .int .i64 n, u 6, .int .i64 n, u 7, .int .i64 n, u 8, undef, undef, undef, undef, undef, undef, undef], defers := [] }

def IsSl (v : Value) : Prop := ∃ g c, v = .slice (some ⟨g, 0, none⟩) c c

set_option maxHeartbeats 4000000 in
set_option maxRecDepth 100000 in
/-- newSearchTree -/
theorem tree_any (Wk n m lo gf : Nat) (ac : Option Addr) (cl : Nat) (al : Option Addr) (w : World) (hn : n ≤ 4096) (hm : m ≤ 4096)
    (h0 : w.cell? ⟨Wk, 0, none⟩ = some (.slice (some ⟨lo, 0, none⟩) n n)) (h1 : w.cell? ⟨Wk, 1, none⟩ = some (.slice (some ⟨gf, 0, none⟩) n n)) (h2 : w.cell? ⟨Wk, 2, none⟩ = some (.slice ac m m)) :
    Calls Try.prog 43 #[.pointer (some ⟨Wk, 0, none⟩), .slice al m cl] w fun e w' => ∃ T gd cs, e = .returned (.pointer (some ⟨T, 0, none⟩)) ∧ w.heap.size ≤ T ∧ T < gd ∧ Blk w' T cs 78 ∧ cs.size = 21 ∧ WalkCells cs n m lo gf ac gd (gd + 1) (gd + 2) 0 ∧ cs[14]? = some (.slice none 0 0) ∧
      IRow w' gd n (fun _ => 0) ∧ IRow w' (gd + 1) n (fun _ => 0) ∧ IRow w' (gd + 2) n (fun _ => 0) ∧ Below w.heap.size w w' ∧ w'.heap.size = gd + 3 := by
  have hmk := make_ints n (by omega)
  have hmkm := make_ints m (by omega)
  have hmkb := make_bools n (by omega)
  have hmk3 : ∀ w, (Instr.makeSlice 22 (.int .i64 (2 * (n : Int) + 3)) (.int .i64 (2 * (n : Int) + 3))).run Try.prog w = .ok (.slice (some ⟨w.heap.size, 0, none⟩) (2 * n + 3) (2 * n + 3)) (w.alloc (.cells (madeCells #[.int .i64 0] (2 * n + 3)) 3)) := fun w => by
    have h := make_ints (2 * n + 3) (by omega) w
    rw [show ((2 * n + 3 : Nat) : Int) = 2 * (n : Int) + 3 by omega] at h
    exact h
  go_enter Try.func43, Try.ntmps43
  go_upto_region 2 with fail
  go_cut [6] (fun s wx => ∃ T cs, s = .pointer (some ⟨T, 0, none⟩) ∧ w.heap.size ≤ T ∧ Blk wx T cs 78 ∧ cs.size = 21 ∧ cs[0]? = some (.slice (some ⟨lo, 0, none⟩) n n) ∧ cs[1]? = some (.slice (some ⟨gf, 0, none⟩) n n) ∧ cs[2]? = some (.slice ac m m) ∧ cs[14]? = some (.slice none 0 0) ∧ Below w.heap.size w wx)
  case first =>
    refine wp_region_held_drew (S := fun w' => w'.cell? ⟨Wk, 0, none⟩ = some (.slice (some ⟨lo, 0, none⟩) n n) ∧ w'.cell? ⟨Wk, 1, none⟩ = some (.slice (some ⟨gf, 0, none⟩) n n) ∧ w'.cell? ⟨Wk, 2, none⟩ = some (.slice ac m m)) (by kernel_rfl) ⟨h0, h1, h2⟩ (fun hHeld => ?_)
    refine wpAnyH_take (i := 0) (v := .pointer (some ⟨Wk, 0, none⟩)) rfl (by kernel_rfl) (by kernel_rfl) (by kernel_rfl) (fun _ _ _ h => h) (Or.inl ⟨by rfl, fun w hSw => by (try dsimp only at hSw); go_simp⟩) hHeld ?_
    simp only [Act.put, List.setIfInBounds_toArray, List.set_cons_zero, List.set_cons_succ]
    refine wpAnyH_take (i := 1) (v := .pointer (some ⟨Wk, 0, none⟩)) rfl (by kernel_rfl) (by kernel_rfl) (by kernel_rfl) (fun _ _ _ h => h) (Or.inl ⟨by rfl, fun w hSw => by (try dsimp only at hSw); go_simp⟩) hHeld ?_
    simp only [Act.put, List.setIfInBounds_toArray, List.set_cons_zero, List.set_cons_succ]
    refine wpAnyH_take (i := 2) (v := .pointer (some ⟨Wk, 0, none⟩)) rfl (by kernel_rfl) (by kernel_rfl) (by kernel_rfl) (fun _ _ _ h => h) (Or.inl ⟨by rfl, fun w hSw => by (try dsimp only at hSw); go_simp⟩) hHeld ?_
    simp only [Act.put, List.setIfInBounds_toArray, List.set_cons_zero, List.set_cons_succ]
    refine wpAnyH_take (i := 3) (v := .slice (some ⟨lo, 0, none⟩) n n) rfl (by kernel_rfl) (by kernel_rfl) (by kernel_rfl) (fun _ _ _ h => h) (Or.inl ⟨by rfl, fun w hSw => by (try dsimp only at hSw); go_simp⟩) hHeld ?_
    simp only [Act.put, List.setIfInBounds_toArray, List.set_cons_zero, List.set_cons_succ]
    refine wpAnyH_take (i := 4) (v := .pointer (some ⟨Wk, 0, none⟩)) rfl (by kernel_rfl) (by kernel_rfl) (by kernel_rfl) (fun _ _ _ h => h) (Or.inl ⟨by rfl, fun w hSw => by (try dsimp only at hSw); go_simp⟩) hHeld ?_
    simp only [Act.put, List.setIfInBounds_toArray, List.set_cons_zero, List.set_cons_succ]
    refine wpAnyH_take (i := 5) (v := .pointer (some ⟨Wk, 0, none⟩)) rfl (by kernel_rfl) (by kernel_rfl) (by kernel_rfl) (fun _ _ _ h => h) (Or.inl ⟨by rfl, fun w hSw => by (try dsimp only at hSw); go_simp⟩) hHeld ?_
    simp only [Act.put, List.setIfInBounds_toArray, List.set_cons_zero, List.set_cons_succ]
    refine wpAnyH_take (i := 6) (v := .pointer (some ⟨Wk, 1, none⟩)) rfl (by kernel_rfl) (by kernel_rfl) (by kernel_rfl) (fun _ _ _ h => h) (Or.inl ⟨by rfl, fun w hSw => by (try dsimp only at hSw); go_simp⟩) hHeld ?_
    simp only [Act.put, List.setIfInBounds_toArray, List.set_cons_zero, List.set_cons_succ]
    refine wpAnyH_take (i := 7) (v := .slice (some ⟨gf, 0, none⟩) n n) rfl (by kernel_rfl) (by kernel_rfl) (by kernel_rfl) (fun _ _ _ h => h) (Or.inl ⟨by rfl, fun w hSw => by (try dsimp only at hSw); go_simp⟩) hHeld ?_
    simp only [Act.put, List.setIfInBounds_toArray, List.set_cons_zero, List.set_cons_succ]
    refine wpAnyH_take (i := 8) (v := .pointer (some ⟨Wk, 0, none⟩)) rfl (by kernel_rfl) (by kernel_rfl) (by kernel_rfl) (fun _ _ _ h => h) (Or.inl ⟨by rfl, fun w hSw => by (try dsimp only at hSw); go_simp⟩) hHeld ?_
    simp only [Act.put, List.setIfInBounds_toArray, List.set_cons_zero, List.set_cons_succ]
    refine wpAnyH_take (i := 9) (v := .pointer (some ⟨Wk, 0, none⟩)) rfl (by kernel_rfl) (by kernel_rfl) (by kernel_rfl) (fun _ _ _ h => h) (Or.inl ⟨by rfl, fun w hSw => by (try dsimp only at hSw); go_simp⟩) hHeld ?_
    simp only [Act.put, List.setIfInBounds_toArray, List.set_cons_zero, List.set_cons_succ]
    refine wpAnyH_take (i := 10) (v := .pointer (some ⟨Wk, 2, none⟩)) rfl (by kernel_rfl) (by kernel_rfl) (by kernel_rfl) (fun _ _ _ h => h) (Or.inl ⟨by rfl, fun w hSw => by (try dsimp only at hSw); go_simp⟩) hHeld ?_
    simp only [Act.put, List.setIfInBounds_toArray, List.set_cons_zero, List.set_cons_succ]
    refine wpAnyH_take (i := 11) (v := .slice ac m m) rfl (by kernel_rfl) (by kernel_rfl) (by kernel_rfl) (fun _ _ _ h => h) (Or.inl ⟨by rfl, fun w hSw => by (try dsimp only at hSw); go_simp⟩) hHeld ?_
    simp only [Act.put, List.setIfInBounds_toArray, List.set_cons_zero, List.set_cons_succ]
    refine wpAnyH_take (i := 12) (v := .agg #[.slice (some ⟨lo, 0, none⟩) n n, .slice (some ⟨gf, 0, none⟩) n n, .slice ac m m, .slice none 0 0, .slice none 0 0, .slice none 0 0]) rfl (by kernel_rfl) (by kernel_rfl) (by kernel_rfl) (fun _ _ _ h => h) (Or.inl ⟨by rfl, fun w hSw => by (try dsimp only at hSw); go_simp⟩) hHeld ?_
    simp only [Act.put, List.setIfInBounds_toArray, List.set_cons_zero, List.set_cons_succ]
    refine wpAnyH_take (i := 13) (v := .slice al m cl) rfl (by kernel_rfl) (by kernel_rfl) (by kernel_rfl) (fun _ _ _ h => h) (Or.inl ⟨by rfl, fun w hSw => by (try dsimp only at hSw); go_simp⟩) hHeld ?_
    simp only [Act.put, List.setIfInBounds_toArray, List.set_cons_zero, List.set_cons_succ]
    refine wpAnyH_take (i := 14) (v := .int .i64 n) rfl (by kernel_rfl) (by kernel_rfl) (by kernel_rfl) (fun _ _ _ h => h) (Or.inl ⟨by rfl, fun w hSw => by (try dsimp only at hSw); go_simp⟩) hHeld ?_
    simp only [Act.put, List.setIfInBounds_toArray, List.set_cons_zero, List.set_cons_succ]
    refine wpAnyH_take (i := 16) (v := .int .i64 n) rfl (by kernel_rfl) (by kernel_rfl) (by kernel_rfl) (fun _ _ _ h => h) (Or.inl ⟨by rfl, fun w hSw => by (try dsimp only at hSw); go_simp⟩) hHeld ?_
    simp only [Act.put, List.setIfInBounds_toArray, List.set_cons_zero, List.set_cons_succ]
    refine wpAnyH_take (i := 18) (v := .slice al m cl) rfl (by kernel_rfl) (by kernel_rfl) (by kernel_rfl) (fun _ _ _ h => h) (Or.inl ⟨by rfl, fun w hSw => by (try dsimp only at hSw); go_simp⟩) hHeld ?_
    simp only [Act.put, List.setIfInBounds_toArray, List.set_cons_zero, List.set_cons_succ]
    refine wpAnyH_take (i := 19) (v := .int .i64 m) rfl (by kernel_rfl) (by kernel_rfl) (by kernel_rfl) (fun _ _ _ h => h) (Or.inl ⟨by rfl, fun w hSw => by (try dsimp only at hSw); go_simp⟩) hHeld ?_
    simp only [Act.put, List.setIfInBounds_toArray, List.set_cons_zero, List.set_cons_succ]
    refine wpAnyH_take (i := 21) (v := .int .i64 n) rfl (by kernel_rfl) (by kernel_rfl) (by kernel_rfl) (fun _ _ _ h => h) (Or.inl ⟨by rfl, fun w hSw => by (try dsimp only at hSw); go_simp⟩) hHeld ?_
    simp only [Act.put, List.setIfInBounds_toArray, List.set_cons_zero, List.set_cons_succ]
    refine wpAnyH_take (i := 22) (v := .int .i64 (2 * (n : Int))) rfl (by kernel_rfl) (by kernel_rfl) (by kernel_rfl) (fun _ _ _ h => h) (Or.inl ⟨by rfl, fun w hSw => by (try dsimp only at hSw); go_simp; rw [IntKind.wrap_i64]; omega⟩) hHeld ?_
    simp only [Act.put, List.setIfInBounds_toArray, List.set_cons_zero, List.set_cons_succ]
    refine wpAnyH_take (i := 23) (v := .int .i64 (2 * (n : Int) + 3)) rfl (by kernel_rfl) (by kernel_rfl) (by kernel_rfl) (fun _ _ _ h => h) (Or.inl ⟨by rfl, fun w hSw => by (try dsimp only at hSw); go_simp; rw [IntKind.wrap_i64]; omega⟩) hHeld ?_
    simp only [Act.put, List.setIfInBounds_toArray, List.set_cons_zero, List.set_cons_succ]
    refine wpAnyH_take (i := 25) (v := .int .i64 n) rfl (by kernel_rfl) (by kernel_rfl) (by kernel_rfl) (fun _ _ _ h => h) (Or.inl ⟨by rfl, fun w hSw => by (try dsimp only at hSw); go_simp⟩) hHeld ?_
    simp only [Act.put, List.setIfInBounds_toArray, List.set_cons_zero, List.set_cons_succ]
    refine wpAnyH_take (i := 27) (v := .int .i64 n) rfl (by kernel_rfl) (by kernel_rfl) (by kernel_rfl) (fun _ _ _ h => h) (Or.inl ⟨by rfl, fun w hSw => by (try dsimp only at hSw); go_simp⟩) hHeld ?_
    simp only [Act.put, List.setIfInBounds_toArray, List.set_cons_zero, List.set_cons_succ]
    refine wpAnyH_take (i := 29) (v := .int .i64 n) rfl (by kernel_rfl) (by kernel_rfl) (by kernel_rfl) (fun _ _ _ h => h) (Or.inl ⟨by rfl, fun w hSw => by (try dsimp only at hSw); go_simp⟩) hHeld ?_
    simp only [Act.put, List.setIfInBounds_toArray, List.set_cons_zero, List.set_cons_succ]
    refine wpAnyH_take (i := 31) (v := .int .i64 n) rfl (by kernel_rfl) (by kernel_rfl) (by kernel_rfl) (fun _ _ _ h => h) (Or.inl ⟨by rfl, fun w hSw => by (try dsimp only at hSw); go_simp⟩) hHeld ?_
    simp only [Act.put, List.setIfInBounds_toArray, List.set_cons_zero, List.set_cons_succ]
    refine wpAnyH_take (i := 33) (v := .int .i64 n) rfl (by kernel_rfl) (by kernel_rfl) (by kernel_rfl) (fun _ _ _ h => h) (Or.inl ⟨by rfl, fun w hSw => by (try dsimp only at hSw); go_simp⟩) hHeld ?_
    simp only [Act.put, List.setIfInBounds_toArray, List.set_cons_zero, List.set_cons_succ]
    refine anyH_cast (L' := lst9 (List.replicate 9 false)) (fuel' := 9 + 3) (a' := fr9 Wk n m n m cl n (some ⟨lo, 0, none⟩) (some ⟨gf, 0, none⟩) ac al (fun _ => undef)) (by kernel_rfl) (by kernel_rfl) (by kernel_rfl) ?_
    refine wpAnyH_set 9 mk9 lst9 (fr9 Wk n m n m cl n (some ⟨lo, 0, none⟩) (some ⟨gf, 0, none⟩) ac al) (fun w' => (w'.cell? ⟨Wk, 0, none⟩ = some (.slice (some ⟨lo, 0, none⟩) n n) ∧ w'.cell? ⟨Wk, 1, none⟩ = some (.slice (some ⟨gf, 0, none⟩) n n) ∧ w'.cell? ⟨Wk, 2, none⟩ = some (.slice ac m m)) ∧ Below w.heap.size w w') (fun _ => IsSl) 3 (fun w h => h.1) ?hr hset9 ?hs ?he 9 (List.replicate 9 false) (fun _ => undef) _ rfl rfl ⟨hHeld, (Below.refl _ _).drew⟩ (fun k hk => by
      rw [List.getElem?_replicate] at hk
      split at hk <;> cases hk)
    case hr => exact ready9 (by kernel_rfl) (by kernel_rfl) (by kernel_rfl) (by kernel_rfl)
    case hs =>
      intro k hk u w' hI
      obtain ⟨⟨i0, i1, i2⟩, hb⟩ := hI
      have l0 := World.block_lt_of_cell? _ _ i0
      have hb' : ∀ o, Below w.heap.size w (w'.alloc o) := fun o => hb.alloc hb.size o
      have hI' : ∀ o, ((w'.alloc o).cell? ⟨Wk, 0, none⟩ = some (.slice (some ⟨lo, 0, none⟩) n n) ∧ (w'.alloc o).cell? ⟨Wk, 1, none⟩ = some (.slice (some ⟨gf, 0, none⟩) n n) ∧ (w'.alloc o).cell? ⟨Wk, 2, none⟩ = some (.slice ac m m)) ∧ Below w.heap.size w (w'.alloc o) := fun o => ⟨⟨cell_later ((Below.refl _ _).alloc (Nat.le_refl _) o) i0, cell_later ((Below.refl _ _).alloc (Nat.le_refl _) o) i1, cell_later ((Below.refl _ _).alloc (Nat.le_refl _) o) i2⟩, hb' o⟩
      match k, hk with
      | 0, _ => exact ⟨_, _, _, rfl, rfl, run_make_op rfl rfl rfl (hmk w'), hI' _, ⟨_, _, rfl⟩, rfl⟩
      | 1, _ => exact ⟨_, _, _, rfl, rfl, run_make_op rfl rfl rfl (hmk w'), hI' _, ⟨_, _, rfl⟩, rfl⟩
      | 2, _ => exact ⟨_, _, _, rfl, rfl, run_make_op rfl rfl rfl (hmkm w'), hI' _, ⟨_, _, rfl⟩, rfl⟩
      | 3, _ => exact ⟨_, _, _, rfl, rfl, run_make_op rfl rfl rfl (hmk3 w'), hI' _, ⟨_, _, rfl⟩, rfl⟩
      | 4, _ => exact ⟨_, _, _, rfl, rfl, run_make_op rfl rfl rfl (hmk w'), hI' _, ⟨_, _, rfl⟩, rfl⟩
      | 5, _ => exact ⟨_, _, _, rfl, rfl, run_make_op rfl rfl rfl (hmk w'), hI' _, ⟨_, _, rfl⟩, rfl⟩
      | 6, _ => exact ⟨_, _, _, rfl, rfl, run_make_op rfl rfl rfl (hmk w'), hI' _, ⟨_, _, rfl⟩, rfl⟩
      | 7, _ => exact ⟨_, _, _, rfl, rfl, run_make_op rfl rfl rfl (hmkb w'), hI' _, ⟨_, _, rfl⟩, rfl⟩
      | 8, _ => exact ⟨_, _, _, rfl, rfl, run_make_op rfl rfl rfl (hmkb w'), hI' _, ⟨_, _, rfl⟩, rfl⟩
    case he =>
      intro u w' hI hu
      obtain ⟨⟨i0, i1, i2⟩, hb⟩ := hI
      obtain ⟨g0, c0, e0⟩ := hu 0 (by decide)
      obtain ⟨g1, c1, e1⟩ := hu 1 (by decide)
      obtain ⟨g2, c2, e2⟩ := hu 2 (by decide)
      obtain ⟨g3, c3, e3⟩ := hu 3 (by decide)
      obtain ⟨g4, c4, e4⟩ := hu 4 (by decide)
      obtain ⟨g5, c5, e5⟩ := hu 5 (by decide)
      obtain ⟨g6, c6, e6⟩ := hu 6 (by decide)
      obtain ⟨g7, c7, e7⟩ := hu 7 (by decide)
      obtain ⟨g8, c8, e8⟩ := hu 8 (by decide)
      unfold fr9
      rw [e0, e1, e2, e3, e4, e5, e6, e7, e8]
      refine anyH_one (i := 35) (by kernel_rfl) rfl rfl 47 rfl (v := .agg #[.slice (some ⟨lo, 0, none⟩) n n, .slice (some ⟨gf, 0, none⟩) n n, .slice ac m m, .slice none 0 0, .slice none 0 0, .slice none 0 0, .slice al m cl, .int .i64 0, .bool false, .slice (some ⟨g0, 0, none⟩) c0 c0, .slice (some ⟨g1, 0, none⟩) c1 c1, .slice (some ⟨g2, 0, none⟩) c2 c2, .slice (some ⟨g3, 0, none⟩) c3 c3, .slice (some ⟨g4, 0, none⟩) c4 c4, .slice none 0 0, .slice (some ⟨g5, 0, none⟩) c5 c5, .slice none 0 0, .slice none 0 0, .slice (some ⟨g6, 0, none⟩) c6 c6, .slice (some ⟨g7, 0, none⟩) c7 c7, .slice (some ⟨g8, 0, none⟩) c8 c8]) (w' := w') ?e35 ⟨i0, i1, i2⟩ ?_
      case e35 => go_simp
      simp only [Act.put, List.setIfInBounds_toArray, List.set_cons_zero, List.set_cons_succ]
      refine anyH_one (i := 36) (by kernel_rfl) rfl rfl 48 rfl (v := .pointer (some ⟨w'.heap.size, 0, none⟩)) (w' := w'.alloc (.cells #[.slice (some ⟨lo, 0, none⟩) n n, .slice (some ⟨gf, 0, none⟩) n n, .slice ac m m, .slice none 0 0, .slice none 0 0, .slice none 0 0, .slice al m cl, .int .i64 0, .bool false, .slice (some ⟨g0, 0, none⟩) c0 c0, .slice (some ⟨g1, 0, none⟩) c1 c1, .slice (some ⟨g2, 0, none⟩) c2 c2, .slice (some ⟨g3, 0, none⟩) c3 c3, .slice (some ⟨g4, 0, none⟩) c4 c4, .slice none 0 0, .slice (some ⟨g5, 0, none⟩) c5 c5, .slice none 0 0, .slice none 0 0, .slice (some ⟨g6, 0, none⟩) c6 c6, .slice (some ⟨g7, 0, none⟩) c7 c7, .slice (some ⟨g8, 0, none⟩) c8 c8] 78)) ?e36 ⟨cell_later ((Below.refl _ _).alloc (Nat.le_refl _) _) i0, cell_later ((Below.refl _ _).alloc (Nat.le_refl _) _) i1, cell_later ((Below.refl _ _).alloc (Nat.le_refl _) _) i2⟩ ?_
      case e36 => go_simp
      simp only [Act.put, List.setIfInBounds_toArray, List.set_cons_zero, List.set_cons_succ]
      refine anyH_one (i := 37) (by kernel_rfl) rfl rfl 6 rfl (v := .pointer (some ⟨w'.heap.size, 0, none⟩)) (w' := w'.alloc (.cells #[.slice (some ⟨lo, 0, none⟩) n n, .slice (some ⟨gf, 0, none⟩) n n, .slice ac m m, .slice none 0 0, .slice none 0 0, .slice none 0 0, .slice al m cl, .int .i64 0, .bool false, .slice (some ⟨g0, 0, none⟩) c0 c0, .slice (some ⟨g1, 0, none⟩) c1 c1, .slice (some ⟨g2, 0, none⟩) c2 c2, .slice (some ⟨g3, 0, none⟩) c3 c3, .slice (some ⟨g4, 0, none⟩) c4 c4, .slice none 0 0, .slice (some ⟨g5, 0, none⟩) c5 c5, .slice none 0 0, .slice none 0 0, .slice (some ⟨g6, 0, none⟩) c6 c6, .slice (some ⟨g7, 0, none⟩) c7 c7, .slice (some ⟨g8, 0, none⟩) c8 c8] 78)) ?e37 ⟨cell_later ((Below.refl _ _).alloc (Nat.le_refl _) _) i0, cell_later ((Below.refl _ _).alloc (Nat.le_refl _) _) i1, cell_later ((Below.refl _ _).alloc (Nat.le_refl _) _) i2⟩ ?_
      case e37 => go_simp
      simp only [Act.put, List.setIfInBounds_toArray, List.set_cons_zero, List.set_cons_succ]
      refine wpAnyH_done (by kernel_rfl) ?_ _
      go_wp2
      go_meet
      case rel => exact ⟨w'.heap.size, _, rfl, hb.size, Blk.new w' _ 78, rfl, rfl, rfl, rfl, rfl, hb.alloc hb.size _⟩
  case rest =>
    obtain ⟨T, cs, rfl, hT, hB, hcs, k0, k1, k2, k14, hbel⟩ := hcut
    go_wp2_with fail
    refine (allocate_any T n n (some ⟨lo, 0, none⟩) cs 78 wc hn hB (by omega) k0).mono ?_
    rintro e w1 ⟨rfl, hB1, r1, r2, r3, hK, hsz⟩
    have hW := walkCells_of (gd := wc.heap.size) (gv := wc.heap.size + 1) (gq := wc.heap.size + 2) (by omega) k0 k1 k2
    have hsz' : Hid _ := hsz
    have hcs' : Hid _ := hcs
    have k14' : Hid ((((cs.setIfInBounds 3 (.slice (some ⟨wc.heap.size, 0, none⟩) n n)).setIfInBounds 4 (.slice (some ⟨wc.heap.size + 1, 0, none⟩) n n)).setIfInBounds 5 (.slice (some ⟨wc.heap.size + 2, 0, none⟩) 0 n))[14]? = some (.slice none 0 0)) := (set3_other (by decide)).trans k14
    clear hsz hcs k0 k1 k2 k14
    go_wp2_with fail
    go_ret
    exact ⟨T, wc.heap.size, _, rfl, hT, hB.lt, hB1, by simp [hcs'.out], hW, k14'.out, r1, r2, r3, hbel.trans (hK.below hbel.size (fun i hi => by omega)), hsz'.out⟩
end Go.Proofs.Qxb6608983a
