import Derived.Test.Qxb6614181aRead
import Derived.Deep.QuietTactic
import Derived.BigQuiet
namespace Go.Proofs.Qxb6614181a.fnAppend
open Go.ChangeShapes Go.WideShapes Go.ChangeAt Go.RowKit
open Go.ChangeMaps (open_string shut_string)

/-- WHAT THE WALKS ARE TOLD OF A SLICE OF STRINGS THAT CAME IN: 'f i' is its element number i. -/
def Strs (w : World) (a : Option Addr) (len : Nat) (f : Nat → ByteArray) : Prop :=
  len ≤ maxLen ∧ (len = 0 ∨ ∃ b off, a = some ⟨b, off, none⟩ ∧ ∀ i, i < len → w.cell? ⟨b, off + i, none⟩ = some (.string (f i)))

theorem Strs.later {w w' : World} {a : Option Addr} {len : Nat} {f : Nat → ByteArray} (h : Strs w a len f) (hb : Below w.heap.size w w') : Strs w' a len f := by
  obtain ⟨h1, h3⟩ := h
  refine ⟨h1, ?_⟩
  rcases h3 with h | ⟨b, off, ha, hc⟩
  · exact .inl h
  · exact .inr ⟨b, off, ha, fun i hi => cell_later hb (hc i hi)⟩

def Sized (e : Ending) (len : Nat) (f : Nat → ByteArray) : Prop := ∃ x : Bool, e = .returned (.bool x) ∧ (x = true → ∀ i, i < len → (f i).size ≤ 1048576)
theorem sized_no (len : Nat) (f : Nat → ByteArray) : Sized (.returned (.bool false)) len f := ⟨false, rfl, fun h => by cases h⟩

set_option maxHeartbeats 2000000 in
theorem bytes_any (a0 a : Option Addr) (n0 c0 len c : Nat) (tt m : Int) (f : Nat → ByteArray) (w : World) (h0 : n0 ≤ maxLen) (hk : Strs w a len f) :
    Calls Try.prog 18 #[.slice a0 n0 c0, .int .u8 tt, .int .i64 m, .slice a len c] w fun e w' => Sized e len f ∧ w' = w := by
  obtain ⟨hm, h⟩ := hk
  unfold maxLen at hm h0
  by_cases c1 : 1048576 < n0
  · go_enter Try.func18, Try.ntmps18
    go_wp2
    go_ret
    exact ⟨sized_no len f, rfl⟩
  by_cases c2 : 1048576 < len
  · go_enter Try.func18, Try.ntmps18
    go_wp2
    go_ret
    exact ⟨sized_no len f, rfl⟩
  by_cases c3 : 1048576 < n0 + len
  · go_enter Try.func18, Try.ntmps18
    go_wp2
    go_ret
    exact ⟨sized_no len f, rfl⟩
  go_enter Try.func18, Try.ntmps18
  go_wp2
  go_loop [9, 10] (fun t i => (∃ z, t = .int .i64 z) ∧ ∃ k : Nat, k ≤ len ∧ i = .int .i64 k ∧ Hid (∀ j, j < k → (f j).size ≤ 1048576)) (fun _ i => len - (intOf i).toNat)
  case atStart => exact ⟨⟨_, rfl⟩, 0, Nat.zero_le _, rfl, fun j hj => absurd hj (Nat.not_lt_zero _)⟩
  case round =>
    obtain ⟨⟨z, rfl⟩, k, hk, rfl, hs⟩ := hrel
    by_cases hlt : k < len
    · rcases h with h | ⟨b, off, rfl, hc⟩
      · omega
      have hcell := hc k hlt
      clear hc
      by_cases c4 : 1048576 < (f k).size
      · go_wp2
        go_ret
        exact ⟨sized_no len f, rfl⟩
      · go_wp2
        · go_ret
          exact ⟨sized_no len f, rfl⟩
        · go_round
          case rel => exact ⟨⟨_, rfl⟩, k + 1, by omega, by go_num, fun j hj => by
            by_cases hjk : j = k
            · subst hjk; omega
            · exact hs.out j (by omega)⟩
          case measure => simp [intOf]; omega
    · have hke : k = len := by omega
      subst hke
      go_wp2
      go_ret
      exact ⟨⟨true, rfl, fun _ => hs.out⟩, rfl⟩

/-! ### the plain law -/
/-- the first k texts, as the series lays them -/
def encTo (f : Nat → ByteArray) : Nat → List UInt8
  | 0 => []
  | k + 1 => encTo f k ++ enc (f k)
/-- their bytes -/
def sumTo (f : Nat → ByteArray) : Nat → Nat
  | 0 => 0
  | k + 1 => sumTo f k + (f k).size

theorem enc_length (s : ByteArray) (h : s.size ≤ 1048576) : (enc s).length = (Lib.uvarint s.size).length + s.size ∧ (Lib.uvarint s.size).length ≤ 3 := by
  have h1 := Lib.uvarint_length 2 s.size (by omega)
  have h2 := size_toList s
  unfold enc
  rw [List.length_append]
  omega

theorem encTo_length (f : Nat → ByteArray) (len : Nat) (hs : ∀ i, i < len → (f i).size ≤ 1048576) : ∀ k, k ≤ len → (encTo f k).length ≤ sumTo f k + 3 * k
  | 0, _ => by simp [encTo, sumTo]
  | k + 1, h => by
    have ih := encTo_length f len hs k (by omega)
    have e := enc_length (f k) (hs k (by omega))
    unfold encTo sumTo
    rw [List.length_append]
    omega

theorem sumTo_mono (f : Nat → ByteArray) (k : Nat) : ∀ l, k ≤ l → sumTo f k ≤ sumTo f l
  | 0, h => by rw [Nat.le_zero.1 h]; exact Nat.le_refl _
  | l + 1, h => by
    by_cases e : k = l + 1
    · rw [e]; exact Nat.le_refl _
    · have := sumTo_mono f k l (by omega)
      show sumTo f k ≤ sumTo f l + (f l).size
      omega

/-- the whole series is its first k texts, the next one, and a rest -/
theorem encTo_split (f : Nat → ByteArray) (k : Nat) : ∀ l, k < l → ∃ r, encTo f l = encTo f k ++ (enc (f k) ++ r)
  | 0, h => absurd h (Nat.not_lt_zero _)
  | l + 1, h => by
    by_cases e : k = l
    · subst e
      exact ⟨[], by simp [encTo]⟩
    · obtain ⟨r, hr⟩ := encTo_split f k l (by omega)
      exact ⟨r ++ enc (f l), by show encTo f l ++ enc (f l) = _; rw [hr]; simp⟩

/-- byte number j of a list, as a number -/
def byteAt (l : List UInt8) (j : Nat) : Nat := (l.getD j 0).toNat

/-- WHAT A READER IS TOLD OF A ROW OF BYTES -/
def RowAt (w : World) (a : Option Addr) (n : Nat) (l : List UInt8) : Prop :=
  n = l.length ∧ (n = 0 ∨ ∃ g, a = some ⟨g, 0, none⟩ ∧ ∀ j, j < n → w.cell? ⟨g, j, none⟩ = some (.int .u8 (byteAt l j)))

theorem rowAt_of {w : World} {B : Nat} {a : Option Addr} {n cap : Nat} {l : List UInt8} (h : w.ownsRow B 5 1 (.slice a n cap) n (Lib.byteCells l)) : RowAt w a n l := by
  have hl : n = l.length := by have := h.1; rw [Lib.byteCells_length] at this; omega
  refine ⟨hl, ?_⟩
  rcases h.2 with ⟨_, h0⟩ | ⟨g, cp, cur, hv, _, hg, hn, _, hc, ht⟩
  · exact .inl h0
  · by_cases h0 : n = 0
    · exact .inl h0
    refine .inr ⟨g, by injection hv, fun j hj => ?_⟩
    have hc' : cur.size = cp := by omega
    have e : cur[j]? = some (.int .u8 (byteAt l j)) := by
      have e1 : (cur.toList.take (n * 1))[j]? = (Lib.byteCells l)[j]? := by rw [ht]
      rw [List.getElem?_take_of_lt (by omega), Array.getElem?_toList] at e1
      rw [e1]
      unfold Lib.byteCells byteAt
      rw [List.getElem?_map, List.getD, List.getElem?_eq_getElem (by omega)]
      rfl
    simp [World.cell?, hg, e]

theorem slice_of {w : World} {B : Nat} {v : Value} {n : Nat} {l : List Value} (h : w.ownsRow B 5 1 v n l) : ∃ a cap, v = .slice a n cap := by
  rcases h.2 with ⟨rfl, rfl⟩ | ⟨g, cp, cur, hv, _⟩
  · exact ⟨_, _, rfl⟩
  · exact ⟨_, _, hv⟩

theorem bytes_of {w : World} {B : Nat} {v : Value} {l : List UInt8} (h : w.ownsRow B 5 1 v l.length (Lib.byteCells l)) (hl : l.length ≤ 1099511627776) : Bytes w v l := by
  refine ⟨hl, ?_⟩
  obtain ⟨a, cap, rfl⟩ := slice_of h
  have h2 := rowAt_of h
  rcases h.2 with ⟨hv, h0⟩ | ⟨g, cp, cur, hv, _⟩
  · exact .inl ⟨hv, List.eq_nil_of_length_eq_zero h0⟩
  · refine .inr ⟨⟨g, 0, none⟩, cap, by injection hv with h1; rw [h1], fun j u hj => ?_⟩
    exact h.cells (g := g) (by injection hv with h1; rw [h1]; rfl) j u hj
end Go.Proofs.Qxb6614181a.fnAppend
