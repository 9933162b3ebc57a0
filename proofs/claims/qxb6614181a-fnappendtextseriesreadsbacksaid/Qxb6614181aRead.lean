import Derived.Test.Qxb6614181aParts
import Derived.Lib.VarintBits
namespace Go.Proofs.Qxb6614181a.fnAppend
open Go.ChangeShapes Go.WideShapes Go.ChangeAt Go.RowKit
open Go.ChangeMaps (open_string shut_string)

set_option maxRecDepth 100000 in
theorem ulen_any (x : Nat) (hx : x < 2097152) (w : World) :
    Calls Try.prog 23 #[.int .u64 x] w fun e w' => e = .returned (.int .i64 (Lib.uvarint x).length) ∧ w' = w := by
  by_cases h1 : x < 128
  · have e : Hid ((Lib.uvarint x).length = 1) := by unfold Hid; rw [Lib.uvarint_small h1]; rfl
    go_enter Try.func23, Try.ntmps23
    go_wp2
    refine wp_loop_rounds 1 ?_
    rw [rounds_succ]
    go_wp2
    go_ret
    rw [e.out]
    exact ⟨rfl, rfl⟩
  by_cases h2 : x < 16384
  · have e : Hid ((Lib.uvarint x).length = 2) := by unfold Hid; rw [Lib.uvarint_big (by omega), Lib.uvarint_small (by omega)]; rfl
    go_enter Try.func23, Try.ntmps23
    go_wp2
    refine wp_loop_rounds 2 ?_
    rw [rounds_succ]
    go_wp2
    rw [rounds_succ]
    go_wp2
    go_ret
    rw [e.out]
    exact ⟨rfl, rfl⟩
  · have e : Hid ((Lib.uvarint x).length = 3) := by unfold Hid; rw [Lib.uvarint_big (by omega), Lib.uvarint_big (by omega), Lib.uvarint_small (by omega)]; rfl
    go_enter Try.func23, Try.ntmps23
    go_wp2
    refine wp_loop_rounds 3 ?_
    rw [rounds_succ]
    go_wp2
    rw [rounds_succ]
    go_wp2
    rw [rounds_succ]
    go_wp2
    go_ret
    rw [e.out]
    exact ⟨rfl, rfl⟩


theorem w64 (a : Int) (h : 0 ≤ a) (h2 : a < 18446744073709551616) : IntKind.u64.wrap a = a := wraps_u64 a h (by omega)
theorem c8 (a : Int) (h : 0 ≤ a) (h2 : a < 256) : IntKind.u64.wrap (bits .and .u8 a 127) = a % 128 := by
  rw [u8_and127 _ h h2, w64 _ (by omega) (by omega)]
theorem or0 (a : Int) (h : 0 ≤ a) (h2 : a < 18446744073709551616) : bits .or .u64 0 a = a := by
  rw [u64_orv0 _ _ (by omega) (by omega) (by omega) (by omega) (by omega)]; omega
theorem r1 (x : Nat) (hx : x < 128) : bits .or .u64 0 (IntKind.u64.wrap (IntKind.u64.wrap (bits .and .u8 (x : Int) 127))) = (x : Int) := by
  rw [c8 _ (by omega) (by omega), w64 _ (by omega) (by omega), u64_orv0 _ _ (by omega) (by omega) (by omega) (by omega) (by omega)]
  omega
theorem r2 (x : Nat) (hx : x < 16384) : bits .or .u64 (bits .or .u64 0 (IntKind.u64.wrap (IntKind.u64.wrap (bits .and .u8 ((x : Int) % 128 + 128) 127)))) (IntKind.u64.wrap (IntKind.u64.wrap (bits .and .u8 ((x : Int) / 128) 127) * 128)) = (x : Int) := by
  rw [c8 ((x : Int) % 128 + 128) (by omega) (by omega), c8 ((x : Int) / 128) (by omega) (by omega), w64 (((x : Int) % 128 + 128) % 128) (by omega) (by omega), or0 _ (by omega) (by omega),
    w64 _ (by omega) (by omega), u64_orv7 _ _ (by omega) (by omega) (by omega) (by omega) (by omega)]
  omega
theorem r3 (x : Nat) (hx : x < 2097152) : bits .or .u64 (bits .or .u64 (bits .or .u64 0 (IntKind.u64.wrap (IntKind.u64.wrap (bits .and .u8 ((x : Int) % 128 + 128) 127)))) (IntKind.u64.wrap (IntKind.u64.wrap (bits .and .u8 ((x : Int) / 128 % 128 + 128) 127) * 128))) (IntKind.u64.wrap (IntKind.u64.wrap (bits .and .u8 ((x : Int) / 16384) 127) * 16384)) = (x : Int) := by
  rw [c8 ((x : Int) % 128 + 128) (by omega) (by omega), c8 ((x : Int) / 128 % 128 + 128) (by omega) (by omega), c8 ((x : Int) / 16384) (by omega) (by omega), w64 (((x : Int) % 128 + 128) % 128) (by omega) (by omega), or0 _ (by omega) (by omega),
    w64 (((x : Int) / 128 % 128 + 128) % 128 * 128) (by omega) (by omega), u64_orv7 (((x : Int) % 128 + 128) % 128) _ (by omega) (by omega) (by omega) (by omega) (by omega),
    w64 _ (by omega) (by omega), u64_orv14 _ _ (by omega) (by omega) (by omega) (by omega) (by omega)]
  omega

theorem ret3 {a b : Int} {v : Value} (h : a = b) : Ending.returned (.tuple #[.int .u64 a, v, .bool true]) = .returned (.tuple #[.int .u64 b, v, .bool true]) := by rw [h]

set_option maxRecDepth 100000 in
theorem read1_any (g n cap p x : Nat) (w : World) (hn : n ≤ 1099511627776) (hp : p < n) (hx : x < 128) (h0 : w.cell? ⟨g, p, none⟩ = some (.int .u8 x)) :
    Calls Try.prog 22 #[.slice (some ⟨g, 0, none⟩) n cap, .int .i64 p] w fun e w' => e = .returned (.tuple #[.int .u64 x, .int .i64 1, .bool true]) ∧ w' = w := by
  go_enter Try.func22, Try.ntmps22
  go_wp2
  refine wp_loop_rounds 1 ?_
  rw [rounds_succ]
  go_wp2
  go_ret3
  exact ⟨ret3 (r1 x hx), rfl⟩

set_option maxRecDepth 100000 in
theorem read2_any (g n cap p x : Nat) (w : World) (hn : n ≤ 1099511627776) (hp : p + 1 < n) (hx : x < 16384) (hx' : 128 ≤ x) (h0 : w.cell? ⟨g, p, none⟩ = some (.int .u8 ((x % 128 + 128 : Nat) : Int))) (h1 : w.cell? ⟨g, p + 1, none⟩ = some (.int .u8 ((x / 128 : Nat) : Int))) :
    Calls Try.prog 22 #[.slice (some ⟨g, 0, none⟩) n cap, .int .i64 p] w fun e w' => e = .returned (.tuple #[.int .u64 x, .int .i64 2, .bool true]) ∧ w' = w := by
  go_enter Try.func22, Try.ntmps22
  go_wp2
  refine wp_loop_rounds 2 ?_
  rw [rounds_succ]
  go_wp2
  rw [rounds_succ]
  go_wp2
  go_ret3
  exact ⟨ret3 (r2 x hx), rfl⟩

set_option maxRecDepth 100000 in
theorem read3_any (g n cap p x : Nat) (w : World) (hn : n ≤ 1099511627776) (hp : p + 2 < n) (hx : x < 2097152) (hx' : 16384 ≤ x) (h0 : w.cell? ⟨g, p, none⟩ = some (.int .u8 ((x % 128 + 128 : Nat) : Int))) (h1 : w.cell? ⟨g, p + 1, none⟩ = some (.int .u8 ((x / 128 % 128 + 128 : Nat) : Int))) (h2 : w.cell? ⟨g, p + 2, none⟩ = some (.int .u8 ((x / 16384 : Nat) : Int))) :
    Calls Try.prog 22 #[.slice (some ⟨g, 0, none⟩) n cap, .int .i64 p] w fun e w' => e = .returned (.tuple #[.int .u64 x, .int .i64 3, .bool true]) ∧ w' = w := by
  go_enter Try.func22, Try.ntmps22
  go_wp2
  refine wp_loop_rounds 3 ?_
  rw [rounds_succ]
  go_wp2
  rw [rounds_succ]
  go_wp2
  rw [rounds_succ]
  go_wp2
  go_ret3
  exact ⟨ret3 (r3 x hx), rfl⟩

/-- zzReadUvarint at a place where x's varint lies -/
theorem read_any (g n cap p x : Nat) (w : World) (hn : n ≤ 1099511627776) (hx : x < 2097152) (hp : p + (Lib.uvarint x).length ≤ n) (hc : ∀ j u, (Lib.byteCells (Lib.uvarint x))[j]? = some u → w.cell? ⟨g, p + j, none⟩ = some u) :
    Calls Try.prog 22 #[.slice (some ⟨g, 0, none⟩) n cap, .int .i64 p] w fun e w' => e = .returned (.tuple #[.int .u64 x, .int .i64 (Lib.uvarint x).length, .bool true]) ∧ w' = w := by
  by_cases h1 : x < 128
  · rw [Lib.uvarint_small h1] at hp hc ⊢
    refine read1_any g n cap p x w hn (by simp at hp; omega) h1 ?_
    have h := hc 0 (.int .u8 x) (by simp [Lib.byteCells]; omega)
    simpa using h
  by_cases h2 : x < 16384
  · rw [Lib.uvarint_big (by omega), Lib.uvarint_small (by omega)] at hp hc ⊢
    refine read2_any g n cap p x w hn (by simp at hp; omega) h2 (by omega) ?_ ?_
    · have h := hc 0 (.int .u8 ((x % 128 + 128 : Nat) : Int)) (by simp [Lib.byteCells]; omega)
      simpa using h
    · have h := hc 1 (.int .u8 ((x / 128 : Nat) : Int)) (by simp [Lib.byteCells]; omega)
      simpa using h
  · rw [Lib.uvarint_big (by omega), Lib.uvarint_big (by omega), Lib.uvarint_small (by omega)] at hp hc ⊢
    refine read3_any g n cap p x w hn (by simp at hp; omega) hx (by omega) ?_ ?_ ?_
    · have h := hc 0 (.int .u8 ((x % 128 + 128 : Nat) : Int)) (by simp [Lib.byteCells]; omega)
      simpa using h
    · have h := hc 1 (.int .u8 ((x / 128 % 128 + 128 : Nat) : Int)) (by simp [Lib.byteCells]; omega)
      simpa using h
    · have h := hc 2 (.int .u8 ((x / 16384 : Nat) : Int)) (by simp [Lib.byteCells]; omega)
      simpa using h
end Go.Proofs.Qxb6614181a.fnAppend
