import Derived.Test.Qxb6608983aSmall
import Derived.Test.Qxb6608983aPairs
import Derived.Deep.DeepCutAuto
import Derived.Deep.Light
set_option linter.unusedVariables false
set_option linter.unusedSimpArgs false
namespace Go.Proofs.Qxb6608983a
open Go.ChangeShapes Go.WideShapes Go.ChangeAt Go.RowKit
open G (upd upd_same upd_other upd2)

/-- a square of numbers, row by row -/
def flat (n : Nat) (d : Nat → Nat → Int) : Nat → Int := fun x => d (x / n) (x % n)

theorem idx_div {n i k : Nat} (hk : k < n) : (i * n + k) / n = i ∧ (i * n + k) % n = k := by
  constructor
  · rw [Nat.mul_comm, Nat.mul_add_div (by omega), Nat.div_eq_of_lt hk]; rfl
  · rw [Nat.mul_comm, Nat.mul_add_mod]; exact Nat.mod_eq_of_lt hk

theorem idx_lt {n i k : Nat} (hi : i < n) (hk : k < n) : i * n + k < n * n := by
  have : (i + 1) * n ≤ n * n := Nat.mul_le_mul_right n hi
  rw [Nat.add_mul] at this
  omega

theorem flat_at {n : Nat} {d : Nat → Nat → Int} {i k : Nat} (hk : k < n) : flat n d (i * n + k) = d i k := by
  unfold flat
  rw [(idx_div hk).1, (idx_div hk).2]

theorem IRow.get2 {w : World} {g n N i k x : Nat} {d : Nat → Nat → Int} (h : IRow w g N (flat n d)) (hN : Hid (n * n = N)) (hi : i < n) (hk : k < n) (hx : Hid (x = i * n + k)) : w.cell? ⟨g, x, none⟩ = some (.int .i64 (d i k)) := by
  have := h.cell (i := x) (by rw [hx.out, ← hN.out]; exact idx_lt hi hk)
  rw [this, hx.out, flat_at hk]

theorem IRow.set2 {w : World} {g n N i k x : Nat} {d : Nat → Nat → Int} (h : IRow w g N (flat n d)) (hN : Hid (n * n = N)) (hi : i < n) (hk : k < n) (hx : Hid (x = i * n + k)) (y : Int) : IRow (w.setCell ⟨g, x, none⟩ (.int .i64 y)) g N (flat n (upd2 d i k y)) := by
  refine (h.set (by rw [hx.out, ← hN.out]; exact idx_lt hi hk) y).congr fun z hz => ?_
  by_cases e : z = x
  · subst e
    rw [upd_same, hx.out, flat_at hk]
    unfold upd2
    rw [if_pos ⟨rfl, rfl⟩]
  · rw [upd_other _ _ _ e]
    unfold flat upd2
    rw [if_neg]
    rintro ⟨h1, h2⟩
    apply e
    have := Nat.div_add_mod z n
    rw [h1, h2] at this
    rw [hx.out, ← this, Nat.mul_comm]

/-- an index into the square, as the program reckons it -/
theorem idx2 {n N : Nat} (hN : Hid (n * n = N)) (hn : n ≤ 256) {i k : Nat} (hi : i < n) (hk : k < n) :
    ∃ r x : Nat, Hid (x = i * n + k) ∧ IntKind.i64.wrap ((i : Int) * (n : Int)) = (r : Int) ∧ IntKind.i64.wrap ((r : Int) + (k : Int)) = (x : Int) ∧ (x : Int) < (N : Int) := by
  have h1 := idx_lt hi hk
  have h2 : n * n ≤ 256 * 256 := Nat.mul_le_mul hn hn
  have h3 := hN.out
  refine ⟨i * n, i * n + k, rfl, ?_, ?_, by omega⟩
  · rw [wrap_small _ (by have := Int.natCast_nonneg (i * n); rw [Int.natCast_mul] at this; exact this) (by have : ((i * n : Nat) : Int) < 9223372036854775808 := by omega
                                                                                                           rw [Int.natCast_mul] at this; exact this), Int.natCast_mul]
  · rw [wrap_small _ (by omega) (by omega)]; omega

/-- a further index into a row whose start is known -/
theorem idx3 {n N : Nat} (hN : Hid (n * n = N)) (hn : n ≤ 256) {i k r : Nat} (hi : i < n) (hk : k < n) (hr : IntKind.i64.wrap ((i : Int) * (n : Int)) = (r : Int)) :
    ∃ x : Nat, Hid (x = i * n + k) ∧ IntKind.i64.wrap ((r : Int) + (k : Int)) = (x : Int) ∧ (x : Int) < (N : Int) := by
  obtain ⟨r', x, h1, h2, h3, h4⟩ := idx2 hN hn hi hk
  have e : r' = r := Int.ofNat.inj (h2.symm.trans hr)
  subst e
  exact ⟨x, h1, h3, h4⟩

theorem sq_wrap {n N : Nat} (hN : Hid (n * n = N)) (hn : n ≤ 256) : IntKind.i64.wrap ((n : Int) * (n : Int)) = (N : Int) := by
  have h2 : n * n ≤ 256 * 256 := Nat.mul_le_mul hn hn
  have h3 := hN.out
  rw [← Int.natCast_mul, h3, wrap_small _ (by omega) (by omega)]

theorem sq_le {n N : Nat} (hN : Hid (n * n = N)) (hn : n ≤ 256) : N ≤ 65536 := by
  have h2 : n * n ≤ 256 * 256 := Nat.mul_le_mul hn hn
  have h3 := hN.out
  omega

theorem usableX_minus (A B : Nat → Nat) (F C : Nat → Bool) : usableX A B F C (-1) = G.usable A B F C := by
  funext i
  unfold usableX G.usable
  have : ((i : Int) != -1) = true := by simp
  rw [this]
  simp [Bool.and_assoc]

set_option maxHeartbeats 4000000 in
set_option maxRecDepth 100000 in
/-- zzAllPairs: the distances of all pairs -/
theorem pairs_any (a0 a1 a2 a3 : Option Addr) (c0 c1 c2 c3 n m N : Nat) (A B : Nat → Nat) (F C : Nat → Bool) (DD : Nat → Nat → Int) (w : World) (hm : m ≤ 4096) (hn : n ≤ 256) (h1n : 1 ≤ n) (hN : Hid (n * n = N))
    (h0 : Ints w a0 m (fun i => A i)) (h1 : Ints w a1 m (fun i => B i)) (h2 : Bools w a2 n F) (h3 : Bools w a3 m C) (hE : G.Ends n m A B) (hD : G.AllD n m A B (usableX A B F C (-1)) DD) :
    Calls Try.prog 27 #[.int .i64 n, .slice a0 m c0, .slice a1 m c1, .slice a2 n c2, .slice a3 m c3] w fun e w' =>
      e = .returned (.slice (some ⟨w.heap.size, 0, none⟩) N N) ∧ IRow w' w.heap.size N (flat n DD) ∧ Below w.heap.size w w' := by
  have hN2 := sq_le hN hn
  have hmk := make_ints N (by omega)
  have hsq := sq_wrap hN hn
  go_enter Try.func27, Try.ntmps27
  go_wp2
  go_loopw [12] (fun i wr => ∃ k : Nat, k ≤ N ∧ i = .int .i64 k ∧ (∃ f', IRow wr w.heap.size N f' ∧ ∀ j, j < k → f' j = -1) ∧ Below w.heap.size w wr) (fun i _ => N - (intOf i).toNat)
  case atStart => exact ⟨0, Nat.zero_le _, rfl, ⟨_, irow_made w N, fun j hj => absurd hj (Nat.not_lt_zero _)⟩, (Below.refl _ _).alloc (Nat.le_refl _) _⟩
  case round =>
    obtain ⟨k, hk, rfl, ⟨f', hrow, hf'⟩, hbel⟩ := hrel
    by_cases hlt : k < N
    · have e2 := hrow.cell hlt
      have e3 := hrow.free k
      have hi1 : (k : Int) < (N : Int) := by omega
      have hrow2 : Hid _ := hrow.set hlt (-1)
      go_wp2
      go_roundw
      case rel =>
        refine ⟨k + 1, by omega, by go_num, ⟨_, hrow2.out, fun j hj => ?_⟩, hbel.setCell (Nat.le_refl _) _⟩
        by_cases e : j = k
        · subst e; exact upd_same _ _ _
        · rw [upd_other _ _ _ e]; exact hf' j (by omega)
      case measure => simp [intOf]; omega
    · obtain rfl : N = k := by omega
      have hfl : Hid (IRow wr w.heap.size N (flat n (fun _ _ => -1))) := hrow.congr fun i hi => hf' i hi
      clear hrow hf' hmk hk hlt
      go_wp2
      go_loopw [13] (fun i w2 => ∃ p : Nat, p ≤ n ∧ i = .int .i64 p ∧ (∃ d, IRow w2 w.heap.size N (flat n d) ∧ Hid (∀ u v, u < n → v < n → d u v = if u = v ∧ u < p then 0 else -1)) ∧ Below w.heap.size w w2) (fun i _ => n - (intOf i).toNat)
      case atStart => exact ⟨0, Nat.zero_le _, rfl, ⟨_, hfl.out, fun u v _ _ => by rw [if_neg (by omega)]⟩, hbel⟩
      case round =>
        clear hfl hbel
        obtain ⟨p, hp, rfl, ⟨d, hrow, hd⟩, hbel⟩ := hrel
        by_cases hlt : p < n
        · obtain ⟨r, x, hx, w1, w2, hxN⟩ := idx2 hN hn hlt hlt
          have e2 := hrow.get2 hN hlt hlt hx
          have e3 := hrow.free x
          have hi1 : (p : Int) < (n : Int) := by omega
          have hrow2 : Hid _ := hrow.set2 hN hlt hlt hx 0
          have hd2 : Hid (∀ u v, u < n → v < n → upd2 d p p 0 u v = if u = v ∧ u < p + 1 then 0 else -1) := fun u v hu hv => by
            unfold upd2
            by_cases c : u = p ∧ v = p
            · rw [if_pos c, if_pos (by omega)]
            · rw [if_neg c, hd.out u v hu hv]
              by_cases c2 : u = v ∧ u < p
              · rw [if_pos c2, if_pos (by omega)]
              · rw [if_neg c2, if_neg (by omega)]
          go_wp2
          go_roundw
          case rel => exact ⟨p + 1, by omega, by go_num, ⟨_, hrow2.out, hd2⟩, hbel.setCell (Nat.le_refl _) _⟩
          case measure => simp [intOf]; omega
        · obtain rfl : n = p := by omega
          have hl : Hid (G.Laid n A B (usableX A B F C (-1)) DD 0 d) := by
            have v := hd.out
            refine ⟨fun u x hu hx => ?_, fun u x hu hx => ?_, fun u hu => ?_, fun u x hu hx h => ?_, fun j hj => absurd hj (Nat.not_lt_zero _)⟩
            · rw [v u x hu hx]; split <;> omega
            · rw [v u x hu hx]; split <;> omega
            · rw [v u u hu hu, if_pos ⟨rfl, hu⟩]
            · rw [v u x hu hx] at h ⊢
              by_cases c : u = x ∧ u < n
              · obtain ⟨rfl, _⟩ := c
                rw [if_pos ⟨rfl, hu⟩, (hD u hu).src0]; omega
              · rw [if_neg c] at h; omega
          clear hd hp hlt
          go_wp2
          go_loopw [14] (fun i w2 => ∃ p : Nat, p ≤ m ∧ i = .int .i64 p ∧ (∃ d, IRow w2 w.heap.size N (flat n d) ∧ Hid (G.Laid n A B (usableX A B F C (-1)) DD p d)) ∧ Below w.heap.size w w2) (fun i _ => m - (intOf i).toNat)
          case atStart => exact ⟨0, Nat.zero_le _, rfl, ⟨_, hrow, hl⟩, hbel⟩
          case round =>
            clear hl hbel hrow
            obtain ⟨i, hi, rfl, ⟨d, hrow, hl⟩, hbel⟩ := hrel
            by_cases him : i < m
            · have he := hE i him
              go_wp2_with fail
              refine (usable_any a0 a1 a2 a3 c0 c1 c2 c3 n m i A B F C (-1) wr hm (by omega) him (h0.later hbel) (h1.later hbel) (h2.later hbel) (h3.later hbel) he.1 he.2.1).mono ?_
              cases hU : usableX A B F C (-1) i
              · rintro e w' ⟨rfl, hw⟩
                obtain rfl := hw.symm
                have hsk : Hid _ := hl.out.skip hU
                clear hU hw
                go_wp2_with fail
                go_roundw
                case rel => exact ⟨i + 1, by omega, by go_num, ⟨_, hrow, hsk⟩, hbel⟩
                case measure => simp [intOf]; omega
              · rintro e w' ⟨rfl, hw⟩
                obtain rfl := hw.symm
                have hst : Hid _ := hl.out.step hD hE him hU
                clear hU hw hl
                have hb0 := h0
                have hb1 := h1
                rcases hb0 with h | ⟨b0, o0, rfl, hc0⟩
                · omega
                rcases hb1 with h | ⟨b1, o1, rfl, hc1⟩
                · omega
                have nb0 : b0 ≠ w.heap.size := Nat.ne_of_lt (World.block_lt_of_cell? _ _ (hc0 i him))
                have nb1 : b1 ≠ w.heap.size := Nat.ne_of_lt (World.block_lt_of_cell? _ _ (hc1 i him))
                have e0 : wr.cell? ⟨b0, o0 + i, none⟩ = some (.int .i64 (A i)) := cell_later hbel (hc0 i him)
                have e1 : wr.cell? ⟨b1, o1 + i, none⟩ = some (.int .i64 (B i)) := cell_later hbel (hc1 i him)
                clear hc0 hc1
                have hi1 : (i : Int) < (m : Int) := by omega
                generalize hA : A i = u at *
                generalize hB : B i = v at *
                clear hA hB
                obtain ⟨r, x, hx, w1, w2, hxN⟩ := idx2 hN hn he.1 he.2.1
                obtain ⟨r', x', hx', w1', w2', hxN'⟩ := idx2 hN hn he.2.1 he.1
                have e2 := hrow.get2 hN he.1 he.2.1 hx
                have e3 := hrow.free x
                have hrow2 := hrow.set2 hN he.1 he.2.1 hx 1
                have nb0' : w.heap.size ≠ b0 := Ne.symm nb0
                have nb1' : w.heap.size ≠ b1 := Ne.symm nb1
                go_upto_region 14 with fail
                go_region_held3 (fun w' => w'.cell? ⟨b0, o0 + i, none⟩ = some (.int .i64 u) ∧ w'.cell? ⟨b1, o1 + i, none⟩ = some (.int .i64 v)) (go_keep) (fail)
                have e0a : (wr.setCell ⟨w.heap.size, x, none⟩ (.int .i64 1)).drew.cell? ⟨b0, o0 + i, none⟩ = some (.int .i64 u) := (World.cell?_setCell_far _ _ _ _ nb0').trans e0
                have e1a : (wr.setCell ⟨w.heap.size, x, none⟩ (.int .i64 1)).drew.cell? ⟨b1, o1 + i, none⟩ = some (.int .i64 v) := (World.cell?_setCell_far _ _ _ _ nb1').trans e1
                have hbel2 : Below w.heap.size w (wr.setCell ⟨w.heap.size, x, none⟩ (.int .i64 1)).drew := (hbel.setCell (Nat.le_refl _) _).drew
                have hrow3 : IRow (wr.setCell ⟨w.heap.size, x, none⟩ (.int .i64 1)).drew w.heap.size N (flat n (upd2 d u v 1)) := hrow2
                clear hrow hrow2 hbel e0 e1 e2 e3
                generalize (wr.setCell ⟨w.heap.size, x, none⟩ (.int .i64 1)).drew = W2 at *
                have e2 := hrow3.get2 hN he.2.1 he.1 hx'
                have e3 := hrow3.free x'
                have hrow4 := hrow3.set2 hN he.2.1 he.1 hx' 1
                go_upto_region 15 with fail
                go_region_held3 (fun w' => w'.cell? ⟨b0, o0 + i, none⟩ = some (.int .i64 u) ∧ w'.cell? ⟨b1, o1 + i, none⟩ = some (.int .i64 v)) (go_keep) (fail)
                go_wp2_with fail
                go_roundw
                case rel => exact ⟨i + 1, by omega, by go_num, ⟨_, hrow4, hst⟩, (hbel2.setCell (Nat.le_refl _) _).drew⟩
                case measure => simp [intOf]; omega
            · obtain rfl : m = i := by omega
              have hfw : Hid (G.FW n m A B (usableX A B F C (-1)) DD 0 d) := hl.out.fw
              clear hl hi him h0 h1 h2 h3
              go_wp2
              go_loopw [15] (fun i w2 => ∃ p : Nat, p ≤ n ∧ i = .int .i64 p ∧ (∃ d, IRow w2 w.heap.size N (flat n d) ∧ Hid (G.FW n m A B (usableX A B F C (-1)) DD p d)) ∧ Below w.heap.size w w2) (fun i _ => n - (intOf i).toNat)
              case atStart => exact ⟨0, Nat.zero_le _, rfl, ⟨_, hrow, hfw⟩, hbel⟩
              case round =>
                clear hfw hbel hrow
                obtain ⟨k, hk, rfl, ⟨d0, hrow, hfw⟩, hbel⟩ := hrel
                by_cases hkn : k < n
                · have hk0 := hfw.out.diag k hkn
                  have hki : (k : Int) < (n : Int) := by omega
                  replace hk0 : Hid (d0 k k = 0) := hk0
                  go_wp2
                  go_loopw [16] (fun i w2 => ∃ p : Nat, p ≤ n ∧ i = .int .i64 p ∧ (∃ d, IRow w2 w.heap.size N (flat n d) ∧ Hid (G.Part n d0 k p 0 d)) ∧ Below w.heap.size w w2) (fun i _ => n - (intOf i).toNat)
                  case atStart => exact ⟨0, Nat.zero_le _, rfl, ⟨_, hrow, G.Part.start d0 k⟩, hbel⟩
                  case round =>
                    clear hbel hrow
                    obtain ⟨i, hi, rfl, ⟨d, hrow, hpt⟩, hbel⟩ := hrel
                    by_cases hin : i < n
                    · obtain ⟨r, x, hx, w1, w2, hxN⟩ := idx2 hN hn hin hkn
                      have e1 := hrow.get2 hN hin hkn hx
                      rw [hpt.out.col hkn hk0.out hin] at e1
                      have hii : (i : Int) < (n : Int) := by omega
                      rcases Int.lt_or_le (d0 i k) 0 with hneg | hpos
                      · have hskip : Hid _ := hpt.out.skipRow hneg
                        go_wp2
                        go_roundw
                        case rel => exact ⟨i + 1, by omega, by go_num, ⟨_, hrow, hskip⟩, hbel⟩
                        case measure => simp [intOf]; omega
                      · have hb1 := hfw.out.bound hin hkn
                        go_wp2
                        go_loopw [17] (fun i' w2 => ∃ p : Nat, p ≤ n ∧ i' = .int .i64 p ∧ (∃ d, IRow w2 w.heap.size N (flat n d) ∧ Hid (G.Part n d0 k i p d)) ∧ Below w.heap.size w w2) (fun i _ => n - (intOf i).toNat)
                        case atStart => exact ⟨0, Nat.zero_le _, rfl, ⟨_, hrow, hpt⟩, hbel⟩
                        case round =>
                          clear hbel hrow hpt e1
                          obtain ⟨j, hj, rfl, ⟨d, hrow, hpt⟩, hbel⟩ := hrel
                          by_cases hjn : j < n
                          · obtain ⟨r2, x2, hx2, v1, v2, hx2N⟩ := idx2 hN hn hkn hjn
                            obtain ⟨x3, hx3, y2, hx3N⟩ := idx3 hN hn hin hjn w1
                            have hji : (j : Int) < (n : Int) := by omega
                            have e1 := hrow.get2 hN hin hkn hx
                            rw [hpt.out.col hkn hk0.out hin] at e1
                            have e2 := hrow.get2 hN hkn hjn hx2
                            rw [hpt.out.row hkn hk0.out hjn] at e2
                            have e3 := hrow.get2 hN hin hjn hx3
                            rw [hpt.out.at hin hjn] at e3
                            have e4 := hrow.free x3
                            have hb2 := hfw.out.bound hkn hjn
                            rcases Int.lt_or_le (d0 k j) 0 with hneg | hpos2
                            · have hkeep : Hid _ := hpt.out.keep (by unfold G.rel; rw [if_neg (by omega)])
                              go_wp2
                              go_roundw
                              case rel => exact ⟨j + 1, by omega, by go_num, ⟨_, hrow, hkeep⟩, hbel⟩
                              case measure => simp [intOf]; omega
                            · have hwr : IntKind.i64.wrap (d0 i k + d0 k j) = d0 i k + d0 k j := wrap_small _ (by omega) (by omega)
                              have hno : Hid (¬ (d0 i j < 0 ∨ d0 i k + d0 k j < d0 i j) → G.Part n d0 k i (j + 1) d) := fun h => hpt.out.keep (by unfold G.rel; rw [if_neg (fun q => h q.2.2)])
                              go_upto_region 27 with fail
                              go_region_held3 (fun w' => w'.cell? ⟨w.heap.size, x, none⟩ = some (.int .i64 (d0 i k)) ∧ w'.cell? ⟨w.heap.size, x2, none⟩ = some (.int .i64 (d0 k j))) (go_keep) (fail)
                              have hrow5 : IRow wr.drew w.heap.size N (flat n d) := hrow
                              have hbel5 : Below w.heap.size w wr.drew := hbel.drew
                              have e3' : wr.drew.cell? ⟨w.heap.size, x3, none⟩ = some (.int .i64 (d0 i j)) := e3
                              have e4' : wr.drew.frozen? ⟨w.heap.size, x3, none⟩ = false := e4
                              clear hrow hbel e1 e2 e3 e4
                              generalize wr.drew = W2 at *
                              have hset : Hid (d0 i j < 0 ∨ d0 i k + d0 k j < d0 i j → G.Part n d0 k i (j + 1) (upd2 d i j (d0 i k + d0 k j))) :=
                                fun h => hpt.out.set (by unfold G.rel; rw [if_pos ⟨hpos, hpos2, h⟩])
                              have hrow6 : Hid _ := hrow5.set2 hN hin hjn hx3 (d0 i k + d0 k j)
                              have hbel6 : Hid _ := hbel5.setCell (p := ⟨w.heap.size, x3, none⟩) (Nat.le_refl _) (.int .i64 (d0 i k + d0 k j))
                              by_cases g1 : d0 i j < 0
                              · have hp6 : Hid _ := hset.out (.inl g1)
                                have g1' : decide (d0 i j < 0) = true := decide_eq_true g1
                                clear hset hno
                                go_wp2
                                go_roundw
                                case rel => exact ⟨j + 1, by omega, by go_num, ⟨_, hrow6.out, hp6⟩, hbel6.out⟩
                                case measure => simp [intOf]; omega
                              · have g1' : decide (d0 i j < 0) = false := decide_eq_false g1
                                by_cases g2 : d0 i k + d0 k j < d0 i j
                                · have hp6 : Hid _ := hset.out (.inr g2)
                                  have g2' : decide (d0 i k + d0 k j < d0 i j) = true := decide_eq_true g2
                                  clear hset hno
                                  go_wp2
                                  go_roundw
                                  case rel => exact ⟨j + 1, by omega, by go_num, ⟨_, hrow6.out, hp6⟩, hbel6.out⟩
                                  case measure => simp [intOf]; omega
                                · have hp6 : Hid _ := hno.out (by omega)
                                  have g2' : decide (d0 i k + d0 k j < d0 i j) = false := decide_eq_false g2
                                  clear hset hno
                                  go_wp2
                                  go_roundw
                                  case rel => exact ⟨j + 1, by omega, by go_num, ⟨_, hrow5, hp6⟩, hbel5⟩
                                  case measure => simp [intOf]; omega
                          · obtain rfl : n = j := by omega
                            have hnr : Hid _ := hpt.out.newRow
                            go_wp2
                            go_roundw
                            case rel => exact ⟨i + 1, by omega, by go_num, ⟨_, hrow, hnr⟩, hbel⟩
                            case measure => simp [intOf]; omega
                    · obtain rfl : n = i := by omega
                      have hnf : Hid _ := hpt.out.fw hfw.out hD hE hkn
                      go_wp2
                      go_roundw
                      case rel => exact ⟨k + 1, by omega, by go_num, ⟨_, hrow, hnf⟩, hbel⟩
                      case measure => simp [intOf]; omega
                · obtain rfl : n = k := by omega
                  have hend : Hid (IRow wr w.heap.size N (flat n DD)) := hrow.congr fun z hz => by
                    have hz' : z < n * n := by rw [hN.out]; exact hz
                    exact hfw.out.final hD hE (Nat.div_lt_of_lt_mul hz') (Nat.mod_lt _ (by omega))
                  go_wp2
                  go_ret
                  exact ⟨rfl, hend.out, hbel⟩
end Go.Proofs.Qxb6608983a
