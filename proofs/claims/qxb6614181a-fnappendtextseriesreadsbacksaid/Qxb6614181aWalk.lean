import Derived.Test.Qxb6614181aPlain
import Derived.WalkSmall
namespace Go.Proofs.Qxb6614181a.fnAppend
open Go.ChangeShapes Go.WideShapes Go.ChangeAt Go.RowKit
open Go.ChangeMaps (open_string shut_string)

theorem byteAt_left (l r : List UInt8) (p : Nat) (h : p < l.length) : byteAt (l ++ r) p = byteAt l p := by
  unfold byteAt
  rw [List.getD, List.getD, List.getElem?_append_left h]

theorem byteAt_mid (l m r : List UInt8) (q : Nat) (h : q < m.length) : byteAt (l ++ (m ++ r)) (l.length + q) = byteAt m q := by
  unfold byteAt
  rw [List.getD, List.getD, List.getElem?_append_right (by omega), Nat.add_sub_cancel_left, List.getElem?_append_left h]

/-- WHERE TEXT NUMBER i LIES IN THE SERIES: its varint at P, its bytes behind it. -/
theorem at_text (bl : List UInt8) (f : Nat → ByteArray) (i L : Nat) (h : i < L) :
    bl.length + (encTo f i).length + (Lib.uvarint (f i).size).length + (f i).size ≤ bl.length + (encTo f L).length ∧
    (∀ q, q < (Lib.uvarint (f i).size).length → byteAt (bl ++ encTo f L) (bl.length + (encTo f i).length + q) = byteAt (Lib.uvarint (f i).size) q) ∧
    (∀ q, q < (f i).size → byteAt (bl ++ encTo f L) (bl.length + (encTo f i).length + (Lib.uvarint (f i).size).length + q) = byteAt (f i).data.toList q) := by
  obtain ⟨r, hr⟩ := encTo_split f i L h
  have hs := size_toList (f i)
  refine ⟨?_, fun q hq => ?_, fun q hq => ?_⟩
  · rw [hr]
    unfold enc
    simp only [List.length_append]
    omega
  · have e : bl ++ encTo f L = (bl ++ encTo f i) ++ (Lib.uvarint (f i).size ++ ((f i).data.toList ++ r)) := by rw [hr]; unfold enc; simp
    rw [e, ← List.length_append]
    exact byteAt_mid _ _ _ q hq
  · have e : bl ++ encTo f L = ((bl ++ encTo f i) ++ Lib.uvarint (f i).size) ++ ((f i).data.toList ++ r) := by rw [hr]; unfold enc; simp
    rw [e, ← List.length_append, ← List.length_append]
    exact byteAt_mid _ _ _ q (by omega)

theorem byteAt_get (t : ByteArray) (q : Nat) (h : q < t.size) : byteAt t.data.toList q = (t[q]).toNat := by
  unfold byteAt
  rw [List.getD, List.getElem?_eq_getElem (by simpa using h)]
  rfl

theorem cells_at (l : List UInt8) (j : Nat) (u : Value) (h : (Lib.byteCells l)[j]? = some u) : j < l.length ∧ u = .int .u8 (byteAt l j) := by
  unfold Lib.byteCells at h
  rw [List.getElem?_map] at h
  by_cases hj : j < l.length
  · rw [List.getElem?_eq_getElem hj] at h
    refine ⟨hj, ?_⟩
    unfold byteAt
    rw [List.getD, List.getElem?_eq_getElem hj]
    simpa using h.symm
  · rw [List.getElem?_eq_none (by omega)] at h
    cases h

theorem RowAt.later {w w' : World} {a : Option Addr} {n : Nat} {l : List UInt8} (h : RowAt w a n l) (hb : Below w.heap.size w w') : RowAt w' a n l := by
  refine ⟨h.1, ?_⟩
  rcases h.2 with h | ⟨g, ha, hc⟩
  · exact .inl h
  · exact .inr ⟨g, ha, fun j hj => cell_later hb (hc j hj)⟩

set_option maxHeartbeats 4000000 in
set_option maxRecDepth 100000 in
theorem walk5 (a0 a : Option Addr) (c0 len c : Nat) (tt m : Int) (bl : List UInt8) (f : Nat → ByteArray) (w : World) (h0 : bl.length ≤ maxLen) (hb : bl.length ≤ 1099511627776 → Bytes w (.slice a0 bl.length c0) bl) (hk : Strs w a len f) :
    Calls Try.prog 5 #[.slice a0 bl.length c0, .int .u8 tt, .int .i64 m, .slice a len c] w fun e w' => e = .returned (.bool true) ∧ Below w.heap.size w w' := by
  have hm := hk.1
  have h0' := h0
  unfold maxLen at hm h0'
  go_enter Try.func5, Try.ntmps5
  go_wp2_with fail
  refine (bytes_any _ _ _ _ _ _ _ _ _ _ h0 hk).mono ?_
  rintro e w' ⟨⟨x, rfl, hx⟩, hw⟩
  obtain rfl := hw.symm
  cases x
  · go_wp2_with fail
    go_ret
    exact ⟨rfl, Below.refl _ _⟩
  have hsz : Hid (∀ i, i < len → (f i).size ≤ 1048576) := hx rfl
  clear hx
  by_cases c1 : 262144 < bl.length
  · go_wp2_with fail
    go_ret
    exact ⟨rfl, Below.refl _ _⟩
  by_cases c2 : 4096 < len
  · go_wp2_with fail
    go_ret
    exact ⟨rfl, Below.refl _ _⟩
  have hB0 : Hid _ := hb (by omega)
  clear hb
  go_wp2_with fail
  go_loop [9, 10] (fun t i => ∃ k : Nat, k ≤ len ∧ i = .int .i64 k ∧ t = .int .i64 (sumTo f k) ∧ sumTo f k ≤ 262144) (fun _ i => len - (intOf i).toNat)
  case atStart => exact ⟨0, Nat.zero_le _, rfl, rfl, Nat.zero_le _⟩
  case round =>
    obtain ⟨k, hkl, rfl, rfl, hsum⟩ := hrel
    by_cases hlt : k < len
    · rcases hk.2 with h | ⟨b, off, rfl, hc⟩
      · omega
      have hcell := hc k hlt
      have hfk := hsz.out k hlt
      have es : Hid (sumTo f (k + 1) = sumTo f k + (f k).size) := rfl
      clear hc
      by_cases c3 : 262144 < sumTo f k + (f k).size
      · go_wp2_with fail
        go_ret
        exact ⟨rfl, Below.refl _ _⟩
      · go_wp2_with fail
        go_round
        case rel => exact ⟨k + 1, by omega, by go_num, by rw [es.out]; go_num, by rw [es.out]; omega⟩
        case measure => simp [intOf]; omega
    · obtain rfl : k = len := by omega
      go_wp2_with fail
      refine (clone_any _ _ _ hB0.out).mono ?_
      rintro e w1 ⟨v1, rfl, hown1, hb1⟩
      obtain ⟨a1, cap1, hv1⟩ := slice_of hown1
      rw [hv1] at hown1 ⊢
      clear hv1
      have hB1 : Hid _ := bytes_of hown1 (by omega)
      have hown1' : Hid _ := hown1
      clear hown1
      go_wp2_with fail
      refine (clone_any _ _ _ hB1.out).mono ?_
      rintro e w2 ⟨v2, rfl, hown2, hb2⟩
      obtain ⟨a2, cap2, hv2⟩ := slice_of hown2
      rw [hv2] at hown2 ⊢
      clear hv2
      have hlen := encTo_length f k hsz.out
      have hmono := fun j (h : j ≤ k) => sumTo_mono f j k h
      have hw12 := hb1.size
      go_wp2_with fail
      go_loopw [11, 12] (fun v i wr => ∃ j : Nat, j ≤ k ∧ i = .int .i64 j ∧ ∃ a' cap', v = .slice a' (bl.length + (encTo f j).length) cap' ∧ wr.ownsRow w1.heap.size 5 1 (.slice a' (bl.length + (encTo f j).length) cap') (bl.length + (encTo f j).length) (Lib.byteCells (bl ++ encTo f j)) ∧ Below w1.heap.size w1 wr) (fun _ i _ => k - (intOf i).toNat)
      case atStart => exact ⟨0, Nat.zero_le _, rfl, a2, cap2, rfl, by simpa [encTo] using hown2, hb2⟩
      case round =>
        obtain ⟨j, hj, rfl, a3, cap3, rfl, hown3, hb3⟩ := hrel
        by_cases hlt : j < k
        · rcases hk.2 with h | ⟨b, off, rfl, hc⟩
          · omega
          have hcell := cell_later hb3 (cell_later hb1 (hc j hlt))
          have hfj := hsz.out j hlt
          have hl3 := hlen j (by omega)
          have hm3 := hmono j (by omega)
          clear hc hlen hmono hown2
          go_wp2_with fail
          refine (newValue_any _ _ _ _).mono ?_
          rintro e w4 ⟨rfl, o, rfl⟩
          go_wp2_with fail
          refine (appendText_any w1.heap.size _ _ _ _ _ _ _ (hown3.alloc _) (by have := hb3.size; simp; omega) hfj (by omega)).mono ?_
          rintro e w5 ⟨v5, rfl, hown5, hb5⟩
          obtain ⟨a5, cap5, hv5⟩ := slice_of hown5
          rw [hv5] at hown5 ⊢
          clear hv5
          go_wp2_with fail
          go_roundw
          case rel =>
            have e1 : (encTo f (j + 1)).length = (encTo f j).length + (enc (f j)).length := List.length_append
            have e2 : bl ++ encTo f (j + 1) = (bl ++ encTo f j) ++ enc (f j) := (List.append_assoc _ _ _).symm
            refine ⟨j + 1, by omega, by go_num, a5, cap5, ?_, ?_, (hb3.alloc (by have := hb3.size; omega) _).trans hb5⟩
            · rw [e1, ← Nat.add_assoc]
            · rw [e1, e2, ← Nat.add_assoc]; exact hown5
          case measure => simp [intOf]; omega
        · obtain rfl : j = k := by omega
          have hR1 : Hid (RowAt wr a1 bl.length bl) := RowAt.later (rowAt_of hown1'.out) hb3
          have hR3 : Hid (RowAt wr a3 (bl.length + (encTo f j).length) (bl ++ encTo f j)) := rowAt_of hown3
          have hK : Strs wr a j f := (hk.later hb1).later hb3
          have hBel : Hid (Below w.heap.size w wr) := hb1.trans (hb3.mono hw12)
          have hl3 := hlen j (by omega)
          clear hlen hmono hown2 hown3 hb3 hb2 hb1 hown1' hB1 hB0
          go_wp2_with fail
          go_loopw [13] (fun i wr' => ∃ p : Nat, p ≤ bl.length ∧ i = .int .i64 p ∧ ∃ nd, wr' = wr.drewN nd) (fun i _ => bl.length - (intOf i).toNat)
          case atStart => exact ⟨0, Nat.zero_le _, rfl, 0, rfl⟩
          case round =>
            obtain ⟨p, hp, rfl, nd, rfl⟩ := hrel
            by_cases hlt : p < bl.length
            · rcases hR1.out.2 with h | ⟨g1, rfl, hc1⟩
              · omega
              rcases hR3.out.2 with h | ⟨g3, rfl, hc3⟩
              · omega
              have e1 := hc1 p hlt
              have e3 := hc3 p (by omega)
              rw [byteAt_left bl (encTo f j) p hlt] at e3
              have hi1 : (p : Int) < (bl.length : Int) := by omega
              have hi3 : (p : Int) < (bl.length : Int) + ((encTo f j).length : Int) := by omega
              clear hc1 hc3
              go_wp2_with fail
              go_quiet (fail)
              go_wp2_with fail
              go_roundw
              case rel => exact ⟨p + 1, by omega, by go_num, _, rfl⟩
              case measure => simp [intOf]; omega
            · go_wp2_with fail
              go_loopw [14, 15] (fun ps i wr' => ∃ q P : Nat, q ≤ j ∧ i = .int .i64 q ∧ ps = .int .i64 P ∧ Hid (bl.length + (encTo f q).length = P) ∧ ∃ nd, wr' = wr.drewN nd) (fun _ i _ => j - (intOf i).toNat)
              case atStart => exact ⟨0, bl.length, Nat.zero_le _, rfl, rfl, rfl, _, rfl⟩
              case round =>
                obtain ⟨q, P, hq, rfl, rfl, hP, nd', rfl⟩ := hrel
                by_cases hlt : q < j
                · rcases hK.2 with h | ⟨b, off, rfl, hc⟩
                  · omega
                  have hcell := hc q hlt
                  have hfq := hsz.out q hlt
                  obtain ⟨t1, t2, t3⟩ := at_text bl f q j hlt
                  rw [hP.out] at t1 t2 t3
                  have hu := (enc_length (f q) hfq).2
                  have hstep : Hid (bl.length + (encTo f (q + 1)).length = P + (Lib.uvarint (f q).size).length + (f q).size) := by
                    have e1 : (encTo f (q + 1)).length = (encTo f q).length + (enc (f q)).length := List.length_append
                    unfold Hid
                    rw [e1, (enc_length (f q) hfq).1, ← hP.out]
                    omega
                  have hup := Lib.uvarint_pos (f q).size
                  rcases hR3.out.2 with h | ⟨g3, rfl, hc3⟩
                  · omega
                  have hrd : Hid _ := fun nd => read_any g3 (bl.length + (encTo f j).length) cap3 P (f q).size (wr.drewN nd) (by omega) (by omega) (by omega) (fun jj u hju => by
                    obtain ⟨h1, rfl⟩ := cells_at _ _ _ hju
                    have := hc3 (P + jj) (by omega)
                    rw [t2 jj h1] at this
                    exact this)
                  obtain ⟨U, hU⟩ : ∃ U, Hid ((Lib.uvarint (f q).size).length = U) := ⟨_, rfl⟩
                  have hul : Hid _ := fun w' => ulen_any (f q).size (by omega) w'
                  rw [hU.out] at hrd hul t1 t3 hu hup hstep
                  have hcs : Hid (∀ y, y < (f q).size → wr.cell? ⟨g3, P + U + y, none⟩ = some (.int .u8 (byteAt (f q).data.toList y))) := fun y hy => by
                    have := hc3 (P + U + y) (by omega)
                    rw [t3 y hy] at this
                    exact this
                  clear hc hc3 t2 t3
                  go_wp2_with fail
                  refine (hrd.out _).mono ?_
                  rintro e w' ⟨rfl, hw⟩
                  obtain rfl := hw.symm
                  go_wp2_with fail
                  refine (hul.out _).mono ?_
                  rintro e w' ⟨rfl, hw⟩
                  obtain rfl := hw.symm
                  go_wp2_with fail
                  go_loopw [20] (fun y wr' => ∃ z : Nat, z ≤ (f q).size ∧ y = .int .i64 z ∧ ∃ nd, wr' = wr.drewN nd) (fun y _ => (f q).size - (intOf y).toNat)
                  case atStart => exact ⟨0, Nat.zero_le _, rfl, _, rfl⟩
                  case round =>
                    obtain ⟨z, hz, rfl, nd2, rfl⟩ := hrel
                    by_cases hlz : z < (f q).size
                    · have e3 := hcs.out z hlz
                      rw [byteAt_get (f q) z hlz] at e3
                      have hi1 : (z : Int) < ((f q).size : Int) := by omega
                      have hi3 : (P : Int) + (U : Int) + (z : Int) < (bl.length : Int) + ((encTo f j).length : Int) := by omega
                      go_wp2_with fail
                      go_quiet (fail)
                      go_wp2_with fail
                      go_roundw
                      case rel => exact ⟨z + 1, by omega, by go_num, _, rfl⟩
                      case measure => simp [intOf]; omega
                    · go_wp2_with fail
                      go_roundw
                      case rel => exact ⟨q + 1, P + U + (f q).size, by omega, by go_num, by go_num, hstep.out, _, rfl⟩
                      case measure => simp [intOf]; omega
                · obtain rfl : q = j := by omega
                  have hfin : ((P : Int) == (bl.length : Int) + ((encTo f q).length : Int)) = true := by rw [← hP.out]; simp
                  go_wp2_with fail
                  go_ret
                  exact ⟨rfl, below_drewN hBel.out _⟩
end Go.Proofs.Qxb6614181a.fnAppend
