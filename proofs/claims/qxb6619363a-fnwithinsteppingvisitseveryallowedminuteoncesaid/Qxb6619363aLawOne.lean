/-
  MY OWN WORK (seat b6619363a). The walk of FnWithinIsNearestAllowedMinute.
-/
import Derived.Test.Qxb6619363aWithin
namespace Go.Proofs.Qxb6619363a
open Go.RowKit

theorem five_cells {w : World} {b : Nat} {c0 c1 c2 c3 c4 : Value} {t : TypeId} {f : Nat × Nat} (h : w.heap[b]? = some (.cells #[c0, c1, c2, c3, c4] t f)) :
    w.cell? ⟨b, 0, none⟩ = some c0 ∧ w.cell? ⟨b, 1, none⟩ = some c1 ∧ w.cell? ⟨b, 2, none⟩ = some c2 ∧ w.cell? ⟨b, 3, none⟩ = some c3 ∧ w.cell? ⟨b, 4, none⟩ = some c4 := by
  refine ⟨?_, ?_, ?_, ?_, ?_⟩ <;> (rw [cell_of_row w b _ _ t f h]; rfl)

theorem ans_none : ans none = .tuple #[.int .i64 0, .int .i64 0, .bool false] := rfl
theorem ans_some (h m : Nat) (hm : m ≤ 59) : ans (some (60 * h + m)) = .tuple #[.int .i64 (h : Int), .int .i64 (m : Int), .bool true] := by
  show Value.tuple #[.int .i64 (((60 * h + m) / 60 : Nat) : Int), .int .i64 (((60 * h + m) % 60 : Nat) : Int), .bool true] = _
  rw [show (60 * h + m) / 60 = h from by omega, show (60 * h + m) % 60 = m from by omega]
theorem split_minute (r : Nat) (hr : r < 1440) : ∃ h m, r = 60 * h + m ∧ h ≤ 23 ∧ m ≤ 59 := ⟨r / 60, r % 60, by omega, by omega, by omega⟩

set_option maxRecDepth 100000 in
set_option maxHeartbeats 4000000 in
theorem one_up (X0 X1 : Nat) (x2 x3 x4 : Int) (ei : Bool) (H0 m0 : Nat) (w : World) (h0 : X0 < 18446744073709551616) (h1 : X1 < 18446744073709551616) (hH : H0 ≤ 23) (hm : m0 ≤ 59) :
    Calls Try.prog 3 #[.agg #[.int .u64 X0, .int .u64 X1, .int .u64 x2, .int .u64 x3, .int .u64 x4], .bool ei, .int .i64 H0, .int .i64 m0, .int .i64 1] w fun e w' => e = .returned (.bool true) ∧ Below w.heap.size w w' := by
  have F := hide (fun (W : World) => zz_up X0 X1 x2 x3 x4 ei H0 m0 W h0 h1 hH hm)
  have G := hide (fun (t : Nat) (W : World) (ht : t ≤ 1439) => allowed_any X0 X1 x2 x3 x4 t W h0 h1 ht)
  clear h0 h1
  have i1 : ¬ (H0 : Int) < 0 := by omega
  have i2 : ¬ 23 < (H0 : Int) := by omega
  have i3 : ¬ (m0 : Int) < 0 := by omega
  have i4 : ¬ 59 < (m0 : Int) := by omega
  go_enter Try.func3, Try.ntmps3
  go_wp2_with fail
  refine (unhide F _).mono ?_
  rintro e w1 ⟨o, ho, rfl, b1⟩
  have B1 : Hid (Below (w.heap.size + 1) (w.alloc (.cells #[.int .u64 X0, .int .u64 X1, .int .u64 x2, .int .u64 x3, .int .u64 x4] 23)) w1) := b1.mono (by simp)
  clear F b1
  cases o with
  | none =>
    have Ho := hide ho
    clear ho
    rw [ans_none]
    go_wp2_with fail
    go_loopw [15] (fun i wr => ∃ k : Nat, k ≤ 1440 ∧ i = .int .i64 k ∧ Below (w.heap.size + 1) (w.alloc (.cells #[.int .u64 X0, .int .u64 X1, .int .u64 x2, .int .u64 x3, .int .u64 x4] 23)) wr) (fun i _ => 1440 - (intOf i).toNat)
    case atStart => exact ⟨0, by omega, rfl, unhide B1⟩
    case round =>
      obtain ⟨k, hk, rfl, hB⟩ := hrel
      by_cases hlt : k < 1440
      · have hbx : wr.heap[w.heap.size]? = some (.cells #[.int .u64 X0, .int .u64 X1, .int .u64 x2, .int .u64 x3, .int .u64 x4] 23 (0, 0)) := by rw [hB.block _ (by omega)]; exact heap_alloc_new w _
        obtain ⟨c0, c1, c2, c3, c4⟩ := five_cells hbx
        have hsz : w.heap.size + 1 ≤ wr.heap.size := by have := hB.size; simpa using this
        have hkI : (k : Int) < 1440 := by omega
        have HB := hide hB
        clear hB hbx
        go_wp2_with fail
        refine (side_up _ _ _).mono ?_
        rintro e w' ⟨rfl, hw⟩
        obtain rfl : wr = w' := hw.symm
        clear hw
        by_cases hc : 60 * (H0 : Int) + (m0 : Int) ≤ (k : Int)
        · rw [decide_eq_true hc]
          go_wp2_with fail
          refine (unhide G k _ (by omega)).mono ?_
          rintro e w2 ⟨rfl, b2⟩
          have B2 : Hid (Below (w.heap.size + 1) (w.alloc (.cells #[.int .u64 X0, .int .u64 X1, .int .u64 x2, .int .u64 x3, .int .u64 x4] 23)) w2) := (unhide HB).trans (b2.mono hsz)
          have hal : al X0 X1 k = false := unhide Ho k (by omega) hlt
          rw [hal]
          clear b2 HB c0 c1 c2 c3 c4 hal
          go_wp2_with fail
          go_roundw
          case rel => exact ⟨k + 1, by omega, by go_num, unhide B2⟩
          case measure => simp [intOf]; omega
        · rw [decide_eq_false hc]
          clear c0 c1 c2 c3 c4
          go_wp2_with fail
          go_roundw
          case rel => exact ⟨k + 1, by omega, by go_num, unhide HB⟩
          case measure => simp [intOf]; omega
      · have hkI : ¬ (k : Int) < 1440 := by omega
        go_wp2_with fail
        go_ret
        exact ⟨rfl, ((Below.refl _ _).alloc (Nat.le_refl _) _).trans (hB.mono (by omega))⟩
  | some r =>
    obtain ⟨hh, mm, rfl, hh1, hm1⟩ := split_minute r ho.2.1
    have Ho := hide ho
    clear ho
    rw [ans_some hh mm hm1]
    have hbx : w1.heap[w.heap.size]? = some (.cells #[.int .u64 X0, .int .u64 X1, .int .u64 x2, .int .u64 x3, .int .u64 x4] 23 (0, 0)) := by rw [(unhide B1).block _ (by omega)]; exact heap_alloc_new w _
    obtain ⟨c0, c1, c2, c3, c4⟩ := five_cells hbx
    have hsz : w.heap.size + 1 ≤ w1.heap.size := by have := (unhide B1).size; simpa using this
    clear hbx
    go_wp2_with fail
    refine (side_up _ _ _).mono ?_
    rintro e w' ⟨rfl, hw⟩
    obtain rfl : w1 = w' := hw.symm
    clear hw
    have hc : 60 * (H0 : Int) + (m0 : Int) ≤ 60 * (hh : Int) + (mm : Int) := by have := unhide Ho; unfold Up at this; omega
    rw [decide_eq_true hc]
    clear hc
    go_wp2_with fail
    have er : 60 * (hh : Int) + (mm : Int) = ((60 * hh + mm : Nat) : Int) := by omega
    have Ga := unhide G (60 * hh + mm) w1 (by omega)
    rw [← er] at Ga
    clear er
    refine Ga.mono ?_
    clear Ga
    rintro e w2 ⟨rfl, b2⟩
    have B2 : Hid (Below (w.heap.size + 1) (w.alloc (.cells #[.int .u64 X0, .int .u64 X1, .int .u64 x2, .int .u64 x3, .int .u64 x4] 23)) w2) := (unhide B1).trans (b2.mono hsz)
    have hal : al X0 X1 (60 * hh + mm) = true := (unhide Ho).2.2.1
    rw [hal]
    clear b2 B1 c0 c1 c2 c3 c4 hal
    go_wp2_with fail
    go_loopw [17] (fun i wr => ∃ k : Nat, k ≤ 1440 ∧ i = .int .i64 k ∧ Below (w.heap.size + 1) (w.alloc (.cells #[.int .u64 X0, .int .u64 X1, .int .u64 x2, .int .u64 x3, .int .u64 x4] 23)) wr) (fun i _ => 1440 - (intOf i).toNat)
    case atStart => exact ⟨0, by omega, rfl, unhide B2⟩
    case round =>
      obtain ⟨k, hk, rfl, hB⟩ := hrel
      by_cases hlt : k < 1440
      · have hbx : wr.heap[w.heap.size]? = some (.cells #[.int .u64 X0, .int .u64 X1, .int .u64 x2, .int .u64 x3, .int .u64 x4] 23 (0, 0)) := by rw [hB.block _ (by omega)]; exact heap_alloc_new w _
        obtain ⟨c0, c1, c2, c3, c4⟩ := five_cells hbx
        have hsz3 : w.heap.size + 1 ≤ wr.heap.size := by have := hB.size; simpa using this
        have hkI : (k : Int) < 1440 := by omega
        have HB := hide hB
        clear hB hbx
        go_wp2_with fail
        refine (before_up _ _ _ _).mono ?_
        rintro e w' ⟨rfl, hw⟩
        obtain rfl : wr = w' := hw.symm
        clear hw
        by_cases hc : 60 * (H0 : Int) + (m0 : Int) ≤ (k : Int) ∧ (k : Int) < 60 * (hh : Int) + (mm : Int)
        · rw [decide_eq_true hc]
          go_wp2_with fail
          refine (unhide G k _ (by omega)).mono ?_
          rintro e w3 ⟨rfl, b3⟩
          have B3 : Hid (Below (w.heap.size + 1) (w.alloc (.cells #[.int .u64 X0, .int .u64 X1, .int .u64 x2, .int .u64 x3, .int .u64 x4] 23)) w3) := (unhide HB).trans (b3.mono hsz3)
          have hal : al X0 X1 k = false := (unhide Ho).2.2.2 k (by omega) (by omega)
          rw [hal]
          clear b3 HB c0 c1 c2 c3 c4 hal
          go_wp2_with fail
          go_roundw
          case rel => exact ⟨k + 1, by omega, by go_num, unhide B3⟩
          case measure => simp [intOf]; omega
        · rw [decide_eq_false hc]
          clear c0 c1 c2 c3 c4
          go_wp2_with fail
          go_roundw
          case rel => exact ⟨k + 1, by omega, by go_num, unhide HB⟩
          case measure => simp [intOf]; omega
      · have hkI : ¬ (k : Int) < 1440 := by omega
        go_wp2_with fail
        go_ret
        exact ⟨rfl, ((Below.refl _ _).alloc (Nat.le_refl _) _).trans (hB.mono (by omega))⟩

set_option maxRecDepth 100000 in
set_option maxHeartbeats 4000000 in
theorem one_dn (X0 X1 : Nat) (x2 x3 x4 : Int) (ei : Bool) (H0 m0 : Nat) (w : World) (h0 : X0 < 18446744073709551616) (h1 : X1 < 18446744073709551616) (hH : H0 ≤ 23) (hm : m0 ≤ 59) :
    Calls Try.prog 3 #[.agg #[.int .u64 X0, .int .u64 X1, .int .u64 x2, .int .u64 x3, .int .u64 x4], .bool ei, .int .i64 H0, .int .i64 m0, .int .i64 (-1)] w fun e w' => e = .returned (.bool true) ∧ Below w.heap.size w w' := by
  have F := hide (fun (W : World) => zz_dn X0 X1 x2 x3 x4 ei H0 m0 W h0 h1 hH hm)
  have G := hide (fun (t : Nat) (W : World) (ht : t ≤ 1439) => allowed_any X0 X1 x2 x3 x4 t W h0 h1 ht)
  clear h0 h1
  have i1 : ¬ (H0 : Int) < 0 := by omega
  have i2 : ¬ 23 < (H0 : Int) := by omega
  have i3 : ¬ (m0 : Int) < 0 := by omega
  have i4 : ¬ 59 < (m0 : Int) := by omega
  go_enter Try.func3, Try.ntmps3
  go_wp2_with fail
  refine (unhide F _).mono ?_
  rintro e w1 ⟨o, ho, rfl, b1⟩
  have B1 : Hid (Below (w.heap.size + 1) (w.alloc (.cells #[.int .u64 X0, .int .u64 X1, .int .u64 x2, .int .u64 x3, .int .u64 x4] 23)) w1) := b1.mono (by simp)
  clear F b1
  cases o with
  | none =>
    have Ho := hide ho
    clear ho
    rw [ans_none]
    go_wp2_with fail
    go_loopw [15] (fun i wr => ∃ k : Nat, k ≤ 1440 ∧ i = .int .i64 k ∧ Below (w.heap.size + 1) (w.alloc (.cells #[.int .u64 X0, .int .u64 X1, .int .u64 x2, .int .u64 x3, .int .u64 x4] 23)) wr) (fun i _ => 1440 - (intOf i).toNat)
    case atStart => exact ⟨0, by omega, rfl, unhide B1⟩
    case round =>
      obtain ⟨k, hk, rfl, hB⟩ := hrel
      by_cases hlt : k < 1440
      · have hbx : wr.heap[w.heap.size]? = some (.cells #[.int .u64 X0, .int .u64 X1, .int .u64 x2, .int .u64 x3, .int .u64 x4] 23 (0, 0)) := by rw [hB.block _ (by omega)]; exact heap_alloc_new w _
        obtain ⟨c0, c1, c2, c3, c4⟩ := five_cells hbx
        have hsz : w.heap.size + 1 ≤ wr.heap.size := by have := hB.size; simpa using this
        have hkI : (k : Int) < 1440 := by omega
        have HB := hide hB
        clear hB hbx
        go_wp2_with fail
        refine (side_dn _ _ _).mono ?_
        rintro e w' ⟨rfl, hw⟩
        obtain rfl : wr = w' := hw.symm
        clear hw
        by_cases hc : (k : Int) ≤ 60 * (H0 : Int) + (m0 : Int)
        · rw [decide_eq_true hc]
          go_wp2_with fail
          refine (unhide G k _ (by omega)).mono ?_
          rintro e w2 ⟨rfl, b2⟩
          have B2 : Hid (Below (w.heap.size + 1) (w.alloc (.cells #[.int .u64 X0, .int .u64 X1, .int .u64 x2, .int .u64 x3, .int .u64 x4] 23)) w2) := (unhide HB).trans (b2.mono hsz)
          have hal : al X0 X1 k = false := unhide Ho k (by omega)
          rw [hal]
          clear b2 HB c0 c1 c2 c3 c4 hal
          go_wp2_with fail
          go_roundw
          case rel => exact ⟨k + 1, by omega, by go_num, unhide B2⟩
          case measure => simp [intOf]; omega
        · rw [decide_eq_false hc]
          clear c0 c1 c2 c3 c4
          go_wp2_with fail
          go_roundw
          case rel => exact ⟨k + 1, by omega, by go_num, unhide HB⟩
          case measure => simp [intOf]; omega
      · have hkI : ¬ (k : Int) < 1440 := by omega
        go_wp2_with fail
        go_ret
        exact ⟨rfl, ((Below.refl _ _).alloc (Nat.le_refl _) _).trans (hB.mono (by omega))⟩
  | some r =>
    obtain ⟨hh, mm, rfl, hh1, hm1⟩ := split_minute r (by have := ho.1; omega)
    have Ho := hide ho
    clear ho
    rw [ans_some hh mm hm1]
    have hbx : w1.heap[w.heap.size]? = some (.cells #[.int .u64 X0, .int .u64 X1, .int .u64 x2, .int .u64 x3, .int .u64 x4] 23 (0, 0)) := by rw [(unhide B1).block _ (by omega)]; exact heap_alloc_new w _
    obtain ⟨c0, c1, c2, c3, c4⟩ := five_cells hbx
    have hsz : w.heap.size + 1 ≤ w1.heap.size := by have := (unhide B1).size; simpa using this
    clear hbx
    go_wp2_with fail
    refine (side_dn _ _ _).mono ?_
    rintro e w' ⟨rfl, hw⟩
    obtain rfl : w1 = w' := hw.symm
    clear hw
    have hc : 60 * (hh : Int) + (mm : Int) ≤ 60 * (H0 : Int) + (m0 : Int) := by have := unhide Ho; unfold Dn at this; omega
    rw [decide_eq_true hc]
    clear hc
    go_wp2_with fail
    have er : 60 * (hh : Int) + (mm : Int) = ((60 * hh + mm : Nat) : Int) := by omega
    have Ga := unhide G (60 * hh + mm) w1 (by omega)
    rw [← er] at Ga
    clear er
    refine Ga.mono ?_
    clear Ga
    rintro e w2 ⟨rfl, b2⟩
    have B2 : Hid (Below (w.heap.size + 1) (w.alloc (.cells #[.int .u64 X0, .int .u64 X1, .int .u64 x2, .int .u64 x3, .int .u64 x4] 23)) w2) := (unhide B1).trans (b2.mono hsz)
    have hal : al X0 X1 (60 * hh + mm) = true := (unhide Ho).2.1
    rw [hal]
    clear b2 B1 c0 c1 c2 c3 c4 hal
    go_wp2_with fail
    go_loopw [17] (fun i wr => ∃ k : Nat, k ≤ 1440 ∧ i = .int .i64 k ∧ Below (w.heap.size + 1) (w.alloc (.cells #[.int .u64 X0, .int .u64 X1, .int .u64 x2, .int .u64 x3, .int .u64 x4] 23)) wr) (fun i _ => 1440 - (intOf i).toNat)
    case atStart => exact ⟨0, by omega, rfl, unhide B2⟩
    case round =>
      obtain ⟨k, hk, rfl, hB⟩ := hrel
      by_cases hlt : k < 1440
      · have hbx : wr.heap[w.heap.size]? = some (.cells #[.int .u64 X0, .int .u64 X1, .int .u64 x2, .int .u64 x3, .int .u64 x4] 23 (0, 0)) := by rw [hB.block _ (by omega)]; exact heap_alloc_new w _
        obtain ⟨c0, c1, c2, c3, c4⟩ := five_cells hbx
        have hsz3 : w.heap.size + 1 ≤ wr.heap.size := by have := hB.size; simpa using this
        have hkI : (k : Int) < 1440 := by omega
        have HB := hide hB
        clear hB hbx
        go_wp2_with fail
        refine (before_dn _ _ _ _).mono ?_
        rintro e w' ⟨rfl, hw⟩
        obtain rfl : wr = w' := hw.symm
        clear hw
        by_cases hc : 60 * (hh : Int) + (mm : Int) < (k : Int) ∧ (k : Int) ≤ 60 * (H0 : Int) + (m0 : Int)
        · rw [decide_eq_true hc]
          go_wp2_with fail
          refine (unhide G k _ (by omega)).mono ?_
          rintro e w3 ⟨rfl, b3⟩
          have B3 : Hid (Below (w.heap.size + 1) (w.alloc (.cells #[.int .u64 X0, .int .u64 X1, .int .u64 x2, .int .u64 x3, .int .u64 x4] 23)) w3) := (unhide HB).trans (b3.mono hsz3)
          have hal : al X0 X1 k = false := (unhide Ho).2.2 k (by omega) (by omega)
          rw [hal]
          clear b3 HB c0 c1 c2 c3 c4 hal
          go_wp2_with fail
          go_roundw
          case rel => exact ⟨k + 1, by omega, by go_num, unhide B3⟩
          case measure => simp [intOf]; omega
        · rw [decide_eq_false hc]
          clear c0 c1 c2 c3 c4
          go_wp2_with fail
          go_roundw
          case rel => exact ⟨k + 1, by omega, by go_num, unhide HB⟩
          case measure => simp [intOf]; omega
      · have hkI : ¬ (k : Int) < 1440 := by omega
        go_wp2_with fail
        go_ret
        exact ⟨rfl, ((Below.refl _ _).alloc (Nat.le_refl _) _).trans (hB.mono (by omega))⟩

end Go.Proofs.Qxb6619363a
