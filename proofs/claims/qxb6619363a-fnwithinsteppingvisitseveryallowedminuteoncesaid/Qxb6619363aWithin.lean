/-
  MY OWN WORK (seat b6619363a). (Rule).within, upward and downward.
-/
import Derived.Test.Qxb6619363aLeaf
namespace Go.Proofs.Qxb6619363a
open Go.RowKit

/-- What within hands back. -/
def ans : Option Nat → Value
  | some r => .tuple #[.int .i64 (r / 60 : Nat), .int .i64 (r % 60 : Nat), .bool true]
  | none => .tuple #[.int .i64 0, .int .i64 0, .bool false]
def Ans (R : Option Nat → Prop) (w : World) (e : Ending) (w' : World) : Prop := ∃ o, R o ∧ e = .returned (ans o) ∧ Below w.heap.size w w'

theorem rule_cells {w : World} {b : Nat} {c0 c1 c2 c3 c4 c5 : Value} {t : TypeId} {f : Nat × Nat} (h : w.heap[b]? = some (.cells #[c0, c1, c2, c3, c4, c5] t f)) :
    w.cell? ⟨b, 0, none⟩ = some c0 ∧ w.cell? ⟨b, 1, none⟩ = some c1 ∧ w.cell? ⟨b, 2, none⟩ = some c2 ∧ w.cell? ⟨b, 3, none⟩ = some c3 ∧ w.cell? ⟨b, 4, none⟩ = some c4 ∧ w.cell? ⟨b, 5, none⟩ = some c5 := by
  refine ⟨?_, ?_, ?_, ?_, ?_, ?_⟩ <;> (rw [cell_of_row w b _ _ t f h]; rfl)

theorem up_skip {Xm Xh s H : Nat} (hno : ∀ t, s ≤ t → t < 60 * H → al Xm Xh t = false) (hb : bt Xh H = false) : ∀ t, s ≤ t → t < 60 * (H + 1) → al Xm Xh t = false := by
  intro t h1 h2
  by_cases h : t < 60 * H
  · exact hno t h1 h
  · exact al_no_hour Xm Xh H t hb (by omega) h2
theorem up_min {Xm Xh s H M : Nat} (hno : ∀ t, s ≤ t → t < 60 * H + M → al Xm Xh t = false) (hM : M < 60) (hb : bt Xm M = false) : ∀ t, s ≤ t → t < 60 * H + M + 1 → al Xm Xh t = false := by
  intro t h1 h2
  by_cases h : t < 60 * H + M
  · exact hno t h1 h
  · rw [show t = 60 * H + M from by omega, al_at _ _ _ _ hM, hb]; simp
theorem ret_ans {r h m : Nat} (hh : h = r / 60) (hm : m = r % 60) : Ending.returned (.tuple #[.int .i64 (h : Int), .int .i64 (m : Int), .bool true]) = .returned (ans (some r)) := by
  subst hh; subst hm; rfl

set_option maxRecDepth 100000 in
set_option maxHeartbeats 2000000 in
theorem within_up (X0 X1 : Nat) (x2 x3 x4 : Int) (ei : Bool) (H0 m0 : Nat) (w : World) (h0 : X0 < 18446744073709551616) (h1 : X1 < 18446744073709551616) (hH : H0 ≤ 23) (hm : m0 ≤ 59) :
    Calls Try.prog 10 #[.agg #[.int .u64 X0, .int .u64 X1, .int .u64 x2, .int .u64 x3, .int .u64 x4, .bool ei], .int .i64 H0, .int .i64 m0, .int .i64 1] w (Ans (Up (al X0 X1) (60 * H0 + m0)) w) := by
  have F1 := hide (fun (v : Nat) (W : World) (hv : v ≤ 59) => has1 X0 X1 x2 x3 x4 ei v W h1 hv)
  have F0 := hide (fun (v : Nat) (W : World) (hv : v ≤ 59) => has0 X0 X1 x2 x3 x4 ei v W h0 hv)
  clear h0 h1
  go_enter Try.func10, Try.ntmps10
  go_wp2
  go_loopw [11] (fun h wr => ∃ H : Nat, H0 ≤ H ∧ H ≤ 24 ∧ h = .int .i64 H ∧ (∀ t, 60 * H0 + m0 ≤ t → t < 60 * H → al X0 X1 t = false) ∧ Below (w.heap.size + 1) (w.alloc (.cells #[.int .u64 X0, .int .u64 X1, .int .u64 x2, .int .u64 x3, .int .u64 x4, .bool ei] 33)) wr) (fun h _ => 24 - (intOf h).toNat)
  case atStart => exact ⟨H0, Nat.le_refl _, by omega, rfl, fun t h1 h2 => by omega, Below.refl _ _⟩
  case round =>
    obtain ⟨H, hH0, hH24, rfl, hno, hB⟩ := hrel
    by_cases hlt : H ≤ 23
    · have hbx : wr.heap[w.heap.size]? = some (.cells #[.int .u64 X0, .int .u64 X1, .int .u64 x2, .int .u64 x3, .int .u64 x4, .bool ei] 33 (0, 0)) := by rw [hB.block _ (by omega)]; exact heap_alloc_new w _
      obtain ⟨c0, c1, c2, c3, c4, c5⟩ := rule_cells hbx
      have hsz : w.heap.size + 1 ≤ wr.heap.size := by have := hB.size; simpa using this
      have hge : (0 : Int) ≤ (H : Int) := by omega
      have hle : (H : Int) ≤ 23 := by omega
      have Hno := hide hno
      have HB := hide hB
      have Hbx := hide hbx
      clear hno hB hbx
      go_wp2_with fail
      refine (unhide F1 H _ (by omega)).mono ?_
      rintro e w1 ⟨rfl, b1⟩
      have B1 : Hid (Below (w.heap.size + 1) (w.alloc (.cells #[.int .u64 X0, .int .u64 X1, .int .u64 x2, .int .u64 x3, .int .u64 x4, .bool ei] 33)) w1) := (unhide HB).trans (b1.mono hsz)
      clear b1 HB c0 c1 c2 c3 c4 c5
      cases hb : bt X1 H
      · have Hb := hide hb
        clear hb
        go_wp2_with fail
        go_roundw
        case rel => exact ⟨H + 1, by omega, by omega, by go_num, fun t t1 t2 => up_skip (unhide Hno) (unhide Hb) t t1 t2, unhide B1⟩
        case measure => simp [intOf]; omega
      · have Hb := hide hb
        clear hb
        rcases (show (H = H0) ∨ (H0 < H) from by omega) with hHH | hHH
        · subst hHH
          go_wp2_with fail
          go_loopw [12] (fun m wr => ∃ M : Nat, M ≤ 60 ∧ m = .int .i64 M ∧ 60 * H + m0 ≤ 60 * H + M ∧ (∀ t, 60 * H + m0 ≤ t → t < 60 * H + M → al X0 X1 t = false) ∧ Below (w.heap.size + 1) (w.alloc (.cells #[.int .u64 X0, .int .u64 X1, .int .u64 x2, .int .u64 x3, .int .u64 x4, .bool ei] 33)) wr) (fun m _ => 60 - (intOf m).toNat)
          case atStart => exact ⟨m0, by omega, rfl, by omega, fun t t1 t2 => by first | omega | exact unhide Hno t t1 (by omega), unhide B1⟩
          case round =>
            obtain ⟨M, hM, rfl, hs, hno, hB⟩ := hrel
            by_cases hltm : M ≤ 59
            · have hbx : wr.heap[w.heap.size]? = some (.cells #[.int .u64 X0, .int .u64 X1, .int .u64 x2, .int .u64 x3, .int .u64 x4, .bool ei] 33 (0, 0)) := by rw [hB.block _ (by omega)]; exact heap_alloc_new w _
              obtain ⟨c0, c1, c2, c3, c4, c5⟩ := rule_cells hbx
              have hsz2 : w.heap.size + 1 ≤ wr.heap.size := by have := hB.size; simpa using this
              have hgem : (0 : Int) ≤ (M : Int) := by omega
              have hlem : (M : Int) ≤ 59 := by omega
              have Hno2 := hide hno
              have HB2 := hide hB
              clear hno hB hbx
              go_wp2_with fail
              refine (unhide F0 M _ (by omega)).mono ?_
              rintro e w2 ⟨rfl, b2⟩
              have B2 : Hid (Below (w.heap.size + 1) (w.alloc (.cells #[.int .u64 X0, .int .u64 X1, .int .u64 x2, .int .u64 x3, .int .u64 x4, .bool ei] 33)) w2) := (unhide HB2).trans (b2.mono hsz2)
              clear b2 HB2 c0 c1 c2 c3 c4 c5
              cases hbm : bt X0 M
              · have Hbm := hide hbm
                clear hbm
                go_wp2_with fail
                go_roundw
                case rel => exact ⟨M + 1, by omega, by go_num, by omega, fun t t1 t2 => up_min (unhide Hno2) (by omega) (unhide Hbm) t t1 (by omega), unhide B2⟩
                case measure => simp [intOf]; omega
              · have Hbm := hide hbm
                clear hbm
                go_wp2_with fail
                go_ret3
                refine ⟨some (60 * H + M), ⟨hs, by omega, ?_, unhide Hno2⟩, ?_, ((Below.refl _ _).alloc (Nat.le_refl _) _).trans ((unhide B2).mono (by omega))⟩
                · rw [al_at _ _ _ _ (by omega), unhide Hb, unhide Hbm]; rfl
                · exact ret_ans (by omega) (by omega)
            · have hlem : ¬ (M : Int) ≤ 59 := by omega
              have Hno2 := hide hno
              have HB2 := hide hB
              clear hno hB
              go_wp2_with fail
              go_roundw
              case rel => exact ⟨H + 1, by omega, by omega, by go_num, fun t t1 t2 => unhide Hno2 t t1 (by omega), unhide HB2⟩
              case measure => simp [intOf]; omega
        · have hne : ((H : Int) != (H0 : Int)) = true := by rw [bne_iff_ne]; omega
          go_wp2_with fail
          go_loopw [12] (fun m wr => ∃ M : Nat, M ≤ 60 ∧ m = .int .i64 M ∧ 60 * H0 + m0 ≤ 60 * H + M ∧ (∀ t, 60 * H0 + m0 ≤ t → t < 60 * H + M → al X0 X1 t = false) ∧ Below (w.heap.size + 1) (w.alloc (.cells #[.int .u64 X0, .int .u64 X1, .int .u64 x2, .int .u64 x3, .int .u64 x4, .bool ei] 33)) wr) (fun m _ => 60 - (intOf m).toNat)
          case atStart => exact ⟨0, by omega, rfl, by omega, fun t t1 t2 => by first | omega | exact unhide Hno t t1 (by omega), unhide B1⟩
          case round =>
            obtain ⟨M, hM, rfl, hs, hno, hB⟩ := hrel
            by_cases hltm : M ≤ 59
            · have hbx : wr.heap[w.heap.size]? = some (.cells #[.int .u64 X0, .int .u64 X1, .int .u64 x2, .int .u64 x3, .int .u64 x4, .bool ei] 33 (0, 0)) := by rw [hB.block _ (by omega)]; exact heap_alloc_new w _
              obtain ⟨c0, c1, c2, c3, c4, c5⟩ := rule_cells hbx
              have hsz2 : w.heap.size + 1 ≤ wr.heap.size := by have := hB.size; simpa using this
              have hgem : (0 : Int) ≤ (M : Int) := by omega
              have hlem : (M : Int) ≤ 59 := by omega
              have Hno2 := hide hno
              have HB2 := hide hB
              clear hno hB hbx
              go_wp2_with fail
              refine (unhide F0 M _ (by omega)).mono ?_
              rintro e w2 ⟨rfl, b2⟩
              have B2 : Hid (Below (w.heap.size + 1) (w.alloc (.cells #[.int .u64 X0, .int .u64 X1, .int .u64 x2, .int .u64 x3, .int .u64 x4, .bool ei] 33)) w2) := (unhide HB2).trans (b2.mono hsz2)
              clear b2 HB2 c0 c1 c2 c3 c4 c5
              cases hbm : bt X0 M
              · have Hbm := hide hbm
                clear hbm
                go_wp2_with fail
                go_roundw
                case rel => exact ⟨M + 1, by omega, by go_num, by omega, fun t t1 t2 => up_min (unhide Hno2) (by omega) (unhide Hbm) t t1 (by omega), unhide B2⟩
                case measure => simp [intOf]; omega
              · have Hbm := hide hbm
                clear hbm
                go_wp2_with fail
                go_ret3
                refine ⟨some (60 * H + M), ⟨hs, by omega, ?_, unhide Hno2⟩, ?_, ((Below.refl _ _).alloc (Nat.le_refl _) _).trans ((unhide B2).mono (by omega))⟩
                · rw [al_at _ _ _ _ (by omega), unhide Hb, unhide Hbm]; rfl
                · exact ret_ans (by omega) (by omega)
            · have hlem : ¬ (M : Int) ≤ 59 := by omega
              have Hno2 := hide hno
              have HB2 := hide hB
              clear hno hB
              go_wp2_with fail
              go_roundw
              case rel => exact ⟨H + 1, by omega, by omega, by go_num, fun t t1 t2 => unhide Hno2 t t1 (by omega), unhide HB2⟩
              case measure => simp [intOf]; omega
    · have hle : ¬ (H : Int) ≤ 23 := by omega
      go_wp2_with fail
      go_ret3
      exact ⟨none, fun t t1 t2 => hno t t1 (by omega), rfl, ((Below.refl _ _).alloc (Nat.le_refl _) _).trans (hB.mono (by omega))⟩

theorem dn_skip {Xm Xh s H : Nat} (hno : ∀ t : Nat, t ≤ s → 60 * ((H : Int) + 1) ≤ (t : Int) → al Xm Xh t = false) (hb : bt Xh H = false) : ∀ t : Nat, t ≤ s → 60 * (H : Int) ≤ (t : Int) → al Xm Xh t = false := by
  intro t h1 h2
  by_cases h : 60 * ((H : Int) + 1) ≤ (t : Int)
  · exact hno t h1 h
  · exact al_no_hour Xm Xh H t hb (by omega) (by omega)
theorem dn_min {Xm Xh s H M : Nat} (hno : ∀ t : Nat, t ≤ s → 60 * (H : Int) + (M : Int) < (t : Int) → al Xm Xh t = false) (hM : M < 60) (hb : bt Xm M = false) : ∀ t : Nat, t ≤ s → 60 * (H : Int) + (M : Int) ≤ (t : Int) → al Xm Xh t = false := by
  intro t h1 h2
  by_cases h : 60 * (H : Int) + (M : Int) < (t : Int)
  · exact hno t h1 h
  · rw [show t = 60 * H + M from by omega, al_at _ _ _ _ hM, hb]; simp

set_option maxRecDepth 100000 in
set_option maxHeartbeats 2000000 in
theorem within_dn (X0 X1 : Nat) (x2 x3 x4 : Int) (ei : Bool) (H0 m0 : Nat) (w : World) (h0 : X0 < 18446744073709551616) (h1 : X1 < 18446744073709551616) (hH : H0 ≤ 23) (hm : m0 ≤ 59) :
    Calls Try.prog 10 #[.agg #[.int .u64 X0, .int .u64 X1, .int .u64 x2, .int .u64 x3, .int .u64 x4, .bool ei], .int .i64 H0, .int .i64 m0, .int .i64 (-1)] w (Ans (Dn (al X0 X1) (60 * H0 + m0)) w) := by
  have F1 := hide (fun (v : Nat) (W : World) (hv : v ≤ 59) => has1 X0 X1 x2 x3 x4 ei v W h1 hv)
  have F0 := hide (fun (v : Nat) (W : World) (hv : v ≤ 59) => has0 X0 X1 x2 x3 x4 ei v W h0 hv)
  clear h0 h1
  go_enter Try.func10, Try.ntmps10
  go_wp2
  go_loopw [11] (fun h wr => ∃ H : Int, -1 ≤ H ∧ H ≤ H0 ∧ h = .int .i64 H ∧ (∀ t : Nat, t ≤ 60 * H0 + m0 → 60 * (H + 1) ≤ (t : Int) → al X0 X1 t = false) ∧ Below (w.heap.size + 1) (w.alloc (.cells #[.int .u64 X0, .int .u64 X1, .int .u64 x2, .int .u64 x3, .int .u64 x4, .bool ei] 33)) wr) (fun h _ => (intOf h + 1).toNat)
  case atStart => exact ⟨H0, by omega, by omega, rfl, fun t h1 h2 => by omega, Below.refl _ _⟩
  case round =>
    obtain ⟨HI, hH1, hH2, rfl, hno, hB⟩ := hrel
    by_cases hlt : 0 ≤ HI
    · obtain ⟨H, rfl⟩ := Int.eq_ofNat_of_zero_le hlt
      have hbx : wr.heap[w.heap.size]? = some (.cells #[.int .u64 X0, .int .u64 X1, .int .u64 x2, .int .u64 x3, .int .u64 x4, .bool ei] 33 (0, 0)) := by rw [hB.block _ (by omega)]; exact heap_alloc_new w _
      obtain ⟨c0, c1, c2, c3, c4, c5⟩ := rule_cells hbx
      have hsz : w.heap.size + 1 ≤ wr.heap.size := by have := hB.size; simpa using this
      have hle : (H : Int) ≤ 23 := by omega
      have Hno := hide hno
      have HB := hide hB
      clear hno hB hbx
      go_wp2_with fail
      refine (unhide F1 H _ (by omega)).mono ?_
      rintro e w1 ⟨rfl, b1⟩
      have B1 : Hid (Below (w.heap.size + 1) (w.alloc (.cells #[.int .u64 X0, .int .u64 X1, .int .u64 x2, .int .u64 x3, .int .u64 x4, .bool ei] 33)) w1) := (unhide HB).trans (b1.mono hsz)
      clear b1 HB c0 c1 c2 c3 c4 c5
      cases hb : bt X1 H
      · have Hb := hide hb
        clear hb
        go_wp2_with fail
        go_roundw
        case rel => exact ⟨(H : Int) - 1, by omega, by omega, by go_num, fun t t1 t2 => dn_skip (unhide Hno) (unhide Hb) t t1 (by omega), unhide B1⟩
        case measure => simp [intOf]; omega
      · have Hb := hide hb
        clear hb
        rcases (show (H = H0) ∨ (H < H0) from by omega) with hHH | hHH
        · subst hHH
          go_wp2_with fail
          go_loopw [12] (fun m wr => ∃ M : Int, -1 ≤ M ∧ M ≤ 59 ∧ m = .int .i64 M ∧ 60 * (H : Int) + M ≤ ((60 * H + m0 : Nat) : Int) ∧ (∀ t : Nat, t ≤ 60 * H + m0 → 60 * (H : Int) + M < (t : Int) → al X0 X1 t = false) ∧ Below (w.heap.size + 1) (w.alloc (.cells #[.int .u64 X0, .int .u64 X1, .int .u64 x2, .int .u64 x3, .int .u64 x4, .bool ei] 33)) wr) (fun m _ => (intOf m + 1).toNat)
          case atStart => exact ⟨m0, by omega, by omega, rfl, by omega, fun t t1 t2 => by first | omega | exact unhide Hno t t1 (by omega), unhide B1⟩
          case round =>
            obtain ⟨M0, hM1, hM2, rfl, hs, hno, hB⟩ := hrel
            by_cases hltm : 0 ≤ M0
            · obtain ⟨M, rfl⟩ := Int.eq_ofNat_of_zero_le hltm
              have hbx : wr.heap[w.heap.size]? = some (.cells #[.int .u64 X0, .int .u64 X1, .int .u64 x2, .int .u64 x3, .int .u64 x4, .bool ei] 33 (0, 0)) := by rw [hB.block _ (by omega)]; exact heap_alloc_new w _
              obtain ⟨c0, c1, c2, c3, c4, c5⟩ := rule_cells hbx
              have hsz2 : w.heap.size + 1 ≤ wr.heap.size := by have := hB.size; simpa using this
              have Hno2 := hide hno
              have HB2 := hide hB
              clear hno hB hbx
              go_wp2_with fail
              refine (unhide F0 M _ (by omega)).mono ?_
              rintro e w2 ⟨rfl, b2⟩
              have B2 : Hid (Below (w.heap.size + 1) (w.alloc (.cells #[.int .u64 X0, .int .u64 X1, .int .u64 x2, .int .u64 x3, .int .u64 x4, .bool ei] 33)) w2) := (unhide HB2).trans (b2.mono hsz2)
              clear b2 HB2 c0 c1 c2 c3 c4 c5
              cases hbm : bt X0 M
              · have Hbm := hide hbm
                clear hbm
                go_wp2_with fail
                go_roundw
                case rel => exact ⟨(M : Int) - 1, by omega, by omega, by go_num, by omega, fun t t1 t2 => dn_min (unhide Hno2) (by omega) (unhide Hbm) t t1 (by omega), unhide B2⟩
                case measure => simp [intOf]; omega
              · have Hbm := hide hbm
                clear hbm
                go_wp2_with fail
                go_ret3
                refine ⟨some (60 * H + M), ⟨by omega, ?_, fun t t1 t2 => unhide Hno2 t t2 (by omega)⟩, ?_, ((Below.refl _ _).alloc (Nat.le_refl _) _).trans ((unhide B2).mono (by omega))⟩
                · rw [al_at _ _ _ _ (by omega), unhide Hb, unhide Hbm]; rfl
                · exact ret_ans (by omega) (by omega)
            · have Hno2 := hide hno
              have HB2 := hide hB
              have hM3 : M0 < 0 := by omega
              clear hno hB
              go_wp2_with fail
              go_roundw
              case rel => exact ⟨(H : Int) - 1, by omega, by omega, by go_num, fun t t1 t2 => unhide Hno2 t t1 (by omega), unhide HB2⟩
              case measure => simp [intOf]; omega
        · have hne : ((H : Int) != (H0 : Int)) = true := by rw [bne_iff_ne]; omega
          go_wp2_with fail
          go_loopw [12] (fun m wr => ∃ M : Int, -1 ≤ M ∧ M ≤ 59 ∧ m = .int .i64 M ∧ 60 * (H : Int) + M ≤ ((60 * H0 + m0 : Nat) : Int) ∧ (∀ t : Nat, t ≤ 60 * H0 + m0 → 60 * (H : Int) + M < (t : Int) → al X0 X1 t = false) ∧ Below (w.heap.size + 1) (w.alloc (.cells #[.int .u64 X0, .int .u64 X1, .int .u64 x2, .int .u64 x3, .int .u64 x4, .bool ei] 33)) wr) (fun m _ => (intOf m + 1).toNat)
          case atStart => exact ⟨59, by omega, by omega, rfl, by omega, fun t t1 t2 => by first | omega | exact unhide Hno t t1 (by omega), unhide B1⟩
          case round =>
            obtain ⟨M0, hM1, hM2, rfl, hs, hno, hB⟩ := hrel
            by_cases hltm : 0 ≤ M0
            · obtain ⟨M, rfl⟩ := Int.eq_ofNat_of_zero_le hltm
              have hbx : wr.heap[w.heap.size]? = some (.cells #[.int .u64 X0, .int .u64 X1, .int .u64 x2, .int .u64 x3, .int .u64 x4, .bool ei] 33 (0, 0)) := by rw [hB.block _ (by omega)]; exact heap_alloc_new w _
              obtain ⟨c0, c1, c2, c3, c4, c5⟩ := rule_cells hbx
              have hsz2 : w.heap.size + 1 ≤ wr.heap.size := by have := hB.size; simpa using this
              have Hno2 := hide hno
              have HB2 := hide hB
              clear hno hB hbx
              go_wp2_with fail
              refine (unhide F0 M _ (by omega)).mono ?_
              rintro e w2 ⟨rfl, b2⟩
              have B2 : Hid (Below (w.heap.size + 1) (w.alloc (.cells #[.int .u64 X0, .int .u64 X1, .int .u64 x2, .int .u64 x3, .int .u64 x4, .bool ei] 33)) w2) := (unhide HB2).trans (b2.mono hsz2)
              clear b2 HB2 c0 c1 c2 c3 c4 c5
              cases hbm : bt X0 M
              · have Hbm := hide hbm
                clear hbm
                go_wp2_with fail
                go_roundw
                case rel => exact ⟨(M : Int) - 1, by omega, by omega, by go_num, by omega, fun t t1 t2 => dn_min (unhide Hno2) (by omega) (unhide Hbm) t t1 (by omega), unhide B2⟩
                case measure => simp [intOf]; omega
              · have Hbm := hide hbm
                clear hbm
                go_wp2_with fail
                go_ret3
                refine ⟨some (60 * H + M), ⟨by omega, ?_, fun t t1 t2 => unhide Hno2 t t2 (by omega)⟩, ?_, ((Below.refl _ _).alloc (Nat.le_refl _) _).trans ((unhide B2).mono (by omega))⟩
                · rw [al_at _ _ _ _ (by omega), unhide Hb, unhide Hbm]; rfl
                · exact ret_ans (by omega) (by omega)
            · have Hno2 := hide hno
              have HB2 := hide hB
              have hM3 : M0 < 0 := by omega
              clear hno hB
              go_wp2_with fail
              go_roundw
              case rel => exact ⟨(H : Int) - 1, by omega, by omega, by go_num, fun t t1 t2 => unhide Hno2 t t1 (by omega), unhide HB2⟩
              case measure => simp [intOf]; omega
    · have hlt0 : HI < 0 := by omega
      go_wp2_with fail
      go_ret3
      exact ⟨none, fun t t1 => hno t t1 (by omega), rfl, ((Below.refl _ _).alloc (Nat.le_refl _) _).trans (hB.mono (by omega))⟩

/-- ZZWithin hands on. -/
theorem zz_up (X0 X1 : Nat) (x2 x3 x4 : Int) (ei : Bool) (H0 m0 : Nat) (w : World) (h0 : X0 < 18446744073709551616) (h1 : X1 < 18446744073709551616) (hH : H0 ≤ 23) (hm : m0 ≤ 59) :
    Calls Try.prog 5 #[.agg #[.int .u64 X0, .int .u64 X1, .int .u64 x2, .int .u64 x3, .int .u64 x4], .bool ei, .int .i64 H0, .int .i64 m0, .int .i64 1] w (Ans (Up (al X0 X1) (60 * H0 + m0)) w) := by
  have F := hide (fun (W : World) => within_up X0 X1 x2 x3 x4 ei H0 m0 W h0 h1 hH hm)
  clear h0 h1 hH hm
  go_enter Try.func5, Try.ntmps5
  go_wp2_with fail
  refine (unhide F _).mono ?_
  rintro e w1 ⟨o, ho, rfl, b1⟩
  have Ho := hide ho
  have B1 := hide b1
  clear ho b1 F
  cases o with
  | none =>
    unfold ans
    go_wp2_with fail
    go_ret3
    exact ⟨none, unhide Ho, rfl, ((Below.refl _ _).alloc (Nat.le_refl _) _).trans ((unhide B1).mono (by simp))⟩
  | some r =>
    unfold ans
    go_wp2_with fail
    go_ret3
    exact ⟨some r, unhide Ho, rfl, ((Below.refl _ _).alloc (Nat.le_refl _) _).trans ((unhide B1).mono (by simp))⟩
theorem zz_dn (X0 X1 : Nat) (x2 x3 x4 : Int) (ei : Bool) (H0 m0 : Nat) (w : World) (h0 : X0 < 18446744073709551616) (h1 : X1 < 18446744073709551616) (hH : H0 ≤ 23) (hm : m0 ≤ 59) :
    Calls Try.prog 5 #[.agg #[.int .u64 X0, .int .u64 X1, .int .u64 x2, .int .u64 x3, .int .u64 x4], .bool ei, .int .i64 H0, .int .i64 m0, .int .i64 (-1)] w (Ans (Dn (al X0 X1) (60 * H0 + m0)) w) := by
  have F := hide (fun (W : World) => within_dn X0 X1 x2 x3 x4 ei H0 m0 W h0 h1 hH hm)
  clear h0 h1 hH hm
  go_enter Try.func5, Try.ntmps5
  go_wp2_with fail
  refine (unhide F _).mono ?_
  rintro e w1 ⟨o, ho, rfl, b1⟩
  have Ho := hide ho
  have B1 := hide b1
  clear ho b1 F
  cases o with
  | none =>
    unfold ans
    go_wp2_with fail
    go_ret3
    exact ⟨none, unhide Ho, rfl, ((Below.refl _ _).alloc (Nat.le_refl _) _).trans ((unhide B1).mono (by simp))⟩
  | some r =>
    unfold ans
    go_wp2_with fail
    go_ret3
    exact ⟨some r, unhide Ho, rfl, ((Below.refl _ _).alloc (Nat.le_refl _) _).trans ((unhide B1).mono (by simp))⟩

end Go.Proofs.Qxb6619363a
