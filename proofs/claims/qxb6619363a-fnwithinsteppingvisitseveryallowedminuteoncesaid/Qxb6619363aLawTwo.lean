/-
  MY OWN WORK (seat b6619363a). The walk of FnWithinSteppingVisitsEveryAllowedMinuteOnce.
-/
import Derived.Test.Qxb6619363aCount
import Derived.Test.Qxb6619363aLawOne
namespace Go.Proofs.Qxb6619363a
open Go.RowKit

theorem ret_beq {a b : Int} (h : a = b) : Ending.returned (.bool (a == b)) = .returned (.bool true) := by rw [h]; simp

set_option maxRecDepth 100000 in
set_option maxHeartbeats 8000000 in
theorem two_up (X0 X1 : Nat) (x2 x3 x4 : Int) (ei : Bool) (H0 m0 : Nat) (w : World) (h0 : X0 < 18446744073709551616) (h1 : X1 < 18446744073709551616) (hH : H0 ≤ 23) (hm : m0 ≤ 59) :
    Calls Try.prog 4 #[.agg #[.int .u64 X0, .int .u64 X1, .int .u64 x2, .int .u64 x3, .int .u64 x4], .bool ei, .int .i64 H0, .int .i64 m0, .int .i64 1] w fun e w' => e = .returned (.bool true) ∧ Below w.heap.size w w' := by
  have F := hide (fun (hc mc : Nat) (W : World) (q1 : hc ≤ 23) (q2 : mc ≤ 59) => zz_up X0 X1 x2 x3 x4 ei hc mc W h0 h1 q1 q2)
  have G := hide (fun (t : Nat) (W : World) (ht : t ≤ 1439) => allowed_any X0 X1 x2 x3 x4 t W h0 h1 ht)
  have C := hide (fun (lo hi : Nat) (W : World) (q1 : lo ≤ hi) (q2 : hi ≤ 59) => count_any X0 lo hi W h0 q1 q2)
  have T := hide (fun (H : Nat) => shr_bit0 X1 H h1)
  clear h0 h1
  have i1 : ¬ (H0 : Int) < 0 := by omega
  have i2 : ¬ 23 < (H0 : Int) := by omega
  have i3 : ¬ (m0 : Int) < 0 := by omega
  have i4 : ¬ 59 < (m0 : Int) := by omega
  go_enter Try.func4, Try.ntmps4
  go_wp2_with fail
  go_loopw [11, 12] (fun n h wr => ∃ H : Nat, H ≤ 24 ∧ h = .int .i64 H ∧ n = .int .i64 (cnt (upP X0 X1 (60 * H0 + m0)) (60 * H) : Nat) ∧ wr = (w.alloc (.cells #[.int .u64 X0, .int .u64 X1, .int .u64 x2, .int .u64 x3, .int .u64 x4] 23))) (fun _ h _ => 24 - (intOf h).toNat)
  case atStart => exact ⟨0, by omega, rfl, rfl, rfl⟩
  case round =>
    obtain ⟨H, hH24, rfl, rfl, rfl⟩ := hrel
    by_cases hlt : H < 24
    · have hltI : (H : Int) < 24 := by omega
      have hHn : (0 : Int) ≤ (H : Int) := by omega
      have hcl := cnt_le (upP X0 X1 (60 * H0 + m0)) (60 * H)
      have Tb := unhide T H
      cases hb : bt X1 H
      · rw [hb] at Tb
        have Hcs := hide (up_unnamed X0 X1 H (60 * H0 + m0) hb)
        generalize cnt (upP X0 X1 (60 * H0 + m0)) (60 * H) = nn at hcl Hcs
        clear hb
        go_wp2_with fail
        go_roundw
        case rel => exact ⟨H + 1, by omega, by go_num, by rw [unhide Hcs], by first | trivial | rfl⟩
        case measure => simp [intOf]; omega
      · rw [hb] at Tb
        rcases (show H = H0 ∨ H < H0 ∨ H0 < H from by omega) with hc | hc | hc
        · subst hc
          have Hcs := hide (up_here X0 X1 H m0 hb)
          have hcl2 := cnt_le (fromP X0 m0) (59 + 1)
          have Cc := hide (unhide C m0 59 (w.alloc (.cells #[.int .u64 X0, .int .u64 X1, .int .u64 x2, .int .u64 x3, .int .u64 x4] 23)) (by omega) (by omega))
          generalize cnt (upP X0 X1 (60 * H + m0)) (60 * H) = nn at hcl Hcs
          generalize cnt (fromP X0 m0) (59 + 1) = n2 at hcl2 Hcs Cc
          clear hb
          go_wp2_with fail
          refine (unhide Cc).mono ?_
          rintro e w' ⟨rfl, hw⟩
          rw [← hw]
          clear hw Cc
          go_wp2_with fail
          go_roundw
          case rel => exact ⟨H + 1, by omega, by go_num, by rw [unhide Hcs]; go_num, by first | trivial | rfl⟩
          case measure => simp [intOf]; omega
        · have hne : ((H : Int) == (H0 : Int)) = false := by rw [beq_eq_false_iff_ne]; omega
          have Hcs := hide (up_early X0 X1 H (60 * H0 + m0) (by omega))
          generalize cnt (upP X0 X1 (60 * H0 + m0)) (60 * H) = nn at hcl Hcs
          clear hb
          go_wp2_with fail
          go_roundw
          case rel => exact ⟨H + 1, by omega, by go_num, by rw [unhide Hcs], by first | trivial | rfl⟩
          case measure => simp [intOf]; omega
        · have hne : ((H : Int) == (H0 : Int)) = false := by rw [beq_eq_false_iff_ne]; omega
          have Hcs := hide (up_later X0 X1 H (60 * H0 + m0) (by omega) hb)
          have hcl2 := cnt_le (fromP X0 0) (59 + 1)
          have Cc := hide (unhide C 0 59 (w.alloc (.cells #[.int .u64 X0, .int .u64 X1, .int .u64 x2, .int .u64 x3, .int .u64 x4] 23)) (by omega) (by omega))
          generalize cnt (upP X0 X1 (60 * H0 + m0)) (60 * H) = nn at hcl Hcs
          generalize cnt (fromP X0 0) (59 + 1) = n2 at hcl2 Hcs Cc
          clear hb
          go_wp2_with fail
          refine (unhide Cc).mono ?_
          rintro e w' ⟨rfl, hw⟩
          rw [← hw]
          clear hw Cc
          go_wp2_with fail
          go_roundw
          case rel => exact ⟨H + 1, by omega, by go_num, by rw [unhide Hcs]; go_num, by first | trivial | rfl⟩
          case measure => simp [intOf]; omega
    · obtain rfl : H = 24 := by omega
      have htot : cnt (upP X0 X1 (60 * H0 + m0)) (60 * 24) ≤ 1440 := cnt_le _ _
      obtain ⟨total, Htot⟩ : ∃ total, Hid (cnt (upP X0 X1 (60 * H0 + m0)) 1440 = total) := ⟨_, rfl⟩
      rw [show 60 * 24 = 1440 from rfl, unhide Htot] at htot ⊢
      go_wp2_with fail
      go_loopw [14, 15, 16, 17, 18] (fun g l ch cm st wr => ∃ k hc mc : Nat, ∃ lst : Int, hc ≤ 23 ∧ mc ≤ 59 ∧ 60 * H0 + m0 ≤ 60 * hc + mc ∧ g = .int .i64 k ∧ l = .int .i64 lst ∧ ch = .int .i64 hc ∧ cm = .int .i64 mc ∧ st = .int .i64 k ∧ cnt (upP X0 X1 (60 * H0 + m0)) (60 * hc + mc) = k ∧ (0 < k → lst < 60 * (hc : Int) + (mc : Int)) ∧ Below (w.heap.size + 1) (w.alloc (.cells #[.int .u64 X0, .int .u64 X1, .int .u64 x2, .int .u64 x3, .int .u64 x4] 23)) wr) (fun _ _ _ _ st _ => 2000 - (intOf st).toNat)
      case atStart => exact ⟨0, H0, m0, 0, hH, hm, by omega, rfl, rfl, rfl, rfl, rfl, up_zero X0 X1 _, fun h => by omega, Below.refl _ _⟩
      case round =>
        obtain ⟨k, hc, mc, lst, hhc, hmc, hrng, rfl, rfl, rfl, rfl, rfl, hcnt, hlst, hB⟩ := hrel
        have hkb : k ≤ 1440 := by have := cnt_le (upP X0 X1 (60 * H0 + m0)) (60 * hc + mc); omega
        have hbx : wr.heap[w.heap.size]? = some (.cells #[.int .u64 X0, .int .u64 X1, .int .u64 x2, .int .u64 x3, .int .u64 x4] 23 (0, 0)) := by rw [hB.block _ (by omega)]; exact heap_alloc_new w _
        obtain ⟨c0, c1, c2, c3, c4⟩ := five_cells hbx
        have hsz : w.heap.size + 1 ≤ wr.heap.size := by have := hB.size; simpa using this
        have hkI : (k : Int) ≤ 1440 := by omega
        have HB := hide hB
        have Hcnt := hide hcnt
        have Hlst := hide hlst
        clear hB hbx hcnt hlst
        go_wp2_with fail
        refine (unhide F hc mc _ hhc hmc).mono ?_
        rintro e w1 ⟨o, ho, rfl, b1⟩
        have B1 : Hid (Below (w.heap.size + 1) (w.alloc (.cells #[.int .u64 X0, .int .u64 X1, .int .u64 x2, .int .u64 x3, .int .u64 x4] 23)) w1) := (unhide HB).trans (b1.mono hsz)
        clear b1 HB c0 c1 c2 c3 c4
        cases o with
        | none =>
          have hfin : k = total := by have e1 := up_end (s := 60 * H0 + m0) ho (by omega); have e2 := unhide Hcnt; have e3 := unhide Htot; omega
          have Hfin := hide hfin
          clear ho hfin
          rw [ans_none]
          go_wp2_with fail
          go_ret
          exact ⟨ret_beq (by rw [unhide Hfin]), ((Below.refl _ _).alloc (Nat.le_refl _) _).trans ((unhide B1).mono (by omega))⟩
        | some r =>
          obtain ⟨hh, mm, rfl, hh1, hm1⟩ := split_minute r ho.2.1
          have hstep := up_step (s := 60 * H0 + m0) ho hrng
          have hrc : 60 * hc + mc ≤ 60 * hh + mm := by have := ho.1; omega
          have hal : al X0 X1 (60 * hh + mm) = true := ho.2.2.1
          have Hstep := hide hstep
          have Hal := hide hal
          clear ho hstep hal
          rw [ans_some hh mm hm1]
          have hbx : w1.heap[w.heap.size]? = some (.cells #[.int .u64 X0, .int .u64 X1, .int .u64 x2, .int .u64 x3, .int .u64 x4] 23 (0, 0)) := by rw [(unhide B1).block _ (by omega)]; exact heap_alloc_new w _
          obtain ⟨c0, c1, c2, c3, c4⟩ := five_cells hbx
          have hsz1 : w.heap.size + 1 ≤ w1.heap.size := by have := (unhide B1).size; simpa using this
          clear hbx
          go_wp2_with fail
          have er : 60 * (hh : Int) + (mm : Int) = ((60 * hh + mm : Nat) : Int) := by omega
          have Ga := unhide G (60 * hh + mm) w1 (by omega)
          rw [← er] at Ga
          clear er
          refine Ga.mono ?_
          clear Ga
          rintro e w2 ⟨rfl, b2⟩
          have B2 : Hid (Below (w.heap.size + 1) (w.alloc (.cells #[.int .u64 X0, .int .u64 X1, .int .u64 x2, .int .u64 x3, .int .u64 x4] 23)) w2) := (unhide B1).trans (b2.mono hsz1)
          rw [unhide Hal]
          clear b2 B1 c0 c1 c2 c3 c4 Hal
          rcases Nat.eq_zero_or_pos k with hk0 | hk0
          · have hkz : ((k : Int) == 0) = true := by rw [beq_iff_eq]; omega
            go_wp2_with fail
            refine (side_up _ _ _).mono ?_
            rintro e w' ⟨rfl, hw⟩
            obtain rfl : w2 = w' := hw.symm
            clear hw
            have hsd : 60 * (H0 : Int) + (m0 : Int) ≤ 60 * (hh : Int) + (mm : Int) := by omega
            rw [decide_eq_true hsd]
            clear hsd
            by_cases hend : 60 * hh + mm = 1439
            · go_wp2_with fail
              go_ret
              refine ⟨ret_beq ?_, ((Below.refl _ _).alloc (Nat.le_refl _) _).trans ((unhide B2).mono (by omega))⟩
              have e1 := unhide Hstep
              have e2 := unhide Hcnt
              have e3 := unhide Htot
              rw [hend] at e1; have e4 : cnt (upP X0 X1 (60 * H0 + m0)) (1439 + 1) = cnt (upP X0 X1 (60 * H0 + m0)) 1440 := rfl; omega
            · go_wp2_with fail
              go_roundw
              case rel =>
                have e1 := unhide Hstep
                have e2 := unhide Hcnt
                (repeat apply Exists.intro)
                refine ⟨?_, rfl⟩
                refine ⟨k + 1, (60 * hh + mm + 1) / 60, (60 * hh + mm + 1) % 60, _, by omega, by omega, by omega, by go_num, rfl, by go_num, by go_num, by go_num, ?_, fun _ => by omega, unhide B2⟩
                rw [show 60 * (((60 * hh + mm + 1)) / 60) + ((60 * hh + mm + 1)) % 60 = (60 * hh + mm + 1) from by omega]
                omega
              case measure => simp [intOf]; omega
          · have hkz : ((k : Int) == 0) = false := by rw [beq_eq_false_iff_ne]; omega
            have hls : ¬ 60 * (hh : Int) + (mm : Int) ≤ lst := by have := unhide Hlst hk0; omega
            by_cases hend : 60 * hh + mm = 1439
            · go_wp2_with fail
              go_ret
              refine ⟨ret_beq ?_, ((Below.refl _ _).alloc (Nat.le_refl _) _).trans ((unhide B2).mono (by omega))⟩
              have e1 := unhide Hstep
              have e2 := unhide Hcnt
              have e3 := unhide Htot
              rw [hend] at e1; have e4 : cnt (upP X0 X1 (60 * H0 + m0)) (1439 + 1) = cnt (upP X0 X1 (60 * H0 + m0)) 1440 := rfl; omega
            · go_wp2_with fail
              go_roundw
              case rel =>
                have e1 := unhide Hstep
                have e2 := unhide Hcnt
                (repeat apply Exists.intro)
                refine ⟨?_, rfl⟩
                refine ⟨k + 1, (60 * hh + mm + 1) / 60, (60 * hh + mm + 1) % 60, _, by omega, by omega, by omega, by go_num, rfl, by go_num, by go_num, by go_num, ?_, fun _ => by omega, unhide B2⟩
                rw [show 60 * (((60 * hh + mm + 1)) / 60) + ((60 * hh + mm + 1)) % 60 = (60 * hh + mm + 1) from by omega]
                omega
              case measure => simp [intOf]; omega

set_option maxRecDepth 100000 in
set_option maxHeartbeats 8000000 in
theorem two_dn (X0 X1 : Nat) (x2 x3 x4 : Int) (ei : Bool) (H0 m0 : Nat) (w : World) (h0 : X0 < 18446744073709551616) (h1 : X1 < 18446744073709551616) (hH : H0 ≤ 23) (hm : m0 ≤ 59) :
    Calls Try.prog 4 #[.agg #[.int .u64 X0, .int .u64 X1, .int .u64 x2, .int .u64 x3, .int .u64 x4], .bool ei, .int .i64 H0, .int .i64 m0, .int .i64 (-1)] w fun e w' => e = .returned (.bool true) ∧ Below w.heap.size w w' := by
  have F := hide (fun (hc mc : Nat) (W : World) (q1 : hc ≤ 23) (q2 : mc ≤ 59) => zz_dn X0 X1 x2 x3 x4 ei hc mc W h0 h1 q1 q2)
  have G := hide (fun (t : Nat) (W : World) (ht : t ≤ 1439) => allowed_any X0 X1 x2 x3 x4 t W h0 h1 ht)
  have C := hide (fun (lo hi : Nat) (W : World) (q1 : lo ≤ hi) (q2 : hi ≤ 59) => count_any X0 lo hi W h0 q1 q2)
  have T := hide (fun (H : Nat) => shr_bit0 X1 H h1)
  clear h0 h1
  have i1 : ¬ (H0 : Int) < 0 := by omega
  have i2 : ¬ 23 < (H0 : Int) := by omega
  have i3 : ¬ (m0 : Int) < 0 := by omega
  have i4 : ¬ 59 < (m0 : Int) := by omega
  go_enter Try.func4, Try.ntmps4
  go_wp2_with fail
  go_loopw [11, 12] (fun n h wr => ∃ H : Nat, H ≤ 24 ∧ h = .int .i64 H ∧ n = .int .i64 (cnt (dnP X0 X1 (60 * H0 + m0)) (60 * H) : Nat) ∧ wr = (w.alloc (.cells #[.int .u64 X0, .int .u64 X1, .int .u64 x2, .int .u64 x3, .int .u64 x4] 23))) (fun _ h _ => 24 - (intOf h).toNat)
  case atStart => exact ⟨0, by omega, rfl, rfl, rfl⟩
  case round =>
    obtain ⟨H, hH24, rfl, rfl, rfl⟩ := hrel
    by_cases hlt : H < 24
    · have hltI : (H : Int) < 24 := by omega
      have hHn : (0 : Int) ≤ (H : Int) := by omega
      have hcl := cnt_le (dnP X0 X1 (60 * H0 + m0)) (60 * H)
      have Tb := unhide T H
      cases hb : bt X1 H
      · rw [hb] at Tb
        have Hcs := hide (dn_unnamed X0 X1 H (60 * H0 + m0) hb)
        generalize cnt (dnP X0 X1 (60 * H0 + m0)) (60 * H) = nn at hcl Hcs
        clear hb
        go_wp2_with fail
        go_roundw
        case rel => exact ⟨H + 1, by omega, by go_num, by rw [unhide Hcs], by first | trivial | rfl⟩
        case measure => simp [intOf]; omega
      · rw [hb] at Tb
        rcases (show H = H0 ∨ H < H0 ∨ H0 < H from by omega) with hc | hc | hc
        · subst hc
          have Hcs := hide (dn_here X0 X1 H m0 hm hb)
          have hcl2 := cnt_le (fromP X0 0) (m0 + 1)
          have Cc := hide (unhide C 0 m0 (w.alloc (.cells #[.int .u64 X0, .int .u64 X1, .int .u64 x2, .int .u64 x3, .int .u64 x4] 23)) (by omega) (by omega))
          generalize cnt (dnP X0 X1 (60 * H + m0)) (60 * H) = nn at hcl Hcs
          generalize cnt (fromP X0 0) (m0 + 1) = n2 at hcl2 Hcs Cc
          clear hb
          go_wp2_with fail
          refine (unhide Cc).mono ?_
          rintro e w' ⟨rfl, hw⟩
          rw [← hw]
          clear hw Cc
          go_wp2_with fail
          go_roundw
          case rel => exact ⟨H + 1, by omega, by go_num, by rw [unhide Hcs]; go_num, by first | trivial | rfl⟩
          case measure => simp [intOf]; omega
        · have hne : ((H : Int) == (H0 : Int)) = false := by rw [beq_eq_false_iff_ne]; omega
          have Hcs := hide (dn_before X0 X1 H (60 * H0 + m0) (by omega) hb)
          have hcl2 := cnt_le (fromP X0 0) (59 + 1)
          have Cc := hide (unhide C 0 59 (w.alloc (.cells #[.int .u64 X0, .int .u64 X1, .int .u64 x2, .int .u64 x3, .int .u64 x4] 23)) (by omega) (by omega))
          generalize cnt (dnP X0 X1 (60 * H0 + m0)) (60 * H) = nn at hcl Hcs
          generalize cnt (fromP X0 0) (59 + 1) = n2 at hcl2 Hcs Cc
          clear hb
          go_wp2_with fail
          refine (unhide Cc).mono ?_
          rintro e w' ⟨rfl, hw⟩
          rw [← hw]
          clear hw Cc
          go_wp2_with fail
          go_roundw
          case rel => exact ⟨H + 1, by omega, by go_num, by rw [unhide Hcs]; go_num, by first | trivial | rfl⟩
          case measure => simp [intOf]; omega
        · have hne : ((H : Int) == (H0 : Int)) = false := by rw [beq_eq_false_iff_ne]; omega
          have Hcs := hide (dn_late X0 X1 H (60 * H0 + m0) (by omega))
          generalize cnt (dnP X0 X1 (60 * H0 + m0)) (60 * H) = nn at hcl Hcs
          clear hb
          go_wp2_with fail
          go_roundw
          case rel => exact ⟨H + 1, by omega, by go_num, by rw [unhide Hcs], by first | trivial | rfl⟩
          case measure => simp [intOf]; omega
    · obtain rfl : H = 24 := by omega
      have htot : cnt (dnP X0 X1 (60 * H0 + m0)) (60 * 24) ≤ 1440 := cnt_le _ _
      obtain ⟨total, Htot⟩ : ∃ total, Hid (cnt (dnP X0 X1 (60 * H0 + m0)) 1440 = total) := ⟨_, rfl⟩
      rw [show 60 * 24 = 1440 from rfl, unhide Htot] at htot ⊢
      go_wp2_with fail
      go_loopw [14, 15, 16, 17, 18] (fun g l ch cm st wr => ∃ k hc mc : Nat, ∃ lst : Int, hc ≤ 23 ∧ mc ≤ 59 ∧ 60 * hc + mc ≤ 60 * H0 + m0 ∧ g = .int .i64 k ∧ l = .int .i64 lst ∧ ch = .int .i64 hc ∧ cm = .int .i64 mc ∧ st = .int .i64 k ∧ k + cnt (dnP X0 X1 (60 * H0 + m0)) (60 * hc + mc + 1) = total ∧ (0 < k → 60 * (hc : Int) + (mc : Int) < lst) ∧ Below (w.heap.size + 1) (w.alloc (.cells #[.int .u64 X0, .int .u64 X1, .int .u64 x2, .int .u64 x3, .int .u64 x4] 23)) wr) (fun _ _ _ _ st _ => 2000 - (intOf st).toNat)
      case atStart => exact ⟨0, H0, m0, 0, hH, hm, by omega, rfl, rfl, rfl, rfl, rfl, by rw [Nat.zero_add, dn_total _ _ _ (by omega)]; exact unhide Htot, fun h => by omega, Below.refl _ _⟩
      case round =>
        obtain ⟨k, hc, mc, lst, hhc, hmc, hrng, rfl, rfl, rfl, rfl, rfl, hcnt, hlst, hB⟩ := hrel
        have hkb : k ≤ 1440 := by omega
        have hbx : wr.heap[w.heap.size]? = some (.cells #[.int .u64 X0, .int .u64 X1, .int .u64 x2, .int .u64 x3, .int .u64 x4] 23 (0, 0)) := by rw [hB.block _ (by omega)]; exact heap_alloc_new w _
        obtain ⟨c0, c1, c2, c3, c4⟩ := five_cells hbx
        have hsz : w.heap.size + 1 ≤ wr.heap.size := by have := hB.size; simpa using this
        have hkI : (k : Int) ≤ 1440 := by omega
        have HB := hide hB
        have Hcnt := hide hcnt
        have Hlst := hide hlst
        clear hB hbx hcnt hlst
        go_wp2_with fail
        refine (unhide F hc mc _ hhc hmc).mono ?_
        rintro e w1 ⟨o, ho, rfl, b1⟩
        have B1 : Hid (Below (w.heap.size + 1) (w.alloc (.cells #[.int .u64 X0, .int .u64 X1, .int .u64 x2, .int .u64 x3, .int .u64 x4] 23)) w1) := (unhide HB).trans (b1.mono hsz)
        clear b1 HB c0 c1 c2 c3 c4
        cases o with
        | none =>
          have hfin : k = total := by have e1 := dn_end (s := 60 * H0 + m0) ho; have e2 := unhide Hcnt; omega
          have Hfin := hide hfin
          clear ho hfin
          rw [ans_none]
          go_wp2_with fail
          go_ret
          exact ⟨ret_beq (by rw [unhide Hfin]), ((Below.refl _ _).alloc (Nat.le_refl _) _).trans ((unhide B1).mono (by omega))⟩
        | some r =>
          obtain ⟨hh, mm, rfl, hh1, hm1⟩ := split_minute r (by have := ho.1; omega)
          have hstep := dn_step (s := 60 * H0 + m0) ho hrng
          have hrc : 60 * hh + mm ≤ 60 * hc + mc := by have := ho.1; omega
          have hal : al X0 X1 (60 * hh + mm) = true := ho.2.1
          have Hstep := hide hstep
          have Hal := hide hal
          clear ho hstep hal
          rw [ans_some hh mm hm1]
          have hbx : w1.heap[w.heap.size]? = some (.cells #[.int .u64 X0, .int .u64 X1, .int .u64 x2, .int .u64 x3, .int .u64 x4] 23 (0, 0)) := by rw [(unhide B1).block _ (by omega)]; exact heap_alloc_new w _
          obtain ⟨c0, c1, c2, c3, c4⟩ := five_cells hbx
          have hsz1 : w.heap.size + 1 ≤ w1.heap.size := by have := (unhide B1).size; simpa using this
          clear hbx
          go_wp2_with fail
          have er : 60 * (hh : Int) + (mm : Int) = ((60 * hh + mm : Nat) : Int) := by omega
          have Ga := unhide G (60 * hh + mm) w1 (by omega)
          rw [← er] at Ga
          clear er
          refine Ga.mono ?_
          clear Ga
          rintro e w2 ⟨rfl, b2⟩
          have B2 : Hid (Below (w.heap.size + 1) (w.alloc (.cells #[.int .u64 X0, .int .u64 X1, .int .u64 x2, .int .u64 x3, .int .u64 x4] 23)) w2) := (unhide B1).trans (b2.mono hsz1)
          rw [unhide Hal]
          clear b2 B1 c0 c1 c2 c3 c4 Hal
          rcases Nat.eq_zero_or_pos k with hk0 | hk0
          · have hkz : ((k : Int) == 0) = true := by rw [beq_iff_eq]; omega
            go_wp2_with fail
            refine (side_dn _ _ _).mono ?_
            rintro e w' ⟨rfl, hw⟩
            obtain rfl : w2 = w' := hw.symm
            clear hw
            have hsd : 60 * (hh : Int) + (mm : Int) ≤ 60 * (H0 : Int) + (m0 : Int) := by omega
            rw [decide_eq_true hsd]
            clear hsd
            by_cases hend : 60 * hh + mm = 0
            · go_wp2_with fail
              go_ret
              refine ⟨ret_beq ?_, ((Below.refl _ _).alloc (Nat.le_refl _) _).trans ((unhide B2).mono (by omega))⟩
              have e1 := unhide Hstep
              have e2 := unhide Hcnt
              have e3 := unhide Htot
              rw [hend] at e1; have e4 : cnt (dnP X0 X1 (60 * H0 + m0)) 0 = 0 := rfl; omega
            · go_wp2_with fail
              go_roundw
              case rel =>
                have e1 := unhide Hstep
                have e2 := unhide Hcnt
                (repeat apply Exists.intro)
                refine ⟨?_, rfl⟩
                refine ⟨k + 1, (60 * hh + mm - 1) / 60, (60 * hh + mm - 1) % 60, _, by omega, by omega, by omega, by go_num, rfl, by go_num, by go_num, by go_num, ?_, fun _ => by omega, unhide B2⟩
                rw [show 60 * (((60 * hh + mm - 1)) / 60) + ((60 * hh + mm - 1)) % 60 = (60 * hh + mm - 1) from by omega]
                rw [show 60 * hh + mm - 1 + 1 = 60 * hh + mm from by omega]; omega
              case measure => simp [intOf]; omega
          · have hkz : ((k : Int) == 0) = false := by rw [beq_eq_false_iff_ne]; omega
            have hls : ¬ lst ≤ 60 * (hh : Int) + (mm : Int) := by have := unhide Hlst hk0; omega
            by_cases hend : 60 * hh + mm = 0
            · go_wp2_with fail
              go_ret
              refine ⟨ret_beq ?_, ((Below.refl _ _).alloc (Nat.le_refl _) _).trans ((unhide B2).mono (by omega))⟩
              have e1 := unhide Hstep
              have e2 := unhide Hcnt
              have e3 := unhide Htot
              rw [hend] at e1; have e4 : cnt (dnP X0 X1 (60 * H0 + m0)) 0 = 0 := rfl; omega
            · go_wp2_with fail
              go_roundw
              case rel =>
                have e1 := unhide Hstep
                have e2 := unhide Hcnt
                (repeat apply Exists.intro)
                refine ⟨?_, rfl⟩
                refine ⟨k + 1, (60 * hh + mm - 1) / 60, (60 * hh + mm - 1) % 60, _, by omega, by omega, by omega, by go_num, rfl, by go_num, by go_num, by go_num, ?_, fun _ => by omega, unhide B2⟩
                rw [show 60 * (((60 * hh + mm - 1)) / 60) + ((60 * hh + mm - 1)) % 60 = (60 * hh + mm - 1) from by omega]
                rw [show 60 * hh + mm - 1 + 1 = 60 * hh + mm from by omega]; omega
              case measure => simp [intOf]; omega

end Go.Proofs.Qxb6619363a
