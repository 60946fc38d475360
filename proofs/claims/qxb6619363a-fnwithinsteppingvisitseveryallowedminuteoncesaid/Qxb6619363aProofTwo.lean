/-
  THE PROOF OF 'Rows.FnWithinSteppingVisitsEveryAllowedMinuteOnceSaid': the frame after the kit's own shells; the walk is mine (Qxb6619363aLawTwo).
-/
import Derived.Test.Qxb6619363aRows
import Derived.Test.Qxb6619363aOpen
import Derived.Test.Qxb6619363aLawTwo
import Derived.ShutString
import Derived.ChangeOld
import Derived.Below
namespace Go.Proofs.Qxb6619363a
open Go.ChangeShapes Go.WideShapes Go.ChangeAt Go.RowKit

set_option maxRecDepth 100000 in
set_option maxHeartbeats 2000000 in
theorem law_two (X0 X1 : Nat) (x2 x3 x4 : Int) (ei : Bool) (hI mI dI : Int) (w : World) (h0 : X0 < 18446744073709551616) (h1 : X1 < 18446744073709551616) :
    Calls Try.prog 4 #[.agg #[.int .u64 X0, .int .u64 X1, .int .u64 x2, .int .u64 x3, .int .u64 x4], .bool ei, .int .i64 hI, .int .i64 mI, .int .i64 dI] w fun e w' => e = .returned (.bool true) ∧ Below w.heap.size w w' := by
  by_cases ha : hI < 0
  · clear h0 h1
    go_enter Try.func4, Try.ntmps4
    go_wp2
    go_ret
    exact ⟨rfl, (Below.refl _ _).alloc (Nat.le_refl _) _⟩
  by_cases hb : 23 < hI
  · clear h0 h1
    go_enter Try.func4, Try.ntmps4
    go_wp2
    go_ret
    exact ⟨rfl, (Below.refl _ _).alloc (Nat.le_refl _) _⟩
  by_cases hc : mI < 0
  · clear h0 h1
    go_enter Try.func4, Try.ntmps4
    go_wp2
    go_ret
    exact ⟨rfl, (Below.refl _ _).alloc (Nat.le_refl _) _⟩
  by_cases hd : 59 < mI
  · clear h0 h1
    go_enter Try.func4, Try.ntmps4
    go_wp2
    go_ret
    exact ⟨rfl, (Below.refl _ _).alloc (Nat.le_refl _) _⟩
  obtain ⟨H0, rfl⟩ := Int.eq_ofNat_of_zero_le (show 0 ≤ hI by omega)
  obtain ⟨m0, rfl⟩ := Int.eq_ofNat_of_zero_le (show 0 ≤ mI by omega)
  by_cases he : dI = 1
  · subst he
    exact two_up X0 X1 x2 x3 x4 ei H0 m0 w h0 h1 (by omega) (by omega)
  by_cases hf : dI = -1
  · subst hf
    exact two_dn X0 X1 x2 x3 x4 ei H0 m0 w h0 h1 (by omega) (by omega)
  · have e1 : (dI != 1) = true := by rw [bne_iff_ne]; exact he
    have e2 : (dI != -1) = true := by rw [bne_iff_ne]; exact hf
    clear h0 h1
    go_enter Try.func4, Try.ntmps4
    go_wp2
    go_ret
    exact ⟨rfl, (Below.refl _ _).alloc (Nat.le_refl _) _⟩

theorem Try.own4 : ownKnob Try.prog.godebug = none := by kernel_rfl
theorem Try.laidOut4 : laidOutB Try.prog = true := by kernel_rfl

set_option maxRecDepth 100000 in
theorem two_lifted (os : Os) (started : os.Started) (H : Type) (enc : TypeId × Value → H) :
    ReturnsInHanded {} Try.checked os 4 .any (Rows.fnWithinSteppingVisitsEveryAllowedMinuteOnceSpec.pre6 enc Try.prog Try.f4 Rows.fnWithinSteppingVisitsEveryAllowedMinuteOnceRow.domain false) (Rows.fnWithinSteppingVisitsEveryAllowedMinuteOnceSpec.post enc Try.prog Try.f4 false true false false) := by
  refine returnsInHanded_of_change (C := Try.checked) Try.own4 started (by kernel_rfl) Try.func4
    (ChangeSpec.witness6 (enc := enc) (C := Try.checked) false ⟨#[], #[.agg #[.int .u64 0, .int .u64 0, .int .u64 0, .int .u64 0, .int .u64 0], .bool false, .int .i64 0, .int .i64 0, .int .i64 0], []⟩ 8 (by kernel_rfl) (by kernel_rfl) (by kernel_rfl) (by kernel_rfl)) ?_
  intro W base args ds gs before hval0 hW hcnd _
  have hval : ∀ (j : Nat) t v, Try.f4.params[j]? = some t → args[j]? = some v → Value.okWide Try.prog W .any base t v := hval0
  have hW' := hW
  obtain ⟨p, q, hA0, hV, rfl, hfz, hnd⟩ := hW
  have hA : DataW.TrodAll enc Try.prog W 0 (fun _ => true) true Try.f4.params.toList args.toList ds p := hA0
  rw [Try.params4] at hA hval
  obtain ⟨v0, vs0, d0, ds0, p0, q0, hargs, rfl, rfl, h0, r0⟩ := trodAll_cons hA
  obtain ⟨v1, vs1, d1, ds1, p1, q1, rfl, rfl, rfl, h1, r1⟩ := trodAll_cons r0
  obtain ⟨v2, vs2, d2, ds2, p2, q2, rfl, rfl, rfl, h2, r2⟩ := trodAll_cons r1
  obtain ⟨v3, vs3, d3, ds3, p3, q3, rfl, rfl, rfl, h3, r3⟩ := trodAll_cons r2
  obtain ⟨v4, vs4, d4, ds4, p4, q4, rfl, rfl, rfl, h4, r4⟩ := trodAll_cons r3
  obtain ⟨rfl, rfl, rfl⟩ := trodAll_nil r4
  obtain rfl : args = #[v0, v1, v2, v3, v4] := by cases args; simp_all
  obtain ⟨rfl, rfl⟩ := trodVars_none hV
  have k0 := h0
  have lt0 : ∀ x ∈ p0, x.block < W.heap.size := by obtain ⟨m, hm⟩ := k0; exact DataW.trod_lt m _ _ _ hm
  obtain ⟨X0, X1, x2, x3, x4, hX0, hX1, rfl⟩ := open_masks (hval 0 23 v0 rfl rfl) h0
  obtain ⟨b1, rfl, rfl, rfl⟩ := open_bool Try.underlying4 (hval 1 4 v1 rfl rfl) h1
  obtain ⟨z2, rfl, rfl, rfl, wz2⟩ := open_int Try.underlying3 (hval 2 3 v2 rfl rfl) h2
  obtain ⟨z3, rfl, rfl, rfl, wz3⟩ := open_int Try.underlying3 (hval 3 3 v3 rfl rfl) h3
  obtain ⟨z4, rfl, rfl, rfl, wz4⟩ := open_int Try.underlying3 (hval 4 3 v4 rfl rfl) h4
  clear hA0 hval0
  refine (law_two X0 X1 x2 x3 x4 b1 z2 z3 z4 W hX0 hX1).mono fun e W' ⟨he, bel⟩ => ?_
  subst he
  exact ⟨_, rfl, _, _, _, [], _, [], hW', trodAll_mk1 (shut_bool Try.underlying4 _), (trodAll_cons_mk (Below.trod Try.laidOut4 (by kernel_rfl) (of_decide_eq_true (by kernel_rfl)) k0 bel lt0) (trodAll_cons_mk (shut_bool Try.underlying4 _) (trodAll_cons_mk (shut_int Try.underlying3 wz2) (trodAll_cons_mk (shut_int Try.underlying3 wz3) (trodAll_cons_mk (shut_int Try.underlying3 wz4) trodAll_mk0))))), rfl, bel.frame _, fun h => by cases h⟩

theorem withinSteppingProved : Rows.FnWithinSteppingVisitsEveryAllowedMinuteOnceSaid :=
  OpenClaim.holds_of_wide 4 Try.f4 rfl rfl rfl rfl rfl rfl rfl ⟨rfl, rfl, rfl, rfl, rfl⟩ rfl rfl rfl rfl rfl (by kernel_rfl) Try.func4 (by kernel_rfl)
    (of_decide_eq_true (by kernel_rfl)) (by unfold Func.isWrapper; first | (rw [if_pos (by decide +kernel)]; kernel_rfl) | (rw [if_neg (by decide +kernel)]; exact ⟨rfl, rfl⟩))
    (fun os started H enc _ => two_lifted os started H enc)

end Go.Proofs.Qxb6619363a
