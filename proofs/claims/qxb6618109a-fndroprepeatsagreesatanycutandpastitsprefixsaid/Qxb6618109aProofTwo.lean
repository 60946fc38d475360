/-
  THE PROOF OF 'Rows.FnDropRepeatsAgreesAtAnyCutAndPastItsPrefixSaid': the frame after the kit's own shells; the walk is mine (Qxb6618109aLawTwo).
-/
import Derived.Test.Qxb6618109aRows
import Derived.Test.Qxb6618109aOpen
import Derived.Test.Qxb6618109aLawTwo
import Derived.OpenShut
import Derived.ShutString
import Derived.ChangeOld
import Derived.Below
namespace Go.Proofs.Qxb6618109a
open Go.ChangeShapes Go.WideShapes Go.ChangeAt Go.RowKit

set_option maxRecDepth 100000 in
set_option maxHeartbeats 2000000 in
theorem law_two (a : Option Addr) (n c : Nat) (mI cI : Int) (ps : List Pb) (w : World) (hm : n ≤ maxLen) (hgood : ∀ q ∈ ps, Good q) (hr : PRow w a n ps) (hx : a = none → n = 0 ∧ c = 0) :
    Calls Try.prog 4 #[.slice a n c, .int .i64 mI, .int .i64 cI] w fun e w' => e = .returned (.bool true) ∧ Below w.heap.size w w' := by
  have h15 := bytes15 a n c mI cI ps w hm (good_size hgood) hr
  have h8 := tooBig_any a n c ps w hm (good_size hgood) hr
  by_cases hin : n ≤ 4096 ∧ 0 ≤ mI ∧ mI ≤ cI ∧ cI ≤ n
  · obtain ⟨hn4, h0, hmc, hcn⟩ := hin
    obtain ⟨m, rfl⟩ := Int.eq_ofNat_of_zero_le h0
    obtain ⟨cc, rfl⟩ := Int.eq_ofNat_of_zero_le (show 0 ≤ cI by omega)
    exact law_two_in a n c m cc ps w hn4 (by omega) (by omega) hgood hr hx h15 h8
  · have F15 := hide h15
    have F8 := hide h8
    unfold maxLen at hm
    clear h15 h8 hgood hr hx
    go_enter Try.func4, Try.ntmps4
    go_wp2_with fail
    refine (unhide F15).mono ?_
    rintro e w' ⟨b, rfl, hw, -⟩
    obtain rfl : w = w' := hw
    clear F15
    cases b
    · go_wp2_with fail
      go_ret
      exact ⟨rfl, Below.refl _ _⟩
    go_wp2_with fail
    refine (unhide F8).mono ?_
    rintro e w' ⟨b, rfl, hw, hb⟩
    obtain rfl : w = w' := hw
    clear F8
    cases b
    · have hn4 : n ≤ 4096 := hb rfl
      clear hb
      by_cases hneg : mI < 0
      · go_wp2_with fail
        go_ret
        exact ⟨rfl, Below.refl _ _⟩
      by_cases hbig : (n : Int) < mI
      · have hneg' : ¬ mI < 0 := hneg
        go_wp2_with fail
        go_ret
        exact ⟨rfl, Below.refl _ _⟩
      by_cases hcm : cI < mI
      · have hneg' : ¬ mI < 0 := hneg
        have hbig' : ¬ (n : Int) < mI := hbig
        go_wp2_with fail
        go_ret
        exact ⟨rfl, Below.refl _ _⟩
      · have hneg' : ¬ mI < 0 := hneg
        have hbig' : ¬ (n : Int) < mI := hbig
        have hcn : (n : Int) < cI := by omega
        clear hin
        go_wp2_with fail
        go_ret
        exact ⟨rfl, Below.refl _ _⟩
    · go_wp2_with fail
      go_ret
      exact ⟨rfl, Below.refl _ _⟩

theorem Try.ownTwo : ownKnob Try.prog.godebug = none := by kernel_rfl

set_option maxRecDepth 100000 in
theorem two_lifted (os : Os) (started : os.Started) (H : Type) (enc : TypeId × Value → H) :
    ReturnsInHanded {} Try.checked os 4 .any (Rows.fnDropRepeatsAgreesAtAnyCutAndPastItsPrefixSpec.pre6 enc Try.prog Try.f4 Rows.fnDropRepeatsAgreesAtAnyCutAndPastItsPrefixRow.domain false) (Rows.fnDropRepeatsAgreesAtAnyCutAndPastItsPrefixSpec.post enc Try.prog Try.f4 false true false false) := by
  refine returnsInHanded_of_change (C := Try.checked) Try.ownTwo started (by kernel_rfl) Try.func4
    (ChangeSpec.witness6 (enc := enc) (C := Try.checked) false ⟨#[], #[.slice none 0 0, .int .i64 0, .int .i64 0], []⟩ 8 (by kernel_rfl) (by kernel_rfl) (by kernel_rfl) (by kernel_rfl)) ?_
  intro W base args ds gs before hval0 hW hcnd _
  have hval : ∀ (j : Nat) t v, Try.f4.params[j]? = some t → args[j]? = some v → Value.okWide Try.prog W .any base t v := hval0
  have hW' := hW
  obtain ⟨p, q, hA0, hV, rfl, hfz, hnd⟩ := hW
  have hA : DataW.TrodAll enc Try.prog W 0 (fun _ => true) true Try.f4.params.toList args.toList ds p := hA0
  rw [Try.params4] at hA hval
  obtain ⟨v0, vs0, d0, ds0, p0, q0, hargs, rfl, rfl, h0, r0⟩ := trodAll_cons hA
  obtain ⟨v1, vs1, d1, ds1, p1, q1, rfl, rfl, rfl, h1, r1⟩ := trodAll_cons r0
  obtain ⟨v2, vs2, d2, ds2, p2, q2, rfl, rfl, rfl, h2, r2⟩ := trodAll_cons r1
  obtain ⟨rfl, rfl, rfl⟩ := trodAll_nil r2
  obtain rfl : args = #[v0, v1, v2] := by cases args; simp_all
  obtain ⟨rfl, rfl⟩ := trodVars_none hV
  obtain ⟨a0, len0, cap0, rfl⟩ := okWide_slice Try.underlying22 (hval 0 22 v0 rfl rfl)
  have k0 := h0
  have lt0 : ∀ x ∈ p0, x.block < W.heap.size := by obtain ⟨m, hm⟩ := k0; exact DataW.trod_lt m _ _ _ hm
  obtain ⟨ps, w0, n0, m0, g0⟩ : ∃ ps, PRow W a0 len0 ps ∧ (a0 = none → len0 = 0 ∧ cap0 = 0) ∧ len0 ≤ maxLen ∧ ∀ q ∈ ps, Good q := by
    obtain ⟨fuel, hf⟩ := h0
    exact open_pbs hf
  obtain ⟨z1, rfl, rfl, rfl, wz1⟩ := open_int Try.underlying3 (hval 1 3 v1 rfl rfl) h1
  obtain ⟨z2, rfl, rfl, rfl, wz2⟩ := open_int Try.underlying3 (hval 2 3 v2 rfl rfl) h2
  clear hA0 hval0
  refine (law_two a0 len0 cap0 z1 z2 ps W m0 g0 w0 n0).mono fun e W' ⟨he, bel⟩ => ?_
  subst he
  exact ⟨_, rfl, _, _, _, [], _, [], hW', trodAll_mk1 (shut_bool Try.underlying4 _), (trodAll_cons_mk (Below.trod Try.laidOut (by kernel_rfl) (of_decide_eq_true (by kernel_rfl)) k0 bel lt0) (trodAll_cons_mk (shut_int Try.underlying3 wz1) (trodAll_cons_mk (shut_int Try.underlying3 wz2) trodAll_mk0))), rfl, bel.frame _, fun h => by cases h⟩

theorem dropRepeatsCutProved : Rows.FnDropRepeatsAgreesAtAnyCutAndPastItsPrefixSaid :=
  OpenClaim.holds_of_wide 4 Try.f4 rfl rfl rfl rfl rfl rfl rfl ⟨rfl, rfl, rfl, rfl, rfl⟩ rfl rfl rfl rfl rfl (by kernel_rfl) Try.func4 (by kernel_rfl)
    (of_decide_eq_true (by kernel_rfl)) (by unfold Func.isWrapper; first | (rw [if_pos (by decide +kernel)]; kernel_rfl) | (rw [if_neg (by decide +kernel)]; exact ⟨rfl, rfl⟩))
    (fun os started H enc _ => two_lifted os started H enc)

end Go.Proofs.Qxb6618109a
