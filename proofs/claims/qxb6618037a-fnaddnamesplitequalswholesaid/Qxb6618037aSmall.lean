/-
  MY OWN WORK (seat b6618037a). The law's own walk at lengths within the law's bounds.
-/
import Derived.Test.Qxb6618037aMain
import Derived.Deep.DeepCutAuto
namespace Go.Proofs.Qxb6618037a
open Go.RowKit

set_option maxRecDepth 100000 in
set_option maxHeartbeats 4000000 in
theorem main_small (a0 a6 a7 : Option Addr) (l0 c0 l6 c6 l7 c7 : Nat) (z0 z6 z7 : List Int) (a1 a2 a3 a4 a5 : Bool) (w : World) (h : l0 + l6 + l7 ≤ 1048576) (h0 : l0 ≤ 262144) (h6 : l6 ≤ 262144) (h7 : l7 ≤ 262144)
    (r0 : Row w a0 l0 z0) (r6 : Row w a6 l6 z6) (r7 : Row w a7 l7 z7) (n0 : a0 = none → l0 = 0 ∧ c0 = 0) (n6 : a6 = none → l6 = 0 ∧ c6 = 0) (n7 : a7 = none → l7 = 0 ∧ c7 = 0) :
    Calls Try.prog 4 #[.slice a0 l0 c0, .bool a1, .bool a2, .bool a3, .bool a4, .bool a5, .slice a6 l6 c6, .slice a7 l7 c7] w fun e w' => e = .returned (.bool true) ∧ Below w.heap.size w w' := by
  have hq : ∀ (w : World) (a : Option Addr) (n c : Nat), (binOp .neq 22 (.slice a n c) (.slice none 0 0)).run Try.prog w = .ok (.bool (!a.isNone)) w := fun w a n c => run_neq_slice_nil_any w 22 5 a n c 0 0 Try.underlying22
  have R0 := hide r0
  have R6 := hide r6
  have R7 := hide r7
  have N0 := hide n0
  have N6 := hide n6
  have N7 := hide n7
  clear r0 r6 r7 n0 n6 n7
  go_enter Try.func4, Try.ntmps4
  go_wp2_with fail
  refine (bytes_small a0 a6 a7 l0 c0 l6 c6 l7 c7 a1 a2 a3 a4 a5 w h).mono ?_
  rintro e w' ⟨rfl, hw⟩
  obtain rfl : w = w' := hw.symm
  clear hw
  go_upto_if 57 with fail
  go_cut [6] (fun s wr => ∃ a' c', s = .slice a' l6 c' ∧ (a' = none → l6 = 0 ∧ c' = 0) ∧ Row wr a' l6 z6 ∧ Below w.heap.size w wr)
  case first =>
    cases a6 with
    | none =>
      go_wp2_with fail
      go_meet
      exact ⟨none, c6, rfl, by simpa using unhide N6, unhide R6, Below.refl _ _⟩
    | some x =>
      have hmk := fun w => run_make_row' (P := Try.prog) 22 5 (.int .u8 0) 1 Try.underlying22 Try.info5 rfl .i64 .i64 l6 (by omega) (by omega) w
      have hcp := fun ty => run_copy_new w x l6 c6 z6 ty (unhide R6)
      go_wp2_with fail
      go_meet
      exact ⟨_, l6, rfl, (fun h => by cases h), row_new w z6 5 l6 (unhide R6).1, (Below.refl _ _).alloc (Nat.le_refl _) _⟩
  case rest =>
    obtain ⟨a6', c6', rfl, n6', r6', b6⟩ := hcut
    rename World => w1
    have R0' := hide ((unhide R0).kept b6)
    have R7' := hide ((unhide R7).kept b6)
    have R6' := hide r6'
    have N6' := hide n6'
    have B6 := hide b6
    clear r6' b6 n6' R0 R6 R7 N6
    go_upto_if 66 with fail
    go_cut [7] (fun s wr => ∃ a' c', s = .slice a' l7 c' ∧ (a' = none → l7 = 0 ∧ c' = 0) ∧ Row wr a' l7 z7 ∧ Below w1.heap.size w1 wr)
    case first =>
      cases a7 with
      | none =>
        go_wp2_with fail
        go_meet
        exact ⟨none, c7, rfl, by simpa using unhide N7, unhide R7', Below.refl _ _⟩
      | some x =>
        have hmk := fun w => run_make_row' (P := Try.prog) 22 5 (.int .u8 0) 1 Try.underlying22 Try.info5 rfl .i64 .i64 l7 (by omega) (by omega) w
        have hcp := fun ty => run_copy_new w1 x l7 c7 z7 ty (unhide R7')
        go_wp2_with fail
        go_meet
        exact ⟨_, l7, rfl, (fun h => by cases h), row_new w1 z7 5 l7 (unhide R7').1, (Below.refl _ _).alloc (Nat.le_refl _) _⟩
    case rest =>
      obtain ⟨a7', c7', rfl, n7', r7', b7⟩ := hcut
      rename World => w2
      have R0 := hide ((unhide R0').kept b7)
      have R6 := hide ((unhide R6').kept b7)
      have R7 := hide r7'
      have N7' := hide n7'
      have B7 := hide ((unhide B6).trans (b7.mono (unhide B6).size))
      clear r7' b7 n7' R0' R6' R7' N7 B6 hq
      go_wp2_with fail
      refine (clone_any a0 l0 c0 z0 w2 (by omega) (unhide R0) (unhide N0)).mono ?_
      rintro e w3 ⟨a3', c3', rfl, -, r3, b3⟩
      have R0a := hide ((unhide R0).kept b3)
      have R6a := hide ((unhide R6).kept b3)
      have R7a := hide ((unhide R7).kept b3)
      have Rn := hide r3
      have B3 := hide ((unhide B7).trans (b3.mono (unhide B7).size))
      clear R0 R6 R7 B7 r3 b3
      go_wp2_with fail
      refine (cat_row a6' a7' l6 c6' l7 c7' z6 z7 w3 (by omega) (unhide R6a) (unhide R7a)).mono ?_
      rintro e w4 ⟨x4, rfl, r4, b4⟩
      have R0 := hide ((unhide R0a).kept b4)
      have R6 := hide ((unhide R6a).kept b4)
      have R7 := hide ((unhide R7a).kept b4)
      have Rn' := hide ((unhide Rn).kept b4)
      have Rab := hide r4
      have B4 := hide ((unhide B3).trans (b4.mono (unhide B3).size))
      clear R0a R6a R7a B3 r4 b4 Rn
      go_wp2_with fail
      refine (cat_row a3' (some x4) l0 c3' (l6 + l7) (l6 + l7) z0 (z6 ++ z7) w4 (by omega) (unhide Rn') (unhide Rab)).mono ?_
      rintro e w5 ⟨x5, rfl, r5, b5⟩
      have R0a := hide ((unhide R0).kept b5)
      have R6a := hide ((unhide R6).kept b5)
      have R7a := hide ((unhide R7).kept b5)
      have Rna := hide ((unhide Rn').kept b5)
      have Raba := hide ((unhide Rab).kept b5)
      have Rwant := hide r5
      have B5 := hide ((unhide B4).trans (b5.mono (unhide B4).size))
      clear R0 R6 R7 B4 r5 b5 Rn' Rab
      go_upto_region 20 with fail
      go_cut [22] (fun s wr => s = .bool (a1 || decide (4 < l0 + l6 + l7)) ∧ wr = w5)
      case first =>
        cases a1
        · by_cases hs : 4 < l0 + l6 + l7
          · have hs' : (4 : Int) < (l0 : Int) + (l6 : Int) + (l7 : Int) := by omega
            go_wp2_with fail
            go_meet
            exact ⟨by simp [hs], rfl⟩
          · have hs' : ¬ (4 : Int) < (l0 : Int) + (l6 : Int) + (l7 : Int) := by omega
            go_wp2_with fail
            go_meet
            exact ⟨by simp [hs], rfl⟩
        · go_wp2_with fail
          go_meet
          exact ⟨by simp, rfl⟩
      case rest =>
        obtain ⟨rfl, rfl⟩ := hcut
        rename World => w5
        generalize hwl : (a1 || decide (4 < l0 + l6 + l7)) = wl
        have Hwl := hide hwl
        clear hwl
        go_wp2_with fail
        refine (clone_any a0 l0 c0 z0 w5 (by omega) (unhide R0a) (unhide N0)).mono ?_
        rintro e w6 ⟨a6n, c6n, rfl, o6, -, b6⟩
        have O6 := hide o6
        have Bel6 := hide b6
        clear o6 b6
        go_wp2_with fail
        refine (make_any a6n l0 c6n a1 a2 a3 a4 a5 w6).mono ?_
        rintro e w7 ⟨rfl, rfl⟩
        go_wp2_with fail
        have hl0 : z0.length = l0 := (unhide R0a).1
        have hl6 : z6.length = l6 := (unhide R6a).1
        have hl7 : z7.length = l7 := (unhide R7a).1
        have K7 := hide (((unhide Bel6).alloc (unhide Bel6).size (.cells #[.slice a6n l0 c6n, .bool a1, .bool a2, .bool a3, .bool a4, .bool a5] 28)).alloc (by have := (unhide Bel6).size; simp; omega) (.cells #[.slice a6n l0 c6n, .bool a1, .bool a2, .bool a3, .bool a4, .bool a5] 28))
        have F7 := hide (fr_made w6 w5.heap.size l0 a6n c6n z0 a1 a2 a3 a4 a5 (unhide O6) (unhide Bel6).size (.cells #[.slice a6n l0 c6n, .bool a1, .bool a2, .bool a3, .bool a4, .bool a5] 28))
        have HL0 := hide hl0
        have HL6 := hide hl6
        have HL7 := hide hl7
        clear hl0 hl6 hl7 O6 Bel6
        refine (zzAddName_any w5.heap.size (w6.heap.size + 1) z0 z6 a1 a2 a3 a4 a5 a6' l6 c6' _ (unhide F7) ((unhide R6a).kept (unhide K7)) (unhide N6') (by rw [unhide HL0]; omega) (by omega)).mono ?_
        rintro e w8 ⟨rfl, f8, b8⟩
        have F8 := hide f8
        have K8 := hide ((unhide K7).trans b8)
        clear f8 b8 K7 F7
        go_wp2_with fail
        have hsz : (addN z0 a1 z6).1.length ≤ 1048576 := by have := addN_big z0 a1 z6; rw [unhide HL0, unhide HL6] at this; omega
        refine (zzAddName_any w5.heap.size (w6.heap.size + 1) _ z7 _ a2 a3 a4 a5 a7' l7 c7' _ (unhide F8) ((unhide R7a).kept (unhide K8)) (unhide N7') hsz (by omega)).mono ?_
        clear hsz
        rintro e w9 ⟨rfl, f9, b9⟩
        rw [addN2_snd, unhide HL0, unhide HL6, unhide HL7, unhide Hwl] at f9
        have P9 := hide (addN2_pre z0 a1 z6 z7)
        have Q9 := hide (fun h => addN_le _ (addN z0 a1 z6).2 z7 (addN_le z0 a1 z6 h))
        have S9 := hide (addN2_all z0 a1 z6 z7)
        have T9 := hide (Nat.le_trans (addN_big (addN z0 a1 z6).1 (addN z0 a1 z6).2 z7) (Nat.add_le_add_right (addN_big z0 a1 z6) _))
        generalize (addN (addN z0 a1 z6).1 (addN z0 a1 z6).2 z7).1 = n1 at f9 P9 Q9 S9 T9
        have K9 := hide ((unhide K8).trans b9)
        obtain ⟨a9, c9, hb9, r9⟩ := f9.row
        have HB9 := hide hb9
        have R9 := hide r9
        have hp9 : w6.heap.size + 1 < w9.heap.size := lt_of_block hb9
        clear f9 b9 K8 F8 hb9 r9
        go_wp2_with fail
        refine (clone_any a0 l0 c0 z0 w9 (by omega) ((unhide R0a).kept (unhide K9)) (unhide N0)).mono ?_
        rintro e w10 ⟨a10, c10, rfl, o10, -, b10⟩
        have O10 := hide o10
        have Bel10 := hide b10
        clear o10 b10
        go_wp2_with fail
        refine (make_any a10 l0 c10 a1 a2 a3 a4 a5 w10).mono ?_
        rintro e w11 ⟨rfl, rfl⟩
        go_wp2_with fail
        have K11 := hide (((unhide Bel10).alloc (unhide Bel10).size (.cells #[.slice a10 l0 c10, .bool a1, .bool a2, .bool a3, .bool a4, .bool a5] 28)).alloc (by have := (unhide Bel10).size; simp; omega) (.cells #[.slice a10 l0 c10, .bool a1, .bool a2, .bool a3, .bool a4, .bool a5] 28))
        have F11 := hide (fr_made w10 w9.heap.size l0 a10 c10 z0 a1 a2 a3 a4 a5 (unhide O10) (unhide Bel10).size (.cells #[.slice a10 l0 c10, .bool a1, .bool a2, .bool a3, .bool a4, .bool a5] 28))
        clear O10 Bel10
        refine (zzAddName_any w9.heap.size (w10.heap.size + 1) z0 (z6 ++ z7) a1 a2 a3 a4 a5 (some x4) (l6 + l7) (l6 + l7) _ (unhide F11) (((unhide Raba).kept (unhide K9)).kept (unhide K11)) (fun h => by cases h) (by rw [unhide HL0]; omega) (by omega)).mono ?_
        rintro e w12 ⟨rfl, f12, b12⟩
        rw [addN_snd, List.length_append, unhide HL0, unhide HL6, unhide HL7, ← Nat.add_assoc, unhide Hwl] at f12
        have P12 := hide (addN_pre z0 a1 (z6 ++ z7))
        have Q12 := hide (addN_le z0 a1 (z6 ++ z7))
        have S12 := hide (addN_all z0 a1 (z6 ++ z7))
        have T12 := hide (addN_big z0 a1 (z6 ++ z7))
        generalize (addN z0 a1 (z6 ++ z7)).1 = n2 at f12 P12 Q12 S12 T12
        have K12 := hide ((unhide K11).trans b12)
        obtain ⟨a12, c12, hb12, r12⟩ := f12.row
        have HB12 := hide hb12
        have R12 := hide r12
        clear f12 b12 K11 F11 hb12 r12
        go_wp2_with fail
        refine (fields_any (w6.heap.size + 1) a9 n1.length c9 wl a2 a3 a4 a5 w12 (((unhide K12).block _ hp9).trans (unhide HB9))).mono ?_
        rintro e w13 ⟨rfl, b13⟩
        have B13 := hide b13
        clear b13
        go_wp2_with fail
        refine (fields_any (w10.heap.size + 1) a12 n2.length c12 wl a2 a3 a4 a5 w13 (((unhide B13).block _ (lt_of_block (unhide HB12))).trans (unhide HB12))).mono ?_
        rintro e w14 ⟨rfl, b14⟩
        have K14 := hide ((unhide B13).trans (b14.mono (unhide B13).size))
        clear b14 B13 hp9
        go_wp2_with fail
        have Rn1 := hide ((((unhide Rna).kept (unhide K9)).kept (unhide K12)).kept (unhide K14))
        have Rw1 := hide ((((unhide Rwant).kept (unhide K9)).kept (unhide K12)).kept (unhide K14))
        have R91 := hide (((unhide R9).kept (unhide K12)).kept (unhide K14))
        have R121 := hide ((unhide R12).kept (unhide K14))
        have BB := hide ((((unhide B5).trans ((unhide K9).mono (unhide B5).size)).trans ((unhide K12).mono (Nat.le_trans (unhide B5).size (unhide K9).size))).trans ((unhide K14).mono (Nat.le_trans (Nat.le_trans (unhide B5).size (unhide K9).size) (unhide K12).size)))
        have t1 : n1.length ≤ 1048576 := by have := unhide T9; rw [unhide HL0, unhide HL6, unhide HL7] at this; omega
        have t2 : n2.length ≤ 1048576 := by have := unhide T12; rw [List.length_append, unhide HL0, unhide HL6, unhide HL7] at this; omega
        have T1 := hide t1
        have T2 := hide t2
        clear Rna Rwant R9 R12 B5 K9 K12 K14 HB9 HB12 R0a R6a R7a Raba t1 t2 N0 N6' N7' T9 T12
        refine (prefix_yes a9 a3' n1.length c9 l0 c3' n1 z0 w14 (by have := unhide T1; unfold maxLen; omega) (unhide R91) (unhide Rn1) (by have := (unhide P9).1; rw [unhide HL0] at this; exact this) (fun i hi => (unhide P9).2 i (by rw [unhide HL0]; exact hi))).mono ?_
        rintro e w15 ⟨rfl, b15⟩
        have Rn2 := hide ((unhide Rn1).kept b15)
        have Rw2 := hide ((unhide Rw1).kept b15)
        have R92 := hide ((unhide R91).kept b15)
        have R122 := hide ((unhide R121).kept b15)
        have BB2 := hide ((unhide BB).trans (b15.mono (unhide BB).size))
        clear Rn1 Rw1 R91 R121 BB b15 P9
        go_wp2_with fail
        refine (prefix_yes a12 a3' n2.length c12 l0 c3' n2 z0 w15 (by have := unhide T2; unfold maxLen; omega) (unhide R122) (unhide Rn2) (by have := (unhide P12).1; rw [unhide HL0] at this; exact this) (fun i hi => (unhide P12).2 i (by rw [unhide HL0]; exact hi))).mono ?_
        rintro e w16 ⟨rfl, b16⟩
        have Rw3 := hide ((unhide Rw2).kept b16)
        have R93 := hide ((unhide R92).kept b16)
        have R123 := hide ((unhide R122).kept b16)
        have BB3 := hide ((unhide BB2).trans (b16.mono (unhide BB2).size))
        clear Rn2 Rw2 R92 R122 BB2 b16 P12
        cases wl
        · have hno : ¬ 4 < l0 + l6 + l7 := by have := unhide Hwl; simp at this; omega
          have e1 : n1 = z0 ++ (z6 ++ z7) := (unhide S9) (by rw [unhide HL0, unhide HL6, unhide HL7]; exact hno)
          have e2 : n2 = z0 ++ (z6 ++ z7) := (unhide S12) (by rw [List.length_append, unhide HL0, unhide HL6, unhide HL7]; omega)
          have ln1 : n1.length = l0 + (l6 + l7) := by rw [e1]; simp [unhide HL0, unhide HL6, unhide HL7]
          have ln2 : n2.length = l0 + (l6 + l7) := by rw [e2]; simp [unhide HL0, unhide HL6, unhide HL7]
          have R94 : Hid (Row w16 a9 (l0 + (l6 + l7)) (z0 ++ (z6 ++ z7))) := by have := unhide R93; rw [ln1, e1] at this; exact hide this
          have R124 : Hid (Row w16 a12 (l0 + (l6 + l7)) (z0 ++ (z6 ++ z7))) := by have := unhide R123; rw [ln2, e2] at this; exact hide this
          rw [ln1, ln2]
          clear e1 e2 ln1 ln2 R93 R123 Q9 S9 Q12 S12 T1 T2
          have hl4 : l0 + (l6 + l7) ≤ 4 := by omega
          go_wp2_with fail
          refine (eq_yes a9 (some x5) (l0 + (l6 + l7)) c9 (l0 + (l6 + l7)) (z0 ++ (z6 ++ z7)) w16 (by unfold maxLen; omega) (unhide R94) (unhide Rw3)).mono ?_
          rintro e w17 ⟨rfl, b17⟩
          have Rw4 := hide ((unhide Rw3).kept b17)
          have R125 := hide ((unhide R124).kept b17)
          have BB4 := hide ((unhide BB3).trans (b17.mono (unhide BB3).size))
          clear Rw3 R94 R124 BB3 b17
          go_wp2_with fail
          refine (eq_yes a12 (some x5) (l0 + (l6 + l7)) c12 (l0 + (l6 + l7)) (z0 ++ (z6 ++ z7)) w17 (by unfold maxLen; omega) (unhide R125) (unhide Rw4)).mono ?_
          rintro e w18 ⟨rfl, b18⟩
          have BB5 := hide ((unhide BB4).trans (b18.mono (unhide BB4).size))
          clear Rw4 R125 BB4 b18
          go_wp2_with fail
          go_ret
          exact ⟨rfl, unhide BB5⟩
        · by_cases hl4 : l0 ≤ 4
          · have q1 : n1.length ≤ 4 := (unhide Q9) (by rw [unhide HL0]; exact hl4)
            have q2 : n2.length ≤ 4 := (unhide Q12) (by rw [unhide HL0]; exact hl4)
            clear R93 R123 Q9 S9 Q12 S12 T1 T2
            go_wp2_with fail
            go_ret
            exact ⟨rfl, unhide BB3⟩
          · have q1 := unhide T1
            have q2 := unhide T2
            clear R93 R123 Q9 S9 Q12 S12 T1 T2
            go_wp2_with fail
            go_ret
            exact ⟨rfl, unhide BB3⟩

end Go.Proofs.Qxb6618037a
