/-
  MY OWN WORK (seat b6619383a). zzClaims, zzToken, zzLast.
-/
import Derived.Test.Qxb6619383aMap
namespace Go.Proofs.Qxb6619383a
open Go.RowKit

theorem claims_nil (w : World) : Calls Try.prog 11 #[.slice none 0 0] w fun e w' => e = .returned (.map none) ∧ w' = w := by
  have hq : ∀ (w : World) (a : Option Addr) (n c : Nat), (binOp .eql 27 (.slice a n c) (.slice none 0 0)).run Try.prog w = .ok (.bool a.isNone) w := fun w a n c => Lib.run_eql_slice_nil w 27 36 a n c 0 0 Try.underlying27
  go_enter Try.func11, Try.ntmps11
  go_wp2
  go_ret
  exact ⟨rfl, rfl⟩

set_option maxHeartbeats 1000000 in
theorem claims_some (x : Addr) (n c : Nat) (cs : List Cl) (w : World) (hn : n ≤ 65536) (hs : ∀ p ∈ cs, Good p) (hr : CRow w (some x) n cs) :
    Calls Try.prog 11 #[.slice (some x) n c] w fun e w' => e = .returned (.map (some w.heap.size)) ∧ MapV w' w.heap.size n (build fnil cs) ∧ Below w.heap.size w w' := by
  have hq : ∀ (w : World) (a : Option Addr) (n c : Nat), (binOp .eql 27 (.slice a n c) (.slice none 0 0)).run Try.prog w = .ok (.bool a.isNone) w := fun w a n c => Lib.run_eql_slice_nil w 27 36 a n c 0 0 Try.underlying27
  have hmm := run_makeMap_n 31 Try.underlying31
  have Hs := hide hs
  have Hr := hide hr
  have Hl := hide hr.1
  clear hs hr
  go_enter Try.func11, Try.ntmps11
  go_wp2
  clear hq hmm
  go_loopw [4] (fun i wr => ∃ k : Nat, k ≤ n ∧ i = .int .i64 k ∧ MapV wr w.heap.size k (build fnil (cs.take k)) ∧ Below w.heap.size w wr) (fun i _ => n - (intOf i).toNat)
  case atStart => exact ⟨0, Nat.zero_le _, rfl, MapV.made w, (Below.refl _ _).alloc (Nat.le_refl _) _⟩
  case round =>
    obtain ⟨k, hk, rfl, hM, hB⟩ := hrel
    by_cases hlt : k < n
    · obtain ⟨ba, oa, ex, hca⟩ := ((unhide Hr).kept hB).2 (by omega)
      obtain rfl := Option.some.inj ex
      obtain ⟨g1, g2⟩ := hca k hlt
      have hkl : k < cs.length := by rw [unhide Hl]; exact hlt
      obtain ⟨s1, s2⟩ := good_at (unhide Hs) hkl
      obtain ⟨w1, hrun, hM1, hg1⟩ := hM.drew.put 31 Try.underlying31 (by unfold maxLen; omega) (cs.getD k cz).1 (cs.getD k cz).2 s1 s2
      have hbs : build fnil (cs.take (k + 1)) = upd (build fnil (cs.take k)) (cs.getD k cz).1 (cs.getD k cz).2 := by rw [build_take _ _ _ hkl, getD_at hkl]
      rw [← hbs] at hM1
      generalize (cs.getD k cz).1 = s at g1 hrun
      generalize (cs.getD k cz).2 = v at g2 hrun
      have hB1 : Below w.heap.size w w1 := (hB.drew).grown hg1 hB.size (fun j hj => by cases hj; exact Nat.le_refl _)
      have hi1 : (k : Int) < (n : Int) := by omega
      have HM1 := hide hM1
      have HB1 := hide hB1
      clear hca ex s1 s2 hbs hM hM1 hg1 hB hB1 hkl
      go_wp2
      go_region
      all_goals go_wp2
      all_goals
        go_roundw
        case rel => exact ⟨k + 1, by omega, by go_num, unhide HM1, unhide HB1⟩
        case measure => simp [intOf]; omega
    · obtain rfl : k = n := by omega
      rw [List.take_of_length_le (by rw [unhide Hl]; exact Nat.le_refl _)] at hM
      have HM := hide hM
      clear hM
      go_wp2
      go_ret
      exact ⟨rfl, unhide HM, hB⟩

theorem list_ne {a b : ByteArray} (h : a ≠ b) : (a.toList == b.toList) = false := by
  rw [beq_eq_false_iff_ne]
  intro e
  rw [ByteArray.toList_eq, ByteArray.toList_eq] at e
  exact h (bytes_inj e)

set_option maxHeartbeats 1000000 in
/-- zzToken. -/
theorem token_any (a a' : Option Addr) (n c n' c' : Nat) (ts cs : List Cl) (w : World) (hn : n ≤ 65536) (hn' : n' ≤ 65536) (hs : ∀ p ∈ ts, Good p) (hs' : ∀ p ∈ cs, Good p) (hr : CRow w a n ts) (hr' : CRow w a' n' cs) :
    Calls Try.prog 13 #[.slice a n c, .slice a' n' c'] w fun e w' => e = .returned (.map (some w.heap.size)) ∧ MapV w' w.heap.size (n + n') (build (build fnil ts) cs) ∧ Below w.heap.size w w' := by
  have hmm := run_makeMap_n 30 Try.underlying30
  have Hs := hide hs
  have Hr := hide hr
  have Hl := hide hr.1
  have Hs' := hide hs'
  have Hr' := hide hr'
  have Hl' := hide hr'.1
  clear hs hr hs' hr'
  go_enter Try.func13, Try.ntmps13
  go_wp2
  clear hmm
  go_loopw [6] (fun i wr => ∃ k : Nat, k ≤ n ∧ i = .int .i64 k ∧ MapV wr w.heap.size k (build fnil (ts.take k)) ∧ Below w.heap.size w wr) (fun i _ => n - (intOf i).toNat)
  case atStart => exact ⟨0, Nat.zero_le _, rfl, MapV.made w, (Below.refl _ _).alloc (Nat.le_refl _) _⟩
  case round =>
    obtain ⟨k, hk, rfl, hM, hB⟩ := hrel
    by_cases hlt : k < n
    · obtain ⟨ba, oa, rfl, hca⟩ := ((unhide Hr).kept hB).2 (by omega)
      obtain ⟨g1, g2⟩ := hca k hlt
      have hkl : k < ts.length := by rw [unhide Hl]; exact hlt
      obtain ⟨s1, s2⟩ := good_at (unhide Hs) hkl
      obtain ⟨w1, hrun, hM1, hg1⟩ := hM.drew.put 30 Try.underlying30 (by unfold maxLen; omega) (ts.getD k cz).1 (ts.getD k cz).2 s1 s2
      have hbs : build fnil (ts.take (k + 1)) = upd (build fnil (ts.take k)) (ts.getD k cz).1 (ts.getD k cz).2 := by rw [build_take _ _ _ hkl, getD_at hkl]
      rw [← hbs] at hM1
      generalize (ts.getD k cz).1 = s at g1 hrun
      generalize (ts.getD k cz).2 = v at g2 hrun
      have hB1 : Below w.heap.size w w1 := (hB.drew).grown hg1 hB.size (fun j hj => by cases hj; exact Nat.le_refl _)
      have hi1 : (k : Int) < (n : Int) := by omega
      have HM1 := hide hM1
      have HB1 := hide hB1
      clear hca s1 s2 hbs hM hM1 hg1 hB hB1 hkl
      go_wp2
      go_region
      all_goals go_wp2
      all_goals
        go_roundw
        case rel => exact ⟨k + 1, by omega, by go_num, unhide HM1, unhide HB1⟩
        case measure => simp [intOf]; omega
    · obtain rfl : k = n := by omega
      rw [List.take_of_length_le (by rw [unhide Hl]; exact Nat.le_refl _)] at hM
      have HM0 := hide hM
      have HB0 := hide hB
      clear hM hB
      go_wp2
      go_loopw [7] (fun i wr => ∃ j : Nat, j ≤ n' ∧ i = .int .i64 j ∧ MapV wr w.heap.size (k + j) (build (build fnil ts) (cs.take j)) ∧ Below w.heap.size w wr) (fun i _ => n' - (intOf i).toNat)
      case atStart => exact ⟨0, Nat.zero_le _, rfl, unhide HM0, unhide HB0⟩
      case round =>
        obtain ⟨j, hj, rfl, hM, hB⟩ := hrel
        by_cases hlt : j < n'
        · obtain ⟨ba, oa, rfl, hca⟩ := ((unhide Hr').kept hB).2 (by omega)
          obtain ⟨g1, g2⟩ := hca j hlt
          have hkl : j < cs.length := by rw [unhide Hl']; exact hlt
          obtain ⟨s1, s2⟩ := good_at (unhide Hs') hkl
          obtain ⟨w1, hrun, hM1, hg1⟩ := hM.drew.put 30 Try.underlying30 (by unfold maxLen; omega) (cs.getD j cz).1 (cs.getD j cz).2 s1 s2
          have hbs : build (build fnil ts) (cs.take (j + 1)) = upd (build (build fnil ts) (cs.take j)) (cs.getD j cz).1 (cs.getD j cz).2 := by rw [build_take _ _ _ hkl, getD_at hkl]
          rw [← hbs] at hM1
          generalize (cs.getD j cz).1 = s at g1 hrun
          generalize (cs.getD j cz).2 = v at g2 hrun
          have hB1 : Below w.heap.size w w1 := (hB.drew).grown hg1 hB.size (fun j hj => by cases hj; exact Nat.le_refl _)
          have hi1 : (j : Int) < (n' : Int) := by omega
          have HM1 := hide hM1
          have HB1 := hide hB1
          clear hca s1 s2 hbs hM hM1 hg1 hB hB1 hkl
          go_wp2
          go_region
          all_goals go_wp2
          all_goals
            go_roundw
            case rel => exact ⟨j + 1, by omega, by go_num, unhide HM1, unhide HB1⟩
            case measure => simp [intOf]; omega
        · obtain rfl : j = n' := by omega
          rw [List.take_of_length_le (by rw [unhide Hl']; exact Nat.le_refl _)] at hM
          have HM := hide hM
          clear hM
          go_wp2
          go_ret
          exact ⟨rfl, unhide HM, hB⟩

/-- zzLast of a name that is there. -/
theorem last_any (a : Option Addr) (n c : Nat) (cs : List Cl) (i0 : Nat) (w : World) (hn : n ≤ 65536) (hi : i0 < n) (hr : CRow w a n cs) :
    Calls Try.prog 14 #[.slice a n c, .string (cs.getD i0 cz).1] w fun e w' => ∃ v, e = .returned (.tuple #[.string v, .bool true]) ∧ build fnil cs (cs.getD i0 cz).1 = some v ∧ w = w' := by
  obtain ⟨ba, oa, rfl, hca⟩ := hr.2 (by omega)
  have Hl := hide hr.1
  have Hca := hide hca
  obtain ⟨nm, hnm⟩ : ∃ nm, nm = (cs.getD i0 cz).1 := ⟨_, rfl⟩
  rw [← hnm]
  have Hnm := hide hnm
  clear hr hca hnm
  go_enter Try.func14, Try.ntmps14
  go_wp2
  go_loop [6] (fun i => ∃ j : Nat, j ≤ n ∧ i = .int .i64 ((j : Int) - 1) ∧ ∀ q, j ≤ q → (h : q < cs.length) → cs[q].1 ≠ nm) (fun i => (intOf i + 1).toNat)
  case atStart => exact ⟨n, Nat.le_refl _, rfl, fun q h1 h2 => by have := unhide Hl; omega⟩
  case round =>
    obtain ⟨j, hj, rfl, hno⟩ := hrel
    by_cases hj0 : j = 0
    · exfalso
      have hl := unhide Hl
      have h1 := hno i0 (by omega) (by omega)
      rw [unhide Hnm, getD_at (by omega)] at h1
      exact h1 rfl
    · obtain ⟨k, rfl⟩ : ∃ k, j = k + 1 := ⟨j - 1, by omega⟩
      have hkl : k < cs.length := by rw [unhide Hl]; omega
      obtain ⟨g1, g2⟩ := (unhide Hca) k (by omega)
      have ek : ((k + 1 : Nat) : Int) - 1 = (k : Int) := by omega
      rw [ek]
      clear ek
      rw [getD_at hkl] at g1 g2
      have hge : (0 : Int) ≤ (k : Int) := by omega
      have hlt : (k : Int) < (n : Int) := by omega
      by_cases he : cs[k].1 = nm
      · have Hb := hide (build_last cs k hkl (fun q h1 h2 => by rw [he]; exact hno q (by omega) h2))
        have He := hide he
        rw [he] at g1
        generalize hv : cs[k].2 = v at g2
        have Hv := hide hv
        clear he hno hv
        go_wp2
        go_ret2
        refine ⟨v, rfl, ?_, rfl⟩
        have := unhide Hb
        rw [unhide He, unhide Hv] at this
        exact this
      · have hne := list_ne he
        have He := hide he
        have Hno := hide hno
        generalize cs[k].1 = s at g1 hne
        clear he hno g2
        go_wp2
        go_round
        case rel =>
          refine ⟨k, by omega, by go_num, fun q h1 h2 => ?_⟩
          by_cases hq : q = k
          · subst hq; exact unhide He
          · exact unhide Hno q (by omega) h2
        case measure => simp [intOf]

end Go.Proofs.Qxb6619383a
