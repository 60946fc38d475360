/-
  MY OWN WORK (seat b6619383a). (Claims).Matches: it ranges over the required claims, in whatever order.
-/
import Derived.Test.Qxb6619383aBuild
namespace Go.Proofs.Qxb6619383a
open Go.RowKit Go.Maps

theorem invK : ∀ key kl, keyOf Try.prog 9 key = some kl → ∃ x, key = Value.string x := fun key kl h => by
  obtain ⟨s, rfl, _⟩ := WideMaps.string_of_keyOf Try.underlying9 h
  exact ⟨s, rfl⟩
theorem invV : ∀ v (y : DataW Unit × List MemPlace), plainElem Try.prog 9 v = some y → ∃ c, v = Value.string c := fun v y h => by
  obtain ⟨s, rfl, _⟩ := plainElem_string_inv Try.underlying9 h
  exact ⟨s, rfl⟩

/-- The entry that has come is one of the map's. -/
theorem entry_is {D : DataW Unit} {f : Fm} (h : Says D f) {x c : ByteArray} {kl : Lit} {y : DataW Unit × List MemPlace} (hkey : keyOf Try.prog 9 (.string x) = some kl) (hv : plainElem Try.prog 9 (.string c) = some y) (hat : ∀ zd, D.atKey kl zd = y.1) : kl = ky x ∧ x.size ≤ maxLen ∧ f x = some c := by
  obtain ⟨s, e1, e2, hs⟩ := WideMaps.string_of_keyOf Try.underlying9 hkey
  cases e1
  obtain ⟨s', e3, e4, _⟩ := plainElem_string_inv Try.underlying9 hv
  cases e3
  have hkl : kl = ky x := e2
  refine ⟨hkl, hs, ?_⟩
  rw [hkl] at hat
  have hh := has_true_of_atKey hat
  rw [(h x).1] at hh
  cases hf : f x with
  | none => rw [hf] at hh; cases hh
  | some v =>
    have e5 := (h x).2 v hf .nil
    rw [hat .nil, e4] at e5
    simp only [DataW.lit.injEq, Lit.string.injEq] at e5
    rw [bytes_inj e5]

theorem match_nil (b : Nat) (w : World) : Calls Try.prog 12 #[.map none, .map (some b)] w fun e w' => e = .returned (.bool true) ∧ Below w.heap.size w w' := by
  have h1 := run_range_nilMap (P := Try.prog) w 31 9 9 Try.underlying31
  have h2 := run_next_nilMap (P := Try.prog)
  go_enter Try.func12, Try.ntmps12
  go_wp2
  refine wp_loop_rounds 1 ?_
  rw [rounds_succ]
  go_wp2
  go_ret
  exact ⟨rfl, (Below.refl _ _).alloc (Nat.le_refl _) _⟩

set_option maxHeartbeats 1000000 in
/-- Every claim that is named is there with its value. -/
theorem match_true (bc bt nc nt : Nat) (fc ft : Fm) (w : World) (hc : MapV w bc nc fc) (ht : MapV w bt nt ft) (h : ∀ s v, fc s = some v → ft s = some v) :
    Calls Try.prog 12 #[.map (some bc), .map (some bt)] w fun e w' => e = .returned (.bool true) ∧ Below w.heap.size w w' := by
  obtain ⟨D, hown, hsay⟩ := hc
  have hcl := hown.lt
  have htl := ht.lt
  have Hsay := hide hsay
  have Ht := hide ht
  have H := hide h
  clear hsay ht h
  go_enter Try.func12, Try.ntmps12
  go_wp2_with (at_range; refine wpList_range_own _ rfl _ 31 rfl 9 9 key_law Try.underlying31 _ bc nc D rfl hown ?_; intro w0 hrg0 hg0 hs0)
  go_frame
  clear hown
  have hB0 : Below w.heap.size w w0 := (Below.refl _ _).grown hg0 (Nat.le_refl _) (fun k hk => by cases hk)
  have HB0 := hide hB0
  have Hrg0 := hide hrg0
  clear hg0 hs0 hB0 hrg0
  go_loopw [5] (fun _ wr => ∃ left cnt, wr.ranges Try.prog 9 (plainElem Try.prog 9) bc w.heap.size nc D left cnt ∧ Below w.heap.size w wr) (fun _ wr => wr.rangeLeft bc w.heap.size)
  case atStart => exact ⟨_, _, unhide Hrg0, unhide HB0⟩
  case round =>
    obtain ⟨left, cnt, hrg, hB⟩ := hrel
    go_wp2_with (at_next; refine wpList_next_ranges _ rfl _ rfl 9 key_law (plainElem Try.prog 9) Value.string Value.string invK invV bc w.heap.size nc D left cnt rfl hrg ?_ ?_)
    · intro _ _
      have HB := hide hB
      clear hrg hB
      go_wp2
      go_ret
      exact ⟨rfl, unhide HB⟩
    · intro x c kl ya yb w1 cnt1 hkey hlk hv hat hrg1 hlt hg1 hs1 hen
      obtain ⟨hkl, hxs, hfx⟩ := entry_is (unhide Hsay) hkey hv hat
      have hft := unhide H x c hfx
      have hB1 : Below w.heap.size w w1 := hB.grown hg1 hB.size (fun k hk => by cases hk; exact Nat.le_refl _)
      have hlook : (Instr.lookup 30 (.map (some bt)) (.string x) true).run Try.prog w1 = .ok (.tuple #[.string c, .bool true]) w1 := by
        rcases ((unhide Ht).below hB1).look 30 Try.underlying30 x hxs with ⟨v, e1, e2⟩ | ⟨v, e1, _⟩
        · rw [hft] at e1
          cases e1
          exact e2
        · rw [hft] at e1
          cases e1
      have hme : w1.rangeLeft bc w.heap.size < wr.rangeLeft bc w.heap.size := by rw [hrg1.left_eq, hrg.left_eq]; exact hlt
      have HB1 := hide hB1
      have Hrg1 := hide hrg1
      have Hme := hide hme
      clear hkey hlk hv hat hrg1 hlt hg1 hs1 hkl hxs hfx hft hB hB1 hrg hme
      go_wp2
      go_roundw
      case rel => exact ⟨_, _, unhide Hrg1, unhide HB1⟩
      case measure => exact unhide Hme

set_option maxHeartbeats 1000000 in
/-- One claim that is named is not there with its value. -/
theorem match_false (bc bt nc nt : Nat) (fc ft : Fm) (nm vm : ByteArray) (w : World) (hc : MapV w bc nc fc) (ht : MapV w bt nt ft) (h1 : fc nm = some vm) (h2 : ft nm ≠ some vm) :
    Calls Try.prog 12 #[.map (some bc), .map (some bt)] w fun e w' => e = .returned (.bool false) ∧ Below w.heap.size w w' := by
  obtain ⟨D, hown, hsay⟩ := hc
  have hcl := hown.lt
  have htl := ht.lt
  have hleft0 : Maps.has D (ky nm) = true := by rw [(hsay nm).1, h1]; rfl
  have Hleft0 := hide hleft0
  have Hsay := hide hsay
  have Ht := hide ht
  have H1 := hide h1
  have H2 := hide h2
  clear hsay ht h1 h2 hleft0
  go_enter Try.func12, Try.ntmps12
  go_wp2_with (at_range; refine wpList_range_own _ rfl _ 31 rfl 9 9 key_law Try.underlying31 _ bc nc D rfl hown ?_; intro w0 hrg0 hg0 hs0)
  go_frame
  clear hown
  have hB0 : Below w.heap.size w w0 := (Below.refl _ _).grown hg0 (Nat.le_refl _) (fun k hk => by cases hk)
  have HB0 := hide hB0
  have Hrg0 := hide hrg0
  clear hg0 hs0 hB0 hrg0
  go_loopw [5] (fun _ wr => ∃ left cnt, wr.ranges Try.prog 9 (plainElem Try.prog 9) bc w.heap.size nc D left cnt ∧ Below w.heap.size w wr ∧ left (ky nm) = true) (fun _ wr => wr.rangeLeft bc w.heap.size)
  case atStart => exact ⟨_, _, unhide Hrg0, unhide HB0, unhide Hleft0⟩
  case round =>
    obtain ⟨left, cnt, hrg, hB, hlf⟩ := hrel
    have Hlf := hide hlf
    clear hlf
    go_wp2_with (at_next; refine wpList_next_ranges _ rfl _ rfl 9 key_law (plainElem Try.prog 9) Value.string Value.string invK invV bc w.heap.size nc D left cnt rfl hrg ?_ ?_)
    · intro _ hl0
      exfalso
      have := unhide Hlf
      rw [hl0 (ky nm)] at this
      cases this
    · intro x c kl ya yb w1 cnt1 hkey hlk hv hat hrg1 hlt hg1 hs1 hen
      obtain ⟨hkl, hxs, hfx⟩ := entry_is (unhide Hsay) hkey hv hat
      have hB1 : Below w.heap.size w w1 := hB.grown hg1 hB.size (fun k hk => by cases hk; exact Nat.le_refl _)
      have hlk1 := ((unhide Ht).below hB1).look 30 Try.underlying30 x hxs
      have hme : w1.rangeLeft bc w.heap.size < wr.rangeLeft bc w.heap.size := by rw [hrg1.left_eq, hrg.left_eq]; exact hlt
      have hlf1 : x ≠ nm → (fun z => left z && !z.sameKey kl) (ky nm) = true := by
        intro hne
        rw [hkl]
        show (left (ky nm) && !(ky nm).sameKey (ky x)) = true
        rw [unhide Hlf, Maps.sameKey_ne (fun e => hne (ky_inj e).symm)]
        rfl
      have HB1 := hide hB1
      have Hrg1 := hide hrg1
      have Hme := hide hme
      have Hlf1 := hide hlf1
      have Hfx := hide hfx
      clear hkey hlk hv hat hrg1 hlt hg1 hs1 hkl hxs hfx hB hB1 hrg hme hlf1
      rcases hlk1 with ⟨v, e1, hlook⟩ | ⟨v, e1, hlook⟩
      · by_cases hvc : v = c
        · subst hvc
          have hxn : x ≠ nm := by
            rintro rfl
            have h1 := unhide H1
            rw [unhide Hfx] at h1
            cases h1
            exact unhide H2 e1
          have Hxn := hide hxn
          clear e1 hxn
          go_wp2
          go_roundw
          case rel => exact ⟨_, _, unhide Hrg1, unhide HB1, unhide Hlf1 (unhide Hxn)⟩
          case measure => exact unhide Hme
        · have hne := list_ne hvc
          clear e1 hvc
          go_wp2
          go_ret
          exact ⟨rfl, unhide HB1⟩
      · clear e1
        go_wp2
        go_ret
        exact ⟨rfl, unhide HB1⟩

end Go.Proofs.Qxb6619383a
