/-
  MY OWN WORK (seat b6619383a). The walk of FnClaimsMatchExactlyTheTokensThatCarryThem.
-/
import Derived.Test.Qxb6619383aMatch
namespace Go.Proofs.Qxb6619383a
open Go.RowKit

/-- 'delete(m, k)' as a law for the walk. -/
theorem wpList_delete_mv {w : World} {ops : Array Oper} {rest : List Oper} {o : Oper} {a : Act} {Q : Exit → Act → World → Prop} (hg : o.guard = none) (m x : Operand)
    (hop : o.op = Op.call { callee := Callee.builtin Builtin.delete, args := #[m, x], argTypes := #[30, 9] }) (b n : Nat) (f : Fm) (k : ByteArray) (hm : a.eval m = .map (some b)) (h : MapV w b n f) (hx : a.eval x = .string k) (hk : k.size ≤ maxLen)
    (hK : ∀ w', MapV w' b n (era f k) → w.grownBy w' (some b) → wpList Try.prog ops Q rest (a.put o.dst (.tuple #[])) w') : wpList Try.prog ops Q (o :: rest) a w := by
  refine wpList_plain hg fun K' hK' => ?_
  obtain ⟨w', hrun, r1, r2⟩ := h.drop 30 Try.underlying30 k hk o.type
  unfold Oper.wp
  simp [execOp, hop, resolve, invoke, builtin, hm, hx, hrun, Result.andThen]
  exact hK' _ _ (hK w' r1 r2)

/-- zzClaims, nil or not: what the law goes on with. -/
def Held (w : World) (w' : World) (r : Option Nat) (n : Nat) (cs : List Cl) : Prop := (r = none ∧ n = 0 ∨ ∃ b, r = some b ∧ MapV w' b n (build fnil cs)) ∧ Below w.heap.size w w'

theorem claims_any (a : Option Addr) (n c : Nat) (cs : List Cl) (w : World) (hn : n ≤ 65536) (hs : ∀ p ∈ cs, Good p) (hr : CRow w a n cs) (hx : a = none → n = 0 ∧ c = 0) :
    Calls Try.prog 11 #[.slice a n c] w fun e w' => ∃ r, e = .returned (.map r) ∧ Held w w' r n cs := by
  cases a with
  | none =>
    obtain ⟨rfl, rfl⟩ := hx rfl
    refine (claims_nil w).mono ?_
    rintro e w' ⟨rfl, rfl⟩
    exact ⟨none, rfl, Or.inl ⟨rfl, rfl⟩, Below.refl _ _⟩
  | some x =>
    refine (claims_some x n c cs w hn hs hr).mono ?_
    rintro e w' ⟨rfl, hm, hb⟩
    exact ⟨_, rfl, Or.inr ⟨_, rfl, hm⟩, hb⟩

theorem match_carried {r : Option Nat} {bt n nt : Nat} {cs : List Cl} {f0 : Fm} {w w0 : World} (hc : Held w0 w r n cs) (ht : MapV w bt nt (build f0 cs)) :
    Calls Try.prog 12 #[.map r, .map (some bt)] w fun e w' => e = .returned (.bool true) ∧ Below w.heap.size w w' := by
  rcases hc.1 with ⟨rfl, _⟩ | ⟨b, rfl, hm⟩
  · exact match_nil bt w
  · exact match_true b bt n nt _ _ w hm ht (fun s v h => build_over f0 cs s v h)

theorem Held.kept {w0 w w' : World} {r : Option Nat} {n : Nat} {cs : List Cl} (h : Held w0 w r n cs) (hb : Below w.heap.size w w') : Held w0 w' r n cs := by
  refine ⟨?_, h.2.trans (hb.mono h.2.size)⟩
  rcases h.1 with h1 | ⟨b, e, hm⟩
  · exact Or.inl h1
  · exact Or.inr ⟨b, e, hm.below hb⟩

set_option maxRecDepth 100000 in
set_option maxHeartbeats 4000000 in
theorem law (a a' : Option Addr) (n c n' c' : Nat) (cs ts : List Cl) (iI : Int) (x : ByteArray) (w : World) (hm : n ≤ maxLen) (hs : ∀ p ∈ cs, Good p) (h : CRow w a n cs) (hz : a = none → n = 0 ∧ c = 0) (hm' : n' ≤ maxLen) (hs' : ∀ p ∈ ts, Good p) (h' : CRow w a' n' ts) (hx : x.size ≤ maxLen) :
    Calls Try.prog 4 #[.slice a n c, .slice a' n' c', .int .i64 iI, .string x] w fun e w' => e = .returned (.bool true) ∧ Below w.heap.size w w' := by
  have F9 := hide (bytes9 a a' n c n' c' cs ts iI x w hm hs h hm' hs' h' hx)
  have F10 := hide (fun tot q0 q1 => claimBytes_any a n c cs tot w hm hs h q0 q1)
  have F10' := hide (fun tot q0 q1 => claimBytes_any a' n' c' ts tot w hm' hs' h' q0 q1)
  have Hs := hide hs
  have H := hide h
  have Hz := hide hz
  have Hs' := hide hs'
  have H' := hide h'
  have Hx := hide hx
  unfold maxLen at hm hm' hx
  clear hs h hz hs' h'
  go_enter Try.func4, Try.ntmps4
  go_wp2_with fail
  refine (unhide F9).mono ?_
  rintro e w' ⟨b, rfl, hw⟩
  obtain rfl : w = w' := hw
  clear F9
  cases b
  · go_wp2_with fail
    go_ret
    exact ⟨rfl, Below.refl _ _⟩
  by_cases hn : 65536 < n
  · go_wp2_with fail
    go_ret
    exact ⟨rfl, Below.refl _ _⟩
  by_cases hn' : 65536 < n'
  · go_wp2_with fail
    go_ret
    exact ⟨rfl, Below.refl _ _⟩
  go_wp2_with fail
  refine (unhide F10 0 (by omega) (by omega)).mono ?_
  rintro e w' ⟨z1, rfl, hw, hz0, hz1⟩
  obtain rfl : w = w' := hw
  clear F10
  by_cases hzb : 1048576 < z1
  · go_wp2_with fail
    go_ret
    exact ⟨rfl, Below.refl _ _⟩
  go_wp2_with fail
  refine (unhide F10' z1 hz0 (by omega)).mono ?_
  rintro e w' ⟨z2, rfl, hw, hy0, hy1⟩
  obtain rfl : w = w' := hw
  clear F10'
  by_cases hyb : 1048576 < z2
  · go_wp2_with fail
    go_ret
    exact ⟨rfl, Below.refl _ _⟩
  by_cases hxb : 1048576 - z2 < (x.size : Int)
  · go_wp2_with fail
    go_ret
    exact ⟨rfl, Below.refl _ _⟩
  go_wp2_with fail
  refine (claims_any a n c cs w (by omega) (unhide Hs) (unhide H) (unhide Hz)).mono ?_
  rintro e w1 ⟨r, rfl, hh⟩
  have HC := hide hh
  have T1 := hide ((unhide H).kept hh.2)
  have T1' := hide ((unhide H').kept hh.2)
  clear hh
  go_wp2_with fail
  refine (token_any a' a n' c' n c ts cs w1 (by omega) (by omega) (unhide Hs') (unhide Hs) (unhide T1') (unhide T1)).mono ?_
  rintro e w2 ⟨rfl, hm2, b2⟩
  have M2 := hide hm2
  have HC2 := hide ((unhide HC).kept b2)
  have T2 := hide ((unhide T1).kept b2)
  have T2' := hide ((unhide T1').kept b2)
  clear hm2 b2 HC T1 T1'
  go_wp2_with fail
  refine (match_carried (unhide HC2) (unhide M2)).mono ?_
  rintro e w3 ⟨rfl, b3⟩
  have HC3 := hide ((unhide HC2).kept b3)
  have T3 := hide ((unhide T2).kept b3)
  have T3' := hide ((unhide T2').kept b3)
  clear b3 HC2 T2 T2' M2
  by_cases hi0 : iI < 0
  · go_wp2_with fail
    go_ret
    exact ⟨rfl, (unhide HC3).2⟩
  by_cases hi1 : (n : Int) ≤ iI
  · have hi0' : ¬ iI < 0 := hi0
    go_wp2_with fail
    go_ret
    exact ⟨rfl, (unhide HC3).2⟩
  obtain ⟨i, rfl⟩ := Int.eq_ofNat_of_zero_le (show 0 ≤ iI by omega)
  have hin : i < n := by omega
  obtain ⟨ba, oa, rfl, hca⟩ := (unhide T3).2 (by omega)
  obtain ⟨g1, g2⟩ := hca i hin
  have hl := (unhide T3).1
  have hgn := good_at (unhide Hs) (k := i) (by rw [hl]; exact hin)
  have L := hide (last_any (some ⟨ba, oa, none⟩) n c cs i w3 (by omega) hin (unhide T3))
  have hnm : (cs.getD i cz).1.size ≤ maxLen := hgn.1
  generalize (cs.getD i cz).1 = nm at g1 hnm L
  have hilt : (i : Int) < (n : Int) := by omega
  have Hnm := hide hnm
  clear hca g2 hl hgn hnm
  obtain ⟨bc, hbc⟩ : ∃ bc, r = some bc ∧ MapV w3 bc n (build fnil cs) := by
    rcases (unhide HC3).1 with ⟨_, h0⟩ | h1
    · omega
    · exact h1
  obtain ⟨rfl, hmc⟩ := hbc
  have MC3 := hide hmc
  clear hmc
  go_wp2_with fail
  refine (unhide L).mono ?_
  rintro e w' ⟨want, rfl, hwant, hw⟩
  obtain rfl : w3 = w' := hw
  have Hwant := hide hwant
  clear hwant L
  go_wp2_with fail
  refine (token_any a' (some ⟨ba, oa, none⟩) n' c' n c ts cs w3 (by omega) (by omega) (unhide Hs') (unhide Hs) (unhide T3') (unhide T3)).mono ?_
  rintro e w4 ⟨rfl, hm4, b4⟩
  have M4 := hide hm4
  have HB3 := hide (unhide HC3).2
  have HB4 := hide b4
  clear hm4 b4 HC3
  go_wp2_with (at_delete; refine wpList_delete_mv rfl (.tmp 72) (.tmp 73) rfl w3.heap.size _ _ nm rfl (unhide M4) rfl (unhide Hnm) ?_; intro w5 hm5 hg5)
  have hlt3 := (unhide MC3).lt
  have hB5 : Below w3.heap.size w3 w5 := (unhide HB4).grown hg5 (unhide HB4).size (fun k hk => by cases hk; exact Nat.le_refl _)
  have M5 := hide hm5
  have MC5 := hide ((unhide MC3).below hB5)
  have HB5 := hide ((unhide HB3).trans (hB5.mono (unhide HB3).size))
  have T5 := hide ((unhide T3).kept hB5)
  have T5' := hide ((unhide T3').kept hB5)
  clear hm5 hg5 hB5 M4 HB4 HB3 T3 T3' MC3 hlt3
  go_wp2_with fail
  refine (match_false bc w3.heap.size n (n' + n) _ _ nm want w5 (unhide MC5) (unhide M5) (unhide Hwant) (by rw [era_same]; simp)).mono ?_
  rintro e w6 ⟨rfl, b6⟩
  have MC6 := hide ((unhide MC5).below b6)
  have HB6 := hide ((unhide HB5).trans (b6.mono (unhide HB5).size))
  have T6 := hide ((unhide T5).kept b6)
  have T6' := hide ((unhide T5').kept b6)
  clear b6 MC5 HB5 T5 T5' M5
  by_cases hxw : x = want
  · subst hxw
    go_wp2_with fail
    go_ret
    exact ⟨rfl, unhide HB6⟩
  have hne := list_ne hxw
  have Hxw := hide hxw
  clear hxw
  go_wp2_with fail
  refine (token_any a' (some ⟨ba, oa, none⟩) n' c' n c ts cs w6 (by omega) (by omega) (unhide Hs') (unhide Hs) (unhide T6') (unhide T6)).mono ?_
  rintro e w7 ⟨rfl, hm7, b7⟩
  obtain ⟨w8, hrun, hm8, hg8⟩ := hm7.put 30 Try.underlying30 (by unfold maxLen; omega) nm x (unhide Hnm) (unhide Hx)
  have hB8 : Below w6.heap.size w6 w8 := b7.grown hg8 b7.size (fun k hk => by cases hk; exact Nat.le_refl _)
  have M8 := hide hm8
  have MC8 := hide ((unhide MC6).below hB8)
  have HB8 := hide ((unhide HB6).trans (hB8.mono (unhide HB6).size))
  clear hm7 b7 hm8 hg8 hB8 MC6 HB6 T6 T6'
  go_wp2_with fail
  refine (match_false bc w6.heap.size n (n' + n + 1) _ _ nm want w8 (unhide MC8) (unhide M8) (unhide Hwant) (by rw [upd_same]; intro e; cases e; exact unhide Hxw rfl)).mono ?_
  rintro e w9 ⟨rfl, b9⟩
  have HB9 := hide ((unhide HB8).trans (b9.mono (unhide HB8).size))
  clear b9 HB8 MC8 M8
  go_wp2_with fail
  go_ret
  exact ⟨rfl, unhide HB9⟩

end Go.Proofs.Qxb6619383a
