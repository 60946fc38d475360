/-
  MY OWN WORK (seat b6619363a). The argument opened: an array of five uint64 by value.
-/
import Derived.Test.Qxb6619363aWithin
import Derived.OpenShut
namespace Go.Proofs.Qxb6619363a
open Go.RowKit Go.ChangeShapes Go.WideShapes

theorem Try.cells23 : Try.prog.cellsOf 23 = 5 := by kernel_rfl
theorem Try.cells22 : Try.prog.cellsOf 22 = 1 := by kernel_rfl

theorem list5 {α : Type} (l : List α) (h : l.length = 5) : ∃ a b c d e, l = [a, b, c, d, e] := by
  match l, h with
  | [a, b, c, d, e], _ => exact ⟨a, b, c, d, e, rfl⟩

theorem nat_of_u64 {x : Int} (h : (Lit.int .u64 x).wf = true) : ∃ X : Nat, x = (X : Int) ∧ X < 18446744073709551616 := by
  have hb := bounds_u64 h
  exact ⟨x.toNat, by omega, by omega⟩

theorem open_masks {H : Type} {enc : TypeId × Value → H} {W : World} {base : Nat} {sp : Nat → Bool} {held : Bool} {v : Value} {d : DataW H} {p : List MemPlace} (hv : Value.okWide Try.prog W .any base 23 v) (h : DataW.Trod enc Try.prog W 0 sp held 23 v d p) :
    ∃ X0 X1 : Nat, ∃ x2 x3 x4 : Int, X0 < 18446744073709551616 ∧ X1 < 18446744073709551616 ∧ v = .agg #[.int .u64 X0, .int .u64 X1, .int .u64 x2, .int .u64 x3, .int .u64 x4] := by
  obtain ⟨cs, rfl, hsz, _⟩ : ∃ cs, v = .agg cs ∧ cs.size = Try.prog.cellsOf 23 ∧ Row.okWide Try.prog W .any base 23 cs := by
    simpa [Value.okWide, Try.underlying23] using hv
  rw [Try.cells23] at hsz
  obtain ⟨l⟩ := cs
  obtain ⟨c0, c1, c2, c3, c4, rfl⟩ := list5 l hsz
  obtain ⟨fuel, hf⟩ := h
  obtain ⟨xs, m, _, _, _, hl, hel⟩ := DataW.trod_array Try.underlying23 hf
  have at_ : ∀ i, i < 5 → ∃ x : Int, (([c0, c1, c2, c3, c4] : List Value).drop i).take 1 = [.int .u64 x] ∧ (Lit.int .u64 x).wf = true := by
    intro i hi
    have h1 := hel i hi
    rw [Try.cells22, Nat.mul_one] at h1
    have h2 : xs[i]? = some (xs[i]'(by omega)) := by simp [hl, hi]
    rw [h2] at h1
    obtain ⟨x, e, _, wx⟩ := DataW.trod_int Try.underlying22 h1
    exact ⟨x, by simpa [Value.cells] using e, wx⟩
  obtain ⟨x0, e0, w0⟩ := at_ 0 (by omega)
  obtain ⟨x1, e1, w1⟩ := at_ 1 (by omega)
  obtain ⟨x2, e2, _⟩ := at_ 2 (by omega)
  obtain ⟨x3, e3, _⟩ := at_ 3 (by omega)
  obtain ⟨x4, e4, _⟩ := at_ 4 (by omega)
  simp at e0 e1 e2 e3 e4
  subst e0 e1 e2 e3 e4
  obtain ⟨X0, rfl, h0⟩ := nat_of_u64 w0
  obtain ⟨X1, rfl, h1⟩ := nat_of_u64 w1
  exact ⟨X0, X1, x2, x3, x4, h0, h1, rfl⟩

end Go.Proofs.Qxb6619363a
