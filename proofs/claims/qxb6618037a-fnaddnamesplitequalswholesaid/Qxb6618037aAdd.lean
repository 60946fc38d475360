/-
  MY OWN WORK (seat b6618037a). (*fieldRead).addName, ZZAddName.
-/
import Derived.Test.Qxb6618037aField
import Derived.Laws.AppendOwnNone
namespace Go.Proofs.Qxb6618037a
open Go.RowKit

/-- A fieldRead at block p: its name holds zs, in a row of the call's own (blocks from B on). -/
def FR (B : Nat) (w : World) (p : Nat) (zs : List Int) (b1 b2 b3 b4 b5 : Bool) : Prop :=
  ∃ a c, w.heap[p]? = some (.cells #[.slice a zs.length c, .bool b1, .bool b2, .bool b3, .bool b4, .bool b5] 28 (0, 0)) ∧ w.ownsRow B 5 1 (.slice a zs.length c) zs.length (zs.map (Value.int .u8)) ∧ B ≤ p

/-- What addName comes to. -/
def addN (zs : List Int) (l : Bool) (ys : List Int) : List Int × Bool := if 4 < zs.length + ys.length then (zs, true) else (zs ++ ys, l)

theorem own_not_p {B p n : Nat} {w : World} {v : Value} {xs : List Value} {cs : Array Value} {f : Nat × Nat} (ho : w.ownsRow B 5 1 v n xs) (hp : w.heap[p]? = some (.cells cs 28 f)) : v.ownBlock ≠ some p := by
  rcases ho.2 with ⟨h', _⟩ | ⟨g, cap, cur, h', _, hg, _⟩
  · rw [h']; simp [Value.ownBlock]
  · rw [h']
    simp only [Value.ownBlock, ne_eq, Option.some.injEq]
    rintro rfl
    rw [hp] at hg
    simp at hg

theorem own_shape {B n : Nat} {w : World} {v : Value} {xs : List Value} (ho : w.ownsRow B 5 1 v n xs) : ∃ a c, v = .slice a n c := by
  rcases ho.2 with ⟨h', rfl⟩ | ⟨g, cap, cur, h', _⟩
  · exact ⟨none, 0, h'⟩
  · exact ⟨_, cap, h'⟩

theorem addName_long (B p : Nat) (zs ys : List Int) (b1 b2 b3 b4 b5 : Bool) (x : Option Addr) (m cm : Nat) (w : World) (h : FR B w p zs b1 b2 b3 b4 b5) (hy : ys.length = m) (hz : zs.length ≤ 1048576) (hm : m ≤ 1048576) (hlong : 4 < zs.length + ys.length) :
    Calls Try.prog 20 #[.pointer (some ⟨p, 0, none⟩), .slice x m cm] w fun e w' => e = .returned (.tuple #[]) ∧ FR B w' p zs true b2 b3 b4 b5 ∧ Below B w w' := by
  obtain ⟨a, c, hp, hown, hB⟩ := h
  subst hy
  have c0 : w.cell? ⟨p, 0, none⟩ = some (.slice a zs.length c) := by rw [cell_of_row w p 0 _ 28 (0, 0) hp]; rfl
  have c1 : w.cell? ⟨p, 1, none⟩ = some (.bool b1) := by rw [cell_of_row w p 1 _ 28 (0, 0) hp]; rfl
  have f1 : w.frozen? ⟨p, 1, none⟩ = false := frozen_of_row w p 1 _ 28 hp
  have ht : (4 : Int) < (zs.length : Int) + (ys.length : Int) := by omega
  have Hp := hide hp
  have Ho := hide hown
  clear hp hown
  go_enter Try.func20, Try.ntmps20
  go_wp2
  (try simp only [Exit.inBlock, Exit.then])
  refine bodyPost_ret (v := .tuple #[]) (by simp [results, Try.results20]) rfl ?_
  refine ⟨rfl, ⟨a, c, ?_, ?_, hB⟩, (Below.refl _ _).setCell (by simpa using hB) _⟩
  · rw [heap_setCell_same w p 1 _ 28 _ (unhide Hp)]; simp
  · exact ownsRow_setCell_other (unhide Ho) (own_not_p (unhide Ho) (unhide Hp)) _

theorem addName_short_nil (B p : Nat) (zs : List Int) (b1 b2 b3 b4 b5 : Bool) (w : World) (h : FR B w p zs b1 b2 b3 b4 b5) (hz : zs.length ≤ 4) :
    Calls Try.prog 20 #[.pointer (some ⟨p, 0, none⟩), .slice none 0 0] w fun e w' => e = .returned (.tuple #[]) ∧ FR B w' p zs b1 b2 b3 b4 b5 ∧ Below B w w' := by
  obtain ⟨a, c, hp, hown, hB⟩ := h
  obtain ⟨i0, hi, hz0, hz1, hz2⟩ := info_parts Try.info5
  have c0 : w.cell? ⟨p, 0, none⟩ = some (.slice a zs.length c) := by rw [cell_of_row w p 0 _ 28 (0, 0) hp]; rfl
  have f0 : w.frozen? ⟨p, 0, none⟩ = false := frozen_of_row w p 0 _ 28 hp
  have ht : ¬ (4 : Int) < (zs.length : Int) := by omega
  have Hp := hide hp
  have Ho := hide hown
  clear hp hown
  go_enter Try.func20, Try.ntmps20
  go_wp2_with (at_builtin; refine wpList_append_own_none rfl (.tmp 20) (.tmp 21) 22 rfl B 5 i0 1 Try.underlying22 hi _ _ _ rfl (unhide Ho) rfl ?_)
  go_end0
  refine ⟨rfl, ⟨a, c, ?_, ?_, hB⟩, (Below.refl _ _).setCell (by simpa using hB) _⟩
  · rw [heap_setCell_same w p 0 _ 28 _ (unhide Hp)]; simp
  · exact ownsRow_setCell_other (unhide Ho) (own_not_p (unhide Ho) (unhide Hp)) _

theorem addName_short (B p : Nat) (zs ys : List Int) (b1 b2 b3 b4 b5 : Bool) (x : Addr) (m cm : Nat) (w : World) (h : FR B w p zs b1 b2 b3 b4 b5) (hy : Row w (some x) m ys) (hz : zs.length + m ≤ 4) :
    Calls Try.prog 20 #[.pointer (some ⟨p, 0, none⟩), .slice (some x) m cm] w fun e w' => e = .returned (.tuple #[]) ∧ FR B w' p (zs ++ ys) b1 b2 b3 b4 b5 ∧ Below B w w' := by
  obtain ⟨a, c, hp, hown, hB⟩ := h
  obtain ⟨i0, hi, hz0, hz1, hz2⟩ := info_parts Try.info5
  have c0 : w.cell? ⟨p, 0, none⟩ = some (.slice a zs.length c) := by rw [cell_of_row w p 0 _ 28 (0, 0) hp]; rfl
  have f0 : w.frozen? ⟨p, 0, none⟩ = false := frozen_of_row w p 0 _ 28 hp
  have ht : ¬ (4 : Int) < (zs.length : Int) + (m : Int) := by omega
  have hpl : p < w.heap.size := lt_of_block hp
  have hnews : ∀ j u, (ys.map (Value.int .u8))[j]? = some u → w.cell? (x.add j) = some u := by
    intro j u hu
    have hj : j < ys.length := by have := (List.getElem?_eq_some_iff.1 hu).1; simpa using this
    obtain ⟨b, off, ex, hc⟩ := hy.2 (by rw [← hy.1]; omega)
    obtain rfl := Option.some.inj ex
    rw [Addr.add_lit, hc j (by rw [← hy.1]; omega), ← hu]
    simp [hj]
  have hl : (ys.map (Value.int .u8)).length = m * 1 := by simp [hy.1]
  have Hp := hide hp
  have Ho := hide hown
  have Hn := hide hnews
  have Hl := hide hl
  have Hy := hide hy.1
  clear hp hown hnews hl hy
  go_enter Try.func20, Try.ntmps20
  go_wp2_with (at_builtin; refine wpList_append_own _ rfl (.tmp 20) (.tmp 21) 22 rfl B 5 i0 (.int .u8 0) 1 1 Try.underlying22 hi hz0 hz1 hz2 rfl (by decide) _ _ _ rfl (unhide Ho) x m cm _ rfl (unhide Hl) (unhide Hn) (ints_oneCell _ _) (by unfold maxLen; omega) (by omega) (by omega) ?_)
  intro v' w1 hown' hgrow _
  obtain ⟨a', c', hv'⟩ := own_shape hown'
  rw [hv'] at hown' ⊢
  clear hv'
  have hp1 : w1.heap[p]? = some (.cells #[.slice a zs.length c, .bool b1, .bool b2, .bool b3, .bool b4, .bool b5] 28 (0, 0)) := (hgrow.block p hpl (own_not_p (unhide Ho) (unhide Hp)).symm).trans (unhide Hp)
  have c01 : w1.cell? ⟨p, 0, none⟩ = some (.slice a zs.length c) := by rw [cell_of_row w1 p 0 _ 28 (0, 0) hp1]; rfl
  have f01 : w1.frozen? ⟨p, 0, none⟩ = false := frozen_of_row w1 p 0 _ 28 hp1
  have Hp1 := hide hp1
  have Ho1 := hide hown'
  have hb1 : Below B w w1 := (Below.refl _ _).grown hgrow (by omega) (fun k hk => ((unhide Ho).lt k hk).1)
  clear hp1 hown' hgrow c0 f0 hi hz0 hz1 hz2
  go_wp2
  go_end0
  have el : (zs ++ ys).length = zs.length + m := by rw [List.length_append, unhide Hy]
  refine ⟨rfl, ⟨a', c', ?_, ?_, hB⟩, hb1.setCell (by simpa using hB) _⟩
  · rw [heap_setCell_same w1 p 0 _ 28 _ (unhide Hp1), el]; simp
  · rw [el, List.map_append]
    exact ownsRow_setCell_other (unhide Ho1) (own_not_p (unhide Ho1) (unhide Hp1)) _

/-- addName, whatever comes. -/
theorem addName_any (B p : Nat) (zs ys : List Int) (b1 b2 b3 b4 b5 : Bool) (x : Option Addr) (m cm : Nat) (w : World) (h : FR B w p zs b1 b2 b3 b4 b5) (hy : Row w x m ys) (hx : x = none → m = 0 ∧ cm = 0) (hz : zs.length ≤ 1048576) (hm : m ≤ 1048576) :
    Calls Try.prog 20 #[.pointer (some ⟨p, 0, none⟩), .slice x m cm] w fun e w' => e = .returned (.tuple #[]) ∧ FR B w' p (addN zs b1 ys).1 (addN zs b1 ys).2 b2 b3 b4 b5 ∧ Below B w w' := by
  unfold addN
  by_cases hl : 4 < zs.length + ys.length
  · rw [if_pos hl]
    exact addName_long B p zs ys b1 b2 b3 b4 b5 x m cm w h hy.1 hz hm hl
  · rw [if_neg hl]
    cases x with
    | none =>
      obtain ⟨rfl, rfl⟩ := hx rfl
      obtain rfl : ys = [] := List.eq_nil_of_length_eq_zero hy.1
      rw [List.append_nil]
      exact addName_short_nil B p zs b1 b2 b3 b4 b5 w h (by simpa using hl)
    | some x =>
      exact addName_short B p zs ys b1 b2 b3 b4 b5 x m cm w h hy (by have := hy.1; omega)

/-- ZZAddName hands on. -/
theorem zzAddName_any (B p : Nat) (zs ys : List Int) (b1 b2 b3 b4 b5 : Bool) (x : Option Addr) (m cm : Nat) (w : World) (h : FR B w p zs b1 b2 b3 b4 b5) (hy : Row w x m ys) (hx : x = none → m = 0 ∧ cm = 0) (hz : zs.length ≤ 1048576) (hm : m ≤ 1048576) :
    Calls Try.prog 16 #[.pointer (some ⟨p, 0, none⟩), .slice x m cm] w fun e w' => e = .returned (.tuple #[]) ∧ FR B w' p (addN zs b1 ys).1 (addN zs b1 ys).2 b2 b3 b4 b5 ∧ Below B w w' := by
  have H := hide (addName_any B p zs ys b1 b2 b3 b4 b5 x m cm w h hy hx hz hm)
  clear h hy hx hz hm
  go_enter Try.func16, Try.ntmps16
  go_wp2_with fail
  refine (unhide H).mono ?_
  rintro e w' ⟨rfl, hf, hb⟩
  have F := hide hf
  have G := hide hb
  clear hf hb H
  go_wp2
  go_end0
  exact ⟨rfl, unhide F, unhide G⟩

end Go.Proofs.Qxb6618037a
