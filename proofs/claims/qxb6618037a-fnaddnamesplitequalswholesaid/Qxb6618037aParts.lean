/-
  MY OWN WORK (seat b6618037a). The callees' contracts in the one form that the law's own walk takes; the copy; the plain law on addN.
-/
import Derived.Test.Qxb6618037aAdd
import Derived.Test.Qxb6618037aReads
namespace Go.Proofs.Qxb6618037a
open Go.RowKit

theorem setRow_alloc (w : World) (cur cs : Array Value) (t : TypeId) : (w.alloc (.cells cur t)).setRow w.heap.size cs = w.alloc (.cells cs t) := by
  unfold World.setRow World.alloc
  congr 1
  apply Array.ext_getElem?
  intro k
  simp only [Array.getElem?_modify, Array.getElem?_push]
  by_cases hk : k = w.heap.size
  · subst hk; simp
  · simp [hk, Ne.symm hk]

/-- A row that was just laid. -/
theorem row_new (w : World) (zs : List Int) (t : TypeId) (n : Nat) (hn : zs.length = n) : Row (w.alloc (.cells (zs.map (Value.int .u8)).toArray t)) (some ⟨w.heap.size, 0, none⟩) n zs := by
  refine ⟨hn, fun _ => ⟨_, _, rfl, fun i hi => ?_⟩⟩
  rw [Nat.zero_add, World.cell?_alloc_new]
  simp [show i < zs.length by omega]

theorem own_new (w : World) (zs : List Int) (n : Nat) (hn : zs.length = n) (hm : n ≤ 1048576) : (w.alloc (.cells (zs.map (Value.int .u8)).toArray 5)).ownsRow w.heap.size 5 1 (.slice (some ⟨w.heap.size, 0, none⟩) n n) n (zs.map (Value.int .u8)) := by
  have := World.ownsRow_lit (base := w.heap.size) (e := 5) (size := 1) w (zs.map (Value.int .u8)).toArray n (Nat.le_refl _) (by unfold maxLen; omega) (by simp [hn])
  simpa using this

/-- 'zzc := make([]byte, len(a)); copy(zzc, a)' -/
theorem run_copy_new (w : World) (x : Addr) (n c : Nat) (zs : List Int) (ty : TypeId) (hr : Row w (some x) n zs) :
    (Builtin.copy_ #[22, 22] ty #[.slice (some ⟨w.heap.size, 0, none⟩) n n, .slice (some x) n c]).run Try.prog (w.alloc (.cells (madeCells #[.int .u8 0] n) 5)) = .ok (goInt n) (w.alloc (.cells (zs.map (Value.int .u8)).toArray 5)) := by
  have hl : (zs.map (Value.int .u8)).length = n := by simp [hr.1]
  have := run_copy_row (P := Try.prog) (w.alloc (.cells (madeCells #[.int .u8 0] n) 5)) 22 22 ty 5 w.heap.size 0 n n x n c (madeCells #[.int .u8 0] n) 5 (zs.map (Value.int .u8)) Try.underlying22 (by kernel_rfl) (heap_alloc_new _ _) (by rw [hl]; exact (Nat.min_self n).symm) ?_ (by rw [hl, size_madeCells]; omega) (ints_oneCell _ _)
  · rw [this, setRow_alloc, hl]
    have e : List.drop (0 + n) (madeCells #[.int .u8 0] n).toList = [] := by
      apply List.drop_eq_nil_of_le
      rw [Array.length_toList, size_madeCells]; omega
    rw [e]
    simp
  · intro j u hu
    have hj : j < zs.length := by have := (List.getElem?_eq_some_iff.1 hu).1; simpa using this
    have hj' : j < n := by rw [← hr.1]; exact hj
    obtain ⟨b, off, ex, hc⟩ := hr.2 (by omega)
    obtain rfl := Option.some.inj ex
    have hbl := World.block_lt_of_cell? w _ (hc j hj')
    rw [Addr.add_lit, World.cell?_alloc_past _ _ _ (by simpa using hbl), hc j hj', ← hu]
    simp [hj]

/-- zzCloneBytes, nil or not. -/
theorem clone_any (a : Option Addr) (n c : Nat) (zs : List Int) (w : World) (hn : n ≤ 1048576) (hr : Row w a n zs) (hx : a = none → n = 0 ∧ c = 0) :
    Calls Try.prog 6 #[.slice a n c] w fun e w' => ∃ a' c', e = .returned (.slice a' n c') ∧ w'.ownsRow w.heap.size 5 1 (.slice a' n c') n (zs.map (Value.int .u8)) ∧ Row w' a' n zs ∧ Below w.heap.size w w' := by
  cases a with
  | none =>
    obtain ⟨rfl, rfl⟩ := hx rfl
    obtain rfl : zs = [] := List.eq_nil_of_length_eq_zero hr.1
    refine (clone_nil w).mono ?_
    rintro e w' ⟨rfl, rfl⟩
    exact ⟨none, 0, rfl, World.ownsRow_nil _ _ _ _, Row.nil _ _, Below.refl _ _⟩
  | some x =>
    refine (clone_some x n c zs w hn hr).mono ?_
    rintro e w' ⟨rfl, rfl⟩
    exact ⟨_, n, rfl, own_new w zs n hr.1 hn, row_new w zs 5 n hr.1, (Below.refl _ _).alloc (Nat.le_refl _) _⟩

/-- zzCatBytes. -/
theorem cat_row (a b : Option Addr) (la ca lb cb : Nat) (za zb : List Int) (w : World) (hn : la + lb ≤ 1048576) (ha : Row w a la za) (hb : Row w b lb zb) :
    Calls Try.prog 12 #[.slice a la ca, .slice b lb cb] w fun e w' => ∃ x, e = .returned (.slice (some x) (la + lb) (la + lb)) ∧ Row w' (some x) (la + lb) (za ++ zb) ∧ Below w.heap.size w w' := by
  refine (cat_any a b la ca lb cb za zb w hn ha hb).mono ?_
  rintro e w' ⟨rfl, rfl⟩
  exact ⟨_, rfl, row_new w (za ++ zb) 5 (la + lb) (by simp [ha.1, hb.1]), (Below.refl _ _).alloc (Nat.le_refl _) _⟩

/-- A slice of the call's own, read as a row. -/
theorem row_own {w : World} {B n c : Nat} {a : Option Addr} {zs : List Int} (h : w.ownsRow B 5 1 (.slice a n c) n (zs.map (Value.int .u8))) : Row w a n zs := by
  have hl : zs.length = n := by have := h.1; simpa using this
  refine ⟨hl, fun hn => ?_⟩
  have h2 := h
  rcases h2.2 with ⟨h', h0⟩ | ⟨g, cap, cur, h', _⟩
  · omega
  · simp only [Value.slice.injEq, true_and] at h'
    obtain ⟨rfl, rfl⟩ := h'
    refine ⟨g, 0, rfl, fun i hi => ?_⟩
    rw [Nat.zero_add, h.cellAt i (by omega)]
    simp [show i < zs.length by omega]

theorem FR.row {B p : Nat} {w : World} {zs : List Int} {b1 b2 b3 b4 b5 : Bool} (h : FR B w p zs b1 b2 b3 b4 b5) : ∃ a c, w.heap[p]? = some (.cells #[.slice a zs.length c, .bool b1, .bool b2, .bool b3, .bool b4, .bool b5] 28 (0, 0)) ∧ Row w a zs.length zs := by
  obtain ⟨a, c, hp, ho, _⟩ := h
  exact ⟨a, c, hp, row_own ho⟩

/-- 'r := ZZMakeFieldRead(zzCloneBytes(name), ..)': the fieldRead's block behind the store. -/
theorem fr_made (w : World) (B n : Nat) (a : Option Addr) (c : Nat) (zs : List Int) (b1 b2 b3 b4 b5 : Bool) (h : w.ownsRow B 5 1 (.slice a n c) n (zs.map (Value.int .u8))) (hB : B ≤ w.heap.size) (o : Obj) :
    FR B ((w.alloc o).alloc (.cells #[.slice a n c, .bool b1, .bool b2, .bool b3, .bool b4, .bool b5] 28)) (w.heap.size + 1) zs b1 b2 b3 b4 b5 := by
  have hl : zs.length = n := by have := h.1; simpa using this
  subst hl
  exact ⟨a, c, heap_alloc2_new w o _, (h.alloc _).alloc _, by omega⟩

/-! ### the plain law -/
theorem addN_snd (zs : List Int) (l : Bool) (ys : List Int) : (addN zs l ys).2 = (l || decide (4 < zs.length + ys.length)) := by
  unfold addN
  by_cases h : 4 < zs.length + ys.length <;> simp [h]
theorem addN2_snd (zs : List Int) (l : Bool) (ys xs : List Int) : (addN (addN zs l ys).1 (addN zs l ys).2 xs).2 = (l || decide (4 < zs.length + ys.length + xs.length)) := by
  unfold addN
  by_cases h : 4 < zs.length + ys.length
  · have h2 : 4 < zs.length + ys.length + xs.length := by omega
    by_cases h3 : 4 < zs.length + xs.length <;> simp [h, h2, h3]
  · by_cases h3 : 4 < zs.length + ys.length + xs.length <;> simp [h, h3]
theorem addN_pre (zs : List Int) (l : Bool) (ys : List Int) : zs.length ≤ (addN zs l ys).1.length ∧ ∀ i, i < zs.length → (addN zs l ys).1.getD i 0 = zs.getD i 0 := by
  unfold addN
  split
  · exact ⟨Nat.le_refl _, fun _ _ => rfl⟩
  · refine ⟨by simp, fun i hi => ?_⟩
    simp [List.getElem?_append_left hi]
theorem addN2_pre (zs : List Int) (l : Bool) (ys xs : List Int) : zs.length ≤ (addN (addN zs l ys).1 (addN zs l ys).2 xs).1.length ∧ ∀ i, i < zs.length → (addN (addN zs l ys).1 (addN zs l ys).2 xs).1.getD i 0 = zs.getD i 0 := by
  have h1 := addN_pre zs l ys
  have h2 := addN_pre (addN zs l ys).1 (addN zs l ys).2 xs
  exact ⟨by omega, fun i hi => (h2.2 i (by omega)).trans (h1.2 i hi)⟩
theorem addN_le (zs : List Int) (l : Bool) (ys : List Int) (h : zs.length ≤ 4) : (addN zs l ys).1.length ≤ 4 := by
  unfold addN; split
  · exact h
  · simp; omega
theorem addN_big (zs : List Int) (l : Bool) (ys : List Int) : (addN zs l ys).1.length ≤ zs.length + ys.length := by
  unfold addN; split
  · simp
  · simp
theorem addN_all (zs : List Int) (l : Bool) (ys : List Int) (h : ¬ 4 < zs.length + ys.length) : (addN zs l ys).1 = zs ++ ys := by
  unfold addN; rw [if_neg h]
theorem addN2_all (zs : List Int) (l : Bool) (ys xs : List Int) (h : ¬ 4 < zs.length + ys.length + xs.length) : (addN (addN zs l ys).1 (addN zs l ys).2 xs).1 = zs ++ (ys ++ xs) := by
  rw [addN_all _ _ _ (by rw [addN_all _ _ _ (by omega)]; simp; omega), addN_all _ _ _ (by omega), List.append_assoc]

end Go.Proofs.Qxb6618037a
