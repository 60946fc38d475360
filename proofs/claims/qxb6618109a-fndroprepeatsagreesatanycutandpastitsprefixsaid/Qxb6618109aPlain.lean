/-
  MY OWN WORK (seat b6618109a). The plain law: what dropRepeats keeps, with no Go in sight.
-/
import Derived.Below
namespace Go.Proofs.Qxb6618109a

/-- A problem: its line and its message. -/
abbrev Pb := Int × ByteArray

/-- A problem goes to the end unless it is there. -/
def isIn (acc : List Pb) (p : Pb) : Bool := acc.any (fun q => decide (q = p))
theorem isIn_iff (acc : List Pb) (p : Pb) : isIn acc p = true ↔ p ∈ acc := by
  unfold isIn
  rw [List.any_eq_true]
  constructor
  · rintro ⟨q, hq, h⟩
    have : q = p := by simpa using h
    exact this ▸ hq
  · intro h
    exact ⟨p, h, by simp⟩
def add (acc : List Pb) (p : Pb) : List Pb := if isIn acc p then acc else acc ++ [p]
theorem add_in {acc : List Pb} {p : Pb} (h : p ∈ acc) : add acc p = acc := by unfold add; rw [if_pos ((isIn_iff _ _).2 h)]
theorem add_out {acc : List Pb} {p : Pb} (h : p ∉ acc) : add acc p = acc ++ [p] := by unfold add; rw [if_neg (fun e => h ((isIn_iff _ _).1 e))]
/-- The distinct ones, in the order of their first appearance. -/
def dd (xs : List Pb) : List Pb := xs.foldl add []

theorem dd_append (xs ys : List Pb) : dd (xs ++ ys) = ys.foldl add (dd xs) := by simp [dd, List.foldl_append]
theorem dd_snoc (xs : List Pb) (p : Pb) : dd (xs ++ [p]) = add (dd xs) p := by simp [dd_append]
theorem dd_nil : dd [] = [] := rfl

theorem snoc_ind {M : List Pb → Prop} (h0 : M []) (h1 : ∀ xs p, M xs → M (xs ++ [p])) (xs : List Pb) : M xs := by
  rw [← List.reverse_reverse xs]
  induction xs.reverse with
  | nil => exact h0
  | cons p r ih => rw [List.reverse_cons]; exact h1 _ _ ih

theorem mem_add (acc : List Pb) (p q : Pb) : q ∈ add acc p ↔ q ∈ acc ∨ q = p := by
  by_cases h : p ∈ acc
  · rw [add_in h]
    constructor
    · exact Or.inl
    · rintro (h' | rfl)
      · exact h'
      · exact h
  · rw [add_out h]; simp
theorem mem_dd (xs : List Pb) (q : Pb) : q ∈ dd xs ↔ q ∈ xs := by
  refine snoc_ind (M := fun xs => q ∈ dd xs ↔ q ∈ xs) ?_ ?_ xs
  · simp [dd_nil]
  · intro xs p ih
    rw [dd_snoc, mem_add, ih]
    simp
theorem nodup_add {acc : List Pb} (h : acc.Nodup) (p : Pb) : (add acc p).Nodup := by
  by_cases hn : p ∈ acc
  · rw [add_in hn]; exact h
  · rw [add_out hn, List.nodup_append]
    refine ⟨h, by simp, ?_⟩
    intro a ha b hb
    simp at hb
    subst hb
    intro e
    subst e
    exact hn ha
theorem nodup_dd (xs : List Pb) : (dd xs).Nodup := by
  refine snoc_ind (M := fun xs => (dd xs).Nodup) ?_ ?_ xs
  · simp [dd_nil]
  · intro xs p ih
    rw [dd_snoc]
    exact nodup_add ih p
theorem dd_of_nodup (xs : List Pb) : xs.Nodup → dd xs = xs := by
  refine snoc_ind (M := fun xs => xs.Nodup → dd xs = xs) ?_ ?_ xs
  · intro _; rfl
  · intro xs p ih h
    rw [List.nodup_append] at h
    obtain ⟨h1, _, h3⟩ := h
    rw [dd_snoc, ih h1, add_out]
    intro hp
    exact h3 p hp p (by simp) rfl
theorem dd_dd (xs : List Pb) : dd (dd xs) = dd xs := dd_of_nodup _ (nodup_dd xs)
/-- The cut. -/
theorem dd_cut (xs ys : List Pb) : dd (dd xs ++ ys) = dd (xs ++ ys) := by rw [dd_append, dd_append, dd_dd]
theorem length_add (acc : List Pb) (p : Pb) : (add acc p).length ≤ acc.length + 1 ∧ acc.length ≤ (add acc p).length := by
  unfold add; split <;> simp
theorem length_dd (xs : List Pb) : (dd xs).length ≤ xs.length := by
  refine snoc_ind (M := fun xs => (dd xs).length ≤ xs.length) ?_ ?_ xs
  · simp [dd_nil]
  · intro xs p ih
    rw [dd_snoc]
    have := (length_add (dd xs) p).1
    simp
    omega

/-! ### the first place -/
def fi (p : Pb) : List Pb → Nat
  | [] => 0
  | x :: r => if x = p then 0 else fi p r + 1
theorem fi_le (p : Pb) : ∀ t : List Pb, fi p t ≤ t.length
  | [] => by simp [fi]
  | x :: r => by unfold fi; split <;> simp; exact fi_le p r
theorem fi_lt {p : Pb} : ∀ {t : List Pb}, p ∈ t → fi p t < t.length
  | x :: r, h => by
    unfold fi
    split
    · simp
    · rename_i hx
      have : p ∈ r := by
        rcases List.mem_cons.1 h with e | e
        · exact absurd e.symm hx
        · exact e
      have := fi_lt this
      simp; omega
theorem fi_append {p : Pb} : ∀ {t : List Pb} (s : List Pb), p ∈ t → fi p (t ++ s) = fi p t
  | x :: r, s, h => by
    show fi p (x :: (r ++ s)) = fi p (x :: r)
    unfold fi
    split
    · rfl
    · rename_i hx
      have : p ∈ r := by
        rcases List.mem_cons.1 h with e | e
        · exact absurd e.symm hx
        · exact e
      rw [fi_append s this]
theorem fi_new {p : Pb} : ∀ {t : List Pb}, p ∉ t → fi p (t ++ [p]) = t.length
  | [], _ => by simp [fi]
  | x :: r, h => by
    show fi p (x :: (r ++ [p])) = _
    unfold fi
    rw [if_neg (fun e => h (by simp [e])), fi_new (fun h' => h (by simp [h']))]
    simp
/-- It is the first place: the element there is p, and no earlier one is. -/
theorem fi_eq {p : Pb} : ∀ {t : List Pb} {k : Nat}, t[k]? = some p → (∀ j, j < k → t[j]? ≠ some p) → fi p t = k
  | [], k, h, _ => by simp at h
  | x :: r, 0, h, _ => by simp at h; simp [fi, h]
  | x :: r, k + 1, h, hn => by
    have hx : x ≠ p := fun e => hn 0 (by omega) (by simp [e])
    unfold fi
    rw [if_neg hx, fi_eq (t := r) (k := k) (by simpa using h) (fun j hj => by simpa using hn (j + 1) (by omega))]
theorem not_mem_of {p : Pb} {t : List Pb} (h : ∀ j, j < t.length → t[j]? ≠ some p) : p ∉ t := by
  intro hp
  obtain ⟨j, hj, e⟩ := List.getElem_of_mem hp
  exact h j hj (by simp [hj, e])

/-- The distinct ones stand in the order of their first places. -/
theorem rise_dd (xs : List Pb) : (dd xs).Pairwise (fun a b => fi a xs < fi b xs) := by
  refine snoc_ind (M := fun xs => (dd xs).Pairwise (fun a b => fi a xs < fi b xs)) ?_ ?_ xs
  · simp [dd_nil]
  · intro xs p ih
    rw [dd_snoc]
    have ih' : (dd xs).Pairwise (fun a b => fi a (xs ++ [p]) < fi b (xs ++ [p])) := by
      refine List.Pairwise.imp_of_mem ?_ ih
      intro a b ha hb h
      rw [fi_append _ ((mem_dd _ _).1 ha), fi_append _ ((mem_dd _ _).1 hb)]
      exact h
    by_cases hn : p ∈ dd xs
    · rw [add_in hn]; exact ih'
    · rw [add_out hn]
      have hn' : p ∉ xs := fun h => hn ((mem_dd _ _).2 h)
      rw [List.pairwise_append]
      refine ⟨ih', by simp, ?_⟩
      intro a ha b hb
      simp at hb
      subst hb
      have ha' := (mem_dd _ _).1 ha
      rw [fi_append _ ha', fi_new hn']
      exact fi_lt ha'

/-- How many first places there are. -/
theorem dd_take_succ (xs : List Pb) (k : Nat) (h : k < xs.length) : dd (xs.take (k + 1)) = add (dd (xs.take k)) xs[k] := by
  rw [List.take_succ_eq_append_getElem h, dd_snoc]
theorem fi_here (xs : List Pb) (k : Nat) (h : k < xs.length) : fi xs[k] xs = k ↔ xs[k] ∉ xs.take k := by
  constructor
  · intro e hm
    have h1 : fi xs[k] (xs.take k ++ xs.drop k) = fi xs[k] (xs.take k) := fi_append _ hm
    rw [List.take_append_drop, e] at h1
    have := fi_lt hm
    simp at this
    omega
  · intro hm
    refine fi_eq (by simp [h]) (fun j hj e => hm ?_)
    rw [List.mem_take_iff_getElem]
    have hj' : j < xs.length := by omega
    refine ⟨j, by omega, ?_⟩
    simpa [hj'] using e
theorem count_step (xs : List Pb) (k : Nat) (h : k < xs.length) : (dd (xs.take (k + 1))).length = (dd (xs.take k)).length + (if fi xs[k] xs = k then 1 else 0) := by
  rw [dd_take_succ xs k h]
  by_cases hk : xs[k] ∈ xs.take k
  · rw [add_in ((mem_dd _ _).2 hk), if_neg (fun e => ((fi_here xs k h).1 e) hk)]; simp
  · rw [add_out (fun e => hk ((mem_dd _ _).1 e)), if_pos ((fi_here xs k h).2 hk)]; simp

/-- What dropRepeats leaves. -/
def drop (ps : List Pb) (m : Nat) : List Pb := ps.take m ++ dd (ps.drop m)
theorem drop_take (ps : List Pb) (m : Nat) (h : m ≤ ps.length) : (drop ps m).take m = ps.take m := by
  unfold drop
  rw [List.take_append_of_le_length (by simp; omega), List.take_take, Nat.min_self]
theorem drop_drop (ps : List Pb) (m : Nat) (h : m ≤ ps.length) : (drop ps m).drop m = dd (ps.drop m) := by
  unfold drop
  rw [List.drop_append_of_le_length (by simp; omega)]
  simp
theorem drop_twice (ps : List Pb) (m : Nat) (h : m ≤ ps.length) : drop (drop ps m) m = drop ps m := by
  show (drop ps m).take m ++ dd ((drop ps m).drop m) = _
  rw [drop_take ps m h, drop_drop ps m h, dd_dd]
  rfl
theorem length_drop (ps : List Pb) (m : Nat) (h : m ≤ ps.length) : m ≤ (drop ps m).length ∧ (drop ps m).length ≤ ps.length := by
  have := length_dd (ps.drop m)
  unfold drop
  simp at this ⊢
  omega
/-- The law of the cut. -/
theorem drop_cut (ps : List Pb) (m c : Nat) (h : m ≤ c) (hc : c ≤ ps.length) : drop (drop (ps.take c) m ++ ps.drop c) m = drop ps m := by
  have hl : m ≤ (ps.take c).length := by simp; omega
  have h1 := (length_drop (ps.take c) m hl).1
  have e1 : (drop (ps.take c) m ++ ps.drop c).take m = ps.take m := by
    rw [List.take_append_of_le_length h1, drop_take _ _ hl, List.take_take, Nat.min_eq_left h]
  have e2 : (drop (ps.take c) m ++ ps.drop c).drop m = dd ((ps.take c).drop m) ++ ps.drop c := by
    rw [List.drop_append_of_le_length h1, drop_drop _ _ hl]
  have e3 : (ps.take c).drop m ++ ps.drop c = ps.drop m := by
    rw [← List.drop_append_of_le_length hl, List.take_append_drop]
  show (drop (ps.take c) m ++ ps.drop c).take m ++ dd ((drop (ps.take c) m ++ ps.drop c).drop m) = _
  rw [e1, e2, dd_cut, e3]
  rfl

end Go.Proofs.Qxb6618109a
