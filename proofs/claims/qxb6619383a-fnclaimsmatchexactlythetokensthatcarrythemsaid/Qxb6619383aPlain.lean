/-
  MY OWN WORK (seat b6619383a). The plain law: a map filled from a list of claims, later entries winning; no Go in sight.
-/
import Derived.Below
namespace Go.Proofs.Qxb6619383a

/-- A claim: its name and its value. -/
abbrev Cl := ByteArray × ByteArray
/-- What a map holds. -/
abbrev Fm := ByteArray → Option ByteArray

def upd (f : Fm) (k v : ByteArray) : Fm := fun s => if s = k then some v else f s
def era (f : Fm) (k : ByteArray) : Fm := fun s => if s = k then none else f s
def fnil : Fm := fun _ => none
/-- The map filled from a list. -/
def build (f : Fm) (cs : List Cl) : Fm := cs.foldl (fun g p => upd g p.1 p.2) f

theorem build_snoc (f : Fm) (cs : List Cl) (p : Cl) : build f (cs ++ [p]) = upd (build f cs) p.1 p.2 := by simp [build, List.foldl_append]
theorem upd_same (f : Fm) (k v : ByteArray) : upd f k v k = some v := by simp [upd]
theorem upd_other (f : Fm) {k s : ByteArray} (v : ByteArray) (h : s ≠ k) : upd f k v s = f s := by simp [upd, h]
theorem era_same (f : Fm) (k : ByteArray) : era f k k = none := by simp [era]
theorem era_other (f : Fm) {k s : ByteArray} (h : s ≠ k) : era f k s = f s := by simp [era, h]

theorem snoc_ind {M : List Cl → Prop} (h0 : M []) (h1 : ∀ xs p, M xs → M (xs ++ [p])) (xs : List Cl) : M xs := by
  rw [← List.reverse_reverse xs]
  induction xs.reverse with
  | nil => exact h0
  | cons p r ih => rw [List.reverse_cons]; exact h1 _ _ ih

/-- What a list says of a name stands whatever was there before it. -/
theorem build_over (f : Fm) (cs : List Cl) : ∀ s v, build fnil cs s = some v → build f cs s = some v := by
  refine snoc_ind (M := fun cs => ∀ s v, build fnil cs s = some v → build f cs s = some v) ?_ ?_ cs
  · intro s v h
    simp [build, fnil] at h
  · intro cs p ih s v h
    rw [build_snoc] at h ⊢
    by_cases e : s = p.1
    · subst e
      rw [upd_same] at h ⊢
      exact h
    · rw [upd_other _ _ e] at h ⊢
      exact ih s v h

/-- The value of the last entry of that name. -/
theorem build_last (cs : List Cl) (k : Nat) (hk : k < cs.length) (hn : ∀ j, k < j → (h : j < cs.length) → cs[j].1 ≠ cs[k].1) : build fnil cs cs[k].1 = some cs[k].2 := by
  have key : ∀ m, k < m → m ≤ cs.length → build fnil (cs.take m) cs[k].1 = some cs[k].2 := by
    intro m
    induction m with
    | zero => intro h; omega
    | succ m ih =>
      intro h1 h2
      rw [List.take_succ_eq_append_getElem (by omega), build_snoc]
      by_cases e : k = m
      · subst e
        exact upd_same _ _ _
      · rw [upd_other]
        · exact ih (by omega) (by omega)
        · exact (hn m (by omega) (by omega)).symm
  have := key cs.length hk (Nat.le_refl _)
  rwa [List.take_length] at this

theorem build_take (f : Fm) (cs : List Cl) (k : Nat) (hk : k < cs.length) : build f (cs.take (k + 1)) = upd (build f (cs.take k)) cs[k].1 cs[k].2 := by
  rw [List.take_succ_eq_append_getElem hk, build_snoc]

end Go.Proofs.Qxb6619383a
