/-
  MY OWN WORK (seat b6619363a). How many minutes are named: withinCount, and the plain law on the sum over the hours.
-/
import Derived.Test.Qxb6619363aWithin
namespace Go.Proofs.Qxb6619363a
open Go.RowKit

theorem shr_bit0 (X k : Nat) (hX : X < 18446744073709551616) : (bits .and .u64 ((X : Int) / 2 ^ k) 1 == 0) = !bt X k := by
  have e : ((X : Int) / 2 ^ k) = ((X / 2 ^ k : Nat) : Int) := by simp
  have hl : X / 2 ^ k ≤ X := Nat.div_le_self _ _
  have h1 : bits .and .u64 ((X / 2 ^ k : Nat) : Int) ((1 : Nat) : Int) = _ := u64_and_nat (X / 2 ^ k) 1 (by omega) (by omega)
  rw [e]
  rw [show ((1 : Int)) = ((1 : Nat) : Int) from rfl, h1, nat_mask1]
  unfold bt
  rcases Nat.mod_two_eq_zero_or_one (X / 2 ^ k) with h | h <;> rw [h] <;> rfl

/-- The places from lo on. -/
def fromP (X lo : Nat) (v : Nat) : Bool := decide (lo ≤ v) && bt X v

theorem cnt_start (X lo : Nat) : cnt (fromP X lo) lo = 0 := by
  have := cnt_to (fromP X lo) (Nat.zero_le lo) (fun t _ h => by unfold fromP; simp; intro h'; omega)
  rw [this]; rfl

/-- withinCount. -/
theorem count_any (X lo hi : Nat) (w : World) (hX : X < 18446744073709551616) (hlo : lo ≤ hi) (hhi : hi ≤ 59) :
    Calls Try.prog 9 #[.int .u64 X, .int .i64 lo, .int .i64 hi] w fun e w' => e = .returned (.int .i64 (cnt (fromP X lo) (hi + 1) : Nat)) ∧ w = w' := by
  go_enter Try.func9, Try.ntmps9
  go_wp2
  go_loop [7, 8] (fun n v => ∃ k : Nat, lo ≤ k ∧ k ≤ hi + 1 ∧ v = .int .i64 k ∧ n = .int .i64 (cnt (fromP X lo) k : Nat)) (fun _ v => hi + 1 - (intOf v).toNat)
  case atStart => exact ⟨lo, Nat.le_refl _, by omega, rfl, by rw [cnt_start]; rfl⟩
  case round =>
    obtain ⟨k, hk1, hk2, rfl, rfl⟩ := hrel
    have hcl := cnt_le (fromP X lo) k
    have hcs := cnt_succ (fromP X lo) k
    by_cases hlt : k ≤ hi
    · have H := shr_bit X k hX
      have hle : (k : Int) ≤ (hi : Int) := by omega
      have hkn : (0 : Int) ≤ (k : Int) := by omega
      have hP : fromP X lo k = bt X k := by unfold fromP; simp [hk1]
      rw [hP] at hcs
      generalize cnt (fromP X lo) k = n at hcl hcs
      cases hb : bt X k
      · rw [hb] at H hcs
        have Hcs := hide hcs
        clear hb hcs hP hX
        go_wp2
        go_round
        case rel => exact ⟨k + 1, by omega, by omega, by go_num, by rw [unhide Hcs]; simp⟩
        case measure => simp [intOf]; omega
      · rw [hb] at H hcs
        have Hcs := hide hcs
        clear hb hcs hP hX
        go_wp2
        go_round
        case rel => exact ⟨k + 1, by omega, by omega, by go_num, by rw [unhide Hcs]; simp⟩
        case measure => simp [intOf]; omega
    · have hle : ¬ (k : Int) ≤ (hi : Int) := by omega
      obtain rfl : k = hi + 1 := by omega
      clear hcs
      go_wp2
      go_ret
      exact ⟨rfl, rfl⟩

/-! ### the sum over the hours -/
/-- The named minutes from s on. -/
def upP (Xm Xh s t : Nat) : Bool := decide (s ≤ t) && al Xm Xh t
/-- The named minutes up to s. -/
def dnP (Xm Xh s t : Nat) : Bool := decide (t ≤ s) && al Xm Xh t

theorem hour_none {P : Nat → Bool} {H : Nat} (h : ∀ t, 60 * H ≤ t → t < 60 * (H + 1) → P t = false) : cnt P (60 * (H + 1)) = cnt P (60 * H) := cnt_to P (by omega) h
theorem hour_add (P : Nat → Bool) (H : Nat) : cnt P (60 * (H + 1)) = cnt P (60 * H) + cnt (fun t => P (60 * H + t)) 60 := by
  rw [show 60 * (H + 1) = 60 * H + 60 from by omega, cnt_add]

theorem up_here (Xm Xh H m : Nat) (hb : bt Xh H = true) : cnt (upP Xm Xh (60 * H + m)) (60 * (H + 1)) = cnt (upP Xm Xh (60 * H + m)) (60 * H) + cnt (fromP Xm m) (59 + 1) := by
  rw [hour_add]
  congr 1
  refine cnt_congr (fun t ht => ?_)
  unfold upP fromP
  rw [al_at _ _ _ _ (by omega), hb, show decide (60 * H + m ≤ 60 * H + t) = decide (m ≤ t) from by rw [decide_eq_decide]; omega]
  simp
theorem up_later (Xm Xh H s : Nat) (hs : s ≤ 60 * H) (hb : bt Xh H = true) : cnt (upP Xm Xh s) (60 * (H + 1)) = cnt (upP Xm Xh s) (60 * H) + cnt (fromP Xm 0) (59 + 1) := by
  rw [hour_add]
  congr 1
  refine cnt_congr (fun t ht => ?_)
  unfold upP fromP
  rw [al_at _ _ _ _ (by omega), hb, show decide (s ≤ 60 * H + t) = true from by rw [decide_eq_true_eq]; omega]
  simp
theorem up_early (Xm Xh H s : Nat) (hs : 60 * (H + 1) ≤ s) : cnt (upP Xm Xh s) (60 * (H + 1)) = cnt (upP Xm Xh s) (60 * H) :=
  hour_none (fun t _ h2 => by unfold upP; rw [show decide (s ≤ t) = false from by rw [decide_eq_false_iff_not]; omega]; rfl)
theorem up_unnamed (Xm Xh H s : Nat) (hb : bt Xh H = false) : cnt (upP Xm Xh s) (60 * (H + 1)) = cnt (upP Xm Xh s) (60 * H) :=
  hour_none (fun t h1 h2 => by unfold upP; rw [al_no_hour Xm Xh H t hb h1 h2]; simp)

theorem dn_here (Xm Xh H m : Nat) (hm : m ≤ 59) (hb : bt Xh H = true) : cnt (dnP Xm Xh (60 * H + m)) (60 * (H + 1)) = cnt (dnP Xm Xh (60 * H + m)) (60 * H) + cnt (fromP Xm 0) (m + 1) := by
  rw [hour_add]
  congr 1
  rw [cnt_to (n := m + 1) (m := 60) _ (by omega) (fun t h1 h2 => by unfold dnP; rw [show decide (60 * H + t ≤ 60 * H + m) = false from by rw [decide_eq_false_iff_not]; omega]; rfl)]
  refine cnt_congr (fun t ht => ?_)
  unfold dnP fromP
  rw [al_at _ _ _ _ (by omega), hb, show decide (60 * H + t ≤ 60 * H + m) = true from by rw [decide_eq_true_eq]; omega]
  simp
theorem dn_before (Xm Xh H s : Nat) (hs : 60 * (H + 1) ≤ s + 1) (hb : bt Xh H = true) : cnt (dnP Xm Xh s) (60 * (H + 1)) = cnt (dnP Xm Xh s) (60 * H) + cnt (fromP Xm 0) (59 + 1) := by
  rw [hour_add]
  congr 1
  refine cnt_congr (fun t ht => ?_)
  unfold dnP fromP
  rw [al_at _ _ _ _ (by omega), hb, show decide (60 * H + t ≤ s) = true from by rw [decide_eq_true_eq]; omega]
  simp
theorem dn_late (Xm Xh H s : Nat) (hs : s < 60 * H) : cnt (dnP Xm Xh s) (60 * (H + 1)) = cnt (dnP Xm Xh s) (60 * H) :=
  hour_none (fun t h1 _ => by unfold dnP; rw [show decide (t ≤ s) = false from by rw [decide_eq_false_iff_not]; omega]; rfl)
theorem dn_unnamed (Xm Xh H s : Nat) (hb : bt Xh H = false) : cnt (dnP Xm Xh s) (60 * (H + 1)) = cnt (dnP Xm Xh s) (60 * H) :=
  hour_none (fun t h1 h2 => by unfold dnP; rw [al_no_hour Xm Xh H t hb h1 h2]; simp)

/-! ### a step of the visit -/
theorem up_end {Xm Xh s c : Nat} (h : Up (al Xm Xh) c none) (hc : c ≤ 1440) : cnt (upP Xm Xh s) 1440 = cnt (upP Xm Xh s) c :=
  cnt_to _ hc (fun t h1 h2 => by unfold upP; rw [h t h1 h2]; simp)
theorem up_step {Xm Xh s c r : Nat} (h : Up (al Xm Xh) c (some r)) (hs : s ≤ c) : cnt (upP Xm Xh s) (r + 1) = cnt (upP Xm Xh s) c + 1 := by
  obtain ⟨h1, _, h3, h4⟩ := h
  rw [cnt_hit _ _ (by unfold upP; rw [h3, show decide (s ≤ r) = true from by rw [decide_eq_true_eq]; omega]; rfl), cnt_to _ h1 (fun t t1 t2 => by unfold upP; rw [h4 t t1 t2]; simp)]
theorem dn_end {Xm Xh s c : Nat} (h : Dn (al Xm Xh) c none) : cnt (dnP Xm Xh s) (c + 1) = 0 := by
  rw [cnt_to (n := 0) (m := c + 1) _ (by omega) (fun t _ t2 => by unfold dnP; rw [h t (by omega)]; simp)]; rfl
theorem dn_step {Xm Xh s c r : Nat} (h : Dn (al Xm Xh) c (some r)) (hs : c ≤ s) : cnt (dnP Xm Xh s) (c + 1) = cnt (dnP Xm Xh s) r + 1 := by
  obtain ⟨h1, h3, h4⟩ := h
  rw [← cnt_hit _ _ (by unfold dnP; rw [h3, show decide (r ≤ s) = true from by rw [decide_eq_true_eq]; omega]; rfl), cnt_to (n := r + 1) (m := c + 1) _ (by omega) (fun t t1 t2 => by unfold dnP; rw [h4 t (by omega) (by omega)]; simp)]
theorem dn_total (Xm Xh s : Nat) (hs : s ≤ 1439) : cnt (dnP Xm Xh s) (s + 1) = cnt (dnP Xm Xh s) 1440 :=
  (cnt_to _ (by omega) (fun t t1 _ => by unfold dnP; rw [show decide (t ≤ s) = false from by rw [decide_eq_false_iff_not]; omega]; rfl)).symm
theorem up_zero (Xm Xh s : Nat) : cnt (upP Xm Xh s) s = 0 := by
  rw [cnt_to (n := 0) (m := s) _ (by omega) (fun t _ t2 => by unfold upP; rw [show decide (s ≤ t) = false from by rw [decide_eq_false_iff_not]; omega]; rfl)]; rfl

end Go.Proofs.Qxb6619363a
