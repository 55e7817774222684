/- The contracts of photo.ZZFit and zzNearestSide, and the plain arithmetic of the preview's shorter side. -/
import Derived.Test.Qxb6617111aProg
import Derived.WalkKit
import Derived.WalkSpells
import Derived.WalkLawsBesides
import Derived.RowKit3
namespace Go.Proofs.Qxb6617111a
open Go.RowKit

/-- The shorter side of the preview, as the Go text computes it where nothing wraps. -/
def sc (s l : Int) : Int := max 1 ((s * 150 + l / 2) / l)

theorem ret_int {k : IntKind} {a b : Int} (h : a = b) : Ending.returned (.int k a) = .returned (.int k b) := by rw [h]

theorem sc_hi (s l : Int) (h : 1 < (s * 150 + l / 2) / l) : (s * 150 + l / 2) / l = sc s l := by unfold sc; omega
theorem sc_lo (s l : Int) (h : (s * 150 + l / 2) / l ≤ 1) : 1 = sc s l := by unfold sc; omega

set_option maxHeartbeats 400000 in
theorem scale_any (s l : Int) (W : World) (hs : 1 ≤ s) (hl : 1 ≤ l) (hsl : s ≤ l) (hm : l ≤ 36028797018963968) :
    Calls Try.prog 16 #[.int .i64 s, .int .i64 l] W fun e w' =>
      e = .returned (.int .i64 (sc s l)) ∧ w' = W := by
  go_enter Try.func16, Try.ntmps16
  go_wp2
  · go_ret
    exact ⟨ret_int (sc_hi s l (by assumption)), rfl⟩
  · go_ret
    exact ⟨ret_int (sc_lo s l (by assumption)), rfl⟩

theorem fit_small (w h : Int) (W : World) (hw : w ≤ 150) (hh : h ≤ 150) :
    Calls Try.prog 9 #[.int .i64 w, .int .i64 h] W fun e w' => e = .returned (.tuple #[.int .i64 w, .int .i64 h]) ∧ w' = W := by
  go_enter Try.func9, Try.ntmps9
  go_wp2
  go_ret2
  exact ⟨rfl, rfl⟩

set_option maxHeartbeats 400000 in
theorem fit_wide (w h : Int) (W : World) (hw : 150 < w) (hh : 1 ≤ h) (hwh : h ≤ w) (hm : w ≤ 36028797018963968) :
    Calls Try.prog 9 #[.int .i64 w, .int .i64 h] W fun e w' => e = .returned (.tuple #[.int .i64 150, .int .i64 (sc h w)]) ∧ w' = W := by
  go_enter Try.func9, Try.ntmps9
  go_wp2_with (first | (go_at_call 16; refine (scale_any _ _ _ hh (by omega) hwh hm).mono ?_; rintro e w' ⟨rfl, rfl⟩) | go_in)
  go_ret2
  exact ⟨rfl, rfl⟩

set_option maxHeartbeats 400000 in
theorem fit_tall (w h : Int) (W : World) (hh : 150 < h) (hw : 1 ≤ w) (hwh : w < h) (hm : h ≤ 36028797018963968) :
    Calls Try.prog 9 #[.int .i64 w, .int .i64 h] W fun e w' => e = .returned (.tuple #[.int .i64 (sc w h), .int .i64 150]) ∧ w' = W := by
  have hlt : ¬ h ≤ w := by omega
  by_cases hc : w ≤ 150
  all_goals
    go_enter Try.func9, Try.ntmps9
    go_wp2_with (first | (go_at_call 16; refine (scale_any _ _ _ hw (by omega) (by omega) hm).mono ?_; rintro e w' ⟨rfl, rfl⟩) | go_in)
    go_ret2
    exact ⟨rfl, rfl⟩

theorem near_one (s l : Int) (W : World) (hs : 1 ≤ s) (hsl : s ≤ l) (hm : l ≤ 36028797018963968) (h : 300 * s < 3 * l) :
    Calls Try.prog 10 #[.int .u64 s, .int .u64 l, .int .i64 1] W fun e w' => e = .returned (.bool true) ∧ w' = W := by
  go_enter Try.func10, Try.ntmps10
  go_wp2
  go_ret
  exact ⟨rfl, rfl⟩

theorem near_more (s l r : Int) (W : World) (hs : 1 ≤ s) (hsl : s ≤ l) (hm : l ≤ 36028797018963968) (hr : 2 ≤ r) (hr2 : r ≤ 150)
    (hp0 : l ≤ 2 * r * l) (hp1 : 2 * r * l ≤ 10808639105689190400) (h1 : 2 * r * l - l ≤ 300 * s) (h2 : 300 * s < 2 * r * l + l) :
    Calls Try.prog 10 #[.int .u64 s, .int .u64 l, .int .i64 r] W fun e w' => e = .returned (.bool true) ∧ w' = W := by
  have hr1 : (r == 1) = false := by simp; omega
  go_enter Try.func10, Try.ntmps10
  go_wp2
  go_ret
  exact ⟨rfl, rfl⟩

/-! ### The plain arithmetic -/
theorem sc_q (s l : Int) (hl : 1 ≤ l) : ∃ q p : Int, q = (s * 150 + l / 2) / l ∧ p = q * l ∧ p ≤ s * 150 + l / 2 ∧ s * 150 + l / 2 < p + l := by
  refine ⟨(s * 150 + l / 2) / l, (s * 150 + l / 2) / l * l, rfl, rfl, Int.ediv_mul_le _ (by omega), ?_⟩
  have := Int.lt_ediv_add_one_mul_self (s * 150 + l / 2) (show 0 < l by omega)
  rw [Int.add_mul, Int.one_mul] at this
  exact this

theorem sc_bounds (s l : Int) (hs : 1 ≤ s) (hsl : s ≤ l) : 1 ≤ sc s l ∧ sc s l ≤ 150 := by
  have h : (s * 150 + l / 2) / l < 151 := Int.ediv_lt_of_lt_mul (by omega) (by omega)
  unfold sc
  omega

theorem sc_one (s l : Int) (hs : 1 ≤ s) (hsl : s ≤ l) (h : sc s l = 1) : 300 * s < 3 * l := by
  obtain ⟨q, p, hq, hp, h1, h2⟩ := sc_q s l (by omega)
  have hq1 : q ≤ 1 := by unfold sc at h; omega
  have : q * l ≤ 1 * l := Int.mul_le_mul_of_nonneg_right hq1 (by omega)
  omega

theorem sc_more (s l : Int) (hs : 1 ≤ s) (hsl : s ≤ l) (h : sc s l ≠ 1) :
    2 ≤ sc s l ∧ 2 * sc s l * l - l ≤ 300 * s ∧ 300 * s < 2 * sc s l * l + l := by
  obtain ⟨q, p, hq, hp, h1, h2⟩ := sc_q s l (by omega)
  have e : sc s l = q := by unfold sc at h ⊢; omega
  have h2' : 2 ≤ sc s l := by unfold sc at h ⊢; omega
  rw [e] at h2' ⊢
  rw [Int.mul_assoc, ← hp]
  omega

theorem sc_room (l r : Int) (hl : 1 ≤ l) (hm : l ≤ 36028797018963968) (h1 : 1 ≤ r) (h2 : r ≤ 150) : l ≤ 2 * r * l ∧ 2 * r * l ≤ 10808639105689190400 := by
  have a : 1 * l ≤ (2 * r) * l := Int.mul_le_mul_of_nonneg_right (by omega) (by omega)
  have b : (2 * r) * l ≤ 300 * l := Int.mul_le_mul_of_nonneg_right (by omega) (by omega)
  omega

theorem sc_same (l : Int) (hl : 1 ≤ l) : sc l l = 150 := by
  have h : (l * 150 + l / 2) / l = 150 := by
    rw [Int.add_comm, Int.add_mul_ediv_left _ _ (by omega), Int.ediv_eq_zero_of_lt (by omega) (by omega)]; omega
  unfold sc
  rw [h]; rfl

theorem sc_scale (s l k : Int) (hk : 1 ≤ k) (hl : 1 ≤ l) : sc (k * s) (k * l) = sc s l := by
  obtain ⟨q, p, hq, hp, h1, h2⟩ := sc_q s l hl
  have e : (k * s * 150 + k * l / 2) / (k * l) = q := by
    have hkl : 1 ≤ k * l := by
      have : 1 * 1 ≤ k * l := Int.mul_le_mul hk hl (by omega) (by omega)
      omega
    have m1 : k * (2 * p) ≤ k * (300 * s + l) := Int.mul_le_mul_of_nonneg_left (by omega) (by omega)
    have m2 : k * (300 * s) ≤ k * (2 * p + l - 1) := Int.mul_le_mul_of_nonneg_left (by omega) (by omega)
    have e1 : k * (2 * p) = 2 * (q * (k * l)) := by rw [hp, Int.mul_left_comm k 2, Int.mul_left_comm k q]
    have e2 : k * (300 * s + l) = 300 * (k * s) + k * l := by rw [Int.mul_add, Int.mul_left_comm]
    have e3 : k * (300 * s) = 300 * (k * s) := Int.mul_left_comm _ _ _
    have e4 : k * (2 * p + l - 1) = 2 * (q * (k * l)) + k * l - k := by rw [Int.mul_sub, Int.mul_add, e1]; omega
    have lo : q ≤ (k * s * 150 + k * l / 2) / (k * l) := Int.le_ediv_of_mul_le (by omega) (by omega)
    have hi : (k * s * 150 + k * l / 2) / (k * l) < q + 1 := Int.ediv_lt_of_lt_mul (by omega) (by rw [Int.add_mul, Int.one_mul]; omega)
    omega
  unfold sc
  rw [e, hq]
end Go.Proofs.Qxb6617111a
