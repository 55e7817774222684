/- The law FnFitKeepsShapeScalesFreelyAndSettles, walked. -/
import Derived.Test.Qxb6617111aFit
namespace Go.Proofs.Qxb6617111a
open Go.RowKit
set_option linter.unusedVariables false
set_option maxHeartbeats 1000000 in
theorem keep_guard (w h k : Int) (hn : w < 1 ∨ 1 ≤ w ∧ h < 1 ∨ 1 ≤ w ∧ 1 ≤ h ∧ 36028797018963968 < w ∨ 1 ≤ w ∧ 1 ≤ h ∧ w ≤ 36028797018963968 ∧ 36028797018963968 < h) (W : World) :
    Calls Try.prog 6 #[.int .i64 w, .int .i64 h, .int .i64 k] W fun e w' => e = .returned (.bool true) ∧ w' = W := by
  rcases hn with hn | ⟨hn1, hn2⟩ | ⟨hn1, hn2, hn3⟩ | ⟨hn1, hn2, hn3, hn4⟩
  all_goals
    go_enter Try.func6, Try.ntmps6
    go_wp2
    go_ret
    exact ⟨rfl, rfl⟩

set_option maxHeartbeats 1000000 in
theorem keep_guard2 (w h k : Int) (hw : 1 ≤ w) (hh : 1 ≤ h) (hwm : w ≤ 36028797018963968) (hhm : h ≤ 36028797018963968) (hn : k < 1 ∨ 1 ≤ k ∧ 65536 < k) (W : World) :
    Calls Try.prog 6 #[.int .i64 w, .int .i64 h, .int .i64 k] W fun e w' => e = .returned (.bool true) ∧ w' = W := by
  rcases hn with hn | ⟨hn1, hn2⟩
  all_goals
    go_enter Try.func6, Try.ntmps6
    go_wp2
    go_ret
    exact ⟨rfl, rfl⟩

set_option maxHeartbeats 1000000 in
theorem keep_guard3 (w h k : Int) (hw : 1 ≤ w) (hh : 1 ≤ h) (hwm : w ≤ 36028797018963968) (hhm : h ≤ 36028797018963968) (hk : 1 ≤ k) (hk2 : k ≤ 65536)
    (hn : (h ≤ w ∧ 36028797018963968 / w < k) ∨ (w < h ∧ 36028797018963968 / h < k)) (W : World) :
    Calls Try.prog 6 #[.int .i64 w, .int .i64 h, .int .i64 k] W fun e w' => e = .returned (.bool true) ∧ w' = W := by
  rcases hn with ⟨hn1, hn2⟩ | ⟨hn1, hn2⟩
  all_goals
    go_enter Try.func6, Try.ntmps6
    go_wp2
    go_ret
    exact ⟨rfl, rfl⟩

set_option maxHeartbeats 1000000 in
theorem keep_small (w h k : Int) (hw : 1 ≤ w) (hh : 1 ≤ h) (hwm : w ≤ 150) (hhm : h ≤ 150) (hk : 1 ≤ k) (hk2 : k ≤ 65536)
    (hn : (h ≤ w ∧ k ≤ 36028797018963968 / w ∧ k ≤ 9223372036854775807 / w) ∨ (w < h ∧ k ≤ 36028797018963968 / h ∧ k ≤ 9223372036854775807 / h)) (W : World) :
    Calls Try.prog 6 #[.int .i64 w, .int .i64 h, .int .i64 k] W fun e w' => e = .returned (.bool true) ∧ w' = W := by
  rcases hn with ⟨hn1, hn2, hn3⟩ | ⟨hn1, hn2, hn3⟩
  all_goals
    go_enter Try.func6, Try.ntmps6
    go_wp2_with (go_at_call 9; refine (fit_small _ _ _ (by omega) (by omega)).mono ?_; rintro e w' ⟨rfl, rfl⟩)
    go_ret
    exact ⟨rfl, rfl⟩

set_option maxHeartbeats 1000000 in
theorem keep_wide (w h k : Int) (hh : 1 ≤ h) (hw : 150 < w) (hwm : w ≤ 36028797018963968) (hk : 1 ≤ k) (hk2 : k ≤ 65536)
    (hn1 : h ≤ w) (hn2 : k ≤ 36028797018963968 / w) (hn3 : k ≤ 9223372036854775807 / w)
    (m1 : 1 ≤ k * h) (m2 : k * h ≤ k * w) (m3 : 150 < k * w) (m4 : k * w ≤ 36028797018963968) (W : World) :
    Calls Try.prog 6 #[.int .i64 w, .int .i64 h, .int .i64 k] W fun e w' => e = .returned (.bool true) ∧ w' = W := by
  obtain ⟨b1, b2⟩ := sc_bounds h w hh hn1
  go_enter Try.func6, Try.ntmps6
  go_wp2_with fail
  go_at_call 9; refine (fit_wide _ _ _ hw hh hn1 hwm).mono ?_; rintro e w' ⟨rfl, rfl⟩
  go_wp2_with fail
  go_at_call 9; refine (fit_small _ _ _ (by omega) b2).mono ?_; rintro e w' ⟨rfl, rfl⟩
  go_wp2_with fail
  go_at_call 9; refine (fit_wide _ _ _ m3 m1 m2 m4).mono ?_; rintro e w' ⟨he, rfl⟩; rw [sc_scale h w k hk (by omega)] at he; subst he
  go_wp2_with fail
  go_ret
  exact ⟨rfl, rfl⟩

set_option maxHeartbeats 1000000 in
theorem keep_tall (w h k : Int) (hw : 1 ≤ w) (hh : 150 < h) (hhm : h ≤ 36028797018963968) (hk : 1 ≤ k) (hk2 : k ≤ 65536)
    (hn1 : w < h) (hn2 : k ≤ 36028797018963968 / h) (hn3 : k ≤ 9223372036854775807 / h)
    (m1 : 1 ≤ k * w) (m2 : k * w < k * h) (m3 : 150 < k * h) (m4 : k * h ≤ 36028797018963968) (W : World) :
    Calls Try.prog 6 #[.int .i64 w, .int .i64 h, .int .i64 k] W fun e w' => e = .returned (.bool true) ∧ w' = W := by
  obtain ⟨b1, b2⟩ := sc_bounds w h hw (by omega)
  go_enter Try.func6, Try.ntmps6
  go_wp2_with fail
  go_at_call 9; refine (fit_tall _ _ _ hh hw hn1 hhm).mono ?_; rintro e w' ⟨rfl, rfl⟩
  go_wp2_with fail
  go_at_call 9; refine (fit_small _ _ _ b2 (by omega)).mono ?_; rintro e w' ⟨rfl, rfl⟩
  go_wp2_with fail
  go_at_call 9; refine (fit_tall _ _ _ m3 m1 m2 m4).mono ?_; rintro e w' ⟨he, rfl⟩; rw [sc_scale w h k hk (by omega)] at he; subst he
  go_wp2_with fail
  go_ret
  exact ⟨rfl, rfl⟩

theorem keep_any (w h k : Int) (W : World) :
    Calls Try.prog 6 #[.int .i64 w, .int .i64 h, .int .i64 k] W fun e w' => e = .returned (.bool true) ∧ w' = W := by
  by_cases c1 : 1 ≤ w ∧ 1 ≤ h ∧ w ≤ 36028797018963968 ∧ h ≤ 36028797018963968
  · obtain ⟨hw, hh, hwm, hhm⟩ := c1
    by_cases c2 : 1 ≤ k ∧ k ≤ 65536
    · obtain ⟨hk, hk2⟩ := c2
      by_cases c3 : h ≤ w
      · by_cases c4 : k ≤ 36028797018963968 / w
        · have c5 : k ≤ 9223372036854775807 / w := Int.le_trans c4 (Int.ediv_le_ediv (by omega) (by decide))
          by_cases c6 : w ≤ 150
          · exact keep_small w h k hw hh c6 (by omega) hk hk2 (.inl ⟨c3, c4, c5⟩) W
          · have n1 : 1 * h ≤ k * h := Int.mul_le_mul_of_nonneg_right hk (by omega)
            have n2 : k * h ≤ k * w := Int.mul_le_mul_of_nonneg_left c3 (by omega)
            have n3 : 1 * w ≤ k * w := Int.mul_le_mul_of_nonneg_right hk (by omega)
            have n4 : k * w ≤ 36028797018963968 := Int.mul_le_of_le_ediv (by omega) c4
            exact keep_wide w h k hh (by omega) hwm hk hk2 c3 c4 c5 (by omega) n2 (by omega) n4 W
        · exact keep_guard3 w h k hw hh hwm hhm hk hk2 (.inl ⟨c3, by omega⟩) W
      · by_cases c4 : k ≤ 36028797018963968 / h
        · have c5 : k ≤ 9223372036854775807 / h := Int.le_trans c4 (Int.ediv_le_ediv (by omega) (by decide))
          by_cases c6 : h ≤ 150
          · exact keep_small w h k hw hh (by omega) c6 hk hk2 (.inr ⟨by omega, c4, c5⟩) W
          · have n1 : 1 * w ≤ k * w := Int.mul_le_mul_of_nonneg_right hk (by omega)
            have n2 : k * w < k * h := Int.mul_lt_mul_of_pos_left (by omega) (by omega)
            have n3 : 1 * h ≤ k * h := Int.mul_le_mul_of_nonneg_right hk (by omega)
            have n4 : k * h ≤ 36028797018963968 := Int.mul_le_of_le_ediv (by omega) c4
            exact keep_tall w h k hw (by omega) hhm hk hk2 (by omega) c4 c5 (by omega) n2 (by omega) n4 W
        · exact keep_guard3 w h k hw hh hwm hhm hk hk2 (.inr ⟨by omega, by omega⟩) W
    · exact keep_guard2 w h k hw hh hwm hhm (by omega) W
  · exact keep_guard w h k (by omega) W
end Go.Proofs.Qxb6617111a
