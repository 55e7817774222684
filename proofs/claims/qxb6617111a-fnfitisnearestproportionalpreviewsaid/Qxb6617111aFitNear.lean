/- The law FnFitIsNearestProportionalPreview, walked. -/
import Derived.Test.Qxb6617111aFit
namespace Go.Proofs.Qxb6617111a
open Go.RowKit
set_option linter.unusedVariables false
set_option maxHeartbeats 1000000 in
theorem near_guard (w h : Int) (hn : w < 1 ∨ 1 ≤ w ∧ h < 1 ∨ 1 ≤ w ∧ 1 ≤ h ∧ 36028797018963968 < w ∨ 1 ≤ w ∧ 1 ≤ h ∧ w ≤ 36028797018963968 ∧ 36028797018963968 < h) (W : World) :
    Calls Try.prog 5 #[.int .i64 w, .int .i64 h] W fun e w' => e = .returned (.bool true) ∧ w' = W := by
  rcases hn with hn | ⟨hn1, hn2⟩ | ⟨hn1, hn2, hn3⟩ | ⟨hn1, hn2, hn3, hn4⟩
  all_goals
    go_enter Try.func5, Try.ntmps5
    go_wp2
    go_ret
    exact ⟨rfl, rfl⟩

set_option maxHeartbeats 1000000 in
theorem near_small (w h : Int) (hw : 1 ≤ w) (hh : 1 ≤ h) (hw2 : w ≤ 150) (hh2 : h ≤ 150) (W : World) :
    Calls Try.prog 5 #[.int .i64 w, .int .i64 h] W fun e w' => e = .returned (.bool true) ∧ w' = W := by
  go_enter Try.func5, Try.ntmps5
  go_wp2_with (go_at_call 9; refine (fit_small _ _ _ (by omega) (by omega)).mono ?_; rintro e w' ⟨rfl, rfl⟩)
  go_ret
  exact ⟨rfl, rfl⟩

/-- zzNearestSide says yes to the preview's shorter side. -/
theorem near_sc (s l : Int) (W : World) (hs : 1 ≤ s) (hsl : s ≤ l) (hm : l ≤ 36028797018963968) :
    Calls Try.prog 10 #[.int .u64 s, .int .u64 l, .int .i64 (sc s l)] W fun e w' => e = .returned (.bool true) ∧ w' = W := by
  obtain ⟨b1, b2⟩ := sc_bounds s l hs hsl
  by_cases h : sc s l = 1
  · rw [h]; exact near_one s l W hs hsl hm (sc_one s l hs hsl h)
  · obtain ⟨m1, m2, m3⟩ := sc_more s l hs hsl h
    obtain ⟨r1, r2⟩ := sc_room l (sc s l) (by omega) hm b1 b2
    exact near_more s l (sc s l) W hs hsl hm m1 b2 r1 r2 m2 m3

set_option maxHeartbeats 1000000 in
theorem near_wide (w h : Int) (hh : 1 ≤ h) (hw : 150 < w) (hhw : h < w) (hm : w ≤ 36028797018963968) (W : World) :
    Calls Try.prog 5 #[.int .i64 w, .int .i64 h] W fun e w' => e = .returned (.bool true) ∧ w' = W := by
  have hlt : ¬ w ≤ h := by omega
  go_enter Try.func5, Try.ntmps5
  go_wp2_with fail
  go_at_call 9; refine (fit_wide _ _ _ hw hh (by omega) hm).mono ?_; rintro e w' ⟨rfl, rfl⟩
  go_wp2_with fail
  go_at_call 9; refine (fit_tall _ _ _ hw hh hhw hm).mono ?_; rintro e w' ⟨rfl, rfl⟩
  go_wp2_with (go_at_call 10; refine (near_sc _ _ _ hh (by omega) hm).mono ?_; rintro e w' ⟨rfl, rfl⟩)
  go_ret
  exact ⟨rfl, rfl⟩

set_option maxHeartbeats 1000000 in
theorem near_square (w : Int) (hw : 150 < w) (hm : w ≤ 36028797018963968) (W : World) :
    Calls Try.prog 5 #[.int .i64 w, .int .i64 w] W fun e w' => e = .returned (.bool true) ∧ w' = W := by
  have h1 : 1 ≤ w := by omega
  go_enter Try.func5, Try.ntmps5
  go_wp2_with fail
  go_at_call 9; refine (fit_wide _ _ _ hw h1 (by omega) hm).mono ?_; rintro e w' ⟨he, rfl⟩; rw [sc_same w h1] at he; subst he
  go_wp2_with fail
  go_at_call 9; refine (fit_wide _ _ _ hw h1 (by omega) hm).mono ?_; rintro e w' ⟨he, rfl⟩; rw [sc_same w h1] at he; subst he
  go_wp2_with (go_at_call 10; refine (sc_same w h1 ▸ near_sc w w _ h1 (by omega) hm).mono ?_; rintro e w' ⟨rfl, rfl⟩)
  go_ret
  exact ⟨rfl, rfl⟩

set_option maxHeartbeats 1000000 in
theorem near_tall (w h : Int) (hw : 1 ≤ w) (hh : 150 < h) (hhw : w < h) (hm : h ≤ 36028797018963968) (W : World) :
    Calls Try.prog 5 #[.int .i64 w, .int .i64 h] W fun e w' => e = .returned (.bool true) ∧ w' = W := by
  have hlt : ¬ h ≤ w := by omega
  by_cases hc : w ≤ 150
  all_goals
    go_enter Try.func5, Try.ntmps5
    go_wp2_with fail
    go_at_call 9; refine (fit_tall _ _ _ hh hw (by omega) hm).mono ?_; rintro e w' ⟨rfl, rfl⟩
    go_wp2_with fail
    go_at_call 9; refine (fit_wide _ _ _ hh hw (by omega) hm).mono ?_; rintro e w' ⟨rfl, rfl⟩
    go_wp2_with (go_at_call 10; refine (near_sc _ _ _ hw (by omega) hm).mono ?_; rintro e w' ⟨rfl, rfl⟩)
    go_ret
    exact ⟨rfl, rfl⟩

theorem near_any (w h : Int) (W : World) :
    Calls Try.prog 5 #[.int .i64 w, .int .i64 h] W fun e w' => e = .returned (.bool true) ∧ w' = W := by
  by_cases c1 : 1 ≤ w ∧ 1 ≤ h ∧ w ≤ 36028797018963968 ∧ h ≤ 36028797018963968
  · obtain ⟨hw, hh, hwm, hhm⟩ := c1
    by_cases c2 : w ≤ 150 ∧ h ≤ 150
    · exact near_small w h hw hh c2.1 c2.2 W
    · by_cases c3 : w = h
      · subst c3; exact near_square w (by omega) hwm W
      · by_cases c4 : h < w
        · exact near_wide w h hh (by omega) c4 hwm W
        · exact near_tall w h hw (by omega) (by omega) hhm W
  · exact near_guard w h (by omega) W
end Go.Proofs.Qxb6617111a
