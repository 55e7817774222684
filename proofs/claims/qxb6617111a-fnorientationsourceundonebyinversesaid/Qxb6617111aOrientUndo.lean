/- Law 2, walked: orientation source is undone by the inverse orientation. -/
import Derived.Test.Qxb6617111aOrient
namespace Go.Proofs.Qxb6617111a
open Go.RowKit
set_option linter.unusedSimpArgs false
set_option linter.unusedVariables false
theorem wrap_id (a : Int) (h1 : -9223372036854775808 ≤ a) (h2 : a < 9223372036854775808) : wrap64 a = a := by unfold wrap64; omega

set_option maxRecDepth 10000 in
set_option maxHeartbeats 2000000 in
theorem undo_lit (o x y w h : Int) (hw : 1 ≤ w) (hh : 1 ≤ h) (hwm : w ≤ 9223372036854775807) (hhm : h ≤ 9223372036854775807) (hx : 0 ≤ x) (hy : 0 ≤ y)
    (ho : o = 2 ∨ o = 3 ∨ o = 4) (hxw : x < w) (hyh : y < h) (W : World) :
    Calls Try.prog 4 #[.int .i64 o, .int .i64 x, .int .i64 y, .int .i64 w, .int .i64 h] W fun e w' => e = .returned (.bool true) ∧ w' = W := by
  have HXA : Hid (wrap64 (wrap64 (w - 1) - x) = w - 1 - x) := by unfold Hid; rw [wrap_id (w - 1) (by omega) (by omega), wrap_id _ (by omega) (by omega)]
  have HYA : Hid (wrap64 (wrap64 (h - 1) - y) = h - 1 - y) := by unfold Hid; rw [wrap_id (h - 1) (by omega) (by omega), wrap_id _ (by omega) (by omega)]
  have HXB : Hid (wrap64 (wrap64 (w - 1) - (w - 1 - x)) = x) := by unfold Hid; rw [wrap_id (w - 1) (by omega) (by omega), wrap_id _ (by omega) (by omega)]; omega
  have HYB : Hid (wrap64 (wrap64 (h - 1) - (h - 1 - y)) = y) := by unfold Hid; rw [wrap_id (h - 1) (by omega) (by omega), wrap_id _ (by omega) (by omega)]; omega
  rcases ho with rfl | rfl | rfl
  all_goals
    go_enter Try.func4, Try.ntmps4
    go_wp2_with (go_at_call 8; refine (src_any _ _ _ _ _ _).mono ?_; rintro e w' ⟨he, rfl⟩; simp only [sx1, sx2, sx3, sx4, sx5, sx6, sx7, sx8, sy1, sy2, sy3, sy4, sy5, sy6, sy7, sy8, HXA.out, HYA.out, HXB.out, HYB.out] at he; subst he)
    go_ret
    exact ⟨rfl, rfl⟩
set_option maxRecDepth 10000 in
set_option maxHeartbeats 2000000 in
theorem undo_turned (o x y w h : Int) (hw : 1 ≤ w) (hh : 1 ≤ h) (hwm : w ≤ 9223372036854775807) (hhm : h ≤ 9223372036854775807) (hx : 0 ≤ x) (hy : 0 ≤ y)
    (ho : o = 5 ∨ o = 6 ∨ o = 7 ∨ o = 8) (hxw : x < h) (hyh : y < w) (W : World) :
    Calls Try.prog 4 #[.int .i64 o, .int .i64 x, .int .i64 y, .int .i64 w, .int .i64 h] W fun e w' => e = .returned (.bool true) ∧ w' = W := by
  have HXA : Hid (wrap64 (wrap64 (w - 1) - y) = w - 1 - y) := by unfold Hid; rw [wrap_id (w - 1) (by omega) (by omega), wrap_id _ (by omega) (by omega)]
  have HYA : Hid (wrap64 (wrap64 (h - 1) - x) = h - 1 - x) := by unfold Hid; rw [wrap_id (h - 1) (by omega) (by omega), wrap_id _ (by omega) (by omega)]
  have HXB : Hid (wrap64 (wrap64 (w - 1) - (w - 1 - y)) = y) := by unfold Hid; rw [wrap_id (w - 1) (by omega) (by omega), wrap_id _ (by omega) (by omega)]; omega
  have HYB : Hid (wrap64 (wrap64 (h - 1) - (h - 1 - x)) = x) := by unfold Hid; rw [wrap_id (h - 1) (by omega) (by omega), wrap_id _ (by omega) (by omega)]; omega
  rcases ho with rfl | rfl | rfl | rfl
  all_goals
    go_enter Try.func4, Try.ntmps4
    go_wp2_with (go_at_call 8; refine (src_any _ _ _ _ _ _).mono ?_; rintro e w' ⟨he, rfl⟩; simp only [sx1, sx2, sx3, sx4, sx5, sx6, sx7, sx8, sy1, sy2, sy3, sy4, sy5, sy6, sy7, sy8, HXA.out, HYA.out, HXB.out, HYB.out] at he; subst he)
    go_ret
    exact ⟨rfl, rfl⟩

set_option maxRecDepth 10000 in
set_option maxHeartbeats 2000000 in
theorem undo_out (o x y w h : Int) (hw : 1 ≤ w) (hh : 1 ≤ h) (hx : 0 ≤ x) (hy : 0 ≤ y)
    (ho : o < 2 ∨ 8 < o) (hxw : x < w) (hyh : y < h) (W : World) :
    Calls Try.prog 4 #[.int .i64 o, .int .i64 x, .int .i64 y, .int .i64 w, .int .i64 h] W fun e w' => e = .returned (.bool true) ∧ w' = W := by
  have e6 : (o == 6) = false := by simp; omega
  have e8 : (o == 8) = false := by simp; omega
  have HX : Hid (sx o x y w h = x) := sxo o x y w h ho
  have HY : Hid (sy o x y w h = y) := syo o x y w h ho
  rcases ho with ho | ho
  all_goals
    go_enter Try.func4, Try.ntmps4
    go_wp2_with (go_at_call 8; refine (src_any _ _ _ _ _ _).mono ?_; rintro e w' ⟨he, rfl⟩; simp only [HX.out, HY.out] at he; subst he)
    go_ret
    exact ⟨rfl, rfl⟩

set_option maxRecDepth 10000 in
theorem undo_none (o x y w h : Int) (hn : w < 1 ∨ 1 ≤ w ∧ h < 1) (W : World) :
    Calls Try.prog 4 #[.int .i64 o, .int .i64 x, .int .i64 y, .int .i64 w, .int .i64 h] W fun e w' => e = .returned (.bool true) ∧ w' = W := by
  rcases hn with hn | ⟨hn, hn2⟩
  all_goals
    go_enter Try.func4, Try.ntmps4
    go_wp2
    go_ret
    exact ⟨rfl, rfl⟩

set_option maxRecDepth 10000 in
set_option maxHeartbeats 2000000 in
theorem undo_off (o x y w h : Int) (hw : 1 ≤ w) (hh : 1 ≤ h) (ho : o < 5 ∨ 8 < o) 
    (hn : x < 0 ∨ (0 ≤ x ∧ w ≤ x) ∨ (0 ≤ x ∧ x < w ∧ y < 0) ∨ (0 ≤ x ∧ x < w ∧ 0 ≤ y ∧ h ≤ y)) (W : World) :
    Calls Try.prog 4 #[.int .i64 o, .int .i64 x, .int .i64 y, .int .i64 w, .int .i64 h] W fun e w' => e = .returned (.bool true) ∧ w' = W := by
  rcases ho with ho | ho <;> rcases hn with hn | ⟨hn1, hn2⟩ | ⟨hn1, hn2, hn3⟩ | ⟨hn1, hn2, hn3, hn4⟩
  all_goals
    go_enter Try.func4, Try.ntmps4
    go_wp2
    go_ret
    exact ⟨rfl, rfl⟩

set_option maxRecDepth 10000 in
set_option maxHeartbeats 2000000 in
theorem undo_off_turned (o x y w h : Int) (hw : 1 ≤ w) (hh : 1 ≤ h) (ho : 5 ≤ o) (ho' : o ≤ 8) 
    (hn : x < 0 ∨ (0 ≤ x ∧ h ≤ x) ∨ (0 ≤ x ∧ x < h ∧ y < 0) ∨ (0 ≤ x ∧ x < h ∧ 0 ≤ y ∧ w ≤ y)) (W : World) :
    Calls Try.prog 4 #[.int .i64 o, .int .i64 x, .int .i64 y, .int .i64 w, .int .i64 h] W fun e w' => e = .returned (.bool true) ∧ w' = W := by
  rcases hn with hn | ⟨hn1, hn2⟩ | ⟨hn1, hn2, hn3⟩ | ⟨hn1, hn2, hn3, hn4⟩
  all_goals
    go_enter Try.func4, Try.ntmps4
    go_wp2
    go_ret
    exact ⟨rfl, rfl⟩

theorem undo_any (o x y w h : Int) (hwm : w ≤ 9223372036854775807) (hhm : h ≤ 9223372036854775807) (W : World) :
    Calls Try.prog 4 #[.int .i64 o, .int .i64 x, .int .i64 y, .int .i64 w, .int .i64 h] W fun e w' => e = .returned (.bool true) ∧ w' = W := by
  by_cases c1 : w < 1
  · exact undo_none o x y w h (.inl c1) W
  by_cases c2 : h < 1
  · exact undo_none o x y w h (.inr ⟨by omega, c2⟩) W
  by_cases c3 : 5 ≤ o ∧ o ≤ 8
  · by_cases c4 : 0 ≤ x ∧ x < h ∧ 0 ≤ y ∧ y < w
    · exact undo_turned o x y w h (by omega) (by omega) hwm hhm c4.1 c4.2.2.1 (by omega) c4.2.1 c4.2.2.2 W
    · exact undo_off_turned o x y w h (by omega) (by omega) c3.1 c3.2 (by omega) W
  · by_cases c4 : 0 ≤ x ∧ x < w ∧ 0 ≤ y ∧ y < h
    · by_cases c5 : o < 2 ∨ 8 < o
      · exact undo_out o x y w h (by omega) (by omega) c4.1 c4.2.2.1 c5 c4.2.1 c4.2.2.2 W
      · exact undo_lit o x y w h (by omega) (by omega) hwm hhm c4.1 c4.2.2.1 (by omega) c4.2.1 c4.2.2.2 W
    · exact undo_off o x y w h (by omega) (by omega) (by omega) (by omega) W
end Go.Proofs.Qxb6617111a
