/- Law 1, walked: orientation source is mirror and transpose composed. -/
import Derived.Test.Qxb6617111aOrient
namespace Go.Proofs.Qxb6617111a
open Go.RowKit
set_option linter.unusedSimpArgs false
set_option linter.unusedVariables false
set_option maxRecDepth 10000 in
set_option maxHeartbeats 2000000 in
theorem comp_lit (o x y w h : Int) (ho : o = 2 ∨ o = 3 ∨ o = 4 ∨ o = 5 ∨ o = 6 ∨ o = 7 ∨ o = 8) (W : World) :
    Calls Try.prog 3 #[.int .i64 o, .int .i64 x, .int .i64 y, .int .i64 w, .int .i64 h] W fun e w' => e = .returned (.bool true) ∧ w' = W := by
  rcases ho with rfl | rfl | rfl | rfl | rfl | rfl | rfl
  all_goals
    go_enter Try.func3, Try.ntmps3
    go_wp2_with (go_at_call 8; refine (src_any _ _ _ _ _ _).mono ?_; rintro e w' ⟨he, rfl⟩; simp only [sx1, sx2, sx3, sx4, sx5, sx6, sx7, sx8, sy1, sy2, sy3, sy4, sy5, sy6, sy7, sy8] at he; subst he)
    go_ret
    exact ⟨rfl, rfl⟩
set_option maxRecDepth 10000 in
set_option maxHeartbeats 2000000 in
theorem comp_out (o x y w h : Int) (ho : o < 2 ∨ 8 < o) (W : World) :
    Calls Try.prog 3 #[.int .i64 o, .int .i64 x, .int .i64 y, .int .i64 w, .int .i64 h] W fun e w' => e = .returned (.bool true) ∧ w' = W := by
  have e2 : (o == 2) = false := by simp; omega
  have e3 : (o == 3) = false := by simp; omega
  have e4 : (o == 4) = false := by simp; omega
  have HX : Hid (sx o x y w h = x) := sxo o x y w h ho
  have HY : Hid (sy o x y w h = y) := syo o x y w h ho
  rcases ho with ho | ho
  all_goals
    go_enter Try.func3, Try.ntmps3
    go_wp2_with (go_at_call 8; refine (src_any _ _ _ _ _ _).mono ?_; rintro e w' ⟨he, rfl⟩; simp only [HX.out, HY.out, sx1, sx2, sx5, sy1, sy2, sy5] at he; subst he)
    go_ret
    exact ⟨rfl, rfl⟩


theorem comp_any (o x y w h : Int) (W : World) :
    Calls Try.prog 3 #[.int .i64 o, .int .i64 x, .int .i64 y, .int .i64 w, .int .i64 h] W fun e w' => e = .returned (.bool true) ∧ w' = W := by
  by_cases h1 : o < 2 ∨ 8 < o
  · exact comp_out o x y w h h1 W
  · exact comp_lit o x y w h (by omega) W
end Go.Proofs.Qxb6617111a
