/- The walks of photo.ZZSource and of the two laws over it. -/
import Derived.Test.Qxb6617111aProg
import Derived.WalkKit
import Derived.WalkSpells
import Derived.RowKit3
namespace Go.Proofs.Qxb6617111a
open Go.RowKit

/-- The source pixel's column, as the Go text computes it. -/
def sx (o x y w _h : Int) : Int :=
  if o = 2 then wrap64 (wrap64 (w - 1) - x) else if o = 3 then wrap64 (wrap64 (w - 1) - x) else if o = 4 then x
  else if o = 5 then y else if o = 6 then y else if o = 7 then wrap64 (wrap64 (w - 1) - y) else if o = 8 then wrap64 (wrap64 (w - 1) - y) else x
/-- The source pixel's row, as the Go text computes it. -/
def sy (o x y _w h : Int) : Int :=
  if o = 2 then y else if o = 3 then wrap64 (wrap64 (h - 1) - y) else if o = 4 then wrap64 (wrap64 (h - 1) - y)
  else if o = 5 then x else if o = 6 then wrap64 (wrap64 (h - 1) - x) else if o = 7 then wrap64 (wrap64 (h - 1) - x) else if o = 8 then x else y

set_option maxHeartbeats 400000 in
theorem src_any (o x y w h : Int) (W : World) :
    Calls Try.prog 8 #[.int .i64 o, .int .i64 x, .int .i64 y, .int .i64 w, .int .i64 h] W fun e w' =>
      e = .returned (.tuple #[.int .i64 (sx o x y w h), .int .i64 (sy o x y w h)]) ∧ w' = W := by
  unfold sx sy
  by_cases h2 : o = 2
  · subst h2
    go_enter Try.func8, Try.ntmps8
    go_wp2
    go_ret2
    exact ⟨by simp, rfl⟩
  by_cases h3 : o = 3
  · subst h3
    go_enter Try.func8, Try.ntmps8
    go_wp2
    go_ret2
    exact ⟨by simp, rfl⟩
  by_cases h4 : o = 4
  · subst h4
    go_enter Try.func8, Try.ntmps8
    go_wp2
    go_ret2
    exact ⟨by simp, rfl⟩
  by_cases h5 : o = 5
  · subst h5
    go_enter Try.func8, Try.ntmps8
    go_wp2
    go_ret2
    exact ⟨by simp, rfl⟩
  by_cases h6 : o = 6
  · subst h6
    go_enter Try.func8, Try.ntmps8
    go_wp2
    go_ret2
    exact ⟨by simp, rfl⟩
  by_cases h7 : o = 7
  · subst h7
    go_enter Try.func8, Try.ntmps8
    go_wp2
    go_ret2
    exact ⟨by simp, rfl⟩
  by_cases h8 : o = 8
  · subst h8
    go_enter Try.func8, Try.ntmps8
    go_wp2
    go_ret2
    exact ⟨by simp, rfl⟩
  have e2 : (o == 2) = false := by simpa using h2
  have e3 : (o == 3) = false := by simpa using h3
  have e4 : (o == 4) = false := by simpa using h4
  have e5 : (o == 5) = false := by simpa using h5
  have e6 : (o == 6) = false := by simpa using h6
  have e7 : (o == 7) = false := by simpa using h7
  have e8 : (o == 8) = false := by simpa using h8
  simp only [h2, h3, h4, h5, h6, h7, h8, if_false]
  go_enter Try.func8, Try.ntmps8
  go_wp2
  go_ret2
  exact ⟨rfl, rfl⟩

theorem sx1 (x y w h : Int) : sx 1 x y w h = x := by simp [sx]
theorem sy1 (x y w h : Int) : sy 1 x y w h = y := by simp [sy]
theorem sx2 (x y w h : Int) : sx 2 x y w h = wrap64 (wrap64 (w - 1) - x) := by simp [sx]
theorem sy2 (x y w h : Int) : sy 2 x y w h = y := by simp [sy]
theorem sx3 (x y w h : Int) : sx 3 x y w h = wrap64 (wrap64 (w - 1) - x) := by simp [sx]
theorem sy3 (x y w h : Int) : sy 3 x y w h = wrap64 (wrap64 (h - 1) - y) := by simp [sy]
theorem sx4 (x y w h : Int) : sx 4 x y w h = x := by simp [sx]
theorem sy4 (x y w h : Int) : sy 4 x y w h = wrap64 (wrap64 (h - 1) - y) := by simp [sy]
theorem sx5 (x y w h : Int) : sx 5 x y w h = y := by simp [sx]
theorem sy5 (x y w h : Int) : sy 5 x y w h = x := by simp [sy]
theorem sx6 (x y w h : Int) : sx 6 x y w h = y := by simp [sx]
theorem sy6 (x y w h : Int) : sy 6 x y w h = wrap64 (wrap64 (h - 1) - x) := by simp [sy]
theorem sx7 (x y w h : Int) : sx 7 x y w h = wrap64 (wrap64 (w - 1) - y) := by simp [sx]
theorem sy7 (x y w h : Int) : sy 7 x y w h = wrap64 (wrap64 (h - 1) - x) := by simp [sy]
theorem sx8 (x y w h : Int) : sx 8 x y w h = wrap64 (wrap64 (w - 1) - y) := by simp [sx]
theorem sy8 (x y w h : Int) : sy 8 x y w h = x := by simp [sy]
theorem sxo (o x y w h : Int) (ho : o < 2 ∨ 8 < o) : sx o x y w h = x := by
  unfold sx; rw [if_neg (by omega), if_neg (by omega), if_neg (by omega), if_neg (by omega), if_neg (by omega), if_neg (by omega), if_neg (by omega)]
theorem syo (o x y w h : Int) (ho : o < 2 ∨ 8 < o) : sy o x y w h = y := by
  unfold sy; rw [if_neg (by omega), if_neg (by omega), if_neg (by omega), if_neg (by omega), if_neg (by omega), if_neg (by omega), if_neg (by omega)]

end Go.Proofs.Qxb6617111a
