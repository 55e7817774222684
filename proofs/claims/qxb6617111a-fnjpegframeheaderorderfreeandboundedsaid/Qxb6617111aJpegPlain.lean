/- The plain arithmetic of a JPEG frame's coding units and samples. -/
import Derived.WalkKit
namespace Go.Proofs.Qxb6617111a
/-- The greatest of the first k numbers, at least 1. -/
def mx (X : Nat → Int) : Nat → Int
  | 0 => 1
  | k + 1 => if mx X k < X k then X k else mx X k

theorem mx_bd (X : Nat → Int) (n : Nat) (h : ∀ j, j < n → 0 ≤ X j ∧ X j ≤ 255) : ∀ k, k ≤ n → 1 ≤ mx X k ∧ mx X k ≤ 255
  | 0, _ => ⟨by simp [mx], by simp [mx]⟩
  | k + 1, hk => by
    have ih := mx_bd X n h k (by omega)
    have := h k (by omega)
    simp only [mx]
    split <;> omega

theorem mx_ge (X : Nat → Int) (j : Nat) : ∀ k, j < k → X j ≤ mx X k
  | 0, h => by omega
  | k + 1, h => by
    simp only [mx]
    by_cases e : j = k
    · subst e; split <;> omega
    · have := mx_ge X j k (by omega)
      split <;> omega

/-- How many coding units lie along a side d, the largest factor m. -/
def cu (d m : Int) : Int := (d + 8 * m - 1) / (8 * m)

theorem cu_bd (d m : Int) (h0 : 0 ≤ d) (h1 : d ≤ 1048576) (m1 : 1 ≤ m) : 0 ≤ cu d m ∧ cu d m ≤ 131072 := by
  unfold cu
  refine ⟨Int.ediv_nonneg (by omega) (by omega), ?_⟩
  have : (d + 8 * m - 1) / (8 * m) < 131073 := Int.ediv_lt_of_lt_mul (by omega) (by omega)
  omega

/-- The units along a side cover it, and overshoot it by less than one unit. -/
theorem cu_cover (d m : Int) (m1 : 1 ≤ m) : d ≤ cu d m * (8 * m) ∧ cu d m * (8 * m) ≤ d + 8 * m - 1 := by
  unfold cu
  have a := Int.ediv_mul_le (d + 8 * m - 1) (show 8 * m ≠ 0 by omega)
  have b := Int.lt_ediv_add_one_mul_self (d + 8 * m - 1) (show 0 < 8 * m by omega)
  rw [Int.add_mul, Int.one_mul] at b
  omega

/-- The coding units of the picture. -/
def un (wd ht hm vm : Int) : Int := cu wd hm * cu ht vm

theorem mul_bd {a b A B : Int} (a0 : 0 ≤ a) (a1 : a ≤ A) (b0 : 0 ≤ b) (b1 : b ≤ B) : 0 ≤ a * b ∧ a * b ≤ A * B :=
  ⟨Int.mul_nonneg a0 b0, Int.mul_le_mul a1 b1 b0 (by omega)⟩

theorem un_bd (wd ht hm vm : Int) (h0 : 0 ≤ wd) (h1 : wd ≤ 1048576) (g0 : 0 ≤ ht) (g1 : ht ≤ 1048576) (m1 : 1 ≤ hm) (v1 : 1 ≤ vm) :
    0 ≤ un wd ht hm vm ∧ un wd ht hm vm ≤ 17179869184 := by
  obtain ⟨a0, a1⟩ := cu_bd wd hm h0 h1 m1
  obtain ⟨b0, b1⟩ := cu_bd ht vm g0 g1 v1
  have := mul_bd a0 a1 b0 b1
  unfold un
  omega

/-- One component's samples. -/
def term (U x y : Int) : Int := U * 64 * (x * y)

theorem term_eq (a b x y : Int) : a * b * 64 * (x * y) = (a * (8 * x)) * (b * (8 * y)) := by
  rw [show (64 : Int) = 8 * 8 from rfl]
  ac_rfl

theorem term_bd (wd ht hm vm x y : Int) (h0 : 0 ≤ wd) (h1 : wd ≤ 1048576) (g0 : 0 ≤ ht) (g1 : ht ≤ 1048576) (m1 : 1 ≤ hm) (m2 : hm ≤ 255) (v1 : 1 ≤ vm) (v2 : vm ≤ 255)
    (x0 : 0 ≤ x) (x1 : x ≤ hm) (y0 : 0 ≤ y) (y1 : y ≤ vm) : 0 ≤ term (un wd ht hm vm) x y ∧ term (un wd ht hm vm) x y ≤ 2199023255552 := by
  obtain ⟨a0, a1⟩ := cu_bd wd hm h0 h1 m1
  obtain ⟨b0, b1⟩ := cu_bd ht vm g0 g1 v1
  obtain ⟨_, c1⟩ := cu_cover wd hm m1
  obtain ⟨_, c2⟩ := cu_cover ht vm v1
  have p := mul_bd a0 (Int.le_refl _) (show 0 ≤ 8 * x by omega) (show 8 * x ≤ 8 * hm by omega)
  have q := mul_bd b0 (Int.le_refl _) (show 0 ≤ 8 * y by omega) (show 8 * y ≤ 8 * vm by omega)
  have r := mul_bd p.1 (show cu wd hm * (8 * x) ≤ 1050616 by omega) q.1 (show cu ht vm * (8 * y) ≤ 1050616 by omega)
  unfold term un
  rw [term_eq]
  omega

/-- The sum of the first k numbers. -/
def sm (T : Nat → Int) : Nat → Int
  | 0 => 0
  | k + 1 => sm T k + T k

theorem sm_bd (T : Nat → Int) (M : Int) (n : Nat) (h : ∀ j, j < n → 0 ≤ T j ∧ T j ≤ M) : ∀ k, k ≤ n → 0 ≤ sm T k ∧ sm T k ≤ k * M
  | 0, _ => by simp [sm]
  | k + 1, hk => by
    have ih := sm_bd T M n h k (by omega)
    have := h k (by omega)
    simp only [sm]
    rw [show ((k + 1 : Nat) : Int) = (k : Int) + 1 from by omega, Int.add_mul, Int.one_mul]
    omega
end Go.Proofs.Qxb6617111a
