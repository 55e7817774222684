/- The plain law: a JPEG frame's samples, reversed, and between their two bounds. -/
import Derived.Test.Qxb6617111aJpegPlain
namespace Go.Proofs.Qxb6617111a

theorem mx_le (X : Nat → Int) (M : Int) (hM : 1 ≤ M) : ∀ n, (∀ j, j < n → X j ≤ M) → mx X n ≤ M
  | 0, _ => by simpa [mx] using hM
  | n + 1, h => by
    have := mx_le X M hM n (fun j hj => h j (by omega))
    have := h n (by omega)
    simp only [mx]
    split <;> omega

theorem mx_one (X : Nat → Int) : ∀ n, 1 ≤ mx X n
  | 0 => by simp [mx]
  | n + 1 => by
    have := mx_one X n
    simp only [mx]
    split <;> omega

theorem mx_rev (X : Nat → Int) (n : Nat) : mx (fun j => X (n - 1 - j)) n = mx X n := by
  apply Int.le_antisymm
  · exact mx_le _ _ (mx_one X n) n (fun j hj => mx_ge X (n - 1 - j) n (by omega))
  · refine mx_le _ _ (mx_one _ n) n (fun j hj => ?_)
    have this : X (n - 1 - (n - 1 - j)) ≤ mx (fun j => X (n - 1 - j)) n := mx_ge (fun j => X (n - 1 - j)) (n - 1 - j) n (by omega)
    rwa [show n - 1 - (n - 1 - j) = j by omega] at this

theorem sm_rev_part (T : Nat → Int) (n : Nat) : ∀ k, k ≤ n → sm (fun j => T (n - 1 - j)) k = sm T n - sm T (n - k)
  | 0, _ => by simp [sm]
  | k + 1, hk => by
    have ih := sm_rev_part T n k (by omega)
    have e : n - k = (n - (k + 1)) + 1 := by omega
    rw [e] at ih
    simp only [sm] at ih ⊢
    rw [ih, show n - 1 - k = n - (k + 1) by omega]
    omega

theorem sm_rev (T : Nat → Int) (n : Nat) : sm (fun j => T (n - 1 - j)) n = sm T n := by
  rw [sm_rev_part T n n (Nat.le_refl _)]
  simp [sm]

theorem sm_le (A B : Nat → Int) : ∀ n, (∀ j, j < n → A j ≤ B j) → sm A n ≤ sm B n
  | 0, _ => by simp [sm]
  | n + 1, h => by
    have := sm_le A B n (fun j hj => h j (by omega))
    have := h n (by omega)
    simp only [sm]
    omega

/-- A component's share of the picture, and of the picture grown by one unit each way. -/
def loT (wd ht hm vm x y : Int) : Int := wd * ht * (x * y) / (hm * vm)
def hiT (wd ht hm vm x y : Int) : Int := (wd + 8 * hm) * (ht + 8 * vm) * (x * y) / (hm * vm)

theorem term_den (wd ht hm vm x y : Int) : term (un wd ht hm vm) x y * (hm * vm) = (cu wd hm * (8 * hm)) * (cu ht vm * (8 * vm)) * (x * y) := by
  unfold term un
  rw [show (64 : Int) = 8 * 8 from rfl]
  ac_rfl

theorem lo_le_term (wd ht hm vm x y : Int) (h0 : 0 ≤ wd) (g0 : 0 ≤ ht) (m1 : 1 ≤ hm) (v1 : 1 ≤ vm) (x0 : 0 ≤ x) (y0 : 0 ≤ y) : loT wd ht hm vm x y ≤ term (un wd ht hm vm) x y := by
  obtain ⟨a, _⟩ := cu_cover wd hm m1
  obtain ⟨b, _⟩ := cu_cover ht vm v1
  have p := mul_bd h0 a g0 b
  have q := Int.mul_le_mul_of_nonneg_right p.2 (Int.mul_nonneg x0 y0)
  have d : 0 < hm * vm := Int.mul_pos (by omega) (by omega)
  unfold loT
  refine Int.ediv_le_of_le_mul d ?_
  rw [term_den]
  exact q

theorem term_le_hi (wd ht hm vm x y : Int) (h0 : 0 ≤ wd) (h1 : wd ≤ 1048576) (g0 : 0 ≤ ht) (g1 : ht ≤ 1048576) (m1 : 1 ≤ hm) (v1 : 1 ≤ vm) (x0 : 0 ≤ x) (y0 : 0 ≤ y) : term (un wd ht hm vm) x y ≤ hiT wd ht hm vm x y := by
  obtain ⟨_, a⟩ := cu_cover wd hm m1
  obtain ⟨_, b⟩ := cu_cover ht vm v1
  have a0 := (cu_bd wd hm h0 h1 m1).1
  have b0 := (cu_bd ht vm g0 g1 v1).1
  have p := mul_bd (Int.mul_nonneg a0 (show 0 ≤ 8 * hm by omega)) (show cu wd hm * (8 * hm) ≤ wd + 8 * hm by omega) (Int.mul_nonneg b0 (show 0 ≤ 8 * vm by omega)) (show cu ht vm * (8 * vm) ≤ ht + 8 * vm by omega)
  have q := Int.mul_le_mul_of_nonneg_right p.2 (Int.mul_nonneg x0 y0)
  have d : 0 < hm * vm := Int.mul_pos (by omega) (by omega)
  unfold hiT
  refine Int.le_ediv_of_mul_le d ?_
  rw [term_den]
  exact q

/-- What the walk of the last loop wants of one round's numbers: nothing wraps. -/
theorem round_bd (wd ht hm vm x y : Int) (h0 : 0 ≤ wd) (h1 : wd ≤ 1048576) (g0 : 0 ≤ ht) (g1 : ht ≤ 1048576) (m1 : 1 ≤ hm) (m2 : hm ≤ 255) (v1 : 1 ≤ vm) (v2 : vm ≤ 255)
    (x0 : 0 ≤ x) (x1 : x ≤ hm) (y0 : 0 ≤ y) (y1 : y ≤ vm) :
    (0 ≤ x * y ∧ x * y ≤ 65025) ∧ (1 ≤ hm * vm ∧ hm * vm ≤ 65025) ∧ (0 ≤ wd * ht ∧ wd * ht ≤ 1099511627776) ∧ (0 ≤ wd * ht * (x * y) ∧ wd * ht * (x * y) ≤ 71495743596134400) ∧
    (0 ≤ (wd + 8 * hm) * (ht + 8 * vm) ∧ (wd + 8 * hm) * (ht + 8 * vm) ≤ 1103793979456) ∧ (0 ≤ (wd + 8 * hm) * (ht + 8 * vm) * (x * y) ∧ (wd + 8 * hm) * (ht + 8 * vm) * (x * y) ≤ 71774203514126400) ∧
    (0 ≤ loT wd ht hm vm x y ∧ loT wd ht hm vm x y ≤ 2199023255552) ∧ (0 ≤ hiT wd ht hm vm x y ∧ hiT wd ht hm vm x y ≤ 2199023255552) := by
  have p1 := mul_bd x0 (show x ≤ 255 by omega) y0 (show y ≤ 255 by omega)
  have p1' := mul_bd x0 x1 y0 y1
  have p2 := mul_bd (show 0 ≤ hm by omega) m2 (show 0 ≤ vm by omega) v2
  have p2' : 1 * 1 ≤ hm * vm := Int.mul_le_mul m1 v1 (by omega) (by omega)
  have p3 := mul_bd h0 h1 g0 g1
  have p4 := mul_bd p3.1 (show wd * ht ≤ 1099511627776 by omega) p1.1 (show x * y ≤ 65025 by omega)
  have p5 := mul_bd (show 0 ≤ wd + 8 * hm by omega) (show wd + 8 * hm ≤ 1050616 by omega) (show 0 ≤ ht + 8 * vm by omega) (show ht + 8 * vm ≤ 1050616 by omega)
  have p6 := mul_bd p5.1 (show (wd + 8 * hm) * (ht + 8 * vm) ≤ 1103793979456 by omega) p1.1 (show x * y ≤ 65025 by omega)
  have q1 := Int.mul_le_mul_of_nonneg_left p1'.2 p3.1
  have q2 := Int.mul_le_mul_of_nonneg_left p1'.2 p5.1
  have r1 : wd * ht * (x * y) / (hm * vm) ≤ wd * ht := Int.ediv_le_of_le_mul (by omega) q1
  have r2 : (wd + 8 * hm) * (ht + 8 * vm) * (x * y) / (hm * vm) ≤ (wd + 8 * hm) * (ht + 8 * vm) := Int.ediv_le_of_le_mul (by omega) q2
  have s1 : 0 ≤ wd * ht * (x * y) / (hm * vm) := Int.ediv_nonneg p4.1 (by omega)
  have s2 : 0 ≤ (wd + 8 * hm) * (ht + 8 * vm) * (x * y) / (hm * vm) := Int.ediv_nonneg p6.1 (by omega)
  unfold loT hiT
  refine ⟨⟨p1.1, by omega⟩, ⟨by omega, by omega⟩, ⟨p3.1, by omega⟩, ⟨p4.1, by omega⟩, ⟨p5.1, by omega⟩, ⟨p6.1, by omega⟩, ⟨s1, by omega⟩, ⟨s2, by omega⟩⟩
end Go.Proofs.Qxb6617111a
