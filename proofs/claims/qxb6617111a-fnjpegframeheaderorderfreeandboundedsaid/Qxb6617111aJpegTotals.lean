/- The totals of the six calls, and the two bounds' sums. -/
import Derived.Test.Qxb6617111aJpegRev
namespace Go.Proofs.Qxb6617111a
open Go.RowKit

theorem totals4 (q : Nat) (pr : Bool) (wd ht S : Int) (hq : q = 4) (hwd : 0 ≤ wd) (hwd2 : wd ≤ 1048576) (hht : 0 ≤ ht) (hht2 : ht ≤ 1048576) (s0 : 0 ≤ S) (s1 : S ≤ 9007199254740992) :
    ∃ TB TP TR TD : Int, Hid (tot false (decide (q = 4) || (decide (q = 3) && false)) wd ht S = TB) ∧ Hid (tot true (decide (q = 4) || (decide (q = 3) && false)) wd ht S = TP) ∧
      Hid (tot pr (decide (q = 4) || (decide (q = 3) && true)) wd ht S = TR) ∧ Hid (tot pr (decide (q = 4) || (decide (q = 3) && false)) wd ht S = TD) ∧
      (TB ≤ S + 4 * wd * ht ∧ S + 4 * wd * ht ≤ TB) ∧ (TP ≤ 5 * S + 4 * wd * ht ∧ 5 * S + 4 * wd * ht ≤ TP) ∧ (TR ≤ TD ∧ TD ≤ TR) ∧ 0 ≤ TD ∧ TD ≤ 72057594037927936 := by
  have b := tot_bd pr true wd ht S hwd hwd2 hht hht2 s0 s1
  subst hq
  refine ⟨_, _, _, _, rfl, rfl, rfl, rfl, ?_, ?_, ?_, ?_⟩
  · simp [tot]
  · simp [tot]; omega
  · simp
  · simpa using b

theorem totals3 (q : Nat) (pr : Bool) (wd ht S : Int) (hq : q = 3) (hwd : 0 ≤ wd) (hwd2 : wd ≤ 1048576) (hht : 0 ≤ ht) (hht2 : ht ≤ 1048576) (s0 : 0 ≤ S) (s1 : S ≤ 9007199254740992) :
    ∃ TB TP TR TD : Int, Hid (tot false (decide (q = 4) || (decide (q = 3) && false)) wd ht S = TB) ∧ Hid (tot true (decide (q = 4) || (decide (q = 3) && false)) wd ht S = TP) ∧
      Hid (tot pr (decide (q = 4) || (decide (q = 3) && true)) wd ht S = TR) ∧ Hid (tot pr (decide (q = 4) || (decide (q = 3) && false)) wd ht S = TD) ∧
      (TB ≤ S ∧ S ≤ TB) ∧ (TP ≤ 5 * S ∧ 5 * S ≤ TP) ∧ (TR ≤ TD + 4 * wd * ht ∧ TD + 4 * wd * ht ≤ TR) ∧ 0 ≤ TD ∧ TD ≤ 72057594037927936 := by
  have b := tot_bd pr false wd ht S hwd hwd2 hht hht2 s0 s1
  subst hq
  refine ⟨_, _, _, _, rfl, rfl, rfl, rfl, ?_, ?_, ?_, ?_⟩
  · simp [tot]
  · simp [tot]; omega
  · simp [tot]
  · simpa using b

theorem totals0 (q : Nat) (pr : Bool) (wd ht S : Int) (hq : q ≠ 4) (hq3 : q ≠ 3) (hwd : 0 ≤ wd) (hwd2 : wd ≤ 1048576) (hht : 0 ≤ ht) (hht2 : ht ≤ 1048576) (s0 : 0 ≤ S) (s1 : S ≤ 9007199254740992) :
    ∃ TB TP TR TD : Int, Hid (tot false (decide (q = 4) || (decide (q = 3) && false)) wd ht S = TB) ∧ Hid (tot true (decide (q = 4) || (decide (q = 3) && false)) wd ht S = TP) ∧
      Hid (tot pr (decide (q = 4) || (decide (q = 3) && true)) wd ht S = TR) ∧ Hid (tot pr (decide (q = 4) || (decide (q = 3) && false)) wd ht S = TD) ∧
      (TB ≤ S ∧ S ≤ TB) ∧ (TP ≤ 5 * S ∧ 5 * S ≤ TP) ∧ (TR ≤ TD ∧ TD ≤ TR) ∧ 0 ≤ TD ∧ TD ≤ 72057594037927936 := by
  have b := tot_bd pr false wd ht S hwd hwd2 hht hht2 s0 s1
  refine ⟨_, _, _, _, rfl, rfl, rfl, rfl, ?_, ?_, ?_, ?_⟩
  · simp [tot, hq, hq3]
  · simp [tot, hq, hq3]; omega
  · simp [hq, hq3]
  · simpa [hq, hq3] using b

/-- The two bounds' sums. -/
def lov (wd ht : Int) (X Y : Nat → Int) (n k : Nat) : Int := sm (fun j => loT wd ht (mx X n) (mx Y n) (X j) (Y j)) k
def hiv (wd ht : Int) (X Y : Nat → Int) (n k : Nat) : Int := sm (fun j => hiT wd ht (mx X n) (mx Y n) (X j) (Y j)) k

theorem lohi_bd (wd ht : Int) (X Y : Nat → Int) (n k : Nat) (hk : k ≤ n) (hn : n ≤ 4096) (hwd : 0 ≤ wd) (hwd2 : wd ≤ 1048576) (hht : 0 ≤ ht) (hht2 : ht ≤ 1048576)
    (hX : ∀ j, j < n → 0 ≤ X j ∧ X j ≤ 255) (hY : ∀ j, j < n → 0 ≤ Y j ∧ Y j ≤ 255) :
    (0 ≤ lov wd ht X Y n k ∧ lov wd ht X Y n k ≤ 9007199254740992) ∧ (0 ≤ hiv wd ht X Y n k ∧ hiv wd ht X Y n k ≤ 9007199254740992) := by
  have bX := mx_bd X n hX n (Nat.le_refl _)
  have bY := mx_bd Y n hY n (Nat.le_refl _)
  have r := fun j (hj : j < n) => round_bd wd ht (mx X n) (mx Y n) (X j) (Y j) hwd hwd2 hht hht2 bX.1 bX.2 bY.1 bY.2 (hX j hj).1 (mx_ge X j n hj) (hY j hj).1 (mx_ge Y j n hj)
  have a := sm_bd (fun j => loT wd ht (mx X n) (mx Y n) (X j) (Y j)) 2199023255552 n (fun j hj => (r j hj).2.2.2.2.2.2.1) k hk
  have b := sm_bd (fun j => hiT wd ht (mx X n) (mx Y n) (X j) (Y j)) 2199023255552 n (fun j hj => (r j hj).2.2.2.2.2.2.2) k hk
  unfold lov hiv
  omega

theorem lohi_law (wd ht : Int) (X Y : Nat → Int) (n : Nat) (hwd : 0 ≤ wd) (hwd2 : wd ≤ 1048576) (hht : 0 ≤ ht) (hht2 : ht ≤ 1048576)
    (hX : ∀ j, j < n → 0 ≤ X j ∧ X j ≤ 255) (hY : ∀ j, j < n → 0 ≤ Y j ∧ Y j ≤ 255) :
    lov wd ht X Y n n ≤ smp wd ht X Y n n ∧ smp wd ht X Y n n ≤ hiv wd ht X Y n n :=
  ⟨sm_le _ _ n (fun j hj => lo_le_term wd ht _ _ _ _ hwd hht (mx_one X n) (mx_one Y n) (hX j hj).1 (hY j hj).1),
   sm_le _ _ n (fun j hj => term_le_hi wd ht _ _ _ _ hwd hwd2 hht hht2 (mx_one X n) (mx_one Y n) (hX j hj).1 (hY j hj).1)⟩
end Go.Proofs.Qxb6617111a
