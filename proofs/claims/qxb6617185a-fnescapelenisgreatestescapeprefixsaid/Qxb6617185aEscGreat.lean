/- The law FnEscapeLenIsGreatestEscapePrefix, walked. -/
import Derived.Test.Qxb6617185aEscAny
namespace Go.Proofs.Qxb6617185a
open Go.RowKit

set_option maxHeartbeats 1000000 in
theorem great_long (s : ByteArray) (w : World) (hs : s.size ≤ maxLen) (h : 1048576 < s.size) :
    Calls Try.prog 3 #[.string s] w fun e w' => e = .returned (.bool true) ∧ w' = w := by
  unfold maxLen at hs
  have h' : (1048576 : Int) < s.size := by omega
  go_enter Try.func3, Try.ntmps3
  go_wp2
  go_ret
  exact ⟨rfl, rfl⟩

set_option maxHeartbeats 1000000 in
theorem great_main (s : ByteArray) (w : World) (h : s.size ≤ 1048576) :
    Calls Try.prog 3 #[.string s] w fun e w' => e = .returned (.bool true) ∧ w' = w := by
  have hs : s.size ≤ maxLen := by unfold maxLen; omega
  have h' : (s.size : Int) ≤ 1048576 := by omega
  go_enter Try.func3, Try.ntmps3
  go_wp2_with (go_at_call 5; go_in)
  refine (zz_any s _ hs).mono ?_
  rintro e w' ⟨⟨n, rfl, hn⟩, hw⟩
  obtain rfl := hw.symm
  obtain ⟨n1, _, n3, n4⟩ := esc_law hn
  have HO : Hid (Ok (bt (s.extract 0 n)) (s.extract 0 n).size) := by
    unfold Hid
    rw [cut_size s n n1]
    exact ok_congr (fun j hj => cut_bt s n j n1 hj) n3
  have HN : Hid (∀ h : n + 1 ≤ s.size, ¬ Ok (bt (s.extract 0 (n + 1))) (s.extract 0 (n + 1)).size) := fun h ho => by
    rw [cut_size s (n + 1) h] at ho
    exact n4 (by omega) (ok_congr (fun j hj => (cut_bt s (n + 1) j h hj).symm) ho)
  have l1 : (s.extract 0 n).size ≤ maxLen := by rw [cut_size s n n1]; omega
  have L2 : Hid (∀ h : n + 1 ≤ s.size, (s.extract 0 (n + 1)).size ≤ maxLen) := fun h => by rw [cut_size s (n + 1) h]; omega
  clear n3 n4 hn
  have n1' : (n : Int) ≤ s.size := by omega
  by_cases hlt : n < s.size
  · have hlt' : (n : Int) + 1 ≤ s.size := by omega
    go_wp2_with fail
    go_at_call 7
    refine (ok_true _ _ l1 HO.out).mono ?_
    rintro e w' ⟨rfl, hw⟩
    obtain rfl := hw.symm
    go_wp2_with fail
    go_at_call 7
    refine (ok_false _ _ (L2.out hlt) (HN.out hlt)).mono ?_
    rintro e w' ⟨rfl, hw⟩
    obtain rfl := hw.symm
    go_wp2
    go_ret
    exact ⟨rfl, rfl⟩
  · go_wp2_with fail
    go_at_call 7
    refine (ok_true _ _ l1 HO.out).mono ?_
    rintro e w' ⟨rfl, hw⟩
    obtain rfl := hw.symm
    go_wp2
    go_ret
    exact ⟨rfl, rfl⟩
end Go.Proofs.Qxb6617185a
