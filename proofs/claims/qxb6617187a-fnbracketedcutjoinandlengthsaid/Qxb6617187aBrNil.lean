/- The law FnBracketedCutJoinAndLength, walked where the slice is nil or too long. -/
import Derived.Test.Qxb6617187aBrHeld
namespace Go.Proofs.Qxb6617187a
open Go.RowKit

set_option maxRecDepth 10000 in
set_option maxHeartbeats 1000000 in
theorem law_many (a : Option Addr) (n c : Nat) (k : Int) (S : Nat → ByteArray) (w : World) (hnm : n ≤ maxLen) (hsm : ∀ j, j < n → (S j).size ≤ maxLen) (hseg : SegS w a n S 0) (hn : 65536 < n) :
    Calls Try.prog 4 #[.slice a n c, .int .i64 k] w fun e w' => e = .returned (.bool true) ∧ Below w.heap.size w w' := by
  have h2 : (65536 : Int) < n := by omega
  have h3 : (n : Int) ≤ 9223372036854775807 := by unfold maxLen at hnm; omega
  have HM : Hid (∀ j, j < n → (S j).size ≤ maxLen) := hsm
  clear hsm
  go_enter Try.func4, Try.ntmps4
  go_wp2_with fail
  go_at_call 9
  refine (zzb_any a n c k S _ hnm HM.out hseg).mono ?_
  rintro e w' ⟨hb, hw⟩
  obtain rfl := hw.symm
  rcases hb with ⟨rfl, _⟩ | rfl
  all_goals
    go_wp2
    go_ret
    exact ⟨rfl, Below.refl _ _⟩

set_option maxRecDepth 10000 in
set_option maxHeartbeats 1000000 in
theorem law_nil (k : Int) (w : World) :
    Calls Try.prog 4 #[.slice none 0 0, .int .i64 k] w fun e w' => e = .returned (.bool true) ∧ Below w.heap.size w w' := by
  have hnn := fun w => run_neq_slice_nil_any (P := Try.prog) w 25 9 none 0 0 0 0 Try.underlying25
  go_enter Try.func4, Try.ntmps4
  go_wp2_with fail
  go_at_call 9
  refine (zzb_none none 0 k (fun _ => ByteArray.empty) _).mono ?_
  rintro e w' ⟨hb, hw⟩
  obtain rfl := hw.symm
  rcases hb with ⟨rfl, _⟩ | rfl
  · go_wp2
    go_loop [6, 7] (fun t i => i = .int .i64 0 ∧ t = .int .i64 0) (fun _ _ => 0)
    case atStart => exact ⟨rfl, rfl⟩
    case round =>
      obtain ⟨rfl, rfl⟩ := hrel
      by_cases k0 : k < 0
      · go_wp2
        go_ret
        exact ⟨rfl, Below.refl _ _⟩
      by_cases k1 : 0 < k
      · go_wp2
        go_ret
        exact ⟨rfl, Below.refl _ _⟩
      obtain rfl : k = 0 := by omega
      go_wp2_with fail
      go_at_call 10
      refine (br_none _ _ _).mono ?_
      rintro e w3 ⟨rfl, hB3⟩
      go_wp2_with fail
      go_at_call 10
      refine (br_none _ _ _).mono ?_
      rintro e w4 ⟨rfl, hB4⟩
      go_wp2_with fail
      go_at_call 10
      refine (br_none _ _ _).mono ?_
      rintro e w5 ⟨rfl, hB5⟩
      have hB : Below w.heap.size w w5 := (hB3.trans (hB4.mono hB3.size)).trans (hB5.mono (Nat.le_trans hB3.size hB4.size))
      clear hB3 hB4 hB5
      go_wp2
      go_ret
      exact ⟨rfl, hB⟩
  · go_wp2
    go_ret
    exact ⟨rfl, Below.refl _ _⟩
end Go.Proofs.Qxb6617187a
