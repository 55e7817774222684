import Derived.Test.Qxb6617111aJpegCopy
import Derived.Test.Qxb6617111aJpegSums
namespace Go.Proofs.Qxb6617111a
open Go.RowKit

theorem zzb_true (n c : Nat) (a : Option Addr) (wd ht : Int) (pr rgb : Bool) (ids : ByteArray) (w : World) (h : ids.size + n ≤ 1048576) :
    Calls Try.prog 11 #[.int .i64 wd, .int .i64 ht, .bool pr, .string ids, .slice a n c, .bool rgb] w fun e w' => e = .returned (.bool true) ∧ w' = w := by
  have h1 : (ids.size : Int) ≤ 1048576 := by omega
  have h2 : (n : Int) ≤ 1048576 := by omega
  have h3 : (ids.size : Int) + n ≤ 1048576 := by omega
  go_enter Try.func11, Try.ntmps11
  go_wp2
  go_ret
  exact ⟨rfl, rfl⟩

theorem zzb_false (n c : Nat) (a : Option Addr) (wd ht : Int) (pr rgb : Bool) (ids : ByteArray) (w : World) (hi : ids.size ≤ maxLen) (hn : n ≤ maxLen) (h : 1048576 < ids.size + n) :
    Calls Try.prog 11 #[.int .i64 wd, .int .i64 ht, .bool pr, .string ids, .slice a n c, .bool rgb] w fun e w' => e = .returned (.bool false) ∧ w' = w := by
  unfold maxLen at hi hn
  by_cases c1 : 1048576 < (ids.size : Int)
  · go_enter Try.func11, Try.ntmps11
    go_wp2
    go_ret
    exact ⟨rfl, rfl⟩
  · by_cases c2 : 1048576 < (n : Int)
    · go_enter Try.func11, Try.ntmps11
      go_wp2
      go_ret
      exact ⟨rfl, rfl⟩
    · have c3 : 1048576 < (ids.size : Int) + n := by omega
      go_enter Try.func11, Try.ntmps11
      go_wp2
      go_ret
      exact ⟨rfl, rfl⟩

set_option maxRecDepth 20000 in
set_option maxHeartbeats 1000000 in
theorem law_long (n c : Nat) (a : Option Addr) (wd ht : Int) (pr rgb : Bool) (ids : ByteArray) (w : World) (hi : ids.size ≤ maxLen) (hn : n ≤ maxLen) (h : 1048576 < ids.size + n) :
    Calls Try.prog 7 #[.int .i64 wd, .int .i64 ht, .bool pr, .string ids, .slice a n c, .bool rgb] w fun e w' => e = .returned (.bool true) ∧ w' = w := by
  go_enter Try.func7, Try.ntmps7
  go_wp2_with (go_at_call 11; refine (zzb_false n c a wd ht pr rgb ids _ hi hn h).mono ?_; rintro e w' ⟨rfl, rfl⟩)
  go_ret
  exact ⟨rfl, rfl⟩

set_option maxRecDepth 20000 in
set_option maxHeartbeats 1000000 in
theorem law_many (n c : Nat) (a : Option Addr) (wd ht : Int) (pr rgb : Bool) (ids : ByteArray) (w : World) (h : ids.size + n ≤ 1048576) (hn : 4096 < n) :
    Calls Try.prog 7 #[.int .i64 wd, .int .i64 ht, .bool pr, .string ids, .slice a n c, .bool rgb] w fun e w' => e = .returned (.bool true) ∧ w' = w := by
  have h1 : (ids.size : Int) ≤ 1048576 := by omega
  have h2 : (4096 : Int) < n := by omega
  have h3 : (n : Int) ≤ 1048576 := by omega
  go_enter Try.func7, Try.ntmps7
  go_wp2_with (go_at_call 11; refine (zzb_true n c a wd ht pr rgb ids _ h).mono ?_; rintro e w' ⟨rfl, rfl⟩)
  go_ret
  exact ⟨rfl, rfl⟩

set_option maxRecDepth 20000 in
set_option maxHeartbeats 1000000 in
theorem law_size (n c : Nat) (a : Option Addr) (wd ht : Int) (pr rgb : Bool) (ids : ByteArray) (w : World) (h : ids.size + n ≤ 1048576) (hn : n ≤ 4096)
    (hb : wd < 0 ∨ 0 ≤ wd ∧ 1048576 < wd ∨ 0 ≤ wd ∧ wd ≤ 1048576 ∧ ht < 0 ∨ 0 ≤ wd ∧ wd ≤ 1048576 ∧ 0 ≤ ht ∧ 1048576 < ht) :
    Calls Try.prog 7 #[.int .i64 wd, .int .i64 ht, .bool pr, .string ids, .slice a n c, .bool rgb] w fun e w' => e = .returned (.bool true) ∧ w' = w := by
  have h1 : (ids.size : Int) ≤ 1048576 := by omega
  have h2 : (n : Int) ≤ 4096 := by omega
  rcases hb with hb | ⟨b1, b2⟩ | ⟨b1, b2, b3⟩ | ⟨b1, b2, b3, b4⟩
  all_goals
    go_enter Try.func7, Try.ntmps7
    go_wp2_with (go_at_call 11; refine (zzb_true n c a wd ht pr rgb ids _ h).mono ?_; rintro e w' ⟨rfl, rfl⟩)
    go_ret
    exact ⟨rfl, rfl⟩
end Go.Proofs.Qxb6617111a
