/- The law FnEscapeLenCutsAndTailUnread, walked. -/
import Derived.Test.Qxb6617185aEscAny
namespace Go.Proofs.Qxb6617185a
open Go.RowKit

set_option maxHeartbeats 1000000 in
theorem cuts_long (s t : ByteArray) (k : Int) (w : World) (hs : s.size ≤ maxLen) (ht : t.size ≤ maxLen) (h : 1048576 < s.size + t.size) :
    Calls Try.prog 4 #[.string s, .int .i64 k, .string t] w fun e w' => e = .returned (.bool true) ∧ w' = w := by
  unfold maxLen at hs ht
  by_cases c1 : (1048576 : Int) < s.size
  · go_enter Try.func4, Try.ntmps4
    go_wp2
    go_ret
    exact ⟨rfl, rfl⟩
  · by_cases c2 : (1048576 : Int) < t.size
    · go_enter Try.func4, Try.ntmps4
      go_wp2
      go_ret
      exact ⟨rfl, rfl⟩
    · have c3 : (1048576 : Int) < s.size + t.size := by omega
      go_enter Try.func4, Try.ntmps4
      go_wp2
      go_ret
      exact ⟨rfl, rfl⟩

set_option maxHeartbeats 1000000 in
theorem cuts_guard (s t : ByteArray) (k : Int) (w : World) (h : s.size + t.size ≤ 1048576)
    (hg : 524288 < (s.size : Int) ∨ (s.size : Int) ≤ 524288 ∧ 524288 < (t.size : Int) ∨ (s.size : Int) ≤ 524288 ∧ (t.size : Int) ≤ 524288 ∧ k < 0 ∨ (s.size : Int) ≤ 524288 ∧ (t.size : Int) ≤ 524288 ∧ 0 ≤ k ∧ (s.size : Int) < k) :
    Calls Try.prog 4 #[.string s, .int .i64 k, .string t] w fun e w' => e = .returned (.bool true) ∧ w' = w := by
  have c1 : (s.size : Int) ≤ 1048576 := by omega
  have c2 : (t.size : Int) ≤ 1048576 := by omega
  have c3 : (s.size : Int) + t.size ≤ 1048576 := by omega
  rcases hg with hg | ⟨g1, g2⟩ | ⟨g1, g2, g3⟩ | ⟨g1, g2, g3, g4⟩
  all_goals
    go_enter Try.func4, Try.ntmps4
    go_wp2
    go_ret
    exact ⟨rfl, rfl⟩

theorem cat_size (s t : ByteArray) (n : Nat) (h : n < s.size) : (s.extract 0 (n + 1) ++ t).size = n + 1 + t.size := by
  rw [ByteArray.size_append, cut_size s (n + 1) (by omega)]
theorem cat_bt (s t : ByteArray) (n j : Nat) (h : n < s.size) (hj : j < n + 1) : bt s j = bt (s.extract 0 (n + 1) ++ t) j := by
  have hc : j < (s.extract 0 (n + 1)).size := by rw [cut_size s (n + 1) (by omega)]; exact hj
  rw [cut_bt s (n + 1) j (by omega) hj, ← bt_eq _ j hc, ← bt_eq (s.extract 0 (n + 1) ++ t) j (by rw [cat_size s t n h]; omega)]
  rw [ByteArray.getElem_append_left hc]

set_option maxHeartbeats 1000000 in
theorem cuts_main (s t : ByteArray) (k : Nat) (w : World) (h : s.size + t.size ≤ 1048576) (h1 : (s.size : Int) ≤ 524288) (h2 : (t.size : Int) ≤ 524288) (hk : k ≤ s.size) :
    Calls Try.prog 4 #[.string s, .int .i64 k, .string t] w fun e w' => e = .returned (.bool true) ∧ w' = w := by
  have hs : s.size ≤ maxLen := by unfold maxLen; omega
  have c3 : (s.size : Int) + t.size ≤ 1048576 := by omega
  go_enter Try.func4, Try.ntmps4
  go_wp2_with (go_at_call 8; go_in)
  refine (zz_any s _ hs).mono ?_
  rintro e w' ⟨⟨n, rfl, hn⟩, hw⟩
  obtain rfl := hw.symm
  obtain ⟨n1, n2, _, _⟩ := esc_law hn
  have HN : Hid (Esc (bt s) s.size n) := hn
  clear hn
  have n1' : (n : Int) ≤ s.size := by omega
  have lk : (s.extract 0 k).size ≤ maxLen := by rw [cut_size s k hk]; omega
  have LC : Hid (n < s.size → (s.extract 0 (n + 1) ++ t).size ≤ maxLen) := fun h => by rw [cat_size s t n h]; unfold maxLen; omega
  by_cases hz : s.size = 0
  · have iz : ((s.size : Int) == 0) = true := by rw [beq_iff_eq]; omega
    obtain rfl : n = 0 := by omega
    obtain rfl : k = 0 := by omega
    have hlt : ¬ (0 : Int) < s.size := by omega
    clear hz
    go_wp2_with fail
    go_at_call 6
    refine (zz_any ByteArray.empty _ (Nat.zero_le _)).mono ?_
    rintro e w' ⟨⟨m, he, hm⟩, hw⟩
    obtain rfl := hw.symm
    have em : m = 0 := Nat.le_zero.1 (esc_law hm).1
    rw [em] at he
    subst he
    clear hm
    go_wp2
    go_ret
    exact ⟨rfl, rfl⟩
  · have iz : ((s.size : Int) == 0) = false := by rw [beq_eq_false_iff_ne]; omega
    have n2' : 1 ≤ (n : Int) := by have := n2 (by omega); omega
    by_cases hkn : k < n
    · have hkn' : (k : Int) < n := by omega
      by_cases hlt : n < s.size
      · have hlt' : (n : Int) + 1 ≤ s.size := by omega
        go_wp2_with fail
        go_at_call 6
        refine (zz_any _ _ lk).mono ?_
        rintro e w' ⟨⟨m, he, hm⟩, hw⟩
        obtain rfl := hw.symm
        have em : m = k := (esc_cut HN.out hk (fun j hj => cut_bt s k j hk hj) (by rw [cut_size s k hk] at hm; exact hm)).trans (by omega)
        rw [em] at he
        subst he
        clear hm
        go_wp2_with fail
        go_at_call 6
        refine (zz_any _ _ (LC.out hlt)).mono ?_
        rintro e w' ⟨⟨m, he, hm⟩, hw⟩
        obtain rfl := hw.symm
        have em : m = n := esc_tail HN.out hlt (by rw [cat_size s t n hlt]; omega) (fun j hj => cat_bt s t n j hlt hj) hm
        rw [em] at he
        subst he
        clear hm
        go_wp2
        go_ret
        exact ⟨rfl, rfl⟩
      · have hlt' : ¬ (n : Int) < s.size := by omega
        go_wp2_with fail
        go_at_call 6
        refine (zz_any _ _ lk).mono ?_
        rintro e w' ⟨⟨m, he, hm⟩, hw⟩
        obtain rfl := hw.symm
        have em : m = k := (esc_cut HN.out hk (fun j hj => cut_bt s k j hk hj) (by rw [cut_size s k hk] at hm; exact hm)).trans (by omega)
        rw [em] at he
        subst he
        clear hm
        go_wp2
        go_ret
        exact ⟨rfl, rfl⟩
    · have hkn' : ¬ (k : Int) < n := by omega
      by_cases hlt : n < s.size
      · have hlt' : (n : Int) + 1 ≤ s.size := by omega
        go_wp2_with fail
        go_at_call 6
        refine (zz_any _ _ lk).mono ?_
        rintro e w' ⟨⟨m, he, hm⟩, hw⟩
        obtain rfl := hw.symm
        have em : m = n := (esc_cut HN.out hk (fun j hj => cut_bt s k j hk hj) (by rw [cut_size s k hk] at hm; exact hm)).trans (by omega)
        rw [em] at he
        subst he
        clear hm
        go_wp2_with fail
        go_at_call 6
        refine (zz_any _ _ (LC.out hlt)).mono ?_
        rintro e w' ⟨⟨m, he, hm⟩, hw⟩
        obtain rfl := hw.symm
        have em : m = n := esc_tail HN.out hlt (by rw [cat_size s t n hlt]; omega) (fun j hj => cat_bt s t n j hlt hj) hm
        rw [em] at he
        subst he
        clear hm
        go_wp2
        go_ret
        exact ⟨rfl, rfl⟩
      · have hlt' : ¬ (n : Int) < s.size := by omega
        go_wp2_with fail
        go_at_call 6
        refine (zz_any _ _ lk).mono ?_
        rintro e w' ⟨⟨m, he, hm⟩, hw⟩
        obtain rfl := hw.symm
        have em : m = n := (esc_cut HN.out hk (fun j hj => cut_bt s k j hk hj) (by rw [cut_size s k hk] at hm; exact hm)).trans (by omega)
        rw [em] at he
        subst he
        clear hm
        go_wp2
        go_ret
        exact ⟨rfl, rfl⟩
end Go.Proofs.Qxb6617185a
