/- termtext.ZZescapeLen and zzEscPrefixOK at every string. -/
import Derived.Test.Qxb6617185aEscLaw
namespace Go.Proofs.Qxb6617185a
open Go.RowKit

theorem esc_short (s : ByteArray) (w : World) (h2 : s.size < 2) :
    Calls Try.prog 9 #[.string s] w fun e w' => e = .returned (.int .i64 s.size) ∧ w' = w := by
  have h2' : (s.size : Int) < 2 := by omega
  go_enter Try.func9, Try.ntmps9
  go_wp2
  go_ret
  exact ⟨rfl, rfl⟩
theorem ok_short (s : ByteArray) (w : World) (h2 : s.size < 2) :
    Calls Try.prog 7 #[.string s] w fun e w' => e = .returned (.bool true) ∧ w' = w := by
  have h2' : (s.size : Int) < 2 := by omega
  go_enter Try.func7, Try.ntmps7
  go_wp2
  go_ret
  exact ⟨rfl, rfl⟩

/-- Which byte stands at place 1, in the walk's own tests. -/
theorem second (c : Int) : ((c == 91) = true ∧ c = 91) ∨ ((c == 91) = false ∧ c ≠ 91 ∧ IsStr c ∧ ((c == 93) = true ∨ (c == 93) = false ∧ (c == 80) = true ∨ (c == 93) = false ∧ (c == 80) = false ∧ (c == 88) = true ∨
      (c == 93) = false ∧ (c == 80) = false ∧ (c == 88) = false ∧ (c == 94) = true ∨ (c == 93) = false ∧ (c == 80) = false ∧ (c == 88) = false ∧ (c == 94) = false ∧ (c == 95) = true)) ∨
    ((c == 91) = false ∧ c ≠ 91 ∧ ¬ IsStr c ∧ (c == 93) = false ∧ (c == 80) = false ∧ (c == 88) = false ∧ (c == 94) = false ∧ (c == 95) = false) := by
  unfold IsStr
  simp only [beq_iff_eq, beq_eq_false_iff_ne, ne_eq]
  omega

/-- termtext.escapeLen. -/
theorem esc_any (s : ByteArray) (w : World) (hs : s.size ≤ maxLen) :
    Calls Try.prog 9 #[.string s] w fun e w' => (∃ n : Nat, e = .returned (.int .i64 n) ∧ Esc (bt s) s.size n) ∧ w' = w := by
  by_cases h2 : s.size < 2
  · refine (esc_short s w h2).mono ?_
    rintro e w' ⟨rfl, rfl⟩
    exact ⟨⟨s.size, rfl, .inl ⟨h2, rfl⟩⟩, rfl⟩
  · have h2' : 2 ≤ s.size := by omega
    have eb := bt_eq s 1 (by omega)
    rcases second (s[1].toNat : Int) with ⟨q, r⟩ | ⟨q, r, i, c⟩ | ⟨q, r, i, c1, c2, c3, c4, c5⟩
    · refine (esc_csi s w hs h2' q).mono ?_
      rintro e w' ⟨⟨n, rfl, h⟩, rfl⟩
      exact ⟨⟨n, rfl, .inr (.inl ⟨h2', by rw [← eb]; exact r, h⟩)⟩, rfl⟩
    · refine (esc_str s w hs h2' q c).mono ?_
      rintro e w' ⟨⟨n, rfl, h⟩, rfl⟩
      exact ⟨⟨n, rfl, .inr (.inr (.inl ⟨h2', by rw [← eb]; exact r, by rw [← eb]; exact i, h⟩))⟩, rfl⟩
    · refine (esc_oth s w hs h2' q c1 c2 c3 c4 c5).mono ?_
      rintro e w' ⟨⟨n, rfl, h⟩, rfl⟩
      exact ⟨⟨n, rfl, .inr (.inr (.inr ⟨h2', by rw [← eb]; exact r, by rw [← eb]; exact i, h⟩))⟩, rfl⟩

theorem Tells.mono {e : Ending} {p q : Prop} (h : Tells e p) (hpq : p ↔ q) : Tells e q := by
  obtain ⟨r, h1, h2⟩ := h
  exact ⟨r, h1, h2.trans hpq⟩

/-- zzEscPrefixOK. -/
theorem ok_any (s : ByteArray) (w : World) (hs : s.size ≤ maxLen) :
    Calls Try.prog 7 #[.string s] w fun e w' => Tells e (Ok (bt s) s.size) ∧ w' = w := by
  by_cases h2 : s.size < 2
  · refine (ok_short s w h2).mono ?_
    rintro e w' ⟨rfl, rfl⟩
    exact ⟨tells_yes (.inl h2), rfl⟩
  · have h2' : 2 ≤ s.size := by omega
    have eb := bt_eq s 1 (by omega)
    rcases second (s[1].toNat : Int) with ⟨q, r⟩ | ⟨q, r, i, c⟩ | ⟨q, r, i, c1, c2, c3, c4, c5⟩
    · refine (ok_csi s w hs h2' q).mono ?_
      rintro e w' ⟨h, rfl⟩
      rw [eb] at r
      refine ⟨h.mono ⟨fun h => .inr (.inl ⟨h2', r, h⟩), fun h => ?_⟩, rfl⟩
      rcases h with h | ⟨_, _, h⟩ | ⟨_, h, _⟩ | ⟨_, h, _⟩
      · omega
      · exact h
      · exact absurd r h
      · exact absurd r h
    · refine (ok_str s w hs h2' q c).mono ?_
      rintro e w' ⟨h, rfl⟩
      rw [eb] at r i
      refine ⟨h.mono ⟨fun h => .inr (.inr (.inl ⟨h2', r, i, h⟩)), fun h => ?_⟩, rfl⟩
      rcases h with h | ⟨_, h, _⟩ | ⟨_, _, _, h⟩ | ⟨_, _, h, _⟩
      · omega
      · exact absurd h r
      · exact h
      · exact absurd i h
    · refine (ok_oth s w hs h2' q c1 c2 c3 c4 c5).mono ?_
      rintro e w' ⟨h, rfl⟩
      rw [eb] at r i
      refine ⟨h.mono ⟨fun h => .inr (.inr (.inr ⟨h2', r, i, h⟩)), fun h => ?_⟩, rfl⟩
      rcases h with h | ⟨_, h, _⟩ | ⟨_, _, h, _⟩ | ⟨_, _, _, h⟩
      · omega
      · exact absurd h r
      · exact absurd h i
      · exact h

theorem ok_true (s : ByteArray) (w : World) (hs : s.size ≤ maxLen) (h : Ok (bt s) s.size) : Calls Try.prog 7 #[.string s] w fun e w' => e = .returned (.bool true) ∧ w' = w := by
  refine (ok_any s w hs).mono ?_
  rintro e w' ⟨⟨r, rfl, hr⟩, rfl⟩
  rw [hr.2 h]
  exact ⟨rfl, rfl⟩
theorem ok_false (s : ByteArray) (w : World) (hs : s.size ≤ maxLen) (h : ¬ Ok (bt s) s.size) : Calls Try.prog 7 #[.string s] w fun e w' => e = .returned (.bool false) ∧ w' = w := by
  refine (ok_any s w hs).mono ?_
  rintro e w' ⟨⟨r, rfl, hr⟩, rfl⟩
  cases r
  · exact ⟨rfl, rfl⟩
  · exact absurd (hr.1 rfl) h

/-- termtext.ZZescapeLen. -/
theorem zz_any (s : ByteArray) (w : World) (hs : s.size ≤ maxLen) :
    Calls Try.prog 6 #[.string s] w fun e w' => (∃ n : Nat, e = .returned (.int .i64 n) ∧ Esc (bt s) s.size n) ∧ w' = w := by
  go_enter Try.func6, Try.ntmps6
  go_wp2_with fail
  go_at_call 9
  refine (esc_any s _ hs).mono ?_
  rintro e w' ⟨⟨n, rfl, hn⟩, hw⟩
  obtain rfl := hw.symm
  have HN : Hid (Esc (bt s) s.size n) := hn
  clear hn
  go_wp2
  go_ret
  exact ⟨⟨n, rfl, HN.out⟩, rfl⟩

/-! ### Cuts of a string -/
theorem cut_size (s : ByteArray) (k : Nat) (h : k ≤ s.size) : (s.extract 0 k).size = k := by simp; omega
theorem cut_bt (s : ByteArray) (k j : Nat) (h : k ≤ s.size) (hj : j < k) : bt s j = bt (s.extract 0 k) j := by
  rw [← bt_eq s j (by omega), ← bt_eq (s.extract 0 k) j (by rw [cut_size s k h]; exact hj)]
  simp [ByteArray.getElem_extract]
end Go.Proofs.Qxb6617185a
