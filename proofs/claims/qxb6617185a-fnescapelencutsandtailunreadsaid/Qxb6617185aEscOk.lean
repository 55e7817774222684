/- zzEscPrefixOK: what it tells. -/
import Derived.Test.Qxb6617185aEscCsi
namespace Go.Proofs.Qxb6617185a
open Go.RowKit

/-- At j the text is still a prefix of a control sequence. -/
def CsiAt (g : Nat → Int) (L j : Nat) : Prop := ((48 ≤ g j ∧ g j ≤ 63) ∧ ∀ i, 2 ≤ i → i < j → ¬ (32 ≤ g i ∧ g i ≤ 47)) ∨ (32 ≤ g j ∧ g j ≤ 47) ∨ ((64 ≤ g j ∧ g j ≤ 126) ∧ j + 1 = L)
def OkCsi (g : Nat → Int) (L : Nat) : Prop := ∀ j, 2 ≤ j → j < L → CsiAt g L j
def StrAt (g : Nat → Int) (L j : Nat) : Prop := ¬ (g j = 7 ∧ j + 1 ≠ L) ∧ ¬ (g j = 27 ∧ j + 1 < L ∧ g (j + 1) = 92 ∧ j + 2 ≠ L)
def OkStr (g : Nat → Int) (L : Nat) : Prop := ∀ j, 2 ≤ j → j < L → StrAt g L j
def OthAt (g : Nat → Int) (L j : Nat) : Prop := (32 ≤ g j ∧ g j ≤ 47) ∨ ((48 ≤ g j ∧ g j ≤ 126) ∧ j + 1 = L)
def OkOth (g : Nat → Int) (L : Nat) : Prop := ∀ j, 1 ≤ j → j < L → OthAt g L j

/-- The call returns a bool that tells whether p. -/
def Tells (e : Ending) (p : Prop) : Prop := ∃ r : Bool, e = .returned (.bool r) ∧ (r = true ↔ p)
theorem tells_yes {p : Prop} (h : p) : Tells (.returned (.bool true)) p := ⟨true, rfl, by simp [h]⟩
theorem tells_no {p : Prop} (h : ¬ p) : Tells (.returned (.bool false)) p := ⟨false, rfl, by simp [h]⟩

theorem snoc_all {P : Nat → Prop} {a k : Nat} (hr : ∀ j, a ≤ j → j < k → P j) (h : P k) : ∀ j, a ≤ j → j < k + 1 → P j := fun j h1 h2 => by
  by_cases e : j = k
  · subst e; exact h
  · exact hr j h1 (by omega)

set_option maxHeartbeats 2000000 in
theorem ok_csi (s : ByteArray) (w : World) (hs : s.size ≤ maxLen) (h2 : 2 ≤ s.size) (h1 : ((s[1].toNat : Int) == 91) = true) :
    Calls Try.prog 7 #[.string s] w fun e w' => Tells e (OkCsi (bt s) s.size) ∧ w' = w := by
  unfold maxLen at hs
  have h2' : (2 : Int) ≤ s.size := by omega
  go_enter Try.func7, Try.ntmps7
  go_wp2
  go_loop [4, 5] (fun si i => ∃ (k : Nat) (b : Bool), 2 ≤ k ∧ k ≤ s.size ∧ i = .int .i64 k ∧ si = .bool b ∧ (b = true ↔ ∃ i, 2 ≤ i ∧ i < k ∧ 32 ≤ bt s i ∧ bt s i ≤ 47) ∧ ∀ j, 2 ≤ j → j < k → CsiAt (bt s) s.size j) (fun _ i => s.size - (intOf i).toNat)
  case atStart => exact ⟨2, false, Nat.le_refl _, h2, rfl, rfl, by simp; intro i a b; omega, fun j _ _ => by omega⟩
  case round =>
    obtain ⟨k, b, hk2, hk, rfl, rfl, hsb, hr⟩ := hrel
    have HSB : Hid (b = true ↔ ∃ i, 2 ≤ i ∧ i < k ∧ 32 ≤ bt s i ∧ bt s i ≤ 47) := hsb
    have HR : Hid (∀ j, 2 ≤ j → j < k → CsiAt (bt s) s.size j) := hr
    clear hsb hr
    have ways : (¬ k < s.size) ∨ (∃ h : k < s.size, ((s[k].toNat : Int) < 32) ∨ (32 ≤ (s[k].toNat : Int) ∧ (s[k].toNat : Int) ≤ 47) ∨ (48 ≤ (s[k].toNat : Int) ∧ (s[k].toNat : Int) ≤ 63) ∨ ((64 ≤ (s[k].toNat : Int) ∧ (s[k].toNat : Int) ≤ 126) ∧ k + 1 = s.size) ∨ ((64 ≤ (s[k].toNat : Int) ∧ (s[k].toNat : Int) ≤ 126) ∧ k + 1 ≠ s.size) ∨ 126 < (s[k].toNat : Int)) := by
      by_cases h : k < s.size
      · exact .inr ⟨h, by omega⟩
      · exact .inl h
    rcases ways with hlt | ⟨hlt, y | ⟨y, y'⟩ | ⟨y, y'⟩ | ⟨⟨y, y'⟩, z⟩ | ⟨⟨y, y'⟩, z⟩ | y⟩
    · go_wp2
      go_ret
      exact ⟨tells_yes fun j a c => HR.out j a (by omega), rfl⟩
    · have HB : Hid ((s[k].toNat : Int) = bt s k) := bt_eq s k hlt
      go_wp2
      go_ret
      exact ⟨tells_no fun h => by have := h k hk2 hlt; unfold CsiAt at this; rw [← HB.out] at this; omega, rfl⟩
    · have HB : Hid ((s[k].toNat : Int) = bt s k) := bt_eq s k hlt
      go_wp2
      go_round
      case rel =>
        refine ⟨k + 1, true, by omega, by omega, by go_num, rfl, ?_, snoc_all HR.out (.inr (.inl (by rw [← HB.out]; exact ⟨y, y'⟩)))⟩
        simp
        exact ⟨k, hk2, by omega, by rw [← HB.out]; exact ⟨y, y'⟩⟩
      case measure => simp [intOf]; omega
    · have HB : Hid ((s[k].toNat : Int) = bt s k) := bt_eq s k hlt
      cases b
      · go_wp2
        go_round
        case rel =>
          refine ⟨k + 1, false, by omega, by omega, by go_num, rfl, ?_, snoc_all HR.out (.inl ⟨by rw [← HB.out]; exact ⟨y, y'⟩, fun i a c d => ?_⟩)⟩
          · simp
            intro i a c d
            by_cases e : i = k
            · subst e; rw [← HB.out] at d ⊢; omega
            · have := HSB.out.2
              simp at this
              exact this i a (by omega) d
          · have := HSB.out.2 ⟨i, a, c, d⟩
            cases this
        case measure => simp [intOf]; omega
      · go_wp2
        go_ret
        exact ⟨tells_no fun h => by
          have := h k hk2 hlt
          obtain ⟨i, a, c, d⟩ := HSB.out.1 (by simp)
          unfold CsiAt at this
          rw [← HB.out] at this
          rcases this with t | t | t
          · exact t.2 i a c d
          · omega
          · omega, rfl⟩
    · have HB : Hid ((s[k].toNat : Int) = bt s k) := bt_eq s k hlt
      have iz : ((k : Int) == (s.size : Int) - 1) = true := by simp; omega
      have HZ : Hid (k + 1 = s.size) := z
      clear z
      go_wp2
      go_round
      case rel =>
        have hz := HZ.out
        refine ⟨k + 1, b, by omega, by omega, by go_num, rfl, ?_, snoc_all HR.out (.inr (.inr ⟨by rw [← HB.out]; exact ⟨y, y'⟩, HZ.out⟩))⟩
        rw [HSB.out]
        constructor
        · rintro ⟨i, a, c, d⟩; exact ⟨i, a, by omega, d⟩
        · rintro ⟨i, a, c, d⟩
          by_cases e : i = k
          · subst e; rw [← HB.out] at d; omega
          · exact ⟨i, a, by omega, d⟩
      case measure => simp [intOf]; omega
    · have HB : Hid ((s[k].toNat : Int) = bt s k) := bt_eq s k hlt
      have iz : ((k : Int) == (s.size : Int) - 1) = false := by simp; omega
      go_wp2
      go_ret
      exact ⟨tells_no fun h => by have := h k hk2 hlt; unfold CsiAt at this; rw [← HB.out] at this; omega, rfl⟩
    · have HB : Hid ((s[k].toNat : Int) = bt s k) := bt_eq s k hlt
      go_wp2
      go_ret
      exact ⟨tells_no fun h => by have := h k hk2 hlt; unfold CsiAt at this; rw [← HB.out] at this; omega, rfl⟩

theorem intro_yes (c : Int) (w : World) (hc : (c == 93) = true ∨ (c == 93) = false ∧ (c == 80) = true ∨ (c == 93) = false ∧ (c == 80) = false ∧ (c == 88) = true ∨
      (c == 93) = false ∧ (c == 80) = false ∧ (c == 88) = false ∧ (c == 94) = true ∨ (c == 93) = false ∧ (c == 80) = false ∧ (c == 88) = false ∧ (c == 94) = false ∧ (c == 95) = true) :
    Calls Try.prog 10 #[.int .u8 c] w fun e w' => e = .returned (.bool true) ∧ w' = w := by
  rcases hc with q1 | ⟨q1, q2⟩ | ⟨q1, q2, q3⟩ | ⟨q1, q2, q3, q4⟩ | ⟨q1, q2, q3, q4, q5⟩
  all_goals
    go_enter Try.func10, Try.ntmps10
    go_wp2
    go_ret
    exact ⟨rfl, rfl⟩
theorem intro_no (c : Int) (w : World) (q1 : (c == 93) = false) (q2 : (c == 80) = false) (q3 : (c == 88) = false) (q4 : (c == 94) = false) (q5 : (c == 95) = false) :
    Calls Try.prog 10 #[.int .u8 c] w fun e w' => e = .returned (.bool false) ∧ w' = w := by
  go_enter Try.func10, Try.ntmps10
  go_wp2
  go_ret
  exact ⟨rfl, rfl⟩

set_option maxHeartbeats 2000000 in
theorem ok_oth (s : ByteArray) (w : World) (hs : s.size ≤ maxLen) (h2 : 2 ≤ s.size) (e1 : ((s[1].toNat : Int) == 91) = false) (e2 : ((s[1].toNat : Int) == 93) = false) (e3 : ((s[1].toNat : Int) == 80) = false)
    (e4 : ((s[1].toNat : Int) == 88) = false) (e5 : ((s[1].toNat : Int) == 94) = false) (e6 : ((s[1].toNat : Int) == 95) = false) :
    Calls Try.prog 7 #[.string s] w fun e w' => Tells e (OkOth (bt s) s.size) ∧ w' = w := by
  unfold maxLen at hs
  have h2' : (2 : Int) ≤ s.size := by omega
  go_enter Try.func7, Try.ntmps7
  go_wp2_with (go_at_call 10; refine (intro_no _ _ e2 e3 e4 e5 e6).mono ?_; rintro e w' ⟨rfl, hw⟩; obtain rfl := hw.symm)
  go_loop [8] (fun i => ∃ k : Nat, 1 ≤ k ∧ k ≤ s.size ∧ i = .int .i64 k ∧ ∀ j, 1 ≤ j → j < k → OthAt (bt s) s.size j) (fun i => s.size - (intOf i).toNat)
  case atStart => exact ⟨1, Nat.le_refl _, by omega, rfl, fun j _ _ => by omega⟩
  case round =>
    obtain ⟨k, hk2, hk, rfl, hr⟩ := hrel
    have ways : (¬ k < s.size) ∨ (∃ h : k < s.size, ((s[k].toNat : Int) < 32) ∨ (32 ≤ (s[k].toNat : Int) ∧ (s[k].toNat : Int) ≤ 47) ∨ ((48 ≤ (s[k].toNat : Int) ∧ (s[k].toNat : Int) ≤ 126) ∧ k + 1 = s.size) ∨ ((48 ≤ (s[k].toNat : Int) ∧ (s[k].toNat : Int) ≤ 126) ∧ k + 1 ≠ s.size) ∨ 126 < (s[k].toNat : Int)) := by
      by_cases h : k < s.size
      · exact .inr ⟨h, by omega⟩
      · exact .inl h
    rcases ways with hlt | ⟨hlt, y | ⟨y, y'⟩ | ⟨⟨y, y'⟩, z⟩ | ⟨⟨y, y'⟩, z⟩ | y⟩
    · go_wp2
      go_ret
      exact ⟨tells_yes fun j a c => hr j a (by omega), rfl⟩
    · have HB : Hid ((s[k].toNat : Int) = bt s k) := bt_eq s k hlt
      go_wp2
      go_ret
      exact ⟨tells_no fun h => by have := h k hk2 hlt; unfold OthAt at this; rw [← HB.out] at this; omega, rfl⟩
    · have HB : Hid ((s[k].toNat : Int) = bt s k) := bt_eq s k hlt
      go_wp2
      go_round
      case rel => exact ⟨k + 1, by omega, by omega, by go_num, snoc_all hr (.inl (by rw [← HB.out]; exact ⟨y, y'⟩))⟩
      case measure => simp [intOf]; omega
    · have HB : Hid ((s[k].toNat : Int) = bt s k) := bt_eq s k hlt
      have iz : ((k : Int) == (s.size : Int) - 1) = true := by simp; omega
      have HZ : Hid (k + 1 = s.size) := z
      clear z
      go_wp2
      go_round
      case rel => exact ⟨k + 1, by omega, by omega, by go_num, snoc_all hr (.inr ⟨by rw [← HB.out]; exact ⟨y, y'⟩, HZ.out⟩)⟩
      case measure => simp [intOf]; omega
    · have HB : Hid ((s[k].toNat : Int) = bt s k) := bt_eq s k hlt
      have iz : ((k : Int) == (s.size : Int) - 1) = false := by simp; omega
      go_wp2
      go_ret
      exact ⟨tells_no fun h => by have := h k hk2 hlt; unfold OthAt at this; rw [← HB.out] at this; omega, rfl⟩
    · have HB : Hid ((s[k].toNat : Int) = bt s k) := bt_eq s k hlt
      go_wp2
      go_ret
      exact ⟨tells_no fun h => by have := h k hk2 hlt; unfold OthAt at this; rw [← HB.out] at this; omega, rfl⟩

set_option maxHeartbeats 4000000 in
theorem ok_str (s : ByteArray) (w : World) (hs : s.size ≤ maxLen) (h2 : 2 ≤ s.size) (e1 : ((s[1].toNat : Int) == 91) = false)
    (hc : ((s[1].toNat : Int) == 93) = true ∨ ((s[1].toNat : Int) == 93) = false ∧ ((s[1].toNat : Int) == 80) = true ∨ ((s[1].toNat : Int) == 93) = false ∧ ((s[1].toNat : Int) == 80) = false ∧ ((s[1].toNat : Int) == 88) = true ∨
      ((s[1].toNat : Int) == 93) = false ∧ ((s[1].toNat : Int) == 80) = false ∧ ((s[1].toNat : Int) == 88) = false ∧ ((s[1].toNat : Int) == 94) = true ∨
      ((s[1].toNat : Int) == 93) = false ∧ ((s[1].toNat : Int) == 80) = false ∧ ((s[1].toNat : Int) == 88) = false ∧ ((s[1].toNat : Int) == 94) = false ∧ ((s[1].toNat : Int) == 95) = true) :
    Calls Try.prog 7 #[.string s] w fun e w' => Tells e (OkStr (bt s) s.size) ∧ w' = w := by
  unfold maxLen at hs
  have h2' : (2 : Int) ≤ s.size := by omega
  have HC : Hid (((s[1].toNat : Int) == 93) = true ∨ ((s[1].toNat : Int) == 93) = false ∧ ((s[1].toNat : Int) == 80) = true ∨ ((s[1].toNat : Int) == 93) = false ∧ ((s[1].toNat : Int) == 80) = false ∧ ((s[1].toNat : Int) == 88) = true ∨
      ((s[1].toNat : Int) == 93) = false ∧ ((s[1].toNat : Int) == 80) = false ∧ ((s[1].toNat : Int) == 88) = false ∧ ((s[1].toNat : Int) == 94) = true ∨
      ((s[1].toNat : Int) == 93) = false ∧ ((s[1].toNat : Int) == 80) = false ∧ ((s[1].toNat : Int) == 88) = false ∧ ((s[1].toNat : Int) == 94) = false ∧ ((s[1].toNat : Int) == 95) = true) := hc
  clear hc
  go_enter Try.func7, Try.ntmps7
  go_wp2_with (go_at_call 10; refine (intro_yes _ _ HC.out).mono ?_; rintro e w' ⟨rfl, hw⟩; obtain rfl := hw.symm)
  go_loop [7] (fun i => ∃ k : Nat, 2 ≤ k ∧ k ≤ s.size ∧ i = .int .i64 k ∧ ∀ j, 2 ≤ j → j < k → StrAt (bt s) s.size j) (fun i => s.size - (intOf i).toNat)
  case atStart => exact ⟨2, Nat.le_refl _, h2, rfl, fun j _ _ => by omega⟩
  case round =>
    obtain ⟨k, hk2, hk, rfl, hr⟩ := hrel
    have ways : (¬ k < s.size) ∨ (∃ h : k < s.size, ((s[k].toNat : Int) = 7 ∧ k + 1 = s.size) ∨ ((s[k].toNat : Int) = 7 ∧ k + 1 ≠ s.size) ∨ ((s[k].toNat : Int) ≠ 7 ∧ (s[k].toNat : Int) ≠ 27) ∨ ((s[k].toNat : Int) = 27 ∧ ¬ k + 1 < s.size) ∨
        (∃ h' : k + 1 < s.size, (s[k].toNat : Int) = 27 ∧ ((s[k + 1].toNat : Int) = 92 ∧ k + 2 = s.size ∨ (s[k + 1].toNat : Int) = 92 ∧ k + 2 ≠ s.size ∨ (s[k + 1].toNat : Int) ≠ 92))) := by
      by_cases h : k < s.size
      · refine .inr ⟨h, ?_⟩
        by_cases x7 : (s[k].toNat : Int) = 7
        · omega
        by_cases x27 : (s[k].toNat : Int) = 27
        · by_cases h' : k + 1 < s.size
          · exact .inr (.inr (.inr (.inr ⟨h', x27, by omega⟩)))
          · exact .inr (.inr (.inr (.inl ⟨x27, h'⟩)))
        · exact .inr (.inr (.inl ⟨x7, x27⟩))
      · exact .inl h
    rcases ways with hlt | ⟨hlt, ⟨x, z⟩ | ⟨x, z⟩ | ⟨x, y⟩ | ⟨x, hlt2⟩ | ⟨hlt2, x, ⟨y, z⟩ | ⟨y, z⟩ | y⟩⟩
    · go_wp2
      go_ret
      exact ⟨tells_yes fun j a c => hr j a (by omega), rfl⟩
    · have HB : Hid (StrAt (bt s) s.size k) := ⟨fun h => h.2 z, fun h => by have := h.2.1; omega⟩
      have i7 : ((s[k].toNat : Int) == 7) = true := by rw [x]; rfl
      have i27 : ((s[k].toNat : Int) == 27) = false := by rw [x]; rfl
      have iz : ((k : Int) == (s.size : Int) - 1) = true := by simp; omega
      have iz' : ((k : Int) != (s.size : Int) - 1) = false := by simp; omega
      clear x z
      go_wp2
      go_round
      case rel => exact ⟨k + 1, by omega, by omega, by go_num, snoc_all hr HB.out⟩
      case measure => simp [intOf]; omega
    · have HB : Hid (¬ StrAt (bt s) s.size k) := fun h => h.1 ⟨by rw [← bt_eq s k hlt]; exact x, z⟩
      have i7 : ((s[k].toNat : Int) == 7) = true := by rw [x]; rfl
      have iz : ((k : Int) == (s.size : Int) - 1) = false := by simp; omega
      have iz' : ((k : Int) != (s.size : Int) - 1) = true := by simp; omega
      clear x z
      go_wp2
      go_ret
      exact ⟨tells_no fun h => HB.out (h k hk2 hlt), rfl⟩
    · have HB : Hid (StrAt (bt s) s.size k) := ⟨fun h => x (by rw [bt_eq s k hlt]; exact h.1), fun h => y (by rw [bt_eq s k hlt]; exact h.1)⟩
      have i7 : ((s[k].toNat : Int) == 7) = false := by simpa using x
      have i27 : ((s[k].toNat : Int) == 27) = false := by simpa using y
      clear x y
      go_wp2
      go_round
      case rel => exact ⟨k + 1, by omega, by omega, by go_num, snoc_all hr HB.out⟩
      case measure => simp [intOf]; omega
    · have HB : Hid (StrAt (bt s) s.size k) := ⟨fun h => by have := h.1; rw [← bt_eq s k hlt] at this; omega, fun h => hlt2 h.2.1⟩
      have i7 : ((s[k].toNat : Int) == 7) = false := by rw [x]; rfl
      have i27 : ((s[k].toNat : Int) == 27) = true := by rw [x]; rfl
      clear x
      go_wp2
      go_round
      case rel => exact ⟨k + 1, by omega, by omega, by go_num, snoc_all hr HB.out⟩
      case measure => simp [intOf]; omega
    · have HB : Hid (StrAt (bt s) s.size k) := ⟨fun h => by have := h.1; rw [← bt_eq s k hlt] at this; omega, fun h => h.2.2.2 z⟩
      have i7 : ((s[k].toNat : Int) == 7) = false := by rw [x]; rfl
      have i27 : ((s[k].toNat : Int) == 27) = true := by rw [x]; rfl
      have i92 : ((s[k + 1].toNat : Int) == 92) = true := by rw [y]; rfl
      have iz : ((k : Int) + 1 == (s.size : Int) - 1) = true := by simp; omega
      have iz' : ((k : Int) + 1 != (s.size : Int) - 1) = false := by simp; omega
      clear x y z
      go_wp2
      go_round
      case rel => exact ⟨k + 1, by omega, by omega, by go_num, snoc_all hr HB.out⟩
      case measure => simp [intOf]; omega
    · have HB : Hid (¬ StrAt (bt s) s.size k) := fun h => h.2 ⟨by rw [← bt_eq s k hlt]; exact x, hlt2, by rw [← bt_eq s (k + 1) hlt2]; exact y, z⟩
      have i7 : ((s[k].toNat : Int) == 7) = false := by rw [x]; rfl
      have i27 : ((s[k].toNat : Int) == 27) = true := by rw [x]; rfl
      have i92 : ((s[k + 1].toNat : Int) == 92) = true := by rw [y]; rfl
      have iz : ((k : Int) + 1 == (s.size : Int) - 1) = false := by simp; omega
      have iz' : ((k : Int) + 1 != (s.size : Int) - 1) = true := by simp; omega
      clear x y z
      go_wp2
      go_ret
      exact ⟨tells_no fun h => HB.out (h k hk2 hlt), rfl⟩
    · have HB : Hid (StrAt (bt s) s.size k) := ⟨fun h => by have := h.1; rw [← bt_eq s k hlt] at this; omega, fun h => y (by rw [bt_eq s (k + 1) hlt2]; exact h.2.2.1)⟩
      have i7 : ((s[k].toNat : Int) == 7) = false := by rw [x]; rfl
      have i27 : ((s[k].toNat : Int) == 27) = true := by rw [x]; rfl
      have i92 : ((s[k + 1].toNat : Int) == 92) = false := by simpa using y
      clear x y
      go_wp2
      go_round
      case rel => exact ⟨k + 1, by omega, by omega, by go_num, snoc_all hr HB.out⟩
      case measure => simp [intOf]; omega
end Go.Proofs.Qxb6617185a
