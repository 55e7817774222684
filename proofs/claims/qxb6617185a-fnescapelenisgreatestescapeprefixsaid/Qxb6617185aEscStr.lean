/- termtext.escapeLen at a string sequence and at any other. -/
import Derived.Test.Qxb6617185aEscCsi
namespace Go.Proofs.Qxb6617185a
open Go.RowKit

/-- Any other sequence's length. -/
def Oth (g : Nat → Int) (L n : Nat) : Prop := ∃ b : Nat, 1 ≤ b ∧ b ≤ L ∧ (∀ j, 1 ≤ j → j < b → 32 ≤ g j ∧ g j ≤ 47) ∧ (b < L → ¬ (32 ≤ g b ∧ g b ≤ 47)) ∧
  ((b < L ∧ 48 ≤ g b ∧ g b ≤ 126 ∧ n = b + 1) ∨ (¬ (b < L ∧ 48 ≤ g b ∧ g b ≤ 126) ∧ n = b))

theorem oth_yes {g : Nat → Int} {L b : Nat} (hkb : 1 ≤ b) (hr2 : ∀ j, 1 ≤ j → j < b → 32 ≤ g j ∧ g j ≤ 47) (hb : b < L) (f1 : 48 ≤ g b) (f2 : g b ≤ 126) : Oth g L (b + 1) :=
  ⟨b, hkb, Nat.le_of_lt hb, hr2, fun _ => by omega, .inl ⟨hb, f1, f2, rfl⟩⟩
theorem oth_no {g : Nat → Int} {L b : Nat} (hkb : 1 ≤ b) (hbL : b ≤ L) (hr2 : ∀ j, 1 ≤ j → j < b → 32 ≤ g j ∧ g j ≤ 47)
    (hb : b < L → ¬ (32 ≤ g b ∧ g b ≤ 47) ∧ ¬ (48 ≤ g b ∧ g b ≤ 126)) : Oth g L b :=
  ⟨b, hkb, hbL, hr2, fun h => (hb h).1, .inr ⟨fun ⟨h, f⟩ => (hb h).2 f, rfl⟩⟩

set_option maxHeartbeats 2000000 in
theorem esc_oth (s : ByteArray) (w : World) (hs : s.size ≤ maxLen) (h2 : 2 ≤ s.size) (e1 : ((s[1].toNat : Int) == 91) = false) (e2 : ((s[1].toNat : Int) == 93) = false) (e3 : ((s[1].toNat : Int) == 80) = false)
    (e4 : ((s[1].toNat : Int) == 88) = false) (e5 : ((s[1].toNat : Int) == 94) = false) (e6 : ((s[1].toNat : Int) == 95) = false) :
    Calls Try.prog 9 #[.string s] w fun e w' => (∃ n : Nat, e = .returned (.int .i64 n) ∧ Oth (bt s) s.size n) ∧ w' = w := by
  unfold maxLen at hs
  have h2' : (2 : Int) ≤ s.size := by omega
  go_enter Try.func9, Try.ntmps9
  go_wp2
  go_loop [5] (fun i => ∃ b : Nat, 1 ≤ b ∧ b ≤ s.size ∧ i = .int .i64 b ∧ ∀ j, 1 ≤ j → j < b → 32 ≤ bt s j ∧ bt s j ≤ 47) (fun i => s.size - (intOf i).toNat)
  case atStart => exact ⟨1, Nat.le_refl _, by omega, rfl, fun j _ _ => by omega⟩
  case round =>
    obtain ⟨b, hkb, hb, rfl, hr2⟩ := hrel
    have ways : (¬ b < s.size) ∨ (∃ h : b < s.size, ((s[b].toNat : Int) < 32) ∨ (32 ≤ (s[b].toNat : Int) ∧ (s[b].toNat : Int) ≤ 47) ∨ (48 ≤ (s[b].toNat : Int) ∧ (s[b].toNat : Int) ≤ 126) ∨ 126 < (s[b].toNat : Int)) := by
      by_cases h : b < s.size
      · exact .inr ⟨h, by omega⟩
      · exact .inl h
    rcases ways with hltb | ⟨hltb, y | ⟨y, y'⟩ | ⟨y, y'⟩ | y⟩
    · go_wp2
      all_goals (go_ret; exact ⟨⟨b, rfl, oth_no hkb hb hr2 (fun h => by omega)⟩, rfl⟩)
    · have HB : Hid ((s[b].toNat : Int) = bt s b) := bt_eq s b hltb
      go_wp2
      all_goals (go_ret; exact ⟨⟨b, rfl, oth_no hkb hb hr2 (fun h => by rw [← HB.out]; omega)⟩, rfl⟩)
    · have HB : Hid ((s[b].toNat : Int) = bt s b) := bt_eq s b hltb
      go_wp2
      go_round
      case rel => exact ⟨b + 1, by omega, by omega, by go_num, fun j c d => by
        by_cases e : j = b
        · subst e; rw [← HB.out]; exact ⟨y, y'⟩
        · exact hr2 j c (by omega)⟩
      case measure => simp [intOf]; omega
    · have HB : Hid ((s[b].toNat : Int) = bt s b) := bt_eq s b hltb
      go_wp2
      all_goals (go_ret; exact ⟨⟨b + 1, ret_int (by omega), oth_yes hkb hr2 hltb (by rw [← HB.out]; exact y) (by rw [← HB.out]; exact y')⟩, rfl⟩)
    · have HB : Hid ((s[b].toNat : Int) = bt s b) := bt_eq s b hltb
      go_wp2
      all_goals (go_ret; exact ⟨⟨b, rfl, oth_no hkb hb hr2 (fun h => by rw [← HB.out]; omega)⟩, rfl⟩)

/-- A string sequence ends at i, its end n. -/
def StrEnd (g : Nat → Int) (L i n : Nat) : Prop := (g i = 7 ∧ n = i + 1) ∨ (g i = 27 ∧ i + 1 < L ∧ g (i + 1) = 92 ∧ n = i + 2)
/-- No string sequence ends at j. -/
def StrOn (g : Nat → Int) (L j : Nat) : Prop := g j ≠ 7 ∧ ¬ (g j = 27 ∧ j + 1 < L ∧ g (j + 1) = 92)
/-- A string sequence's length. -/
def Str (g : Nat → Int) (L n : Nat) : Prop := (∃ i, 2 ≤ i ∧ i < L ∧ (∀ j, 2 ≤ j → j < i → StrOn g L j) ∧ StrEnd g L i n) ∨ ((∀ j, 2 ≤ j → j < L → StrOn g L j) ∧ n = L)

set_option maxHeartbeats 4000000 in
theorem esc_str (s : ByteArray) (w : World) (hs : s.size ≤ maxLen) (h2 : 2 ≤ s.size) (e1 : ((s[1].toNat : Int) == 91) = false)
    (hc : ((s[1].toNat : Int) == 93) = true ∨ ((s[1].toNat : Int) == 93) = false ∧ ((s[1].toNat : Int) == 80) = true ∨ ((s[1].toNat : Int) == 93) = false ∧ ((s[1].toNat : Int) == 80) = false ∧ ((s[1].toNat : Int) == 88) = true ∨
      ((s[1].toNat : Int) == 93) = false ∧ ((s[1].toNat : Int) == 80) = false ∧ ((s[1].toNat : Int) == 88) = false ∧ ((s[1].toNat : Int) == 94) = true ∨
      ((s[1].toNat : Int) == 93) = false ∧ ((s[1].toNat : Int) == 80) = false ∧ ((s[1].toNat : Int) == 88) = false ∧ ((s[1].toNat : Int) == 94) = false ∧ ((s[1].toNat : Int) == 95) = true) :
    Calls Try.prog 9 #[.string s] w fun e w' => (∃ n : Nat, e = .returned (.int .i64 n) ∧ Str (bt s) s.size n) ∧ w' = w := by
  unfold maxLen at hs
  have h2' : (2 : Int) ≤ s.size := by omega
  rcases hc with q1 | ⟨q1, q2⟩ | ⟨q1, q2, q3⟩ | ⟨q1, q2, q3, q4⟩ | ⟨q1, q2, q3, q4, q5⟩
  all_goals
    go_enter Try.func9, Try.ntmps9
    go_wp2
    go_loop [4] (fun i => ∃ k : Nat, 2 ≤ k ∧ k ≤ s.size ∧ i = .int .i64 k ∧ ∀ j, 2 ≤ j → j < k → StrOn (bt s) s.size j) (fun i => s.size - (intOf i).toNat)
    case atStart => exact ⟨2, Nat.le_refl _, h2, rfl, fun j _ _ => by omega⟩
    case round =>
      obtain ⟨k, hk2, hk, rfl, hr⟩ := hrel
      have ways : (¬ k < s.size) ∨ (∃ h : k < s.size, (s[k].toNat : Int) = 7 ∨ ((s[k].toNat : Int) ≠ 7 ∧ (s[k].toNat : Int) ≠ 27) ∨ ((s[k].toNat : Int) = 27 ∧ ¬ k + 1 < s.size) ∨
          (∃ h' : k + 1 < s.size, (s[k].toNat : Int) = 27 ∧ ((s[k + 1].toNat : Int) = 92 ∨ (s[k + 1].toNat : Int) ≠ 92))) := by
        by_cases h : k < s.size
        · refine .inr ⟨h, ?_⟩
          by_cases x7 : (s[k].toNat : Int) = 7
          · exact .inl x7
          by_cases x27 : (s[k].toNat : Int) = 27
          · by_cases h' : k + 1 < s.size
            · exact .inr (.inr (.inr ⟨h', x27, by omega⟩))
            · exact .inr (.inr (.inl ⟨x27, h'⟩))
          · exact .inr (.inl ⟨x7, x27⟩)
        · exact .inl h
      rcases ways with hlt | ⟨hlt, x | ⟨x, y⟩ | ⟨x, hlt2⟩ | ⟨hlt2, x, y | y⟩⟩
      · go_wp2
        go_ret
        exact ⟨⟨s.size, rfl, .inr ⟨fun j a b => hr j a (by omega), rfl⟩⟩, rfl⟩
      · have HB : Hid (bt s k = 7) := by rw [← bt_eq s k hlt]; exact x
        have i7 : ((s[k].toNat : Int) == 7) = true := by rw [x]; rfl
        clear x
        go_wp2
        go_ret
        exact ⟨⟨k + 1, ret_int (by omega), .inl ⟨k, hk2, hlt, hr, .inl ⟨HB.out, rfl⟩⟩⟩, rfl⟩
      · have HB : Hid (StrOn (bt s) s.size k) := ⟨by rw [← bt_eq s k hlt]; exact x, fun h => y (by rw [bt_eq s k hlt]; exact h.1)⟩
        have i7 : ((s[k].toNat : Int) == 7) = false := by simpa using x
        have i27 : ((s[k].toNat : Int) == 27) = false := by simpa using y
        clear x y
        go_wp2
        go_round
        case rel => exact ⟨k + 1, by omega, by omega, by go_num, fun j a b => by
          by_cases e : j = k
          · subst e; exact HB.out
          · exact hr j a (by omega)⟩
        case measure => simp [intOf]; omega
      · have HB : Hid (StrOn (bt s) s.size k) := ⟨by rw [← bt_eq s k hlt]; omega, fun h => hlt2 h.2.1⟩
        have i7 : ((s[k].toNat : Int) == 7) = false := by rw [x]; rfl
        have i27 : ((s[k].toNat : Int) == 27) = true := by rw [x]; rfl
        clear x
        go_wp2
        go_round
        case rel => exact ⟨k + 1, by omega, by omega, by go_num, fun j a b => by
          by_cases e : j = k
          · subst e; exact HB.out
          · exact hr j a (by omega)⟩
        case measure => simp [intOf]; omega
      · have HB : Hid (StrEnd (bt s) s.size k (k + 2)) := .inr ⟨by rw [← bt_eq s k hlt]; exact x, hlt2, by rw [← bt_eq s (k + 1) hlt2]; exact y, rfl⟩
        have i7 : ((s[k].toNat : Int) == 7) = false := by rw [x]; rfl
        have i27 : ((s[k].toNat : Int) == 27) = true := by rw [x]; rfl
        have i92 : ((s[k + 1].toNat : Int) == 92) = true := by rw [y]; rfl
        clear x y
        go_wp2
        go_ret
        exact ⟨⟨k + 2, ret_int (by omega), .inl ⟨k, hk2, hlt, hr, HB.out⟩⟩, rfl⟩
      · have HB : Hid (StrOn (bt s) s.size k) := ⟨by rw [← bt_eq s k hlt]; omega, fun h => y (by rw [bt_eq s (k + 1) hlt2]; exact h.2.2)⟩
        have i7 : ((s[k].toNat : Int) == 7) = false := by rw [x]; rfl
        have i27 : ((s[k].toNat : Int) == 27) = true := by rw [x]; rfl
        have i92 : ((s[k + 1].toNat : Int) == 92) = false := by simpa using y
        clear x y
        go_wp2
        go_round
        case rel => exact ⟨k + 1, by omega, by omega, by go_num, fun j a b => by
          by_cases e : j = k
          · subst e; exact HB.out
          · exact hr j a (by omega)⟩
        case measure => simp [intOf]; omega
end Go.Proofs.Qxb6617185a
