/- termtext.escapeLen at a control sequence. -/
import Derived.Test.Qxb6617185aProg
import Derived.WalkKit
import Derived.WalkSpells
import Derived.WalkLawsBesides
import Derived.RowKit3
namespace Go.Proofs.Qxb6617185a
open Go.RowKit

/-- The byte at j, as a number. -/
def bt (s : ByteArray) (j : Nat) : Int := ((s.data.toList.getD j 0).toNat : Int)
theorem bt_eq (s : ByteArray) (j : Nat) (h : j < s.size) : (s[j].toNat : Int) = bt s j := by
  unfold bt
  have hl : j < s.data.toList.length := by simpa using h
  rw [List.getD_eq_getElem?_getD, List.getElem?_eq_getElem hl]
  rfl
theorem ret_int {k : IntKind} {a b : Int} (h : a = b) : Ending.returned (.int k a) = .returned (.int k b) := by rw [h]

/-- A control sequence's length n, read off the bytes g and the text's length L. -/
def Csi (g : Nat → Int) (L n : Nat) : Prop := ∃ a b : Nat, 2 ≤ a ∧ a ≤ b ∧ b ≤ L ∧ (∀ j, 2 ≤ j → j < a → 48 ≤ g j ∧ g j ≤ 63) ∧ (a < L → ¬ (48 ≤ g a ∧ g a ≤ 63)) ∧
  (∀ j, a ≤ j → j < b → 32 ≤ g j ∧ g j ≤ 47) ∧ (b < L → ¬ (32 ≤ g b ∧ g b ≤ 47)) ∧ ((b < L ∧ 64 ≤ g b ∧ g b ≤ 126 ∧ n = b + 1) ∨ (¬ (b < L ∧ 64 ≤ g b ∧ g b ≤ 126) ∧ n = b))

theorem csi_yes {g : Nat → Int} {L k b : Nat} (hk2 : 2 ≤ k) (hkb : k ≤ b) (hr : ∀ j, 2 ≤ j → j < k → 48 ≤ g j ∧ g j ≤ 63) (ha : k < L → ¬ (48 ≤ g k ∧ g k ≤ 63)) (hr2 : ∀ j, k ≤ j → j < b → 32 ≤ g j ∧ g j ≤ 47)
    (hb : b < L) (f1 : 64 ≤ g b) (f2 : g b ≤ 126) : Csi g L (b + 1) :=
  ⟨k, b, hk2, hkb, Nat.le_of_lt hb, hr, ha, hr2, fun _ => by omega, .inl ⟨hb, f1, f2, rfl⟩⟩
theorem csi_no {g : Nat → Int} {L k b : Nat} (hk2 : 2 ≤ k) (hkb : k ≤ b) (hbL : b ≤ L) (hr : ∀ j, 2 ≤ j → j < k → 48 ≤ g j ∧ g j ≤ 63) (ha : k < L → ¬ (48 ≤ g k ∧ g k ≤ 63)) (hr2 : ∀ j, k ≤ j → j < b → 32 ≤ g j ∧ g j ≤ 47)
    (hb : b < L → ¬ (32 ≤ g b ∧ g b ≤ 47) ∧ ¬ (64 ≤ g b ∧ g b ≤ 126)) : Csi g L b :=
  ⟨k, b, hk2, hkb, hbL, hr, ha, hr2, fun h => (hb h).1, .inr ⟨fun ⟨h, f⟩ => (hb h).2 f, rfl⟩⟩

set_option maxHeartbeats 2000000 in
theorem esc_csi (s : ByteArray) (w : World) (hs : s.size ≤ maxLen) (h2 : 2 ≤ s.size) (h1 : ((s[1].toNat : Int) == 91) = true) :
    Calls Try.prog 9 #[.string s] w fun e w' => (∃ n : Nat, e = .returned (.int .i64 n) ∧ Csi (bt s) s.size n) ∧ w' = w := by
  unfold maxLen at hs
  have h2' : (2 : Int) ≤ s.size := by omega
  go_enter Try.func9, Try.ntmps9
  go_wp2
  go_loop [3] (fun i => ∃ k : Nat, 2 ≤ k ∧ k ≤ s.size ∧ i = .int .i64 k ∧ ∀ j, 2 ≤ j → j < k → 48 ≤ bt s j ∧ bt s j ≤ 63) (fun i => s.size - (intOf i).toNat)
  case atStart => exact ⟨2, Nat.le_refl _, h2, rfl, fun j _ _ => by omega⟩
  case round =>
    obtain ⟨k, hk2, hk, rfl, hr⟩ := hrel
    by_cases p1 : k < s.size ∧ 48 ≤ bt s k ∧ bt s k ≤ 63
    · obtain ⟨hlt, p1, p2⟩ := p1
      have HB : Hid ((s[k].toNat : Int) = bt s k) := bt_eq s k hlt
      have q1 : 48 ≤ (s[k].toNat : Int) := by rw [HB.out]; exact p1
      have q2 : (s[k].toNat : Int) ≤ 63 := by rw [HB.out]; exact p2
      go_wp2
      go_round
      case rel => exact ⟨k + 1, by omega, by omega, by go_num, fun j a b => by
        by_cases e : j = k
        · subst e; exact ⟨p1, p2⟩
        · exact hr j a (by omega)⟩
      case measure => simp [intOf]; omega
    · have HA : Hid (k < s.size → ¬ (48 ≤ bt s k ∧ bt s k ≤ 63)) := fun h h' => p1 ⟨h, h'⟩
      have HR : Hid (∀ j, 2 ≤ j → j < k → 48 ≤ bt s j ∧ bt s j ≤ 63) := hr
      have ways : (¬ k < s.size) ∨ (∃ h : k < s.size, (s[k].toNat : Int) < 48) ∨ (∃ h : k < s.size, 63 < (s[k].toNat : Int)) := by
        by_cases h : k < s.size
        · have e := bt_eq s k h
          have := HA.out h
          right
          by_cases h' : (s[k].toNat : Int) < 48
          · exact .inl ⟨h, h'⟩
          · exact .inr ⟨h, by omega⟩
        · exact .inl h
      clear p1 hr
      rcases ways with hlt | ⟨hlt, x1⟩ | ⟨hlt, x1⟩
      all_goals
        go_wp2
        go_loop [3] (fun i => ∃ b : Nat, k ≤ b ∧ b ≤ s.size ∧ i = .int .i64 b ∧ ∀ j, k ≤ j → j < b → 32 ≤ bt s j ∧ bt s j ≤ 47) (fun i => s.size - (intOf i).toNat)
        case atStart => exact ⟨k, Nat.le_refl _, hk, rfl, fun j _ _ => by omega⟩
        case round =>
          obtain ⟨b, hkb, hb, rfl, hr2⟩ := hrel
          have ways : (¬ b < s.size) ∨ (∃ h : b < s.size, ((s[b].toNat : Int) < 32) ∨ (32 ≤ (s[b].toNat : Int) ∧ (s[b].toNat : Int) ≤ 47) ∨ (47 < (s[b].toNat : Int) ∧ (s[b].toNat : Int) < 64) ∨ (64 ≤ (s[b].toNat : Int) ∧ (s[b].toNat : Int) ≤ 126) ∨ 126 < (s[b].toNat : Int)) := by
            by_cases h : b < s.size
            · exact .inr ⟨h, by omega⟩
            · exact .inl h
          rcases ways with hltb | ⟨hltb, y | ⟨y, y'⟩ | ⟨y, y'⟩ | ⟨y, y'⟩ | y⟩
          · go_wp2
            all_goals (go_ret; exact ⟨⟨b, rfl, csi_no hk2 hkb hb HR.out HA.out hr2 (fun h => by omega)⟩, rfl⟩)
          · have HB := bt_eq s b hltb
            have HB' : Hid ((s[b].toNat : Int) = bt s b) := HB
            clear HB
            go_wp2
            all_goals (go_ret; exact ⟨⟨b, rfl, csi_no hk2 hkb hb HR.out HA.out hr2 (fun h => by rw [← HB'.out]; omega)⟩, rfl⟩)
          · have HB : Hid ((s[b].toNat : Int) = bt s b) := bt_eq s b hltb
            go_wp2
            go_round
            case rel => exact ⟨b + 1, by omega, by omega, by go_num, fun j c d => by
              by_cases e : j = b
              · subst e; rw [← HB.out]; exact ⟨y, y'⟩
              · exact hr2 j c (by omega)⟩
            case measure => simp [intOf]; omega
          · have HB : Hid ((s[b].toNat : Int) = bt s b) := bt_eq s b hltb
            go_wp2
            all_goals (go_ret; exact ⟨⟨b, rfl, csi_no hk2 hkb hb HR.out HA.out hr2 (fun h => by rw [← HB.out]; omega)⟩, rfl⟩)
          · have HB : Hid ((s[b].toNat : Int) = bt s b) := bt_eq s b hltb
            go_wp2
            all_goals (go_ret; exact ⟨⟨b + 1, ret_int (by omega), csi_yes hk2 hkb HR.out HA.out hr2 hltb (by rw [← HB.out]; exact y) (by rw [← HB.out]; exact y')⟩, rfl⟩)
          · have HB : Hid ((s[b].toNat : Int) = bt s b) := bt_eq s b hltb
            go_wp2
            all_goals (go_ret; exact ⟨⟨b, rfl, csi_no hk2 hkb hb HR.out HA.out hr2 (fun h => by rw [← HB.out]; omega)⟩, rfl⟩)
end Go.Proofs.Qxb6617185a
