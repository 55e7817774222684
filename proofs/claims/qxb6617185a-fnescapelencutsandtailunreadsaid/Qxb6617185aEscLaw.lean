/- The plain law of escapeLen: its answer is the longest prefix that zzEscPrefixOK lets. -/
import Derived.Test.Qxb6617185aEscStr
import Derived.Test.Qxb6617185aEscOk
namespace Go.Proofs.Qxb6617185a
open Go.RowKit

/-- The byte that opens a string sequence. -/
def IsStr (x : Int) : Prop := x = 93 ∨ x = 80 ∨ x = 88 ∨ x = 94 ∨ x = 95

/-- escapeLen's answer n at the bytes g, of which there are L. -/
def Esc (g : Nat → Int) (L n : Nat) : Prop :=
  (L < 2 ∧ n = L) ∨ (2 ≤ L ∧ g 1 = 91 ∧ Csi g L n) ∨ (2 ≤ L ∧ g 1 ≠ 91 ∧ IsStr (g 1) ∧ Str g L n) ∨ (2 ≤ L ∧ g 1 ≠ 91 ∧ ¬ IsStr (g 1) ∧ Oth g L n)

/-- What zzEscPrefixOK tells of the bytes g, of which there are L. -/
def Ok (g : Nat → Int) (L : Nat) : Prop :=
  L < 2 ∨ (2 ≤ L ∧ g 1 = 91 ∧ OkCsi g L) ∨ (2 ≤ L ∧ g 1 ≠ 91 ∧ IsStr (g 1) ∧ OkStr g L) ∨ (2 ≤ L ∧ g 1 ≠ 91 ∧ ¬ IsStr (g 1) ∧ OkOth g L)

theorem ok_congr {g g' : Nat → Int} {L : Nat} (h : ∀ j, j < L → g j = g' j) (ho : Ok g L) : Ok g' L := by
  rcases ho with ho | ⟨h2, e, ho⟩ | ⟨h2, e, f, ho⟩ | ⟨h2, e, f, ho⟩
  · exact .inl ho
  · refine .inr (.inl ⟨h2, by rw [← h 1 (by omega)]; exact e, fun j a b => ?_⟩)
    rcases ho j a b with ⟨p, q⟩ | p | ⟨p, q⟩
    · exact .inl ⟨by rw [← h j b]; exact p, fun i c d => by rw [← h i (by omega)]; exact q i c d⟩
    · exact .inr (.inl (by rw [← h j b]; exact p))
    · exact .inr (.inr ⟨by rw [← h j b]; exact p, q⟩)
  · refine .inr (.inr (.inl ⟨h2, by rw [← h 1 (by omega)]; exact e, by rw [← h 1 (by omega)]; exact f, fun j a b => ?_⟩))
    obtain ⟨p, q⟩ := ho j a b
    exact ⟨by rw [← h j b]; exact p, fun ⟨r1, r2, r3, r4⟩ => q ⟨by rw [h j b]; exact r1, r2, by rw [h (j + 1) r2]; exact r3, r4⟩⟩
  · refine .inr (.inr (.inr ⟨h2, by rw [← h 1 (by omega)]; exact e, by rw [← h 1 (by omega)]; exact f, fun j a b => ?_⟩))
    have := ho j a b
    unfold OthAt at this ⊢
    rw [← h j b]
    exact this

/-- The set of prefixes is closed under cutting. -/
theorem ok_cut {g : Nat → Int} {m m' : Nat} (ho : Ok g m) (hm : m' ≤ m) : Ok g m' := by
  by_cases h2' : m' < 2
  · exact .inl h2'
  rcases ho with ho | ⟨h2, e, ho⟩ | ⟨h2, e, f, ho⟩ | ⟨h2, e, f, ho⟩
  · omega
  · refine .inr (.inl ⟨by omega, e, fun j a b => ?_⟩)
    rcases ho j a (by omega) with p | p | ⟨p, q⟩
    · exact .inl p
    · exact .inr (.inl p)
    · exact .inr (.inr ⟨p, by omega⟩)
  · refine .inr (.inr (.inl ⟨by omega, e, f, fun j a b => ?_⟩))
    obtain ⟨p, q⟩ := ho j a (by omega)
    refine ⟨fun ⟨r1, r2⟩ => p ⟨r1, by omega⟩, fun ⟨r1, r2, r3, r4⟩ => q ⟨r1, by omega, r3, by omega⟩⟩
  · refine .inr (.inr (.inr ⟨by omega, e, f, fun j a b => ?_⟩))
    rcases ho j a (by omega) with p | ⟨p, q⟩
    · exact .inl p
    · exact .inr ⟨p, by omega⟩

/-- escapeLen's answer is the length of the longest such prefix. -/
theorem esc_law {g : Nat → Int} {L n : Nat} (h : Esc g L n) : n ≤ L ∧ (1 ≤ L → 1 ≤ n) ∧ Ok g n ∧ (n < L → ¬ Ok g (n + 1)) := by
  rcases h with ⟨h, rfl⟩ | ⟨h2, e, a, b, ha, hab, hb, hp, hpn, hi, hin, hf⟩ | ⟨h2, e, f, hs⟩ | ⟨h2, e, f, b, hb1, hb, hi, hin, hf⟩
  · exact ⟨Nat.le_refl _, fun h => h, .inl h, fun h => by omega⟩
  · refine ⟨by omega, by omega, .inr (.inl ⟨by omega, e, fun j c d => ?_⟩), fun hn ho => ?_⟩
    · by_cases h1 : j < a
      · refine .inl ⟨hp j c h1, fun i c' d' q => ?_⟩
        have := hp i c' (by omega)
        omega
      · by_cases h3 : j < b
        · exact .inr (.inl (hi j (by omega) h3))
        · rcases hf with ⟨f1, f2, f3, rfl⟩ | ⟨f1, rfl⟩
          · have ej : j = b := by omega
            subst ej
            exact .inr (.inr ⟨⟨f2, f3⟩, rfl⟩)
          · omega
    · rcases ho with ho | ⟨_, _, ho⟩ | ⟨_, e', _⟩ | ⟨_, e', _⟩
      · omega
      · rcases hf with ⟨f1, f2, f3, rfl⟩ | ⟨f1, rfl⟩
        · rcases ho b (by omega) (by omega) with ⟨p, q⟩ | p | ⟨p, q⟩ <;> omega
        · have hbn := hin hn
          rcases ho n (by omega) (by omega) with ⟨p, q⟩ | p | ⟨p, q⟩
          · by_cases hab' : a < n
            · exact q a ha hab' (hi a (Nat.le_refl _) hab')
            · have ean : a = n := by omega
              subst ean
              exact hpn hn p
          · omega
          · exact f1 ⟨hn, p⟩
      · exact e' e
      · exact e' e
  · rcases hs with ⟨i, hi2, hiL, hon, hend⟩ | ⟨hon, rfl⟩
    · have hn : n ≤ L ∧ i < n ∧ n ≤ i + 2 := by
        rcases hend with ⟨_, rfl⟩ | ⟨_, h3, _, rfl⟩ <;> omega
      refine ⟨hn.1, by omega, .inr (.inr (.inl ⟨by omega, e, f, fun j c d => ?_⟩)), fun hnL ho => ?_⟩
      · by_cases hji : j < i
        · obtain ⟨p, q⟩ := hon j c hji
          exact ⟨fun ⟨r1, _⟩ => p r1, fun ⟨r1, r2, r3, _⟩ => q ⟨r1, by omega, r3⟩⟩
        · rcases hend with ⟨h7, rfl⟩ | ⟨h27, h3, h92, rfl⟩
          · have ej : j = i := by omega
            subst ej
            exact ⟨fun ⟨_, r⟩ => r rfl, fun ⟨r1, r2, _, _⟩ => by omega⟩
          · by_cases ej : j = i
            · subst ej
              exact ⟨fun ⟨r1, _⟩ => by omega, fun ⟨_, _, _, r⟩ => r rfl⟩
            · have ej' : j = i + 1 := by omega
              subst ej'
              exact ⟨fun ⟨r1, _⟩ => by omega, fun ⟨r1, r2, _, _⟩ => by omega⟩
      · rcases ho with ho | ⟨_, e', _⟩ | ⟨_, _, _, ho⟩ | ⟨_, _, f', _⟩
        · omega
        · exact e e'
        · obtain ⟨p, q⟩ := ho i hi2 (by omega)
          rcases hend with ⟨h7, rfl⟩ | ⟨h27, h3, h92, rfl⟩
          · exact p ⟨h7, by omega⟩
          · exact q ⟨h27, by omega, h92, by omega⟩
        · exact f' f
    · refine ⟨Nat.le_refl _, by omega, .inr (.inr (.inl ⟨h2, e, f, fun j c d => ?_⟩)), fun hnL => by omega⟩
      obtain ⟨p, q⟩ := hon j c d
      exact ⟨fun ⟨r1, _⟩ => p r1, fun ⟨r1, r2, r3, _⟩ => q ⟨r1, r2, r3⟩⟩
  · have hn1 : 1 ≤ n ∧ n ≤ L := by rcases hf with ⟨f1, _, _, rfl⟩ | ⟨_, rfl⟩ <;> omega
    refine ⟨hn1.2, fun _ => hn1.1, ?_, fun hn ho => ?_⟩
    · by_cases hn2 : n < 2
      · exact .inl hn2
      · refine .inr (.inr (.inr ⟨by omega, e, f, fun j c d => ?_⟩))
        by_cases h3 : j < b
        · exact .inl (hi j c h3)
        · rcases hf with ⟨f1, f2, f3, rfl⟩ | ⟨f1, rfl⟩
          · have ej : j = b := by omega
            subst ej
            exact .inr ⟨⟨f2, f3⟩, rfl⟩
          · omega
    · rcases ho with ho | ⟨_, e', _⟩ | ⟨_, _, f', _⟩ | ⟨_, _, _, ho⟩
      · omega
      · exact e e'
      · exact f f'
      · rcases hf with ⟨f1, f2, f3, rfl⟩ | ⟨f1, rfl⟩
        · rcases ho b hb1 (by omega) with p | ⟨p, q⟩ <;> omega
        · have hbn := hin hn
          rcases ho n hb1 (by omega) with p | ⟨p, q⟩
          · omega
          · exact f1 ⟨hn, p⟩

/-- Cut to k bytes, the answer is the lesser of k and what it was. -/
theorem esc_cut {g g' : Nat → Int} {L n k m : Nat} (h : Esc g L n) (hk : k ≤ L) (hg : ∀ j, j < k → g j = g' j) (h' : Esc g' k m) : m = min k n := by
  obtain ⟨a1, _, a3, a4⟩ := esc_law h
  obtain ⟨b1, _, b3, b4⟩ := esc_law h'
  by_cases c1 : m < min k n
  · exact absurd (ok_congr (fun j hj => hg j (by omega)) (ok_cut a3 (show m + 1 ≤ n by omega))) (b4 (by omega))
  · by_cases c2 : min k n < m
    · exact absurd (ok_congr (fun j hj => (hg j (by omega)).symm) (ok_cut b3 (show n + 1 ≤ m by omega))) (a4 (by omega))
    · omega

/-- What lies behind the byte at which the sequence stopped is not read. -/
theorem esc_tail {g g' : Nat → Int} {L L' n m : Nat} (h : Esc g L n) (hn : n < L) (hL : n + 1 ≤ L') (hg : ∀ j, j < n + 1 → g j = g' j) (h' : Esc g' L' m) : m = n := by
  obtain ⟨a1, _, a3, a4⟩ := esc_law h
  obtain ⟨b1, _, b3, b4⟩ := esc_law h'
  by_cases c1 : m < n
  · exact absurd (ok_congr (fun j hj => hg j (by omega)) (ok_cut a3 (show m + 1 ≤ n by omega))) (b4 (by omega))
  · by_cases c2 : n < m
    · exact absurd (ok_congr (fun j hj => (hg j (by omega)).symm) (ok_cut b3 (show n + 1 ≤ m by omega))) (a4 hn)
    · omega
end Go.Proofs.Qxb6617185a
