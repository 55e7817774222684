import Derived.Test.Qxb6617111aProg
import Derived.Test.Qxb6617111aJpegPlain
import Derived.WalkKit
import Derived.WalkSpells
import Derived.WalkLawsBesides
import Derived.RowKit3
import Derived.RegionTactic
import Derived.ChangeAlike
import Derived.Deep.QuietTactic
import Derived.BigQuiet
namespace Go.Proofs.Qxb6617111a
open Go.RowKit

theorem ret_num {k : IntKind} {a b : Int} (h : a = b) : Ending.returned (.int k a) = .returned (.int k b) := by rw [h]
theorem wrap_un (wd ht hm vm : Int) (h0 : 0 ≤ wd) (h1 : wd ≤ 1048576) (g0 : 0 ≤ ht) (g1 : ht ≤ 1048576) (m1 : 1 ≤ hm) (v1 : 1 ≤ vm) :
    wrap64 ((wd + 8 * hm - 1) / (8 * hm) * ((ht + 8 * vm - 1) / (8 * vm))) = un wd ht hm vm := by
  have := un_bd wd ht hm vm h0 h1 g0 g1 m1 v1
  have e : (wd + 8 * hm - 1) / (8 * hm) * ((ht + 8 * vm - 1) / (8 * vm)) = un wd ht hm vm := rfl
  rw [e]
  unfold wrap64
  omega

/-- What the walk is told of a slice of pairs: it is empty, or its pairs lie in a row. -/
def Seg (w : World) (a : Option Addr) (n : Nat) (X Y : Nat → Int) : Prop :=
  n = 0 ∨ ∃ b off, a = some ⟨b, off, none⟩ ∧ b < w.heap.size ∧ (∀ j, j < n → w.cell? ⟨b, off + j * 2, none⟩ = some (.int .i64 (X j))) ∧ (∀ j, j < n → w.cell? ⟨b, off + j * 2 + 1, none⟩ = some (.int .i64 (Y j)))

theorem Seg.later {w w' : World} {a : Option Addr} {n : Nat} {X Y : Nat → Int} (h : Seg w a n X Y) (hb : Below w.heap.size w w') : Seg w' a n X Y := by
  rcases h with h | ⟨b, off, ha, hlt, hx, hy⟩
  · exact .inl h
  · refine .inr ⟨b, off, ha, Nat.lt_of_lt_of_le hlt hb.size, fun j hj => ?_, fun j hj => ?_⟩
    · rw [hb.cell (p := ⟨b, off + j * 2, none⟩) hlt]; exact hx j hj
    · rw [hb.cell (p := ⟨b, off + j * 2 + 1, none⟩) hlt]; exact hy j hj

set_option maxHeartbeats 400000 in
theorem units_some (pb b off n c : Nat) (wd ht : Int) (X Y : Nat → Int) (w : World) (hwd : 0 ≤ wd) (hwd2 : wd ≤ 1048576) (hht : 0 ≤ ht) (hht2 : ht ≤ 1048576)
    (hn : n ≤ 4096) (hX : ∀ j, j < n → 0 ≤ X j ∧ X j ≤ 255) (hY : ∀ j, j < n → 0 ≤ Y j ∧ Y j ≤ 255)
    (hb : b < w.heap.size) (hpb : pb < w.heap.size)
    (c0 : w.cell? ⟨pb, 0, none⟩ = some (.int .i64 wd)) (c1 : w.cell? ⟨pb, 1, none⟩ = some (.int .i64 ht)) (c4 : w.cell? ⟨pb, 4, none⟩ = some (.slice (some ⟨b, off, none⟩) n c))
    (hx : ∀ j, j < n → w.cell? ⟨b, off + j * 2, none⟩ = some (.int .i64 (X j))) (hy : ∀ j, j < n → w.cell? ⟨b, off + j * 2 + 1, none⟩ = some (.int .i64 (Y j))) :
    Calls Try.prog 17 #[.pointer (some ⟨pb, 0, none⟩)] w fun e w' =>
      e = .returned (.int .i64 (un wd ht (mx X n) (mx Y n))) ∧ Below w.heap.size w w' := by
  go_enter Try.func17, Try.ntmps17
  go_wp2
  go_loopw [3, 4, 12] (fun hm vm i wr => ∃ k : Nat, k ≤ n ∧ i = .int .i64 k ∧ hm = .int .i64 (mx X k) ∧ vm = .int .i64 (mx Y k) ∧ Below w.heap.size w wr) (fun _ _ i _ => n - (intOf i).toNat)
  case atStart => exact ⟨0, Nat.zero_le _, rfl, rfl, rfl, Below.refl _ _⟩
  case round =>
    obtain ⟨k, hk, rfl, rfl, rfl, hbl⟩ := hrel
    by_cases hlt : k < n
    · have g0 : wr.cell? ⟨b, off + k * 2, none⟩ = some (.int .i64 (X k)) := by rw [hbl.cell (p := ⟨b, off + k * 2, none⟩) hb]; exact hx k hlt
      have g1 : wr.cell? ⟨b, off + k * 2 + 1, none⟩ = some (.int .i64 (Y k)) := by rw [hbl.cell (p := ⟨b, off + k * 2 + 1, none⟩) hb]; exact hy k hlt
      have bX := mx_bd X n hX k hk
      have bY := mx_bd Y n hY k hk
      obtain ⟨x0, x1⟩ := hX k hlt
      obtain ⟨y0, y1⟩ := hY k hlt
      have HX : Hid (mx X (k + 1) = if mx X k < X k then X k else mx X k) := rfl
      have HY : Hid (mx Y (k + 1) = if mx Y k < Y k then Y k else mx Y k) := rfl
      by_cases tX : mx X k < X k <;> by_cases tY : mx Y k < Y k
      all_goals
        go_wp2
        go_quiet (fail)
        go_wp2
        go_roundw
        case rel => exact ⟨k + 1, by omega, by go_num, by rw [HX.out]; first | rw [if_pos tX] | rw [if_neg (by omega)], by rw [HY.out]; first | rw [if_pos tY] | rw [if_neg (by omega)], below_drewN (hbl.alloc hbl.size _) _⟩
        case measure => simp [intOf]; omega
    · have e : k = n := by omega
      subst e
      have bX := mx_bd X k hX k hk
      have bY := mx_bd Y k hY k hk
      have d0 : wr.cell? ⟨pb, 0, none⟩ = some (.int .i64 wd) := by rw [hbl.cell (p := ⟨pb, 0, none⟩) hpb]; exact c0
      have d1 : wr.cell? ⟨pb, 1, none⟩ = some (.int .i64 ht) := by rw [hbl.cell (p := ⟨pb, 1, none⟩) hpb]; exact c1
      go_wp2
      go_quiet (fail)
      go_wp2
      go_ret
      exact ⟨ret_num (wrap_un wd ht _ _ hwd hwd2 hht hht2 bX.1 bY.1), below_drewN hbl _⟩

set_option maxHeartbeats 400000 in
theorem units_none (pb c : Nat) (a : Option Addr) (wd ht : Int) (w : World) (hwd : 0 ≤ wd) (hwd2 : wd ≤ 1048576) (hht : 0 ≤ ht) (hht2 : ht ≤ 1048576)
    (c0 : w.cell? ⟨pb, 0, none⟩ = some (.int .i64 wd)) (c1 : w.cell? ⟨pb, 1, none⟩ = some (.int .i64 ht)) (c4 : w.cell? ⟨pb, 4, none⟩ = some (.slice a 0 c)) :
    Calls Try.prog 17 #[.pointer (some ⟨pb, 0, none⟩)] w fun e w' =>
      e = .returned (.int .i64 (un wd ht 1 1)) ∧ Below w.heap.size w w' := by
  go_enter Try.func17, Try.ntmps17
  go_wp2
  go_loop [3, 4, 12] (fun hm vm i => i = .int .i64 0 ∧ hm = .int .i64 1 ∧ vm = .int .i64 1) (fun _ _ _ => 0)
  case atStart => exact ⟨rfl, rfl, rfl⟩
  case round =>
    obtain ⟨rfl, rfl, rfl⟩ := hrel
    go_wp2
    go_quiet (fail)
    go_wp2
    go_ret
    exact ⟨ret_num (wrap_un wd ht 1 1 hwd hwd2 hht hht2 (by omega) (by omega)), below_drewN (Below.refl _ _) _⟩
end Go.Proofs.Qxb6617111a
