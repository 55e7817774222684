import Derived.Test.Qxb6617111aJpegHeader
namespace Go.Proofs.Qxb6617111a
open Go.RowKit
set_option maxHeartbeats 1000000 in
theorem header_none (pb c : Nat) (a : Option Addr) (wd ht : Int) (pr rgb : Bool) (w : World) (hwd : 0 ≤ wd) (hwd2 : wd ≤ 1048576) (hht : 0 ≤ ht) (hht2 : ht ≤ 1048576) (hpb : pb < w.heap.size)
    (c0 : w.cell? ⟨pb, 0, none⟩ = some (.int .i64 wd)) (c1 : w.cell? ⟨pb, 1, none⟩ = some (.int .i64 ht)) (c2 : w.cell? ⟨pb, 2, none⟩ = some (.bool pr)) (c4 : w.cell? ⟨pb, 4, none⟩ = some (.slice a 0 c)) :
    Calls Try.prog 15 #[.pointer (some ⟨pb, 0, none⟩), .bool rgb] w fun e w' => ∃ g, e = .returned (.pointer (some ⟨g, 0, none⟩)) ∧ Below w.heap.size w w' ∧ w.heap.size ≤ g ∧ g < w'.heap.size ∧
      w'.cell? ⟨g, 0, none⟩ = some (.int .i64 wd) ∧ w'.cell? ⟨g, 1, none⟩ = some (.int .i64 ht) ∧ w'.cell? ⟨g, 2, none⟩ = some (.int .i64 0) ∧
      w'.cell? ⟨g, 3, none⟩ = some (.int .i64 0) ∧ w'.cell? ⟨g, 4, none⟩ = some (.slice none 0 0) := by
  go_enter Try.func15, Try.ntmps15
  go_wp2_with fail
  go_at_call 17
  refine (units_none pb c a wd ht _ hwd hwd2 hht hht2 c0 c1 c4).mono ?_
  rintro e w1 ⟨rfl, hb1⟩
  have d0 : w1.cell? ⟨pb, 0, none⟩ = some (.int .i64 wd) := by rw [hb1.cell (p := ⟨pb, 0, none⟩) hpb]; exact c0
  have d1 : w1.cell? ⟨pb, 1, none⟩ = some (.int .i64 ht) := by rw [hb1.cell (p := ⟨pb, 1, none⟩) hpb]; exact c1
  have d2 : w1.cell? ⟨pb, 2, none⟩ = some (.bool pr) := by rw [hb1.cell (p := ⟨pb, 2, none⟩) hpb]; exact c2
  have d4 : w1.cell? ⟨pb, 4, none⟩ = some (.slice a 0 c) := by rw [hb1.cell (p := ⟨pb, 4, none⟩) hpb]; exact c4
  clear c0 c1 c2 c4
  go_wp2
  go_loop [6, 17] (fun t i => i = .int .i64 0 ∧ t = .int .i64 0) (fun _ _ => 0)
  case atStart => exact ⟨rfl, rfl⟩
  case round =>
    obtain ⟨rfl, rfl⟩ := hrel
    cases pr
    all_goals
      go_wp2
      go_region
      go_wp2
      go_ret
      exact header_end (wx := w1.drew) (T := 0) wd ht hb1 rfl (Below.refl _ _).drew rfl

/-- photo's header, over a frame whose pairs lie in a row, or that has none. -/
theorem header_any (pb n c : Nat) (a : Option Addr) (wd ht : Int) (pr rgb : Bool) (X Y : Nat → Int) (w : World) (hwd : 0 ≤ wd) (hwd2 : wd ≤ 1048576) (hht : 0 ≤ ht) (hht2 : ht ≤ 1048576)
    (hn : n ≤ 4096) (hX : ∀ j, j < n → 0 ≤ X j ∧ X j ≤ 255) (hY : ∀ j, j < n → 0 ≤ Y j ∧ Y j ≤ 255) (hs : Seg w a n X Y) (hpb : pb < w.heap.size)
    (c0 : w.cell? ⟨pb, 0, none⟩ = some (.int .i64 wd)) (c1 : w.cell? ⟨pb, 1, none⟩ = some (.int .i64 ht)) (c2 : w.cell? ⟨pb, 2, none⟩ = some (.bool pr)) (c4 : w.cell? ⟨pb, 4, none⟩ = some (.slice a n c))
    (conv : Bool) (hconv : conv = (decide (n = 4) || (decide (n = 3) && rgb))) :
    Calls Try.prog 15 #[.pointer (some ⟨pb, 0, none⟩), .bool rgb] w fun e w' => ∃ g, e = .returned (.pointer (some ⟨g, 0, none⟩)) ∧ Below w.heap.size w w' ∧ w.heap.size ≤ g ∧ g < w'.heap.size ∧
      w'.cell? ⟨g, 0, none⟩ = some (.int .i64 wd) ∧ w'.cell? ⟨g, 1, none⟩ = some (.int .i64 ht) ∧ w'.cell? ⟨g, 2, none⟩ = some (.int .i64 (tot pr conv wd ht (smp wd ht X Y n n))) ∧
      w'.cell? ⟨g, 3, none⟩ = some (.int .i64 0) ∧ w'.cell? ⟨g, 4, none⟩ = some (.slice none 0 0) := by
  rcases hs with rfl | ⟨b, off, rfl, hb, hx, hy⟩
  · have e : tot pr conv wd ht (smp wd ht X Y 0 0) = 0 := by
      subst hconv
      cases pr <;> simp [tot, smp, sm]
    rw [e]
    exact header_none pb c a wd ht pr rgb w hwd hwd2 hht hht2 hpb c0 c1 c2 c4
  · exact header_some pb b off n c wd ht pr rgb X Y w hwd hwd2 hht hht2 hn hX hY hb hpb c0 c1 c2 c4 hx hy conv hconv

set_option maxHeartbeats 1000000 in
theorem frame_any (n c : Nat) (a : Option Addr) (wd ht : Int) (pr rgb : Bool) (ids : ByteArray) (X Y : Nat → Int) (w : World) (hwd : 0 ≤ wd) (hwd2 : wd ≤ 1048576) (hht : 0 ≤ ht) (hht2 : ht ≤ 1048576)
    (hn : n ≤ 4096) (hX : ∀ j, j < n → 0 ≤ X j ∧ X j ≤ 255) (hY : ∀ j, j < n → 0 ≤ Y j ∧ Y j ≤ 255) (hs : Seg w a n X Y)
    (conv : Bool) (hconv : conv = (decide (n = 4) || (decide (n = 3) && rgb))) :
    Calls Try.prog 12 #[.int .i64 wd, .int .i64 ht, .bool pr, .string ids, .slice a n c, .bool rgb] w fun e w' =>
      e = .returned (.tuple #[.int .i64 wd, .int .i64 ht, .int .i64 (tot pr conv wd ht (smp wd ht X Y n n)), .int .i64 0, .slice none 0 0]) ∧ Below w.heap.size w w' := by
  go_enter Try.func12, Try.ntmps12
  go_wp2_with fail
  go_at_call 15
  have hbA : Below w.heap.size w (w.alloc (.cells #[.int .i64 wd, .int .i64 ht, .bool pr, .string ids, .slice a n c] 40)) := (Below.refl _ _).alloc (Nat.le_refl _) _
  refine (header_any w.heap.size n c a wd ht pr rgb X Y _ hwd hwd2 hht hht2 hn hX hY (hs.later hbA) (by simp) (by simp [go_sem]) (by simp [go_sem]) (by simp [go_sem]) (by simp [go_sem]) conv hconv).mono ?_
  rintro e w1 ⟨g, rfl, hb1, hg, hg1, k0, k1, k2, k3, k4⟩
  clear hconv
  generalize hT : tot pr conv wd ht (smp wd ht X Y n n) = T at k2 ⊢
  have HT : Hid (tot pr conv wd ht (smp wd ht X Y n n) = T) := hT
  clear hT
  go_wp2
  go_quiet (fail)
  go_wp2
  exact bodyPost_ret (v := .tuple #[.int .i64 wd, .int .i64 ht, .int .i64 T, .int .i64 0, .slice none 0 0]) (by simp [results, Try.results12, go_sem]) rfl ⟨by rw [HT.out], below_drewN (hbA.trans (hb1.mono hbA.size)) _⟩
end Go.Proofs.Qxb6617111a
