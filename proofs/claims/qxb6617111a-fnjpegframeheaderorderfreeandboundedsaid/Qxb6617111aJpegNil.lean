/- The law over photo's JPEG frame header, walked where the slice is nil. -/
import Derived.Test.Qxb6617111aJpegTotals
namespace Go.Proofs.Qxb6617111a
open Go.RowKit
theorem seg_none (w : World) (a : Option Addr) (X Y : Nat → Int) : Seg w a 0 X Y := .inl rfl
/-- A call of photo.ZZFrameHeader over no pairs. -/
theorem frame_zero (c : Nat) (a : Option Addr) (wd ht : Int) (pr rgb : Bool) (ids : ByteArray) (w : World) (hwd : 0 ≤ wd) (hwd2 : wd ≤ 1048576) (hht : 0 ≤ ht) (hht2 : ht ≤ 1048576) :
    Calls Try.prog 12 #[.int .i64 wd, .int .i64 ht, .bool pr, .string ids, .slice a 0 c, .bool rgb] w fun e w' =>
      e = .returned (.tuple #[.int .i64 wd, .int .i64 ht, .int .i64 0, .int .i64 0, .slice none 0 0]) ∧ Below w.heap.size w w' :=
  frame_val 0 c a wd ht pr rgb ids (fun _ => 0) (fun _ => 0) w hwd hwd2 hht hht2 (by omega) (fun j hj => by omega) (fun j hj => by omega) (.inl rfl) 0 (by cases pr <;> simp [tot, smp, sm])

theorem run_make_zero (w : World) : (Instr.makeSlice 30 (.int .i64 0) (.int .i64 0)).run Try.prog w =
      .ok (.slice (some ⟨w.heap.size, 0, none⟩) 0 0) (w.alloc (.cells (madeCells #[.int .i64 0, .int .i64 0] (0 * 2)) 32)) := run_make32 0 (by omega) w

set_option maxRecDepth 20000 in
set_option maxHeartbeats 4000000 in
theorem law_nil (wd ht : Int) (pr rgb : Bool) (ids : ByteArray) (w : World) (h : ids.size ≤ 1048576)
    (hwd : 0 ≤ wd) (hwd2 : wd ≤ 1048576) (hht : 0 ≤ ht) (hht2 : ht ≤ 1048576) :
    Calls Try.prog 7 #[.int .i64 wd, .int .i64 ht, .bool pr, .string ids, .slice none 0 0, .bool rgb] w fun e w' => e = .returned (.bool true) ∧ Below w.heap.size w w' := by
  have h1 : (ids.size : Int) ≤ 1048576 := by omega
  have hmk := run_make_zero
  have hnn := fun w => run_neq_slice_nil_any (P := Try.prog) w 30 32 none 0 0 0 0 Try.underlying30
  obtain ⟨p0, p1⟩ := pix_bd wd ht hwd hwd2 hht hht2
  go_enter Try.func7, Try.ntmps7
  go_wp2_with (go_at_call 11; refine (zzb_true 0 0 none wd ht pr rgb ids _ (by omega)).mono ?_; rintro e w' ⟨rfl, hw⟩; obtain rfl := hw.symm)
  go_loop [14] (fun i => i = .int .i64 0) (fun _ => 0)
  case atStart => rfl
  case round =>
    obtain rfl := hrel
    go_wp2_with fail
    go_at_call 12
    refine (frame_zero 0 none wd ht pr rgb ids _ hwd hwd2 hht hht2).mono ?_
    rintro e w3 ⟨rfl, hB3⟩
    go_wp2
    go_loop [21] (fun i => i = .int .i64 0) (fun _ => 0)
    case atStart => rfl
    case round =>
      obtain rfl := hrel
      go_wp2_with fail
      go_at_call 12
      refine (frame_zero 0 _ wd ht pr rgb _ _ hwd hwd2 hht hht2).mono ?_
      rintro e w4 ⟨rfl, hB4⟩
      have hBW : Below w.heap.size w w4 := hB3.trans (((Below.refl _ _).alloc hB3.size _).trans (hB4.mono (by have := hB3.size; simp; omega)))
      clear hB3 hB4 hmk hnn
      go_wp2_with fail
      go_at_call 12
      refine (frame_zero 0 _ wd ht false false _ _ hwd hwd2 hht hht2).mono ?_
      rintro e w5 ⟨rfl, hB5⟩
      go_wp2_with fail
      go_at_call 12
      refine (frame_zero 0 _ wd ht true false _ _ hwd hwd2 hht hht2).mono ?_
      rintro e w6 ⟨rfl, hB6⟩
      go_wp2_with fail
      go_at_call 12
      refine (frame_zero 0 _ wd ht pr true _ _ hwd hwd2 hht hht2).mono ?_
      rintro e w7 ⟨rfl, hB7⟩
      go_wp2_with fail
      go_at_call 12
      refine (frame_zero 0 _ wd ht pr false _ _ hwd hwd2 hht hht2).mono ?_
      rintro e w8 ⟨rfl, hB8⟩
      have hBW8 : Below w.heap.size w w8 := (((hBW.trans (hB5.mono hBW.size)).trans (hB6.mono (by have := hBW.size; have := hB5.size; omega))).trans (hB7.mono (by have := hBW.size; have := hB5.size; have := hB6.size; omega))).trans (hB8.mono (by have := hBW.size; have := hB5.size; have := hB6.size; have := hB7.size; omega))
      clear hBW hB5 hB6 hB7 hB8
      go_wp2
      go_loop [50, 51, 52] (fun hm vm i => i = .int .i64 0 ∧ hm = .int .i64 1 ∧ vm = .int .i64 1) (fun _ _ _ => 0)
      case atStart => exact ⟨rfl, rfl, rfl⟩
      case round =>
        obtain ⟨rfl, rfl, rfl⟩ := hrel
        go_wp2
        go_loop [54, 55, 56] (fun lo hi i => i = .int .i64 0 ∧ lo = .int .i64 0 ∧ hi = .int .i64 0) (fun _ _ _ => 0)
        case atStart => exact ⟨rfl, rfl, rfl⟩
        case round =>
          obtain ⟨rfl, rfl, rfl⟩ := hrel
          go_wp2
          go_ret
          exact ⟨rfl, hBW8⟩
end Go.Proofs.Qxb6617111a
