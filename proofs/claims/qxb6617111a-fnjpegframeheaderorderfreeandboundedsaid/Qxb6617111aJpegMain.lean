/- The law over photo's JPEG frame header, walked where the slice is not nil. -/
import Derived.Test.Qxb6617111aJpegTotals
namespace Go.Proofs.Qxb6617111a
open Go.RowKit

theorem ret_true {p : Prop} [Decidable p] (h : p) : Ending.returned (.bool (decide p)) = .returned (.bool true) := by simp [h]

set_option maxRecDepth 20000 in
set_option maxHeartbeats 4000000 in
theorem law_main (n c : Nat) (ad : Addr) (wd ht : Int) (pr rgb : Bool) (ids : ByteArray) (Z : Nat → Int) (w : World) (h : ids.size + n ≤ 1048576) (hn : n ≤ 4096)
    (hwd : 0 ≤ wd) (hwd2 : wd ≤ 1048576) (hht : 0 ≤ ht) (hht2 : ht ≤ 1048576) (hsrc : ∀ i, i < n * 2 → w.cell? (ad.add i) = some (.int .i64 (Z i))) (had : 0 < n → ad.block < w.heap.size) :
    Calls Try.prog 7 #[.int .i64 wd, .int .i64 ht, .bool pr, .string ids, .slice (some ad) n c, .bool rgb] w fun e w' => e = .returned (.bool true) ∧ Below w.heap.size w w' := by
  have h1 : (ids.size : Int) ≤ 1048576 := by omega
  have h2 : (n : Int) ≤ 4096 := by omega
  have hmk := run_make32 n hn
  have hnn := fun w => run_neq_slice_nil_any (P := Try.prog) w 30 32 (some ad) n c 0 0 Try.underlying30
  have HS : Hid (∀ i, i < n * 2 → w.cell? (ad.add i) = some (.int .i64 (Z i))) := hsrc
  clear hsrc
  go_enter Try.func7, Try.ntmps7
  go_wp2_with (first | (go_at_call 11; refine (zzb_true n c (some ad) wd ht pr rgb ids _ h).mono ?_; rintro e w' ⟨rfl, hw⟩; obtain rfl := hw.symm) | ((refine wpList_copy32 rfl _ _ rfl w.heap.size n c ad rfl rfl (madeCells #[.int .i64 0, .int .i64 0] (n * 2)) 32 (flat Z n) ?_ (flat_len Z n) (size_madeCells _ _) ?_ (flat_one Z n) ?_)))
  · exact alloc_heap _ _
  · exact src_alloc _ had HS.out
  intro w2 hB2 hg2 hc2
  have hz : Held w w2 n Z := ⟨fun i hi => hc2 i _ (flat_at Z n i hi), hg2, ((Below.refl _ _).alloc (Nat.le_refl _) _).trans hB2⟩
  clear hc2 hB2 hg2 HS had hnn
  go_wp2
  go_loop [14] (fun i => ∃ k : Nat, k ≤ n ∧ i = .int .i64 k ∧ ∀ j, j < k → (0 ≤ Z (j * 2) ∧ Z (j * 2) ≤ 255) ∧ (0 ≤ Z (j * 2 + 1) ∧ Z (j * 2 + 1) ≤ 255)) (fun i => n - (intOf i).toNat)
  case atStart => exact ⟨0, Nat.zero_le _, rfl, fun j hj => by omega⟩
  case round =>
    obtain ⟨k, hk, rfl, hr⟩ := hrel
    by_cases hlt : k < n
    · have g0 := hz.1 (k * 2) (by omega)
      have g1 := hz.1 (k * 2 + 1) (by omega)
      by_cases t0 : 0 ≤ Z (k * 2) ∧ Z (k * 2) ≤ 255 ∧ 0 ≤ Z (k * 2 + 1) ∧ Z (k * 2 + 1) ≤ 255
      · obtain ⟨t1, t2, t3, t4⟩ := t0
        go_wp2
        go_round
        case rel => exact ⟨k + 1, by omega, by go_num, fun j hj => by
          by_cases e : j = k
          · subst e; exact ⟨⟨t1, t2⟩, ⟨t3, t4⟩⟩
          · exact hr j (by omega)⟩
        case measure => simp [intOf]; omega
      · have HN : Hid (¬ (0 ≤ Z (k * 2) ∧ Z (k * 2) ≤ 255 ∧ 0 ≤ Z (k * 2 + 1) ∧ Z (k * 2 + 1) ≤ 255)) := t0
        clear t0
        go_wp2
        all_goals first | (go_ret; exact ⟨rfl, hz.2.2⟩) | (exfalso; have := HN.out; omega)
    · have e : k = n := by omega
      subst e
      have hX : ∀ j, j < k → 0 ≤ Z (j * 2) ∧ Z (j * 2) ≤ 255 := fun j hj => (hr j hj).1
      have hY : ∀ j, j < k → 0 ≤ Z (j * 2 + 1) ∧ Z (j * 2 + 1) ≤ 255 := fun j hj => (hr j hj).2
      obtain ⟨bS0, bS1⟩ := smp_bd wd ht (fun j => Z (j * 2)) (fun j => Z (j * 2 + 1)) k k hk hn hwd hwd2 hht hht2 hX hY
      obtain ⟨S, HSm⟩ : ∃ S, Hid (smp wd ht (fun j => Z (j * 2)) (fun j => Z (j * 2 + 1)) k k = S) := ⟨_, rfl⟩
      rw [HSm.out] at bS0 bS1
      obtain ⟨T0, HT0⟩ : ∃ T, Hid (tot pr (decide (k = 4) || (decide (k = 3) && rgb)) wd ht S = T) := ⟨_, rfl⟩
      clear hr
      go_wp2_with fail
      go_at_call 12
      refine (frame_held hz wd ht pr rgb ids hwd hwd2 hht hht2 hn hX hY T0 (by rw [HSm.out]; exact HT0.out)).mono ?_
      rintro e w3 ⟨rfl, hz3, _⟩
      clear hz
      go_wp2
      go_loopw [21] (fun i wr => ∃ q : Nat, q ≤ k ∧ i = .int .i64 q ∧ Below w3.heap.size w3 wr ∧ w3.heap.size < wr.heap.size ∧ RevRow wr w3.heap.size k q Z) (fun i _ => k - (intOf i).toNat)
      case atStart => exact ⟨0, Nat.zero_le _, rfl, (Below.refl _ _).alloc (Nat.le_refl _) _, by simp, RevRow.start _ _ _ _ _⟩
      case round =>
        obtain ⟨q, hq, rfl, hBr, hgr, hrow⟩ := hrel
        have hzr := hz3.next hBr
        by_cases hlt : q < k
        · have g0 := hzr.1 (q * 2) (by omega)
          have g1 := hzr.1 (q * 2 + 1) (by omega)
          obtain ⟨v0, q0⟩ := hrow.1 ((k - 1 - q) * 2) (by omega)
          obtain ⟨v1, q1⟩ := hrow.1 ((k - 1 - q) * 2 + 1) (by omega)
          have f0 := hrow.2.1 ((k - 1 - q) * 2) (by omega)
          have f1 := hrow.2.1 ((k - 1 - q) * 2 + 1) (by omega)
          have em : ((k : Int) - 1 - (q : Int)).toNat = k - 1 - q := by omega
          have hlt1 : (k : Int) - 1 - q < k := by omega
          have hlt2 : 0 ≤ (k : Int) - 1 - q := by omega
          go_wp2
          go_roundw
          case rel => exact ⟨q + 1, by omega, by go_num, (hBr.setCell (Nat.le_refl _) _).setCell (Nat.le_refl _) _, by simpa using hgr, hrow.step hlt⟩
          case measure => simp [intOf]; omega
        · have e : q = k := by omega
          subst e
          have sgr := hrow.seg hgr
          clear hrow
          go_wp2_with fail
          go_at_call 12
          refine (frame_val q q (some ⟨w3.heap.size, 0, none⟩) wd ht pr rgb _ (fun j => Z ((q - 1 - j) * 2)) (fun j => Z ((q - 1 - j) * 2 + 1)) _ hwd hwd2 hht hht2 hn (fun j hj => hX _ (by omega)) (fun j hj => hY _ (by omega)) sgr T0
            (by rw [smp_rev wd ht (fun j => Z (j * 2)) (fun j => Z (j * 2 + 1)) q, HSm.out]; exact HT0.out)).mono ?_
          rintro e w4 ⟨rfl, hB4⟩
          have hz4 := hzr.next hB4
          obtain ⟨p0, p1⟩ := pix_bd wd ht hwd hwd2 hht hht2
          clear hzr hz3 hBr hgr hB4 sgr hmk HT0
          rcases (show q = 4 ∨ q = 3 ∨ (q ≠ 4 ∧ q ≠ 3) by omega) with c4 | c3 | ⟨c4, c3⟩
          · obtain ⟨TB, TP, TR, TD, HB, HP, HR, HD, ⟨b1, b2⟩, ⟨b3, b4⟩, ⟨b5, b6⟩, b7, b8⟩ := totals4 q pr wd ht S c4 hwd hwd2 hht hht2 bS0 bS1
            have i4 : ((q : Int) == 4) = true := by simp; omega
            have i3 : ((q : Int) == 3) = false := by simp; omega
            clear c4
            go_wp2_with fail
            go_at_call 12
            refine (frame_held hz4 wd ht false false ids hwd hwd2 hht hht2 hn hX hY TB (by rw [HSm.out]; exact HB.out)).mono ?_
            rintro e w5 ⟨rfl, hz5, _⟩
            go_wp2_with fail
            go_at_call 12
            refine (frame_held hz5 wd ht true false ids hwd hwd2 hht hht2 hn hX hY TP (by rw [HSm.out]; exact HP.out)).mono ?_
            rintro e w6 ⟨rfl, hz6, _⟩
            go_wp2_with fail
            go_at_call 12
            refine (frame_held hz6 wd ht pr true ids hwd hwd2 hht hht2 hn hX hY TR (by rw [HSm.out]; exact HR.out)).mono ?_
            rintro e w7 ⟨rfl, hz7, _⟩
            go_wp2_with fail
            go_at_call 12
            refine (frame_held hz7 wd ht pr false ids hwd hwd2 hht hht2 hn hX hY TD (by rw [HSm.out]; exact HD.out)).mono ?_
            rintro e w8 ⟨rfl, hz8, _⟩
            clear hz4 hz5 hz6 hz7 HB HP HR HD
            go_wp2
            go_loop [50, 51, 52] (fun hm vm i => ∃ k : Nat, k ≤ q ∧ i = .int .i64 k ∧ hm = .int .i64 (mx (fun j => Z (j * 2)) k) ∧ vm = .int .i64 (mx (fun j => Z (j * 2 + 1)) k)) (fun _ _ i => q - (intOf i).toNat)
            case atStart => exact ⟨0, Nat.zero_le _, rfl, rfl, rfl⟩
            case round =>
              obtain ⟨k, hk, rfl, rfl, rfl⟩ := hrel
              by_cases hlt : k < q
              · have g0 := hz8.1 (k * 2) (by omega)
                have g1 := hz8.1 (k * 2 + 1) (by omega)
                have HX : Hid (mx (fun j => Z (j * 2)) (k + 1) = if mx (fun j => Z (j * 2)) k < Z (k * 2) then Z (k * 2) else mx (fun j => Z (j * 2)) k) := rfl
                have HY : Hid (mx (fun j => Z (j * 2 + 1)) (k + 1) = if mx (fun j => Z (j * 2 + 1)) k < Z (k * 2 + 1) then Z (k * 2 + 1) else mx (fun j => Z (j * 2 + 1)) k) := rfl
                clear hX hY
                by_cases tX : mx (fun j => Z (j * 2)) k < Z (k * 2) <;> by_cases tY : mx (fun j => Z (j * 2 + 1)) k < Z (k * 2 + 1)
                all_goals
                  go_wp2
                  go_round
                  case rel => exact ⟨k + 1, by omega, by go_num, by rw [HX.out]; first | rw [if_pos tX] | rw [if_neg (by omega)], by rw [HY.out]; first | rw [if_pos tY] | rw [if_neg (by omega)]⟩
                  case measure => simp [intOf]; omega
              · have e : k = q := by omega
                subst e
                obtain ⟨bX1, bX2⟩ := mx_bd (fun j => Z (j * 2)) k hX k hk
                obtain ⟨bY1, bY2⟩ := mx_bd (fun j => Z (j * 2 + 1)) k hY k hk
                obtain ⟨dn1, dn2⟩ := mul_bd (show 0 ≤ mx (fun j => Z (j * 2)) k by omega) bX2 (show 0 ≤ mx (fun j => Z (j * 2 + 1)) k by omega) bY2
                have LL := lohi_law wd ht (fun j => Z (j * 2)) (fun j => Z (j * 2 + 1)) k hwd hwd2 hht hht2 hX hY
                rw [HSm.out] at LL
                obtain ⟨l1, l2⟩ := LL
                go_wp2
                go_loopw [54, 55, 56] (fun lo hi i wr => ∃ m : Nat, m ≤ k ∧ i = .int .i64 m ∧ lo = .int .i64 (lov wd ht (fun j => Z (j * 2)) (fun j => Z (j * 2 + 1)) k m) ∧ hi = .int .i64 (hiv wd ht (fun j => Z (j * 2)) (fun j => Z (j * 2 + 1)) k m) ∧ Held w wr k Z) (fun _ _ i _ => k - (intOf i).toNat)
                case atStart => exact ⟨0, Nat.zero_le _, rfl, rfl, rfl, hz8⟩
                case round =>
                  obtain ⟨m, hm, rfl, rfl, rfl, hzr⟩ := hrel
                  obtain ⟨⟨lo1, lo2⟩, ⟨hi1, hi2⟩⟩ := lohi_bd wd ht (fun j => Z (j * 2)) (fun j => Z (j * 2 + 1)) k m hm hn hwd hwd2 hht hht2 hX hY
                  by_cases hlt : m < k
                  · have g0 := hzr.1 (m * 2) (by omega)
                    have g1 := hzr.1 (m * 2 + 1) (by omega)
                    obtain ⟨⟨r1, r2⟩, ⟨r3, r4⟩, ⟨r5, r6⟩, ⟨r7, r8⟩, ⟨r9, r10⟩, ⟨r11, r12⟩, ⟨r13, r14⟩, ⟨r15, r16⟩⟩ := round_bd wd ht (mx (fun j => Z (j * 2)) k) (mx (fun j => Z (j * 2 + 1)) k) (Z (m * 2)) (Z (m * 2 + 1)) hwd hwd2 hht hht2 bX1 bX2 bY1 bY2 (hX m hlt).1 (mx_ge (fun j => Z (j * 2)) m k hlt) (hY m hlt).1 (mx_ge (fun j => Z (j * 2 + 1)) m k hlt)
                    unfold loT at r13 r14
                    unfold hiT at r15 r16
                    have HL : Hid (lov wd ht (fun j => Z (j * 2)) (fun j => Z (j * 2 + 1)) k (m + 1) = lov wd ht (fun j => Z (j * 2)) (fun j => Z (j * 2 + 1)) k m + wd * ht * (Z (m * 2) * Z (m * 2 + 1)) / (mx (fun j => Z (j * 2)) k * mx (fun j => Z (j * 2 + 1)) k)) := rfl
                    have HH : Hid (hiv wd ht (fun j => Z (j * 2)) (fun j => Z (j * 2 + 1)) k (m + 1) = hiv wd ht (fun j => Z (j * 2)) (fun j => Z (j * 2 + 1)) k m + (wd + 8 * mx (fun j => Z (j * 2)) k) * (ht + 8 * mx (fun j => Z (j * 2 + 1)) k) * (Z (m * 2) * Z (m * 2 + 1)) / (mx (fun j => Z (j * 2)) k * mx (fun j => Z (j * 2 + 1)) k)) := rfl
                    clear hX hY l1 l2 b1 b2 b3 b4 b5 b6 b7 b8 p0 p1
                    go_wp2
                    go_quiet (fail)
                    go_wp2
                    go_roundw
                    case rel => exact ⟨m + 1, by omega, by go_num, by rw [HL.out], by rw [HH.out], hzr.next (below_drewN (Below.refl _ _) _)⟩
                    case measure => simp [intOf]; omega
                  · have e : m = k := by omega
                    subst e
                    clear hX hY
                    go_wp2
                    go_ret
                    exact ⟨ret_true (by omega), hzr.2.2⟩
          · obtain ⟨TB, TP, TR, TD, HB, HP, HR, HD, ⟨b1, b2⟩, ⟨b3, b4⟩, ⟨b5, b6⟩, b7, b8⟩ := totals3 q pr wd ht S c3 hwd hwd2 hht hht2 bS0 bS1
            have i4 : ((q : Int) == 4) = false := by simp; omega
            have i3 : ((q : Int) == 3) = true := by simp; omega
            clear c3
            go_wp2_with fail
            go_at_call 12
            refine (frame_held hz4 wd ht false false ids hwd hwd2 hht hht2 hn hX hY TB (by rw [HSm.out]; exact HB.out)).mono ?_
            rintro e w5 ⟨rfl, hz5, _⟩
            go_wp2_with fail
            go_at_call 12
            refine (frame_held hz5 wd ht true false ids hwd hwd2 hht hht2 hn hX hY TP (by rw [HSm.out]; exact HP.out)).mono ?_
            rintro e w6 ⟨rfl, hz6, _⟩
            go_wp2_with fail
            go_at_call 12
            refine (frame_held hz6 wd ht pr true ids hwd hwd2 hht hht2 hn hX hY TR (by rw [HSm.out]; exact HR.out)).mono ?_
            rintro e w7 ⟨rfl, hz7, _⟩
            go_wp2_with fail
            go_at_call 12
            refine (frame_held hz7 wd ht pr false ids hwd hwd2 hht hht2 hn hX hY TD (by rw [HSm.out]; exact HD.out)).mono ?_
            rintro e w8 ⟨rfl, hz8, _⟩
            clear hz4 hz5 hz6 hz7 HB HP HR HD
            go_wp2
            go_loop [50, 51, 52] (fun hm vm i => ∃ k : Nat, k ≤ q ∧ i = .int .i64 k ∧ hm = .int .i64 (mx (fun j => Z (j * 2)) k) ∧ vm = .int .i64 (mx (fun j => Z (j * 2 + 1)) k)) (fun _ _ i => q - (intOf i).toNat)
            case atStart => exact ⟨0, Nat.zero_le _, rfl, rfl, rfl⟩
            case round =>
              obtain ⟨k, hk, rfl, rfl, rfl⟩ := hrel
              by_cases hlt : k < q
              · have g0 := hz8.1 (k * 2) (by omega)
                have g1 := hz8.1 (k * 2 + 1) (by omega)
                have HX : Hid (mx (fun j => Z (j * 2)) (k + 1) = if mx (fun j => Z (j * 2)) k < Z (k * 2) then Z (k * 2) else mx (fun j => Z (j * 2)) k) := rfl
                have HY : Hid (mx (fun j => Z (j * 2 + 1)) (k + 1) = if mx (fun j => Z (j * 2 + 1)) k < Z (k * 2 + 1) then Z (k * 2 + 1) else mx (fun j => Z (j * 2 + 1)) k) := rfl
                clear hX hY
                by_cases tX : mx (fun j => Z (j * 2)) k < Z (k * 2) <;> by_cases tY : mx (fun j => Z (j * 2 + 1)) k < Z (k * 2 + 1)
                all_goals
                  go_wp2
                  go_round
                  case rel => exact ⟨k + 1, by omega, by go_num, by rw [HX.out]; first | rw [if_pos tX] | rw [if_neg (by omega)], by rw [HY.out]; first | rw [if_pos tY] | rw [if_neg (by omega)]⟩
                  case measure => simp [intOf]; omega
              · have e : k = q := by omega
                subst e
                obtain ⟨bX1, bX2⟩ := mx_bd (fun j => Z (j * 2)) k hX k hk
                obtain ⟨bY1, bY2⟩ := mx_bd (fun j => Z (j * 2 + 1)) k hY k hk
                obtain ⟨dn1, dn2⟩ := mul_bd (show 0 ≤ mx (fun j => Z (j * 2)) k by omega) bX2 (show 0 ≤ mx (fun j => Z (j * 2 + 1)) k by omega) bY2
                have LL := lohi_law wd ht (fun j => Z (j * 2)) (fun j => Z (j * 2 + 1)) k hwd hwd2 hht hht2 hX hY
                rw [HSm.out] at LL
                obtain ⟨l1, l2⟩ := LL
                go_wp2
                go_loopw [54, 55, 56] (fun lo hi i wr => ∃ m : Nat, m ≤ k ∧ i = .int .i64 m ∧ lo = .int .i64 (lov wd ht (fun j => Z (j * 2)) (fun j => Z (j * 2 + 1)) k m) ∧ hi = .int .i64 (hiv wd ht (fun j => Z (j * 2)) (fun j => Z (j * 2 + 1)) k m) ∧ Held w wr k Z) (fun _ _ i _ => k - (intOf i).toNat)
                case atStart => exact ⟨0, Nat.zero_le _, rfl, rfl, rfl, hz8⟩
                case round =>
                  obtain ⟨m, hm, rfl, rfl, rfl, hzr⟩ := hrel
                  obtain ⟨⟨lo1, lo2⟩, ⟨hi1, hi2⟩⟩ := lohi_bd wd ht (fun j => Z (j * 2)) (fun j => Z (j * 2 + 1)) k m hm hn hwd hwd2 hht hht2 hX hY
                  by_cases hlt : m < k
                  · have g0 := hzr.1 (m * 2) (by omega)
                    have g1 := hzr.1 (m * 2 + 1) (by omega)
                    obtain ⟨⟨r1, r2⟩, ⟨r3, r4⟩, ⟨r5, r6⟩, ⟨r7, r8⟩, ⟨r9, r10⟩, ⟨r11, r12⟩, ⟨r13, r14⟩, ⟨r15, r16⟩⟩ := round_bd wd ht (mx (fun j => Z (j * 2)) k) (mx (fun j => Z (j * 2 + 1)) k) (Z (m * 2)) (Z (m * 2 + 1)) hwd hwd2 hht hht2 bX1 bX2 bY1 bY2 (hX m hlt).1 (mx_ge (fun j => Z (j * 2)) m k hlt) (hY m hlt).1 (mx_ge (fun j => Z (j * 2 + 1)) m k hlt)
                    unfold loT at r13 r14
                    unfold hiT at r15 r16
                    have HL : Hid (lov wd ht (fun j => Z (j * 2)) (fun j => Z (j * 2 + 1)) k (m + 1) = lov wd ht (fun j => Z (j * 2)) (fun j => Z (j * 2 + 1)) k m + wd * ht * (Z (m * 2) * Z (m * 2 + 1)) / (mx (fun j => Z (j * 2)) k * mx (fun j => Z (j * 2 + 1)) k)) := rfl
                    have HH : Hid (hiv wd ht (fun j => Z (j * 2)) (fun j => Z (j * 2 + 1)) k (m + 1) = hiv wd ht (fun j => Z (j * 2)) (fun j => Z (j * 2 + 1)) k m + (wd + 8 * mx (fun j => Z (j * 2)) k) * (ht + 8 * mx (fun j => Z (j * 2 + 1)) k) * (Z (m * 2) * Z (m * 2 + 1)) / (mx (fun j => Z (j * 2)) k * mx (fun j => Z (j * 2 + 1)) k)) := rfl
                    clear hX hY l1 l2 b1 b2 b3 b4 b5 b6 b7 b8 p0 p1
                    go_wp2
                    go_quiet (fail)
                    go_wp2
                    go_roundw
                    case rel => exact ⟨m + 1, by omega, by go_num, by rw [HL.out], by rw [HH.out], hzr.next (below_drewN (Below.refl _ _) _)⟩
                    case measure => simp [intOf]; omega
                  · have e : m = k := by omega
                    subst e
                    clear hX hY
                    go_wp2
                    go_ret
                    exact ⟨ret_true (by omega), hzr.2.2⟩
          · obtain ⟨TB, TP, TR, TD, HB, HP, HR, HD, ⟨b1, b2⟩, ⟨b3, b4⟩, ⟨b5, b6⟩, b7, b8⟩ := totals0 q pr wd ht S c4 c3 hwd hwd2 hht hht2 bS0 bS1
            have i4 : ((q : Int) == 4) = false := by simp; omega
            have i3 : ((q : Int) == 3) = false := by simp; omega
            clear c4 c3
            go_wp2_with fail
            go_at_call 12
            refine (frame_held hz4 wd ht false false ids hwd hwd2 hht hht2 hn hX hY TB (by rw [HSm.out]; exact HB.out)).mono ?_
            rintro e w5 ⟨rfl, hz5, _⟩
            go_wp2_with fail
            go_at_call 12
            refine (frame_held hz5 wd ht true false ids hwd hwd2 hht hht2 hn hX hY TP (by rw [HSm.out]; exact HP.out)).mono ?_
            rintro e w6 ⟨rfl, hz6, _⟩
            go_wp2_with fail
            go_at_call 12
            refine (frame_held hz6 wd ht pr true ids hwd hwd2 hht hht2 hn hX hY TR (by rw [HSm.out]; exact HR.out)).mono ?_
            rintro e w7 ⟨rfl, hz7, _⟩
            go_wp2_with fail
            go_at_call 12
            refine (frame_held hz7 wd ht pr false ids hwd hwd2 hht hht2 hn hX hY TD (by rw [HSm.out]; exact HD.out)).mono ?_
            rintro e w8 ⟨rfl, hz8, _⟩
            clear hz4 hz5 hz6 hz7 HB HP HR HD
            go_wp2
            go_loop [50, 51, 52] (fun hm vm i => ∃ k : Nat, k ≤ q ∧ i = .int .i64 k ∧ hm = .int .i64 (mx (fun j => Z (j * 2)) k) ∧ vm = .int .i64 (mx (fun j => Z (j * 2 + 1)) k)) (fun _ _ i => q - (intOf i).toNat)
            case atStart => exact ⟨0, Nat.zero_le _, rfl, rfl, rfl⟩
            case round =>
              obtain ⟨k, hk, rfl, rfl, rfl⟩ := hrel
              by_cases hlt : k < q
              · have g0 := hz8.1 (k * 2) (by omega)
                have g1 := hz8.1 (k * 2 + 1) (by omega)
                have HX : Hid (mx (fun j => Z (j * 2)) (k + 1) = if mx (fun j => Z (j * 2)) k < Z (k * 2) then Z (k * 2) else mx (fun j => Z (j * 2)) k) := rfl
                have HY : Hid (mx (fun j => Z (j * 2 + 1)) (k + 1) = if mx (fun j => Z (j * 2 + 1)) k < Z (k * 2 + 1) then Z (k * 2 + 1) else mx (fun j => Z (j * 2 + 1)) k) := rfl
                clear hX hY
                by_cases tX : mx (fun j => Z (j * 2)) k < Z (k * 2) <;> by_cases tY : mx (fun j => Z (j * 2 + 1)) k < Z (k * 2 + 1)
                all_goals
                  go_wp2
                  go_round
                  case rel => exact ⟨k + 1, by omega, by go_num, by rw [HX.out]; first | rw [if_pos tX] | rw [if_neg (by omega)], by rw [HY.out]; first | rw [if_pos tY] | rw [if_neg (by omega)]⟩
                  case measure => simp [intOf]; omega
              · have e : k = q := by omega
                subst e
                obtain ⟨bX1, bX2⟩ := mx_bd (fun j => Z (j * 2)) k hX k hk
                obtain ⟨bY1, bY2⟩ := mx_bd (fun j => Z (j * 2 + 1)) k hY k hk
                obtain ⟨dn1, dn2⟩ := mul_bd (show 0 ≤ mx (fun j => Z (j * 2)) k by omega) bX2 (show 0 ≤ mx (fun j => Z (j * 2 + 1)) k by omega) bY2
                have LL := lohi_law wd ht (fun j => Z (j * 2)) (fun j => Z (j * 2 + 1)) k hwd hwd2 hht hht2 hX hY
                rw [HSm.out] at LL
                obtain ⟨l1, l2⟩ := LL
                go_wp2
                go_loopw [54, 55, 56] (fun lo hi i wr => ∃ m : Nat, m ≤ k ∧ i = .int .i64 m ∧ lo = .int .i64 (lov wd ht (fun j => Z (j * 2)) (fun j => Z (j * 2 + 1)) k m) ∧ hi = .int .i64 (hiv wd ht (fun j => Z (j * 2)) (fun j => Z (j * 2 + 1)) k m) ∧ Held w wr k Z) (fun _ _ i _ => k - (intOf i).toNat)
                case atStart => exact ⟨0, Nat.zero_le _, rfl, rfl, rfl, hz8⟩
                case round =>
                  obtain ⟨m, hm, rfl, rfl, rfl, hzr⟩ := hrel
                  obtain ⟨⟨lo1, lo2⟩, ⟨hi1, hi2⟩⟩ := lohi_bd wd ht (fun j => Z (j * 2)) (fun j => Z (j * 2 + 1)) k m hm hn hwd hwd2 hht hht2 hX hY
                  by_cases hlt : m < k
                  · have g0 := hzr.1 (m * 2) (by omega)
                    have g1 := hzr.1 (m * 2 + 1) (by omega)
                    obtain ⟨⟨r1, r2⟩, ⟨r3, r4⟩, ⟨r5, r6⟩, ⟨r7, r8⟩, ⟨r9, r10⟩, ⟨r11, r12⟩, ⟨r13, r14⟩, ⟨r15, r16⟩⟩ := round_bd wd ht (mx (fun j => Z (j * 2)) k) (mx (fun j => Z (j * 2 + 1)) k) (Z (m * 2)) (Z (m * 2 + 1)) hwd hwd2 hht hht2 bX1 bX2 bY1 bY2 (hX m hlt).1 (mx_ge (fun j => Z (j * 2)) m k hlt) (hY m hlt).1 (mx_ge (fun j => Z (j * 2 + 1)) m k hlt)
                    unfold loT at r13 r14
                    unfold hiT at r15 r16
                    have HL : Hid (lov wd ht (fun j => Z (j * 2)) (fun j => Z (j * 2 + 1)) k (m + 1) = lov wd ht (fun j => Z (j * 2)) (fun j => Z (j * 2 + 1)) k m + wd * ht * (Z (m * 2) * Z (m * 2 + 1)) / (mx (fun j => Z (j * 2)) k * mx (fun j => Z (j * 2 + 1)) k)) := rfl
                    have HH : Hid (hiv wd ht (fun j => Z (j * 2)) (fun j => Z (j * 2 + 1)) k (m + 1) = hiv wd ht (fun j => Z (j * 2)) (fun j => Z (j * 2 + 1)) k m + (wd + 8 * mx (fun j => Z (j * 2)) k) * (ht + 8 * mx (fun j => Z (j * 2 + 1)) k) * (Z (m * 2) * Z (m * 2 + 1)) / (mx (fun j => Z (j * 2)) k * mx (fun j => Z (j * 2 + 1)) k)) := rfl
                    clear hX hY l1 l2 b1 b2 b3 b4 b5 b6 b7 b8 p0 p1
                    go_wp2
                    go_quiet (fail)
                    go_wp2
                    go_roundw
                    case rel => exact ⟨m + 1, by omega, by go_num, by rw [HL.out], by rw [HH.out], hzr.next (below_drewN (Below.refl _ _) _)⟩
                    case measure => simp [intOf]; omega
                  · have e : m = k := by omega
                    subst e
                    clear hX hY
                    go_wp2
                    go_ret
                    exact ⟨ret_true (by omega), hzr.2.2⟩
end Go.Proofs.Qxb6617111a
