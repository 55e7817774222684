/- The law FnBracketedCutJoinAndLength, walked where the slice is not nil. -/
import Derived.Test.Qxb6617187aBrHeld
import Derived.Deep.RegionHeld3
namespace Go.Proofs.Qxb6617187a
open Go.RowKit

set_option maxRecDepth 10000 in
set_option maxHeartbeats 2000000 in
theorem law_main (n c : Nat) (ad : Addr) (k : Int) (S : Nat → ByteArray) (w : World) (hnm : n ≤ maxLen) (hsm : ∀ j, j < n → (S j).size ≤ maxLen) (hseg : SegS w (some ad) n S 0)
    (hsrc : ∀ i, i < n → w.cell? (ad.add i) = some (.string (S i))) (had : 0 < n → ad.block < w.heap.size) (hn : n ≤ 65536) :
    Calls Try.prog 4 #[.slice (some ad) n c, .int .i64 k] w fun e w' => e = .returned (.bool true) ∧ Below w.heap.size w w' := by
  have h2 : (n : Int) ≤ 65536 := by omega
  have hmk := run_make9 n hn
  have hnn := fun w => run_neq_slice_nil_any (P := Try.prog) w 25 9 (some ad) n c 0 0 Try.underlying25
  have HS : Hid (∀ i, i < n → w.cell? (ad.add i) = some (.string (S i))) := hsrc
  have HM : Hid (∀ j, j < n → (S j).size ≤ maxLen) := hsm
  clear hsrc hsm
  go_enter Try.func4, Try.ntmps4
  go_wp2_with fail
  go_at_call 9
  refine (zzb_any (some ad) n c k S _ hnm HM.out hseg).mono ?_
  rintro e w' ⟨hb, hw⟩
  obtain rfl := hw.symm
  rcases hb with ⟨rfl, hsz⟩ | rfl
  · go_wp2_with (refine wpList_copy9 rfl _ _ rfl w.heap.size n c ad rfl rfl (madeCells #[.string ByteArray.empty] n) 9 (flat S n) ?_ (flat_len S n) (size_madeCells _ _) ?_ (flat_one S n) ?_)
    · exact alloc_heap _ _
    · exact src_alloc _ had HS.out
    intro w2 hB2 hg2 hc2
    have hz : Held w w2 n S := ⟨fun i hi => hc2 i _ (flat_at S n i hi), hg2, ((Below.refl _ _).alloc (Nat.le_refl _) _).trans hB2⟩
    clear hc2 hB2 hg2 HS had hnn hseg HM
    have HZ : Hid (∀ j, j < n → (S j).size ≤ 1048576) := hsz
    clear hsz
    go_wp2
    go_loop [6, 7] (fun t i => ∃ q : Nat, q ≤ n ∧ i = .int .i64 q ∧ t = .int .i64 (16 * (q : Int) + szs S 0 q) ∧ 16 * (q : Int) + szs S 0 q ≤ 1048576) (fun _ i => n - (intOf i).toNat)
    case atStart => exact ⟨0, Nat.zero_le _, rfl, rfl, by simp [szs]⟩
    case round =>
      obtain ⟨q, hq, rfl, rfl, hb⟩ := hrel
      by_cases hlt : q < n
      · have g0 := hz.1 q hlt
        have m0 : ((S q).size : Int) ≤ 1048576 := by have := HZ.out q hlt; omega
        have HSZ : Hid (szs S 0 (q + 1) = szs S 0 q + (S q).size) := by unfold Hid; simp only [szs, Nat.zero_add]
        by_cases c1 : 16 * (q : Int) + szs S 0 q + (16 + (S q).size) ≤ 1048576
        · go_wp2
          go_round
          case rel => exact ⟨q + 1, by omega, by go_num, by have := HSZ.out; go_num, by have := HSZ.out; omega⟩
          case measure => simp [intOf]; omega
        · have c1' : 1048576 < 16 * (q : Int) + szs S 0 q + (16 + (S q).size) := by omega
          go_wp2
          go_ret
          exact ⟨rfl, hz.2.2⟩
      · have e : q = n := by omega
        subst e
        by_cases k0 : k < 0
        · go_wp2
          go_ret
          exact ⟨rfl, hz.2.2⟩
        by_cases k1 : (q : Int) < k
        · go_wp2
          go_ret
          exact ⟨rfl, hz.2.2⟩
        obtain ⟨p, rfl⟩ := Int.eq_ofNat_of_zero_le (show 0 ≤ k by omega)
        have hpq : p ≤ q := by omega
        have hzq : szs S 0 q ≤ 1048576 := by omega
        by_cases hmid : 0 < p ∧ p < q
        · obtain ⟨hp0, hp1⟩ := hmid
          have ip0 : ((p : Int) == 0) = false := by simp; omega
          have ipq : ((p : Int) == (q : Int)) = false := by simp; omega
          have iq0 : ((q : Int) == 0) = false := by simp; omega
          obtain ⟨Lf, HL⟩ : ∃ V, Hid (brV S 0 p = V) := ⟨_, rfl⟩
          obtain ⟨Rt, HR⟩ : ∃ V, Hid (brV S (0 + p) (q - p) = V) := ⟨_, rfl⟩
          go_wp2_with fail
          go_at_call 10
          refine (br_held hz 0 q q (by omega) hn hzq HZ.out (Lf ++ (⟨#[44, 32]⟩ : ByteArray) ++ Rt) (by rw [brV_cut S 0 p q hp0 hp1, HL.out, HR.out])).mono ?_
          rintro e w3 ⟨rfl, hz3⟩
          go_wp2_with fail
          go_at_call 10
          refine (br_held hz3 0 p q (by omega) hn (by have := szs_mono S 0 p q hpq; omega) HZ.out Lf HL.out).mono ?_
          rintro e w4 ⟨rfl, hz4⟩
          go_wp2_with fail
          go_at_call 10
          refine (br_held hz4 p (q - p) (q - p) (by omega) hn (by have := szs_split S 0 p (q - p); rw [Nat.zero_add, show p + (q - p) = q by omega] at this; omega) HZ.out Rt (by have := HR.out; rwa [Nat.zero_add] at this)).mono ?_
          rintro e w5 ⟨rfl, hz5⟩
          have lfs := brV_size S 0 p hp0
          have rts := brV_size S (0 + p) (q - p) (by omega)
          have sps := szs_split S 0 p (q - p)
          rw [HL.out] at lfs
          rw [HR.out] at rts
          rw [show p + (q - p) = q by omega] at sps
          have V1 : ((Lf.size : Int) + 2 + Rt.size) ≤ szs S 0 q + 4 * q - 2 := by omega
          have V2 : szs S 0 q + 4 * q - 2 ≤ ((Lf.size : Int) + 2 + Rt.size) := by omega
          clear lfs rts sps HL HR hz hz3 hz4
          go_wp2
          go_loop [13, 14] (fun t i => ∃ m : Nat, m ≤ q ∧ i = .int .i64 m ∧ t = .int .i64 (szs S 0 m)) (fun _ i => q - (intOf i).toNat)
          case atStart => exact ⟨0, Nat.zero_le _, rfl, rfl⟩
          case round =>
            obtain ⟨m, hm, rfl, rfl⟩ := hrel
            have bz := szs_mono S 0 m q hm
            by_cases hlt : m < q
            · have g0 := hz5.1 m hlt
              have m0 : ((S m).size : Int) ≤ 1048576 := by have := HZ.out m hlt; omega
              have HSZ : Hid (szs S 0 (m + 1) = szs S 0 m + (S m).size) := by unfold Hid; simp only [szs, Nat.zero_add]
              go_wp2
              go_round
              case rel => exact ⟨m + 1, by omega, by go_num, by rw [HSZ.out]; go_num⟩
              case measure => simp [intOf]; omega
            · have e : m = q := by omega
              subst e
              have hq1 : 1 ≤ m := by omega
              have hq1' : (1 : Int) ≤ m := by omega
              have hq0 : (0 : Int) < m := by omega
              have hq0n : 0 < m := by omega
              have sz0 : (S 0).size ≤ 1048576 := HZ.out 0 (by omega)
              have g0 := hz5.1 0 (by omega)
              have z1 : szs S 0 1 ≤ 1048576 := by have := szs_mono S 0 1 m hq1; omega
              have HV1 : Hid (brV S 0 1 = (⟨#[60]⟩ : ByteArray) ++ S 0 ++ (⟨#[62]⟩ : ByteArray)) := brV_one S 0
              go_wp2
              clear V1 V2 bz
              have ra := fun wx : World => run_string_add_sum (P := Try.prog) wx (⟨#[60]⟩ : ByteArray) (S 0) (by show 1 + _ ≤ _; omega)
              have rb := fun wx : World => run_string_add_sum (P := Try.prog) wx ((⟨#[60]⟩ : ByteArray) ++ S 0) (⟨#[62]⟩ : ByteArray) (by rw [ByteArray.size_append]; show 1 + _ + 1 ≤ _; omega)
              go_region_held3 (fun w' => w'.cell? ⟨w.heap.size, 0, none⟩ = some (.string (S 0)) ∧ Held w w' m S) (first | exact ⟨g0, hz5.next (Below.refl _ _).drew⟩ | exact ⟨hz6.1 0 (by omega), hz6⟩)
                (first
                  | (go_at_call 10; refine (br_held (And.right (by assumption)) 0 1 m hq1 hn z1 HZ.out _ HV1.out).mono ?_; rintro e w6 ⟨rfl, hz6⟩))
              go_wp2
              go_ret
              exact ⟨rfl, hz6.2.2⟩
        · by_cases hq0 : q = 0
          · subst hq0
            obtain rfl : p = 0 := by omega
            go_wp2_with fail
            go_at_call 10
            refine (br_none _ _ _).mono ?_
            rintro e w3 ⟨rfl, hB3⟩
            have hz3 := hz.next hB3
            go_wp2_with fail
            go_at_call 10
            refine (br_none _ _ _).mono ?_
            rintro e w4 ⟨rfl, hB4⟩
            have hz4 := hz3.next hB4
            go_wp2_with fail
            go_at_call 10
            refine (br_none _ _ _).mono ?_
            rintro e w5 ⟨rfl, hB5⟩
            have hz5 := hz4.next hB5
            clear hz hz3 hz4 hB3 hB4 hB5
            go_wp2
            go_ret
            exact ⟨rfl, hz5.2.2⟩
          · have iq0 : ((q : Int) == 0) = false := by simp; omega
            have hqp : 0 < q := by omega
            obtain ⟨V, HV⟩ : ∃ V, Hid (brV S 0 q = V) := ⟨_, rfl⟩
            have vs := brV_size S 0 q hqp
            rw [HV.out] at vs
            have V1 : (V.size : Int) ≤ szs S 0 q + 4 * q - 2 := by omega
            have V2 : szs S 0 q + 4 * q - 2 ≤ (V.size : Int) := by omega
            clear vs
            by_cases hp : p = 0
            · subst hp
              go_wp2_with fail
              go_at_call 10
              refine (br_held hz 0 q q (by omega) hn hzq HZ.out V HV.out).mono ?_
              rintro e w3 ⟨rfl, hz3⟩
              go_wp2_with fail
              go_at_call 10
              refine (br_none _ _ _).mono ?_
              rintro e w4 ⟨rfl, hB4⟩
              have hz4 := hz3.next hB4
              go_wp2_with fail
              go_at_call 10
              refine (br_held hz4 0 q q (by omega) hn hzq HZ.out V HV.out).mono ?_
              rintro e w5 ⟨rfl, hz5⟩
              clear hz hz3 hz4 hB4 HV
              go_wp2
              go_loop [13, 14] (fun t i => ∃ m : Nat, m ≤ q ∧ i = .int .i64 m ∧ t = .int .i64 (szs S 0 m)) (fun _ i => q - (intOf i).toNat)
              case atStart => exact ⟨0, Nat.zero_le _, rfl, rfl⟩
              case round =>
                obtain ⟨m, hm, rfl, rfl⟩ := hrel
                have bz := szs_mono S 0 m q hm
                by_cases hlt : m < q
                · have g0 := hz5.1 m hlt
                  have m0 : ((S m).size : Int) ≤ 1048576 := by have := HZ.out m hlt; omega
                  have HSZ : Hid (szs S 0 (m + 1) = szs S 0 m + (S m).size) := by unfold Hid; simp only [szs, Nat.zero_add]
                  go_wp2
                  go_round
                  case rel => exact ⟨m + 1, by omega, by go_num, by rw [HSZ.out]; go_num⟩
                  case measure => simp [intOf]; omega
                · have e : m = q := by omega
                  subst e
                  have hq1 : 1 ≤ m := by omega
                  have hq1' : (1 : Int) ≤ m := by omega
                  have hq0 : (0 : Int) < m := by omega
                  have hq0n : 0 < m := by omega
                  have sz0 : (S 0).size ≤ 1048576 := HZ.out 0 (by omega)
                  have g0 := hz5.1 0 (by omega)
                  have z1 : szs S 0 1 ≤ 1048576 := by have := szs_mono S 0 1 m hq1; omega
                  have HV1 : Hid (brV S 0 1 = (⟨#[60]⟩ : ByteArray) ++ S 0 ++ (⟨#[62]⟩ : ByteArray)) := brV_one S 0
                  go_wp2
                  clear V1 V2 bz
                  have ra := fun wx : World => run_string_add_sum (P := Try.prog) wx (⟨#[60]⟩ : ByteArray) (S 0) (by show 1 + _ ≤ _; omega)
                  have rb := fun wx : World => run_string_add_sum (P := Try.prog) wx ((⟨#[60]⟩ : ByteArray) ++ S 0) (⟨#[62]⟩ : ByteArray) (by rw [ByteArray.size_append]; show 1 + _ + 1 ≤ _; omega)
                  go_region_held3 (fun w' => w'.cell? ⟨w.heap.size, 0, none⟩ = some (.string (S 0)) ∧ Held w w' m S) (first | exact ⟨g0, hz5.next (Below.refl _ _).drew⟩ | exact ⟨hz6.1 0 (by omega), hz6⟩)
                    (first
                      | (go_at_call 10; refine (br_held (And.right (by assumption)) 0 1 m hq1 hn z1 HZ.out _ HV1.out).mono ?_; rintro e w6 ⟨rfl, hz6⟩))
                  go_wp2
                  go_ret
                  exact ⟨rfl, hz6.2.2⟩
            · obtain rfl : p = q := by omega
              have ip0 : ((p : Int) == 0) = false := by simp; omega
              go_wp2_with fail
              go_at_call 10
              refine (br_held hz 0 p p (by omega) hn hzq HZ.out V HV.out).mono ?_
              rintro e w3 ⟨rfl, hz3⟩
              go_wp2_with fail
              go_at_call 10
              refine (br_held hz3 0 p p (by omega) hn hzq HZ.out V HV.out).mono ?_
              rintro e w4 ⟨rfl, hz4⟩
              go_wp2_with fail
              go_at_call 10
              refine (br_none _ _ _).mono ?_
              rintro e w5 ⟨rfl, hB5⟩
              have hz5 := hz4.next hB5
              clear hz hz3 hz4 hB5 HV
              go_wp2
              go_loop [13, 14] (fun t i => ∃ m : Nat, m ≤ p ∧ i = .int .i64 m ∧ t = .int .i64 (szs S 0 m)) (fun _ i => p - (intOf i).toNat)
              case atStart => exact ⟨0, Nat.zero_le _, rfl, rfl⟩
              case round =>
                obtain ⟨m, hm, rfl, rfl⟩ := hrel
                have bz := szs_mono S 0 m p hm
                by_cases hlt : m < p
                · have g0 := hz5.1 m hlt
                  have m0 : ((S m).size : Int) ≤ 1048576 := by have := HZ.out m hlt; omega
                  have HSZ : Hid (szs S 0 (m + 1) = szs S 0 m + (S m).size) := by unfold Hid; simp only [szs, Nat.zero_add]
                  go_wp2
                  go_round
                  case rel => exact ⟨m + 1, by omega, by go_num, by rw [HSZ.out]; go_num⟩
                  case measure => simp [intOf]; omega
                · have e : m = p := by omega
                  subst e
                  have hq1 : 1 ≤ m := by omega
                  have hq1' : (1 : Int) ≤ m := by omega
                  have hq0 : (0 : Int) < m := by omega
                  have hq0n : 0 < m := by omega
                  have sz0 : (S 0).size ≤ 1048576 := HZ.out 0 (by omega)
                  have g0 := hz5.1 0 (by omega)
                  have z1 : szs S 0 1 ≤ 1048576 := by have := szs_mono S 0 1 m hq1; omega
                  have HV1 : Hid (brV S 0 1 = (⟨#[60]⟩ : ByteArray) ++ S 0 ++ (⟨#[62]⟩ : ByteArray)) := brV_one S 0
                  go_wp2
                  clear V1 V2 bz
                  have ra := fun wx : World => run_string_add_sum (P := Try.prog) wx (⟨#[60]⟩ : ByteArray) (S 0) (by show 1 + _ ≤ _; omega)
                  have rb := fun wx : World => run_string_add_sum (P := Try.prog) wx ((⟨#[60]⟩ : ByteArray) ++ S 0) (⟨#[62]⟩ : ByteArray) (by rw [ByteArray.size_append]; show 1 + _ + 1 ≤ _; omega)
                  go_region_held3 (fun w' => w'.cell? ⟨w.heap.size, 0, none⟩ = some (.string (S 0)) ∧ Held w w' m S) (first | exact ⟨g0, hz5.next (Below.refl _ _).drew⟩ | exact ⟨hz6.1 0 (by omega), hz6⟩)
                    (first
                      | (go_at_call 10; refine (br_held (And.right (by assumption)) 0 1 m hq1 hn z1 HZ.out _ HV1.out).mono ?_; rintro e w6 ⟨rfl, hz6⟩))
                  go_wp2
                  go_ret
                  exact ⟨rfl, hz6.2.2⟩
  · go_wp2
    go_ret
    exact ⟨rfl, Below.refl _ _⟩
end Go.Proofs.Qxb6617187a
