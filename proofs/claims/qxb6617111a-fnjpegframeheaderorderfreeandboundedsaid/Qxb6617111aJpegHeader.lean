/- photo's header over a frame whose pairs lie in a row. -/
import Derived.Test.Qxb6617111aJpegUnits
namespace Go.Proofs.Qxb6617111a
open Go.RowKit

/-- What decoding allocates, out of the samples' sum. -/
def tot (pr conv : Bool) (wd ht S : Int) : Int := S + (if pr then 4 * S else 0) + (if conv then 4 * wd * ht else 0)

/-- The samples' sum. -/
def smp (wd ht : Int) (X Y : Nat → Int) (n k : Nat) : Int := sm (fun j => term (un wd ht (mx X n) (mx Y n)) (X j) (Y j)) k

theorem smp_bd (wd ht : Int) (X Y : Nat → Int) (n k : Nat) (hk : k ≤ n) (hn : n ≤ 4096) (hwd : 0 ≤ wd) (hwd2 : wd ≤ 1048576) (hht : 0 ≤ ht) (hht2 : ht ≤ 1048576)
    (hX : ∀ j, j < n → 0 ≤ X j ∧ X j ≤ 255) (hY : ∀ j, j < n → 0 ≤ Y j ∧ Y j ≤ 255) : 0 ≤ smp wd ht X Y n k ∧ smp wd ht X Y n k ≤ 9007199254740992 := by
  have bX := mx_bd X n hX n (Nat.le_refl _)
  have bY := mx_bd Y n hY n (Nat.le_refl _)
  have := sm_bd (fun j => term (un wd ht (mx X n) (mx Y n)) (X j) (Y j)) 2199023255552 n (fun j hj =>
    term_bd wd ht (mx X n) (mx Y n) (X j) (Y j) hwd hwd2 hht hht2 bX.1 bX.2 bY.1 bY.2 (hX j hj).1 (mx_ge X j n hj) (hY j hj).1 (mx_ge Y j n hj)) k hk
  unfold smp
  omega

theorem pix_bd (wd ht : Int) (hwd : 0 ≤ wd) (hwd2 : wd ≤ 1048576) (hht : 0 ≤ ht) (hht2 : ht ≤ 1048576) : 0 ≤ 4 * wd * ht ∧ 4 * wd * ht ≤ 4398046511104 := by
  have := mul_bd (show 0 ≤ 4 * wd by omega) (show 4 * wd ≤ 4194304 by omega) hht hht2
  omega

theorem header_end {w wr wx : World} {p : Nat} (wd ht : Int) {T T' : Int} (h : Below w.heap.size w wr) (hp : p = wx.heap.size) (hx : Below wr.heap.size wr wx) (hT : T' = T) :
    ∃ g, Ending.returned (.pointer (some ⟨p, 0, none⟩)) = Ending.returned (.pointer (some ⟨g, 0, none⟩)) ∧
      Below w.heap.size w (wx.alloc (.cells #[.int .i64 wd, .int .i64 ht, .int .i64 T, .int .i64 0, .slice none 0 0] 44)) ∧ w.heap.size ≤ g ∧
      g < (wx.alloc (.cells #[.int .i64 wd, .int .i64 ht, .int .i64 T, .int .i64 0, .slice none 0 0] 44)).heap.size ∧
      (wx.alloc (.cells #[.int .i64 wd, .int .i64 ht, .int .i64 T, .int .i64 0, .slice none 0 0] 44)).cell? ⟨g, 0, none⟩ = some (.int .i64 wd) ∧
      (wx.alloc (.cells #[.int .i64 wd, .int .i64 ht, .int .i64 T, .int .i64 0, .slice none 0 0] 44)).cell? ⟨g, 1, none⟩ = some (.int .i64 ht) ∧
      (wx.alloc (.cells #[.int .i64 wd, .int .i64 ht, .int .i64 T, .int .i64 0, .slice none 0 0] 44)).cell? ⟨g, 2, none⟩ = some (.int .i64 T') ∧
      (wx.alloc (.cells #[.int .i64 wd, .int .i64 ht, .int .i64 T, .int .i64 0, .slice none 0 0] 44)).cell? ⟨g, 3, none⟩ = some (.int .i64 0) ∧
      (wx.alloc (.cells #[.int .i64 wd, .int .i64 ht, .int .i64 T, .int .i64 0, .slice none 0 0] 44)).cell? ⟨g, 4, none⟩ = some (.slice none 0 0) := by
  subst hT hp
  have hs := h.size
  have hs' := hx.size
  exact ⟨_, rfl, (h.trans (hx.mono hs)).alloc (by omega) _, by omega, by simp, by simp [go_sem], by simp [go_sem], by simp [go_sem], by simp [go_sem], by simp [go_sem]⟩

set_option maxHeartbeats 1000000 in
theorem header_some (pb b off n c : Nat) (wd ht : Int) (pr rgb : Bool) (X Y : Nat → Int) (w : World) (hwd : 0 ≤ wd) (hwd2 : wd ≤ 1048576) (hht : 0 ≤ ht) (hht2 : ht ≤ 1048576)
    (hn : n ≤ 4096) (hX : ∀ j, j < n → 0 ≤ X j ∧ X j ≤ 255) (hY : ∀ j, j < n → 0 ≤ Y j ∧ Y j ≤ 255)
    (hb : b < w.heap.size) (hpb : pb < w.heap.size)
    (c0 : w.cell? ⟨pb, 0, none⟩ = some (.int .i64 wd)) (c1 : w.cell? ⟨pb, 1, none⟩ = some (.int .i64 ht)) (c2 : w.cell? ⟨pb, 2, none⟩ = some (.bool pr)) (c4 : w.cell? ⟨pb, 4, none⟩ = some (.slice (some ⟨b, off, none⟩) n c))
    (hx : ∀ j, j < n → w.cell? ⟨b, off + j * 2, none⟩ = some (.int .i64 (X j))) (hy : ∀ j, j < n → w.cell? ⟨b, off + j * 2 + 1, none⟩ = some (.int .i64 (Y j))) (conv : Bool) (hconv : conv = (decide (n = 4) || (decide (n = 3) && rgb))) :
    Calls Try.prog 15 #[.pointer (some ⟨pb, 0, none⟩), .bool rgb] w fun e w' => ∃ g, e = .returned (.pointer (some ⟨g, 0, none⟩)) ∧ Below w.heap.size w w' ∧ w.heap.size ≤ g ∧ g < w'.heap.size ∧
      w'.cell? ⟨g, 0, none⟩ = some (.int .i64 wd) ∧ w'.cell? ⟨g, 1, none⟩ = some (.int .i64 ht) ∧ w'.cell? ⟨g, 2, none⟩ = some (.int .i64 (tot pr conv wd ht (smp wd ht X Y n n))) ∧
      w'.cell? ⟨g, 3, none⟩ = some (.int .i64 0) ∧ w'.cell? ⟨g, 4, none⟩ = some (.slice none 0 0) := by
  go_enter Try.func15, Try.ntmps15
  go_wp2_with fail
  go_at_call 17
  refine (units_some pb b off n c wd ht X Y _ hwd hwd2 hht hht2 hn hX hY hb hpb c0 c1 c4 hx hy).mono ?_
  rintro e w1 ⟨rfl, hb1⟩
  have d0 : w1.cell? ⟨pb, 0, none⟩ = some (.int .i64 wd) := by rw [hb1.cell (p := ⟨pb, 0, none⟩) hpb]; exact c0
  have d1 : w1.cell? ⟨pb, 1, none⟩ = some (.int .i64 ht) := by rw [hb1.cell (p := ⟨pb, 1, none⟩) hpb]; exact c1
  have d2 : w1.cell? ⟨pb, 2, none⟩ = some (.bool pr) := by rw [hb1.cell (p := ⟨pb, 2, none⟩) hpb]; exact c2
  have d4 : w1.cell? ⟨pb, 4, none⟩ = some (.slice (some ⟨b, off, none⟩) n c) := by rw [hb1.cell (p := ⟨pb, 4, none⟩) hpb]; exact c4
  have ex : ∀ j, j < n → w1.cell? ⟨b, off + j * 2, none⟩ = some (.int .i64 (X j)) := fun j hj => by rw [hb1.cell (p := ⟨b, off + j * 2, none⟩) hb]; exact hx j hj
  have ey : ∀ j, j < n → w1.cell? ⟨b, off + j * 2 + 1, none⟩ = some (.int .i64 (Y j)) := fun j hj => by rw [hb1.cell (p := ⟨b, off + j * 2 + 1, none⟩) hb]; exact hy j hj
  have hpb1 : pb < w1.heap.size := Nat.lt_of_lt_of_le hpb hb1.size
  have hbb1 : b < w1.heap.size := Nat.lt_of_lt_of_le hb hb1.size
  clear hx hy c0 c1 c2 c4
  go_wp2
  go_loopw [6, 17] (fun t i wr => ∃ k : Nat, k ≤ n ∧ i = .int .i64 k ∧ t = .int .i64 (smp wd ht X Y n k) ∧ Below w1.heap.size w1 wr) (fun _ i _ => n - (intOf i).toNat)
  case atStart => exact ⟨0, Nat.zero_le _, rfl, rfl, Below.refl _ _⟩
  case round =>
    obtain ⟨k, hk, rfl, rfl, hbl⟩ := hrel
    have bS := smp_bd wd ht X Y n k hk hn hwd hwd2 hht hht2 hX hY
    have bX := mx_bd X n hX n (Nat.le_refl _)
    have bY := mx_bd Y n hY n (Nat.le_refl _)
    by_cases hlt : k < n
    · have g0 : wr.cell? ⟨b, off + k * 2, none⟩ = some (.int .i64 (X k)) := by rw [hbl.cell (p := ⟨b, off + k * 2, none⟩) hbb1]; exact ex k hlt
      have g1 : wr.cell? ⟨b, off + k * 2 + 1, none⟩ = some (.int .i64 (Y k)) := by rw [hbl.cell (p := ⟨b, off + k * 2 + 1, none⟩) hbb1]; exact ey k hlt
      obtain ⟨x0, x1⟩ := hX k hlt
      obtain ⟨y0, y1⟩ := hY k hlt
      have bU := un_bd wd ht (mx X n) (mx Y n) hwd hwd2 hht hht2 bX.1 bY.1
      have bT := term_bd wd ht (mx X n) (mx Y n) (X k) (Y k) hwd hwd2 hht hht2 bX.1 bX.2 bY.1 bY.2 x0 (mx_ge X k n hlt) y0 (mx_ge Y k n hlt)
      have bP := mul_bd x0 x1 y0 y1
      unfold term at bT
      have HS : Hid (smp wd ht X Y n (k + 1) = smp wd ht X Y n k + un wd ht (mx X n) (mx Y n) * 64 * (X k * Y k)) := rfl
      clear hX hY ex ey d0 d1 d2 d4
      go_wp2
      go_roundw
      case rel => exact ⟨k + 1, by omega, by go_num, by rw [HS.out], hbl.alloc hbl.size _⟩
      case measure => simp [intOf]; omega
    · have e : k = n := by omega
      subst e
      have hP := pix_bd wd ht hwd hwd2 hht hht2
      have f0 : wr.cell? ⟨pb, 0, none⟩ = some (.int .i64 wd) := by rw [hbl.cell (p := ⟨pb, 0, none⟩) hpb1]; exact d0
      have f1 : wr.cell? ⟨pb, 1, none⟩ = some (.int .i64 ht) := by rw [hbl.cell (p := ⟨pb, 1, none⟩) hpb1]; exact d1
      have f2 : wr.cell? ⟨pb, 2, none⟩ = some (.bool pr) := by rw [hbl.cell (p := ⟨pb, 2, none⟩) hpb1]; exact d2
      have f4 : wr.cell? ⟨pb, 4, none⟩ = some (.slice (some ⟨b, off, none⟩) k c) := by rw [hbl.cell (p := ⟨pb, 4, none⟩) hpb1]; exact d4
      clear hX hY ex ey d0 d1 d2 d4
      generalize hS : smp wd ht X Y k k = S at bS ⊢
      have HS : Hid (smp wd ht X Y k k = S) := hS
      clear hS
      obtain ⟨s0, s1⟩ := bS
      obtain ⟨p0, p1⟩ := hP
      by_cases h4 : k = 4
      · have i4 : ((k : Int) == 4) = true := by simp; omega
        have HC : Hid (conv = true) := by rw [Hid, hconv]; simp [h4]
        clear h4 hconv
        cases pr
        all_goals
          go_wp2
          go_quiet (fail)
          go_wp2
          go_region
          all_goals
            go_wp2
            go_ret
            refine header_end wd ht (hb1.trans (hbl.mono hb1.size)) ?_ ?_ ?_ <;> first | rfl | exact below_drewN (Below.refl _ _) _ | exact (Below.refl _ _).drew | (rw [HS.out, HC.out]; simp [tot]; try omega)
      · have i4 : ((k : Int) == 4) = false := by simp; omega
        by_cases h3 : k = 3
        · have i3 : ((k : Int) == 3) = true := by simp; omega
          have HC : Hid (conv = rgb) := by rw [Hid, hconv]; simp [h3]
          clear h4 h3 hconv
          cases rgb
          · cases pr
            · go_wp2
              go_region
              go_wp2
              go_ret
              exact header_end (wx := wr.drew) (T := S) wd ht (hb1.trans (hbl.mono hb1.size)) rfl (Below.refl _ _).drew (by rw [HS.out, HC.out]; simp [tot])
            · go_wp2
              go_region
              go_wp2
              go_ret
              exact header_end (wx := wr.drew) (T := S + 4 * S) wd ht (hb1.trans (hbl.mono hb1.size)) rfl (Below.refl _ _).drew (by rw [HS.out, HC.out]; simp [tot])
          · cases pr
            all_goals
              go_wp2
              go_quiet (fail)
              go_wp2
              go_region
              all_goals
                go_wp2
                go_ret
                refine header_end wd ht (hb1.trans (hbl.mono hb1.size)) ?_ ?_ ?_ <;> first | rfl | exact below_drewN (Below.refl _ _) _ | exact (Below.refl _ _).drew | (rw [HS.out, HC.out]; simp [tot]; try omega)
        · have i3 : ((k : Int) == 3) = false := by simp; omega
          have HC : Hid (conv = false) := by rw [Hid, hconv]; simp [h4, h3]
          clear h4 h3 hconv
          cases pr
          · go_wp2
            go_region
            go_wp2
            go_ret
            exact header_end (wx := wr.drew) (T := S) wd ht (hb1.trans (hbl.mono hb1.size)) rfl (Below.refl _ _).drew (by rw [HS.out, HC.out]; simp [tot])
          · go_wp2
            go_region
            go_wp2
            go_ret
            exact header_end (wx := wr.drew) (T := S + 4 * S) wd ht (hb1.trans (hbl.mono hb1.size)) rfl (Below.refl _ _).drew (by rw [HS.out, HC.out]; simp [tot])
end Go.Proofs.Qxb6617111a
