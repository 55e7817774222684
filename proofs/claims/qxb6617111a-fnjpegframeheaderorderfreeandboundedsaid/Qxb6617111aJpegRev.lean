/- The law over photo's JPEG frame header: what its walk is told of the copy, of the reversed row and of the six calls. -/
import Derived.Test.Qxb6617111aJpegGuards
namespace Go.Proofs.Qxb6617111a
open Go.RowKit

def flat (Z : Nat → Int) (n : Nat) : List Value := (List.range (n * 2)).map fun i => .int .i64 (Z i)
theorem flat_len (Z : Nat → Int) (n : Nat) : (flat Z n).length = n * 2 := by simp [flat]
theorem flat_get (Z : Nat → Int) (n j : Nat) (v : Value) (h : (flat Z n)[j]? = some v) : j < n * 2 ∧ v = .int .i64 (Z j) := by
  simp only [flat, List.getElem?_map] at h
  by_cases hj : j < n * 2
  · simp [hj] at h; exact ⟨hj, h.symm⟩
  · simp [hj] at h
theorem flat_at (Z : Nat → Int) (n j : Nat) (h : j < n * 2) : (flat Z n)[j]? = some (.int .i64 (Z j)) := by simp [flat, h]
theorem flat_one (Z : Nat → Int) (n : Nat) : ∀ v ∈ flat Z n, v.oneCell' = true := by
  intro v hv
  simp only [flat, List.mem_map] at hv
  obtain ⟨i, _, rfl⟩ := hv
  rfl

theorem add_block (a : Addr) (i : Nat) : (a.add i).block = a.block := by unfold Addr.add; split <;> rfl

theorem src_alloc {w : World} {ad : Addr} {n : Nat} {Z : Nat → Int} (O : Obj) (had : 0 < n → ad.block < w.heap.size) (hs : ∀ i, i < n * 2 → w.cell? (ad.add i) = some (.int .i64 (Z i))) (j : Nat) (v : Value)
    (h : (flat Z n)[j]? = some v) : (w.alloc O).cell? (ad.add j) = some v := by
  obtain ⟨hj, rfl⟩ := flat_get Z n j v h
  rw [((Below.refl w.heap.size w).alloc (Nat.le_refl _) O).cell (p := ad.add j) (by rw [add_block]; exact had (by omega))]
  exact hs j hj

theorem alloc_heap (w : World) (O : Obj) : (w.alloc O).heap[w.heap.size]? = some O := by
  show (w.heap.push O)[w.heap.size]? = some O
  simp

/-- photo.ZZFrameHeader, the total under a letter. -/
theorem frame_val (n c : Nat) (a : Option Addr) (wd ht : Int) (pr rgb : Bool) (ids : ByteArray) (X Y : Nat → Int) (w : World) (hwd : 0 ≤ wd) (hwd2 : wd ≤ 1048576) (hht : 0 ≤ ht) (hht2 : ht ≤ 1048576)
    (hn : n ≤ 4096) (hX : ∀ j, j < n → 0 ≤ X j ∧ X j ≤ 255) (hY : ∀ j, j < n → 0 ≤ Y j ∧ Y j ≤ 255) (hs : Seg w a n X Y)
    (T : Int) (hT : tot pr (decide (n = 4) || (decide (n = 3) && rgb)) wd ht (smp wd ht X Y n n) = T) :
    Calls Try.prog 12 #[.int .i64 wd, .int .i64 ht, .bool pr, .string ids, .slice a n c, .bool rgb] w fun e w' =>
      e = .returned (.tuple #[.int .i64 wd, .int .i64 ht, .int .i64 T, .int .i64 0, .slice none 0 0]) ∧ Below w.heap.size w w' := by
  subst hT
  exact frame_any n c a wd ht pr rgb ids X Y w hwd hwd2 hht hht2 hn hX hY hs _ rfl

/-- The row that is being filled from its end: n pairs, of which k have been laid. -/
def RevRow (w : World) (g n k : Nat) (Z : Nat → Int) : Prop :=
  (∀ i, i < n * 2 → ∃ v, w.cell? ⟨g, i, none⟩ = some v) ∧ (∀ i, i < n * 2 → w.frozen? ⟨g, i, none⟩ = false) ∧
  ∀ j, j < k → w.cell? ⟨g, (n - 1 - j) * 2, none⟩ = some (.int .i64 (Z (j * 2))) ∧ w.cell? ⟨g, (n - 1 - j) * 2 + 1, none⟩ = some (.int .i64 (Z (j * 2 + 1)))

theorem RevRow.start (w : World) (n : Nat) (z : Array Value) (t : TypeId) (Z : Nat → Int) : RevRow (w.alloc (.cells (madeCells z (n * 2)) t)) w.heap.size n 0 Z := by
  have hh : (w.alloc (.cells (madeCells z (n * 2)) t)).heap[w.heap.size]? = some (.cells (madeCells z (n * 2)) t (0, 0)) := by
    show (w.heap.push _)[w.heap.size]? = _
    simp
  refine ⟨fun i hi => ?_, fun i hi => ?_, fun j hj => by omega⟩
  · have : i < (madeCells z (n * 2)).size := by rw [size_madeCells]; exact hi
    exact ⟨(madeCells z (n * 2))[i], by simp only [World.cell?, hh]; simp [this]⟩
  · simp only [World.frozen?, hh]; simp

theorem RevRow.step {w : World} {g n q : Nat} {Z : Nat → Int} (h : RevRow w g n q Z) (hq : q < n) :
    RevRow ((w.setCell ⟨g, (n - 1 - q) * 2, none⟩ (.int .i64 (Z (q * 2)))).setCell ⟨g, (n - 1 - q) * 2 + 1, none⟩ (.int .i64 (Z (q * 2 + 1)))) g n (q + 1) Z := by
  obtain ⟨h1, h2, h3⟩ := h
  obtain ⟨v0, e0⟩ := h1 ((n - 1 - q) * 2) (by omega)
  obtain ⟨v1, e1⟩ := h1 ((n - 1 - q) * 2 + 1) (by omega)
  have c0 : ((w.setCell ⟨g, (n - 1 - q) * 2, none⟩ (.int .i64 (Z (q * 2)))).setCell ⟨g, (n - 1 - q) * 2 + 1, none⟩ (.int .i64 (Z (q * 2 + 1)))).cell? ⟨g, (n - 1 - q) * 2, none⟩ = some (.int .i64 (Z (q * 2))) := by
    rw [World.cell?_setCell_other _ _ _ _ (by simp), World.cell?_setCell_same _ _ _ e0]
  have c1 : ((w.setCell ⟨g, (n - 1 - q) * 2, none⟩ (.int .i64 (Z (q * 2)))).setCell ⟨g, (n - 1 - q) * 2 + 1, none⟩ (.int .i64 (Z (q * 2 + 1)))).cell? ⟨g, (n - 1 - q) * 2 + 1, none⟩ = some (.int .i64 (Z (q * 2 + 1))) := by
    exact World.cell?_setCell_same _ _ _ (show _ = some v1 by rw [World.cell?_setCell_other _ _ _ _ (by simp)]; exact e1)
  have co : ∀ i, i ≠ (n - 1 - q) * 2 → i ≠ (n - 1 - q) * 2 + 1 → ((w.setCell ⟨g, (n - 1 - q) * 2, none⟩ (.int .i64 (Z (q * 2)))).setCell ⟨g, (n - 1 - q) * 2 + 1, none⟩ (.int .i64 (Z (q * 2 + 1)))).cell? ⟨g, i, none⟩ = w.cell? ⟨g, i, none⟩ := fun i a b => by
    rw [World.cell?_setCell_other _ _ _ _ (by intro h; injection h with _ h; omega), World.cell?_setCell_other _ _ _ _ (by intro h; injection h with _ h; omega)]
  refine ⟨fun i hi => ?_, fun i hi => ?_, fun j hj => ?_⟩
  · by_cases a : i = (n - 1 - q) * 2
    · subst a; exact ⟨_, c0⟩
    · by_cases b : i = (n - 1 - q) * 2 + 1
      · subst b; exact ⟨_, c1⟩
      · rw [co i a b]; exact h1 i hi
  · rw [World.frozen?_setCell, World.frozen?_setCell]; exact h2 i hi
  · by_cases e : j = q
    · subst e; exact ⟨c0, c1⟩
    · rw [co _ (by omega) (by omega), co _ (by omega) (by omega)]
      exact h3 j (by omega)

theorem RevRow.seg {w : World} {g n : Nat} {Z : Nat → Int} (h : RevRow w g n n Z) (hg : g < w.heap.size) : Seg w (some ⟨g, 0, none⟩) n (fun j => Z ((n - 1 - j) * 2)) (fun j => Z ((n - 1 - j) * 2 + 1)) := by
  refine .inr ⟨g, 0, rfl, hg, fun j hj => ?_, fun j hj => ?_⟩
  · have := (h.2.2 (n - 1 - j) (by omega)).1
    rw [show n - 1 - (n - 1 - j) = j by omega] at this
    simpa using this
  · have := (h.2.2 (n - 1 - j) (by omega)).2
    rw [show n - 1 - (n - 1 - j) = j by omega] at this
    simpa using this

theorem smp_rev (wd ht : Int) (X Y : Nat → Int) (n : Nat) : smp wd ht (fun j => X (n - 1 - j)) (fun j => Y (n - 1 - j)) n n = smp wd ht X Y n n := by
  unfold smp
  rw [mx_rev, mx_rev]
  exact sm_rev (fun j => term (un wd ht (mx X n) (mx Y n)) (X j) (Y j)) n

/-- The copy of the pairs lies at the first new block, and nothing old has turned. -/
def Held (w wy : World) (n : Nat) (Z : Nat → Int) : Prop :=
  (∀ i, i < n * 2 → wy.cell? ⟨w.heap.size, i, none⟩ = some (.int .i64 (Z i))) ∧ w.heap.size < wy.heap.size ∧ Below w.heap.size w wy

theorem Held.next {w wx wy : World} {n : Nat} {Z : Nat → Int} (h : Held w wx n Z) (hB : Below wx.heap.size wx wy) : Held w wy n Z := by
  obtain ⟨h1, h2, h3⟩ := h
  refine ⟨fun i hi => ?_, Nat.lt_of_lt_of_le h2 hB.size, h3.trans (hB.mono (Nat.le_of_lt h2))⟩
  rw [hB.cell (p := ⟨w.heap.size, i, none⟩) h2]
  exact h1 i hi

theorem Held.seg {w wx : World} {n : Nat} {Z : Nat → Int} (h : Held w wx n Z) : Seg wx (some ⟨w.heap.size, 0, none⟩) n (fun j => Z (j * 2)) (fun j => Z (j * 2 + 1)) :=
  .inr ⟨_, _, rfl, h.2.1, fun j hj => by simpa using h.1 (j * 2) (by omega), fun j hj => by simpa using h.1 (j * 2 + 1) (by omega)⟩

/-- A call of photo.ZZFrameHeader over the copy. -/
theorem frame_held {w wx : World} {n : Nat} {Z : Nat → Int} (h : Held w wx n Z) (wd ht : Int) (pr rgb : Bool) (ids : ByteArray) (hwd : 0 ≤ wd) (hwd2 : wd ≤ 1048576) (hht : 0 ≤ ht) (hht2 : ht ≤ 1048576)
    (hn : n ≤ 4096) (hX : ∀ j, j < n → 0 ≤ Z (j * 2) ∧ Z (j * 2) ≤ 255) (hY : ∀ j, j < n → 0 ≤ Z (j * 2 + 1) ∧ Z (j * 2 + 1) ≤ 255)
    (T : Int) (hT : tot pr (decide (n = 4) || (decide (n = 3) && rgb)) wd ht (smp wd ht (fun j => Z (j * 2)) (fun j => Z (j * 2 + 1)) n n) = T) :
    Calls Try.prog 12 #[.int .i64 wd, .int .i64 ht, .bool pr, .string ids, .slice (some ⟨w.heap.size, 0, none⟩) n n, .bool rgb] wx fun e w' =>
      e = .returned (.tuple #[.int .i64 wd, .int .i64 ht, .int .i64 T, .int .i64 0, .slice none 0 0]) ∧ Held w w' n Z ∧ Below wx.heap.size wx w' := by
  refine (frame_val n n (some ⟨w.heap.size, 0, none⟩) wd ht pr rgb ids _ _ wx hwd hwd2 hht hht2 hn hX hY h.seg T hT).mono ?_
  rintro e w' ⟨he, hB⟩
  exact ⟨he, h.next hB, hB⟩

theorem tot_bd (pr cv : Bool) (wd ht S : Int) (hwd : 0 ≤ wd) (hwd2 : wd ≤ 1048576) (hht : 0 ≤ ht) (hht2 : ht ≤ 1048576) (s0 : 0 ≤ S) (s1 : S ≤ 9007199254740992) :
    0 ≤ tot pr cv wd ht S ∧ tot pr cv wd ht S ≤ 72057594037927936 := by
  have := pix_bd wd ht hwd hwd2 hht hht2
  cases pr <;> cases cv <;> simp [tot] <;> omega
end Go.Proofs.Qxb6617111a
