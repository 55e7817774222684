/- filter.ZZbracketed, by the shelf's contract for strings.Join. -/
import Derived.Test.Qxb6617187aProg
import Derived.Test.Qxb6617187aShelf
import Derived.Test.Qxb6617187aBrPlain
import Derived.WalkKit
import Derived.WalkSpells
import Derived.WalkLawsBesides
import Derived.RowKit3
import Derived.Deep.OwnRows
namespace Go.Proofs.Qxb6617187a
open Go.RowKit

theorem info9 : (Try.prog.info? 9).map (fun i => (i.zero, i.size, i.bytes)) = some (some (.string ByteArray.empty), 1, 16) := by kernel_rfl

/-- 'make([]string, n)', at every world. -/
theorem run_make9 (n : Nat) (hn : n ≤ 65536) (w : World) :
    (Instr.makeSlice 25 (.int .i64 (n : Int)) (.int .i64 (n : Int))).run Try.prog w = .ok (.slice (some ⟨w.heap.size, 0, none⟩) n n) (w.alloc (.cells (madeCells #[.string ByteArray.empty] n) 9)) :=
  run_make_row' 25 9 (.string ByteArray.empty) 16 Try.underlying25 info9 rfl .i64 .i64 n (by omega) (by omega) w

/-- A row of n strings of the call's own, of which the first k have been laid. -/
def BrRow (w : World) (g n k : Nat) (S : Nat → ByteArray) (o : Nat) : Prop :=
  (∀ i, i < n → ∃ v, w.cell? ⟨g, i, none⟩ = some v) ∧ (∀ i, i < n → w.frozen? ⟨g, i, none⟩ = false) ∧ ∀ j, j < k → w.cell? ⟨g, j, none⟩ = some (.string (brx (S (o + j))))

theorem BrRow.start (w : World) (n : Nat) (z : Array Value) (t : TypeId) (S : Nat → ByteArray) (o : Nat) : BrRow (w.alloc (.cells (madeCells z n) t)) w.heap.size n 0 S o := by
  have hh : (w.alloc (.cells (madeCells z n) t)).heap[w.heap.size]? = some (.cells (madeCells z n) t (0, 0)) := by
    show (w.heap.push _)[w.heap.size]? = _
    simp
  refine ⟨fun i hi => ?_, fun i hi => ?_, fun j hj => by omega⟩
  · have : i < (madeCells z n).size := by rw [size_madeCells]; exact hi
    exact ⟨(madeCells z n)[i], by simp only [World.cell?, hh]; simp [this]⟩
  · simp only [World.frozen?, hh]; simp

theorem BrRow.step {w : World} {g n q : Nat} {S : Nat → ByteArray} {o : Nat} (h : BrRow w g n q S o) (hq : q < n) : BrRow (w.setCell ⟨g, q, none⟩ (.string (brx (S (o + q))))) g n (q + 1) S o := by
  obtain ⟨h1, h2, h3⟩ := h
  obtain ⟨v0, e0⟩ := h1 q hq
  have c0 : (w.setCell ⟨g, q, none⟩ (.string (brx (S (o + q))))).cell? ⟨g, q, none⟩ = some (.string (brx (S (o + q)))) := World.cell?_setCell_same _ _ _ e0
  have co : ∀ i, i ≠ q → (w.setCell ⟨g, q, none⟩ (.string (brx (S (o + q))))).cell? ⟨g, i, none⟩ = w.cell? ⟨g, i, none⟩ := fun i a => by
    rw [World.cell?_setCell_other _ _ _ _ (by intro h; injection h with _ h; omega)]
  refine ⟨fun i hi => ?_, fun i hi => ?_, fun j hj => ?_⟩
  · by_cases a : i = q
    · subst a; exact ⟨_, c0⟩
    · rw [co i a]; exact h1 i hi
  · rw [World.frozen?_setCell]; exact h2 i hi
  · by_cases e : j = q
    · subst e; exact c0
    · rw [co _ e]; exact h3 j (by omega)

theorem join_call (g n : Nat) (S : Nat → ByteArray) (o : Nat) (w : World) (hrow : BrRow w g n n S o) (hg : g < w.heap.size) (hn : n ≤ 65536) (hz : szs S o n ≤ 1048576) :
    Calls Try.prog 15 #[.slice (some ⟨g, 0, none⟩) n n, .string ⟨#[44, 32]⟩] w fun e w' => e = .returned (.string (brV S o n)) ∧ Below w.heap.size w w' := by
  have hl : ((seg S o n).map brx).length = n := by simp [seg_len]
  have h := Try.strings_Join g 0 n ((seg S o n).map brx) ⟨#[44, 32]⟩ w (fun j x hx => by
      simp only [List.getElem?_map, Option.map_eq_some_iff] at hx
      obtain ⟨y, hy, rfl⟩ := hx
      obtain ⟨hj, rfl⟩ := seg_get S o n j y hy
      simpa using hrow.2.2 j hj) hg (by rw [hl]; omega) (by rw [hl]; omega) (by
      have := brl_len S o n
      have e : (Lib.join (((seg S o n).map brx).map (·.data.toList)) (⟨#[44, 32]⟩ : ByteArray).data.toList).length = (brl (seg S o n)).length := rfl
      rw [e, this]
      split <;> omega)
  rw [hl] at h
  exact h

set_option maxHeartbeats 1000000 in
theorem br_some (b off n c : Nat) (S : Nat → ByteArray) (o : Nat) (w : World) (hn : n ≤ 65536) (hz : szs S o n ≤ 1048576) (hs : ∀ j, j < n → (S (o + j)).size ≤ 1048576) (hb : b < w.heap.size)
    (hc : ∀ j, j < n → w.cell? ⟨b, off + j, none⟩ = some (.string (S (o + j)))) :
    Calls Try.prog 10 #[.slice (some ⟨b, off, none⟩) n c] w fun e w' => e = .returned (.string (brV S o n)) ∧ Below w.heap.size w w' := by
  have hn' : (n : Int) ≤ 65536 := by omega
  have hmk := run_make9 n hn
  go_enter Try.func10, Try.ntmps10
  go_wp2_with (go_at_call 12; go_in)
  go_loopw [11] (fun i wr => ∃ q : Nat, q ≤ n ∧ i = .int .i64 q ∧ Below w.heap.size w wr ∧ w.heap.size < wr.heap.size ∧ BrRow wr w.heap.size n q S o) (fun i _ => n - (intOf i).toNat)
  case atStart => exact ⟨0, Nat.zero_le _, rfl, (Below.refl _ _).alloc (Nat.le_refl _) _, by simp, BrRow.start _ _ _ _ _ _⟩
  case round =>
    obtain ⟨q, hq, rfl, hBr, hgr, hrow⟩ := hrel
    by_cases hlt : q < n
    · have g0 : wr.cell? ⟨b, off + q, none⟩ = some (.string (S (o + q))) := by rw [hBr.cell (p := ⟨b, off + q, none⟩) hb]; exact hc q hlt
      have sz := hs q hlt
      obtain ⟨v0, q0⟩ := hrow.1 q hlt
      have f0 := hrow.2.1 q hlt
      go_wp2
      go_roundw
      case rel => exact ⟨q + 1, by omega, by go_num, hBr.setCell (Nat.le_refl _) _, by simpa using hgr, hrow.step hlt⟩
      case measure => simp [intOf]; omega
    · have e : q = n := by omega
      subst e
      go_wp2_with (go_at_call 15; refine (join_call _ _ S o _ hrow hgr hn hz).mono ?_; rintro e w2 ⟨rfl, hB2⟩)
      go_ret
      exact ⟨rfl, hBr.trans (hB2.mono hBr.size)⟩

theorem run_make9_zero (w : World) : (Instr.makeSlice 25 (.int .i64 0) (.int .i64 0)).run Try.prog w = .ok (.slice (some ⟨w.heap.size, 0, none⟩) 0 0) (w.alloc (.cells (madeCells #[.string ByteArray.empty] 0) 9)) := run_make9 0 (by omega) w

set_option maxHeartbeats 1000000 in
theorem br_none (a : Option Addr) (c : Nat) (w : World) :
    Calls Try.prog 10 #[.slice a 0 c] w fun e w' => e = .returned (.string ⟨#[]⟩) ∧ Below w.heap.size w w' := by
  have hmk := run_make9_zero
  go_enter Try.func10, Try.ntmps10
  go_wp2_with (go_at_call 12; go_in)
  go_loop [11] (fun i => i = .int .i64 0) (fun _ => 0)
  case atStart => rfl
  case round =>
    obtain rfl := hrel
    go_wp2_with fail
    go_at_call 15
    refine (Try.strings_Join_none _ 0 _ _).mono ?_
    rintro e w2 ⟨rfl, hw⟩
    obtain rfl := hw.symm
    go_wp2
    go_ret
    exact ⟨rfl, (Below.refl _ _).alloc (Nat.le_refl _) _⟩

/-- What the walk is told of a slice of strings: it is empty, or its strings lie in a row. -/
def SegS (w : World) (a : Option Addr) (n : Nat) (S : Nat → ByteArray) (o : Nat) : Prop :=
  n = 0 ∨ ∃ b off, a = some ⟨b, off, none⟩ ∧ b < w.heap.size ∧ ∀ j, j < n → w.cell? ⟨b, off + j, none⟩ = some (.string (S (o + j)))

/-- filter.ZZbracketed. -/
theorem br_any (a : Option Addr) (n c : Nat) (S : Nat → ByteArray) (o : Nat) (w : World) (hn : n ≤ 65536) (hz : szs S o n ≤ 1048576) (hs : ∀ j, j < n → (S (o + j)).size ≤ 1048576) (h : SegS w a n S o)
    (V : ByteArray) (hV : brV S o n = V) :
    Calls Try.prog 10 #[.slice a n c] w fun e w' => e = .returned (.string V) ∧ Below w.heap.size w w' := by
  subst hV
  rcases h with rfl | ⟨b, off, rfl, hb, hc⟩
  · rw [brV_zero]
    exact br_none a c w
  · exact br_some b off n c S o w hn hz hs hb hc
end Go.Proofs.Qxb6617187a
