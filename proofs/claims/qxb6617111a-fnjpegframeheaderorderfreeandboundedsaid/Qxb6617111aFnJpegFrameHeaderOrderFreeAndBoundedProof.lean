/- The statement Rows.FnJpegFrameHeaderOrderFreeAndBoundedSaid, proved: the frame after the kit's shell for a law over slices; the slice of pairs is opened by the kit's open_slice and trod_array. -/
import Derived.Test.Qxb6617111aRows
import Derived.WalkKit
import Derived.ProofKit
import Derived.OpenShut
import Derived.ShutString
import Derived.ChangeOld
import Derived.Below
import Derived.Deep.Slices
import Derived.Test.Qxb6617111aJpegMain
import Derived.Test.Qxb6617111aJpegNil
namespace Go.Proofs.Qxb6617111a.fnJpegFrameHeaderOrderFreeAndBounded
open Go.ChangeShapes Go.WideShapes Go.ChangeAt Go.RowKit
open Go.ChangeMaps (open_string shut_string)
set_option linter.unusedVariables false

theorem own : ownKnob Try.prog.godebug = none := by kernel_rfl
theorem laidOut : laidOutB Try.prog = true := by kernel_rfl
theorem cells3 : Try.prog.cellsOf 3 = 1 := by kernel_rfl
theorem cells32 : Try.prog.cellsOf 32 = 2 := by kernel_rfl

/-- What the walk is told of a slice of pairs that came in: it is nil; or its numbers lie one behind the other. -/
def IsPairs (w : World) (a : Option Addr) (len cap : Nat) (Z : Nat → Int) : Prop :=
  (a = none ∧ len = 0 ∧ cap = 0) ∨ ∃ x, a = some x ∧ len ≤ maxLen ∧ ∀ i, i < len * 2 → w.cell? (x.add i) = some (.int .i64 (Z i))

theorem open_pairs {H : Type} {enc : TypeId × Value → H} {w : World} {base : Nat} {spare : Nat → Bool} {held : Bool} {fuel len cap : Nat} {a : Option Addr} {x : DataW H × List MemPlace}
    (h : DataW.trod enc Try.prog w base spare held fuel 30 [.slice a len cap] = some x) : ∃ Z, IsPairs w a len cap Z := by
  rcases Go.Deep.open_slice Try.underlying30 h with ⟨hcs, _⟩ | ⟨ad, len', cap', m, n, D, Pl, hcs, hb, hl, hm, hmm, _, hx⟩
  · simp at hcs
    obtain ⟨rfl, rfl, rfl⟩ := hcs
    exact ⟨fun _ => 0, .inl ⟨rfl, rfl, rfl⟩⟩
  · simp at hcs
    obtain ⟨rfl, rfl, rfl⟩ := hcs
    have hlm : len ≤ m := by rw [hmm]; split <;> omega
    have each : ∀ i, i < len → ∃ q : Int × Int, w.cell? (ad.add (i * 2)) = some (.int .i64 q.1) ∧ w.cell? (ad.add (i * 2 + 1)) = some (.int .i64 q.2) := by
      intro i hi
      obtain ⟨cs', h1, h2⟩ := hx i (by omega)
      rw [cells32] at h1
      obtain ⟨_, hlen, hcell⟩ := World.cells?_some h1
      obtain ⟨xs, k, _, _, _, hxl, hf⟩ := DataW.trod_array Try.underlying32 h2
      match cs', hlen, xs, hxl with
      | [v0, v1], _, [y0, y1], _ =>
        have g0 := hf 0 (by omega)
        have g1 := hf 1 (by omega)
        simp [cells3] at g0 g1
        obtain ⟨z0, e0, _, _⟩ := DataW.trod_int Try.underlying3 g0
        obtain ⟨z1, e1, _, _⟩ := DataW.trod_int Try.underlying3 g1
        simp at e0 e1
        subst e0 e1
        have c0 := hcell 0 (by omega)
        have c1 := hcell 1 (by omega)
        rw [Go.Deep.add_add] at c0 c1
        exact ⟨(z0, z1), by simpa using c0, by simpa using c1⟩
    obtain ⟨q, hq⟩ := Go.Deep.choose_lt each
    refine ⟨fun i => if i % 2 = 0 then (q (i / 2)).1 else (q (i / 2)).2, .inr ⟨ad, rfl, by omega, fun i hi => ?_⟩⟩
    have hi2 := hq (i / 2) (by omega)
    show w.cell? (ad.add i) = some (.int .i64 (if i % 2 = 0 then (q (i / 2)).1 else (q (i / 2)).2))
    by_cases e : i % 2 = 0
    · rw [if_pos e]
      have := hi2.1
      rwa [show i / 2 * 2 = i by omega] at this
    · rw [if_neg e]
      have := hi2.2
      rwa [show i / 2 * 2 + 1 = i by omega] at this

/-- The walk: the Go text returns true, and writes nothing that was there. -/
theorem walk (wd ht : Int) (pr : Bool) (ids : ByteArray) (a : Option Addr) (n c : Nat) (rgb : Bool) (Z : Nat → Int) (w : World) (hi : ids.size ≤ maxLen) (hp : IsPairs w a n c Z) :
    Calls Try.prog 7 #[.int .i64 wd, .int .i64 ht, .bool pr, .string ids, .slice a n c, .bool rgb] w fun e w' => e = .returned (.bool true) ∧ Below w.heap.size w w' := by
  have hn : n ≤ maxLen := by
    rcases hp with ⟨_, rfl, _⟩ | ⟨_, _, h, _⟩
    · exact Nat.zero_le _
    · exact h
  by_cases c1 : ids.size + n ≤ 1048576
  · by_cases c2 : n ≤ 4096
    · by_cases c3 : 0 ≤ wd ∧ wd ≤ 1048576 ∧ 0 ≤ ht ∧ ht ≤ 1048576
      · obtain ⟨w0, w1, g0, g1⟩ := c3
        rcases hp with ⟨rfl, rfl, rfl⟩ | ⟨x, rfl, _, hc⟩
        · exact law_nil wd ht pr rgb ids w (by omega) w0 w1 g0 g1
        · refine law_main n c x wd ht pr rgb ids Z w c1 c2 w0 w1 g0 g1 hc (fun h0 => ?_)
          have := block_lt_of_cell (hc 0 (by omega))
          rwa [add_block] at this
      · refine (law_size n c a wd ht pr rgb ids w c1 c2 (by omega)).mono ?_
        rintro e w' ⟨rfl, rfl⟩
        exact ⟨rfl, Below.refl _ _⟩
    · refine (law_many n c a wd ht pr rgb ids w c1 (by omega)).mono ?_
      rintro e w' ⟨rfl, rfl⟩
      exact ⟨rfl, Below.refl _ _⟩
  · refine (law_long n c a wd ht pr rgb ids w hi hn (by omega)).mono ?_
    rintro e w' ⟨rfl, rfl⟩
    exact ⟨rfl, Below.refl _ _⟩

set_option maxRecDepth 100000 in
theorem lifted (os : Os) (started : os.Started) (H : Type) (enc : TypeId × Value → H) :
    ReturnsInHanded {} Try.checked os 7 .any (Rows.fnJpegFrameHeaderOrderFreeAndBoundedSpec.pre6 enc Try.prog Try.f7 Rows.fnJpegFrameHeaderOrderFreeAndBoundedRow.domain false) (Rows.fnJpegFrameHeaderOrderFreeAndBoundedSpec.post enc Try.prog Try.f7 false true false false) := by
  refine returnsInHanded_of_change (C := Try.checked) own started (by kernel_rfl) Try.func7
    (ChangeSpec.witness6 (enc := enc) (C := Try.checked) false ⟨#[], #[.int .i64 0, .int .i64 0, .bool false, .string ByteArray.empty, .slice none 0 0, .bool false], []⟩ 8 (by kernel_rfl) (by kernel_rfl) (by kernel_rfl) (by kernel_rfl)) ?_
  intro W base args ds gs before hval0 hW hcnd _
  have hval : ∀ (j : Nat) t v, Try.f7.params[j]? = some t → args[j]? = some v → Value.okWide Try.prog W .any base t v := hval0
  have hW' := hW
  obtain ⟨p, q, hA0, hV, rfl, hfz, hnd⟩ := hW
  have hA : DataW.TrodAll enc Try.prog W 0 (fun _ => true) true Try.f7.params.toList args.toList ds p := hA0
  rw [Try.params7] at hA hval
  obtain ⟨v0, vs0, d0, ds0, p0, q0, hargs, rfl, rfl, h0, r0⟩ := trodAll_cons hA
  obtain ⟨v1, vs1, d1, ds1, p1, q1, rfl, rfl, rfl, h1, r1⟩ := trodAll_cons r0
  obtain ⟨v2, vs2, d2, ds2, p2, q2, rfl, rfl, rfl, h2, r2⟩ := trodAll_cons r1
  obtain ⟨v3, vs3, d3, ds3, p3, q3, rfl, rfl, rfl, h3, r3⟩ := trodAll_cons r2
  obtain ⟨v4, vs4, d4, ds4, p4, q4, rfl, rfl, rfl, h4, r4⟩ := trodAll_cons r3
  obtain ⟨v5, vs5, d5, ds5, p5, q5, rfl, rfl, rfl, h5, r5⟩ := trodAll_cons r4
  obtain ⟨rfl, rfl, rfl⟩ := trodAll_nil r5
  obtain rfl : args = #[v0, v1, v2, v3, v4, v5] := by cases args; simp_all
  obtain ⟨rfl, rfl⟩ := trodVars_none hV
  obtain ⟨a0, rfl, rfl, rfl, w0⟩ := open_int Try.underlying3 (hval 0 3 v0 rfl rfl) h0
  obtain ⟨a1, rfl, rfl, rfl, w1⟩ := open_int Try.underlying3 (hval 1 3 v1 rfl rfl) h1
  obtain ⟨a2, rfl, rfl, rfl⟩ := open_bool Try.underlying4 (hval 2 4 v2 rfl rfl) h2
  obtain ⟨a3, rfl, rfl, rfl, w3⟩ := open_string Try.underlying9 (hval 3 9 v3 rfl rfl) h3
  obtain ⟨a4, len4, cap4, rfl⟩ := okWide_slice Try.underlying30 (hval 4 30 v4 rfl rfl)
  have k4 := h4
  have lt4 : ∀ x ∈ p4, x.block < W.heap.size := by obtain ⟨m, hm⟩ := k4; exact DataW.trod_lt m _ _ _ hm
  obtain ⟨Z, w4⟩ : ∃ Z, IsPairs W a4 len4 cap4 Z := by
    obtain ⟨fuel, hf⟩ := h4
    exact open_pairs (by simpa [Value.cells] using hf)
  obtain ⟨a5, rfl, rfl, rfl⟩ := open_bool Try.underlying4 (hval 5 4 v5 rfl rfl) h5
  clear hA0 hval0
  refine (walk a0 a1 a2 a3 a4 len4 cap4 a5 Z W w3 w4).mono fun e W' ⟨he, bel⟩ => ?_
  subst he
  exact ⟨_, rfl, _, _, _, [], _, [], hW', trodAll_mk1 (shut_bool Try.underlying4 _),
    (trodAll_cons_mk (shut_int Try.underlying3 w0) (trodAll_cons_mk (shut_int Try.underlying3 w1) (trodAll_cons_mk (shut_bool Try.underlying4 _) (trodAll_cons_mk (shut_string Try.underlying9 w3)
      (trodAll_cons_mk (Below.trod laidOut (by kernel_rfl) (of_decide_eq_true (by kernel_rfl)) k4 bel lt4) (trodAll_cons_mk (shut_bool Try.underlying4 _) trodAll_mk0)))))), rfl, bel.frame _, fun h => by cases h⟩

theorem over : Rows.fnJpegFrameHeaderOrderFreeAndBoundedRow.holds Try.pinned (OpenSpec.ofChange Rows.fnJpegFrameHeaderOrderFreeAndBoundedSpec) :=
  OpenClaim.holds_of_wide 7 Try.f7 rfl rfl rfl rfl rfl rfl rfl ⟨rfl, rfl, rfl, rfl, rfl⟩ rfl rfl rfl rfl rfl (by kernel_rfl) Try.func7 (by kernel_rfl)
    (of_decide_eq_true (by kernel_rfl)) (by unfold Func.isWrapper; first | (rw [if_pos (by decide +kernel)]; kernel_rfl) | (rw [if_neg (by decide +kernel)]; exact ⟨rfl, rfl⟩))
    (fun os started H enc _ => lifted os started H enc)

/-- The statement. -/
theorem proved : Rows.FnJpegFrameHeaderOrderFreeAndBoundedSaid := over
end Go.Proofs.Qxb6617111a.fnJpegFrameHeaderOrderFreeAndBounded

namespace Go.Proofs.Qxb6617111a
/-- The given statement. -/
theorem jpegFrameHeader_holds : Rows.FnJpegFrameHeaderOrderFreeAndBoundedSaid := fnJpegFrameHeaderOrderFreeAndBounded.proved
end Go.Proofs.Qxb6617111a
