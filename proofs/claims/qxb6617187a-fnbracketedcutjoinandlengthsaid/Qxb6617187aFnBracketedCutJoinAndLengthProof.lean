/- The statement Rows.FnBracketedCutJoinAndLengthSaid, proved: the frame after the kit's shell for a law over slices; the slice of strings is opened by the kit's open_strings. -/
import Derived.Test.Qxb6617187aRows
import Derived.WalkKit
import Derived.ProofKit
import Derived.OpenShut
import Derived.ShutString
import Derived.ChangeOld
import Derived.Below
import Derived.SliceStrings
import Derived.Test.Qxb6617187aBrMain
import Derived.Test.Qxb6617187aBrNil
namespace Go.Proofs.Qxb6617187a.fnBracketedCutJoinAndLength
open Go.ChangeShapes Go.WideShapes Go.ChangeAt Go.RowKit
set_option linter.unusedVariables false

theorem own : ownKnob Try.prog.godebug = none := by kernel_rfl
theorem laidOut : laidOutB Try.prog = true := by kernel_rfl
theorem cells9 : Try.prog.cellsOf 9 = 1 := by kernel_rfl

/-- What the walk is told of a slice of strings that came in: it is nil; or its strings lie one behind the other. -/
def IsStrs (w : World) (a : Option Addr) (len cap : Nat) (S : Nat → ByteArray) : Prop :=
  (a = none ∧ len = 0 ∧ cap = 0) ∨ ∃ x, a = some x ∧ len ≤ maxLen ∧ (∀ i, i < len → w.cell? (x.add i) = some (.string (S i))) ∧ ∀ i, i < len → (S i).size ≤ maxLen

theorem open_strs {H : Type} {enc : TypeId × Value → H} {w : World} {base : Nat} {spare : Nat → Bool} {held : Bool} {fuel len cap : Nat} {a : Option Addr} {x : DataW H × List MemPlace}
    (h : DataW.trod enc Try.prog w base spare held fuel 25 [.slice a len cap] = some x) : ∃ S, IsStrs w a len cap S := by
  rcases open_strings Try.underlying25 Try.underlying9 cells9 h with ⟨hcs, _⟩ | ⟨ad, len', cap', ss, hcs, _, hl, hm, hz, _, hcell, hws⟩
  · simp at hcs
    obtain ⟨rfl, rfl, rfl⟩ := hcs
    exact ⟨fun _ => ByteArray.empty, .inl ⟨rfl, rfl, rfl⟩⟩
  · simp at hcs
    obtain ⟨rfl, rfl, rfl⟩ := hcs
    have hlm : len ≤ ss.length := by rw [hz]; split <;> omega
    refine ⟨fun i => ss.getD i ByteArray.empty, .inr ⟨ad, rfl, by omega, fun i hi => hcell i (by omega), fun i hi => ?_⟩⟩
    show (ss.getD i ByteArray.empty).size ≤ maxLen
    rw [List.getD_eq_getElem?_getD, List.getElem?_eq_getElem (by omega)]
    exact hws _ (List.getElem_mem _)

/-- The walk: the Go text returns true, and writes nothing that was there. -/
theorem walk (a : Option Addr) (n c : Nat) (k : Int) (S : Nat → ByteArray) (w : World) (hp : IsStrs w a n c S) :
    Calls Try.prog 4 #[.slice a n c, .int .i64 k] w fun e w' => e = .returned (.bool true) ∧ Below w.heap.size w w' := by
  rcases hp with ⟨rfl, rfl, rfl⟩ | ⟨x, rfl, hn, hc, hs⟩
  · exact law_nil k w
  · have hseg : SegS w (some x) n S 0 := by
      by_cases h0 : n = 0
      · exact .inl h0
      · obtain ⟨b, off, spot⟩ := x
        have c0 := hc 0 (by omega)
        have hspot : spot = none := by simpa [Addr.add] using World.cell?_spot c0
        subst hspot
        have hadd : ∀ i, (⟨b, off, none⟩ : Addr).add i = ⟨b, off + i, none⟩ := fun i => by unfold Addr.add; split <;> simp_all
        refine .inr ⟨b, off, rfl, ?_, fun j hj => ?_⟩
        · have := block_lt_of_cell c0
          rwa [add_block] at this
        · have := hc j hj
          rw [hadd] at this
          simpa using this
    by_cases hb : n ≤ 65536
    · refine law_main n c x k S w hn hs hseg hc (fun h0 => ?_) hb
      have := block_lt_of_cell (hc 0 h0)
      rwa [add_block] at this
    · exact law_many (some x) n c k S w hn hs hseg (by omega)

set_option maxRecDepth 100000 in
theorem lifted (os : Os) (started : os.Started) (H : Type) (enc : TypeId × Value → H) :
    ReturnsInHanded {} Try.checked os 4 .any (Rows.fnBracketedCutJoinAndLengthSpec.pre6 enc Try.prog Try.f4 Rows.fnBracketedCutJoinAndLengthRow.domain false) (Rows.fnBracketedCutJoinAndLengthSpec.post enc Try.prog Try.f4 false true false false) := by
  refine returnsInHanded_of_change (C := Try.checked) own started (by kernel_rfl) Try.func4
    (ChangeSpec.witness6 (enc := enc) (C := Try.checked) false ⟨#[], #[.slice none 0 0, .int .i64 0], []⟩ 8 (by kernel_rfl) (by kernel_rfl) (by kernel_rfl) (by kernel_rfl)) ?_
  intro W base args ds gs before hval0 hW hcnd _
  have hval : ∀ (j : Nat) t v, Try.f4.params[j]? = some t → args[j]? = some v → Value.okWide Try.prog W .any base t v := hval0
  have hW' := hW
  obtain ⟨p, q, hA0, hV, rfl, hfz, hnd⟩ := hW
  have hA : DataW.TrodAll enc Try.prog W 0 (fun _ => true) true Try.f4.params.toList args.toList ds p := hA0
  rw [Try.params4] at hA hval
  obtain ⟨v0, vs0, d0, ds0, p0, q0, hargs, rfl, rfl, h0, r0⟩ := trodAll_cons hA
  obtain ⟨v1, vs1, d1, ds1, p1, q1, rfl, rfl, rfl, h1, r1⟩ := trodAll_cons r0
  obtain ⟨rfl, rfl, rfl⟩ := trodAll_nil r1
  obtain rfl : args = #[v0, v1] := by cases args; simp_all
  obtain ⟨rfl, rfl⟩ := trodVars_none hV
  obtain ⟨a0, len0, cap0, rfl⟩ := okWide_slice Try.underlying25 (hval 0 25 v0 rfl rfl)
  have k0 := h0
  have lt0 : ∀ x ∈ p0, x.block < W.heap.size := by obtain ⟨m, hm⟩ := k0; exact DataW.trod_lt m _ _ _ hm
  obtain ⟨S, w0⟩ : ∃ S, IsStrs W a0 len0 cap0 S := by
    obtain ⟨fuel, hf⟩ := h0
    exact open_strs (by simpa [Value.cells] using hf)
  obtain ⟨a1, rfl, rfl, rfl, w1⟩ := open_int Try.underlying3 (hval 1 3 v1 rfl rfl) h1
  clear hA0 hval0
  refine (walk a0 len0 cap0 a1 S W w0).mono fun e W' ⟨he, bel⟩ => ?_
  subst he
  exact ⟨_, rfl, _, _, _, [], _, [], hW', trodAll_mk1 (shut_bool Try.underlying4 _), (trodAll_cons_mk (Below.trod laidOut (by kernel_rfl) (of_decide_eq_true (by kernel_rfl)) k0 bel lt0) (trodAll_cons_mk (shut_int Try.underlying3 w1) trodAll_mk0)), rfl, bel.frame _, fun h => by cases h⟩

theorem over : Rows.fnBracketedCutJoinAndLengthRow.holds Try.pinned (OpenSpec.ofChange Rows.fnBracketedCutJoinAndLengthSpec) :=
  OpenClaim.holds_of_wide 4 Try.f4 rfl rfl rfl rfl rfl rfl rfl ⟨rfl, rfl, rfl, rfl, rfl⟩ rfl rfl rfl rfl rfl (by kernel_rfl) Try.func4 (by kernel_rfl)
    (of_decide_eq_true (by kernel_rfl)) (by unfold Func.isWrapper; first | (rw [if_pos (by decide +kernel)]; kernel_rfl) | (rw [if_neg (by decide +kernel)]; exact ⟨rfl, rfl⟩))
    (fun os started H enc _ => lifted os started H enc)

/-- The statement. -/
theorem proved : Rows.FnBracketedCutJoinAndLengthSaid := over
end Go.Proofs.Qxb6617187a.fnBracketedCutJoinAndLength

namespace Go.Proofs.Qxb6617187a
/-- The given statement. -/
theorem bracketedCutJoin_holds : Rows.FnBracketedCutJoinAndLengthSaid := fnBracketedCutJoinAndLength.proved
end Go.Proofs.Qxb6617187a
