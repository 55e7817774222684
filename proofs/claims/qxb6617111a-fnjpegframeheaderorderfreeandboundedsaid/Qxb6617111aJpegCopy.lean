import Derived.Test.Qxb6617111aJpegFrame
import Derived.Laws.MakeOwn
import Derived.Laws.CopyRow
import Derived.Laws.CopyOwn
namespace Go.Proofs.Qxb6617111a
open Go.RowKit

theorem info32 : (Try.prog.info? 32).map (fun i => (i.zero, i.size, i.bytes)) = some (some (.agg #[.int .i64 0, .int .i64 0]), 2, 16) := by kernel_rfl

/-- 'make([][2]int, n)', at every world. -/
theorem run_make32 (n : Nat) (hn : n ≤ 4096) (w : World) :
    (Instr.makeSlice 30 (.int .i64 (n : Int)) (.int .i64 (n : Int))).run Try.prog w =
      .ok (.slice (some ⟨w.heap.size, 0, none⟩) n n) (w.alloc (.cells (madeCells #[.int .i64 0, .int .i64 0] (n * 2)) 32)) := by
  cases hi : Try.prog.info? 32 with
  | none => have := info32; rw [hi] at this; cases this
  | some i =>
    have h := info32
    rw [hi] at h
    simp only [Option.map_some, Option.some.injEq, Prod.mk.injEq] at h
    obtain ⟨hz, hs, hb⟩ := h
    have hr := run_make (P := Try.prog) w 30 32 i _ Try.underlying30 hi hz .i64 .i64 (n : Int) (n : Int) (by omega) (by omega) (by rw [hb]; omega) (by omega)
    rw [hr, hs]
    rfl

theorem size32 : (Try.prog.info? 32).map (·.size) = some 2 := by kernel_rfl

/-- 'copy(dst, src)' of n pairs into a row of n pairs. -/
theorem run_copy32 (w : World) (ty : TypeId) (g n c : Nat) (a : Addr) (cur : Array Value) (t : TypeId) (cs : List Value)
    (hg : w.heap[g]? = some (.cells cur t (0, 0))) (hn : cs.length = n * 2) (hsz : cur.size = n * 2)
    (hsrc : ∀ j v, cs[j]? = some v → w.cell? (a.add j) = some v) (h1 : ∀ v ∈ cs, v.oneCell' = true) :
    (Builtin.copy_ #[30, 30] ty #[.slice (some ⟨g, 0, none⟩) n n, .slice (some a) n c]).run Try.prog w = .ok (goInt n) (w.setRow g cs.toArray) := by
  have hl := run_loadCells_list (P := Try.prog) w a cs hsrc
  have hst := run_storeCells_at Try.prog g 0 t cs 0 cur w hg (by simp; omega) h1
  have e : (cur.toList.take (0 + 0) ++ cs ++ cur.toList.drop (0 + 0 + cs.length)).toArray = cs.toArray := by
    rw [List.drop_of_length_le (by simp; omega)]; simp
  rw [e] at hst
  cases hq : Try.prog.info? 32 with
  | none => have := size32; rw [hq] at this; cases this
  | some i =>
    have hi : i.size = 2 := by have := size32; rw [hq] at this; simpa using this
    simp [Builtin.copy_, run_underlying Try.underlying30, Builtin.lenOf, Builtin.firstCells, sizeOf, typeInfo, hq, hi, ← hn, hl, hst]

theorem wpList_copy32 {w : World} {ops : Array Oper} {rest : List Oper} {o : Oper} {a : Act} {Q : Exit → Act → World → Prop} (hgd : o.guard = none) (d s : Operand)
    (ho : o.op = .call { callee := .builtin .copy, args := #[d, s], argTypes := #[30, 30] }) (g n c : Nat) (ad : Addr)
    (hd : a.eval d = .slice (some ⟨g, 0, none⟩) n n) (hs : a.eval s = .slice (some ad) n c) (cur : Array Value) (t : TypeId) (cs : List Value)
    (hg : w.heap[g]? = some (.cells cur t (0, 0))) (hn : cs.length = n * 2) (hsz : cur.size = n * 2)
    (hsrc : ∀ j v, cs[j]? = some v → w.cell? (ad.add j) = some v) (h1 : ∀ v ∈ cs, v.oneCell' = true)
    (h : ∀ w2 : World, Below g w w2 → g < w2.heap.size → (∀ j v, cs[j]? = some v → w2.cell? ⟨g, j, none⟩ = some v) → wpList Try.prog ops Q rest (a.put o.dst (goInt n)) w2) :
    wpList Try.prog ops Q (o :: rest) a w := by
  refine wpList_plain hgd fun K hK => ?_
  have hrun := run_copy32 w o.type g n c ad cur t cs hg hn hsz hsrc h1
  unfold Oper.wp
  simp [execOp, ho, resolve, invoke, builtin, hd, hs, hrun, Result.andThen]
  refine hK _ _ (h _ (below_setRow (Below.refl _ _) (Nat.le_refl _) _) ?_ ?_)
  · have hlt : g < w.heap.size := by
      rcases Nat.lt_or_ge g w.heap.size with h | h
      · exact h
      · rw [Array.getElem?_eq_none h] at hg; cases hg
    simpa using hlt
  · intro j v hv
    rw [cell_setRow_same w g j cur cs.toArray t (0, 0) hg]
    simpa using hv
end Go.Proofs.Qxb6617111a
