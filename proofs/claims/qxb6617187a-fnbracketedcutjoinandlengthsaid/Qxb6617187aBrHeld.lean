/- zzBytes, the copy, and the calls over it. -/
import Derived.Test.Qxb6617187aBrCall
import Derived.Laws.CopyRow
import Derived.Laws.CopyOwn
namespace Go.Proofs.Qxb6617187a
open Go.RowKit

/-- The call returns true, and each of the n strings is short; or it returns false. -/
def AnyBool (e : Ending) (n : Nat) (S : Nat → ByteArray) : Prop := (e = .returned (.bool true) ∧ ∀ j, j < n → (S j).size ≤ 1048576) ∨ e = .returned (.bool false)

set_option maxHeartbeats 1000000 in
theorem zzb_some (b off n c : Nat) (k : Int) (S : Nat → ByteArray) (w : World) (hn : n ≤ maxLen) (hs : ∀ j, j < n → (S j).size ≤ maxLen) (hc : ∀ j, j < n → w.cell? ⟨b, off + j, none⟩ = some (.string (S j))) :
    Calls Try.prog 9 #[.slice (some ⟨b, off, none⟩) n c, .int .i64 k] w fun e w' => AnyBool e n S ∧ w' = w := by
  unfold maxLen at hn
  by_cases h1 : (1048576 : Int) < n
  · go_enter Try.func9, Try.ntmps9
    go_wp2
    go_ret
    exact ⟨.inr rfl, rfl⟩
  · have h1' : (n : Int) ≤ 1048576 := by omega
    go_enter Try.func9, Try.ntmps9
    go_wp2
    go_loop [5, 6] (fun z i => ∃ (q : Nat) (t : Int), q ≤ n ∧ i = .int .i64 q ∧ z = .int .i64 t ∧ 0 ≤ t ∧ t ≤ 1048576 ∧ ∀ j, j < q → (S j).size ≤ 1048576) (fun _ i => n - (intOf i).toNat)
    case atStart => exact ⟨0, n, Nat.zero_le _, rfl, rfl, by omega, by omega, fun j hj => by omega⟩
    case round =>
      obtain ⟨q, t, hq, rfl, rfl, t0, t1, ht⟩ := hrel
      have HT : Hid (∀ j, j < q → (S j).size ≤ 1048576) := ht
      clear ht
      by_cases hlt : q < n
      · have g0 := hc q hlt
        have s0 := hs q hlt
        unfold maxLen at s0
        clear hc hs
        by_cases c1 : (1048576 : Int) < (S q).size
        · go_wp2
          go_ret
          exact ⟨.inr rfl, rfl⟩
        · by_cases c2 : (1048576 : Int) < t + (S q).size
          · go_wp2
            go_ret
            exact ⟨.inr rfl, rfl⟩
          · go_wp2
            go_round
            case rel => exact ⟨q + 1, t + (S q).size, by omega, by go_num, rfl, by omega, by omega, fun j hj => by
              by_cases e : j = q
              · subst e; omega
              · exact HT.out j (by omega)⟩
            case measure => simp [intOf]; omega
      · go_wp2
        go_ret
        exact ⟨.inl ⟨rfl, fun j hj => HT.out j (by omega)⟩, rfl⟩

set_option maxHeartbeats 1000000 in
theorem zzb_none (a : Option Addr) (c : Nat) (k : Int) (S : Nat → ByteArray) (w : World) :
    Calls Try.prog 9 #[.slice a 0 c, .int .i64 k] w fun e w' => AnyBool e 0 S ∧ w' = w := by
  go_enter Try.func9, Try.ntmps9
  go_wp2
  go_loop [5, 6] (fun z i => i = .int .i64 0 ∧ z = .int .i64 0) (fun _ _ => 0)
  case atStart => exact ⟨rfl, rfl⟩
  case round =>
    obtain ⟨rfl, rfl⟩ := hrel
    go_wp2
    go_ret
    exact ⟨.inl ⟨rfl, fun j hj => by omega⟩, rfl⟩

/-- zzBytes: one of the two bools, and nothing has turned. -/
theorem zzb_any (a : Option Addr) (n c : Nat) (k : Int) (S : Nat → ByteArray) (w : World) (hn : n ≤ maxLen) (hs : ∀ j, j < n → (S j).size ≤ maxLen) (h : SegS w a n S 0) :
    Calls Try.prog 9 #[.slice a n c, .int .i64 k] w fun e w' => AnyBool e n S ∧ w' = w := by
  rcases h with rfl | ⟨b, off, rfl, _, hc⟩
  · exact zzb_none a c k S w
  · exact zzb_some b off n c k S w hn hs (fun j hj => by simpa using hc j hj)

/-! ### the copy -/
def flat (S : Nat → ByteArray) (n : Nat) : List Value := (List.range n).map fun i => .string (S i)
theorem flat_len (S : Nat → ByteArray) (n : Nat) : (flat S n).length = n := by simp [flat]
theorem flat_get (S : Nat → ByteArray) (n j : Nat) (v : Value) (h : (flat S n)[j]? = some v) : j < n ∧ v = .string (S j) := by
  simp only [flat, List.getElem?_map] at h
  by_cases hj : j < n
  · simp [hj] at h; exact ⟨hj, h.symm⟩
  · simp [hj] at h
theorem flat_at (S : Nat → ByteArray) (n j : Nat) (h : j < n) : (flat S n)[j]? = some (.string (S j)) := by simp [flat, h]
theorem flat_one (S : Nat → ByteArray) (n : Nat) : ∀ v ∈ flat S n, v.oneCell' = true := by
  intro v hv
  simp only [flat, List.mem_map] at hv
  obtain ⟨i, _, rfl⟩ := hv
  rfl

theorem size9 : (Try.prog.info? 9).map (·.size) = some 1 := by kernel_rfl

theorem wpList_copy9 {w : World} {ops : Array Oper} {rest : List Oper} {o : Oper} {a : Act} {Q : Exit → Act → World → Prop} (hgd : o.guard = none) (d s : Operand)
    (ho : o.op = .call { callee := .builtin .copy, args := #[d, s], argTypes := #[25, 25] }) (g n c : Nat) (ad : Addr)
    (hd : a.eval d = .slice (some ⟨g, 0, none⟩) n n) (hs : a.eval s = .slice (some ad) n c) (cur : Array Value) (t : TypeId) (cs : List Value)
    (hg : w.heap[g]? = some (.cells cur t (0, 0))) (hn : cs.length = n) (hsz : cur.size = n)
    (hsrc : ∀ j v, cs[j]? = some v → w.cell? (ad.add j) = some v) (h1 : ∀ v ∈ cs, v.oneCell' = true)
    (h : ∀ w2 : World, Below g w w2 → g < w2.heap.size → (∀ j v, cs[j]? = some v → w2.cell? ⟨g, j, none⟩ = some v) → wpList Try.prog ops Q rest (a.put o.dst (goInt n)) w2) :
    wpList Try.prog ops Q (o :: rest) a w := by
  subst hn
  refine wpList_plain hgd fun K hK => ?_
  have hrun := run_copy_row (P := Try.prog) w 25 25 o.type 9 g 0 cs.length cs.length ad cs.length c cur t cs Try.underlying25 size9 hg (by simp) hsrc (by omega) h1
  have e : (cur.toList.take 0 ++ cs ++ cur.toList.drop (0 + cs.length)).toArray = cs.toArray := by
    rw [List.drop_of_length_le (by simp; omega)]; simp
  rw [e] at hrun
  unfold Oper.wp
  simp [execOp, ho, resolve, invoke, builtin, hd, hs, hrun, Result.andThen]
  refine hK _ _ (h _ (below_setRow (Below.refl _ _) (Nat.le_refl _) _) ?_ ?_)
  · have hlt : g < w.heap.size := by
      rcases Nat.lt_or_ge g w.heap.size with h | h
      · exact h
      · rw [Array.getElem?_eq_none h] at hg; cases hg
    simpa using hlt
  · intro j v hv
    rw [cell_setRow_same w g j cur cs.toArray t (0, 0) hg]
    simpa using hv

theorem add_block (a : Addr) (i : Nat) : (a.add i).block = a.block := by unfold Addr.add; split <;> rfl
theorem src_alloc {w : World} {ad : Addr} {n : Nat} {S : Nat → ByteArray} (O : Obj) (had : 0 < n → ad.block < w.heap.size) (hs : ∀ i, i < n → w.cell? (ad.add i) = some (.string (S i))) (j : Nat) (v : Value)
    (h : (flat S n)[j]? = some v) : (w.alloc O).cell? (ad.add j) = some v := by
  obtain ⟨hj, rfl⟩ := flat_get S n j v h
  rw [((Below.refl w.heap.size w).alloc (Nat.le_refl _) O).cell (p := ad.add j) (by rw [add_block]; exact had (by omega))]
  exact hs j hj
theorem alloc_heap (w : World) (O : Obj) : (w.alloc O).heap[w.heap.size]? = some O := by
  show (w.heap.push O)[w.heap.size]? = some O
  simp

/-- The copy of the strings lies at the first new block, and nothing old has turned. -/
def Held (w wy : World) (n : Nat) (S : Nat → ByteArray) : Prop :=
  (∀ i, i < n → wy.cell? ⟨w.heap.size, i, none⟩ = some (.string (S i))) ∧ w.heap.size < wy.heap.size ∧ Below w.heap.size w wy
theorem Held.next {w wx wy : World} {n : Nat} {S : Nat → ByteArray} (h : Held w wx n S) (hB : Below wx.heap.size wx wy) : Held w wy n S := by
  obtain ⟨h1, h2, h3⟩ := h
  refine ⟨fun i hi => ?_, Nat.lt_of_lt_of_le h2 hB.size, h3.trans (hB.mono (Nat.le_of_lt h2))⟩
  rw [hB.cell (p := ⟨w.heap.size, i, none⟩) h2]
  exact h1 i hi
theorem Held.seg {w wx : World} {n : Nat} {S : Nat → ByteArray} (h : Held w wx n S) (o m : Nat) (hm : o + m ≤ n) : SegS wx (some ⟨w.heap.size, o, none⟩) m S o :=
  .inr ⟨_, _, rfl, h.2.1, fun j hj => h.1 (o + j) (by omega)⟩

/-- A call of filter.ZZbracketed over m strings of the copy from o on. -/
theorem br_held {w wx : World} {n : Nat} {S : Nat → ByteArray} (h : Held w wx n S) (o m c : Nat) (hm : o + m ≤ n) (hn : n ≤ 65536) (hz : szs S o m ≤ 1048576) (hs : ∀ j, j < n → (S j).size ≤ 1048576) (V : ByteArray) (hV : brV S o m = V) :
    Calls Try.prog 10 #[.slice (some ⟨w.heap.size, o, none⟩) m c] wx fun e w' => e = .returned (.string V) ∧ Held w w' n S := by
  refine (br_any (some ⟨w.heap.size, o, none⟩) m c S o wx (by omega) hz (fun j hj => hs (o + j) (by omega)) (h.seg o m hm) V hV).mono ?_
  rintro e w' ⟨he, hB⟩
  exact ⟨he, h.next hB⟩

theorem szs_mono (S : Nat → ByteArray) (o : Nat) : ∀ m n, m ≤ n → szs S o m ≤ szs S o n
  | m, 0, h => by obtain rfl : m = 0 := by omega
                  exact Nat.le_refl _
  | m, n + 1, h => by
    by_cases e : m = n + 1
    · subst e; exact Nat.le_refl _
    · have := szs_mono S o m n (by omega)
      simp only [szs]
      omega
theorem szs_ge (S : Nat → ByteArray) (n j : Nat) (h : j < n) : (S j).size ≤ szs S 0 n := by
  have := szs_mono S 0 (j + 1) n h
  simp only [szs, Nat.zero_add] at this
  omega
end Go.Proofs.Qxb6617187a
