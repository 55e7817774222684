/- The plain law of bracketed: joined, cut and measured. -/
import Derived.WalkKit
import Derived.Lib.Join
namespace Go.Proofs.Qxb6617187a
open Go

/-- An address in angle brackets, as the Go text adds it up. -/
def brx (x : ByteArray) : ByteArray := (⟨#[60]⟩ : ByteArray) ++ x ++ (⟨#[62]⟩ : ByteArray)
theorem brx_size (x : ByteArray) : (brx x).size = x.size + 2 := by
  unfold brx
  rw [ByteArray.size_append, ByteArray.size_append]
  show 1 + x.size + 1 = _
  omega

/-- The strings S o, .., S (o + n - 1). -/
def seg (S : Nat → ByteArray) (o n : Nat) : List ByteArray := (List.range n).map fun j => S (o + j)
theorem seg_len (S : Nat → ByteArray) (o n : Nat) : (seg S o n).length = n := by simp [seg]
theorem seg_get (S : Nat → ByteArray) (o n j : Nat) (x : ByteArray) (h : (seg S o n)[j]? = some x) : j < n ∧ x = S (o + j) := by
  simp only [seg, List.getElem?_map] at h
  by_cases hj : j < n
  · simp [hj] at h; exact ⟨hj, h.symm⟩
  · simp [hj] at h
theorem seg_split (S : Nat → ByteArray) (o k n : Nat) (h : k ≤ n) : seg S o n = seg S o k ++ seg S (o + k) (n - k) := by
  apply List.ext_getElem?
  intro j
  by_cases hj : j < k
  · rw [List.getElem?_append_left (by rw [seg_len]; exact hj)]
    simp [seg, hj, show j < n by omega]
  · rw [List.getElem?_append_right (by rw [seg_len]; omega), seg_len]
    by_cases hn : j < n
    · simp [seg, hn, show j - k < n - k by omega, show o + k + (j - k) = o + j by omega]
    · simp [seg, hn, show ¬ j - k < n - k by omega]

/-- What bracketed answers, as bytes. -/
def brl (xs : List ByteArray) : List UInt8 := Lib.join ((xs.map brx).map (·.data.toList)) [44, 32]
def brV (S : Nat → ByteArray) (o n : Nat) : ByteArray := ⟨(brl (seg S o n)).toArray⟩

theorem joinTail_append (sep : List UInt8) (a b : List (List UInt8)) : Lib.joinTail sep (a ++ b) = Lib.joinTail sep a ++ Lib.joinTail sep b := by
  simp [Lib.joinTail]
theorem join_append (sep : List UInt8) (a b : List (List UInt8)) (ha : a ≠ []) (hb : b ≠ []) : Lib.join (a ++ b) sep = Lib.join a sep ++ sep ++ Lib.join b sep := by
  match a, ha, b, hb with
  | x :: r, _, y :: q, _ =>
    rw [List.cons_append, Lib.join_cons, Lib.join_cons, Lib.join_cons, joinTail_append]
    simp [Lib.joinTail, List.append_assoc]

/-- The sum of the strings' sizes. -/
def szs (S : Nat → ByteArray) (o : Nat) : Nat → Nat
  | 0 => 0
  | n + 1 => szs S o n + (S (o + n)).size

theorem szs_split (S : Nat → ByteArray) (o k : Nat) : ∀ m, szs S o (k + m) = szs S o k + szs S (o + k) m
  | 0 => by simp [szs]
  | m + 1 => by
    have := szs_split S o k m
    show szs S o (k + m) + (S (o + (k + m))).size = szs S o k + (szs S (o + k) m + (S (o + k + m)).size)
    rw [this, Nat.add_assoc o k m]
    omega

theorem lens_snoc (a : List (List UInt8)) (x : List UInt8) : Lib.lens (a ++ [x]) = Lib.lens a + x.length := by simp [Lib.lens]
theorem seg_snoc (S : Nat → ByteArray) (o n : Nat) : seg S o (n + 1) = seg S o n ++ [S (o + n)] := by simp [seg, List.range_succ]

theorem lens_seg (S : Nat → ByteArray) (o : Nat) : ∀ n, Lib.lens (((seg S o n).map brx).map (·.data.toList)) = szs S o n + 2 * n
  | 0 => by simp [seg, Lib.lens, szs]
  | n + 1 => by
    rw [seg_snoc, List.map_append, List.map_append, List.map_cons, List.map_nil, List.map_cons, List.map_nil, lens_snoc, lens_seg S o n]
    have : (brx (S (o + n))).data.toList.length = (S (o + n)).size + 2 := (Array.length_toList (xs := (brx (S (o + n))).data)).trans (brx_size _)
    rw [this]
    simp only [szs]
    omega

theorem join_len (sep : List UInt8) (a : List (List UInt8)) (ha : a ≠ []) : (Lib.join a sep).length = Lib.lens a + sep.length * (a.length - 1) := by
  match a, ha with
  | x :: r, _ =>
    rw [Lib.join_cons, List.length_append, Lib.joinTail_length]
    simp [Lib.lens]
    omega

theorem brl_len (S : Nat → ByteArray) (o n : Nat) : (brl (seg S o n)).length = if n = 0 then 0 else szs S o n + 4 * n - 2 := by
  by_cases h : n = 0
  · subst h; simp [brl, seg, Lib.join_nil]
  · rw [if_neg h]
    unfold brl
    rw [join_len _ _ (by intro h'; have := congrArg List.length h'; simp [seg_len] at this; exact h this), lens_seg]
    simp [seg_len]
    omega

theorem brV_size (S : Nat → ByteArray) (o n : Nat) (h : 0 < n) : (brV S o n).size = szs S o n + 4 * n - 2 := by
  have := brl_len S o n
  rw [if_neg (by omega)] at this
  rw [← this]
  simp [brV, ByteArray.size]

theorem brV_zero (S : Nat → ByteArray) (o : Nat) : brV S o 0 = ⟨#[]⟩ := by simp [brV, brl, seg, Lib.join_nil]

theorem ba_ext {a b : ByteArray} (h : a.data.toList = b.data.toList) : a = b := by
  cases a; cases b
  simp only at h
  congr
  exact Array.toList_inj.1 h

theorem brV_one (S : Nat → ByteArray) (o : Nat) : brV S o 1 = (⟨#[60]⟩ : ByteArray) ++ S o ++ (⟨#[62]⟩ : ByteArray) := by
  apply ba_ext
  simp [brV, brl, seg, Lib.join_one, brx]

theorem brV_cut (S : Nat → ByteArray) (o k n : Nat) (hk : 0 < k) (hkn : k < n) : brV S o n = brV S o k ++ (⟨#[44, 32]⟩ : ByteArray) ++ brV S (o + k) (n - k) := by
  have hne : ∀ (o n : Nat), 0 < n → ((seg S o n).map brx).map (·.data.toList) ≠ [] := fun o n h h' => by
    have := congrArg List.length h'
    simp [seg_len] at this
    omega
  have e : brl (seg S o n) = brl (seg S o k) ++ [44, 32] ++ brl (seg S (o + k) (n - k)) := by
    unfold brl
    rw [seg_split S o k n (by omega), List.map_append, List.map_append, join_append _ _ _ (hne o k hk) (hne (o + k) (n - k) (by omega))]
  apply ba_ext
  simp only [brV, e]
  simp
end Go.Proofs.Qxb6617187a
