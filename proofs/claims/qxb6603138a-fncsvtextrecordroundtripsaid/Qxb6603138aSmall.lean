import Derived.Test.Qxb6603138aText2
import Derived.Laws.CopyOwn
import Derived.Laws.BytesString
namespace Go.Proofs.Qxb6603138a
open Go.RowKit

/-! ### A copy of a slice of octets -/
theorem copy_src {w : World} {x : Addr} {l : List UInt8} (h : BytesAt w (some x) l) (hp : 0 < l.length) :
    ∃ ad, some x = some ad ∧ ∀ j v, (Lib.byteCells l)[j]? = some v → w.cell? (ad.add j) = some v := by
  obtain ⟨b, off, e, _, hc⟩ := h.at 0 hp
  obtain rfl : x = ⟨b, off, none⟩ := by simpa using e
  refine ⟨_, rfl, fun j v hv => ?_⟩
  have hj : j < l.length := by have := (List.getElem?_eq_some_iff.1 hv).1; rwa [Lib.byteCells_length] at this
  have hadd : (⟨b, off, none⟩ : Addr).add j = ⟨b, off + j, none⟩ := by unfold Addr.add; split <;> simp_all
  rw [hadd, hc j hj, ← hv, byteCells_get l j hj]
theorem owned_block {w : World} {base g n : Nat} {xs : List Value} (h : w.ownsRow base 5 1 (.slice (some ⟨g, 0, none⟩) n n) n xs) :
    base ≤ g ∧ ∃ cur : List Value, w.heap[g]? = some (.cells cur.toArray 5 (0, 0)) ∧ cur.length = n := by
  rcases h.2 with ⟨h', _⟩ | ⟨g', cap', cur, h', hb, hg, _, _, hs, _⟩
  · simp at h'
  · simp only [Value.slice.injEq, Option.some.injEq, Addr.mk.injEq, and_true, true_and] at h'
    obtain ⟨rfl, rfl⟩ := h'
    exact ⟨hb, cur.toList, by simpa using hg, by simpa using hs⟩
theorem run_copy_bytes (x : Addr) (l : List UInt8) (g n cap : Nat) (w0 w : World) {xs : List Value} (hl : l.length = n) (hn : n ≤ 1048576) (h : w.ownsRow w0.heap.size 5 1 (.slice (some ⟨g, 0, none⟩) n n) n xs) (hB : BytesAt w (some x) l)
    (hb : Below w0.heap.size w0 w) :
    ∃ w2, (Builtin.copy_ #[24, 24] 3 #[.slice (some ⟨g, 0, none⟩) n n, .slice (some x) n cap]).run Try.prog w = .ok (goInt n) w2 ∧ Owns w2 w0.heap.size (.slice (some ⟨g, 0, none⟩) n n) l ∧ Below w0.heap.size w0 w2 := by
  obtain ⟨hg, cur, hcg, hcl⟩ := owned_block h
  by_cases h0 : 0 < l.length
  · obtain ⟨ad, e, hsrc⟩ := copy_src hB h0
    obtain rfl : x = ad := by simpa using e
    have hrun := run_copy_row (P := Try.prog) w 24 24 3 5 g 0 n n x n cap cur.toArray 5 (Lib.byteCells l) Try.underlying24 (by kernel_rfl) hcg (by rw [Lib.byteCells_length, hl]; simp) hsrc (by rw [Lib.byteCells_length]; simp; omega) (byteCells_one l)
    rw [Lib.byteCells_length, hl] at hrun
    refine ⟨_, hrun, ?_, below_setRow hb hg _⟩
    have hheap := setRow_heap w g _ (List.take 0 cur.toArray.toList ++ Lib.byteCells l ++ List.drop (0 + n) cur.toArray.toList).toArray 5 (0, 0) hcg
    have e2 : List.take 0 cur.toArray.toList ++ Lib.byteCells l ++ List.drop (0 + n) cur.toArray.toList = Lib.byteCells l := by
      rw [List.take_zero, List.nil_append, List.drop_of_length_le (by simp; omega), List.append_nil]
    rw [e2] at hheap ⊢
    refine ⟨by rw [Lib.byteCells_length, Nat.mul_one], .inr ⟨g, n, _, by rw [hl], hg, hheap, by omega, by unfold maxLen; omega, by simp [Lib.byteCells_length, hl], ?_⟩⟩
    rw [Nat.mul_one, List.take_of_length_le]
    rw [Lib.byteCells_length]
    exact Nat.le_refl _
  · obtain rfl : l = [] := List.eq_nil_of_length_eq_zero (by omega)
    obtain rfl : n = 0 := by simpa using hl.symm
    refine ⟨w, run_copy_none (P := Try.prog) w 24 24 3 5 _ _ 0 0 0 cap Try.underlying24 (by kernel_rfl) rfl, ?_, hb⟩
    have hx : xs = [] := List.eq_nil_of_length_eq_zero (by have := h.1; omega)
    subst hx
    exact h

set_option maxHeartbeats 1000000 in
set_option maxRecDepth 100000 in
theorem clone_calls (a : Option Addr) (l : List UInt8) (len cap : Nat) (w : World) (hlen : l.length = len) (hB : BytesAt w a l) (hl : len ≤ 1048576) :
    Calls Try.prog 17 #[.slice a len cap] w fun e w' => ∃ v, e = .returned v ∧ Owns w' w.heap.size v l ∧ Below w.heap.size w w' := by
  have heq := fun wx => Lib.run_eql_slice_nil (P := Try.prog) wx 24 5 a len cap 0 0 Try.underlying24
  cases a with
  | none =>
    have hl0 : l = [] := by
      rcases hB with h | ⟨b, off, h, _⟩
      · exact h
      · simp at h
    subst hl0
    obtain rfl : len = 0 := by simpa using hlen.symm
    go_enter Try.func17, Try.ntmps17
    go_wp2
    go_ret
    exact ⟨_, rfl, Owns.nil _ _, Below.refl _ _⟩
  | some x =>
    obtain ⟨i0, hi, hz0, hz1, hz2⟩ := info_parts info5
    go_enter Try.func17, Try.ntmps17
    go_wp2_with (at_make; refine wpList_make_full _ rfl _ _ 24 rfl w.heap.size 5 i0 (.int .u8 0) 1 Try.underlying24 hi hz0 hz1 _ _ _ _ len rfl rfl rfl rfl (by rw [hz2]; omega) (by unfold maxLen; omega) (Nat.le_refl _) ?_; intro w1 hown hgrow)
    have hbw : Below w.heap.size w w1 := (Below.refl _ _).grown hgrow (Nat.le_refl _) (fun k hk => by simp at hk)
    obtain ⟨w2, hrun, hO, hb2⟩ := run_copy_bytes x l w.heap.size len cap w w1 hlen hl hown (hB.below hbw) hbw
    rw [hrun]
    simp only [Result.andThen]
    rw [Oper.upon_value]
    clear hown hgrow hrun
    go_wp2
    go_ret
    exact ⟨_, rfl, hO, hb2⟩

/-! ### A CSV made; its fields read -/
set_option maxHeartbeats 1000000 in
theorem newcsv_calls (v : Value) (hv : ∃ a n c, v = .slice a n c) (il : Bool) (w : World) :
    Calls Try.prog 18 #[v, .bool il] w fun x w' => x = .returned (.pointer (some ⟨w.heap.size, 0, none⟩)) ∧ w' = w.alloc (.cells #[v, .bool il] 39) := by
  obtain ⟨a, n, c, rfl⟩ := hv
  go_enter Try.func18, Try.ntmps18
  go_wp2
  go_ret
  exact ⟨rfl, rfl⟩
theorem buf_calls (D : Nat) (v : Value) (hv : ∃ a n c, v = .slice a n c) (il : Bool) (w : World) (h : CsvAt w D v il) :
    Calls Try.prog 20 #[.pointer (some ⟨D, 0, none⟩)] w fun x w' => x = .returned v ∧ w' = w := by
  obtain ⟨a, n, c, rfl⟩ := hv
  obtain ⟨c0, c1⟩ := h.cells
  go_enter Try.func20, Try.ntmps20
  go_wp2
  go_ret
  exact ⟨rfl, rfl⟩
theorem inline_calls (D : Nat) (v : Value) (il : Bool) (w : World) (h : CsvAt w D v il) :
    Calls Try.prog 21 #[.pointer (some ⟨D, 0, none⟩)] w fun x w' => x = .returned (.bool il) ∧ w' = w := by
  obtain ⟨c0, c1⟩ := h.cells
  clear c0
  go_enter Try.func21, Try.ntmps21
  go_wp2
  go_ret
  exact ⟨rfl, rfl⟩
end Go.Proofs.Qxb6603138a
