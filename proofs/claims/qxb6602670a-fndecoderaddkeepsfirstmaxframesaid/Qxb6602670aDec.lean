import Derived.Test.Qxb6602670aStuff
import Derived.OneCell
namespace Go.Proofs.Qxb6602670a
open Go.RowKit

/-- A Decoder at block D: its four fields. -/
def DecAt (w : World) (D : Nat) (v : Value) (e ov : Bool) (dr : Int) : Prop := w.heap[D]? = some (.cells #[v, .bool e, .bool ov, .int .i64 dr] 47 (0, 0))
theorem DecAt.lt {w : World} {D : Nat} {v : Value} {e ov : Bool} {dr : Int} (h : DecAt w D v e ov dr) : D < w.heap.size := lt_of_block h
theorem DecAt.cells {w : World} {D : Nat} {v : Value} {e ov : Bool} {dr : Int} (h : DecAt w D v e ov dr) :
    w.cell? ⟨D, 0, none⟩ = some v ∧ w.cell? ⟨D, 1, none⟩ = some (.bool e) ∧ w.cell? ⟨D, 2, none⟩ = some (.bool ov) ∧ w.cell? ⟨D, 3, none⟩ = some (.int .i64 dr) :=
  ⟨by rw [cell_of_row w D 0 _ 47 (0, 0) h]; rfl, by rw [cell_of_row w D 1 _ 47 (0, 0) h]; rfl, by rw [cell_of_row w D 2 _ 47 (0, 0) h]; rfl, by rw [cell_of_row w D 3 _ 47 (0, 0) h]; rfl⟩
theorem DecAt.free {w : World} {D : Nat} {v : Value} {e ov : Bool} {dr : Int} (h : DecAt w D v e ov dr) (j : Nat) : w.frozen? ⟨D, j, none⟩ = false := frozen_of_row w D j _ 47 h
theorem DecAt.apart {w : World} {D base n : Nat} {v v1 : Value} {e ov : Bool} {dr : Int} {xs : List Value} (h : DecAt w D v1 e ov dr) (ho : w.ownsRow base 5 1 v n xs) : v.ownBlock ≠ some D := by
  rcases ho.2 with ⟨rfl, _⟩ | ⟨g, cap, cur, rfl, _, hg, _⟩
  · simp [Value.ownBlock]
  · intro he
    simp only [Value.ownBlock, Option.some.injEq] at he
    subst he
    unfold DecAt at h
    rw [h] at hg
    simp at hg

set_option maxHeartbeats 1000000 in
set_option maxRecDepth 100000 in
theorem new_calls (v : Value) (hv : ∃ a n c, v = .slice a n c) (e ov : Bool) (dr : Int) (w : World) :
    Calls Try.prog 19 #[v, .bool e, .bool ov, .int .i64 dr] w fun x w' => x = .returned (.pointer (some ⟨w.heap.size, 0, none⟩)) ∧ w' = w.alloc (.cells #[v, .bool e, .bool ov, .int .i64 dr] 47) := by
  obtain ⟨a, n, c, rfl⟩ := hv
  go_enter Try.func19, Try.ntmps19
  go_wp2
  go_ret
  exact ⟨rfl, rfl⟩

set_option maxHeartbeats 1000000 in
set_option maxRecDepth 100000 in
theorem fields_calls (D : Nat) (v : Value) (hv : ∃ a n c, v = .slice a n c) (e ov : Bool) (dr : Int) (w : World) (h : DecAt w D v e ov dr) :
    Calls Try.prog 21 #[.pointer (some ⟨D, 0, none⟩)] w fun x w' => x = .returned (.tuple #[v, .bool e, .bool ov, .int .i64 dr]) ∧ ∃ n, w' = w.drewN n := by
  obtain ⟨a, n, c, rfl⟩ := hv
  obtain ⟨c0, c1, c2, c3⟩ := h.cells
  go_enter Try.func21, Try.ntmps21
  go_wp2
  go_quiet (fail)
  go_wp2
  exact bodyPost_ret (v := .tuple #[.slice a n c, .bool e, .bool ov, .int .i64 dr]) (by simp [results, Try.results21, go_sem]) rfl ⟨rfl, nq, rfl⟩

/-! ### One octet added -/
set_option maxHeartbeats 1000000 in
set_option maxRecDepth 100000 in
theorem add_full (D base : Nat) (v : Value) (l : List Nat) (e ov : Bool) (dr : Int) (o : Nat) (w : World) (h : DecAt w D v e ov dr) (hown : Owns w base v l) (hlt : ∀ x ∈ l, x < 256) (hbD : base ≤ D) (hl : 4096 ≤ l.length) :
    Calls Try.prog 26 #[.pointer (some ⟨D, 0, none⟩), .int .u8 (o : Int)] w fun x w' => x = .returned (.tuple #[]) ∧ DecAt w' D v e true dr ∧ Owns w' base v l ∧ Below base w w' := by
  obtain ⟨a, cap, rfl, hc, hm, _⟩ := owned_bytes hown hlt
  obtain ⟨c0, c1, c2, c3⟩ := h.cells
  have hf := h.free 2
  have hl2 : (4096 : Int) ≤ (l.length : Int) := by omega
  have hd' : DecAt (w.setCell ⟨D, 2, none⟩ (.bool true)) D (.slice a l.length cap) e true dr := heap_setCell_same w D 2 _ 47 (.bool true) h
  have ho' : Owns (w.setCell ⟨D, 2, none⟩ (.bool true)) base (.slice a l.length cap) l := ownsRow_setCell_other hown (h.apart hown) _
  have hb' : Below base w (w.setCell ⟨D, 2, none⟩ (.bool true)) := (Below.refl _ _).setCell hbD _
  clear h hown
  go_enter Try.func26, Try.ntmps26
  go_wp2
  exact bodyPost_ret (v := .tuple #[]) (results_none rfl _ _ _) rfl ⟨rfl, hd', ho', hb'⟩

/-- Behind the append, outside the walk. -/
theorem add_after {D base : Nat} {w w1 : World} {v v' : Value} {l : List Nat} {e ov : Bool} {dr : Int} {o : Nat} {ob : Obj} (h : DecAt w D v e ov dr) (hown : Owns w base v l) (hlt : ∀ x ∈ l, x < 256) (ho : o < 256)
    (hbase : base ≤ w.heap.size) (hbD : base ≤ D) (hown' : w1.ownsRow base 5 1 v' (l.length + 1) (B8 l ++ [.int .u8 (o : Int)])) (hg : (w.alloc ob).grownBy w1 v.ownBlock) :
    (∃ a' n' c', v' = .slice a' n' c') ∧ w1.cell? ⟨D, 0, none⟩ = some v ∧ w1.frozen? ⟨D, 0, none⟩ = false ∧
    Hid (DecAt (w1.setCell ⟨D, 0, none⟩ v') D v' e ov dr ∧ Owns (w1.setCell ⟨D, 0, none⟩ v') base v' (l ++ [o]) ∧ Below base w (w1.setCell ⟨D, 0, none⟩ v')) := by
  obtain ⟨hO, hb⟩ := round_own (r := [o]) (Below.refl base w) hbase hown hown' rfl hg
  have hd1 : DecAt w1 D v e ov dr := by
    unfold DecAt
    rw [hg.block D (by have := h.lt; simp; omega) (fun e => h.apart hown e.symm), Below.heap_alloc _ _ _ h.lt]
    exact h
  obtain ⟨a', c', e', _⟩ := owned_bytes (l := l ++ [o]) hO (fun x hx => by
    rcases List.mem_append.1 hx with hx | hx
    · exact hlt x hx
    · simp at hx; omega)
  refine ⟨⟨a', _, c', e'⟩, hd1.cells.1, hd1.free 0, ?_⟩
  exact ⟨heap_setCell_same w1 D 0 _ 47 v' hd1, ownsRow_setCell_other hO (hd1.apart hO) _, hb.setCell hbD _⟩

set_option maxHeartbeats 1000000 in
set_option maxRecDepth 100000 in
theorem add_room (D base : Nat) (v : Value) (l : List Nat) (e ov : Bool) (dr : Int) (o : Nat) (w : World) (h : DecAt w D v e ov dr) (hown : Owns w base v l) (hlt : ∀ x ∈ l, x < 256) (ho : o < 256) (hbD : base ≤ D) (hbase : base ≤ w.heap.size) (hl : l.length < 4096) :
    Calls Try.prog 26 #[.pointer (some ⟨D, 0, none⟩), .int .u8 (o : Int)] w fun x w' => x = .returned (.tuple #[]) ∧ ∃ v', DecAt w' D v' e ov dr ∧ Owns w' base v' (l ++ [o]) ∧ Below base w w' := by
  obtain ⟨i0, hi, hz0, hz1, hz2⟩ := info_parts info5
  obtain ⟨a, cap, rfl, hc, hm, _⟩ := owned_bytes hown hlt
  obtain ⟨c0, c1, c2, c3⟩ := h.cells
  have hl2 : ¬ ((4096 : Int) ≤ (l.length : Int)) := by omega
  have hDl := h.lt
  have hown0 : w.ownsRow base 5 1 (.slice a l.length cap) l.length (B8 l) := hown
  go_enter Try.func26, Try.ntmps26
  go_wp2_with (at_builtin; refine wpList_append_own _ rfl (.tmp 17) (.tmp 19) 30 rfl base 5 i0 (.int .u8 0) 1 1 Try.underlying30 hi hz0 hz1 hz2 rfl (by decide) _ _ _ rfl (hown0.alloc _) ⟨w.heap.size, 0, none⟩ 1 1 [.int .u8 (o : Int)] rfl rfl (one_new _ _ _) (B8_one [o]) (by unfold maxLen; omega) (by omega) (by simp; omega) ?_; intro v' w1 hown' hgrow _; obtain ⟨⟨a', n', c', hv'⟩, cc0, hf0, HR⟩ := add_after h hown hlt ho hbase hbD hown' hgrow; subst hv'; clear hown' hgrow)
  go_end0
  exact ⟨rfl, _, HR.out⟩

theorem zzadd_full (D base : Nat) (v : Value) (l : List Nat) (e ov : Bool) (dr : Int) (o : Nat) (w : World) (h : DecAt w D v e ov dr) (hown : Owns w base v l) (hlt : ∀ x ∈ l, x < 256) (hbD : base ≤ D) (hl : 4096 ≤ l.length) :
    Calls Try.prog 20 #[.pointer (some ⟨D, 0, none⟩), .int .u8 (o : Int)] w fun x w' => x = .returned (.tuple #[]) ∧ DecAt w' D v e true dr ∧ Owns w' base v l ∧ Below base w w' := by
  go_enter Try.func20, Try.ntmps20
  go_wp2_with fail
  refine (add_full D base v l e ov dr o w h hown hlt hbD hl).mono ?_
  rintro x w' ⟨rfl, h1, h2, h3⟩
  go_wp2
  go_end0
  exact ⟨rfl, h1, h2, h3⟩
theorem zzadd_room (D base : Nat) (v : Value) (l : List Nat) (e ov : Bool) (dr : Int) (o : Nat) (w : World) (h : DecAt w D v e ov dr) (hown : Owns w base v l) (hlt : ∀ x ∈ l, x < 256) (ho : o < 256) (hbD : base ≤ D) (hbase : base ≤ w.heap.size) (hl : l.length < 4096) :
    Calls Try.prog 20 #[.pointer (some ⟨D, 0, none⟩), .int .u8 (o : Int)] w fun x w' => x = .returned (.tuple #[]) ∧ ∃ v', DecAt w' D v' e ov dr ∧ Owns w' base v' (l ++ [o]) ∧ Below base w w' := by
  go_enter Try.func20, Try.ntmps20
  go_wp2_with fail
  refine (add_room D base v l e ov dr o w h hown hlt ho hbD hbase hl).mono ?_
  rintro x w' ⟨rfl, v', h1, h2, h3⟩
  go_wp2
  go_end0
  exact ⟨rfl, v', h1, h2, h3⟩
end Go.Proofs.Qxb6602670a
