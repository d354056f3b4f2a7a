import Derived.Test.Qxb6602670aRows
import Derived.WalkKit
import Derived.ProofKit
import Derived.WalkSpells
import Derived.Deep.WholeRow
import Derived.Deep.LoopGhost
import Derived.Deep.Draws
import Derived.Laws.BitsAllLaws
namespace Go.Proofs.Qxb6602670a
open Go.RowKit

/-! ### The plain table: one bit's step, a register's eight steps, the table half filled -/
def fst1 (v : Nat) : Nat := if v % 2 = 1 then (v / 2) ^^^ 33800 else v / 2
def iter : Nat → Nat → Nat
  | 0, v => v
  | m + 1, v => fst1 (iter m v)
def entry (i : Nat) : Nat := iter 8 i
def tabTo (k : Nat) : Array Value := ((List.range 256).map (fun i => if i < k then .int .u16 (entry i) else .int .u16 0)).toArray

theorem fst1_lt (v : Nat) (h : v < 65536) : fst1 v < 65536 := by
  unfold fst1
  split
  · exact Nat.xor_lt_two_pow (n := 16) (by omega) (by omega)
  · omega
theorem iter_lt (m v : Nat) (h : v < 65536) : iter m v < 65536 := by
  induction m with
  | zero => exact h
  | succ m ih => exact fst1_lt _ ih
theorem entry_lt (v : Nat) (h : v < 65536) : entry v < 65536 := iter_lt 8 v h

theorem tabTo_size (k : Nat) : (tabTo k).size = 256 := by simp [tabTo]
theorem tabTo_get (k i : Nat) (h : i < 256) : (tabTo k)[i]? = some (if i < k then .int .u16 (entry i) else .int .u16 0) := by
  simp [tabTo, h]
theorem tabTo_at (k : Nat) (h : k < 256) : (tabTo k)[k]? = some (.int .u16 0) := by
  rw [tabTo_get k k h, if_neg (Nat.lt_irrefl k)]
theorem tabTo_succ (k : Nat) (h : k < 256) : (tabTo k).setIfInBounds k (.int .u16 (entry k)) = tabTo (k + 1) := by
  apply Array.ext_getElem?
  intro i
  rw [Array.getElem?_setIfInBounds]
  by_cases hi : i < 256
  · rw [tabTo_get _ i hi, tabTo_get _ i hi, tabTo_size]
    by_cases e : k = i
    · subst e; simp [h]
    · have : (i < k) ↔ (i < k + 1) := by omega
      simp [e, this]
  · have h1 : (tabTo k)[i]? = none := by rw [Array.getElem?_eq_none_iff, tabTo_size]; omega
    have h2 : (tabTo (k+1))[i]? = none := by rw [Array.getElem?_eq_none_iff, tabTo_size]; omega
    have e : k ≠ i := by omega
    simp [h1, h2, e]
theorem tabTo_one (k : Nat) : (tabTo k).all (·.oneCell') = true := by
  rw [Array.all_eq_true_iff_forall_mem]
  intro v hv
  simp only [tabTo, List.mem_toArray, List.mem_map] at hv
  obtain ⟨i, _, rfl⟩ := hv
  split <;> rfl

theorem zero23 : ∀ w, (zeroValue 23).run Try.prog w = .ok (.agg (tabTo 0)) w :=
  (zero_of_info (n := 256) (v := .agg (tabTo 0)) (by kernel_rfl)).1
theorem size23 : (Try.prog.info? 23).map (·.size) = some 256 := by kernel_rfl

theorem odd_of (v : Nat) (hb : v < 65536) (h : (bits BinOp.and IntKind.u16 (v : Int) 1 != 0) = true) : v % 2 = 1 := by
  have e := u16_and_nat v 1 hb (by omega)
  rw [show ((1 : Nat) : Int) = 1 from rfl] at e
  rw [e, bne_iff_ne] at h
  rw [Nat.and_one_is_mod] at h
  omega
theorem even_of (v : Nat) (hb : v < 65536) (h : (bits BinOp.and IntKind.u16 (v : Int) 1 != 0) = false) : v % 2 ≠ 1 := by
  have e := u16_and_nat v 1 hb (by omega)
  rw [show ((1 : Nat) : Int) = 1 from rfl] at e
  rw [e, bne_eq_false_iff_eq] at h
  rw [Nat.and_one_is_mod] at h
  omega
theorem xor_step (v : Nat) (hb : v < 65536) : bits BinOp.xor IntKind.u16 ((v : Int) / 2) 33800 = ((v / 2 ^^^ 33800 : Nat) : Int) := by
  have e := u16_xor_nat (v / 2) 33800 (by omega) (by omega)
  rw [← e]
  rfl

/-! ### 'Gb w w'': new blocks behind w, none of them frozen; of what was there nothing turns -/
theorem below_setRow {B : Nat} {a w : World} (h : Below B a w) (g : Nat) (hg : B ≤ g) (c : Array Value) : Below B a (w.setRow g c) :=
  ⟨h.os, h.tape, h.output, by simpa [World.setRow] using h.size, fun q hq => by
    rw [← h.block q hq]
    simp only [World.setRow, Array.getElem?_modify]
    rw [if_neg (by omega)]⟩

theorem frozen_setRow (w : World) (g : Nat) (c : Array Value) (a : Addr) : (w.setRow g c).frozen? a = w.frozen? a := by
  simp only [World.setRow, World.frozen?, Array.getElem?_modify]
  by_cases hg : g = a.block
  · rw [if_pos hg]
    cases h : w.heap[a.block]? with
    | none => rfl
    | some o => cases o <;> rfl
  · rw [if_neg hg]
structure Gb (w w' : World) : Prop where
  below : Below w.heap.size w w'
  frz : ∀ a, w'.frozen? a = w.frozen? a
theorem Gb.refl (w : World) : Gb w w := ⟨Below.refl _ _, fun _ => rfl⟩
theorem Gb.size {w w' : World} (h : Gb w w') : w.heap.size ≤ w'.heap.size := h.below.size
theorem Gb.trans {a b c : World} (h : Gb a b) (k : Gb b c) : Gb a c := ⟨h.below.trans (k.below.mono h.size), fun x => (k.frz x).trans (h.frz x)⟩
theorem Gb.alloc {a w : World} (h : Gb a w) (c : Array Value) (t : TypeId) : Gb a (w.alloc (.cells c t)) :=
  ⟨h.below.alloc h.size _, fun x => (frozen?_alloc_cells _ _ _ x).trans (h.frz x)⟩
theorem Gb.setCell {a w : World} (h : Gb a w) {p : Addr} (hp : a.heap.size ≤ p.block) (v : Value) : Gb a (w.setCell p v) :=
  ⟨h.below.setCell hp v, fun x => (World.frozen?_setCell _ _ _ _).trans (h.frz x)⟩
theorem Gb.setRow {a w : World} (h : Gb a w) (g : Nat) (hg : a.heap.size ≤ g) (c : Array Value) : Gb a (w.setRow g c) :=
  ⟨below_setRow h.below g hg c, fun x => (frozen_setRow _ _ _ _).trans (h.frz x)⟩
theorem Gb.drewN {a w : World} (h : Gb a w) (n : Nat) : Gb a (w.drewN n) :=
  ⟨⟨h.below.os, h.below.tape, h.below.output, h.below.size, h.below.block⟩, h.frz⟩
theorem Gb.grown {w w' : World} (h : Gb w w') : Grown w w' := ⟨h.below.frame _, h.frz, h.size⟩

set_option maxHeartbeats 1000000 in
set_option maxRecDepth 100000 in
theorem mk_calls (w : World)  :
    Calls Try.prog 22 #[] w fun e w' => e = .returned (.agg (tabTo 256)) ∧ Gb w w' := by
  have hv := zero23
  go_enter Try.func22, Try.ntmps22
  go_wp2
  go_loopg [4,2,3] 256 (fun g i _i2 _v wx => ∃ k : Nat, k + g = 256 ∧ i = .int .i64 k ∧ wx = (w.alloc (.cells (tabTo 0) 23)).alloc (.cells (tabTo k) 23))
  case atStart => exact ⟨0, by omega, rfl, rfl⟩
  case round =>
    obtain ⟨k, hk, rfl, rfl⟩ := hrel
    cases gk with
    | zero =>
      obtain rfl : k = 256 := by omega
      have hg1 : ((w.alloc (.cells (tabTo 0) 23)).alloc (.cells (tabTo 256) 23)).heap[w.heap.size + 1]? = some (.cells (tabTo 256) 23 (0, 0)) := by
        have := heap_alloc_last (w.alloc (.cells (tabTo 0) 23)) (.cells (tabTo 256) 23)
        simpa using this
      have hg0 : ((w.alloc (.cells (tabTo 0) 23)).alloc (.cells (tabTo 256) 23)).heap[w.heap.size]? = some (.cells (tabTo 0) 23 (0, 0)) := by
        rw [Below.heap_alloc _ _ _ (by simp)]
        exact heap_alloc_last w _
      have hg2 : (((w.alloc (.cells (tabTo 0) 23)).alloc (.cells (tabTo 256) 23)).setRow w.heap.size (tabTo 256)).heap[w.heap.size]? = some (.cells (tabTo 256) 23 (0, 0)) := by
        simp only [World.setRow, Array.getElem?_modify, hg0]
        simp
      have hbel : Gb w (((w.alloc (.cells (tabTo 0) 23)).alloc (.cells (tabTo 256) 23)).setRow w.heap.size (tabTo 256)) :=
        (((Gb.refl w).alloc (tabTo 0) 23).alloc (tabTo 256) 23).setRow _ (Nat.le_refl _) _
      clear hv
      go_wp2_with (first | (refine wpList_load_row rfl 23 _ rfl (w.heap.size + 1) rfl 23 (tabTo 256) (0, 0) _ hg1 Try.underlying23 rfl (by rw [tabTo_size]; exact size23) ?_) | (refine wpList_store_row rfl 23 _ _ rfl w.heap.size (tabTo 256) rfl rfl 23 (tabTo 0) hg0 (by rw [tabTo_size]; exact size23) (by rw [tabTo_size, tabTo_size]) (tabTo_one _) ?_))
      refine bodyPost_ret (v := .agg (tabTo 256)) ?_ rfl ⟨rfl, hbel⟩
      exact results_cell_row rfl _ _ w.heap.size 23 (tabTo 256) (0, 0) _ rfl hg2 Try.underlying23 rfl (by rw [tabTo_size]; exact size23)
    | succ g =>
      have hk2 : (k:Int) < 256 := by omega
      go_wp2
      go_loopg [9,3] 8 (fun g2 i9 v3 wx => ∃ m : Nat, m + g2 = 8 ∧ i9 = .int .i64 m ∧ v3 = .int .u16 (iter m k : Nat) ∧ wx = (w.alloc (.cells (tabTo 0) 23)).alloc (.cells (tabTo k) 23))
      case atStart => exact ⟨0, by omega, rfl, rfl, rfl⟩
      case round =>
        obtain ⟨m, hm, rfl, rfl, rfl⟩ := hrel
        have hb := iter_lt m k (by omega)
        cases gk with
        | zero =>
          obtain rfl : m = 8 := by omega
          have hcell := tabTo_at k (by omega)
          go_wp2
          go_roundg g
          case measure => omega
          case rel => exact ⟨k + 1, by omega, by go_num, by rw [← tabTo_succ k (by omega)]; rfl⟩
        | succ g2 =>
          have hm2 : (m : Int) < 8 := by omega
          go_wp2
          · go_roundg g2
            case measure => omega
            case rel => exact ⟨m + 1, by omega, by go_num, by rw [xor_step _ hb, iter, fst1, if_pos (odd_of _ hb (by assumption))], rfl⟩
          · go_roundg g2
            case measure => omega
            case rel => exact ⟨m + 1, by omega, by go_num, by rw [iter, fst1, if_neg (even_of _ hb (by assumption))]; rfl, rfl⟩

set_option maxHeartbeats 1000000 in
set_option maxRecDepth 100000 in
theorem zzmk_calls (w : World)  :
    Calls Try.prog 9 #[] w fun e w' => e = .returned (.agg (tabTo 256)) ∧ Gb w w' := by
  have hv := zero23
  go_enter Try.func9, Try.ntmps9
  go_wp2_with fail
  refine (mk_calls _).mono ?_
  rintro e w1 ⟨rfl, hb⟩
  have hg0 : w1.heap[w.heap.size]? = some (.cells (tabTo 0) 23 (0, 0)) := by
    rw [hb.below.block _ (by simp)]
    exact heap_alloc_last w _
  have hg2 : (w1.setRow w.heap.size (tabTo 256)).heap[w.heap.size]? = some (.cells (tabTo 256) 23 (0, 0)) := by
    simp only [World.setRow, Array.getElem?_modify, hg0]
    simp
  have hbel : Gb w (w1.setRow w.heap.size (tabTo 256)) :=
    (((Gb.refl w).alloc (tabTo 0) 23).trans hb).setRow _ (Nat.le_refl _) _
  clear hv
  go_wp2_with (refine wpList_store_row rfl 23 _ _ rfl w.heap.size (tabTo 256) rfl rfl 23 (tabTo 0) hg0 (by rw [tabTo_size]; exact size23) (by rw [tabTo_size, tabTo_size]) (tabTo_one _) ?_)
  refine bodyPost_ret (v := .agg (tabTo 256)) ?_ rfl ⟨rfl, hbel⟩
  exact results_cell_row rfl _ _ w.heap.size 23 (tabTo 256) (0, 0) _ rfl hg2 Try.underlying23 rfl (by rw [tabTo_size]; exact size23)

/-! ### The register's step over one octet -/
def upd (f o : Nat) : Nat := (f / 256) ^^^ entry ((f % 256) ^^^ o)
def fcsOf (l : List Nat) : Nat := l.foldl upd 65535
theorem upd_lt (f o : Nat) (hf : f < 65536) (ho : o < 256) : upd f o < 65536 := by
  unfold upd
  have h1 : (f % 256) ^^^ o < 256 := Nat.xor_lt_two_pow (n := 8) (by omega) (by omega)
  exact Nat.xor_lt_two_pow (n := 16) (by omega) (entry_lt _ (by omega))
theorem foldl_lt (l : List Nat) : ∀ f, f < 65536 → (∀ o ∈ l, o < 256) → l.foldl upd f < 65536 := by
  induction l with
  | nil => intro f hf _; exact hf
  | cons o l ih =>
    intro f hf hl
    exact ih _ (upd_lt f o hf (hl o (by simp))) (fun x hx => hl x (by simp [hx]))
theorem fcsOf_lt (l : List Nat) (h : ∀ o ∈ l, o < 256) : fcsOf l < 65536 := foldl_lt l _ (by omega) h
theorem upd_bits (f o : Nat) (hf : f < 65536) (ho : o < 256) : ∃ x : Nat, x < 256 ∧ bits BinOp.xor IntKind.u8 ((f : Int) % 256) (o : Int) = (x : Int)
    ∧ bits BinOp.xor IntKind.u16 ((f : Int) / 256) ((entry x : Nat) : Int) = ((upd f o : Nat) : Int) := by
  have h1 : (f % 256) ^^^ o < 256 := Nat.xor_lt_two_pow (n := 8) (by omega) (by omega)
  refine ⟨(f % 256) ^^^ o, h1, ?_, ?_⟩
  · exact u8_xor_nat (f % 256) o (by omega) ho
  · exact u16_xor_nat (f / 256) (entry ((f % 256) ^^^ o)) (by omega) (entry_lt _ (by omega))
theorem tab_get (i : Nat) (h : i < 256) : (tabTo 256)[i]? = some (.int .u16 (entry i)) := by
  rw [tabTo_get 256 i h, if_pos h]

def TabAt (w : World) (b : Nat) : Prop := ∀ i, i < 256 → w.cell? ⟨b, i, none⟩ = some (.int .u16 (entry i))
end Go.Proofs.Qxb6602670a
