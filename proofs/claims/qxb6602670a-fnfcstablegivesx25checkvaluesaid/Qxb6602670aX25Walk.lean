import Derived.Test.Qxb6602670aTab
import Derived.Deep.QuietTactic
import Derived.BigQuiet
import Derived.WalkSpells
import Derived.Deep.LoopGhost
import Derived.Deep.WholeRow
import Derived.WalkKit
import Derived.ProofKit
namespace Go.Proofs.Qxb6602670a
open Go.RowKit

/-- RFC 1662's first row, as the law's text lays it. -/
def row8 : Array Value := #[.int .u16 0, .int .u16 4489, .int .u16 8978, .int .u16 12955, .int .u16 17956, .int .u16 22445, .int .u16 25910, .int .u16 29887]
theorem row8_get : ∀ k, k < 8 → row8[k]? = some (.int .u16 (entry k)) := by
  intro k hk
  match k, hk with
  | 0, _ => rfl
  | 1, _ => rfl
  | 2, _ => rfl
  | 3, _ => rfl
  | 4, _ => rfl
  | 5, _ => rfl
  | 6, _ => rfl
  | 7, _ => rfl
def msg9 : List Nat := [49, 50, 51, 52, 53, 54, 55, 56, 57]
theorem msg9_lt (o : Nat) (h : o ∈ msg9) : o < 256 := by simp [msg9] at h; omega
theorem msg9_getD_lt (k : Nat) : msg9.getD k 0 < 256 := by
  rw [List.getD_eq_getElem?_getD]
  cases h : msg9[k]? with
  | none => simp
  | some o => exact msg9_lt o (List.mem_of_getElem? h)
theorem fcs_snoc (k : Nat) (h : k < 9) : fcsOf (msg9.take (k + 1)) = upd (fcsOf (msg9.take k)) (msg9.getD k 0) := by
  match k, h with
  | 0, _ => rfl
  | 1, _ => rfl
  | 2, _ => rfl
  | 3, _ => rfl
  | 4, _ => rfl
  | 5, _ => rfl
  | 6, _ => rfl
  | 7, _ => rfl
  | 8, _ => rfl
def msgc : Array Value := #[.int .u8 49, .int .u8 50, .int .u8 51, .int .u8 52, .int .u8 53, .int .u8 54, .int .u8 55, .int .u8 56, .int .u8 57]
def MsgAt (w : World) (b : Nat) : Prop := ∀ i, i < 9 → w.cell? ⟨b, i, none⟩ = some (.int .u8 (msg9.getD i 0 : Nat))
theorem msgc_get : ∀ k, k < 9 → msgc[k]? = some (.int .u8 (msg9.getD k 0 : Nat)) := by
  intro k hk
  match k, hk with
  | 0, _ => rfl
  | 1, _ => rfl
  | 2, _ => rfl
  | 3, _ => rfl
  | 4, _ => rfl
  | 5, _ => rfl
  | 6, _ => rfl
  | 7, _ => rfl
  | 8, _ => rfl
def RowAt (w : World) (b : Nat) : Prop := ∀ i, i < 8 → w.cell? ⟨b, i, none⟩ = some (.int .u16 (entry i))
set_option maxHeartbeats 1000000 in
set_option maxRecDepth 100000 in
theorem x25_walk  (w : World) :
    Calls Try.prog 4 #[] w fun e w' => e = .returned (.bool true) ∧ Grown w w' := by
  have hv := zero23
  go_enter Try.func4, Try.ntmps4
  go_wp2_with fail
  refine (zzmk_calls _).mono ?_
  rintro e w1 ⟨rfl, hb⟩
  have hg0 : (w1.alloc (.cells (tabTo 0) 23)).heap[w1.heap.size]? = some (.cells (tabTo 0) 23 (0, 0)) := heap_alloc_last w1 _
  go_wp2_with (refine wpList_store_row rfl 23 _ _ rfl w1.heap.size (tabTo 256) rfl rfl 23 (tabTo 0) hg0 (by rw [tabTo_size]; exact size23) (by rw [tabTo_size, tabTo_size]) (tabTo_one _) ?_)
  rw [World.setRow_alloc_new]
  have hgr : Gb w (((w1.alloc (.cells (tabTo 256) 23)).alloc (.cells row8 27))) := (hb.alloc _ _).alloc _ _
  have ht0 : TabAt (((w1.alloc (.cells (tabTo 256) 23)).alloc (.cells row8 27))) w1.heap.size := fun i hi => by
    rw [World.cell?_alloc_lt _ _ _ (by simp), cell_of_row _ _ i _ 23 (0, 0) (heap_alloc_last w1 _)]; exact tab_get i hi
  have hr0 : RowAt (((w1.alloc (.cells (tabTo 256) 23)).alloc (.cells row8 27))) (w1.heap.size + 1) := fun i hi => by
    have := heap_alloc_last (w1.alloc (.cells (tabTo 256) 23)) (.cells row8 27)
    rw [show (w1.alloc (.cells (tabTo 256) 23)).heap.size = w1.heap.size + 1 by simp] at this
    rw [cell_of_row _ _ i _ 27 (0, 0) this]; exact row8_get i hi
  have hz0 : w1.heap.size + 1 < (((w1.alloc (.cells (tabTo 256) 23)).alloc (.cells row8 27))).heap.size := by simp
  clear hg0
  go_loopg [3] 8 (fun g i wx => ∃ k : Nat, k + g = 8 ∧ i = .int .i64 k ∧ Gb w wx ∧ TabAt wx w1.heap.size ∧ RowAt wx (w1.heap.size + 1) ∧ w1.heap.size + 1 < wx.heap.size)
  case atStart => exact ⟨0, by omega, rfl, hgr, ht0, hr0, hz0⟩
  case round =>
    obtain ⟨k, hk, rfl, hgr, ht, hr, hz⟩ := hrel
    cases gk with
    | zero =>
      obtain rfl : k = 8 := by omega
      have hc := ht 255 (by omega)
      have he : entry 255 = 3960 := by decide +kernel
      rw [he] at hc
      go_wp2
      have hgr2 := hgr.alloc msgc 28
      have ht2 : TabAt (wr.alloc (.cells msgc 28)) w1.heap.size := fun i hi => by
        rw [World.cell?_alloc_lt _ _ _ (by show w1.heap.size < wr.heap.size; omega)]; exact ht i hi
      have hm2 : MsgAt (wr.alloc (.cells msgc 28)) wr.heap.size := fun i hi => by
        rw [cell_of_row _ _ i _ 28 (0, 0) (heap_alloc_last wr _)]; exact msgc_get i hi
      clear hc
      go_loopg [6, 5] 9 (fun g i v wx => ∃ k : Nat, k + g = 9 ∧ i = .int .i64 k ∧ v = .int .u16 (fcsOf (msg9.take k) : Nat) ∧ Gb w wx ∧ TabAt wx w1.heap.size ∧ MsgAt wx wr.heap.size)
      case atStart => exact ⟨0, by omega, rfl, rfl, hgr2, ht2, hm2⟩
      case round =>
        obtain ⟨k, hk, rfl, rfl, hgr, ht, hm⟩ := hrel
        cases gk with
        | zero =>
          obtain rfl : k = 9 := by omega
          have hfin : (bits BinOp.xor IntKind.u16 ((fcsOf (List.take 9 msg9) : Nat) : Int) 65535 == 36974) = true := by decide +kernel
          go_wp2
          go_ret
          exact ⟨rfl, hgr.grown⟩
        | succ g =>
          have hk2 : (k : Int) < 9 := by omega
          have hf := fcsOf_lt (msg9.take k) (fun o ho => msg9_lt o (List.mem_of_mem_take ho))
          have hcm := hm k (by omega)
          have ho : msg9.getD k 0 < 256 := msg9_getD_lt k
          have HS : Hid (fcsOf (msg9.take (k + 1)) = upd (fcsOf (msg9.take k)) (msg9.getD k 0)) := fcs_snoc k (by omega)
          generalize fcsOf (msg9.take k) = f at *
          generalize msg9.getD k 0 = o at *
          obtain ⟨x, hx, e1, e2⟩ := upd_bits f o hf ho
          have hx2 : (x : Int) < 256 := by omega
          have hct := ht x hx
          go_wp2
          go_roundg g
          case measure => omega
          case rel => exact ⟨k + 1, by omega, by go_num, by rw [HS.out], hgr, ht, hm⟩
    | succ g =>
      have hk2 : (k : Int) < 8 := by omega
      have hk3 : (k : Int) < 256 := by omega
      have hc := ht k (by omega)
      have hc2 := hr k (by omega)
      go_wp2
      go_quiet (fail)
      go_wp2
      go_roundg g
      case measure => omega
      case rel => exact ⟨k + 1, by omega, by go_num, hgr.drewN _, ht, hr, hz⟩
end Go.Proofs.Qxb6602670a
