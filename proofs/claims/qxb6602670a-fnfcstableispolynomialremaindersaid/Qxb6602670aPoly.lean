import Derived.Test.Qxb6602670aTab
import Derived.WalkSpells
import Derived.Deep.LoopGhost
import Derived.WalkKit
import Derived.ProofKit
import Derived.Deep.QuietTactic
import Derived.BigQuiet
import Derived.Deep.WholeRow
namespace Go.Proofs.Qxb6602670a
open Go.RowKit
def r8 (b : Int) : Nat → Int
  | 0 => 0
  | k + 1 => bits .or .u8 (r8 b k * 2 % 256) (bits .and .u8 (b / 2 ^ k) 1)
def r16 (b : Int) : Nat → Int
  | 0 => 0
  | k + 1 => bits .or .u16 (IntKind.u16.wrap (r16 b k * 2)) (bits .and .u16 (b / 2 ^ k) 1)
def pstep (v : Int) (q : Nat) : Int := if (bits .and .u32 v (2 ^ (q + 16) % 4294967296) != 0) = true then bits .xor .u32 v (69665 * 2 ^ q % 4294967296) else v
def pv (b : Int) : Nat → Int
  | 0 => r8 b 8 % 4294967296 * 65536 % 4294967296
  | j + 1 => pstep (pv b j) (7 - j)
theorem wrap_u16 (r : Int) : 0 ≤ IntKind.u16.wrap r ∧ IntKind.u16.wrap r < 65536 :=
  ⟨wrap_u16_nonneg r, by simp [IntKind.wrap, IntKind.bits, IntKind.signed]; omega⟩
set_option maxHeartbeats 1000000 in
set_option maxRecDepth 100000 in
theorem rev8_calls (b : Int) (_h0 : 0 ≤ b) (_h1 : b < 256) (w : World) :
    Calls Try.prog 23 #[.int .u8 b] w fun e w' => e = .returned (.int .u8 (r8 b 8)) ∧ w' = w := by
  go_enter Try.func23, Try.ntmps23
  go_wp2
  go_loopg [4, 3] 8 (fun g i v wx => ∃ k : Nat, k + g = 8 ∧ i = .int .i64 k ∧ v = .int .u8 (r8 b k) ∧ wx = w)
  case atStart => exact ⟨0, by omega, rfl, rfl, rfl⟩
  case round =>
    obtain ⟨k, hk, rfl, rfl, rfl⟩ := hrel
    cases gk with
    | zero =>
      obtain rfl : k = 8 := by omega
      go_wp2
      go_ret
      exact ⟨rfl, rfl⟩
    | succ g =>
      have hk2 : (k : Int) < 8 := by omega
      go_wp2
      go_roundg g
      case measure => omega
      case rel => exact ⟨k + 1, by omega, by go_num, by rw [r8], rfl⟩
set_option maxHeartbeats 1000000 in
set_option maxRecDepth 100000 in
theorem rev16_calls (b : Int) (_h0 : 0 ≤ b) (_h1 : b < 65536) (w : World) :
    Calls Try.prog 24 #[.int .u16 b] w fun e w' => e = .returned (.int .u16 (r16 b 16)) ∧ w' = w := by
  go_enter Try.func24, Try.ntmps24
  go_wp2
  go_loopg [4, 3] 16 (fun g i v wx => ∃ k : Nat, k + g = 16 ∧ i = .int .i64 k ∧ v = .int .u16 (r16 b k) ∧ wx = w)
  case atStart => exact ⟨0, by omega, rfl, rfl, rfl⟩
  case round =>
    obtain ⟨k, hk, rfl, rfl, rfl⟩ := hrel
    cases gk with
    | zero =>
      obtain rfl : k = 16 := by omega
      go_wp2
      go_ret
      exact ⟨rfl, rfl⟩
    | succ g =>
      have hk2 : (k : Int) < 16 := by omega
      go_wp2
      go_roundg g
      case measure => omega
      case rel => exact ⟨k + 1, by omega, by go_num, by rw [r16], rfl⟩
set_option maxHeartbeats 1000000 in
set_option maxRecDepth 100000 in
theorem poly_calls (b : Int) (h0 : 0 ≤ b) (h1 : b < 256) (w : World) :
    Calls Try.prog 10 #[.int .u8 b] w fun e w' => e = .returned (.int .u16 (r16 (IntKind.u16.wrap (pv b 8)) 16)) ∧ w' = w := by
  go_enter Try.func10, Try.ntmps10
  go_wp2_with fail
  refine (rev8_calls b h0 h1 _).mono ?_
  rintro e w' ⟨rfl, hw⟩
  subst hw
  go_wp2_with fail
  go_loopg [4, 3] 8 (fun g i v wx => ∃ j : Nat, j + g = 8 ∧ i = .int .i64 (15 + g : Nat) ∧ v = .int .u32 (pv b j) ∧ wx = w')
  case atStart => exact ⟨0, by omega, rfl, rfl, rfl⟩
  case round =>
    obtain ⟨j, hk, rfl, rfl, rfl⟩ := hrel
    cases gk with
    | zero =>
      obtain rfl : j = 8 := by omega
      go_wp2_with fail
      have hw := wrap_u16 (pv b 8)
      refine (rev16_calls _ hw.1 hw.2 _).mono ?_
      rintro e w' ⟨rfl, hw⟩
      subst hw
      go_wp2
      go_ret
      exact ⟨rfl, rfl⟩
    | succ g =>
      obtain ⟨q, hq⟩ : ∃ q, 15 + (g + 1) = q + 16 := ⟨g, by omega⟩
      have hq2 : q < 8 := by omega
      have hqj : q = 7 - j := by omega
      have HP : Hid (pv b (j + 1) = pstep (pv b j) q) := by rw [hqj]; rfl
      have hd : decide ((16 : Int) ≤ (q : Int) + 16) = true := decide_eq_true (by omega)
      clear hqj
      rw [hq]
      go_wp2
      · go_roundg g
        case measure => omega
        case rel => exact ⟨j + 1, by omega, by rw [show ((q : Int) + 16 - 1) = ((15 + g : Nat) : Int) by omega], by rw [HP.out, pstep, if_pos (by assumption)], rfl⟩
      · go_roundg g
        case measure => omega
        case rel => exact ⟨j + 1, by omega, by rw [show ((q : Int) + 16 - 1) = ((15 + g : Nat) : Int) by omega], by rw [HP.out, pstep, if_neg (by simp [*])], rfl⟩
theorem poly_is : ∀ i : Fin 256, r16 (IntKind.u16.wrap (pv (i.val : Int) 8)) 16 = ((entry i.val : Nat) : Int) := by decide +kernel

set_option maxHeartbeats 1000000 in
set_option maxRecDepth 100000 in
theorem table_walk (w : World) :
    Calls Try.prog 3 #[] w fun e w' => e = .returned (.bool true) ∧ Gb w w' := by
  have hv := zero23
  go_enter Try.func3, Try.ntmps3
  go_wp2_with fail
  refine (zzmk_calls _).mono ?_
  rintro e w1 ⟨rfl, hb⟩
  have hg0 : (w1.alloc (.cells (tabTo 0) 23)).heap[w1.heap.size]? = some (.cells (tabTo 0) 23 (0, 0)) := heap_alloc_last w1 _
  go_wp2_with (refine wpList_store_row rfl 23 _ _ rfl w1.heap.size (tabTo 256) rfl rfl 23 (tabTo 0) hg0 (by rw [tabTo_size]; exact size23) (by rw [tabTo_size, tabTo_size]) (tabTo_one _) ?_)
  rw [World.setRow_alloc_new]
  have hgr := hb.alloc (tabTo 256) 23
  have ht : TabAt (w1.alloc (.cells (tabTo 256) 23)) w1.heap.size := fun i hi => by
    rw [cell_of_row _ _ i _ 23 (0, 0) (heap_alloc_last w1 _)]; exact tab_get i hi
  clear hg0 hv
  generalize w1.alloc (.cells (tabTo 256) 23) = w2 at *
  go_loopg [2] 256 (fun g i wx => ∃ k : Nat, k + g = 256 ∧ i = .int .i64 k ∧ Gb w wx ∧ TabAt wx w1.heap.size)
  case atStart => exact ⟨0, by omega, rfl, hgr, ht⟩
  case round =>
    obtain ⟨k, hk, rfl, hgr, ht⟩ := hrel
    cases gk with
    | zero =>
      obtain rfl : k = 256 := by omega
      go_wp2
      go_ret
      exact ⟨rfl, hgr⟩
    | succ g =>
      have hk2 : (k : Int) < 256 := by omega
      have hc := ht k (by omega)
      have hp := poly_is ⟨k, by omega⟩
      have hpc : ∀ wx, Calls Try.prog 10 #[.int .u8 (k : Int)] wx fun e w' => e = .returned (.int .u16 ((entry k : Nat) : Int)) ∧ w' = wx := fun wx => by
        have := poly_calls (k : Int) (by omega) (by omega) wx
        rw [show r16 (IntKind.u16.wrap (pv (k : Int) 8)) 16 = ((entry k : Nat) : Int) from hp] at this
        exact this
      clear hp
      have HP : Hid (∀ wx, Calls Try.prog 10 #[.int .u8 (k : Int)] wx fun e w' => e = .returned (.int .u16 ((entry k : Nat) : Int)) ∧ w' = wx) := hpc
      clear hpc
      go_wp2
      go_quiet ((go_at_call 10; exact Calls.quiet_of_same (HP.out _)))
      go_wp2
      go_roundg g
      case measure => omega
      case rel => exact ⟨k + 1, by omega, by go_num, hgr.drewN _, ht⟩
end Go.Proofs.Qxb6602670a
