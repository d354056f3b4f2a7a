import Derived.Test.Qxb6602670aBytes
import Derived.WalkSpells
import Derived.Deep.LoopGhost
import Derived.Deep.WholeRow
import Derived.WalkKit
import Derived.ProofKit
namespace Go.Proofs.Qxb6602670a
open Go.RowKit

/-! ### The plain law: the register over its own complement ends at the good value -/
theorem lo_ix : ∀ l : Fin 256, l.val ^^^ (l.val ^^^ 255) = 255 := by decide +kernel
theorem hi_ix : ∀ h : Fin 256, ((h.val ^^^ 3960) / 256) ^^^ entry (((h.val ^^^ 3960) % 256) ^^^ (h.val ^^^ 255)) = 61624 := by decide +kernel
theorem compl_lo (f : Nat) : (f ^^^ 65535) % 256 = (f % 256) ^^^ 255 := by
  have := Nat.xor_mod_two_pow (a := f) (b := 65535) (n := 8)
  simpa using this
theorem compl_hi (f : Nat) : (f ^^^ 65535) / 256 = (f / 256) ^^^ 255 := by
  have := Nat.shiftRight_xor_distrib (a := f) (b := 65535) (i := 8)
  simpa [Nat.shiftRight_eq_div_pow] using this
theorem good (f : Nat) (hf : f < 65536) : upd (upd f ((f ^^^ 65535) % 256)) ((f ^^^ 65535) / 256) = 61624 := by
  have h1 : upd f ((f ^^^ 65535) % 256) = (f / 256) ^^^ 3960 := by
    unfold upd
    rw [compl_lo, lo_ix ⟨f % 256, by omega⟩]
    rfl
  rw [h1, compl_hi]
  exact hi_ix ⟨f / 256, by omega⟩

theorem fcs_snoc' (l : List Nat) (k : Nat) (h : k < l.length) : fcsOf (l.take (k + 1)) = upd (fcsOf (l.take k)) (l.getD k 0) := by
  rw [List.take_succ_eq_append_getElem h]
  unfold fcsOf
  rw [List.foldl_append]
  simp [List.getD_eq_getElem?_getD, h]

set_option maxHeartbeats 1000000 in
set_option maxRecDepth 100000 in
theorem residue_walk (a : Option Addr) (l : List Nat) (len cap : Nat) (w : World) (hlen : l.length = len) (hl : len ≤ cap) (hm : cap ≤ maxLen) (hB : BytesAt w a l) :
    Calls Try.prog 5 #[.slice a len cap] w fun e w' => e = .returned (.bool true) ∧ Gb w w' := by
  unfold maxLen at hm
  have hm2 : (len : Int) ≤ 9223372036854775807 := by omega
  clear hl hm
  by_cases hbig : 1048576 < len
  · go_enter Try.func5, Try.ntmps5
    go_wp2_with (go_at_call 11; refine (zz11_no _ _ _ _ hbig).mono ?_; rintro e w' ⟨rfl, rfl⟩)
    go_ret
    exact ⟨rfl, Gb.refl _⟩
  · have hb2 : ¬ ((1048576 : Int) < (len : Int)) := by omega
    have hb3 : decide ((1048576 : Int) < (len : Int)) = false := by simpa using hb2
    have hv := zero23
    go_enter Try.func5, Try.ntmps5
    go_wp2_with (go_at_call 11; refine (zz11_yes _ _ _ _ (by omega)).mono ?_; rintro e w' ⟨rfl, rfl⟩)
    refine (zzmk_calls _).mono ?_
    rintro e w1 ⟨rfl, hb⟩
    have hg0 : (w1.alloc (.cells (tabTo 0) 23)).heap[w1.heap.size]? = some (.cells (tabTo 0) 23 (0, 0)) := heap_alloc_last w1 _
    go_wp2_with (refine wpList_store_row rfl 23 _ _ rfl w1.heap.size (tabTo 256) rfl rfl 23 (tabTo 0) hg0 (by rw [tabTo_size]; exact size23) (by rw [tabTo_size, tabTo_size]) (tabTo_one _) ?_)
    rw [World.setRow_alloc_new]
    have hgr := hb.alloc (tabTo 256) 23
    have hB2 := hB.below hgr.below
    have ht : TabAt (w1.alloc (.cells (tabTo 256) 23)) w1.heap.size := fun i hi => by
      rw [cell_of_row _ _ i _ 23 (0, 0) (heap_alloc_last w1 _)]; exact tab_get i hi
    clear hg0 hv
    generalize w1.alloc (.cells (tabTo 256) 23) = w2 at *
    go_loopg [5, 4] len (fun g i v wx => ∃ k : Nat, k + g = len ∧ i = .int .i64 k ∧ v = .int .u16 (fcsOf (l.take k) : Nat) ∧ wx = w2)
    case atStart => exact ⟨0, by omega, rfl, rfl, rfl⟩
    case round =>
      obtain ⟨k, hk, rfl, rfl, rfl⟩ := hrel
      have hf := fcsOf_lt (l.take k) (fun o ho => hB.1 o (List.mem_of_mem_take ho))
      cases gk with
      | zero =>
        obtain rfl : k = len := by omega
        have hlt : ¬ ((k : Int) < (k : Int)) := by omega
        generalize fcsOf (l.take k) = f at *
        have hgd : Hid (upd (upd f ((f ^^^ 65535) % 256)) ((f ^^^ 65535) / 256) = 61624) := good f hf
        have ht0 : f ^^^ 65535 < 65536 := Nat.xor_lt_two_pow (n := 16) (by omega) (by omega)
        have e0 : bits BinOp.xor IntKind.u16 (f : Int) 65535 = ((f ^^^ 65535 : Nat) : Int) := u16_xor_nat f 65535 hf (by omega)
        generalize f ^^^ 65535 = t at *
        obtain ⟨x, hx, e1, e2⟩ := upd_bits f (t % 256) hf (by omega)
        rw [show ((t % 256 : Nat) : Int) = (t : Int) % 256 by omega] at e1
        have hf1 := upd_lt f (t % 256) hf (by omega)
        generalize upd f (t % 256) = f1 at *
        obtain ⟨y, hy, e3, e4⟩ := upd_bits f1 (t / 256) hf1 (by omega)
        rw [show ((t / 256 : Nat) : Int) = (t : Int) / 256 by omega] at e3
        generalize upd f1 (t / 256) = f2 at *
        have hx2 : (x : Int) < 256 := by omega
        have hy2 : (y : Int) < 256 := by omega
        have hcx := ht x hx
        have hcy := ht y hy
        have hfin : ((f2 : Int) == 61624) = true := by rw [hgd.out]; rfl
        go_wp2
        go_ret
        exact ⟨rfl, hgr⟩
      | succ g =>
        have hlt : (k : Int) < (len : Int) := by omega
        obtain ⟨b, off, rfl, hbl, hc⟩ := hB2.at k (by omega)
        have hck := hc k (by omega)
        have ho := hB.lt k
        have HS : Hid (fcsOf (l.take (k + 1)) = upd (fcsOf (l.take k)) (l.getD k 0)) := fcs_snoc' l k (by omega)
        generalize fcsOf (l.take k) = f at *
        generalize l.getD k 0 = o at *
        obtain ⟨x, hx, e1, e2⟩ := upd_bits f o hf ho
        have hx2 : (x : Int) < 256 := by omega
        have hct := ht x hx
        go_wp2
        go_roundg g
        case measure => omega
        case rel => exact ⟨k + 1, by omega, by go_num, by rw [HS.out], rfl⟩
end Go.Proofs.Qxb6602670a
