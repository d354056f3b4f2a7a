import Derived.Test.Qxb6603138aCount
import Derived.Laws.IdiomStrings
import Derived.Laws.BytesArg
namespace Go.Proofs.Qxb6603138a
open Go.RowKit

theorem run_str {w : World} {a : Option Addr} {l : List UInt8} {n c : Nat} (hB : BytesAt w a l) (hn : l.length = n) : (convert 24 9 (.slice a n c)).run Try.prog w = .ok (.string ⟨l.toArray⟩) w := by
  subst hn
  by_cases h0 : 0 < l.length
  · obtain ⟨b, off, rfl, _, hc⟩ := hB.at 0 h0
    refine run_convert_bytes_back w 24 9 5 ⟨b, off, none⟩ c l Try.underlying24 Try.underlying5 Try.underlying9 (fun j hj => ?_)
    have hadd : (⟨b, off, none⟩ : Addr).add j = ⟨b, off + j, none⟩ := by unfold Addr.add; split <;> simp_all
    rw [hadd, hc j hj]
    simp [List.getD_eq_getElem?_getD, hj]
  · obtain rfl : l = [] := List.eq_nil_of_length_eq_zero (by omega)
    rw [List.length_nil, run_convert_bytes_string w 24 9 5 _ 0 c Try.underlying24 Try.underlying5 Try.underlying9]
    cases a <;> simp [Conv.bytesToString, loadCells]
    all_goals rfl

/-! ### Where a byte's doubling lies -/
theorem dbl_split (l : List UInt8) (j : Nat) (h : j < l.length) : dbl l = dbl (l.take j) ++ (dbl1 (l.getD j 0) ++ dbl (l.drop (j + 1))) := by
  have e : l = l.take (j + 1) ++ l.drop (j + 1) := (List.take_append_drop _ _).symm
  have e2 : dbl l = dbl (l.take (j + 1) ++ l.drop (j + 1)) := by rw [← e]
  rw [e2, dbl_append, List.take_succ_eq_append_getElem h, dbl_append, List.append_assoc]
  simp [dbl, List.getD_eq_getElem?_getD, h]
theorem dbl_at (l : List UInt8) (j : Nat) (h : j < l.length) (p : Nat) (hp : p < (dbl1 (l.getD j 0)).length) :
    (dbl l).getD ((dbl (l.take j)).length + p) 0 = (dbl1 (l.getD j 0)).getD p 0 := by
  rw [dbl_split l j h]
  have hnl : ¬ (dbl (l.take j)).length + p < (dbl (l.take j)).length := by omega
  simp only [List.getD_eq_getElem?_getD, List.getElem?_append, if_neg hnl, Nat.add_sub_cancel_left]
  rw [if_pos (by simpa [List.getD_eq_getElem?_getD] using hp)]
theorem dbl_room (l : List UInt8) (j : Nat) (h : j < l.length) : (dbl (l.take j)).length + (dbl1 (l.getD j 0)).length ≤ (dbl l).length := by
  rw [dbl_split l j h, List.length_append, List.length_append]
  omega
theorem dbl_next (l : List UInt8) (j : Nat) (h : j < l.length) : dbl (l.take (j + 1)) = dbl (l.take j) ++ dbl1 (l.getD j 0) := by
  rw [List.take_succ_eq_append_getElem h, dbl_append]
  simp [dbl, List.getD_eq_getElem?_getD, h]

/-- What an append to an owned slice leaves, outside the walk. -/
theorem own_after {base : Nat} {w wr w1 : World} {v v' : Value} {l r : List UInt8} {news : List Value} {o : Obj} (hb : Below base w wr) (hbase : base ≤ wr.heap.size)
    (hown : Owns wr base v l) (hown' : w1.ownsRow base 5 1 v' (l.length + r.length) (Lib.byteCells l ++ news)) (hn : news = Lib.byteCells r) (hg : (wr.alloc o).grownBy w1 v.ownBlock) :
    Owns w1 base v' (l ++ r) ∧ Below base w w1 := by
  subst hn
  refine ⟨by unfold Owns; rw [List.length_append, Lib.byteCells_append]; exact hown', ?_⟩
  exact (hb.alloc hbase o).grown hg (by simp; omega) (fun k hk => (hown.lt k hk).1)

set_option maxHeartbeats 4000000 in
set_option maxRecDepth 100000 in
theorem unquote_calls (a : Option Addr) (l q : List UInt8) (n cap : Nat) (w : World) (hq : q = [34] ++ dbl l ++ [34]) (hn : q.length = n) (hnc : n ≤ cap) (hcm : cap ≤ maxLen) (hB : BytesAt w a q) (hl : l.length ≤ 1048576) :
    Calls Try.prog 23 #[.slice a n cap] w fun e w' => e = .returned (.tuple #[.string ⟨l.toArray⟩, .bool true]) ∧ Below w.heap.size w w' := by
  obtain ⟨i0, hi, hz0, hz1, hz2⟩ := info_parts info5
  have hql : n = (dbl l).length + 2 := by rw [← hn, hq, List.length_append, List.length_append]; simp; omega
  have hdl := dbl_len l
  obtain ⟨b, off, rfl, hbl, hc⟩ := hB.at 0 (by omega)
  have hc0 := hc 0 (by omega)
  have hcl := hc (n - 1) (by omega)
  have hq0 : q.getD 0 0 = 34 := by rw [hq]; rfl
  have hq1 : q.getD (n - 1) 0 = 34 := by
    rw [hq, hql, List.getD_eq_getElem?_getD, List.getElem?_append_right (by simp)]
    simp
  rw [hq0] at hc0
  rw [hq1] at hcl
  have h34 : (((34 : UInt8).toNat : Nat) : Int) = 34 := rfl
  rw [h34] at hc0 hcl
  rw [Nat.add_zero] at hc0
  have hin : BytesAt w (some ⟨b, off + 1, none⟩) (dbl l) := by
    rw [hq, List.append_assoc] at hB
    have := (hB.slide (x := [34])).left
    have hadd : (⟨b, off, none⟩ : Addr).add 1 = ⟨b, off + 1, none⟩ := by unfold Addr.add; split <;> simp_all
    simpa [hadd] using this
  generalize hm : (dbl l).length = m at *
  have Hm : Hid ((dbl l).length = m) := hm
  have Hhc : Hid (∀ j, j < q.length → w.cell? ⟨b, off + j, none⟩ = some (.int .u8 (((q.getD j 0).toNat : Nat) : Int))) := hc
  clear hc hm hq1 hq0
  subst hql
  rw [show m + 2 - 1 = m + 1 by omega] at hcl
  unfold maxLen at hcm
  have t1 : ¬ ((m : Int) + 2 < 2) := by omega
  go_enter Try.func23, Try.ntmps23
  clear Hhc hB
  go_wp2_with (at_make; refine wpList_make_own _ rfl _ _ 24 rfl w.heap.size 5 i0 (.int .u8 0) 1 Try.underlying24 hi hz0 hz1 _ _ _ m rfl rfl rfl (by rw [hz2]; omega) (by unfold maxLen; omega) (Nat.le_refl _) ?_; intro w1 hown hgrow)
  have hb1 : Below w.heap.size w w1 := (Below.refl _ _).grown hgrow (Nat.le_refl _) (fun k hk => by simp at hk)
  clear hgrow
  go_loopg [5, 6] l.length (fun g s5 s6 wx => ∃ (j i : Nat) (LL : List UInt8), j + g = l.length ∧ s6 = .int .i64 (i : Nat) ∧ Hid (i = (dbl (l.take j)).length) ∧ Hid (LL = l.take j) ∧ Owns wx w.heap.size s5 LL ∧ Below w.heap.size w wx)
  case atStart => exact ⟨0, 0, [], by omega, rfl, rfl, rfl, hown, hb1⟩
  case round =>
    clear hown hb1
    obtain ⟨j, i, LL, hj, rfl, HI, HLL, hO, hb⟩ := hrel
    obtain ⟨av, cv, rfl, hcv, hmv, hBv, _⟩ := hO.form
    have hLl : LL.length ≤ 1048576 := by rw [HLL.out, List.length_take]; omega
    have hownr : wr.ownsRow w.heap.size 5 1 (.slice av LL.length cv) LL.length (Lib.byteCells LL) := hO
    have hsz := hb.size
    cases gk with
    | zero =>
      obtain rfl : i = m := by rw [HI.out, List.take_of_length_le (by omega), Hm.out]
      have HLe : Hid (LL = l) := by show _ = _; rw [HLL.out, List.take_of_length_le (by omega)]
      have hlt : ¬ ((i : Int) < (i : Int)) := by omega
      have hst := run_str (n := LL.length) (c := cv) hBv rfl
      go_wp2
      obtain rfl : LL = l := HLe.out
      go_ret2
      exact ⟨rfl, hb⟩
    | succ g =>
      have hjl : j < l.length := by omega
      have HG := dbl_at l j hjl
      have HL : Hid (∀ p, (dbl1 (l.getD j 0)).length = p → i + p = (dbl (l.take (j + 1))).length ∧ i + p ≤ m) := by
        intro p hp
        rw [HI.out, dbl_next l j hjl, List.length_append, hp]
        refine ⟨rfl, ?_⟩
        have := dbl_room l j hjl
        rw [hp, Hm.out] at this
        exact this
      have HGI : Hid (∀ p, p < (dbl1 (l.getD j 0)).length → (dbl l).getD (i + p) 0 = (dbl1 (l.getD j 0)).getD p 0) := by rw [HI.out]; exact HG
      have HLn : Hid (LL ++ [l.getD j 0] = l.take (j + 1)) := by
        show _ = _
        rw [HLL.out, List.take_succ_eq_append_getElem hjl]
        simp [List.getD_eq_getElem?_getD, hjl]
      clear HG HLL
      have hin' := hin.below hb
      generalize l.getD j 0 = o at *
      by_cases he : o.toNat = 34
      · have hone : dbl1 o = [34, o] := by simp [dbl1, he]
        have ho34 : o = 34 := UInt8.toNat_inj.1 he
        subst ho34
        have hL := HL.out 2 (by rw [hone]; rfl)
        have hg0 := HGI.out 0 (by rw [hone]; simp)
        have hg1 := HGI.out 1 (by rw [hone]; simp)
        rw [hone] at hg0 hg1
        obtain ⟨tb, toff, hx, _, hct⟩ := hin'.at i (by rw [Hm.out]; omega)
        simp only [Option.some.injEq, Addr.mk.injEq, and_true] at hx
        obtain ⟨rfl, rfl⟩ := hx
        have hc0' := hct i (by rw [Hm.out]; omega)
        have hc1' := hct (i + 1) (by rw [Hm.out]; omega)
        rw [Nat.add_zero] at hg0
        rw [hg0] at hc0'
        rw [hg1] at hc1'
        simp only [List.getD_cons_zero, List.getD_cons_succ, h34] at hc0' hc1'
        have hiN : (i : Int) < (m : Int) := by omega
        have hiN1 : (i : Int) + 1 < (m : Int) := by omega
        have hiN2 : ¬ ((m : Int) ≤ (i : Int) + 1) := by omega
        have HR : Hid (i + 2 = (dbl (l.take (j + 1))).length) := hL.1
        clear hg0 hg1 hL hct hone HL HGI he
        go_wp2_with (at_builtin; refine wpList_append_own _ rfl (.tmp 55) (.tmp 56) 24 rfl w.heap.size 5 i0 (.int .u8 0) 1 1 Try.underlying24 hi hz0 hz1 hz2 rfl (by decide) (.slice av LL.length cv) LL.length (Lib.byteCells LL) rfl (hownr.alloc _) ⟨wr.heap.size, 0, none⟩ 1 1 [.int .u8 34] rfl rfl (one_new _ _ _) (byteCells_one [34]) (by unfold maxLen; omega) (by omega) (by simp; omega) ?_; intro v' w2 hown' hgrow _)
        have R := own_after (r := [34]) hb hsz hO hown' rfl hgrow
        clear hown' hgrow
        go_wp2
        go_roundg g
        case measure => omega
        case rel => exact ⟨j + 1, i + 2, _, by omega, by go_num, HR, HLn, R.1, R.2⟩
      · have hone : dbl1 o = [o] := by simp [dbl1, he]
        have e34 : ((o.toNat : Int) == 34) = false := beq_eq_false_iff_ne.2 (by omega)
        have hL := HL.out 1 (by rw [hone]; rfl)
        have hg0 := HGI.out 0 (by rw [hone]; simp)
        rw [hone] at hg0
        obtain ⟨tb, toff, hx, _, hct⟩ := hin'.at i (by rw [Hm.out]; omega)
        simp only [Option.some.injEq, Addr.mk.injEq, and_true] at hx
        obtain ⟨rfl, rfl⟩ := hx
        have hc0' := hct i (by rw [Hm.out]; omega)
        rw [Nat.add_zero] at hg0
        rw [hg0] at hc0'
        simp only [List.getD_cons_zero] at hc0'
        have hiN : (i : Int) < (m : Int) := by omega
        have HR : Hid (i + 1 = (dbl (l.take (j + 1))).length) := hL.1
        clear hg0 hL hct hone HL HGI he
        go_wp2_with (at_builtin; refine wpList_append_own _ rfl (.tmp 60) (.tmp 65) 24 rfl w.heap.size 5 i0 (.int .u8 0) 1 1 Try.underlying24 hi hz0 hz1 hz2 rfl (by decide) (.slice av LL.length cv) LL.length (Lib.byteCells LL) rfl (hownr.alloc _) ⟨wr.heap.size, 0, none⟩ 1 1 [.int .u8 (o.toNat : Int)] rfl rfl (one_new _ _ _) (byteCells_one [o]) (by unfold maxLen; omega) (by omega) (by simp; omega) ?_; intro v' w2 hown' hgrow _)
        have R := own_after (r := [o]) hb hsz hO hown' rfl hgrow
        clear hown' hgrow
        go_wp2
        go_roundg g
        case measure => omega
        case rel => exact ⟨j + 1, i + 1, _, by omega, by go_num, HR, HLn, R.1, R.2⟩
end Go.Proofs.Qxb6603138a
