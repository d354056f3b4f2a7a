import Derived.Test.Qxb6603138aText
import Derived.Deep.RegionLaw
namespace Go.Proofs.Qxb6603138a
open Go.RowKit

/-- What the buffer holds behind one field more. (A plain definition: the walk leaves it standing.) -/
def wrote (l : List UInt8) (il : Bool) (f : List UInt8) : List UInt8 := l ++ sep il ++ field f

theorem lies_g {w : World} {v0 : Value} {g n c : Nat} (h : v0.ownBlock = some g ∨ g = w.heap.size + 1) : Lies w v0 (.slice (some ⟨g, 0, none⟩) n c) :=
  h.elim (fun e => .inl e.symm) (fun e => .inr ⟨g, rfl, by omega⟩)

set_option maxHeartbeats 4000000 in
set_option maxRecDepth 100000 in
theorem text_calls (D base : Nat) (v0 : Value) (l : List UInt8) (il : Bool) (s : ByteArray) (w : World) (h : CsvAt w D v0 il) (hown : Owns w base v0 l) (hbD : base ≤ D) (hbase : base ≤ w.heap.size) (hl : l.length ≤ 8388608) (hs : s.size ≤ 1048576) :
    Calls Try.prog 19 #[.pointer (some ⟨D, 0, none⟩), .string s] w fun x w' => x = .returned (.tuple #[]) ∧ ∃ v', Csv w v0 w' base D v' true (wrote l il (sb s)) := by
  obtain ⟨i0, hi, hz0, hz1, hz2⟩ := info_parts info5
  go_enter Try.func19, Try.ntmps19
  go_wp2_with fail
  refine (field_calls D base v0 l il w h hown hbD hbase (by omega)).mono ?_
  rintro x w1 ⟨rfl, v1, hC1, hLi⟩
  have HLi : Hid (Lies w v0 v1) := hLi
  clear hLi
  have hl1 : (l ++ sep il).length ≤ 8388609 := by rw [List.length_append]; cases il <;> simp [sep] <;> omega
  generalize hL : l ++ sep il = l1 at *
  have HL : Hid (l ++ sep il = l1) := hL
  clear hL
  clear h hown hl
  obtain ⟨a1, c1, rfl, hc1, hm1, _⟩ := hC1.owns.form
  obtain ⟨cc0, cc1⟩ := hC1.at_.cells
  have cf0 := hC1.at_.free 0
  have hown1 : w1.ownsRow base 5 1 (.slice a1 l1.length c1) l1.length (Lib.byteCells l1) := hC1.owns
  have hDl := hC1.at_.lt
  have hb1 := hC1.below.size
  go_wp2_with fail
  refine (needs_calls s w1 hs).mono ?_
  rintro e w' ⟨rfl, hw⟩
  have hw2 := hw.symm
  subst hw2
  cases hn : needs (sb s) with
  | false =>
    have HF : Hid (wrote l il (sb s) = l1 ++ sb s) := by show _ = _; rw [wrote, HL.out, field, hn]; rfl
    go_wp2_with (at_builtin; refine Lib.wpList_append_own_string _ rfl (.tmp 14) (.tmp 15) 24 9 rfl base 5 i0 Try.underlying24 Try.underlying9 hi hz0 hz1 hz2 _ _ _ rfl hown1 s rfl (by unfold maxLen; omega) (by omega) (by omega) ?_; intro v' w2 hown' hgrow _; obtain ⟨⟨a', n', c', hv'⟩, dc0, df0, HR⟩ := csv_after (r := sb s) hC1.at_ hC1.owns rfl (fun k hk => rfl) (Below.refl base w1) (by omega) hbD (by rw [sb_len]; exact hown') hgrow; subst hv'; clear hown' hgrow)
    exact bodyPost_ret (v := .tuple #[]) (results_none rfl _ _ _) rfl ⟨rfl, _, by rw [HF.out]; exact hC1.andThen HLi.out HR.out⟩
  | true =>
    have HF : Hid (wrote l il (sb s) = l1 ++ [34] ++ dbl (sb s) ++ [34]) := by show _ = _; rw [wrote, HL.out, field, hn]; simp
    go_wp2_with (at_builtin; refine wpList_append_own_at _ rfl (.tmp 23) (.tmp 24) 24 rfl base 5 i0 (.int .u8 0) 1 1 Try.underlying24 hi hz0 hz1 hz2 rfl (by decide) (.slice a1 l1.length c1) l1.length (Lib.byteCells l1) rfl (hown1.alloc _) ⟨w1.heap.size, 0, none⟩ 1 1 [.int .u8 34] rfl rfl (one_new _ _ _) (byteCells_one [34]) (by unfold maxLen; omega) (by omega) (by simp; omega) ?_; intro v' w2 hown' hgrow _ hat; have HLi2 : Hid (Lies w v0 v') := HLi.out.andThen hb1 (lies_at (by simp) hat); clear hat; obtain ⟨⟨a', n', c', hv'⟩, dc0, df0, HR⟩ := csv_after (r := [34]) hC1.at_ hC1.owns rfl (fun k hk => Below.heap_alloc _ _ _ hk) ((Below.refl base w1).alloc (by omega) _) (by simp; omega) hbD hown' hgrow; subst hv'; clear hown' hgrow)
    have hC3 := hC1.andThen HLi.out HR.out
    generalize w2.setCell ⟨D, 0, none⟩ (.slice a' n' c') = w3 at *
    clear HR dc0 df0 hown1 cc0 cc1 cf0 hm1 hc1
    go_loopg [4] s.size (fun g i wx => ∃ (k : Nat) (v : Value) (L : List UInt8), k + g = s.size ∧ i = .int .i64 k ∧ Hid (L = l1 ++ [34] ++ dbl ((sb s).take k)) ∧ Csv w v0 wx base D v true L ∧ Hid (Lies w v0 v))
    case atStart => exact ⟨0, _, _, by omega, rfl, by show _ = l1 ++ [34] ++ dbl ((sb s).take 0); simp [dbl], hC3, HLi2⟩
    case round =>
      clear hC3
      obtain ⟨k, v, L, hk, rfl, HLL, hC, HLi⟩ := hrel
      have hLl : L.length ≤ 16777216 := by
        have h1 := dbl_len ((sb s).take k)
        have h2 : ((sb s).take k).length ≤ s.size := by rw [List.length_take, sb_len]; omega
        rw [HLL.out, List.length_append, List.length_append]
        simp only [List.length_cons, List.length_nil]
        omega
      obtain ⟨a, c, rfl, hc, hm, _⟩ := hC.owns.form
      obtain ⟨cc0, cc1⟩ := hC.at_.cells
      have cf0 := hC.at_.free 0
      have hownr : wr.ownsRow base 5 1 (.slice a L.length c) L.length (Lib.byteCells L) := hC.owns
      have hDl := hC.at_.lt
      have hbr := hC.below.size
      cases gk with
      | zero =>
        obtain rfl : k = s.size := by omega
        have hlt : ¬ ((s.size : Int) < (s.size : Int)) := by omega
        go_wp2_with (at_builtin; refine wpList_append_own _ rfl (.tmp 63) (.tmp 64) 24 rfl base 5 i0 (.int .u8 0) 1 1 Try.underlying24 hi hz0 hz1 hz2 rfl (by decide) _ _ _ rfl (hownr.alloc _) ⟨wr.heap.size, 0, none⟩ 1 1 [.int .u8 34] rfl rfl (one_new _ _ _) (byteCells_one [34]) (by unfold maxLen; omega) (by omega) (by simp; omega) ?_; intro v' w2 hown' hgrow _; obtain ⟨⟨a', n', c', hv'⟩, dc0, df0, HR⟩ := csv_after (r := [34]) hC.at_ hC.owns rfl (fun k hk => Below.heap_alloc _ _ _ hk) ((Below.refl base wr).alloc (by omega) _) (by simp; omega) hbD hown' hgrow; subst hv'; clear hown' hgrow)
        have HE : Hid (L ++ [34] = l1 ++ [34] ++ dbl (sb s) ++ [34]) := by show _ = _; rw [HLL.out, sb_all]
        go_end0
        exact ⟨rfl, _, by rw [HF.out, ← HE.out]; exact hC.andThen HLi.out HR.out⟩
      | succ g =>
        have hlt : (k : Int) < (s.size : Int) := by omega
        have hks : k < s.size := by omega
        have h0k : (0 : Int) ≤ (k : Int) := by omega
        have HT := dbl_take s k hks
        have HN : Hid (∀ r, r = dbl1 s[k] → L ++ r = l1 ++ [34] ++ dbl ((sb s).take (k + 1))) := by
          intro r hr
          rw [HLL.out, HT, hr, List.append_assoc]
        clear HT
        go_upto_if 37 with fail
        go_cut [4] (fun s4 wx => ∃ (v : Value) (L' : List UInt8), s4 = .int .i64 k ∧ Csv w v0 wx base D v true L' ∧ Hid (Lies w v0 v) ∧ L'.length ≤ 16777217 ∧ Hid (L' ++ [s[k]] = l1 ++ [34] ++ dbl ((sb s).take (k + 1))))
        case first =>
          by_cases h34 : (s[k].toNat : Int) = 34
          · have e34 : ((s[k].toNat : Int) == 34) = true := beq_iff_eq.2 h34
            have hone : Hid (L ++ [34] ++ [s[k]] = l1 ++ [34] ++ dbl ((sb s).take (k + 1))) := by
              have := HN.out [34, s[k]] (by rw [dbl1, if_pos (by omega)])
              show _ = _
              rw [← this]; simp
            clear h34
            go_wp2_with (at_builtin; refine wpList_append_own_at _ rfl (.tmp 42) (.tmp 43) 24 rfl base 5 i0 (.int .u8 0) 1 1 Try.underlying24 hi hz0 hz1 hz2 rfl (by decide) (.slice a L.length c) L.length (Lib.byteCells L) rfl (hownr.alloc _) ⟨wr.heap.size, 0, none⟩ 1 1 [.int .u8 34] rfl rfl (one_new _ _ _) (byteCells_one [34]) (by unfold maxLen; omega) (by omega) (by simp; omega) ?_; intro v' w2 hown' hgrow _ hat; have HLi2 : Hid (Lies w v0 v') := HLi.out.andThen hbr (lies_at (by simp) hat); clear hat; obtain ⟨⟨a', n', c', hv'⟩, dc0, df0, HR⟩ := csv_after (r := [34]) hC.at_ hC.owns rfl (fun q hq => Below.heap_alloc _ _ _ hq) ((Below.refl base wr).alloc (by omega) _) (by simp; omega) hbD hown' hgrow; subst hv'; clear hown' hgrow)
            go_meet
            case rel => exact ⟨_, _, rfl, hC.andThen HLi.out HR.out, HLi2, by rw [List.length_append]; simp; omega, hone⟩
          · have e34 : ((s[k].toNat : Int) == 34) = false := beq_eq_false_iff_ne.2 h34
            have hone : Hid (L ++ [s[k]] = l1 ++ [34] ++ dbl ((sb s).take (k + 1))) := HN.out [s[k]] (by rw [dbl1, if_neg (by omega)])
            clear h34
            go_wp2
            go_meet
            case rel => exact ⟨_, _, rfl, hC, HLi, by omega, hone⟩
        case rest =>
          clear HN hC hownr cc0 cc1 cf0 hc hm hLl HLL hbr hDl HLi
          obtain ⟨v, L', rfl, hC, HLi, hLl, HN⟩ := hcut
          obtain ⟨a, c, rfl, hc, hm, _⟩ := hC.owns.form
          obtain ⟨cc0, cc1⟩ := hC.at_.cells
          have cf0 := hC.at_.free 0
          have hownr : wc.ownsRow base 5 1 (.slice a L'.length c) L'.length (Lib.byteCells L') := hC.owns
          have hDl := hC.at_.lt
          have hbr := hC.below.size
          go_wp2
          go_region_law ((refine step_append_lies _ (by rfl) _ _ _ (by rfl) base 5 i0 (.int .u8 0) 1 1 Try.underlying24 hi hz0 hz1 hz2 rfl (by decide) (.slice a L'.length c) L'.length (Lib.byteCells L') (by rfl) (hownr.alloc _).drew ⟨wc.heap.size, 0, none⟩ 1 1 [.int .u8 (s[k].toNat : Int)] (by rfl) rfl (one_new _ _ _) (byteCells_one [s[k]]) (by decide) (by unfold maxLen; omega) (by omega) (by simp; omega) (wc.heap.size + 1) (by simp) ?_; intro g2 cap2 w2 hown' hgrow hat hlt2; have HLi2 : Hid (Lies w v0 (.slice (some ⟨g2, 0, none⟩) (L'.length + 1) cap2)) := HLi.out.andThen hbr (lies_g hat); clear hat hlt2; obtain ⟨_, dc0, df0, HR⟩ := csv_after (r := [s[k]]) hC.at_ hC.owns rfl (fun q hq => Below.heap_alloc _ (Obj.cells #[Value.int IntKind.u8 (s[k].toNat : Int)] 5) _ hq) (((Below.refl base wc).alloc (by omega) (Obj.cells #[Value.int IntKind.u8 (s[k].toNat : Int)] 5)).drew) (by simp; omega) hbD hown' hgrow; clear hown' hgrow))
          all_goals
            go_wp2
            go_roundg g
            case measure => omega
            case rel => exact ⟨k + 1, _, _, by omega, by go_num, HN, hC.andThen HLi.out HR.out, HLi2⟩
end Go.Proofs.Qxb6603138a
